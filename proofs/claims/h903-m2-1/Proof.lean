import JvmDerived
import JvmDerived.Pilot.@@N@@Statement
import JvmDerived.Pilot.@@N@@Code
set_option linter.unusedVariables false
set_option linter.unusedSimpArgs false
namespace Jvm.Pilot.@@N@@
open Jvm Jvm.ClassFile Sem Op Lib Jvm.Free Jvm.Stand Jvm.LawKit Jvm.RoadKit Bundle Jvm.Pilot.@@N@@.Jvm.D
def own_Run (p : Program) (e : Env) (below : List Frame) (s : State) (Q : Option Value → Heap → List Loc → Prop) (ck sk : Nat) (U : State) : Prop :=
  ∃ s₂ o, Steps p.tables e below U s₂ ∧ s₂.status = .running ∧ Ended s₂ below o ∧ ∃ v L, o = .returned v ∧ Q v s₂.heap L ∧ FrameEnd s o s₂ L ck sk
section OwnLayer
variable {p : Program} {l : Launch} {e : Env} {R : Room} {s : State} {m : MethodId} {args : Array Value} {below : List Frame} {meth : Method} {c : Code} {T : State} {locs : List Loc} {cells slots : Nat} {Z : State} {a0 : Array Value} {h : Heap} {Q : Option Value → Heap → List Loc → Prop} {ck sk : Nat}
theorem own_st {U U' : State} (hh : ∀ t, Steps p.tables e below U' t → Steps p.tables e below U t) (K : own_Run p e below s Q ck sk U') : own_Run p e below s Q ck sk U := by
  obtain ⟨s2, o, h1, r⟩ := K
  exact ⟨s2, o, hh _ h1, r⟩
theorem own_topI {pc : Nat} {Ls : Array Slot} {st : List Value} {v v' : Int32} (hv : v = v') (K : own_Run p e below s Q ck sk (T.setTop (mkF m pc Ls (.int v' :: st)))) : own_Run p e below s Q ck sk (T.setTop (mkF m pc Ls (.int v :: st))) := hv ▸ K
theorem own_topJ {pc : Nat} {Ls : Array Slot} {st : List Value} {v v' : Int64} (hv : v = v') (K : own_Run p e below s Q ck sk (T.setTop (mkF m pc Ls (.long v' :: st)))) : own_Run p e below s Q ck sk (T.setTop (mkF m pc Ls (.long v :: st))) := hv ▸ K
theorem own_topD {pc : Nat} {Ls : Array Slot} {st : List Value} {v v' : UInt64} (hv : v = v') (K : own_Run p e below s Q ck sk (T.setTop (mkF m pc Ls (.double v' :: st)))) : own_Run p e below s Q ck sk (T.setTop (mkF m pc Ls (.double v :: st))) := hv ▸ K
theorem own_ret (X : Stand p l e R s m args below meth c T locs cells slots) (hx : p.tables.exec = Jvm.exec) (hlk : meth.locks = false) {pc : Nat} {Ls : Array Slot} {w : Value} {t : FieldType} {i : Instr} {rest : List Value} (hret : meth.sig.returnType = some t) (hn : narrow t w = w)
    (hi : (i = .ireturn ∧ (t = .int ∨ t = .boolean ∨ t = .byte ∨ t = .char ∨ t = .short) ∧ ∃ z, w = .int z) ∨ (i = .lreturn ∧ t = .long ∧ ∃ z, w = .long z) ∨ (i = .dreturn ∧ t = .double ∧ ∃ z, w = .double z) ∨ (i = .freturn ∧ t = .float ∧ ∃ z, w = .float z) ∨ (i = .areturn ∧ t.isReference = true ∧ w.isRef = true))
    (hd : decode c.code pc = .ok (i, 1)) (hc : cells ≤ ck) (hs : slots ≤ sk) (hq : Q (some w) T.heap locs) : own_Run p e below s Q ck sk (T.setTop (mkF m pc Ls (w :: rest))) := by
  obtain ⟨fs, hr, hrun, hended, hW, hsame⟩ := X.leave (v := some w) (fun q => by rw [hret] at q; cases q) hlk
  exact ⟨_, _, retOut X hx hret hn hi hd hr, hrun, hended, _, _, rfl, hq, ⟨_, rfl⟩, hW, hsame.mono hc hs⟩
theorem own_retV (X : Stand p l e R s m args below meth c T locs cells slots) (hx : p.tables.exec = Jvm.exec) (hlk : meth.locks = false) {pc : Nat} {Ls : Array Slot} (hret : meth.sig.returnType = none)
    (hd : decode c.code pc = .ok (.return_, 1)) (hc : cells ≤ ck) (hs : slots ≤ sk) (hq : Q none T.heap locs) : own_Run p e below s Q ck sk (T.setTop (mkF m pc Ls [])) := by
  obtain ⟨fs, hr, hrun, hended, hW, hsame⟩ := X.leave (v := none) (fun _ => rfl) hlk
  exact ⟨_, _, X.returnOut hx hret hd hr, hrun, hended, _, _, rfl, hq, ⟨_, rfl⟩, hW, hsame.mono hc hs⟩
theorem own_body {y : MethodName} {bytes : ByteArray} {maxL : Nat} {ret : Option FieldType} {ws : List Jvm.Cond} {rm : Room} {as' : Array Value} {h0 : Heap} (hpl : plainFor y = true)
    (hbody : ∀ (p : Program) (e : Env) (s : State) (m : MethodId) (below : List Frame) (meth : Method) (c : Code) (s₁ : State), p.tables.exec = Jvm.exec → c.code = bytes → c.maxLocals = maxL → Z.Warmed39 s.vm → s.vm.findClass y.cls = some m.cls → meth.name = y.name → meth.sig.returnType = ret → meth.locks = false → Stand p l e rm s m as' below meth c s₁ [] 0 0 → s₁.heap = h0 → own_Run p e below s Q rm.cells rm.slots (s₁.setTop (entryFrame m as' maxL))) :
    MetFree l y (head1 (Jvm.Cond.code y bytes maxL ret :: ws) rm) (fun a U => a = as' ∧ Z.Warmed39 U.vm ∧ U.heap = h0) (fun _ _ _ _ _ => True) (fun _ U o U' => ∃ v L, o = .returned v ∧ Q v U'.heap L ∧ FrameEnd U o U' L rm.cells rm.slots) := by
  refine MetFree.of_bodySF hpl hisR ?_
  intro p e s m args below meth c s₁ Bd hml0 hP hK
  obtain ⟨rfl, hZ, hh⟩ := hP
  exact hbody p e s m below meth c s₁ Bd.exec Bd.bytes hml0 hZ (findClass_of_methodNamed Bd.named) (name_of_methodNamed Bd.named Bd.method).1 Bd.returns Bd.notSynchronized (Stand.of_body Bd) (by rw [← hh, Bd.state]; rfl)
theorem own_callI (X : Stand p l e R s m args below meth c T locs cells slots) (hx : p.tables.exec = Jvm.exec) (hZ : Z.Warmed39 s.vm) {own : String} {idx : Nat} {y : MethodName} (hy1 : y.name = "<init>") (hown : s.vm.findClass own = some m.cls) (w1 : (Jvm.Cond.methodLink own idx y).before a0 Z = true) (w2 : (Jvm.Cond.instanceMethod y).before a0 Z = true)
    {bytes : ByteArray} {maxL : Nat} (w3 : (Jvm.Cond.code y bytes maxL none).before a0 Z = true) (wz : (Jvm.Cond.initialized y.cls).before a0 Z = true) (hy : y.cls ≠ "java/lang/invoke/MethodHandle" ∧ y.cls ≠ "java/lang/invoke/VarHandle") (eT : T.heap = h) {rm : Room} {Qc : Option Value → Heap → List Loc → Prop} {a : Addr} {argsL rest : List Value}
    (hM : MetFree l y (head1 [Jvm.Cond.code y bytes maxL none] rm) (fun b U => b = (Value.ref a :: argsL).toArray ∧ Z.Warmed39 U.vm ∧ U.heap = h) (fun _ _ _ _ _ => True) (fun _ U o U' => ∃ v L, o = .returned v ∧ Qc v U'.heap L ∧ FrameEnd U o U' L rm.cells rm.slots))
    {W : Nat} (hf : rm.frames + 1 ≤ R.frames) (hl : W + (maxL + 11) + rm.locals ≤ R.locals) {pc : Nat} {Ls : Array Slot} {st : List Value} (hsize : Ls.size = c.maxLocals) (hlen : ∀ sig, parseMethodDescriptor y.desc = some sig → argsL.length = sig.parameters.length) (hst : st = argsL.reverse ++ .ref a :: rest) (hW : (rest.map fun v => v.category).sum ≤ W) (hd : decode c.code pc = .ok (.invokespecial idx, 3)) (hc : cells + rm.cells ≤ R.cells) (hs : slots + rm.slots ≤ R.slots)
    (K : ∀ (T' : State) (v : Option Value) (L : List Loc), Stand p l e R s m args below meth c T' (locs ++ L) (cells + rm.cells) (slots + rm.slots) → Qc v T'.heap L → own_Run p e below s Q ck sk (T'.setTop (mkF m (pc + 3) Ls (v.toList ++ rest)))) :
    own_Run p e below s Q ck sk (T.setTop (mkF m pc Ls st)) := by
  obtain ⟨v, _, ⟨T', L', k', n'⟩, -, X', ⟨Lc, hQ, hl', hk', hn'⟩, st'⟩ := X.specialBack hx (y := y) hy1 hown (mvT hZ w1) (mvT hZ w2) (mvT hZ w3) hy (backOf (W := W) hM hZ w3 wz hf hl) (g := mkF m pc Ls st) rfl hsize (Steps.refl _) (a := a) (argsL := argsL) (rest := rest) hlen hst (by show 2 * 0 + _ ≤ _; omega) hd (fun _ _ => ⟨rfl, eT, hc, hs⟩)
  dsimp only [Pt.U, Pt.locs, Pt.cells, Pt.slots] at X' hl' hk' hn' st' hQ
  subst hl' hk' hn'
  exact own_st (fun t k => st'.trans k) (K T' v Lc X' hQ)
theorem own_callV (X : Stand p l e R s m args below meth c T locs cells slots) (hx : p.tables.exec = Jvm.exec) (hZ : Z.Warmed39 s.vm) {own C : String} {idx : Nat} {y : MethodName} (hown : s.vm.findClass own = some m.cls) (w1 : (Jvm.Cond.methodLink own idx y).before a0 Z = true) (w2 : (Jvm.Cond.declares y).before a0 Z = true) (w3 : (Jvm.Cond.selects C y y).before a0 Z = true) (w4 : (Jvm.Cond.instanceMethod y).before a0 Z = true)
    {bytes : ByteArray} {maxL : Nat} {ret : Option FieldType} (w5 : (Jvm.Cond.code y bytes maxL ret).before a0 Z = true) (wz : (Jvm.Cond.initialized y.cls).before a0 Z = true) (hy : y.cls ≠ "java/lang/invoke/MethodHandle" ∧ y.cls ≠ "java/lang/invoke/VarHandle") (eT : T.heap = h) {a : Addr} (E : Exa Z h a C) {rm : Room} {Qc : Option Value → Heap → List Loc → Prop} {argsL rest : List Value}
    (hM : MetFree l y (head1 [Jvm.Cond.code y bytes maxL ret] rm) (fun b U => b = (Value.ref a :: argsL).toArray ∧ Z.Warmed39 U.vm ∧ U.heap = h) (fun _ _ _ _ _ => True) (fun _ U o U' => ∃ v L, o = .returned v ∧ Qc v U'.heap L ∧ FrameEnd U o U' L rm.cells rm.slots))
    {W : Nat} (hf : rm.frames + 1 ≤ R.frames) (hl : W + (maxL + 11) + rm.locals ≤ R.locals) {pc : Nat} {Ls : Array Slot} {st : List Value} (hsize : Ls.size = c.maxLocals) (hlen : ∀ sig, parseMethodDescriptor y.desc = some sig → argsL.length = sig.parameters.length) (hst : st = argsL.reverse ++ .ref a :: rest) (hW : (rest.map fun v => v.category).sum ≤ W) (hd : decode c.code pc = .ok (.invokevirtual idx, 3)) (hc : cells + rm.cells ≤ R.cells) (hs : slots + rm.slots ≤ R.slots)
    (K : ∀ (T' : State) (v : Option Value) (L : List Loc), Stand p l e R s m args below meth c T' (locs ++ L) (cells + rm.cells) (slots + rm.slots) → Qc v T'.heap L → own_Run p e below s Q ck sk (T'.setTop (mkF m (pc + 3) Ls (v.toList ++ rest)))) :
    own_Run p e below s Q ck sk (T.setTop (mkF m pc Ls st)) := by
  obtain ⟨cq, kq, qa, qb, qc⟩ := isOf hZ eT E
  obtain ⟨v, _, ⟨T', L', k', n'⟩, -, X', ⟨Lc, hQ, hl', hk', hn'⟩, st'⟩ := X.virtualBack hx (y := y) (z := y) hown (mvT hZ w1) (mvT hZ w2) (notFace_of_selects (args := #[]) (mvT hZ w3)) (mvT hZ w3) (mvT hZ w4) hy (backOf (W := W) hM hZ w5 wz hf hl) qa qc (g := mkF m pc Ls st) rfl hsize (Steps.refl _) (argsL := argsL) (rest := rest) hlen hst (by show 2 * 0 + _ ≤ _; omega) hd (fun _ _ => ⟨rfl, eT, hc, hs⟩)
  dsimp only [Pt.U, Pt.locs, Pt.cells, Pt.slots] at X' hl' hk' hn' st' hQ
  subst hl' hk' hn'
  exact own_st (fun t k => st'.trans k) (K T' v Lc X' hQ)
theorem own_callS (X : Stand p l e R s m args below meth c T locs cells slots) (hx : p.tables.exec = Jvm.exec) (hZ : Z.Warmed39 s.vm) {own : String} {idx : Nat} {y : MethodName} (hown : s.vm.findClass own = some m.cls) (w1 : (Jvm.Cond.methodLink own idx y).before a0 Z = true) (w2 : (Jvm.Cond.static y).before a0 Z = true)
    {bytes : ByteArray} {maxL : Nat} {ret : Option FieldType} (w5 : (Jvm.Cond.code y bytes maxL ret).before a0 Z = true) (wz : (Jvm.Cond.initialized y.cls).before a0 Z = true) (hy : y.cls ≠ "java/lang/invoke/MethodHandle" ∧ y.cls ≠ "java/lang/invoke/VarHandle") (eT : T.heap = h) {rm : Room} {Qc : Option Value → Heap → List Loc → Prop} {argsL rest : List Value}
    (hM : MetFree l y (head1 [Jvm.Cond.code y bytes maxL ret] rm) (fun b U => b = argsL.toArray ∧ Z.Warmed39 U.vm ∧ U.heap = h) (fun _ _ _ _ _ => True) (fun _ U o U' => ∃ v L, o = .returned v ∧ Qc v U'.heap L ∧ FrameEnd U o U' L rm.cells rm.slots))
    {W : Nat} (hf : rm.frames + 1 ≤ R.frames) (hl : W + (maxL + 11) + rm.locals ≤ R.locals) {pc : Nat} {Ls : Array Slot} {st : List Value} (hsize : Ls.size = c.maxLocals) (hlen : ∀ sig, parseMethodDescriptor y.desc = some sig → argsL.length = sig.parameters.length) (hst : st = argsL.reverse ++ rest) (hW : (rest.map fun v => v.category).sum ≤ W) (hd : decode c.code pc = .ok (.invokestatic idx, 3)) (hc : cells + rm.cells ≤ R.cells) (hs : slots + rm.slots ≤ R.slots)
    (K : ∀ (T' : State) (v : Option Value) (L : List Loc), Stand p l e R s m args below meth c T' (locs ++ L) (cells + rm.cells) (slots + rm.slots) → Qc v T'.heap L → own_Run p e below s Q ck sk (T'.setTop (mkF m (pc + 3) Ls (v.toList ++ rest)))) :
    own_Run p e below s Q ck sk (T.setTop (mkF m pc Ls st)) := by
  obtain ⟨v, _, ⟨T', L', k', n'⟩, -, X', ⟨Lc, hQ, hl', hk', hn'⟩, st'⟩ := Jvm.LawKit.callS X hx (y := y) hown (mvT hZ w1) (mvT hZ w2) (mvT hZ wz) (mvT hZ w5) hy (backOf (W := W) hM hZ w5 wz hf hl) (g := mkF m pc Ls st) rfl hsize (argsL := argsL) (rest := rest) hlen hst (by show 2 * 0 + _ ≤ _; omega) hd (fun _ _ => ⟨rfl, eT, hc, hs⟩)
  dsimp only [Pt.U, Pt.locs, Pt.cells, Pt.slots] at X' hl' hk' hn' st' hQ
  subst hl' hk' hn'
  exact own_st st' (K T' v Lc X' hQ)
end OwnLayer
section OwnNums
open Jvm.FP Jvm.Free.Fl
theorem own_b53 (x : Int32) : B53 x.toInt64 := by
  have := x.le_toInt; have := x.toInt_lt
  unfold B53; rw [Int32.toInt_toInt64]; omega
theorem own_i64lt (x y : Int32) : x.toInt64 < y.toInt64 ↔ x < y := by
  rw [Int64.lt_iff_toInt_lt, Int32.lt_iff_toInt_lt, Int32.toInt_toInt64, Int32.toInt_toInt64]
theorem own_i64eq (x y : Int32) : x.toInt64 = y.toInt64 ↔ x = y := by
  rw [← Int64.toInt_inj, ← Int32.toInt_inj, Int32.toInt_toInt64, Int32.toInt_toInt64]
theorem own_dcmp_lt (x y : Int32) (o : CmpOp) : cmpValue (FP.dcmp (FP.i2d x) (FP.i2d y)) o < 0 ↔ x < y := by
  rw [i2d_w, i2d_w, dcmpV_w (own_b53 x) (own_b53 y), lw_lt, own_i64lt]
theorem own_dcmp_gt (x y : Int32) (o : CmpOp) : 0 < cmpValue (FP.dcmp (FP.i2d x) (FP.i2d y)) o ↔ y < x := by
  rw [i2d_w, i2d_w, dcmpV_w (own_b53 x) (own_b53 y), lw_gt, own_i64lt]
theorem own_dcmp_eq (x y : Int32) (o : CmpOp) : cmpValue (FP.dcmp (FP.i2d x) (FP.i2d y)) o = 0 ↔ x = y := by
  rw [i2d_w, i2d_w, dcmpV_w (own_b53 x) (own_b53 y), lw_eq, own_i64eq]
theorem own_sub_lt (x y : Int32) : lcmpW (x.toInt64 - y.toInt64) 0 < 0 ↔ x < y := by
  have h := sub64 (own_b53 x) (own_b53 y)
  rw [lw_lt, Int64.lt_iff_toInt_lt, Int32.lt_iff_toInt_lt, h, Int32.toInt_toInt64, Int32.toInt_toInt64]
  have : (0 : Int64).toInt = 0 := rfl
  omega
end OwnNums
section OwnWords
theorem own_eqint {args : Array Value} {first s : State} {o : Option Outcome} {idx : List Nat} {t : Term} {k : Int32} (h : (Jvm.Cond.eq t (.int k)).value args first o s idx = some true) : t.eval args first o idx s = some (.int k) := by
  simp only [Cond.value, Term.eval] at h
  cases ht : t.eval args first o idx s with
  | none => simp [ht] at h
  | some x => cases x <;> simp [ht] at h ⊢; exact h
end OwnWords
section OwnInts
theorem own_prod {a b : Int} {A B : Nat} (ha : a.natAbs ≤ A) (hb : b.natAbs ≤ B) : (a * b).natAbs ≤ A * B := by
  rw [Int.natAbs_mul]; exact Nat.mul_le_mul ha hb
theorem own_shr (x : Int32) : (x >>> ((11 : Int32) &&& 31)).toInt.natAbs ≤ 1048576 := by
  rw [c_ishr x 11 11 (by decide)]
  have := x.le_toInt; have := x.toInt_lt
  show (x.toInt / (2048 : Nat)).natAbs ≤ _
  omega
end OwnInts
theorem own_d2_0 : decode prog_18_method_2_code 0 = .ok (.aload_n 0, 1) := by decide +kernel
theorem own_d2_1 : decode prog_18_method_2_code 1 = .ok (.invokespecial 7, 3) := by decide +kernel
theorem own_d2_4 : decode prog_18_method_2_code 4 = .ok (.aload_n 0, 1) := by decide +kernel
theorem own_d2_5 : decode prog_18_method_2_code 5 = .ok (.aload_n 1, 1) := by decide +kernel
theorem own_d2_6 : decode prog_18_method_2_code 6 = .ok (.putfield 12, 3) := by decide +kernel
theorem own_d2_9 : decode prog_18_method_2_code 9 = .ok (.return_, 1) := by decide +kernel
set_option maxHeartbeats 4000000 in
theorem own_ef2N (m : MethodId) (x0 : Addr) : entryFrame m #[(.ref x0), .null] 2 = mkF m 0 #[.val (.ref x0), .val .null] [] := by first | (simp [entryFrame, mkF, argsToLocals, Value.category]; done) | rfl
theorem own_pn0 : plainName "com/example/kerb2d/kerb2d/engine/Tally" = true := by first | (simp [plainName, overriddenIn]; done) | decide +kernel
def own_Q2N (Z : State) (a0 : Array Value) (a0_ : Addr) (h0 : Heap) (n0 : Nat) (v : Option Value) (h : Heap) (L : List Loc) : Prop := v = none ∧ Fr n0 L ∧ Keep h0 h [a0_] ∧ Exa Z h a0_ "com/example/kerb2d/kerb2d/engine/Tally" ∧ Fld Z h a0_ "com/example/kerb2d/kerb2d/engine/Tally" "whole" "Lcom/example/kerb2d/kerb2d/engine/Tally;" .null ∧ Fld Z h a0_ "com/example/kerb2d/kerb2d/engine/Tally" "arrived" "I" (.int (0 : Int32)) ∧ Fld Z h a0_ "com/example/kerb2d/kerb2d/engine/Tally" "entered" "I" (.int (0 : Int32)) ∧ Fld Z h a0_ "com/example/kerb2d/kerb2d/engine/Tally" "left" "I" (.int (0 : Int32)) ∧ Fld Z h a0_ "com/example/kerb2d/kerb2d/engine/Tally" "delayed" "I" (.int (0 : Int32)) ∧ Fld Z h a0_ "com/example/kerb2d/kerb2d/engine/Tally" "conflictSum" "J" (.long (0 : Int64)) ∧ Fld Z h a0_ "com/example/kerb2d/kerb2d/engine/Tally" "finished" "I" (.int (0 : Int32)) ∧ Fld Z h a0_ "com/example/kerb2d/kerb2d/engine/Tally" "boarded" "I" (.int (0 : Int32))
set_option maxRecDepth 65536 in
set_option maxHeartbeats 40000000 in
theorem own_rm2N (l : Launch) (Z : State) (a0 : Array Value) (hw : ∀ d ∈ tables_1, d.before a0 Z = true) (ws : List Jvm.Cond) (a0_ : Addr) (h0 : Heap) (n0 : Nat) (Z0 : n0 ≤ h0.size) (E0 : Exa Z h0 a0_ "com/example/kerb2d/kerb2d/engine/Tally") (D0 : ∀ {O nm d : String} {ty : FieldType}, Laid Z a0 "com/example/kerb2d/kerb2d/engine/Tally" O nm d → parseFieldDescriptor d = some ty → Fld Z h0 a0_ O nm d (defaultValue ty)) (G0 : n0 ≤ a0_) :
    MetFree l (⟨"com/example/kerb2d/kerb2d/engine/Tally", "<init>", "(Lcom/example/kerb2d/kerb2d/engine/Tally;)V"⟩ : MethodName) (head1 (Jvm.Cond.code (⟨"com/example/kerb2d/kerb2d/engine/Tally", "<init>", "(Lcom/example/kerb2d/kerb2d/engine/Tally;)V"⟩ : MethodName) prog_18_method_2_code 2 none :: ws) ({ frames := 1, cells := 0, slots := 0, locals := 12 } : Room)) (fun a U => a = #[(.ref a0_), .null] ∧ Z.Warmed39 U.vm ∧ U.heap = h0) (fun _ _ _ _ _ => True) (fun _ U o U' => ∃ v L, o = .returned v ∧ own_Q2N Z a0 a0_ h0 n0 v U'.heap L ∧ FrameEnd U o U' L ({ frames := 1, cells := 0, slots := 0, locals := 12 } : Room).cells ({ frames := 1, cells := 0, slots := 0, locals := 12 } : Room).slots) := by
  refine own_body (Q := fun v h L => own_Q2N Z a0 a0_ h0 n0 v h L) (plainFor_of_name own_pn0) ?_
  intro p e s m below meth c s₁ hx hby hml hZ hown hnm hret hlk X0 e0
  replace hml : c.maxLocals = 2 := hml
  have N0 := Fr.nil n0
  have K0 : Keep h0 h0 [a0_] := Keep.refl _ _
  refine own_st (fun t k => castTop (own_ef2N m a0_) k) ?_
  show own_Run p e below s _ _ _ (s₁.setTop (mkF m 0 #[.val (.ref a0_), .val .null] []))
  refine own_st (fun t k => XS.aloadN X0.here hx rfl (hb hby own_d2_0) rfl rfl k) ?_
  show own_Run p e below s _ _ _ (s₁.setTop (mkF m 1 #[.val (.ref a0_), .val .null] [(.ref a0_)]))
  obtain ⟨T1, X1, e1, st1⟩ := initO X0 hx hZ hown (hw _ (List.mem_of_getElem? (i := 9) rfl)) (hw _ (List.mem_of_getElem? (i := 10) rfl)) (hw _ (List.mem_of_getElem? (i := 11) rfl)) e0 (g := (mkF m 1 #[.val (.ref a0_), .val .null] [(.ref a0_)])) rfl (by rw [hml]; rfl) rfl (hb hby own_d2_1) (by decide) (W := 0) (by show 2 * 0 + _ ≤ _; exact Nat.le_of_eq rfl) (by decide)
  refine own_st st1 ?_
  show own_Run p e below s _ _ _ (T1.setTop (mkF m 4 #[.val (.ref a0_), .val .null] []))
  refine own_st (fun t k => XS.aloadN X1.here hx rfl (hb hby own_d2_4) rfl rfl k) ?_
  show own_Run p e below s _ _ _ (T1.setTop (mkF m 5 #[.val (.ref a0_), .val .null] [(.ref a0_)]))
  refine own_st (fun t k => XS.aloadN X1.here hx rfl (hb hby own_d2_5) rfl rfl k) ?_
  show own_Run p e below s _ _ _ (T1.setTop (mkF m 6 #[.val (.ref a0_), .val .null] [.null, (.ref a0_)]))
  have F2 : Fld Z _ a0_ "com/example/kerb2d/kerb2d/engine/Tally" "whole" "Lcom/example/kerb2d/kerb2d/engine/Tally;" .null := D0 (Or.inr (hw _ (List.mem_of_getElem? (i := 13) rfl))) (ty := (.object "com/example/kerb2d/kerb2d/engine/Tally")) (by decide)
  obtain ⟨T3, h3, X3, e3, W3, st3⟩ := putF X1 hx hZ hown (host := "") (Or.inl (hw _ (List.mem_of_getElem? (i := 12) rfl))) Via.refl e1 F2 E0 (Or.inr ⟨(hw _ (List.mem_of_getElem? (i := 13) rfl)), rfl, hnm⟩) (hw _ (List.mem_of_getElem? (i := 1) rfl)) (ty := (.object "com/example/kerb2d/kerb2d/engine/Tally")) (by decide) rfl rfl (g := (mkF m 6 #[.val (.ref a0_), .val .null] [.null, (.ref a0_)])) rfl rfl (hb hby own_d2_6)
  refine own_st st3 ?_
  have Fw3 := F2.same W3
  have N3 := Fr.snoc X3 N0 G0
  have K4 : Keep h0 h3 [a0_] := K0.wr W3 (Or.inl (List.mem_of_getElem? (i := 0) rfl))
  show own_Run p e below s _ _ _ (T3.setTop (mkF m 9 #[.val (.ref a0_), .val .null] []))
  have hQe := e3
  subst hQe
  have E6 := (E0.wr W3)
  have F7 : Fld Z _ a0_ "com/example/kerb2d/kerb2d/engine/Tally" "arrived" "I" (.int (0 : Int32)) := D0 (Or.inl (hw _ (List.mem_of_getElem? (i := 24) rfl))) (ty := .int) (by decide)
  have F8 := (F7.other W3 (Or.inr (slot_ne (Or.inl (hw _ (List.mem_of_getElem? (i := 24) rfl))) (Or.inr (hw _ (List.mem_of_getElem? (i := 13) rfl))) (by decide) (t := .int) (t' := (.object "com/example/kerb2d/kerb2d/engine/Tally")) (by decide) (by decide))))
  have F9 : Fld Z _ a0_ "com/example/kerb2d/kerb2d/engine/Tally" "entered" "I" (.int (0 : Int32)) := D0 (Or.inl (hw _ (List.mem_of_getElem? (i := 26) rfl))) (ty := .int) (by decide)
  have F10 := (F9.other W3 (Or.inr (slot_ne (Or.inl (hw _ (List.mem_of_getElem? (i := 26) rfl))) (Or.inr (hw _ (List.mem_of_getElem? (i := 13) rfl))) (by decide) (t := .int) (t' := (.object "com/example/kerb2d/kerb2d/engine/Tally")) (by decide) (by decide))))
  have F11 : Fld Z _ a0_ "com/example/kerb2d/kerb2d/engine/Tally" "left" "I" (.int (0 : Int32)) := D0 (Or.inl (hw _ (List.mem_of_getElem? (i := 28) rfl))) (ty := .int) (by decide)
  have F12 := (F11.other W3 (Or.inr (slot_ne (Or.inl (hw _ (List.mem_of_getElem? (i := 28) rfl))) (Or.inr (hw _ (List.mem_of_getElem? (i := 13) rfl))) (by decide) (t := .int) (t' := (.object "com/example/kerb2d/kerb2d/engine/Tally")) (by decide) (by decide))))
  have F13 : Fld Z _ a0_ "com/example/kerb2d/kerb2d/engine/Tally" "delayed" "I" (.int (0 : Int32)) := D0 (Or.inl (hw _ (List.mem_of_getElem? (i := 30) rfl))) (ty := .int) (by decide)
  have F14 := (F13.other W3 (Or.inr (slot_ne (Or.inl (hw _ (List.mem_of_getElem? (i := 30) rfl))) (Or.inr (hw _ (List.mem_of_getElem? (i := 13) rfl))) (by decide) (t := .int) (t' := (.object "com/example/kerb2d/kerb2d/engine/Tally")) (by decide) (by decide))))
  have F15 : Fld Z _ a0_ "com/example/kerb2d/kerb2d/engine/Tally" "conflictSum" "J" (.long (0 : Int64)) := D0 (Or.inl (hw _ (List.mem_of_getElem? (i := 37) rfl))) (ty := .long) (by decide)
  have F16 := (F15.other W3 (Or.inr (slot_ne (Or.inl (hw _ (List.mem_of_getElem? (i := 37) rfl))) (Or.inr (hw _ (List.mem_of_getElem? (i := 13) rfl))) (by decide) (t := .long) (t' := (.object "com/example/kerb2d/kerb2d/engine/Tally")) (by decide) (by decide))))
  have F17 : Fld Z _ a0_ "com/example/kerb2d/kerb2d/engine/Tally" "finished" "I" (.int (0 : Int32)) := D0 (Or.inl (hw _ (List.mem_of_getElem? (i := 39) rfl))) (ty := .int) (by decide)
  have F18 := (F17.other W3 (Or.inr (slot_ne (Or.inl (hw _ (List.mem_of_getElem? (i := 39) rfl))) (Or.inr (hw _ (List.mem_of_getElem? (i := 13) rfl))) (by decide) (t := .int) (t' := (.object "com/example/kerb2d/kerb2d/engine/Tally")) (by decide) (by decide))))
  have F19 : Fld Z _ a0_ "com/example/kerb2d/kerb2d/engine/Tally" "boarded" "I" (.int (0 : Int32)) := D0 (Or.inl (hw _ (List.mem_of_getElem? (i := 41) rfl))) (ty := .int) (by decide)
  have F20 := (F19.other W3 (Or.inr (slot_ne (Or.inl (hw _ (List.mem_of_getElem? (i := 41) rfl))) (Or.inr (hw _ (List.mem_of_getElem? (i := 13) rfl))) (by decide) (t := .int) (t' := (.object "com/example/kerb2d/kerb2d/engine/Tally")) (by decide) (by decide))))
  exact own_retV X3 hx hlk hret (hb hby own_d2_9) (by decide) (by decide) ⟨rfl, N3, K4, E6, Fw3, F8, F10, F12, F14, F16, F18, F20⟩
set_option maxHeartbeats 4000000 in
theorem own_ef2R (m : MethodId) (x0 : Addr) (x1 : Addr) : entryFrame m #[(.ref x0), (.ref x1)] 2 = mkF m 0 #[.val (.ref x0), .val (.ref x1)] [] := by first | (simp [entryFrame, mkF, argsToLocals, Value.category]; done) | rfl
def own_Q2R (Z : State) (a0 : Array Value) (a0_ : Addr) (o1 : Addr) (h0 : Heap) (n0 : Nat) (v : Option Value) (h : Heap) (L : List Loc) : Prop := v = none ∧ Fr n0 L ∧ Keep h0 h [a0_] ∧ Exa Z h a0_ "com/example/kerb2d/kerb2d/engine/Tally" ∧ Fld Z h a0_ "com/example/kerb2d/kerb2d/engine/Tally" "whole" "Lcom/example/kerb2d/kerb2d/engine/Tally;" (.ref o1) ∧ Fld Z h a0_ "com/example/kerb2d/kerb2d/engine/Tally" "arrived" "I" (.int (0 : Int32)) ∧ Fld Z h a0_ "com/example/kerb2d/kerb2d/engine/Tally" "entered" "I" (.int (0 : Int32)) ∧ Fld Z h a0_ "com/example/kerb2d/kerb2d/engine/Tally" "left" "I" (.int (0 : Int32)) ∧ Fld Z h a0_ "com/example/kerb2d/kerb2d/engine/Tally" "delayed" "I" (.int (0 : Int32)) ∧ Fld Z h a0_ "com/example/kerb2d/kerb2d/engine/Tally" "conflictSum" "J" (.long (0 : Int64)) ∧ Fld Z h a0_ "com/example/kerb2d/kerb2d/engine/Tally" "finished" "I" (.int (0 : Int32)) ∧ Fld Z h a0_ "com/example/kerb2d/kerb2d/engine/Tally" "boarded" "I" (.int (0 : Int32))
set_option maxRecDepth 65536 in
set_option maxHeartbeats 40000000 in
theorem own_rm2R (l : Launch) (Z : State) (a0 : Array Value) (hw : ∀ d ∈ tables_1, d.before a0 Z = true) (ws : List Jvm.Cond) (a0_ : Addr) (o1 : Addr) (h0 : Heap) (n0 : Nat) (Z0 : n0 ≤ h0.size) (E0 : Exa Z h0 a0_ "com/example/kerb2d/kerb2d/engine/Tally") (D0 : ∀ {O nm d : String} {ty : FieldType}, Laid Z a0 "com/example/kerb2d/kerb2d/engine/Tally" O nm d → parseFieldDescriptor d = some ty → Fld Z h0 a0_ O nm d (defaultValue ty)) (G0 : n0 ≤ a0_) :
    MetFree l (⟨"com/example/kerb2d/kerb2d/engine/Tally", "<init>", "(Lcom/example/kerb2d/kerb2d/engine/Tally;)V"⟩ : MethodName) (head1 (Jvm.Cond.code (⟨"com/example/kerb2d/kerb2d/engine/Tally", "<init>", "(Lcom/example/kerb2d/kerb2d/engine/Tally;)V"⟩ : MethodName) prog_18_method_2_code 2 none :: ws) ({ frames := 1, cells := 0, slots := 0, locals := 12 } : Room)) (fun a U => a = #[(.ref a0_), (.ref o1)] ∧ Z.Warmed39 U.vm ∧ U.heap = h0) (fun _ _ _ _ _ => True) (fun _ U o U' => ∃ v L, o = .returned v ∧ own_Q2R Z a0 a0_ o1 h0 n0 v U'.heap L ∧ FrameEnd U o U' L ({ frames := 1, cells := 0, slots := 0, locals := 12 } : Room).cells ({ frames := 1, cells := 0, slots := 0, locals := 12 } : Room).slots) := by
  refine own_body (Q := fun v h L => own_Q2R Z a0 a0_ o1 h0 n0 v h L) (plainFor_of_name own_pn0) ?_
  intro p e s m below meth c s₁ hx hby hml hZ hown hnm hret hlk X0 e0
  replace hml : c.maxLocals = 2 := hml
  have N0 := Fr.nil n0
  have K0 : Keep h0 h0 [a0_] := Keep.refl _ _
  refine own_st (fun t k => castTop (own_ef2R m a0_ o1) k) ?_
  show own_Run p e below s _ _ _ (s₁.setTop (mkF m 0 #[.val (.ref a0_), .val (.ref o1)] []))
  refine own_st (fun t k => XS.aloadN X0.here hx rfl (hb hby own_d2_0) rfl rfl k) ?_
  show own_Run p e below s _ _ _ (s₁.setTop (mkF m 1 #[.val (.ref a0_), .val (.ref o1)] [(.ref a0_)]))
  obtain ⟨T21, X21, e21, st21⟩ := initO X0 hx hZ hown (hw _ (List.mem_of_getElem? (i := 9) rfl)) (hw _ (List.mem_of_getElem? (i := 10) rfl)) (hw _ (List.mem_of_getElem? (i := 11) rfl)) e0 (g := (mkF m 1 #[.val (.ref a0_), .val (.ref o1)] [(.ref a0_)])) rfl (by rw [hml]; rfl) rfl (hb hby own_d2_1) (by decide) (W := 0) (by show 2 * 0 + _ ≤ _; exact Nat.le_of_eq rfl) (by decide)
  refine own_st st21 ?_
  show own_Run p e below s _ _ _ (T21.setTop (mkF m 4 #[.val (.ref a0_), .val (.ref o1)] []))
  refine own_st (fun t k => XS.aloadN X21.here hx rfl (hb hby own_d2_4) rfl rfl k) ?_
  show own_Run p e below s _ _ _ (T21.setTop (mkF m 5 #[.val (.ref a0_), .val (.ref o1)] [(.ref a0_)]))
  refine own_st (fun t k => XS.aloadN X21.here hx rfl (hb hby own_d2_5) rfl rfl k) ?_
  show own_Run p e below s _ _ _ (T21.setTop (mkF m 6 #[.val (.ref a0_), .val (.ref o1)] [(.ref o1), (.ref a0_)]))
  have F22 : Fld Z _ a0_ "com/example/kerb2d/kerb2d/engine/Tally" "whole" "Lcom/example/kerb2d/kerb2d/engine/Tally;" .null := D0 (Or.inr (hw _ (List.mem_of_getElem? (i := 13) rfl))) (ty := (.object "com/example/kerb2d/kerb2d/engine/Tally")) (by decide)
  obtain ⟨T23, h23, X23, e23, W23, st23⟩ := putF X21 hx hZ hown (host := "") (Or.inl (hw _ (List.mem_of_getElem? (i := 12) rfl))) Via.refl e21 F22 E0 (Or.inr ⟨(hw _ (List.mem_of_getElem? (i := 13) rfl)), rfl, hnm⟩) (hw _ (List.mem_of_getElem? (i := 1) rfl)) (ty := (.object "com/example/kerb2d/kerb2d/engine/Tally")) (by decide) rfl rfl (g := (mkF m 6 #[.val (.ref a0_), .val (.ref o1)] [(.ref o1), (.ref a0_)])) rfl rfl (hb hby own_d2_6)
  refine own_st st23 ?_
  have Fw23 := F22.same W23
  have N23 := Fr.snoc X23 N0 G0
  have K24 : Keep h0 h23 [a0_] := K0.wr W23 (Or.inl (List.mem_of_getElem? (i := 0) rfl))
  show own_Run p e below s _ _ _ (T23.setTop (mkF m 9 #[.val (.ref a0_), .val (.ref o1)] []))
  have hQe := e23
  subst hQe
  have E26 := (E0.wr W23)
  have F27 : Fld Z _ a0_ "com/example/kerb2d/kerb2d/engine/Tally" "arrived" "I" (.int (0 : Int32)) := D0 (Or.inl (hw _ (List.mem_of_getElem? (i := 24) rfl))) (ty := .int) (by decide)
  have F28 := (F27.other W23 (Or.inr (slot_ne (Or.inl (hw _ (List.mem_of_getElem? (i := 24) rfl))) (Or.inr (hw _ (List.mem_of_getElem? (i := 13) rfl))) (by decide) (t := .int) (t' := (.object "com/example/kerb2d/kerb2d/engine/Tally")) (by decide) (by decide))))
  have F29 : Fld Z _ a0_ "com/example/kerb2d/kerb2d/engine/Tally" "entered" "I" (.int (0 : Int32)) := D0 (Or.inl (hw _ (List.mem_of_getElem? (i := 26) rfl))) (ty := .int) (by decide)
  have F30 := (F29.other W23 (Or.inr (slot_ne (Or.inl (hw _ (List.mem_of_getElem? (i := 26) rfl))) (Or.inr (hw _ (List.mem_of_getElem? (i := 13) rfl))) (by decide) (t := .int) (t' := (.object "com/example/kerb2d/kerb2d/engine/Tally")) (by decide) (by decide))))
  have F31 : Fld Z _ a0_ "com/example/kerb2d/kerb2d/engine/Tally" "left" "I" (.int (0 : Int32)) := D0 (Or.inl (hw _ (List.mem_of_getElem? (i := 28) rfl))) (ty := .int) (by decide)
  have F32 := (F31.other W23 (Or.inr (slot_ne (Or.inl (hw _ (List.mem_of_getElem? (i := 28) rfl))) (Or.inr (hw _ (List.mem_of_getElem? (i := 13) rfl))) (by decide) (t := .int) (t' := (.object "com/example/kerb2d/kerb2d/engine/Tally")) (by decide) (by decide))))
  have F33 : Fld Z _ a0_ "com/example/kerb2d/kerb2d/engine/Tally" "delayed" "I" (.int (0 : Int32)) := D0 (Or.inl (hw _ (List.mem_of_getElem? (i := 30) rfl))) (ty := .int) (by decide)
  have F34 := (F33.other W23 (Or.inr (slot_ne (Or.inl (hw _ (List.mem_of_getElem? (i := 30) rfl))) (Or.inr (hw _ (List.mem_of_getElem? (i := 13) rfl))) (by decide) (t := .int) (t' := (.object "com/example/kerb2d/kerb2d/engine/Tally")) (by decide) (by decide))))
  have F35 : Fld Z _ a0_ "com/example/kerb2d/kerb2d/engine/Tally" "conflictSum" "J" (.long (0 : Int64)) := D0 (Or.inl (hw _ (List.mem_of_getElem? (i := 37) rfl))) (ty := .long) (by decide)
  have F36 := (F35.other W23 (Or.inr (slot_ne (Or.inl (hw _ (List.mem_of_getElem? (i := 37) rfl))) (Or.inr (hw _ (List.mem_of_getElem? (i := 13) rfl))) (by decide) (t := .long) (t' := (.object "com/example/kerb2d/kerb2d/engine/Tally")) (by decide) (by decide))))
  have F37 : Fld Z _ a0_ "com/example/kerb2d/kerb2d/engine/Tally" "finished" "I" (.int (0 : Int32)) := D0 (Or.inl (hw _ (List.mem_of_getElem? (i := 39) rfl))) (ty := .int) (by decide)
  have F38 := (F37.other W23 (Or.inr (slot_ne (Or.inl (hw _ (List.mem_of_getElem? (i := 39) rfl))) (Or.inr (hw _ (List.mem_of_getElem? (i := 13) rfl))) (by decide) (t := .int) (t' := (.object "com/example/kerb2d/kerb2d/engine/Tally")) (by decide) (by decide))))
  have F39 : Fld Z _ a0_ "com/example/kerb2d/kerb2d/engine/Tally" "boarded" "I" (.int (0 : Int32)) := D0 (Or.inl (hw _ (List.mem_of_getElem? (i := 41) rfl))) (ty := .int) (by decide)
  have F40 := (F39.other W23 (Or.inr (slot_ne (Or.inl (hw _ (List.mem_of_getElem? (i := 41) rfl))) (Or.inr (hw _ (List.mem_of_getElem? (i := 13) rfl))) (by decide) (t := .int) (t' := (.object "com/example/kerb2d/kerb2d/engine/Tally")) (by decide) (by decide))))
  exact own_retV X23 hx hlk hret (hb hby own_d2_9) (by decide) (by decide) ⟨rfl, N23, K24, E26, Fw23, F28, F30, F32, F34, F36, F38, F40⟩
theorem own_d1_0 : decode prog_18_method_1_code 0 = .ok (.aload_n 0, 1) := by decide +kernel
theorem own_d1_1 : decode prog_18_method_1_code 1 = .ok (.aconst_null, 1) := by decide +kernel
theorem own_d1_2 : decode prog_18_method_1_code 2 = .ok (.invokespecial 1, 3) := by decide +kernel
theorem own_pd1 : parseMethodDescriptor "(Lcom/example/kerb2d/kerb2d/engine/Tally;)V" = some ⟨[(.object "com/example/kerb2d/kerb2d/engine/Tally")], none⟩ := by decide +kernel
theorem own_d1_5 : decode prog_18_method_1_code 5 = .ok (.return_, 1) := by decide +kernel
set_option maxHeartbeats 4000000 in
theorem own_ef1 (m : MethodId) (x0 : Addr) : entryFrame m #[(.ref x0)] 1 = mkF m 0 #[.val (.ref x0)] [] := by first | (simp [entryFrame, mkF, argsToLocals, Value.category]; done) | rfl
def own_Q1 (Z : State) (a0 : Array Value) (a0_ : Addr) (h0 : Heap) (n0 : Nat) (v : Option Value) (h : Heap) (L : List Loc) : Prop := v = none ∧ Fr n0 L ∧ Keep h0 h [a0_] ∧ Exa Z h a0_ "com/example/kerb2d/kerb2d/engine/Tally" ∧ Fld Z h a0_ "com/example/kerb2d/kerb2d/engine/Tally" "whole" "Lcom/example/kerb2d/kerb2d/engine/Tally;" .null ∧ Fld Z h a0_ "com/example/kerb2d/kerb2d/engine/Tally" "arrived" "I" (.int (0 : Int32)) ∧ Fld Z h a0_ "com/example/kerb2d/kerb2d/engine/Tally" "entered" "I" (.int (0 : Int32)) ∧ Fld Z h a0_ "com/example/kerb2d/kerb2d/engine/Tally" "left" "I" (.int (0 : Int32)) ∧ Fld Z h a0_ "com/example/kerb2d/kerb2d/engine/Tally" "delayed" "I" (.int (0 : Int32)) ∧ Fld Z h a0_ "com/example/kerb2d/kerb2d/engine/Tally" "conflictSum" "J" (.long (0 : Int64)) ∧ Fld Z h a0_ "com/example/kerb2d/kerb2d/engine/Tally" "finished" "I" (.int (0 : Int32)) ∧ Fld Z h a0_ "com/example/kerb2d/kerb2d/engine/Tally" "boarded" "I" (.int (0 : Int32))
set_option maxRecDepth 65536 in
set_option maxHeartbeats 40000000 in
theorem own_rm1 (l : Launch) (Z : State) (a0 : Array Value) (hw : ∀ d ∈ tables_1, d.before a0 Z = true) (ws : List Jvm.Cond) (a0_ : Addr) (h0 : Heap) (n0 : Nat) (Z0 : n0 ≤ h0.size) (E0 : Exa Z h0 a0_ "com/example/kerb2d/kerb2d/engine/Tally") (D0 : ∀ {O nm d : String} {ty : FieldType}, Laid Z a0 "com/example/kerb2d/kerb2d/engine/Tally" O nm d → parseFieldDescriptor d = some ty → Fld Z h0 a0_ O nm d (defaultValue ty)) (G0 : n0 ≤ a0_) :
    MetFree l (⟨"com/example/kerb2d/kerb2d/engine/Tally", "<init>", "()V"⟩ : MethodName) (head1 (Jvm.Cond.code (⟨"com/example/kerb2d/kerb2d/engine/Tally", "<init>", "()V"⟩ : MethodName) prog_18_method_1_code 1 none :: ws) ({ frames := 2, cells := 0, slots := 0, locals := 25 } : Room)) (fun a U => a = #[(.ref a0_)] ∧ Z.Warmed39 U.vm ∧ U.heap = h0) (fun _ _ _ _ _ => True) (fun _ U o U' => ∃ v L, o = .returned v ∧ own_Q1 Z a0 a0_ h0 n0 v U'.heap L ∧ FrameEnd U o U' L ({ frames := 2, cells := 0, slots := 0, locals := 25 } : Room).cells ({ frames := 2, cells := 0, slots := 0, locals := 25 } : Room).slots) := by
  refine own_body (Q := fun v h L => own_Q1 Z a0 a0_ h0 n0 v h L) (plainFor_of_name own_pn0) ?_
  intro p e s m below meth c s₁ hx hby hml hZ hown hnm hret hlk X0 e0
  replace hml : c.maxLocals = 1 := hml
  have N0 := Fr.nil n0
  have K0 : Keep h0 h0 [a0_] := Keep.refl _ _
  refine own_st (fun t k => castTop (own_ef1 m a0_) k) ?_
  show own_Run p e below s _ _ _ (s₁.setTop (mkF m 0 #[.val (.ref a0_)] []))
  refine own_st (fun t k => XS.aloadN X0.here hx rfl (hb hby own_d1_0) rfl rfl k) ?_
  show own_Run p e below s _ _ _ (s₁.setTop (mkF m 1 #[.val (.ref a0_)] [(.ref a0_)]))
  refine own_st (fun t k => XS.aconstNull X0.here hx rfl (hb hby own_d1_1) k) ?_
  show own_Run p e below s _ _ _ (s₁.setTop (mkF m 2 #[.val (.ref a0_)] [.null, (.ref a0_)]))
  refine own_callI X0 hx hZ (y := (⟨"com/example/kerb2d/kerb2d/engine/Tally", "<init>", "(Lcom/example/kerb2d/kerb2d/engine/Tally;)V"⟩ : MethodName)) rfl hown (hw _ (List.mem_of_getElem? (i := 6) rfl)) (hw _ (List.mem_of_getElem? (i := 7) rfl)) (hw _ (List.mem_of_getElem? (i := 8) rfl)) (hw _ (List.mem_of_getElem? (i := 2) rfl)) (by decide) e0 (a := a0_) (argsL := [.null]) (rest := []) (W := 0) (own_rm2N l Z a0 hw [] a0_ h0 n0 (Nat.le_trans Z0 K0.1) E0 D0 G0) (by decide) (by decide) (by rw [hml]; rfl) (lenOf own_pd1 rfl) rfl (by exact Nat.le_of_eq rfl) (hb hby own_d1_2) (by decide) (by decide) ?_
  intro T41 v41 L41 X41 hq41
  obtain ⟨rfl, N41q, K41q, Q42, Q43, Q44, Q45, Q46, Q47, Q48, Q49, Q50⟩ := hq41
  have K51 : Keep h0 T41.heap [a0_] := K0.trans K41q (allS (Or.inl (List.mem_of_getElem? (i := 0) rfl)) all0)
  have N41 := Fr.app N0 N41q
  show own_Run p e below s _ _ _ (T41.setTop (mkF m 5 #[.val (.ref a0_)] []))
  exact own_retV X41 hx hlk hret (hb hby own_d1_5) (by decide) (by decide) ⟨rfl, N41, K51, Q42, Q43, Q44, Q45, Q46, Q47, Q48, Q49, Q50⟩
theorem own_d10_0 : decode prog_18_method_4_code 0 = .ok (.aload_n 0, 1) := by decide +kernel
theorem own_d10_1 : decode prog_18_method_4_code 1 = .ok (.dup, 1) := by decide +kernel
theorem own_d10_2 : decode prog_18_method_4_code 2 = .ok (.getfield 23, 3) := by decide +kernel
theorem own_d10_5 : decode prog_18_method_4_code 5 = .ok (.iconst 1, 1) := by decide +kernel
theorem own_d10_6 : decode prog_18_method_4_code 6 = .ok (.iadd, 1) := by decide +kernel
theorem own_d10_7 : decode prog_18_method_4_code 7 = .ok (.putfield 23, 3) := by decide +kernel
theorem own_d10_10 : decode prog_18_method_4_code 10 = .ok (.aload_n 0, 1) := by decide +kernel
theorem own_d10_11 : decode prog_18_method_4_code 11 = .ok (.getfield 12, 3) := by decide +kernel
theorem own_d10_14 : decode prog_18_method_4_code 14 = .ok (.ifnull 10, 3) := by decide +kernel
theorem own_d10_24 : decode prog_18_method_4_code 24 = .ok (.return_, 1) := by decide +kernel
set_option maxHeartbeats 4000000 in
theorem own_ef10W (m : MethodId) (x0 : Addr) : entryFrame m #[(.ref x0)] 1 = mkF m 0 #[.val (.ref x0)] [] := by first | (simp [entryFrame, mkF, argsToLocals, Value.category]; done) | rfl
def own_Q10W (Z : State) (a0 : Array Value) (o0 : Addr) (ar : Int32) (en : Int32) (h0 : Heap) (n0 : Nat) (v : Option Value) (h : Heap) (L : List Loc) : Prop := v = none ∧ Fr n0 L ∧ Keep h0 h [o0] ∧ Exa Z h o0 "com/example/kerb2d/kerb2d/engine/Tally" ∧ Fld Z h o0 "com/example/kerb2d/kerb2d/engine/Tally" "whole" "Lcom/example/kerb2d/kerb2d/engine/Tally;" .null ∧ Fld Z h o0 "com/example/kerb2d/kerb2d/engine/Tally" "arrived" "I" (.int ar) ∧ Fld Z h o0 "com/example/kerb2d/kerb2d/engine/Tally" "entered" "I" (.int (en + (1 : Int32))) ∧ Fld Z h o0 "com/example/kerb2d/kerb2d/engine/Tally" "left" "I" (.int (0 : Int32)) ∧ Fld Z h o0 "com/example/kerb2d/kerb2d/engine/Tally" "delayed" "I" (.int (0 : Int32)) ∧ Fld Z h o0 "com/example/kerb2d/kerb2d/engine/Tally" "conflictSum" "J" (.long (0 : Int64)) ∧ Fld Z h o0 "com/example/kerb2d/kerb2d/engine/Tally" "finished" "I" (.int (0 : Int32)) ∧ Fld Z h o0 "com/example/kerb2d/kerb2d/engine/Tally" "boarded" "I" (.int (0 : Int32))
set_option maxRecDepth 65536 in
set_option maxHeartbeats 40000000 in
theorem own_rm10W (l : Launch) (Z : State) (a0 : Array Value) (hw : ∀ d ∈ tables_1, d.before a0 Z = true) (ws : List Jvm.Cond) (o0 : Addr) (ar : Int32) (en : Int32) (h0 : Heap) (n0 : Nat) (Z0 : n0 ≤ h0.size) (E0 : Exa Z h0 o0 "com/example/kerb2d/kerb2d/engine/Tally") (G0 : n0 ≤ o0) (pwh : Fld Z h0 o0 "com/example/kerb2d/kerb2d/engine/Tally" "whole" "Lcom/example/kerb2d/kerb2d/engine/Tally;" .null) (par : Fld Z h0 o0 "com/example/kerb2d/kerb2d/engine/Tally" "arrived" "I" (.int ar)) (pen : Fld Z h0 o0 "com/example/kerb2d/kerb2d/engine/Tally" "entered" "I" (.int en)) (ple : Fld Z h0 o0 "com/example/kerb2d/kerb2d/engine/Tally" "left" "I" (.int (0 : Int32))) (pde : Fld Z h0 o0 "com/example/kerb2d/kerb2d/engine/Tally" "delayed" "I" (.int (0 : Int32))) (pco : Fld Z h0 o0 "com/example/kerb2d/kerb2d/engine/Tally" "conflictSum" "J" (.long (0 : Int64))) (pfi : Fld Z h0 o0 "com/example/kerb2d/kerb2d/engine/Tally" "finished" "I" (.int (0 : Int32))) (pbo : Fld Z h0 o0 "com/example/kerb2d/kerb2d/engine/Tally" "boarded" "I" (.int (0 : Int32))) :
    MetFree l (⟨"com/example/kerb2d/kerb2d/engine/Tally", "enter", "()V"⟩ : MethodName) (head1 (Jvm.Cond.code (⟨"com/example/kerb2d/kerb2d/engine/Tally", "enter", "()V"⟩ : MethodName) prog_18_method_4_code 1 none :: ws) ({ frames := 0, cells := 0, slots := 0, locals := 0 } : Room)) (fun a U => a = #[(.ref o0)] ∧ Z.Warmed39 U.vm ∧ U.heap = h0) (fun _ _ _ _ _ => True) (fun _ U o U' => ∃ v L, o = .returned v ∧ own_Q10W Z a0 o0 ar en h0 n0 v U'.heap L ∧ FrameEnd U o U' L ({ frames := 0, cells := 0, slots := 0, locals := 0 } : Room).cells ({ frames := 0, cells := 0, slots := 0, locals := 0 } : Room).slots) := by
  refine own_body (Q := fun v h L => own_Q10W Z a0 o0 ar en h0 n0 v h L) (plainFor_of_name own_pn0) ?_
  intro p e s m below meth c s₁ hx hby hml hZ hown hnm hret hlk X0 e0
  replace hml : c.maxLocals = 1 := hml
  have N0 := Fr.nil n0
  have K0 : Keep h0 h0 [o0] := Keep.refl _ _
  refine own_st (fun t k => castTop (own_ef10W m o0) k) ?_
  show own_Run p e below s _ _ _ (s₁.setTop (mkF m 0 #[.val (.ref o0)] []))
  refine own_st (fun t k => XS.aloadN X0.here hx rfl (hb hby own_d10_0) rfl rfl k) ?_
  show own_Run p e below s _ _ _ (s₁.setTop (mkF m 1 #[.val (.ref o0)] [(.ref o0)]))
  refine own_st (fun t k => XS.dup X0.here hx rfl (hb hby own_d10_1) rfl rfl k) ?_
  show own_Run p e below s _ _ _ (s₁.setTop (mkF m 2 #[.val (.ref o0)] [(.ref o0), (.ref o0)]))
  obtain ⟨T53, X53, e53, st53⟩ := getF X0 hx hZ hown (host := "") (Or.inl (hw _ (List.mem_of_getElem? (i := 25) rfl))) Via.refl e0 pen (g := (mkF m 2 #[.val (.ref o0)] [(.ref o0), (.ref o0)])) rfl rfl (hb hby own_d10_2)
  refine own_st st53 ?_
  show own_Run p e below s _ _ _ (T53.setTop (mkF m 5 #[.val (.ref o0)] [(.int en), (.ref o0)]))
  refine own_st (fun t k => XS.iconst X53.here hx rfl (hb hby own_d10_5) k) ?_
  show own_Run p e below s _ _ _ (T53.setTop (mkF m 6 #[.val (.ref o0)] [(.int (1 : Int32)), (.int en), (.ref o0)]))
  refine own_st (fun t k => XS.iadd X53.here hx rfl (hb hby own_d10_6) rfl k) ?_
  show own_Run p e below s _ _ _ (T53.setTop (mkF m 7 #[.val (.ref o0)] [(.int (en + (1 : Int32))), (.ref o0)]))
  obtain ⟨T54, h54, X54, e54, W54, st54⟩ := putF X53 hx hZ hown (host := "") (Or.inl (hw _ (List.mem_of_getElem? (i := 25) rfl))) Via.refl e53 pen E0 (Or.inl (hw _ (List.mem_of_getElem? (i := 26) rfl))) (hw _ (List.mem_of_getElem? (i := 1) rfl)) (ty := .int) (by decide) rfl rfl (g := (mkF m 7 #[.val (.ref o0)] [(.int (en + (1 : Int32))), (.ref o0)])) rfl rfl (hb hby own_d10_7)
  refine own_st st54 ?_
  have Fw54 := pen.same W54
  have N54 := Fr.snoc X54 N0 G0
  have K55 : Keep h0 h54 [o0] := K0.wr W54 (Or.inl (List.mem_of_getElem? (i := 0) rfl))
  show own_Run p e below s _ _ _ (T54.setTop (mkF m 10 #[.val (.ref o0)] []))
  refine own_st (fun t k => XS.aloadN X54.here hx rfl (hb hby own_d10_10) rfl rfl k) ?_
  show own_Run p e below s _ _ _ (T54.setTop (mkF m 11 #[.val (.ref o0)] [(.ref o0)]))
  have F57 := (pwh.other W54 (Or.inr (slot_ne (Or.inr (hw _ (List.mem_of_getElem? (i := 13) rfl))) (Or.inl (hw _ (List.mem_of_getElem? (i := 26) rfl))) (by decide) (t := (.object "com/example/kerb2d/kerb2d/engine/Tally")) (t' := .int) (by decide) (by decide))))
  obtain ⟨T58, X58, e58, st58⟩ := getF X54 hx hZ hown (host := "") (Or.inl (hw _ (List.mem_of_getElem? (i := 12) rfl))) Via.refl e54 F57 (g := (mkF m 11 #[.val (.ref o0)] [(.ref o0)])) rfl rfl (hb hby own_d10_11)
  refine own_st st58 ?_
  show own_Run p e below s _ _ _ (T58.setTop (mkF m 14 #[.val (.ref o0)] [.null]))
  refine own_st (fun t k => XS.ifnullYes X58.here hx rfl (pc0 := 14) (pc' := 24) rfl (hb hby own_d10_14) rfl (by decide) (by decide) k) ?_
  show own_Run p e below s _ _ _ (T58.setTop (mkF m 24 #[.val (.ref o0)] []))
  have hQe := e58
  subst hQe
  have E59 := (E0.wr W54)
  have F60 := (par.other W54 (Or.inr (slot_ne (Or.inl (hw _ (List.mem_of_getElem? (i := 24) rfl))) (Or.inl (hw _ (List.mem_of_getElem? (i := 26) rfl))) (by decide) (t := .int) (t' := .int) (by decide) (by decide))))
  have F61 := (ple.other W54 (Or.inr (slot_ne (Or.inl (hw _ (List.mem_of_getElem? (i := 28) rfl))) (Or.inl (hw _ (List.mem_of_getElem? (i := 26) rfl))) (by decide) (t := .int) (t' := .int) (by decide) (by decide))))
  have F62 := (pde.other W54 (Or.inr (slot_ne (Or.inl (hw _ (List.mem_of_getElem? (i := 30) rfl))) (Or.inl (hw _ (List.mem_of_getElem? (i := 26) rfl))) (by decide) (t := .int) (t' := .int) (by decide) (by decide))))
  have F63 := (pco.other W54 (Or.inr (slot_ne (Or.inl (hw _ (List.mem_of_getElem? (i := 37) rfl))) (Or.inl (hw _ (List.mem_of_getElem? (i := 26) rfl))) (by decide) (t := .long) (t' := .int) (by decide) (by decide))))
  have F64 := (pfi.other W54 (Or.inr (slot_ne (Or.inl (hw _ (List.mem_of_getElem? (i := 39) rfl))) (Or.inl (hw _ (List.mem_of_getElem? (i := 26) rfl))) (by decide) (t := .int) (t' := .int) (by decide) (by decide))))
  have F65 := (pbo.other W54 (Or.inr (slot_ne (Or.inl (hw _ (List.mem_of_getElem? (i := 41) rfl))) (Or.inl (hw _ (List.mem_of_getElem? (i := 26) rfl))) (by decide) (t := .int) (t' := .int) (by decide) (by decide))))
  exact own_retV X58 hx hlk hret (hb hby own_d10_24) (by decide) (by decide) ⟨rfl, N54, K55, E59, F57, F60, Fw54, F61, F62, F63, F64, F65⟩
theorem own_d10_17 : decode prog_18_method_4_code 17 = .ok (.aload_n 0, 1) := by decide +kernel
theorem own_d10_18 : decode prog_18_method_4_code 18 = .ok (.getfield 12, 3) := by decide +kernel
theorem own_d10_21 : decode prog_18_method_4_code 21 = .ok (.invokevirtual 26, 3) := by decide +kernel
theorem own_pd2 : parseMethodDescriptor "()V" = some ⟨[], none⟩ := by decide +kernel
set_option maxHeartbeats 4000000 in
theorem own_ef10P (m : MethodId) (x0 : Addr) : entryFrame m #[(.ref x0)] 1 = mkF m 0 #[.val (.ref x0)] [] := by first | (simp [entryFrame, mkF, argsToLocals, Value.category]; done) | rfl
def own_Q10P (Z : State) (a0 : Array Value) (o0 : Addr) (w : Addr) (ar : Int32) (en : Int32) (ar1 : Int32) (en1 : Int32) (h0 : Heap) (n0 : Nat) (v : Option Value) (h : Heap) (L : List Loc) : Prop := v = none ∧ Fr n0 L ∧ Keep h0 h [o0, w] ∧ Exa Z h o0 "com/example/kerb2d/kerb2d/engine/Tally" ∧ Fld Z h o0 "com/example/kerb2d/kerb2d/engine/Tally" "whole" "Lcom/example/kerb2d/kerb2d/engine/Tally;" (.ref w) ∧ Fld Z h o0 "com/example/kerb2d/kerb2d/engine/Tally" "arrived" "I" (.int ar) ∧ Fld Z h o0 "com/example/kerb2d/kerb2d/engine/Tally" "entered" "I" (.int (en + (1 : Int32))) ∧ Fld Z h o0 "com/example/kerb2d/kerb2d/engine/Tally" "left" "I" (.int (0 : Int32)) ∧ Fld Z h o0 "com/example/kerb2d/kerb2d/engine/Tally" "delayed" "I" (.int (0 : Int32)) ∧ Fld Z h o0 "com/example/kerb2d/kerb2d/engine/Tally" "conflictSum" "J" (.long (0 : Int64)) ∧ Fld Z h o0 "com/example/kerb2d/kerb2d/engine/Tally" "finished" "I" (.int (0 : Int32)) ∧ Fld Z h o0 "com/example/kerb2d/kerb2d/engine/Tally" "boarded" "I" (.int (0 : Int32)) ∧ Exa Z h w "com/example/kerb2d/kerb2d/engine/Tally" ∧ Fld Z h w "com/example/kerb2d/kerb2d/engine/Tally" "whole" "Lcom/example/kerb2d/kerb2d/engine/Tally;" .null ∧ Fld Z h w "com/example/kerb2d/kerb2d/engine/Tally" "arrived" "I" (.int ar1) ∧ Fld Z h w "com/example/kerb2d/kerb2d/engine/Tally" "entered" "I" (.int (en1 + (1 : Int32))) ∧ Fld Z h w "com/example/kerb2d/kerb2d/engine/Tally" "left" "I" (.int (0 : Int32)) ∧ Fld Z h w "com/example/kerb2d/kerb2d/engine/Tally" "delayed" "I" (.int (0 : Int32)) ∧ Fld Z h w "com/example/kerb2d/kerb2d/engine/Tally" "conflictSum" "J" (.long (0 : Int64)) ∧ Fld Z h w "com/example/kerb2d/kerb2d/engine/Tally" "finished" "I" (.int (0 : Int32)) ∧ Fld Z h w "com/example/kerb2d/kerb2d/engine/Tally" "boarded" "I" (.int (0 : Int32))
set_option maxRecDepth 65536 in
set_option maxHeartbeats 40000000 in
theorem own_rm10P (l : Launch) (Z : State) (a0 : Array Value) (hw : ∀ d ∈ tables_1, d.before a0 Z = true) (ws : List Jvm.Cond) (o0 : Addr) (w : Addr) (ar : Int32) (en : Int32) (ar1 : Int32) (en1 : Int32) (h0 : Heap) (n0 : Nat) (Z0 : n0 ≤ h0.size) (E0 : Exa Z h0 o0 "com/example/kerb2d/kerb2d/engine/Tally") (G0 : n0 ≤ o0) (pwh : Fld Z h0 o0 "com/example/kerb2d/kerb2d/engine/Tally" "whole" "Lcom/example/kerb2d/kerb2d/engine/Tally;" (.ref w)) (par : Fld Z h0 o0 "com/example/kerb2d/kerb2d/engine/Tally" "arrived" "I" (.int ar)) (pen : Fld Z h0 o0 "com/example/kerb2d/kerb2d/engine/Tally" "entered" "I" (.int en)) (ple : Fld Z h0 o0 "com/example/kerb2d/kerb2d/engine/Tally" "left" "I" (.int (0 : Int32))) (pde : Fld Z h0 o0 "com/example/kerb2d/kerb2d/engine/Tally" "delayed" "I" (.int (0 : Int32))) (pco : Fld Z h0 o0 "com/example/kerb2d/kerb2d/engine/Tally" "conflictSum" "J" (.long (0 : Int64))) (pfi : Fld Z h0 o0 "com/example/kerb2d/kerb2d/engine/Tally" "finished" "I" (.int (0 : Int32))) (pbo : Fld Z h0 o0 "com/example/kerb2d/kerb2d/engine/Tally" "boarded" "I" (.int (0 : Int32))) (E9 : Exa Z h0 w "com/example/kerb2d/kerb2d/engine/Tally") (G9 : n0 ≤ w) (qwh : Fld Z h0 w "com/example/kerb2d/kerb2d/engine/Tally" "whole" "Lcom/example/kerb2d/kerb2d/engine/Tally;" .null) (qar : Fld Z h0 w "com/example/kerb2d/kerb2d/engine/Tally" "arrived" "I" (.int ar1)) (qen : Fld Z h0 w "com/example/kerb2d/kerb2d/engine/Tally" "entered" "I" (.int en1)) (qle : Fld Z h0 w "com/example/kerb2d/kerb2d/engine/Tally" "left" "I" (.int (0 : Int32))) (qde : Fld Z h0 w "com/example/kerb2d/kerb2d/engine/Tally" "delayed" "I" (.int (0 : Int32))) (qco : Fld Z h0 w "com/example/kerb2d/kerb2d/engine/Tally" "conflictSum" "J" (.long (0 : Int64))) (qfi : Fld Z h0 w "com/example/kerb2d/kerb2d/engine/Tally" "finished" "I" (.int (0 : Int32))) (qbo : Fld Z h0 w "com/example/kerb2d/kerb2d/engine/Tally" "boarded" "I" (.int (0 : Int32))) (ne1 : o0 ≠ w) :
    MetFree l (⟨"com/example/kerb2d/kerb2d/engine/Tally", "enter", "()V"⟩ : MethodName) (head1 (Jvm.Cond.code (⟨"com/example/kerb2d/kerb2d/engine/Tally", "enter", "()V"⟩ : MethodName) prog_18_method_4_code 1 none :: ws) ({ frames := 1, cells := 0, slots := 0, locals := 12 } : Room)) (fun a U => a = #[(.ref o0)] ∧ Z.Warmed39 U.vm ∧ U.heap = h0) (fun _ _ _ _ _ => True) (fun _ U o U' => ∃ v L, o = .returned v ∧ own_Q10P Z a0 o0 w ar en ar1 en1 h0 n0 v U'.heap L ∧ FrameEnd U o U' L ({ frames := 1, cells := 0, slots := 0, locals := 12 } : Room).cells ({ frames := 1, cells := 0, slots := 0, locals := 12 } : Room).slots) := by
  refine own_body (Q := fun v h L => own_Q10P Z a0 o0 w ar en ar1 en1 h0 n0 v h L) (plainFor_of_name own_pn0) ?_
  intro p e s m below meth c s₁ hx hby hml hZ hown hnm hret hlk X0 e0
  replace hml : c.maxLocals = 1 := hml
  have N0 := Fr.nil n0
  have K0 : Keep h0 h0 [o0, w] := Keep.refl _ _
  refine own_st (fun t k => castTop (own_ef10P m o0) k) ?_
  show own_Run p e below s _ _ _ (s₁.setTop (mkF m 0 #[.val (.ref o0)] []))
  refine own_st (fun t k => XS.aloadN X0.here hx rfl (hb hby own_d10_0) rfl rfl k) ?_
  show own_Run p e below s _ _ _ (s₁.setTop (mkF m 1 #[.val (.ref o0)] [(.ref o0)]))
  refine own_st (fun t k => XS.dup X0.here hx rfl (hb hby own_d10_1) rfl rfl k) ?_
  show own_Run p e below s _ _ _ (s₁.setTop (mkF m 2 #[.val (.ref o0)] [(.ref o0), (.ref o0)]))
  obtain ⟨T66, X66, e66, st66⟩ := getF X0 hx hZ hown (host := "") (Or.inl (hw _ (List.mem_of_getElem? (i := 25) rfl))) Via.refl e0 pen (g := (mkF m 2 #[.val (.ref o0)] [(.ref o0), (.ref o0)])) rfl rfl (hb hby own_d10_2)
  refine own_st st66 ?_
  show own_Run p e below s _ _ _ (T66.setTop (mkF m 5 #[.val (.ref o0)] [(.int en), (.ref o0)]))
  refine own_st (fun t k => XS.iconst X66.here hx rfl (hb hby own_d10_5) k) ?_
  show own_Run p e below s _ _ _ (T66.setTop (mkF m 6 #[.val (.ref o0)] [(.int (1 : Int32)), (.int en), (.ref o0)]))
  refine own_st (fun t k => XS.iadd X66.here hx rfl (hb hby own_d10_6) rfl k) ?_
  show own_Run p e below s _ _ _ (T66.setTop (mkF m 7 #[.val (.ref o0)] [(.int (en + (1 : Int32))), (.ref o0)]))
  obtain ⟨T67, h67, X67, e67, W67, st67⟩ := putF X66 hx hZ hown (host := "") (Or.inl (hw _ (List.mem_of_getElem? (i := 25) rfl))) Via.refl e66 pen E0 (Or.inl (hw _ (List.mem_of_getElem? (i := 26) rfl))) (hw _ (List.mem_of_getElem? (i := 1) rfl)) (ty := .int) (by decide) rfl rfl (g := (mkF m 7 #[.val (.ref o0)] [(.int (en + (1 : Int32))), (.ref o0)])) rfl rfl (hb hby own_d10_7)
  refine own_st st67 ?_
  have Fw67 := pen.same W67
  have N67 := Fr.snoc X67 N0 G0
  have K68 : Keep h0 h67 [o0, w] := K0.wr W67 (Or.inl (List.mem_of_getElem? (i := 0) rfl))
  show own_Run p e below s _ _ _ (T67.setTop (mkF m 10 #[.val (.ref o0)] []))
  refine own_st (fun t k => XS.aloadN X67.here hx rfl (hb hby own_d10_10) rfl rfl k) ?_
  show own_Run p e below s _ _ _ (T67.setTop (mkF m 11 #[.val (.ref o0)] [(.ref o0)]))
  have F70 := (pwh.other W67 (Or.inr (slot_ne (Or.inr (hw _ (List.mem_of_getElem? (i := 13) rfl))) (Or.inl (hw _ (List.mem_of_getElem? (i := 26) rfl))) (by decide) (t := (.object "com/example/kerb2d/kerb2d/engine/Tally")) (t' := .int) (by decide) (by decide))))
  obtain ⟨T71, X71, e71, st71⟩ := getF X67 hx hZ hown (host := "") (Or.inl (hw _ (List.mem_of_getElem? (i := 12) rfl))) Via.refl e67 F70 (g := (mkF m 11 #[.val (.ref o0)] [(.ref o0)])) rfl rfl (hb hby own_d10_11)
  refine own_st st71 ?_
  show own_Run p e below s _ _ _ (T71.setTop (mkF m 14 #[.val (.ref o0)] [(.ref w)]))
  refine own_st (fun t k => XS.ifnullNo X71.here hx rfl (hb hby own_d10_14) rfl k) ?_
  show own_Run p e below s _ _ _ (T71.setTop (mkF m 17 #[.val (.ref o0)] []))
  refine own_st (fun t k => XS.aloadN X71.here hx rfl (hb hby own_d10_17) rfl rfl k) ?_
  show own_Run p e below s _ _ _ (T71.setTop (mkF m 18 #[.val (.ref o0)] [(.ref o0)]))
  obtain ⟨T72, X72, e72, st72⟩ := getF X71 hx hZ hown (host := "") (Or.inl (hw _ (List.mem_of_getElem? (i := 12) rfl))) Via.refl e71 F70 (g := (mkF m 18 #[.val (.ref o0)] [(.ref o0)])) rfl rfl (hb hby own_d10_18)
  refine own_st st72 ?_
  show own_Run p e below s _ _ _ (T72.setTop (mkF m 21 #[.val (.ref o0)] [(.ref w)]))
  have E73 := (E9.wr W67)
  have F74 := (qwh.other W67 (Or.inl (Ne.symm ne1)))
  have F75 := (qar.other W67 (Or.inl (Ne.symm ne1)))
  have F76 := (qen.other W67 (Or.inl (Ne.symm ne1)))
  have F77 := (qle.other W67 (Or.inl (Ne.symm ne1)))
  have F78 := (qde.other W67 (Or.inl (Ne.symm ne1)))
  have F79 := (qco.other W67 (Or.inl (Ne.symm ne1)))
  have F80 := (qfi.other W67 (Or.inl (Ne.symm ne1)))
  have F81 := (qbo.other W67 (Or.inl (Ne.symm ne1)))
  refine own_callV X72 hx hZ (y := (⟨"com/example/kerb2d/kerb2d/engine/Tally", "enter", "()V"⟩ : MethodName)) (C := "com/example/kerb2d/kerb2d/engine/Tally") hown (hw _ (List.mem_of_getElem? (i := 100) rfl)) (hw _ (List.mem_of_getElem? (i := 88) rfl)) (hw _ (List.mem_of_getElem? (i := 90) rfl)) (hw _ (List.mem_of_getElem? (i := 89) rfl)) (hw _ (List.mem_of_getElem? (i := 91) rfl)) (hw _ (List.mem_of_getElem? (i := 2) rfl)) (by decide) e72 (a := w) E73 (argsL := []) (rest := []) (W := 0) (own_rm10W l Z a0 hw [] w ar1 en1 h67 n0 (Nat.le_trans Z0 K68.1) E73 G9 F74 F75 F76 F77 F78 F79 F80 F81) (by decide) (by decide) (by rw [hml]; rfl) (lenOf own_pd2 rfl) rfl (by exact Nat.le_of_eq rfl) (hb hby own_d10_21) (by decide) (by decide) ?_
  intro T82 v82 L82 X82 hq82
  obtain ⟨rfl, N82q, K82q, Q83, Q84, Q85, Q86, Q87, Q88, Q89, Q90, Q91⟩ := hq82
  have K92 : Keep h0 T82.heap [o0, w] := K68.trans K82q (allS (Or.inl (List.mem_of_getElem? (i := 1) rfl)) all0)
  have N82 := Fr.app N67 N82q
  show own_Run p e below s _ _ _ (T82.setTop (mkF m 24 #[.val (.ref o0)] []))
  have E94 := ((E0.wr W67).keep K82q)
  have F95 := (F70.keep K82q (ninS ne1 nin0))
  have F96 := ((par.other W67 (Or.inr (slot_ne (Or.inl (hw _ (List.mem_of_getElem? (i := 24) rfl))) (Or.inl (hw _ (List.mem_of_getElem? (i := 26) rfl))) (by decide) (t := .int) (t' := .int) (by decide) (by decide)))).keep K82q (ninS ne1 nin0))
  have F97 := (Fw67.keep K82q (ninS ne1 nin0))
  have F98 := ((ple.other W67 (Or.inr (slot_ne (Or.inl (hw _ (List.mem_of_getElem? (i := 28) rfl))) (Or.inl (hw _ (List.mem_of_getElem? (i := 26) rfl))) (by decide) (t := .int) (t' := .int) (by decide) (by decide)))).keep K82q (ninS ne1 nin0))
  have F99 := ((pde.other W67 (Or.inr (slot_ne (Or.inl (hw _ (List.mem_of_getElem? (i := 30) rfl))) (Or.inl (hw _ (List.mem_of_getElem? (i := 26) rfl))) (by decide) (t := .int) (t' := .int) (by decide) (by decide)))).keep K82q (ninS ne1 nin0))
  have F100 := ((pco.other W67 (Or.inr (slot_ne (Or.inl (hw _ (List.mem_of_getElem? (i := 37) rfl))) (Or.inl (hw _ (List.mem_of_getElem? (i := 26) rfl))) (by decide) (t := .long) (t' := .int) (by decide) (by decide)))).keep K82q (ninS ne1 nin0))
  have F101 := ((pfi.other W67 (Or.inr (slot_ne (Or.inl (hw _ (List.mem_of_getElem? (i := 39) rfl))) (Or.inl (hw _ (List.mem_of_getElem? (i := 26) rfl))) (by decide) (t := .int) (t' := .int) (by decide) (by decide)))).keep K82q (ninS ne1 nin0))
  have F102 := ((pbo.other W67 (Or.inr (slot_ne (Or.inl (hw _ (List.mem_of_getElem? (i := 41) rfl))) (Or.inl (hw _ (List.mem_of_getElem? (i := 26) rfl))) (by decide) (t := .int) (t' := .int) (by decide) (by decide)))).keep K82q (ninS ne1 nin0))
  exact own_retV X82 hx hlk hret (hb hby own_d10_24) (by decide) (by decide) ⟨rfl, N82, K92, E94, F95, F96, F97, F98, F99, F100, F101, F102, Q83, Q84, Q85, Q86, Q87, Q88, Q89, Q90, Q91⟩
theorem own_d11_0 : decode prog_18_method_3_code 0 = .ok (.aload_n 0, 1) := by decide +kernel
theorem own_d11_1 : decode prog_18_method_3_code 1 = .ok (.dup, 1) := by decide +kernel
theorem own_d11_2 : decode prog_18_method_3_code 2 = .ok (.getfield 16, 3) := by decide +kernel
theorem own_d11_5 : decode prog_18_method_3_code 5 = .ok (.iconst 1, 1) := by decide +kernel
theorem own_d11_6 : decode prog_18_method_3_code 6 = .ok (.iadd, 1) := by decide +kernel
theorem own_d11_7 : decode prog_18_method_3_code 7 = .ok (.putfield 16, 3) := by decide +kernel
theorem own_d11_10 : decode prog_18_method_3_code 10 = .ok (.aload_n 0, 1) := by decide +kernel
theorem own_d11_11 : decode prog_18_method_3_code 11 = .ok (.getfield 12, 3) := by decide +kernel
theorem own_d11_14 : decode prog_18_method_3_code 14 = .ok (.ifnull 10, 3) := by decide +kernel
theorem own_d11_24 : decode prog_18_method_3_code 24 = .ok (.return_, 1) := by decide +kernel
set_option maxHeartbeats 4000000 in
theorem own_ef11W (m : MethodId) (x0 : Addr) : entryFrame m #[(.ref x0)] 1 = mkF m 0 #[.val (.ref x0)] [] := by first | (simp [entryFrame, mkF, argsToLocals, Value.category]; done) | rfl
def own_Q11W (Z : State) (a0 : Array Value) (o0 : Addr) (ar : Int32) (en : Int32) (h0 : Heap) (n0 : Nat) (v : Option Value) (h : Heap) (L : List Loc) : Prop := v = none ∧ Fr n0 L ∧ Keep h0 h [o0] ∧ Exa Z h o0 "com/example/kerb2d/kerb2d/engine/Tally" ∧ Fld Z h o0 "com/example/kerb2d/kerb2d/engine/Tally" "whole" "Lcom/example/kerb2d/kerb2d/engine/Tally;" .null ∧ Fld Z h o0 "com/example/kerb2d/kerb2d/engine/Tally" "arrived" "I" (.int (ar + (1 : Int32))) ∧ Fld Z h o0 "com/example/kerb2d/kerb2d/engine/Tally" "entered" "I" (.int en) ∧ Fld Z h o0 "com/example/kerb2d/kerb2d/engine/Tally" "left" "I" (.int (0 : Int32)) ∧ Fld Z h o0 "com/example/kerb2d/kerb2d/engine/Tally" "delayed" "I" (.int (0 : Int32)) ∧ Fld Z h o0 "com/example/kerb2d/kerb2d/engine/Tally" "conflictSum" "J" (.long (0 : Int64)) ∧ Fld Z h o0 "com/example/kerb2d/kerb2d/engine/Tally" "finished" "I" (.int (0 : Int32)) ∧ Fld Z h o0 "com/example/kerb2d/kerb2d/engine/Tally" "boarded" "I" (.int (0 : Int32))
set_option maxRecDepth 65536 in
set_option maxHeartbeats 40000000 in
theorem own_rm11W (l : Launch) (Z : State) (a0 : Array Value) (hw : ∀ d ∈ tables_1, d.before a0 Z = true) (ws : List Jvm.Cond) (o0 : Addr) (ar : Int32) (en : Int32) (h0 : Heap) (n0 : Nat) (Z0 : n0 ≤ h0.size) (E0 : Exa Z h0 o0 "com/example/kerb2d/kerb2d/engine/Tally") (G0 : n0 ≤ o0) (pwh : Fld Z h0 o0 "com/example/kerb2d/kerb2d/engine/Tally" "whole" "Lcom/example/kerb2d/kerb2d/engine/Tally;" .null) (par : Fld Z h0 o0 "com/example/kerb2d/kerb2d/engine/Tally" "arrived" "I" (.int ar)) (pen : Fld Z h0 o0 "com/example/kerb2d/kerb2d/engine/Tally" "entered" "I" (.int en)) (ple : Fld Z h0 o0 "com/example/kerb2d/kerb2d/engine/Tally" "left" "I" (.int (0 : Int32))) (pde : Fld Z h0 o0 "com/example/kerb2d/kerb2d/engine/Tally" "delayed" "I" (.int (0 : Int32))) (pco : Fld Z h0 o0 "com/example/kerb2d/kerb2d/engine/Tally" "conflictSum" "J" (.long (0 : Int64))) (pfi : Fld Z h0 o0 "com/example/kerb2d/kerb2d/engine/Tally" "finished" "I" (.int (0 : Int32))) (pbo : Fld Z h0 o0 "com/example/kerb2d/kerb2d/engine/Tally" "boarded" "I" (.int (0 : Int32))) :
    MetFree l (⟨"com/example/kerb2d/kerb2d/engine/Tally", "arrive", "()V"⟩ : MethodName) (head1 (Jvm.Cond.code (⟨"com/example/kerb2d/kerb2d/engine/Tally", "arrive", "()V"⟩ : MethodName) prog_18_method_3_code 1 none :: ws) ({ frames := 0, cells := 0, slots := 0, locals := 0 } : Room)) (fun a U => a = #[(.ref o0)] ∧ Z.Warmed39 U.vm ∧ U.heap = h0) (fun _ _ _ _ _ => True) (fun _ U o U' => ∃ v L, o = .returned v ∧ own_Q11W Z a0 o0 ar en h0 n0 v U'.heap L ∧ FrameEnd U o U' L ({ frames := 0, cells := 0, slots := 0, locals := 0 } : Room).cells ({ frames := 0, cells := 0, slots := 0, locals := 0 } : Room).slots) := by
  refine own_body (Q := fun v h L => own_Q11W Z a0 o0 ar en h0 n0 v h L) (plainFor_of_name own_pn0) ?_
  intro p e s m below meth c s₁ hx hby hml hZ hown hnm hret hlk X0 e0
  replace hml : c.maxLocals = 1 := hml
  have N0 := Fr.nil n0
  have K0 : Keep h0 h0 [o0] := Keep.refl _ _
  refine own_st (fun t k => castTop (own_ef11W m o0) k) ?_
  show own_Run p e below s _ _ _ (s₁.setTop (mkF m 0 #[.val (.ref o0)] []))
  refine own_st (fun t k => XS.aloadN X0.here hx rfl (hb hby own_d11_0) rfl rfl k) ?_
  show own_Run p e below s _ _ _ (s₁.setTop (mkF m 1 #[.val (.ref o0)] [(.ref o0)]))
  refine own_st (fun t k => XS.dup X0.here hx rfl (hb hby own_d11_1) rfl rfl k) ?_
  show own_Run p e below s _ _ _ (s₁.setTop (mkF m 2 #[.val (.ref o0)] [(.ref o0), (.ref o0)]))
  obtain ⟨T103, X103, e103, st103⟩ := getF X0 hx hZ hown (host := "") (Or.inl (hw _ (List.mem_of_getElem? (i := 23) rfl))) Via.refl e0 par (g := (mkF m 2 #[.val (.ref o0)] [(.ref o0), (.ref o0)])) rfl rfl (hb hby own_d11_2)
  refine own_st st103 ?_
  show own_Run p e below s _ _ _ (T103.setTop (mkF m 5 #[.val (.ref o0)] [(.int ar), (.ref o0)]))
  refine own_st (fun t k => XS.iconst X103.here hx rfl (hb hby own_d11_5) k) ?_
  show own_Run p e below s _ _ _ (T103.setTop (mkF m 6 #[.val (.ref o0)] [(.int (1 : Int32)), (.int ar), (.ref o0)]))
  refine own_st (fun t k => XS.iadd X103.here hx rfl (hb hby own_d11_6) rfl k) ?_
  show own_Run p e below s _ _ _ (T103.setTop (mkF m 7 #[.val (.ref o0)] [(.int (ar + (1 : Int32))), (.ref o0)]))
  obtain ⟨T104, h104, X104, e104, W104, st104⟩ := putF X103 hx hZ hown (host := "") (Or.inl (hw _ (List.mem_of_getElem? (i := 23) rfl))) Via.refl e103 par E0 (Or.inl (hw _ (List.mem_of_getElem? (i := 24) rfl))) (hw _ (List.mem_of_getElem? (i := 1) rfl)) (ty := .int) (by decide) rfl rfl (g := (mkF m 7 #[.val (.ref o0)] [(.int (ar + (1 : Int32))), (.ref o0)])) rfl rfl (hb hby own_d11_7)
  refine own_st st104 ?_
  have Fw104 := par.same W104
  have N104 := Fr.snoc X104 N0 G0
  have K105 : Keep h0 h104 [o0] := K0.wr W104 (Or.inl (List.mem_of_getElem? (i := 0) rfl))
  show own_Run p e below s _ _ _ (T104.setTop (mkF m 10 #[.val (.ref o0)] []))
  refine own_st (fun t k => XS.aloadN X104.here hx rfl (hb hby own_d11_10) rfl rfl k) ?_
  show own_Run p e below s _ _ _ (T104.setTop (mkF m 11 #[.val (.ref o0)] [(.ref o0)]))
  have F107 := (pwh.other W104 (Or.inr (slot_ne (Or.inr (hw _ (List.mem_of_getElem? (i := 13) rfl))) (Or.inl (hw _ (List.mem_of_getElem? (i := 24) rfl))) (by decide) (t := (.object "com/example/kerb2d/kerb2d/engine/Tally")) (t' := .int) (by decide) (by decide))))
  obtain ⟨T108, X108, e108, st108⟩ := getF X104 hx hZ hown (host := "") (Or.inl (hw _ (List.mem_of_getElem? (i := 12) rfl))) Via.refl e104 F107 (g := (mkF m 11 #[.val (.ref o0)] [(.ref o0)])) rfl rfl (hb hby own_d11_11)
  refine own_st st108 ?_
  show own_Run p e below s _ _ _ (T108.setTop (mkF m 14 #[.val (.ref o0)] [.null]))
  refine own_st (fun t k => XS.ifnullYes X108.here hx rfl (pc0 := 14) (pc' := 24) rfl (hb hby own_d11_14) rfl (by decide) (by decide) k) ?_
  show own_Run p e below s _ _ _ (T108.setTop (mkF m 24 #[.val (.ref o0)] []))
  have hQe := e108
  subst hQe
  have E109 := (E0.wr W104)
  have F110 := (pen.other W104 (Or.inr (slot_ne (Or.inl (hw _ (List.mem_of_getElem? (i := 26) rfl))) (Or.inl (hw _ (List.mem_of_getElem? (i := 24) rfl))) (by decide) (t := .int) (t' := .int) (by decide) (by decide))))
  have F111 := (ple.other W104 (Or.inr (slot_ne (Or.inl (hw _ (List.mem_of_getElem? (i := 28) rfl))) (Or.inl (hw _ (List.mem_of_getElem? (i := 24) rfl))) (by decide) (t := .int) (t' := .int) (by decide) (by decide))))
  have F112 := (pde.other W104 (Or.inr (slot_ne (Or.inl (hw _ (List.mem_of_getElem? (i := 30) rfl))) (Or.inl (hw _ (List.mem_of_getElem? (i := 24) rfl))) (by decide) (t := .int) (t' := .int) (by decide) (by decide))))
  have F113 := (pco.other W104 (Or.inr (slot_ne (Or.inl (hw _ (List.mem_of_getElem? (i := 37) rfl))) (Or.inl (hw _ (List.mem_of_getElem? (i := 24) rfl))) (by decide) (t := .long) (t' := .int) (by decide) (by decide))))
  have F114 := (pfi.other W104 (Or.inr (slot_ne (Or.inl (hw _ (List.mem_of_getElem? (i := 39) rfl))) (Or.inl (hw _ (List.mem_of_getElem? (i := 24) rfl))) (by decide) (t := .int) (t' := .int) (by decide) (by decide))))
  have F115 := (pbo.other W104 (Or.inr (slot_ne (Or.inl (hw _ (List.mem_of_getElem? (i := 41) rfl))) (Or.inl (hw _ (List.mem_of_getElem? (i := 24) rfl))) (by decide) (t := .int) (t' := .int) (by decide) (by decide))))
  exact own_retV X108 hx hlk hret (hb hby own_d11_24) (by decide) (by decide) ⟨rfl, N104, K105, E109, F107, Fw104, F110, F111, F112, F113, F114, F115⟩
theorem own_d11_17 : decode prog_18_method_3_code 17 = .ok (.aload_n 0, 1) := by decide +kernel
theorem own_d11_18 : decode prog_18_method_3_code 18 = .ok (.getfield 12, 3) := by decide +kernel
theorem own_d11_21 : decode prog_18_method_3_code 21 = .ok (.invokevirtual 20, 3) := by decide +kernel
set_option maxHeartbeats 4000000 in
theorem own_ef11P (m : MethodId) (x0 : Addr) : entryFrame m #[(.ref x0)] 1 = mkF m 0 #[.val (.ref x0)] [] := by first | (simp [entryFrame, mkF, argsToLocals, Value.category]; done) | rfl
def own_Q11P (Z : State) (a0 : Array Value) (o0 : Addr) (w : Addr) (ar : Int32) (en : Int32) (ar1 : Int32) (en1 : Int32) (h0 : Heap) (n0 : Nat) (v : Option Value) (h : Heap) (L : List Loc) : Prop := v = none ∧ Fr n0 L ∧ Keep h0 h [o0, w] ∧ Exa Z h o0 "com/example/kerb2d/kerb2d/engine/Tally" ∧ Fld Z h o0 "com/example/kerb2d/kerb2d/engine/Tally" "whole" "Lcom/example/kerb2d/kerb2d/engine/Tally;" (.ref w) ∧ Fld Z h o0 "com/example/kerb2d/kerb2d/engine/Tally" "arrived" "I" (.int (ar + (1 : Int32))) ∧ Fld Z h o0 "com/example/kerb2d/kerb2d/engine/Tally" "entered" "I" (.int en) ∧ Fld Z h o0 "com/example/kerb2d/kerb2d/engine/Tally" "left" "I" (.int (0 : Int32)) ∧ Fld Z h o0 "com/example/kerb2d/kerb2d/engine/Tally" "delayed" "I" (.int (0 : Int32)) ∧ Fld Z h o0 "com/example/kerb2d/kerb2d/engine/Tally" "conflictSum" "J" (.long (0 : Int64)) ∧ Fld Z h o0 "com/example/kerb2d/kerb2d/engine/Tally" "finished" "I" (.int (0 : Int32)) ∧ Fld Z h o0 "com/example/kerb2d/kerb2d/engine/Tally" "boarded" "I" (.int (0 : Int32)) ∧ Exa Z h w "com/example/kerb2d/kerb2d/engine/Tally" ∧ Fld Z h w "com/example/kerb2d/kerb2d/engine/Tally" "whole" "Lcom/example/kerb2d/kerb2d/engine/Tally;" .null ∧ Fld Z h w "com/example/kerb2d/kerb2d/engine/Tally" "arrived" "I" (.int (ar1 + (1 : Int32))) ∧ Fld Z h w "com/example/kerb2d/kerb2d/engine/Tally" "entered" "I" (.int en1) ∧ Fld Z h w "com/example/kerb2d/kerb2d/engine/Tally" "left" "I" (.int (0 : Int32)) ∧ Fld Z h w "com/example/kerb2d/kerb2d/engine/Tally" "delayed" "I" (.int (0 : Int32)) ∧ Fld Z h w "com/example/kerb2d/kerb2d/engine/Tally" "conflictSum" "J" (.long (0 : Int64)) ∧ Fld Z h w "com/example/kerb2d/kerb2d/engine/Tally" "finished" "I" (.int (0 : Int32)) ∧ Fld Z h w "com/example/kerb2d/kerb2d/engine/Tally" "boarded" "I" (.int (0 : Int32))
set_option maxRecDepth 65536 in
set_option maxHeartbeats 40000000 in
theorem own_rm11P (l : Launch) (Z : State) (a0 : Array Value) (hw : ∀ d ∈ tables_1, d.before a0 Z = true) (ws : List Jvm.Cond) (o0 : Addr) (w : Addr) (ar : Int32) (en : Int32) (ar1 : Int32) (en1 : Int32) (h0 : Heap) (n0 : Nat) (Z0 : n0 ≤ h0.size) (E0 : Exa Z h0 o0 "com/example/kerb2d/kerb2d/engine/Tally") (G0 : n0 ≤ o0) (pwh : Fld Z h0 o0 "com/example/kerb2d/kerb2d/engine/Tally" "whole" "Lcom/example/kerb2d/kerb2d/engine/Tally;" (.ref w)) (par : Fld Z h0 o0 "com/example/kerb2d/kerb2d/engine/Tally" "arrived" "I" (.int ar)) (pen : Fld Z h0 o0 "com/example/kerb2d/kerb2d/engine/Tally" "entered" "I" (.int en)) (ple : Fld Z h0 o0 "com/example/kerb2d/kerb2d/engine/Tally" "left" "I" (.int (0 : Int32))) (pde : Fld Z h0 o0 "com/example/kerb2d/kerb2d/engine/Tally" "delayed" "I" (.int (0 : Int32))) (pco : Fld Z h0 o0 "com/example/kerb2d/kerb2d/engine/Tally" "conflictSum" "J" (.long (0 : Int64))) (pfi : Fld Z h0 o0 "com/example/kerb2d/kerb2d/engine/Tally" "finished" "I" (.int (0 : Int32))) (pbo : Fld Z h0 o0 "com/example/kerb2d/kerb2d/engine/Tally" "boarded" "I" (.int (0 : Int32))) (E9 : Exa Z h0 w "com/example/kerb2d/kerb2d/engine/Tally") (G9 : n0 ≤ w) (qwh : Fld Z h0 w "com/example/kerb2d/kerb2d/engine/Tally" "whole" "Lcom/example/kerb2d/kerb2d/engine/Tally;" .null) (qar : Fld Z h0 w "com/example/kerb2d/kerb2d/engine/Tally" "arrived" "I" (.int ar1)) (qen : Fld Z h0 w "com/example/kerb2d/kerb2d/engine/Tally" "entered" "I" (.int en1)) (qle : Fld Z h0 w "com/example/kerb2d/kerb2d/engine/Tally" "left" "I" (.int (0 : Int32))) (qde : Fld Z h0 w "com/example/kerb2d/kerb2d/engine/Tally" "delayed" "I" (.int (0 : Int32))) (qco : Fld Z h0 w "com/example/kerb2d/kerb2d/engine/Tally" "conflictSum" "J" (.long (0 : Int64))) (qfi : Fld Z h0 w "com/example/kerb2d/kerb2d/engine/Tally" "finished" "I" (.int (0 : Int32))) (qbo : Fld Z h0 w "com/example/kerb2d/kerb2d/engine/Tally" "boarded" "I" (.int (0 : Int32))) (ne1 : o0 ≠ w) :
    MetFree l (⟨"com/example/kerb2d/kerb2d/engine/Tally", "arrive", "()V"⟩ : MethodName) (head1 (Jvm.Cond.code (⟨"com/example/kerb2d/kerb2d/engine/Tally", "arrive", "()V"⟩ : MethodName) prog_18_method_3_code 1 none :: ws) ({ frames := 1, cells := 0, slots := 0, locals := 12 } : Room)) (fun a U => a = #[(.ref o0)] ∧ Z.Warmed39 U.vm ∧ U.heap = h0) (fun _ _ _ _ _ => True) (fun _ U o U' => ∃ v L, o = .returned v ∧ own_Q11P Z a0 o0 w ar en ar1 en1 h0 n0 v U'.heap L ∧ FrameEnd U o U' L ({ frames := 1, cells := 0, slots := 0, locals := 12 } : Room).cells ({ frames := 1, cells := 0, slots := 0, locals := 12 } : Room).slots) := by
  refine own_body (Q := fun v h L => own_Q11P Z a0 o0 w ar en ar1 en1 h0 n0 v h L) (plainFor_of_name own_pn0) ?_
  intro p e s m below meth c s₁ hx hby hml hZ hown hnm hret hlk X0 e0
  replace hml : c.maxLocals = 1 := hml
  have N0 := Fr.nil n0
  have K0 : Keep h0 h0 [o0, w] := Keep.refl _ _
  refine own_st (fun t k => castTop (own_ef11P m o0) k) ?_
  show own_Run p e below s _ _ _ (s₁.setTop (mkF m 0 #[.val (.ref o0)] []))
  refine own_st (fun t k => XS.aloadN X0.here hx rfl (hb hby own_d11_0) rfl rfl k) ?_
  show own_Run p e below s _ _ _ (s₁.setTop (mkF m 1 #[.val (.ref o0)] [(.ref o0)]))
  refine own_st (fun t k => XS.dup X0.here hx rfl (hb hby own_d11_1) rfl rfl k) ?_
  show own_Run p e below s _ _ _ (s₁.setTop (mkF m 2 #[.val (.ref o0)] [(.ref o0), (.ref o0)]))
  obtain ⟨T116, X116, e116, st116⟩ := getF X0 hx hZ hown (host := "") (Or.inl (hw _ (List.mem_of_getElem? (i := 23) rfl))) Via.refl e0 par (g := (mkF m 2 #[.val (.ref o0)] [(.ref o0), (.ref o0)])) rfl rfl (hb hby own_d11_2)
  refine own_st st116 ?_
  show own_Run p e below s _ _ _ (T116.setTop (mkF m 5 #[.val (.ref o0)] [(.int ar), (.ref o0)]))
  refine own_st (fun t k => XS.iconst X116.here hx rfl (hb hby own_d11_5) k) ?_
  show own_Run p e below s _ _ _ (T116.setTop (mkF m 6 #[.val (.ref o0)] [(.int (1 : Int32)), (.int ar), (.ref o0)]))
  refine own_st (fun t k => XS.iadd X116.here hx rfl (hb hby own_d11_6) rfl k) ?_
  show own_Run p e below s _ _ _ (T116.setTop (mkF m 7 #[.val (.ref o0)] [(.int (ar + (1 : Int32))), (.ref o0)]))
  obtain ⟨T117, h117, X117, e117, W117, st117⟩ := putF X116 hx hZ hown (host := "") (Or.inl (hw _ (List.mem_of_getElem? (i := 23) rfl))) Via.refl e116 par E0 (Or.inl (hw _ (List.mem_of_getElem? (i := 24) rfl))) (hw _ (List.mem_of_getElem? (i := 1) rfl)) (ty := .int) (by decide) rfl rfl (g := (mkF m 7 #[.val (.ref o0)] [(.int (ar + (1 : Int32))), (.ref o0)])) rfl rfl (hb hby own_d11_7)
  refine own_st st117 ?_
  have Fw117 := par.same W117
  have N117 := Fr.snoc X117 N0 G0
  have K118 : Keep h0 h117 [o0, w] := K0.wr W117 (Or.inl (List.mem_of_getElem? (i := 0) rfl))
  show own_Run p e below s _ _ _ (T117.setTop (mkF m 10 #[.val (.ref o0)] []))
  refine own_st (fun t k => XS.aloadN X117.here hx rfl (hb hby own_d11_10) rfl rfl k) ?_
  show own_Run p e below s _ _ _ (T117.setTop (mkF m 11 #[.val (.ref o0)] [(.ref o0)]))
  have F120 := (pwh.other W117 (Or.inr (slot_ne (Or.inr (hw _ (List.mem_of_getElem? (i := 13) rfl))) (Or.inl (hw _ (List.mem_of_getElem? (i := 24) rfl))) (by decide) (t := (.object "com/example/kerb2d/kerb2d/engine/Tally")) (t' := .int) (by decide) (by decide))))
  obtain ⟨T121, X121, e121, st121⟩ := getF X117 hx hZ hown (host := "") (Or.inl (hw _ (List.mem_of_getElem? (i := 12) rfl))) Via.refl e117 F120 (g := (mkF m 11 #[.val (.ref o0)] [(.ref o0)])) rfl rfl (hb hby own_d11_11)
  refine own_st st121 ?_
  show own_Run p e below s _ _ _ (T121.setTop (mkF m 14 #[.val (.ref o0)] [(.ref w)]))
  refine own_st (fun t k => XS.ifnullNo X121.here hx rfl (hb hby own_d11_14) rfl k) ?_
  show own_Run p e below s _ _ _ (T121.setTop (mkF m 17 #[.val (.ref o0)] []))
  refine own_st (fun t k => XS.aloadN X121.here hx rfl (hb hby own_d11_17) rfl rfl k) ?_
  show own_Run p e below s _ _ _ (T121.setTop (mkF m 18 #[.val (.ref o0)] [(.ref o0)]))
  obtain ⟨T122, X122, e122, st122⟩ := getF X121 hx hZ hown (host := "") (Or.inl (hw _ (List.mem_of_getElem? (i := 12) rfl))) Via.refl e121 F120 (g := (mkF m 18 #[.val (.ref o0)] [(.ref o0)])) rfl rfl (hb hby own_d11_18)
  refine own_st st122 ?_
  show own_Run p e below s _ _ _ (T122.setTop (mkF m 21 #[.val (.ref o0)] [(.ref w)]))
  have E123 := (E9.wr W117)
  have F124 := (qwh.other W117 (Or.inl (Ne.symm ne1)))
  have F125 := (qar.other W117 (Or.inl (Ne.symm ne1)))
  have F126 := (qen.other W117 (Or.inl (Ne.symm ne1)))
  have F127 := (qle.other W117 (Or.inl (Ne.symm ne1)))
  have F128 := (qde.other W117 (Or.inl (Ne.symm ne1)))
  have F129 := (qco.other W117 (Or.inl (Ne.symm ne1)))
  have F130 := (qfi.other W117 (Or.inl (Ne.symm ne1)))
  have F131 := (qbo.other W117 (Or.inl (Ne.symm ne1)))
  refine own_callV X122 hx hZ (y := (⟨"com/example/kerb2d/kerb2d/engine/Tally", "arrive", "()V"⟩ : MethodName)) (C := "com/example/kerb2d/kerb2d/engine/Tally") hown (hw _ (List.mem_of_getElem? (i := 97) rfl)) (hw _ (List.mem_of_getElem? (i := 93) rfl)) (hw _ (List.mem_of_getElem? (i := 95) rfl)) (hw _ (List.mem_of_getElem? (i := 94) rfl)) (hw _ (List.mem_of_getElem? (i := 96) rfl)) (hw _ (List.mem_of_getElem? (i := 2) rfl)) (by decide) e122 (a := w) E123 (argsL := []) (rest := []) (W := 0) (own_rm11W l Z a0 hw [] w ar1 en1 h117 n0 (Nat.le_trans Z0 K118.1) E123 G9 F124 F125 F126 F127 F128 F129 F130 F131) (by decide) (by decide) (by rw [hml]; rfl) (lenOf own_pd2 rfl) rfl (by exact Nat.le_of_eq rfl) (hb hby own_d11_21) (by decide) (by decide) ?_
  intro T132 v132 L132 X132 hq132
  obtain ⟨rfl, N132q, K132q, Q133, Q134, Q135, Q136, Q137, Q138, Q139, Q140, Q141⟩ := hq132
  have K142 : Keep h0 T132.heap [o0, w] := K118.trans K132q (allS (Or.inl (List.mem_of_getElem? (i := 1) rfl)) all0)
  have N132 := Fr.app N117 N132q
  show own_Run p e below s _ _ _ (T132.setTop (mkF m 24 #[.val (.ref o0)] []))
  have E144 := ((E0.wr W117).keep K132q)
  have F145 := (F120.keep K132q (ninS ne1 nin0))
  have F146 := (Fw117.keep K132q (ninS ne1 nin0))
  have F147 := ((pen.other W117 (Or.inr (slot_ne (Or.inl (hw _ (List.mem_of_getElem? (i := 26) rfl))) (Or.inl (hw _ (List.mem_of_getElem? (i := 24) rfl))) (by decide) (t := .int) (t' := .int) (by decide) (by decide)))).keep K132q (ninS ne1 nin0))
  have F148 := ((ple.other W117 (Or.inr (slot_ne (Or.inl (hw _ (List.mem_of_getElem? (i := 28) rfl))) (Or.inl (hw _ (List.mem_of_getElem? (i := 24) rfl))) (by decide) (t := .int) (t' := .int) (by decide) (by decide)))).keep K132q (ninS ne1 nin0))
  have F149 := ((pde.other W117 (Or.inr (slot_ne (Or.inl (hw _ (List.mem_of_getElem? (i := 30) rfl))) (Or.inl (hw _ (List.mem_of_getElem? (i := 24) rfl))) (by decide) (t := .int) (t' := .int) (by decide) (by decide)))).keep K132q (ninS ne1 nin0))
  have F150 := ((pco.other W117 (Or.inr (slot_ne (Or.inl (hw _ (List.mem_of_getElem? (i := 37) rfl))) (Or.inl (hw _ (List.mem_of_getElem? (i := 24) rfl))) (by decide) (t := .long) (t' := .int) (by decide) (by decide)))).keep K132q (ninS ne1 nin0))
  have F151 := ((pfi.other W117 (Or.inr (slot_ne (Or.inl (hw _ (List.mem_of_getElem? (i := 39) rfl))) (Or.inl (hw _ (List.mem_of_getElem? (i := 24) rfl))) (by decide) (t := .int) (t' := .int) (by decide) (by decide)))).keep K132q (ninS ne1 nin0))
  have F152 := ((pbo.other W117 (Or.inr (slot_ne (Or.inl (hw _ (List.mem_of_getElem? (i := 41) rfl))) (Or.inl (hw _ (List.mem_of_getElem? (i := 24) rfl))) (by decide) (t := .int) (t' := .int) (by decide) (by decide)))).keep K132q (ninS ne1 nin0))
  exact own_retV X132 hx hlk hret (hb hby own_d11_24) (by decide) (by decide) ⟨rfl, N132, K142, E144, F145, F146, F147, F148, F149, F150, F151, F152, Q133, Q134, Q135, Q136, Q137, Q138, Q139, Q140, Q141⟩
theorem own_d7_0 : decode jdk_30_method_1_code 0 = .ok (.aload_n 0, 1) := by decide +kernel
theorem own_d7_1 : decode jdk_30_method_1_code 1 = .ok (.invokespecial 1, 3) := by decide +kernel
theorem own_d7_4 : decode jdk_30_method_1_code 4 = .ok (.return_, 1) := by decide +kernel
set_option maxHeartbeats 4000000 in
theorem own_ef7 (m : MethodId) (x0 : Addr) : entryFrame m #[(.ref x0)] 1 = mkF m 0 #[.val (.ref x0)] [] := by first | (simp [entryFrame, mkF, argsToLocals, Value.category]; done) | rfl
theorem own_pn3 : plainName "java/lang/Record" = true := by first | (simp [plainName, overriddenIn]; done) | decide +kernel
def own_Q7 (Z : State) (a0 : Array Value) (o0 : Addr) (h0 : Heap) (n0 : Nat) (v : Option Value) (h : Heap) (L : List Loc) : Prop := v = none ∧ Fr n0 L ∧ h = h0
set_option maxRecDepth 65536 in
set_option maxHeartbeats 40000000 in
theorem own_rm7 (l : Launch) (Z : State) (a0 : Array Value) (hw : ∀ d ∈ tables_1, d.before a0 Z = true) (ws : List Jvm.Cond) (o0 : Addr) (h0 : Heap) (n0 : Nat) (Z0 : n0 ≤ h0.size) :
    MetFree l (⟨"java/lang/Record", "<init>", "()V"⟩ : MethodName) (head1 (Jvm.Cond.code (⟨"java/lang/Record", "<init>", "()V"⟩ : MethodName) jdk_30_method_1_code 1 none :: ws) ({ frames := 1, cells := 0, slots := 0, locals := 12 } : Room)) (fun a U => a = #[(.ref o0)] ∧ Z.Warmed39 U.vm ∧ U.heap = h0) (fun _ _ _ _ _ => True) (fun _ U o U' => ∃ v L, o = .returned v ∧ own_Q7 Z a0 o0 h0 n0 v U'.heap L ∧ FrameEnd U o U' L ({ frames := 1, cells := 0, slots := 0, locals := 12 } : Room).cells ({ frames := 1, cells := 0, slots := 0, locals := 12 } : Room).slots) := by
  refine own_body (Q := fun v h L => own_Q7 Z a0 o0 h0 n0 v h L) (plainFor_of_name own_pn3) ?_
  intro p e s m below meth c s₁ hx hby hml hZ hown hnm hret hlk X0 e0
  replace hml : c.maxLocals = 1 := hml
  have N0 := Fr.nil n0
  have K0 : Keep h0 h0 [] := Keep.refl _ _
  refine own_st (fun t k => castTop (own_ef7 m o0) k) ?_
  show own_Run p e below s _ _ _ (s₁.setTop (mkF m 0 #[.val (.ref o0)] []))
  refine own_st (fun t k => XS.aloadN X0.here hx rfl (hb hby own_d7_0) rfl rfl k) ?_
  show own_Run p e below s _ _ _ (s₁.setTop (mkF m 1 #[.val (.ref o0)] [(.ref o0)]))
  obtain ⟨T153, X153, e153, st153⟩ := initO X0 hx hZ hown (hw _ (List.mem_of_getElem? (i := 50) rfl)) (hw _ (List.mem_of_getElem? (i := 10) rfl)) (hw _ (List.mem_of_getElem? (i := 11) rfl)) e0 (g := (mkF m 1 #[.val (.ref o0)] [(.ref o0)])) rfl (by rw [hml]; rfl) rfl (hb hby own_d7_1) (by decide) (W := 0) (by show 2 * 0 + _ ≤ _; exact Nat.le_of_eq rfl) (by decide)
  refine own_st st153 ?_
  show own_Run p e below s _ _ _ (T153.setTop (mkF m 4 #[.val (.ref o0)] []))
  exact own_retV X153 hx hlk hret (hb hby own_d7_4) (by decide) (by decide) ⟨rfl, N0, e153⟩
theorem own_d5_0 : decode jdk_2648_method_2_code 0 = .ok (.getstatic 21, 3) := by decide +kernel
theorem own_d5_3 : decode jdk_2648_method_2_code 3 = .ok (.areturn, 1) := by decide +kernel
set_option maxHeartbeats 4000000 in
theorem own_ef5 (m : MethodId)  : entryFrame m #[] 0 = mkF m 0 #[] [] := by first | (simp [entryFrame, mkF, argsToLocals, Value.category]; done) | rfl
theorem own_pn4 : plainName "java/util/OptionalDouble" = true := by first | (simp [plainName, overriddenIn]; done) | decide +kernel
def own_Q5 (Z : State) (a0 : Array Value) (te : Addr) (h0 : Heap) (n0 : Nat) (v : Option Value) (h : Heap) (L : List Loc) : Prop := v = some (.ref te) ∧ Fr n0 L ∧ h = h0
set_option maxRecDepth 65536 in
set_option maxHeartbeats 40000000 in
theorem own_rm5 (l : Launch) (Z : State) (a0 : Array Value) (hw : ∀ d ∈ tables_1, d.before a0 Z = true) (ws : List Jvm.Cond) (te : Addr) (h0 : Heap) (n0 : Nat) (Z0 : n0 ≤ h0.size) (O0 : Old Z n0 h0) (S_E : Sta Z Z.heap "java/util/OptionalDouble" "EMPTY" "Ljava/util/OptionalDouble;" (.ref te)) :
    MetFree l (⟨"java/util/OptionalDouble", "empty", "()Ljava/util/OptionalDouble;"⟩ : MethodName) (head1 (Jvm.Cond.code (⟨"java/util/OptionalDouble", "empty", "()Ljava/util/OptionalDouble;"⟩ : MethodName) jdk_2648_method_2_code 0 (some (.object "java/util/OptionalDouble")) :: ws) ({ frames := 0, cells := 0, slots := 0, locals := 0 } : Room)) (fun a U => a = #[] ∧ Z.Warmed39 U.vm ∧ U.heap = h0) (fun _ _ _ _ _ => True) (fun _ U o U' => ∃ v L, o = .returned v ∧ own_Q5 Z a0 te h0 n0 v U'.heap L ∧ FrameEnd U o U' L ({ frames := 0, cells := 0, slots := 0, locals := 0 } : Room).cells ({ frames := 0, cells := 0, slots := 0, locals := 0 } : Room).slots) := by
  refine own_body (Q := fun v h L => own_Q5 Z a0 te h0 n0 v h L) (plainFor_of_name own_pn4) ?_
  intro p e s m below meth c s₁ hx hby hml hZ hown hnm hret hlk X0 e0
  replace hml : c.maxLocals = 0 := hml
  have N0 := Fr.nil n0
  have K0 : Keep h0 h0 [] := Keep.refl _ _
  refine own_st (fun t k => castTop (own_ef5 m ) k) ?_
  show own_Run p e below s _ _ _ (s₁.setTop (mkF m 0 #[] []))
  obtain ⟨T154, X154, e154, st154⟩ := getS2 X0 hx hZ hown (host := "") (Or.inl (hw _ (List.mem_of_getElem? (i := 35) rfl))) Via.refl e0 (S_E.ext O0.2) (g := (mkF m 0 #[] [])) rfl (hb hby own_d5_0)
  refine own_st st154 ?_
  show own_Run p e below s _ _ _ (T154.setTop (mkF m 3 #[] [(.ref te)]))
  exact own_ret X154 hx hlk (t := (.object "java/util/OptionalDouble")) hret rfl (Or.inr (Or.inr (Or.inr (Or.inr ⟨rfl, rfl, rfl⟩)))) (hb hby own_d5_3) (by decide) (by decide) ⟨rfl, N0, e154⟩
theorem own_d6_0 : decode prog_10_method_1_code 0 = .ok (.aload_n 0, 1) := by decide +kernel
theorem own_d6_1 : decode prog_10_method_1_code 1 = .ok (.invokespecial 1, 3) := by decide +kernel
theorem own_d6_4 : decode prog_10_method_1_code 4 = .ok (.aload_n 0, 1) := by decide +kernel
theorem own_d6_5 : decode prog_10_method_1_code 5 = .ok (.dload_n 1, 1) := by decide +kernel
theorem own_d6_6 : decode prog_10_method_1_code 6 = .ok (.putfield 7, 3) := by decide +kernel
theorem own_d6_9 : decode prog_10_method_1_code 9 = .ok (.aload_n 0, 1) := by decide +kernel
theorem own_d6_10 : decode prog_10_method_1_code 10 = .ok (.iload_n 3, 1) := by decide +kernel
theorem own_d6_11 : decode prog_10_method_1_code 11 = .ok (.putfield 13, 3) := by decide +kernel
theorem own_d6_14 : decode prog_10_method_1_code 14 = .ok (.aload_n 0, 1) := by decide +kernel
theorem own_d6_15 : decode prog_10_method_1_code 15 = .ok (.iload 4, 2) := by decide +kernel
theorem own_d6_17 : decode prog_10_method_1_code 17 = .ok (.putfield 17, 3) := by decide +kernel
theorem own_d6_20 : decode prog_10_method_1_code 20 = .ok (.aload_n 0, 1) := by decide +kernel
theorem own_d6_21 : decode prog_10_method_1_code 21 = .ok (.iload 5, 2) := by decide +kernel
theorem own_d6_23 : decode prog_10_method_1_code 23 = .ok (.putfield 20, 3) := by decide +kernel
theorem own_d6_26 : decode prog_10_method_1_code 26 = .ok (.aload_n 0, 1) := by decide +kernel
theorem own_d6_27 : decode prog_10_method_1_code 27 = .ok (.iload 6, 2) := by decide +kernel
theorem own_d6_29 : decode prog_10_method_1_code 29 = .ok (.putfield 23, 3) := by decide +kernel
theorem own_d6_32 : decode prog_10_method_1_code 32 = .ok (.aload_n 0, 1) := by decide +kernel
theorem own_d6_33 : decode prog_10_method_1_code 33 = .ok (.iload 7, 2) := by decide +kernel
theorem own_d6_35 : decode prog_10_method_1_code 35 = .ok (.putfield 26, 3) := by decide +kernel
theorem own_d6_38 : decode prog_10_method_1_code 38 = .ok (.aload_n 0, 1) := by decide +kernel
theorem own_d6_39 : decode prog_10_method_1_code 39 = .ok (.dload 8, 2) := by decide +kernel
theorem own_d6_41 : decode prog_10_method_1_code 41 = .ok (.putfield 29, 3) := by decide +kernel
theorem own_d6_44 : decode prog_10_method_1_code 44 = .ok (.aload_n 0, 1) := by decide +kernel
theorem own_d6_45 : decode prog_10_method_1_code 45 = .ok (.dload 10, 2) := by decide +kernel
theorem own_d6_47 : decode prog_10_method_1_code 47 = .ok (.putfield 32, 3) := by decide +kernel
theorem own_d6_50 : decode prog_10_method_1_code 50 = .ok (.aload_n 0, 1) := by decide +kernel
theorem own_d6_51 : decode prog_10_method_1_code 51 = .ok (.aload 12, 2) := by decide +kernel
theorem own_d6_53 : decode prog_10_method_1_code 53 = .ok (.putfield 35, 3) := by decide +kernel
theorem own_d6_56 : decode prog_10_method_1_code 56 = .ok (.aload_n 0, 1) := by decide +kernel
theorem own_d6_57 : decode prog_10_method_1_code 57 = .ok (.lload 13, 2) := by decide +kernel
theorem own_d6_59 : decode prog_10_method_1_code 59 = .ok (.putfield 39, 3) := by decide +kernel
theorem own_d6_62 : decode prog_10_method_1_code 62 = .ok (.aload_n 0, 1) := by decide +kernel
theorem own_d6_63 : decode prog_10_method_1_code 63 = .ok (.aload 15, 2) := by decide +kernel
theorem own_d6_65 : decode prog_10_method_1_code 65 = .ok (.putfield 43, 3) := by decide +kernel
theorem own_d6_68 : decode prog_10_method_1_code 68 = .ok (.aload_n 0, 1) := by decide +kernel
theorem own_d6_69 : decode prog_10_method_1_code 69 = .ok (.iload 16, 2) := by decide +kernel
theorem own_d6_71 : decode prog_10_method_1_code 71 = .ok (.putfield 46, 3) := by decide +kernel
theorem own_d6_74 : decode prog_10_method_1_code 74 = .ok (.aload_n 0, 1) := by decide +kernel
theorem own_d6_75 : decode prog_10_method_1_code 75 = .ok (.iload 17, 2) := by decide +kernel
theorem own_d6_77 : decode prog_10_method_1_code 77 = .ok (.putfield 49, 3) := by decide +kernel
theorem own_d6_80 : decode prog_10_method_1_code 80 = .ok (.return_, 1) := by decide +kernel
set_option maxHeartbeats 4000000 in
theorem own_ef6 (m : MethodId) (x0 : Addr) (x1 : UInt64) (x2 : Int32) (x3 : Int32) (x4 : Int32) (x5 : Int32) (x6 : Int32) (x7 : UInt64) (x8 : UInt64) (x9 : Addr) (x10 : Int64) (x11 : Addr) (x12 : Int32) (x13 : Int32) : entryFrame m #[(.ref x0), (.double x1), (.int x2), (.int x3), (.int x4), (.int x5), (.int x6), (.double x7), (.double x8), (.ref x9), (.long x10), (.ref x11), (.int x12), (.int x13)] 18 = mkF m 0 #[.val (.ref x0), .val (.double x1), .second, .val (.int x2), .val (.int x3), .val (.int x4), .val (.int x5), .val (.int x6), .val (.double x7), .second, .val (.double x8), .second, .val (.ref x9), .val (.long x10), .second, .val (.ref x11), .val (.int x12), .val (.int x13)] [] := by first | (simp [entryFrame, mkF, argsToLocals, Value.category]; done) | rfl
theorem own_pn5 : plainName "com/example/kerb2d/kerb2d/engine/Measures" = true := by first | (simp [plainName, overriddenIn]; done) | decide +kernel
def own_Q6 (Z : State) (a0 : Array Value) (a0_ : Addr) (d1 : UInt64) (i2 : Int32) (i3 : Int32) (i4 : Int32) (i5 : Int32) (i6 : Int32) (d7 : UInt64) (d8 : UInt64) (o9 : Addr) (j10 : Int64) (o11 : Addr) (i12 : Int32) (i13 : Int32) (h0 : Heap) (n0 : Nat) (v : Option Value) (h : Heap) (L : List Loc) : Prop := v = none ∧ Fr n0 L ∧ Keep h0 h [a0_] ∧ Exa Z h a0_ "com/example/kerb2d/kerb2d/engine/Measures" ∧ Fld Z h a0_ "com/example/kerb2d/kerb2d/engine/Measures" "arrived" "I" (.int i2) ∧ Fld Z h a0_ "com/example/kerb2d/kerb2d/engine/Measures" "entered" "I" (.int i3) ∧ Fld Z h a0_ "com/example/kerb2d/kerb2d/engine/Measures" "waiting" "I" (.int i4)
set_option maxRecDepth 65536 in
set_option maxHeartbeats 40000000 in
theorem own_rm6 (l : Launch) (Z : State) (a0 : Array Value) (hw : ∀ d ∈ tables_1, d.before a0 Z = true) (ws : List Jvm.Cond) (a0_ : Addr) (d1 : UInt64) (i2 : Int32) (i3 : Int32) (i4 : Int32) (i5 : Int32) (i6 : Int32) (d7 : UInt64) (d8 : UInt64) (o9 : Addr) (j10 : Int64) (o11 : Addr) (i12 : Int32) (i13 : Int32) (h0 : Heap) (n0 : Nat) (Z0 : n0 ≤ h0.size) (E0 : Exa Z h0 a0_ "com/example/kerb2d/kerb2d/engine/Measures") (D0 : ∀ {O nm d : String} {ty : FieldType}, Laid Z a0 "com/example/kerb2d/kerb2d/engine/Measures" O nm d → parseFieldDescriptor d = some ty → Fld Z h0 a0_ O nm d (defaultValue ty)) (G0 : n0 ≤ a0_) :
    MetFree l (⟨"com/example/kerb2d/kerb2d/engine/Measures", "<init>", "(DIIIIIDDLjava/util/OptionalDouble;JLjava/util/OptionalDouble;II)V"⟩ : MethodName) (head1 (Jvm.Cond.code (⟨"com/example/kerb2d/kerb2d/engine/Measures", "<init>", "(DIIIIIDDLjava/util/OptionalDouble;JLjava/util/OptionalDouble;II)V"⟩ : MethodName) prog_10_method_1_code 18 none :: ws) ({ frames := 2, cells := 0, slots := 0, locals := 24 } : Room)) (fun a U => a = #[(.ref a0_), (.double d1), (.int i2), (.int i3), (.int i4), (.int i5), (.int i6), (.double d7), (.double d8), (.ref o9), (.long j10), (.ref o11), (.int i12), (.int i13)] ∧ Z.Warmed39 U.vm ∧ U.heap = h0) (fun _ _ _ _ _ => True) (fun _ U o U' => ∃ v L, o = .returned v ∧ own_Q6 Z a0 a0_ d1 i2 i3 i4 i5 i6 d7 d8 o9 j10 o11 i12 i13 h0 n0 v U'.heap L ∧ FrameEnd U o U' L ({ frames := 2, cells := 0, slots := 0, locals := 24 } : Room).cells ({ frames := 2, cells := 0, slots := 0, locals := 24 } : Room).slots) := by
  refine own_body (Q := fun v h L => own_Q6 Z a0 a0_ d1 i2 i3 i4 i5 i6 d7 d8 o9 j10 o11 i12 i13 h0 n0 v h L) (plainFor_of_name own_pn5) ?_
  intro p e s m below meth c s₁ hx hby hml hZ hown hnm hret hlk X0 e0
  replace hml : c.maxLocals = 18 := hml
  have N0 := Fr.nil n0
  have K0 : Keep h0 h0 [a0_] := Keep.refl _ _
  refine own_st (fun t k => castTop (own_ef6 m a0_ d1 i2 i3 i4 i5 i6 d7 d8 o9 j10 o11 i12 i13) k) ?_
  show own_Run p e below s _ _ _ (s₁.setTop (mkF m 0 #[.val (.ref a0_), .val (.double d1), .second, .val (.int i2), .val (.int i3), .val (.int i4), .val (.int i5), .val (.int i6), .val (.double d7), .second, .val (.double d8), .second, .val (.ref o9), .val (.long j10), .second, .val (.ref o11), .val (.int i12), .val (.int i13)] []))
  refine own_st (fun t k => XS.aloadN X0.here hx rfl (hb hby own_d6_0) rfl rfl k) ?_
  show own_Run p e below s _ _ _ (s₁.setTop (mkF m 1 #[.val (.ref a0_), .val (.double d1), .second, .val (.int i2), .val (.int i3), .val (.int i4), .val (.int i5), .val (.int i6), .val (.double d7), .second, .val (.double d8), .second, .val (.ref o9), .val (.long j10), .second, .val (.ref o11), .val (.int i12), .val (.int i13)] [(.ref a0_)]))
  refine own_callI X0 hx hZ (y := (⟨"java/lang/Record", "<init>", "()V"⟩ : MethodName)) rfl hown (hw _ (List.mem_of_getElem? (i := 45) rfl)) (hw _ (List.mem_of_getElem? (i := 46) rfl)) (hw _ (List.mem_of_getElem? (i := 49) rfl)) (hw _ (List.mem_of_getElem? (i := 48) rfl)) (by decide) e0 (a := a0_) (argsL := []) (rest := []) (W := 0) (own_rm7 l Z a0 hw [] a0_ h0 n0 (Nat.le_trans Z0 K0.1) ) (by decide) (by decide) (by rw [hml]; rfl) (lenOf own_pd2 rfl) rfl (by exact Nat.le_of_eq rfl) (hb hby own_d6_1) (by decide) (by decide) ?_
  intro T155 v155 L155 X155 hq155
  obtain ⟨rfl, N155q, hh155⟩ := hq155
  have N155 := Fr.app N0 N155q
  show own_Run p e below s _ _ _ (T155.setTop (mkF m 4 #[.val (.ref a0_), .val (.double d1), .second, .val (.int i2), .val (.int i3), .val (.int i4), .val (.int i5), .val (.int i6), .val (.double d7), .second, .val (.double d8), .second, .val (.ref o9), .val (.long j10), .second, .val (.ref o11), .val (.int i12), .val (.int i13)] []))
  refine own_st (fun t k => XS.aloadN X155.here hx rfl (hb hby own_d6_4) rfl rfl k) ?_
  show own_Run p e below s _ _ _ (T155.setTop (mkF m 5 #[.val (.ref a0_), .val (.double d1), .second, .val (.int i2), .val (.int i3), .val (.int i4), .val (.int i5), .val (.int i6), .val (.double d7), .second, .val (.double d8), .second, .val (.ref o9), .val (.long j10), .second, .val (.ref o11), .val (.int i12), .val (.int i13)] [(.ref a0_)]))
  refine own_st (fun t k => XS.dloadN X155.here hx rfl (hb hby own_d6_5) rfl k) ?_
  show own_Run p e below s _ _ _ (T155.setTop (mkF m 6 #[.val (.ref a0_), .val (.double d1), .second, .val (.int i2), .val (.int i3), .val (.int i4), .val (.int i5), .val (.int i6), .val (.double d7), .second, .val (.double d8), .second, .val (.ref o9), .val (.long j10), .second, .val (.ref o11), .val (.int i12), .val (.int i13)] [(.double d1), (.ref a0_)]))
  have F156 : Fld Z _ a0_ "com/example/kerb2d/kerb2d/engine/Measures" "time" "D" (.double (0 : UInt64)) := D0 (Or.inr (hw _ (List.mem_of_getElem? (i := 52) rfl))) (ty := .double) (by decide)
  obtain ⟨T157, h157, X157, e157, W157, st157⟩ := putF X155 hx hZ hown (host := "") (Or.inl (hw _ (List.mem_of_getElem? (i := 51) rfl))) Via.refl hh155 F156 E0 (Or.inr ⟨(hw _ (List.mem_of_getElem? (i := 52) rfl)), rfl, hnm⟩) (hw _ (List.mem_of_getElem? (i := 21) rfl)) (ty := .double) (by decide) rfl rfl (g := (mkF m 6 #[.val (.ref a0_), .val (.double d1), .second, .val (.int i2), .val (.int i3), .val (.int i4), .val (.int i5), .val (.int i6), .val (.double d7), .second, .val (.double d8), .second, .val (.ref o9), .val (.long j10), .second, .val (.ref o11), .val (.int i12), .val (.int i13)] [(.double d1), (.ref a0_)])) rfl rfl (hb hby own_d6_6)
  refine own_st st157 ?_
  have Fw157 := F156.same W157
  have N157 := Fr.snoc X157 N155 G0
  have K158 : Keep h0 h157 [a0_] := K0.wr W157 (Or.inl (List.mem_of_getElem? (i := 0) rfl))
  show own_Run p e below s _ _ _ (T157.setTop (mkF m 9 #[.val (.ref a0_), .val (.double d1), .second, .val (.int i2), .val (.int i3), .val (.int i4), .val (.int i5), .val (.int i6), .val (.double d7), .second, .val (.double d8), .second, .val (.ref o9), .val (.long j10), .second, .val (.ref o11), .val (.int i12), .val (.int i13)] []))
  refine own_st (fun t k => XS.aloadN X157.here hx rfl (hb hby own_d6_9) rfl rfl k) ?_
  show own_Run p e below s _ _ _ (T157.setTop (mkF m 10 #[.val (.ref a0_), .val (.double d1), .second, .val (.int i2), .val (.int i3), .val (.int i4), .val (.int i5), .val (.int i6), .val (.double d7), .second, .val (.double d8), .second, .val (.ref o9), .val (.long j10), .second, .val (.ref o11), .val (.int i12), .val (.int i13)] [(.ref a0_)]))
  refine own_st (fun t k => XS.iloadN X157.here hx rfl (hb hby own_d6_10) rfl k) ?_
  show own_Run p e below s _ _ _ (T157.setTop (mkF m 11 #[.val (.ref a0_), .val (.double d1), .second, .val (.int i2), .val (.int i3), .val (.int i4), .val (.int i5), .val (.int i6), .val (.double d7), .second, .val (.double d8), .second, .val (.ref o9), .val (.long j10), .second, .val (.ref o11), .val (.int i12), .val (.int i13)] [(.int i2), (.ref a0_)]))
  have E160 := (E0.wr W157)
  have F161 : Fld Z _ a0_ "com/example/kerb2d/kerb2d/engine/Measures" "arrived" "I" (.int (0 : Int32)) := D0 (Or.inr (hw _ (List.mem_of_getElem? (i := 54) rfl))) (ty := .int) (by decide)
  have F162 := (F161.other W157 (Or.inr (slot_ne (Or.inr (hw _ (List.mem_of_getElem? (i := 54) rfl))) (Or.inr (hw _ (List.mem_of_getElem? (i := 52) rfl))) (by decide) (t := .int) (t' := .double) (by decide) (by decide))))
  obtain ⟨T163, h163, X163, e163, W163, st163⟩ := putF X157 hx hZ hown (host := "") (Or.inl (hw _ (List.mem_of_getElem? (i := 53) rfl))) Via.refl e157 F162 E160 (Or.inr ⟨(hw _ (List.mem_of_getElem? (i := 54) rfl)), rfl, hnm⟩) (hw _ (List.mem_of_getElem? (i := 21) rfl)) (ty := .int) (by decide) rfl rfl (g := (mkF m 11 #[.val (.ref a0_), .val (.double d1), .second, .val (.int i2), .val (.int i3), .val (.int i4), .val (.int i5), .val (.int i6), .val (.double d7), .second, .val (.double d8), .second, .val (.ref o9), .val (.long j10), .second, .val (.ref o11), .val (.int i12), .val (.int i13)] [(.int i2), (.ref a0_)])) rfl rfl (hb hby own_d6_11)
  refine own_st st163 ?_
  have Fw163 := F162.same W163
  have N163 := Fr.snoc X163 N157 G0
  have K164 : Keep h0 h163 [a0_] := K158.wr W163 (Or.inl (List.mem_of_getElem? (i := 0) rfl))
  show own_Run p e below s _ _ _ (T163.setTop (mkF m 14 #[.val (.ref a0_), .val (.double d1), .second, .val (.int i2), .val (.int i3), .val (.int i4), .val (.int i5), .val (.int i6), .val (.double d7), .second, .val (.double d8), .second, .val (.ref o9), .val (.long j10), .second, .val (.ref o11), .val (.int i12), .val (.int i13)] []))
  refine own_st (fun t k => XS.aloadN X163.here hx rfl (hb hby own_d6_14) rfl rfl k) ?_
  show own_Run p e below s _ _ _ (T163.setTop (mkF m 15 #[.val (.ref a0_), .val (.double d1), .second, .val (.int i2), .val (.int i3), .val (.int i4), .val (.int i5), .val (.int i6), .val (.double d7), .second, .val (.double d8), .second, .val (.ref o9), .val (.long j10), .second, .val (.ref o11), .val (.int i12), .val (.int i13)] [(.ref a0_)]))
  refine own_st (fun t k => XS.iload X163.here hx rfl (hb hby own_d6_15) rfl k) ?_
  show own_Run p e below s _ _ _ (T163.setTop (mkF m 17 #[.val (.ref a0_), .val (.double d1), .second, .val (.int i2), .val (.int i3), .val (.int i4), .val (.int i5), .val (.int i6), .val (.double d7), .second, .val (.double d8), .second, .val (.ref o9), .val (.long j10), .second, .val (.ref o11), .val (.int i12), .val (.int i13)] [(.int i3), (.ref a0_)]))
  have E166 := (E160.wr W163)
  have F167 : Fld Z _ a0_ "com/example/kerb2d/kerb2d/engine/Measures" "entered" "I" (.int (0 : Int32)) := D0 (Or.inr (hw _ (List.mem_of_getElem? (i := 56) rfl))) (ty := .int) (by decide)
  have F168 := ((F167.other W157 (Or.inr (slot_ne (Or.inr (hw _ (List.mem_of_getElem? (i := 56) rfl))) (Or.inr (hw _ (List.mem_of_getElem? (i := 52) rfl))) (by decide) (t := .int) (t' := .double) (by decide) (by decide)))).other W163 (Or.inr (slot_ne (Or.inr (hw _ (List.mem_of_getElem? (i := 56) rfl))) (Or.inr (hw _ (List.mem_of_getElem? (i := 54) rfl))) (by decide) (t := .int) (t' := .int) (by decide) (by decide))))
  obtain ⟨T169, h169, X169, e169, W169, st169⟩ := putF X163 hx hZ hown (host := "") (Or.inl (hw _ (List.mem_of_getElem? (i := 55) rfl))) Via.refl e163 F168 E166 (Or.inr ⟨(hw _ (List.mem_of_getElem? (i := 56) rfl)), rfl, hnm⟩) (hw _ (List.mem_of_getElem? (i := 21) rfl)) (ty := .int) (by decide) rfl rfl (g := (mkF m 17 #[.val (.ref a0_), .val (.double d1), .second, .val (.int i2), .val (.int i3), .val (.int i4), .val (.int i5), .val (.int i6), .val (.double d7), .second, .val (.double d8), .second, .val (.ref o9), .val (.long j10), .second, .val (.ref o11), .val (.int i12), .val (.int i13)] [(.int i3), (.ref a0_)])) rfl rfl (hb hby own_d6_17)
  refine own_st st169 ?_
  have Fw169 := F168.same W169
  have N169 := Fr.snoc X169 N163 G0
  have K170 : Keep h0 h169 [a0_] := K164.wr W169 (Or.inl (List.mem_of_getElem? (i := 0) rfl))
  show own_Run p e below s _ _ _ (T169.setTop (mkF m 20 #[.val (.ref a0_), .val (.double d1), .second, .val (.int i2), .val (.int i3), .val (.int i4), .val (.int i5), .val (.int i6), .val (.double d7), .second, .val (.double d8), .second, .val (.ref o9), .val (.long j10), .second, .val (.ref o11), .val (.int i12), .val (.int i13)] []))
  refine own_st (fun t k => XS.aloadN X169.here hx rfl (hb hby own_d6_20) rfl rfl k) ?_
  show own_Run p e below s _ _ _ (T169.setTop (mkF m 21 #[.val (.ref a0_), .val (.double d1), .second, .val (.int i2), .val (.int i3), .val (.int i4), .val (.int i5), .val (.int i6), .val (.double d7), .second, .val (.double d8), .second, .val (.ref o9), .val (.long j10), .second, .val (.ref o11), .val (.int i12), .val (.int i13)] [(.ref a0_)]))
  refine own_st (fun t k => XS.iload X169.here hx rfl (hb hby own_d6_21) rfl k) ?_
  show own_Run p e below s _ _ _ (T169.setTop (mkF m 23 #[.val (.ref a0_), .val (.double d1), .second, .val (.int i2), .val (.int i3), .val (.int i4), .val (.int i5), .val (.int i6), .val (.double d7), .second, .val (.double d8), .second, .val (.ref o9), .val (.long j10), .second, .val (.ref o11), .val (.int i12), .val (.int i13)] [(.int i4), (.ref a0_)]))
  have E172 := (E166.wr W169)
  have F173 : Fld Z _ a0_ "com/example/kerb2d/kerb2d/engine/Measures" "waiting" "I" (.int (0 : Int32)) := D0 (Or.inr (hw _ (List.mem_of_getElem? (i := 58) rfl))) (ty := .int) (by decide)
  have F174 := (((F173.other W157 (Or.inr (slot_ne (Or.inr (hw _ (List.mem_of_getElem? (i := 58) rfl))) (Or.inr (hw _ (List.mem_of_getElem? (i := 52) rfl))) (by decide) (t := .int) (t' := .double) (by decide) (by decide)))).other W163 (Or.inr (slot_ne (Or.inr (hw _ (List.mem_of_getElem? (i := 58) rfl))) (Or.inr (hw _ (List.mem_of_getElem? (i := 54) rfl))) (by decide) (t := .int) (t' := .int) (by decide) (by decide)))).other W169 (Or.inr (slot_ne (Or.inr (hw _ (List.mem_of_getElem? (i := 58) rfl))) (Or.inr (hw _ (List.mem_of_getElem? (i := 56) rfl))) (by decide) (t := .int) (t' := .int) (by decide) (by decide))))
  obtain ⟨T175, h175, X175, e175, W175, st175⟩ := putF X169 hx hZ hown (host := "") (Or.inl (hw _ (List.mem_of_getElem? (i := 57) rfl))) Via.refl e169 F174 E172 (Or.inr ⟨(hw _ (List.mem_of_getElem? (i := 58) rfl)), rfl, hnm⟩) (hw _ (List.mem_of_getElem? (i := 21) rfl)) (ty := .int) (by decide) rfl rfl (g := (mkF m 23 #[.val (.ref a0_), .val (.double d1), .second, .val (.int i2), .val (.int i3), .val (.int i4), .val (.int i5), .val (.int i6), .val (.double d7), .second, .val (.double d8), .second, .val (.ref o9), .val (.long j10), .second, .val (.ref o11), .val (.int i12), .val (.int i13)] [(.int i4), (.ref a0_)])) rfl rfl (hb hby own_d6_23)
  refine own_st st175 ?_
  have Fw175 := F174.same W175
  have N175 := Fr.snoc X175 N169 G0
  have K176 : Keep h0 h175 [a0_] := K170.wr W175 (Or.inl (List.mem_of_getElem? (i := 0) rfl))
  show own_Run p e below s _ _ _ (T175.setTop (mkF m 26 #[.val (.ref a0_), .val (.double d1), .second, .val (.int i2), .val (.int i3), .val (.int i4), .val (.int i5), .val (.int i6), .val (.double d7), .second, .val (.double d8), .second, .val (.ref o9), .val (.long j10), .second, .val (.ref o11), .val (.int i12), .val (.int i13)] []))
  refine own_st (fun t k => XS.aloadN X175.here hx rfl (hb hby own_d6_26) rfl rfl k) ?_
  show own_Run p e below s _ _ _ (T175.setTop (mkF m 27 #[.val (.ref a0_), .val (.double d1), .second, .val (.int i2), .val (.int i3), .val (.int i4), .val (.int i5), .val (.int i6), .val (.double d7), .second, .val (.double d8), .second, .val (.ref o9), .val (.long j10), .second, .val (.ref o11), .val (.int i12), .val (.int i13)] [(.ref a0_)]))
  refine own_st (fun t k => XS.iload X175.here hx rfl (hb hby own_d6_27) rfl k) ?_
  show own_Run p e below s _ _ _ (T175.setTop (mkF m 29 #[.val (.ref a0_), .val (.double d1), .second, .val (.int i2), .val (.int i3), .val (.int i4), .val (.int i5), .val (.int i6), .val (.double d7), .second, .val (.double d8), .second, .val (.ref o9), .val (.long j10), .second, .val (.ref o11), .val (.int i12), .val (.int i13)] [(.int i5), (.ref a0_)]))
  have E178 := (E172.wr W175)
  have F179 : Fld Z _ a0_ "com/example/kerb2d/kerb2d/engine/Measures" "left" "I" (.int (0 : Int32)) := D0 (Or.inr (hw _ (List.mem_of_getElem? (i := 60) rfl))) (ty := .int) (by decide)
  have F180 := ((((F179.other W157 (Or.inr (slot_ne (Or.inr (hw _ (List.mem_of_getElem? (i := 60) rfl))) (Or.inr (hw _ (List.mem_of_getElem? (i := 52) rfl))) (by decide) (t := .int) (t' := .double) (by decide) (by decide)))).other W163 (Or.inr (slot_ne (Or.inr (hw _ (List.mem_of_getElem? (i := 60) rfl))) (Or.inr (hw _ (List.mem_of_getElem? (i := 54) rfl))) (by decide) (t := .int) (t' := .int) (by decide) (by decide)))).other W169 (Or.inr (slot_ne (Or.inr (hw _ (List.mem_of_getElem? (i := 60) rfl))) (Or.inr (hw _ (List.mem_of_getElem? (i := 56) rfl))) (by decide) (t := .int) (t' := .int) (by decide) (by decide)))).other W175 (Or.inr (slot_ne (Or.inr (hw _ (List.mem_of_getElem? (i := 60) rfl))) (Or.inr (hw _ (List.mem_of_getElem? (i := 58) rfl))) (by decide) (t := .int) (t' := .int) (by decide) (by decide))))
  obtain ⟨T181, h181, X181, e181, W181, st181⟩ := putF X175 hx hZ hown (host := "") (Or.inl (hw _ (List.mem_of_getElem? (i := 59) rfl))) Via.refl e175 F180 E178 (Or.inr ⟨(hw _ (List.mem_of_getElem? (i := 60) rfl)), rfl, hnm⟩) (hw _ (List.mem_of_getElem? (i := 21) rfl)) (ty := .int) (by decide) rfl rfl (g := (mkF m 29 #[.val (.ref a0_), .val (.double d1), .second, .val (.int i2), .val (.int i3), .val (.int i4), .val (.int i5), .val (.int i6), .val (.double d7), .second, .val (.double d8), .second, .val (.ref o9), .val (.long j10), .second, .val (.ref o11), .val (.int i12), .val (.int i13)] [(.int i5), (.ref a0_)])) rfl rfl (hb hby own_d6_29)
  refine own_st st181 ?_
  have Fw181 := F180.same W181
  have N181 := Fr.snoc X181 N175 G0
  have K182 : Keep h0 h181 [a0_] := K176.wr W181 (Or.inl (List.mem_of_getElem? (i := 0) rfl))
  show own_Run p e below s _ _ _ (T181.setTop (mkF m 32 #[.val (.ref a0_), .val (.double d1), .second, .val (.int i2), .val (.int i3), .val (.int i4), .val (.int i5), .val (.int i6), .val (.double d7), .second, .val (.double d8), .second, .val (.ref o9), .val (.long j10), .second, .val (.ref o11), .val (.int i12), .val (.int i13)] []))
  refine own_st (fun t k => XS.aloadN X181.here hx rfl (hb hby own_d6_32) rfl rfl k) ?_
  show own_Run p e below s _ _ _ (T181.setTop (mkF m 33 #[.val (.ref a0_), .val (.double d1), .second, .val (.int i2), .val (.int i3), .val (.int i4), .val (.int i5), .val (.int i6), .val (.double d7), .second, .val (.double d8), .second, .val (.ref o9), .val (.long j10), .second, .val (.ref o11), .val (.int i12), .val (.int i13)] [(.ref a0_)]))
  refine own_st (fun t k => XS.iload X181.here hx rfl (hb hby own_d6_33) rfl k) ?_
  show own_Run p e below s _ _ _ (T181.setTop (mkF m 35 #[.val (.ref a0_), .val (.double d1), .second, .val (.int i2), .val (.int i3), .val (.int i4), .val (.int i5), .val (.int i6), .val (.double d7), .second, .val (.double d8), .second, .val (.ref o9), .val (.long j10), .second, .val (.ref o11), .val (.int i12), .val (.int i13)] [(.int i6), (.ref a0_)]))
  have E184 := (E178.wr W181)
  have F185 : Fld Z _ a0_ "com/example/kerb2d/kerb2d/engine/Measures" "present" "I" (.int (0 : Int32)) := D0 (Or.inr (hw _ (List.mem_of_getElem? (i := 62) rfl))) (ty := .int) (by decide)
  have F186 := (((((F185.other W157 (Or.inr (slot_ne (Or.inr (hw _ (List.mem_of_getElem? (i := 62) rfl))) (Or.inr (hw _ (List.mem_of_getElem? (i := 52) rfl))) (by decide) (t := .int) (t' := .double) (by decide) (by decide)))).other W163 (Or.inr (slot_ne (Or.inr (hw _ (List.mem_of_getElem? (i := 62) rfl))) (Or.inr (hw _ (List.mem_of_getElem? (i := 54) rfl))) (by decide) (t := .int) (t' := .int) (by decide) (by decide)))).other W169 (Or.inr (slot_ne (Or.inr (hw _ (List.mem_of_getElem? (i := 62) rfl))) (Or.inr (hw _ (List.mem_of_getElem? (i := 56) rfl))) (by decide) (t := .int) (t' := .int) (by decide) (by decide)))).other W175 (Or.inr (slot_ne (Or.inr (hw _ (List.mem_of_getElem? (i := 62) rfl))) (Or.inr (hw _ (List.mem_of_getElem? (i := 58) rfl))) (by decide) (t := .int) (t' := .int) (by decide) (by decide)))).other W181 (Or.inr (slot_ne (Or.inr (hw _ (List.mem_of_getElem? (i := 62) rfl))) (Or.inr (hw _ (List.mem_of_getElem? (i := 60) rfl))) (by decide) (t := .int) (t' := .int) (by decide) (by decide))))
  obtain ⟨T187, h187, X187, e187, W187, st187⟩ := putF X181 hx hZ hown (host := "") (Or.inl (hw _ (List.mem_of_getElem? (i := 61) rfl))) Via.refl e181 F186 E184 (Or.inr ⟨(hw _ (List.mem_of_getElem? (i := 62) rfl)), rfl, hnm⟩) (hw _ (List.mem_of_getElem? (i := 21) rfl)) (ty := .int) (by decide) rfl rfl (g := (mkF m 35 #[.val (.ref a0_), .val (.double d1), .second, .val (.int i2), .val (.int i3), .val (.int i4), .val (.int i5), .val (.int i6), .val (.double d7), .second, .val (.double d8), .second, .val (.ref o9), .val (.long j10), .second, .val (.ref o11), .val (.int i12), .val (.int i13)] [(.int i6), (.ref a0_)])) rfl rfl (hb hby own_d6_35)
  refine own_st st187 ?_
  have Fw187 := F186.same W187
  have N187 := Fr.snoc X187 N181 G0
  have K188 : Keep h0 h187 [a0_] := K182.wr W187 (Or.inl (List.mem_of_getElem? (i := 0) rfl))
  show own_Run p e below s _ _ _ (T187.setTop (mkF m 38 #[.val (.ref a0_), .val (.double d1), .second, .val (.int i2), .val (.int i3), .val (.int i4), .val (.int i5), .val (.int i6), .val (.double d7), .second, .val (.double d8), .second, .val (.ref o9), .val (.long j10), .second, .val (.ref o11), .val (.int i12), .val (.int i13)] []))
  refine own_st (fun t k => XS.aloadN X187.here hx rfl (hb hby own_d6_38) rfl rfl k) ?_
  show own_Run p e below s _ _ _ (T187.setTop (mkF m 39 #[.val (.ref a0_), .val (.double d1), .second, .val (.int i2), .val (.int i3), .val (.int i4), .val (.int i5), .val (.int i6), .val (.double d7), .second, .val (.double d8), .second, .val (.ref o9), .val (.long j10), .second, .val (.ref o11), .val (.int i12), .val (.int i13)] [(.ref a0_)]))
  refine own_st (fun t k => XS.dload X187.here hx rfl (hb hby own_d6_39) rfl k) ?_
  show own_Run p e below s _ _ _ (T187.setTop (mkF m 41 #[.val (.ref a0_), .val (.double d1), .second, .val (.int i2), .val (.int i3), .val (.int i4), .val (.int i5), .val (.int i6), .val (.double d7), .second, .val (.double d8), .second, .val (.ref o9), .val (.long j10), .second, .val (.ref o11), .val (.int i12), .val (.int i13)] [(.double d7), (.ref a0_)]))
  have E190 := (E184.wr W187)
  have F191 : Fld Z _ a0_ "com/example/kerb2d/kerb2d/engine/Measures" "meanSpeed" "D" (.double (0 : UInt64)) := D0 (Or.inr (hw _ (List.mem_of_getElem? (i := 64) rfl))) (ty := .double) (by decide)
  have F192 := ((((((F191.other W157 (Or.inr (slot_ne (Or.inr (hw _ (List.mem_of_getElem? (i := 64) rfl))) (Or.inr (hw _ (List.mem_of_getElem? (i := 52) rfl))) (by decide) (t := .double) (t' := .double) (by decide) (by decide)))).other W163 (Or.inr (slot_ne (Or.inr (hw _ (List.mem_of_getElem? (i := 64) rfl))) (Or.inr (hw _ (List.mem_of_getElem? (i := 54) rfl))) (by decide) (t := .double) (t' := .int) (by decide) (by decide)))).other W169 (Or.inr (slot_ne (Or.inr (hw _ (List.mem_of_getElem? (i := 64) rfl))) (Or.inr (hw _ (List.mem_of_getElem? (i := 56) rfl))) (by decide) (t := .double) (t' := .int) (by decide) (by decide)))).other W175 (Or.inr (slot_ne (Or.inr (hw _ (List.mem_of_getElem? (i := 64) rfl))) (Or.inr (hw _ (List.mem_of_getElem? (i := 58) rfl))) (by decide) (t := .double) (t' := .int) (by decide) (by decide)))).other W181 (Or.inr (slot_ne (Or.inr (hw _ (List.mem_of_getElem? (i := 64) rfl))) (Or.inr (hw _ (List.mem_of_getElem? (i := 60) rfl))) (by decide) (t := .double) (t' := .int) (by decide) (by decide)))).other W187 (Or.inr (slot_ne (Or.inr (hw _ (List.mem_of_getElem? (i := 64) rfl))) (Or.inr (hw _ (List.mem_of_getElem? (i := 62) rfl))) (by decide) (t := .double) (t' := .int) (by decide) (by decide))))
  obtain ⟨T193, h193, X193, e193, W193, st193⟩ := putF X187 hx hZ hown (host := "") (Or.inl (hw _ (List.mem_of_getElem? (i := 63) rfl))) Via.refl e187 F192 E190 (Or.inr ⟨(hw _ (List.mem_of_getElem? (i := 64) rfl)), rfl, hnm⟩) (hw _ (List.mem_of_getElem? (i := 21) rfl)) (ty := .double) (by decide) rfl rfl (g := (mkF m 41 #[.val (.ref a0_), .val (.double d1), .second, .val (.int i2), .val (.int i3), .val (.int i4), .val (.int i5), .val (.int i6), .val (.double d7), .second, .val (.double d8), .second, .val (.ref o9), .val (.long j10), .second, .val (.ref o11), .val (.int i12), .val (.int i13)] [(.double d7), (.ref a0_)])) rfl rfl (hb hby own_d6_41)
  refine own_st st193 ?_
  have Fw193 := F192.same W193
  have N193 := Fr.snoc X193 N187 G0
  have K194 : Keep h0 h193 [a0_] := K188.wr W193 (Or.inl (List.mem_of_getElem? (i := 0) rfl))
  show own_Run p e below s _ _ _ (T193.setTop (mkF m 44 #[.val (.ref a0_), .val (.double d1), .second, .val (.int i2), .val (.int i3), .val (.int i4), .val (.int i5), .val (.int i6), .val (.double d7), .second, .val (.double d8), .second, .val (.ref o9), .val (.long j10), .second, .val (.ref o11), .val (.int i12), .val (.int i13)] []))
  refine own_st (fun t k => XS.aloadN X193.here hx rfl (hb hby own_d6_44) rfl rfl k) ?_
  show own_Run p e below s _ _ _ (T193.setTop (mkF m 45 #[.val (.ref a0_), .val (.double d1), .second, .val (.int i2), .val (.int i3), .val (.int i4), .val (.int i5), .val (.int i6), .val (.double d7), .second, .val (.double d8), .second, .val (.ref o9), .val (.long j10), .second, .val (.ref o11), .val (.int i12), .val (.int i13)] [(.ref a0_)]))
  refine own_st (fun t k => XS.dload X193.here hx rfl (hb hby own_d6_45) rfl k) ?_
  show own_Run p e below s _ _ _ (T193.setTop (mkF m 47 #[.val (.ref a0_), .val (.double d1), .second, .val (.int i2), .val (.int i3), .val (.int i4), .val (.int i5), .val (.int i6), .val (.double d7), .second, .val (.double d8), .second, .val (.ref o9), .val (.long j10), .second, .val (.ref o11), .val (.int i12), .val (.int i13)] [(.double d8), (.ref a0_)]))
  have E196 := (E190.wr W193)
  have F197 : Fld Z _ a0_ "com/example/kerb2d/kerb2d/engine/Measures" "density" "D" (.double (0 : UInt64)) := D0 (Or.inr (hw _ (List.mem_of_getElem? (i := 66) rfl))) (ty := .double) (by decide)
  have F198 := (((((((F197.other W157 (Or.inr (slot_ne (Or.inr (hw _ (List.mem_of_getElem? (i := 66) rfl))) (Or.inr (hw _ (List.mem_of_getElem? (i := 52) rfl))) (by decide) (t := .double) (t' := .double) (by decide) (by decide)))).other W163 (Or.inr (slot_ne (Or.inr (hw _ (List.mem_of_getElem? (i := 66) rfl))) (Or.inr (hw _ (List.mem_of_getElem? (i := 54) rfl))) (by decide) (t := .double) (t' := .int) (by decide) (by decide)))).other W169 (Or.inr (slot_ne (Or.inr (hw _ (List.mem_of_getElem? (i := 66) rfl))) (Or.inr (hw _ (List.mem_of_getElem? (i := 56) rfl))) (by decide) (t := .double) (t' := .int) (by decide) (by decide)))).other W175 (Or.inr (slot_ne (Or.inr (hw _ (List.mem_of_getElem? (i := 66) rfl))) (Or.inr (hw _ (List.mem_of_getElem? (i := 58) rfl))) (by decide) (t := .double) (t' := .int) (by decide) (by decide)))).other W181 (Or.inr (slot_ne (Or.inr (hw _ (List.mem_of_getElem? (i := 66) rfl))) (Or.inr (hw _ (List.mem_of_getElem? (i := 60) rfl))) (by decide) (t := .double) (t' := .int) (by decide) (by decide)))).other W187 (Or.inr (slot_ne (Or.inr (hw _ (List.mem_of_getElem? (i := 66) rfl))) (Or.inr (hw _ (List.mem_of_getElem? (i := 62) rfl))) (by decide) (t := .double) (t' := .int) (by decide) (by decide)))).other W193 (Or.inr (slot_ne (Or.inr (hw _ (List.mem_of_getElem? (i := 66) rfl))) (Or.inr (hw _ (List.mem_of_getElem? (i := 64) rfl))) (by decide) (t := .double) (t' := .double) (by decide) (by decide))))
  obtain ⟨T199, h199, X199, e199, W199, st199⟩ := putF X193 hx hZ hown (host := "") (Or.inl (hw _ (List.mem_of_getElem? (i := 65) rfl))) Via.refl e193 F198 E196 (Or.inr ⟨(hw _ (List.mem_of_getElem? (i := 66) rfl)), rfl, hnm⟩) (hw _ (List.mem_of_getElem? (i := 21) rfl)) (ty := .double) (by decide) rfl rfl (g := (mkF m 47 #[.val (.ref a0_), .val (.double d1), .second, .val (.int i2), .val (.int i3), .val (.int i4), .val (.int i5), .val (.int i6), .val (.double d7), .second, .val (.double d8), .second, .val (.ref o9), .val (.long j10), .second, .val (.ref o11), .val (.int i12), .val (.int i13)] [(.double d8), (.ref a0_)])) rfl rfl (hb hby own_d6_47)
  refine own_st st199 ?_
  have Fw199 := F198.same W199
  have N199 := Fr.snoc X199 N193 G0
  have K200 : Keep h0 h199 [a0_] := K194.wr W199 (Or.inl (List.mem_of_getElem? (i := 0) rfl))
  show own_Run p e below s _ _ _ (T199.setTop (mkF m 50 #[.val (.ref a0_), .val (.double d1), .second, .val (.int i2), .val (.int i3), .val (.int i4), .val (.int i5), .val (.int i6), .val (.double d7), .second, .val (.double d8), .second, .val (.ref o9), .val (.long j10), .second, .val (.ref o11), .val (.int i12), .val (.int i13)] []))
  refine own_st (fun t k => XS.aloadN X199.here hx rfl (hb hby own_d6_50) rfl rfl k) ?_
  show own_Run p e below s _ _ _ (T199.setTop (mkF m 51 #[.val (.ref a0_), .val (.double d1), .second, .val (.int i2), .val (.int i3), .val (.int i4), .val (.int i5), .val (.int i6), .val (.double d7), .second, .val (.double d8), .second, .val (.ref o9), .val (.long j10), .second, .val (.ref o11), .val (.int i12), .val (.int i13)] [(.ref a0_)]))
  refine own_st (fun t k => XS.aload X199.here hx rfl (hb hby own_d6_51) rfl rfl k) ?_
  show own_Run p e below s _ _ _ (T199.setTop (mkF m 53 #[.val (.ref a0_), .val (.double d1), .second, .val (.int i2), .val (.int i3), .val (.int i4), .val (.int i5), .val (.int i6), .val (.double d7), .second, .val (.double d8), .second, .val (.ref o9), .val (.long j10), .second, .val (.ref o11), .val (.int i12), .val (.int i13)] [(.ref o9), (.ref a0_)]))
  have E202 := (E196.wr W199)
  have F203 : Fld Z _ a0_ "com/example/kerb2d/kerb2d/engine/Measures" "meanDelay" "Ljava/util/OptionalDouble;" .null := D0 (Or.inr (hw _ (List.mem_of_getElem? (i := 68) rfl))) (ty := (.object "java/util/OptionalDouble")) (by decide)
  have F204 := ((((((((F203.other W157 (Or.inr (slot_ne (Or.inr (hw _ (List.mem_of_getElem? (i := 68) rfl))) (Or.inr (hw _ (List.mem_of_getElem? (i := 52) rfl))) (by decide) (t := (.object "java/util/OptionalDouble")) (t' := .double) (by decide) (by decide)))).other W163 (Or.inr (slot_ne (Or.inr (hw _ (List.mem_of_getElem? (i := 68) rfl))) (Or.inr (hw _ (List.mem_of_getElem? (i := 54) rfl))) (by decide) (t := (.object "java/util/OptionalDouble")) (t' := .int) (by decide) (by decide)))).other W169 (Or.inr (slot_ne (Or.inr (hw _ (List.mem_of_getElem? (i := 68) rfl))) (Or.inr (hw _ (List.mem_of_getElem? (i := 56) rfl))) (by decide) (t := (.object "java/util/OptionalDouble")) (t' := .int) (by decide) (by decide)))).other W175 (Or.inr (slot_ne (Or.inr (hw _ (List.mem_of_getElem? (i := 68) rfl))) (Or.inr (hw _ (List.mem_of_getElem? (i := 58) rfl))) (by decide) (t := (.object "java/util/OptionalDouble")) (t' := .int) (by decide) (by decide)))).other W181 (Or.inr (slot_ne (Or.inr (hw _ (List.mem_of_getElem? (i := 68) rfl))) (Or.inr (hw _ (List.mem_of_getElem? (i := 60) rfl))) (by decide) (t := (.object "java/util/OptionalDouble")) (t' := .int) (by decide) (by decide)))).other W187 (Or.inr (slot_ne (Or.inr (hw _ (List.mem_of_getElem? (i := 68) rfl))) (Or.inr (hw _ (List.mem_of_getElem? (i := 62) rfl))) (by decide) (t := (.object "java/util/OptionalDouble")) (t' := .int) (by decide) (by decide)))).other W193 (Or.inr (slot_ne (Or.inr (hw _ (List.mem_of_getElem? (i := 68) rfl))) (Or.inr (hw _ (List.mem_of_getElem? (i := 64) rfl))) (by decide) (t := (.object "java/util/OptionalDouble")) (t' := .double) (by decide) (by decide)))).other W199 (Or.inr (slot_ne (Or.inr (hw _ (List.mem_of_getElem? (i := 68) rfl))) (Or.inr (hw _ (List.mem_of_getElem? (i := 66) rfl))) (by decide) (t := (.object "java/util/OptionalDouble")) (t' := .double) (by decide) (by decide))))
  obtain ⟨T205, h205, X205, e205, W205, st205⟩ := putF X199 hx hZ hown (host := "") (Or.inl (hw _ (List.mem_of_getElem? (i := 67) rfl))) Via.refl e199 F204 E202 (Or.inr ⟨(hw _ (List.mem_of_getElem? (i := 68) rfl)), rfl, hnm⟩) (hw _ (List.mem_of_getElem? (i := 21) rfl)) (ty := (.object "java/util/OptionalDouble")) (by decide) rfl rfl (g := (mkF m 53 #[.val (.ref a0_), .val (.double d1), .second, .val (.int i2), .val (.int i3), .val (.int i4), .val (.int i5), .val (.int i6), .val (.double d7), .second, .val (.double d8), .second, .val (.ref o9), .val (.long j10), .second, .val (.ref o11), .val (.int i12), .val (.int i13)] [(.ref o9), (.ref a0_)])) rfl rfl (hb hby own_d6_53)
  refine own_st st205 ?_
  have Fw205 := F204.same W205
  have N205 := Fr.snoc X205 N199 G0
  have K206 : Keep h0 h205 [a0_] := K200.wr W205 (Or.inl (List.mem_of_getElem? (i := 0) rfl))
  show own_Run p e below s _ _ _ (T205.setTop (mkF m 56 #[.val (.ref a0_), .val (.double d1), .second, .val (.int i2), .val (.int i3), .val (.int i4), .val (.int i5), .val (.int i6), .val (.double d7), .second, .val (.double d8), .second, .val (.ref o9), .val (.long j10), .second, .val (.ref o11), .val (.int i12), .val (.int i13)] []))
  refine own_st (fun t k => XS.aloadN X205.here hx rfl (hb hby own_d6_56) rfl rfl k) ?_
  show own_Run p e below s _ _ _ (T205.setTop (mkF m 57 #[.val (.ref a0_), .val (.double d1), .second, .val (.int i2), .val (.int i3), .val (.int i4), .val (.int i5), .val (.int i6), .val (.double d7), .second, .val (.double d8), .second, .val (.ref o9), .val (.long j10), .second, .val (.ref o11), .val (.int i12), .val (.int i13)] [(.ref a0_)]))
  refine own_st (fun t k => XS.lload X205.here hx rfl (hb hby own_d6_57) rfl k) ?_
  show own_Run p e below s _ _ _ (T205.setTop (mkF m 59 #[.val (.ref a0_), .val (.double d1), .second, .val (.int i2), .val (.int i3), .val (.int i4), .val (.int i5), .val (.int i6), .val (.double d7), .second, .val (.double d8), .second, .val (.ref o9), .val (.long j10), .second, .val (.ref o11), .val (.int i12), .val (.int i13)] [(.long j10), (.ref a0_)]))
  have E208 := (E202.wr W205)
  have F209 : Fld Z _ a0_ "com/example/kerb2d/kerb2d/engine/Measures" "totalConflicts" "J" (.long (0 : Int64)) := D0 (Or.inr (hw _ (List.mem_of_getElem? (i := 70) rfl))) (ty := .long) (by decide)
  have F210 := (((((((((F209.other W157 (Or.inr (slot_ne (Or.inr (hw _ (List.mem_of_getElem? (i := 70) rfl))) (Or.inr (hw _ (List.mem_of_getElem? (i := 52) rfl))) (by decide) (t := .long) (t' := .double) (by decide) (by decide)))).other W163 (Or.inr (slot_ne (Or.inr (hw _ (List.mem_of_getElem? (i := 70) rfl))) (Or.inr (hw _ (List.mem_of_getElem? (i := 54) rfl))) (by decide) (t := .long) (t' := .int) (by decide) (by decide)))).other W169 (Or.inr (slot_ne (Or.inr (hw _ (List.mem_of_getElem? (i := 70) rfl))) (Or.inr (hw _ (List.mem_of_getElem? (i := 56) rfl))) (by decide) (t := .long) (t' := .int) (by decide) (by decide)))).other W175 (Or.inr (slot_ne (Or.inr (hw _ (List.mem_of_getElem? (i := 70) rfl))) (Or.inr (hw _ (List.mem_of_getElem? (i := 58) rfl))) (by decide) (t := .long) (t' := .int) (by decide) (by decide)))).other W181 (Or.inr (slot_ne (Or.inr (hw _ (List.mem_of_getElem? (i := 70) rfl))) (Or.inr (hw _ (List.mem_of_getElem? (i := 60) rfl))) (by decide) (t := .long) (t' := .int) (by decide) (by decide)))).other W187 (Or.inr (slot_ne (Or.inr (hw _ (List.mem_of_getElem? (i := 70) rfl))) (Or.inr (hw _ (List.mem_of_getElem? (i := 62) rfl))) (by decide) (t := .long) (t' := .int) (by decide) (by decide)))).other W193 (Or.inr (slot_ne (Or.inr (hw _ (List.mem_of_getElem? (i := 70) rfl))) (Or.inr (hw _ (List.mem_of_getElem? (i := 64) rfl))) (by decide) (t := .long) (t' := .double) (by decide) (by decide)))).other W199 (Or.inr (slot_ne (Or.inr (hw _ (List.mem_of_getElem? (i := 70) rfl))) (Or.inr (hw _ (List.mem_of_getElem? (i := 66) rfl))) (by decide) (t := .long) (t' := .double) (by decide) (by decide)))).other W205 (Or.inr (slot_ne (Or.inr (hw _ (List.mem_of_getElem? (i := 70) rfl))) (Or.inr (hw _ (List.mem_of_getElem? (i := 68) rfl))) (by decide) (t := .long) (t' := (.object "java/util/OptionalDouble")) (by decide) (by decide))))
  obtain ⟨T211, h211, X211, e211, W211, st211⟩ := putF X205 hx hZ hown (host := "") (Or.inl (hw _ (List.mem_of_getElem? (i := 69) rfl))) Via.refl e205 F210 E208 (Or.inr ⟨(hw _ (List.mem_of_getElem? (i := 70) rfl)), rfl, hnm⟩) (hw _ (List.mem_of_getElem? (i := 21) rfl)) (ty := .long) (by decide) rfl rfl (g := (mkF m 59 #[.val (.ref a0_), .val (.double d1), .second, .val (.int i2), .val (.int i3), .val (.int i4), .val (.int i5), .val (.int i6), .val (.double d7), .second, .val (.double d8), .second, .val (.ref o9), .val (.long j10), .second, .val (.ref o11), .val (.int i12), .val (.int i13)] [(.long j10), (.ref a0_)])) rfl rfl (hb hby own_d6_59)
  refine own_st st211 ?_
  have Fw211 := F210.same W211
  have N211 := Fr.snoc X211 N205 G0
  have K212 : Keep h0 h211 [a0_] := K206.wr W211 (Or.inl (List.mem_of_getElem? (i := 0) rfl))
  show own_Run p e below s _ _ _ (T211.setTop (mkF m 62 #[.val (.ref a0_), .val (.double d1), .second, .val (.int i2), .val (.int i3), .val (.int i4), .val (.int i5), .val (.int i6), .val (.double d7), .second, .val (.double d8), .second, .val (.ref o9), .val (.long j10), .second, .val (.ref o11), .val (.int i12), .val (.int i13)] []))
  refine own_st (fun t k => XS.aloadN X211.here hx rfl (hb hby own_d6_62) rfl rfl k) ?_
  show own_Run p e below s _ _ _ (T211.setTop (mkF m 63 #[.val (.ref a0_), .val (.double d1), .second, .val (.int i2), .val (.int i3), .val (.int i4), .val (.int i5), .val (.int i6), .val (.double d7), .second, .val (.double d8), .second, .val (.ref o9), .val (.long j10), .second, .val (.ref o11), .val (.int i12), .val (.int i13)] [(.ref a0_)]))
  refine own_st (fun t k => XS.aload X211.here hx rfl (hb hby own_d6_63) rfl rfl k) ?_
  show own_Run p e below s _ _ _ (T211.setTop (mkF m 65 #[.val (.ref a0_), .val (.double d1), .second, .val (.int i2), .val (.int i3), .val (.int i4), .val (.int i5), .val (.int i6), .val (.double d7), .second, .val (.double d8), .second, .val (.ref o9), .val (.long j10), .second, .val (.ref o11), .val (.int i12), .val (.int i13)] [(.ref o11), (.ref a0_)]))
  have E214 := (E208.wr W211)
  have F215 : Fld Z _ a0_ "com/example/kerb2d/kerb2d/engine/Measures" "meanConflicts" "Ljava/util/OptionalDouble;" .null := D0 (Or.inr (hw _ (List.mem_of_getElem? (i := 72) rfl))) (ty := (.object "java/util/OptionalDouble")) (by decide)
  have F216 := ((((((((((F215.other W157 (Or.inr (slot_ne (Or.inr (hw _ (List.mem_of_getElem? (i := 72) rfl))) (Or.inr (hw _ (List.mem_of_getElem? (i := 52) rfl))) (by decide) (t := (.object "java/util/OptionalDouble")) (t' := .double) (by decide) (by decide)))).other W163 (Or.inr (slot_ne (Or.inr (hw _ (List.mem_of_getElem? (i := 72) rfl))) (Or.inr (hw _ (List.mem_of_getElem? (i := 54) rfl))) (by decide) (t := (.object "java/util/OptionalDouble")) (t' := .int) (by decide) (by decide)))).other W169 (Or.inr (slot_ne (Or.inr (hw _ (List.mem_of_getElem? (i := 72) rfl))) (Or.inr (hw _ (List.mem_of_getElem? (i := 56) rfl))) (by decide) (t := (.object "java/util/OptionalDouble")) (t' := .int) (by decide) (by decide)))).other W175 (Or.inr (slot_ne (Or.inr (hw _ (List.mem_of_getElem? (i := 72) rfl))) (Or.inr (hw _ (List.mem_of_getElem? (i := 58) rfl))) (by decide) (t := (.object "java/util/OptionalDouble")) (t' := .int) (by decide) (by decide)))).other W181 (Or.inr (slot_ne (Or.inr (hw _ (List.mem_of_getElem? (i := 72) rfl))) (Or.inr (hw _ (List.mem_of_getElem? (i := 60) rfl))) (by decide) (t := (.object "java/util/OptionalDouble")) (t' := .int) (by decide) (by decide)))).other W187 (Or.inr (slot_ne (Or.inr (hw _ (List.mem_of_getElem? (i := 72) rfl))) (Or.inr (hw _ (List.mem_of_getElem? (i := 62) rfl))) (by decide) (t := (.object "java/util/OptionalDouble")) (t' := .int) (by decide) (by decide)))).other W193 (Or.inr (slot_ne (Or.inr (hw _ (List.mem_of_getElem? (i := 72) rfl))) (Or.inr (hw _ (List.mem_of_getElem? (i := 64) rfl))) (by decide) (t := (.object "java/util/OptionalDouble")) (t' := .double) (by decide) (by decide)))).other W199 (Or.inr (slot_ne (Or.inr (hw _ (List.mem_of_getElem? (i := 72) rfl))) (Or.inr (hw _ (List.mem_of_getElem? (i := 66) rfl))) (by decide) (t := (.object "java/util/OptionalDouble")) (t' := .double) (by decide) (by decide)))).other W205 (Or.inr (slot_ne (Or.inr (hw _ (List.mem_of_getElem? (i := 72) rfl))) (Or.inr (hw _ (List.mem_of_getElem? (i := 68) rfl))) (by decide) (t := (.object "java/util/OptionalDouble")) (t' := (.object "java/util/OptionalDouble")) (by decide) (by decide)))).other W211 (Or.inr (slot_ne (Or.inr (hw _ (List.mem_of_getElem? (i := 72) rfl))) (Or.inr (hw _ (List.mem_of_getElem? (i := 70) rfl))) (by decide) (t := (.object "java/util/OptionalDouble")) (t' := .long) (by decide) (by decide))))
  obtain ⟨T217, h217, X217, e217, W217, st217⟩ := putF X211 hx hZ hown (host := "") (Or.inl (hw _ (List.mem_of_getElem? (i := 71) rfl))) Via.refl e211 F216 E214 (Or.inr ⟨(hw _ (List.mem_of_getElem? (i := 72) rfl)), rfl, hnm⟩) (hw _ (List.mem_of_getElem? (i := 21) rfl)) (ty := (.object "java/util/OptionalDouble")) (by decide) rfl rfl (g := (mkF m 65 #[.val (.ref a0_), .val (.double d1), .second, .val (.int i2), .val (.int i3), .val (.int i4), .val (.int i5), .val (.int i6), .val (.double d7), .second, .val (.double d8), .second, .val (.ref o9), .val (.long j10), .second, .val (.ref o11), .val (.int i12), .val (.int i13)] [(.ref o11), (.ref a0_)])) rfl rfl (hb hby own_d6_65)
  refine own_st st217 ?_
  have Fw217 := F216.same W217
  have N217 := Fr.snoc X217 N211 G0
  have K218 : Keep h0 h217 [a0_] := K212.wr W217 (Or.inl (List.mem_of_getElem? (i := 0) rfl))
  show own_Run p e below s _ _ _ (T217.setTop (mkF m 68 #[.val (.ref a0_), .val (.double d1), .second, .val (.int i2), .val (.int i3), .val (.int i4), .val (.int i5), .val (.int i6), .val (.double d7), .second, .val (.double d8), .second, .val (.ref o9), .val (.long j10), .second, .val (.ref o11), .val (.int i12), .val (.int i13)] []))
  refine own_st (fun t k => XS.aloadN X217.here hx rfl (hb hby own_d6_68) rfl rfl k) ?_
  show own_Run p e below s _ _ _ (T217.setTop (mkF m 69 #[.val (.ref a0_), .val (.double d1), .second, .val (.int i2), .val (.int i3), .val (.int i4), .val (.int i5), .val (.int i6), .val (.double d7), .second, .val (.double d8), .second, .val (.ref o9), .val (.long j10), .second, .val (.ref o11), .val (.int i12), .val (.int i13)] [(.ref a0_)]))
  refine own_st (fun t k => XS.iload X217.here hx rfl (hb hby own_d6_69) rfl k) ?_
  show own_Run p e below s _ _ _ (T217.setTop (mkF m 71 #[.val (.ref a0_), .val (.double d1), .second, .val (.int i2), .val (.int i3), .val (.int i4), .val (.int i5), .val (.int i6), .val (.double d7), .second, .val (.double d8), .second, .val (.ref o9), .val (.long j10), .second, .val (.ref o11), .val (.int i12), .val (.int i13)] [(.int i12), (.ref a0_)]))
  have E220 := (E214.wr W217)
  have F221 : Fld Z _ a0_ "com/example/kerb2d/kerb2d/engine/Measures" "boarded" "I" (.int (0 : Int32)) := D0 (Or.inr (hw _ (List.mem_of_getElem? (i := 74) rfl))) (ty := .int) (by decide)
  have F222 := (((((((((((F221.other W157 (Or.inr (slot_ne (Or.inr (hw _ (List.mem_of_getElem? (i := 74) rfl))) (Or.inr (hw _ (List.mem_of_getElem? (i := 52) rfl))) (by decide) (t := .int) (t' := .double) (by decide) (by decide)))).other W163 (Or.inr (slot_ne (Or.inr (hw _ (List.mem_of_getElem? (i := 74) rfl))) (Or.inr (hw _ (List.mem_of_getElem? (i := 54) rfl))) (by decide) (t := .int) (t' := .int) (by decide) (by decide)))).other W169 (Or.inr (slot_ne (Or.inr (hw _ (List.mem_of_getElem? (i := 74) rfl))) (Or.inr (hw _ (List.mem_of_getElem? (i := 56) rfl))) (by decide) (t := .int) (t' := .int) (by decide) (by decide)))).other W175 (Or.inr (slot_ne (Or.inr (hw _ (List.mem_of_getElem? (i := 74) rfl))) (Or.inr (hw _ (List.mem_of_getElem? (i := 58) rfl))) (by decide) (t := .int) (t' := .int) (by decide) (by decide)))).other W181 (Or.inr (slot_ne (Or.inr (hw _ (List.mem_of_getElem? (i := 74) rfl))) (Or.inr (hw _ (List.mem_of_getElem? (i := 60) rfl))) (by decide) (t := .int) (t' := .int) (by decide) (by decide)))).other W187 (Or.inr (slot_ne (Or.inr (hw _ (List.mem_of_getElem? (i := 74) rfl))) (Or.inr (hw _ (List.mem_of_getElem? (i := 62) rfl))) (by decide) (t := .int) (t' := .int) (by decide) (by decide)))).other W193 (Or.inr (slot_ne (Or.inr (hw _ (List.mem_of_getElem? (i := 74) rfl))) (Or.inr (hw _ (List.mem_of_getElem? (i := 64) rfl))) (by decide) (t := .int) (t' := .double) (by decide) (by decide)))).other W199 (Or.inr (slot_ne (Or.inr (hw _ (List.mem_of_getElem? (i := 74) rfl))) (Or.inr (hw _ (List.mem_of_getElem? (i := 66) rfl))) (by decide) (t := .int) (t' := .double) (by decide) (by decide)))).other W205 (Or.inr (slot_ne (Or.inr (hw _ (List.mem_of_getElem? (i := 74) rfl))) (Or.inr (hw _ (List.mem_of_getElem? (i := 68) rfl))) (by decide) (t := .int) (t' := (.object "java/util/OptionalDouble")) (by decide) (by decide)))).other W211 (Or.inr (slot_ne (Or.inr (hw _ (List.mem_of_getElem? (i := 74) rfl))) (Or.inr (hw _ (List.mem_of_getElem? (i := 70) rfl))) (by decide) (t := .int) (t' := .long) (by decide) (by decide)))).other W217 (Or.inr (slot_ne (Or.inr (hw _ (List.mem_of_getElem? (i := 74) rfl))) (Or.inr (hw _ (List.mem_of_getElem? (i := 72) rfl))) (by decide) (t := .int) (t' := (.object "java/util/OptionalDouble")) (by decide) (by decide))))
  obtain ⟨T223, h223, X223, e223, W223, st223⟩ := putF X217 hx hZ hown (host := "") (Or.inl (hw _ (List.mem_of_getElem? (i := 73) rfl))) Via.refl e217 F222 E220 (Or.inr ⟨(hw _ (List.mem_of_getElem? (i := 74) rfl)), rfl, hnm⟩) (hw _ (List.mem_of_getElem? (i := 21) rfl)) (ty := .int) (by decide) rfl rfl (g := (mkF m 71 #[.val (.ref a0_), .val (.double d1), .second, .val (.int i2), .val (.int i3), .val (.int i4), .val (.int i5), .val (.int i6), .val (.double d7), .second, .val (.double d8), .second, .val (.ref o9), .val (.long j10), .second, .val (.ref o11), .val (.int i12), .val (.int i13)] [(.int i12), (.ref a0_)])) rfl rfl (hb hby own_d6_71)
  refine own_st st223 ?_
  have Fw223 := F222.same W223
  have N223 := Fr.snoc X223 N217 G0
  have K224 : Keep h0 h223 [a0_] := K218.wr W223 (Or.inl (List.mem_of_getElem? (i := 0) rfl))
  show own_Run p e below s _ _ _ (T223.setTop (mkF m 74 #[.val (.ref a0_), .val (.double d1), .second, .val (.int i2), .val (.int i3), .val (.int i4), .val (.int i5), .val (.int i6), .val (.double d7), .second, .val (.double d8), .second, .val (.ref o9), .val (.long j10), .second, .val (.ref o11), .val (.int i12), .val (.int i13)] []))
  refine own_st (fun t k => XS.aloadN X223.here hx rfl (hb hby own_d6_74) rfl rfl k) ?_
  show own_Run p e below s _ _ _ (T223.setTop (mkF m 75 #[.val (.ref a0_), .val (.double d1), .second, .val (.int i2), .val (.int i3), .val (.int i4), .val (.int i5), .val (.int i6), .val (.double d7), .second, .val (.double d8), .second, .val (.ref o9), .val (.long j10), .second, .val (.ref o11), .val (.int i12), .val (.int i13)] [(.ref a0_)]))
  refine own_st (fun t k => XS.iload X223.here hx rfl (hb hby own_d6_75) rfl k) ?_
  show own_Run p e below s _ _ _ (T223.setTop (mkF m 77 #[.val (.ref a0_), .val (.double d1), .second, .val (.int i2), .val (.int i3), .val (.int i4), .val (.int i5), .val (.int i6), .val (.double d7), .second, .val (.double d8), .second, .val (.ref o9), .val (.long j10), .second, .val (.ref o11), .val (.int i12), .val (.int i13)] [(.int i13), (.ref a0_)]))
  have E226 := (E220.wr W223)
  have F227 : Fld Z _ a0_ "com/example/kerb2d/kerb2d/engine/Measures" "waitingForBus" "I" (.int (0 : Int32)) := D0 (Or.inr (hw _ (List.mem_of_getElem? (i := 76) rfl))) (ty := .int) (by decide)
  have F228 := ((((((((((((F227.other W157 (Or.inr (slot_ne (Or.inr (hw _ (List.mem_of_getElem? (i := 76) rfl))) (Or.inr (hw _ (List.mem_of_getElem? (i := 52) rfl))) (by decide) (t := .int) (t' := .double) (by decide) (by decide)))).other W163 (Or.inr (slot_ne (Or.inr (hw _ (List.mem_of_getElem? (i := 76) rfl))) (Or.inr (hw _ (List.mem_of_getElem? (i := 54) rfl))) (by decide) (t := .int) (t' := .int) (by decide) (by decide)))).other W169 (Or.inr (slot_ne (Or.inr (hw _ (List.mem_of_getElem? (i := 76) rfl))) (Or.inr (hw _ (List.mem_of_getElem? (i := 56) rfl))) (by decide) (t := .int) (t' := .int) (by decide) (by decide)))).other W175 (Or.inr (slot_ne (Or.inr (hw _ (List.mem_of_getElem? (i := 76) rfl))) (Or.inr (hw _ (List.mem_of_getElem? (i := 58) rfl))) (by decide) (t := .int) (t' := .int) (by decide) (by decide)))).other W181 (Or.inr (slot_ne (Or.inr (hw _ (List.mem_of_getElem? (i := 76) rfl))) (Or.inr (hw _ (List.mem_of_getElem? (i := 60) rfl))) (by decide) (t := .int) (t' := .int) (by decide) (by decide)))).other W187 (Or.inr (slot_ne (Or.inr (hw _ (List.mem_of_getElem? (i := 76) rfl))) (Or.inr (hw _ (List.mem_of_getElem? (i := 62) rfl))) (by decide) (t := .int) (t' := .int) (by decide) (by decide)))).other W193 (Or.inr (slot_ne (Or.inr (hw _ (List.mem_of_getElem? (i := 76) rfl))) (Or.inr (hw _ (List.mem_of_getElem? (i := 64) rfl))) (by decide) (t := .int) (t' := .double) (by decide) (by decide)))).other W199 (Or.inr (slot_ne (Or.inr (hw _ (List.mem_of_getElem? (i := 76) rfl))) (Or.inr (hw _ (List.mem_of_getElem? (i := 66) rfl))) (by decide) (t := .int) (t' := .double) (by decide) (by decide)))).other W205 (Or.inr (slot_ne (Or.inr (hw _ (List.mem_of_getElem? (i := 76) rfl))) (Or.inr (hw _ (List.mem_of_getElem? (i := 68) rfl))) (by decide) (t := .int) (t' := (.object "java/util/OptionalDouble")) (by decide) (by decide)))).other W211 (Or.inr (slot_ne (Or.inr (hw _ (List.mem_of_getElem? (i := 76) rfl))) (Or.inr (hw _ (List.mem_of_getElem? (i := 70) rfl))) (by decide) (t := .int) (t' := .long) (by decide) (by decide)))).other W217 (Or.inr (slot_ne (Or.inr (hw _ (List.mem_of_getElem? (i := 76) rfl))) (Or.inr (hw _ (List.mem_of_getElem? (i := 72) rfl))) (by decide) (t := .int) (t' := (.object "java/util/OptionalDouble")) (by decide) (by decide)))).other W223 (Or.inr (slot_ne (Or.inr (hw _ (List.mem_of_getElem? (i := 76) rfl))) (Or.inr (hw _ (List.mem_of_getElem? (i := 74) rfl))) (by decide) (t := .int) (t' := .int) (by decide) (by decide))))
  obtain ⟨T229, h229, X229, e229, W229, st229⟩ := putF X223 hx hZ hown (host := "") (Or.inl (hw _ (List.mem_of_getElem? (i := 75) rfl))) Via.refl e223 F228 E226 (Or.inr ⟨(hw _ (List.mem_of_getElem? (i := 76) rfl)), rfl, hnm⟩) (hw _ (List.mem_of_getElem? (i := 21) rfl)) (ty := .int) (by decide) rfl rfl (g := (mkF m 77 #[.val (.ref a0_), .val (.double d1), .second, .val (.int i2), .val (.int i3), .val (.int i4), .val (.int i5), .val (.int i6), .val (.double d7), .second, .val (.double d8), .second, .val (.ref o9), .val (.long j10), .second, .val (.ref o11), .val (.int i12), .val (.int i13)] [(.int i13), (.ref a0_)])) rfl rfl (hb hby own_d6_77)
  refine own_st st229 ?_
  have Fw229 := F228.same W229
  have N229 := Fr.snoc X229 N223 G0
  have K230 : Keep h0 h229 [a0_] := K224.wr W229 (Or.inl (List.mem_of_getElem? (i := 0) rfl))
  show own_Run p e below s _ _ _ (T229.setTop (mkF m 80 #[.val (.ref a0_), .val (.double d1), .second, .val (.int i2), .val (.int i3), .val (.int i4), .val (.int i5), .val (.int i6), .val (.double d7), .second, .val (.double d8), .second, .val (.ref o9), .val (.long j10), .second, .val (.ref o11), .val (.int i12), .val (.int i13)] []))
  have hQe := e229
  subst hQe
  have E232 := (E226.wr W229)
  have F233 := (((((((((((Fw163.other W169 (Or.inr (slot_ne (Or.inr (hw _ (List.mem_of_getElem? (i := 54) rfl))) (Or.inr (hw _ (List.mem_of_getElem? (i := 56) rfl))) (by decide) (t := .int) (t' := .int) (by decide) (by decide)))).other W175 (Or.inr (slot_ne (Or.inr (hw _ (List.mem_of_getElem? (i := 54) rfl))) (Or.inr (hw _ (List.mem_of_getElem? (i := 58) rfl))) (by decide) (t := .int) (t' := .int) (by decide) (by decide)))).other W181 (Or.inr (slot_ne (Or.inr (hw _ (List.mem_of_getElem? (i := 54) rfl))) (Or.inr (hw _ (List.mem_of_getElem? (i := 60) rfl))) (by decide) (t := .int) (t' := .int) (by decide) (by decide)))).other W187 (Or.inr (slot_ne (Or.inr (hw _ (List.mem_of_getElem? (i := 54) rfl))) (Or.inr (hw _ (List.mem_of_getElem? (i := 62) rfl))) (by decide) (t := .int) (t' := .int) (by decide) (by decide)))).other W193 (Or.inr (slot_ne (Or.inr (hw _ (List.mem_of_getElem? (i := 54) rfl))) (Or.inr (hw _ (List.mem_of_getElem? (i := 64) rfl))) (by decide) (t := .int) (t' := .double) (by decide) (by decide)))).other W199 (Or.inr (slot_ne (Or.inr (hw _ (List.mem_of_getElem? (i := 54) rfl))) (Or.inr (hw _ (List.mem_of_getElem? (i := 66) rfl))) (by decide) (t := .int) (t' := .double) (by decide) (by decide)))).other W205 (Or.inr (slot_ne (Or.inr (hw _ (List.mem_of_getElem? (i := 54) rfl))) (Or.inr (hw _ (List.mem_of_getElem? (i := 68) rfl))) (by decide) (t := .int) (t' := (.object "java/util/OptionalDouble")) (by decide) (by decide)))).other W211 (Or.inr (slot_ne (Or.inr (hw _ (List.mem_of_getElem? (i := 54) rfl))) (Or.inr (hw _ (List.mem_of_getElem? (i := 70) rfl))) (by decide) (t := .int) (t' := .long) (by decide) (by decide)))).other W217 (Or.inr (slot_ne (Or.inr (hw _ (List.mem_of_getElem? (i := 54) rfl))) (Or.inr (hw _ (List.mem_of_getElem? (i := 72) rfl))) (by decide) (t := .int) (t' := (.object "java/util/OptionalDouble")) (by decide) (by decide)))).other W223 (Or.inr (slot_ne (Or.inr (hw _ (List.mem_of_getElem? (i := 54) rfl))) (Or.inr (hw _ (List.mem_of_getElem? (i := 74) rfl))) (by decide) (t := .int) (t' := .int) (by decide) (by decide)))).other W229 (Or.inr (slot_ne (Or.inr (hw _ (List.mem_of_getElem? (i := 54) rfl))) (Or.inr (hw _ (List.mem_of_getElem? (i := 76) rfl))) (by decide) (t := .int) (t' := .int) (by decide) (by decide))))
  have F234 := ((((((((((Fw169.other W175 (Or.inr (slot_ne (Or.inr (hw _ (List.mem_of_getElem? (i := 56) rfl))) (Or.inr (hw _ (List.mem_of_getElem? (i := 58) rfl))) (by decide) (t := .int) (t' := .int) (by decide) (by decide)))).other W181 (Or.inr (slot_ne (Or.inr (hw _ (List.mem_of_getElem? (i := 56) rfl))) (Or.inr (hw _ (List.mem_of_getElem? (i := 60) rfl))) (by decide) (t := .int) (t' := .int) (by decide) (by decide)))).other W187 (Or.inr (slot_ne (Or.inr (hw _ (List.mem_of_getElem? (i := 56) rfl))) (Or.inr (hw _ (List.mem_of_getElem? (i := 62) rfl))) (by decide) (t := .int) (t' := .int) (by decide) (by decide)))).other W193 (Or.inr (slot_ne (Or.inr (hw _ (List.mem_of_getElem? (i := 56) rfl))) (Or.inr (hw _ (List.mem_of_getElem? (i := 64) rfl))) (by decide) (t := .int) (t' := .double) (by decide) (by decide)))).other W199 (Or.inr (slot_ne (Or.inr (hw _ (List.mem_of_getElem? (i := 56) rfl))) (Or.inr (hw _ (List.mem_of_getElem? (i := 66) rfl))) (by decide) (t := .int) (t' := .double) (by decide) (by decide)))).other W205 (Or.inr (slot_ne (Or.inr (hw _ (List.mem_of_getElem? (i := 56) rfl))) (Or.inr (hw _ (List.mem_of_getElem? (i := 68) rfl))) (by decide) (t := .int) (t' := (.object "java/util/OptionalDouble")) (by decide) (by decide)))).other W211 (Or.inr (slot_ne (Or.inr (hw _ (List.mem_of_getElem? (i := 56) rfl))) (Or.inr (hw _ (List.mem_of_getElem? (i := 70) rfl))) (by decide) (t := .int) (t' := .long) (by decide) (by decide)))).other W217 (Or.inr (slot_ne (Or.inr (hw _ (List.mem_of_getElem? (i := 56) rfl))) (Or.inr (hw _ (List.mem_of_getElem? (i := 72) rfl))) (by decide) (t := .int) (t' := (.object "java/util/OptionalDouble")) (by decide) (by decide)))).other W223 (Or.inr (slot_ne (Or.inr (hw _ (List.mem_of_getElem? (i := 56) rfl))) (Or.inr (hw _ (List.mem_of_getElem? (i := 74) rfl))) (by decide) (t := .int) (t' := .int) (by decide) (by decide)))).other W229 (Or.inr (slot_ne (Or.inr (hw _ (List.mem_of_getElem? (i := 56) rfl))) (Or.inr (hw _ (List.mem_of_getElem? (i := 76) rfl))) (by decide) (t := .int) (t' := .int) (by decide) (by decide))))
  have F235 := (((((((((Fw175.other W181 (Or.inr (slot_ne (Or.inr (hw _ (List.mem_of_getElem? (i := 58) rfl))) (Or.inr (hw _ (List.mem_of_getElem? (i := 60) rfl))) (by decide) (t := .int) (t' := .int) (by decide) (by decide)))).other W187 (Or.inr (slot_ne (Or.inr (hw _ (List.mem_of_getElem? (i := 58) rfl))) (Or.inr (hw _ (List.mem_of_getElem? (i := 62) rfl))) (by decide) (t := .int) (t' := .int) (by decide) (by decide)))).other W193 (Or.inr (slot_ne (Or.inr (hw _ (List.mem_of_getElem? (i := 58) rfl))) (Or.inr (hw _ (List.mem_of_getElem? (i := 64) rfl))) (by decide) (t := .int) (t' := .double) (by decide) (by decide)))).other W199 (Or.inr (slot_ne (Or.inr (hw _ (List.mem_of_getElem? (i := 58) rfl))) (Or.inr (hw _ (List.mem_of_getElem? (i := 66) rfl))) (by decide) (t := .int) (t' := .double) (by decide) (by decide)))).other W205 (Or.inr (slot_ne (Or.inr (hw _ (List.mem_of_getElem? (i := 58) rfl))) (Or.inr (hw _ (List.mem_of_getElem? (i := 68) rfl))) (by decide) (t := .int) (t' := (.object "java/util/OptionalDouble")) (by decide) (by decide)))).other W211 (Or.inr (slot_ne (Or.inr (hw _ (List.mem_of_getElem? (i := 58) rfl))) (Or.inr (hw _ (List.mem_of_getElem? (i := 70) rfl))) (by decide) (t := .int) (t' := .long) (by decide) (by decide)))).other W217 (Or.inr (slot_ne (Or.inr (hw _ (List.mem_of_getElem? (i := 58) rfl))) (Or.inr (hw _ (List.mem_of_getElem? (i := 72) rfl))) (by decide) (t := .int) (t' := (.object "java/util/OptionalDouble")) (by decide) (by decide)))).other W223 (Or.inr (slot_ne (Or.inr (hw _ (List.mem_of_getElem? (i := 58) rfl))) (Or.inr (hw _ (List.mem_of_getElem? (i := 74) rfl))) (by decide) (t := .int) (t' := .int) (by decide) (by decide)))).other W229 (Or.inr (slot_ne (Or.inr (hw _ (List.mem_of_getElem? (i := 58) rfl))) (Or.inr (hw _ (List.mem_of_getElem? (i := 76) rfl))) (by decide) (t := .int) (t' := .int) (by decide) (by decide))))
  exact own_retV X229 hx hlk hret (hb hby own_d6_80) (by decide) (by decide) ⟨rfl, N229, K230, E232, F233, F234, F235⟩
theorem own_d4_0 : decode prog_18_method_7_code 0 = .ok (.new 88, 3) := by decide +kernel
theorem own_d4_3 : decode prog_18_method_7_code 3 = .ok (.dup, 1) := by decide +kernel
theorem own_d4_4 : decode prog_18_method_7_code 4 = .ok (.dload_n 1, 1) := by decide +kernel
theorem own_d4_5 : decode prog_18_method_7_code 5 = .ok (.aload_n 0, 1) := by decide +kernel
theorem own_d4_6 : decode prog_18_method_7_code 6 = .ok (.getfield 16, 3) := by decide +kernel
theorem own_d4_9 : decode prog_18_method_7_code 9 = .ok (.aload_n 0, 1) := by decide +kernel
theorem own_d4_10 : decode prog_18_method_7_code 10 = .ok (.getfield 23, 3) := by decide +kernel
theorem own_d4_13 : decode prog_18_method_7_code 13 = .ok (.aload_n 0, 1) := by decide +kernel
theorem own_d4_14 : decode prog_18_method_7_code 14 = .ok (.getfield 16, 3) := by decide +kernel
theorem own_d4_17 : decode prog_18_method_7_code 17 = .ok (.aload_n 0, 1) := by decide +kernel
theorem own_d4_18 : decode prog_18_method_7_code 18 = .ok (.getfield 23, 3) := by decide +kernel
theorem own_d4_21 : decode prog_18_method_7_code 21 = .ok (.isub, 1) := by decide +kernel
theorem own_d4_22 : decode prog_18_method_7_code 22 = .ok (.aload_n 0, 1) := by decide +kernel
theorem own_d4_23 : decode prog_18_method_7_code 23 = .ok (.getfield 36, 3) := by decide +kernel
theorem own_d4_26 : decode prog_18_method_7_code 26 = .ok (.iload_n 3, 1) := by decide +kernel
theorem own_d4_27 : decode prog_18_method_7_code 27 = .ok (.iload_n 3, 1) := by decide +kernel
theorem own_d4_28 : decode prog_18_method_7_code 28 = .ok (.ifCond .le 11, 3) := by decide +kernel
theorem own_d4_39 : decode prog_18_method_7_code 39 = .ok (.dconst 0, 1) := by decide +kernel
theorem own_d4_40 : decode prog_18_method_7_code 40 = .ok (.iload_n 3, 1) := by decide +kernel
theorem own_d4_41 : decode prog_18_method_7_code 41 = .ok (.i2d, 1) := by decide +kernel
theorem own_d4_42 : decode prog_18_method_7_code 42 = .ok (.dload 7, 2) := by decide +kernel
theorem own_d4_44 : decode prog_18_method_7_code 44 = .ok (.ddiv, 1) := by decide +kernel
theorem own_d4_45 : decode prog_18_method_7_code 45 = .ok (.aload_n 0, 1) := by decide +kernel
theorem own_d4_46 : decode prog_18_method_7_code 46 = .ok (.getfield 77, 3) := by decide +kernel
theorem own_d4_49 : decode prog_18_method_7_code 49 = .ok (.ifCond .le 19, 3) := by decide +kernel
theorem own_d4_68 : decode prog_18_method_7_code 68 = .ok (.invokestatic 94, 3) := by decide +kernel
theorem own_pd6 : parseMethodDescriptor "()Ljava/util/OptionalDouble;" = some ⟨[], some (.object "java/util/OptionalDouble")⟩ := by decide +kernel
theorem own_d4_71 : decode prog_18_method_7_code 71 = .ok (.aload_n 0, 1) := by decide +kernel
theorem own_d4_72 : decode prog_18_method_7_code 72 = .ok (.getfield 60, 3) := by decide +kernel
theorem own_d4_75 : decode prog_18_method_7_code 75 = .ok (.aload_n 0, 1) := by decide +kernel
theorem own_d4_76 : decode prog_18_method_7_code 76 = .ok (.getfield 57, 3) := by decide +kernel
theorem own_d4_79 : decode prog_18_method_7_code 79 = .ok (.ifCond .le 20, 3) := by decide +kernel
theorem own_d4_99 : decode prog_18_method_7_code 99 = .ok (.invokestatic 94, 3) := by decide +kernel
theorem own_d4_102 : decode prog_18_method_7_code 102 = .ok (.aload_n 0, 1) := by decide +kernel
theorem own_d4_103 : decode prog_18_method_7_code 103 = .ok (.getfield 39, 3) := by decide +kernel
theorem own_d4_106 : decode prog_18_method_7_code 106 = .ok (.iload 6, 2) := by decide +kernel
theorem own_d4_108 : decode prog_18_method_7_code 108 = .ok (.invokespecial 97, 3) := by decide +kernel
theorem own_pd7 : parseMethodDescriptor "(DIIIIIDDLjava/util/OptionalDouble;JLjava/util/OptionalDouble;II)V" = some ⟨[.double, .int, .int, .int, .int, .int, .double, .double, (.object "java/util/OptionalDouble"), .long, (.object "java/util/OptionalDouble"), .int, .int], none⟩ := by decide +kernel
theorem own_d4_111 : decode prog_18_method_7_code 111 = .ok (.areturn, 1) := by decide +kernel
set_option maxHeartbeats 4000000 in
theorem own_ef4 (m : MethodId) (x0 : Addr) (x1 : UInt64) (x2 : Int32) (x3 : UInt64) (x4 : Int32) (x5 : UInt64) : entryFrame m #[(.ref x0), (.double x1), (.int x2), (.double x3), (.int x4), (.double x5)] 9 = mkF m 0 #[.val (.ref x0), .val (.double x1), .second, .val (.int x2), .val (.double x3), .second, .val (.int x4), .val (.double x5), .second] [] := by first | (simp [entryFrame, mkF, argsToLocals, Value.category]; done) | rfl
def own_Q4 (Z : State) (a0 : Array Value) (o0 : Addr) (te : Addr) (ar : Int32) (en : Int32) (h0 : Heap) (n0 : Nat) (v : Option Value) (h : Heap) (L : List Loc) : Prop := ∃ bm : Addr, v = some (.ref bm) ∧ h0.size ≤ bm ∧ n0 ≤ bm ∧ Fr n0 L ∧ Keep h0 h [] ∧ Exa Z h bm "com/example/kerb2d/kerb2d/engine/Measures" ∧ Fld Z h bm "com/example/kerb2d/kerb2d/engine/Measures" "arrived" "I" (.int ar) ∧ Fld Z h bm "com/example/kerb2d/kerb2d/engine/Measures" "entered" "I" (.int en) ∧ Fld Z h bm "com/example/kerb2d/kerb2d/engine/Measures" "waiting" "I" (.int (ar - en))
set_option maxRecDepth 65536 in
set_option maxHeartbeats 40000000 in
theorem own_rm4 (l : Launch) (Z : State) (a0 : Array Value) (hw : ∀ d ∈ tables_1, d.before a0 Z = true) (ws : List Jvm.Cond) (o0 : Addr) (te : Addr) (ar : Int32) (en : Int32) (h0 : Heap) (n0 : Nat) (Z0 : n0 ≤ h0.size) (O0 : Old Z n0 h0) (S_E : Sta Z Z.heap "java/util/OptionalDouble" "EMPTY" "Ljava/util/OptionalDouble;" (.ref te)) (par : Fld Z h0 o0 "com/example/kerb2d/kerb2d/engine/Tally" "arrived" "I" (.int ar)) (pen : Fld Z h0 o0 "com/example/kerb2d/kerb2d/engine/Tally" "entered" "I" (.int en)) (ple : Fld Z h0 o0 "com/example/kerb2d/kerb2d/engine/Tally" "left" "I" (.int (0 : Int32))) (pde : Fld Z h0 o0 "com/example/kerb2d/kerb2d/engine/Tally" "delayed" "I" (.int (0 : Int32))) (pco : Fld Z h0 o0 "com/example/kerb2d/kerb2d/engine/Tally" "conflictSum" "J" (.long (0 : Int64))) (pfi : Fld Z h0 o0 "com/example/kerb2d/kerb2d/engine/Tally" "finished" "I" (.int (0 : Int32))) (pbo : Fld Z h0 o0 "com/example/kerb2d/kerb2d/engine/Tally" "boarded" "I" (.int (0 : Int32))) :
    MetFree l (⟨"com/example/kerb2d/kerb2d/engine/Tally", "measures", "(DIDID)Lcom/example/kerb2d/kerb2d/engine/Measures;"⟩ : MethodName) (head1 (Jvm.Cond.code (⟨"com/example/kerb2d/kerb2d/engine/Tally", "measures", "(DIDID)Lcom/example/kerb2d/kerb2d/engine/Measures;"⟩ : MethodName) prog_18_method_7_code 9 (some (.object "com/example/kerb2d/kerb2d/engine/Measures")) :: ws) ({ frames := 3, cells := 1, slots := 13, locals := 54 } : Room)) (fun a U => a = #[(.ref o0), (.double (0 : UInt64)), (.int (0 : Int32)), (.double (0 : UInt64)), (.int (0 : Int32)), (.double (4607182418800017408 : UInt64))] ∧ Z.Warmed39 U.vm ∧ U.heap = h0) (fun _ _ _ _ _ => True) (fun _ U o U' => ∃ v L, o = .returned v ∧ own_Q4 Z a0 o0 te ar en h0 n0 v U'.heap L ∧ FrameEnd U o U' L ({ frames := 3, cells := 1, slots := 13, locals := 54 } : Room).cells ({ frames := 3, cells := 1, slots := 13, locals := 54 } : Room).slots) := by
  refine own_body (Q := fun v h L => own_Q4 Z a0 o0 te ar en h0 n0 v h L) (plainFor_of_name own_pn0) ?_
  intro p e s m below meth c s₁ hx hby hml hZ hown hnm hret hlk X0 e0
  replace hml : c.maxLocals = 9 := hml
  have N0 := Fr.nil n0
  have K0 : Keep h0 h0 [] := Keep.refl _ _
  refine own_st (fun t k => castTop (own_ef4 m o0 (0 : UInt64) (0 : Int32) (0 : UInt64) (0 : Int32) (4607182418800017408 : UInt64)) k) ?_
  show own_Run p e below s _ _ _ (s₁.setTop (mkF m 0 #[.val (.ref o0), .val (.double (0 : UInt64)), .second, .val (.int (0 : Int32)), .val (.double (0 : UInt64)), .second, .val (.int (0 : Int32)), .val (.double (4607182418800017408 : UInt64)), .second] []))
  obtain ⟨T236, h236, X236, e236, E236, A236, D236, -, st236⟩ := newO X0 hx hZ hown (hw _ (List.mem_of_getElem? (i := 20) rfl)) (hw _ (List.mem_of_getElem? (i := 21) rfl)) (hw _ (List.mem_of_getElem? (i := 22) rfl)) e0 (g := (mkF m 0 #[.val (.ref o0), .val (.double (0 : UInt64)), .second, .val (.int (0 : Int32)), .val (.double (0 : UInt64)), .second, .val (.int (0 : Int32)), .val (.double (4607182418800017408 : UInt64)), .second] [])) rfl (hb hby own_d4_0) (by decide) (by decide)
  obtain ⟨b236, g236⟩ : ∃ z, z = h0.size := ⟨_, rfl⟩
  rw [← g236] at A236 D236 st236
  have sz237 : h0.size ≤ b236 := Nat.le_trans K0.1 (Nat.le_of_eq g236.symm)
  have ge238 : n0 ≤ b236 := Nat.le_trans Z0 sz237
  refine own_st st236 ?_
  have K239 : Keep h0 h236 [] := K0.ext E236
  have O240 := O0.ext E236
  show own_Run p e below s _ _ _ (T236.setTop (mkF m 3 #[.val (.ref o0), .val (.double (0 : UInt64)), .second, .val (.int (0 : Int32)), .val (.double (0 : UInt64)), .second, .val (.int (0 : Int32)), .val (.double (4607182418800017408 : UInt64)), .second] [(.ref b236)]))
  refine own_st (fun t k => XS.dup X236.here hx rfl (hb hby own_d4_3) rfl rfl k) ?_
  show own_Run p e below s _ _ _ (T236.setTop (mkF m 4 #[.val (.ref o0), .val (.double (0 : UInt64)), .second, .val (.int (0 : Int32)), .val (.double (0 : UInt64)), .second, .val (.int (0 : Int32)), .val (.double (4607182418800017408 : UInt64)), .second] [(.ref b236), (.ref b236)]))
  refine own_st (fun t k => XS.dloadN X236.here hx rfl (hb hby own_d4_4) rfl k) ?_
  show own_Run p e below s _ _ _ (T236.setTop (mkF m 5 #[.val (.ref o0), .val (.double (0 : UInt64)), .second, .val (.int (0 : Int32)), .val (.double (0 : UInt64)), .second, .val (.int (0 : Int32)), .val (.double (4607182418800017408 : UInt64)), .second] [(.double (0 : UInt64)), (.ref b236), (.ref b236)]))
  refine own_st (fun t k => XS.aloadN X236.here hx rfl (hb hby own_d4_5) rfl rfl k) ?_
  show own_Run p e below s _ _ _ (T236.setTop (mkF m 6 #[.val (.ref o0), .val (.double (0 : UInt64)), .second, .val (.int (0 : Int32)), .val (.double (0 : UInt64)), .second, .val (.int (0 : Int32)), .val (.double (4607182418800017408 : UInt64)), .second] [(.ref o0), (.double (0 : UInt64)), (.ref b236), (.ref b236)]))
  have F241 := (par.ext E236)
  obtain ⟨T242, X242, e242, st242⟩ := getF X236 hx hZ hown (host := "") (Or.inl (hw _ (List.mem_of_getElem? (i := 23) rfl))) Via.refl e236 F241 (g := (mkF m 6 #[.val (.ref o0), .val (.double (0 : UInt64)), .second, .val (.int (0 : Int32)), .val (.double (0 : UInt64)), .second, .val (.int (0 : Int32)), .val (.double (4607182418800017408 : UInt64)), .second] [(.ref o0), (.double (0 : UInt64)), (.ref b236), (.ref b236)])) rfl rfl (hb hby own_d4_6)
  refine own_st st242 ?_
  show own_Run p e below s _ _ _ (T242.setTop (mkF m 9 #[.val (.ref o0), .val (.double (0 : UInt64)), .second, .val (.int (0 : Int32)), .val (.double (0 : UInt64)), .second, .val (.int (0 : Int32)), .val (.double (4607182418800017408 : UInt64)), .second] [(.int ar), (.double (0 : UInt64)), (.ref b236), (.ref b236)]))
  refine own_st (fun t k => XS.aloadN X242.here hx rfl (hb hby own_d4_9) rfl rfl k) ?_
  show own_Run p e below s _ _ _ (T242.setTop (mkF m 10 #[.val (.ref o0), .val (.double (0 : UInt64)), .second, .val (.int (0 : Int32)), .val (.double (0 : UInt64)), .second, .val (.int (0 : Int32)), .val (.double (4607182418800017408 : UInt64)), .second] [(.ref o0), (.int ar), (.double (0 : UInt64)), (.ref b236), (.ref b236)]))
  have F243 := (pen.ext E236)
  obtain ⟨T244, X244, e244, st244⟩ := getF X242 hx hZ hown (host := "") (Or.inl (hw _ (List.mem_of_getElem? (i := 25) rfl))) Via.refl e242 F243 (g := (mkF m 10 #[.val (.ref o0), .val (.double (0 : UInt64)), .second, .val (.int (0 : Int32)), .val (.double (0 : UInt64)), .second, .val (.int (0 : Int32)), .val (.double (4607182418800017408 : UInt64)), .second] [(.ref o0), (.int ar), (.double (0 : UInt64)), (.ref b236), (.ref b236)])) rfl rfl (hb hby own_d4_10)
  refine own_st st244 ?_
  show own_Run p e below s _ _ _ (T244.setTop (mkF m 13 #[.val (.ref o0), .val (.double (0 : UInt64)), .second, .val (.int (0 : Int32)), .val (.double (0 : UInt64)), .second, .val (.int (0 : Int32)), .val (.double (4607182418800017408 : UInt64)), .second] [(.int en), (.int ar), (.double (0 : UInt64)), (.ref b236), (.ref b236)]))
  refine own_st (fun t k => XS.aloadN X244.here hx rfl (hb hby own_d4_13) rfl rfl k) ?_
  show own_Run p e below s _ _ _ (T244.setTop (mkF m 14 #[.val (.ref o0), .val (.double (0 : UInt64)), .second, .val (.int (0 : Int32)), .val (.double (0 : UInt64)), .second, .val (.int (0 : Int32)), .val (.double (4607182418800017408 : UInt64)), .second] [(.ref o0), (.int en), (.int ar), (.double (0 : UInt64)), (.ref b236), (.ref b236)]))
  obtain ⟨T245, X245, e245, st245⟩ := getF X244 hx hZ hown (host := "") (Or.inl (hw _ (List.mem_of_getElem? (i := 23) rfl))) Via.refl e244 F241 (g := (mkF m 14 #[.val (.ref o0), .val (.double (0 : UInt64)), .second, .val (.int (0 : Int32)), .val (.double (0 : UInt64)), .second, .val (.int (0 : Int32)), .val (.double (4607182418800017408 : UInt64)), .second] [(.ref o0), (.int en), (.int ar), (.double (0 : UInt64)), (.ref b236), (.ref b236)])) rfl rfl (hb hby own_d4_14)
  refine own_st st245 ?_
  show own_Run p e below s _ _ _ (T245.setTop (mkF m 17 #[.val (.ref o0), .val (.double (0 : UInt64)), .second, .val (.int (0 : Int32)), .val (.double (0 : UInt64)), .second, .val (.int (0 : Int32)), .val (.double (4607182418800017408 : UInt64)), .second] [(.int ar), (.int en), (.int ar), (.double (0 : UInt64)), (.ref b236), (.ref b236)]))
  refine own_st (fun t k => XS.aloadN X245.here hx rfl (hb hby own_d4_17) rfl rfl k) ?_
  show own_Run p e below s _ _ _ (T245.setTop (mkF m 18 #[.val (.ref o0), .val (.double (0 : UInt64)), .second, .val (.int (0 : Int32)), .val (.double (0 : UInt64)), .second, .val (.int (0 : Int32)), .val (.double (4607182418800017408 : UInt64)), .second] [(.ref o0), (.int ar), (.int en), (.int ar), (.double (0 : UInt64)), (.ref b236), (.ref b236)]))
  obtain ⟨T246, X246, e246, st246⟩ := getF X245 hx hZ hown (host := "") (Or.inl (hw _ (List.mem_of_getElem? (i := 25) rfl))) Via.refl e245 F243 (g := (mkF m 18 #[.val (.ref o0), .val (.double (0 : UInt64)), .second, .val (.int (0 : Int32)), .val (.double (0 : UInt64)), .second, .val (.int (0 : Int32)), .val (.double (4607182418800017408 : UInt64)), .second] [(.ref o0), (.int ar), (.int en), (.int ar), (.double (0 : UInt64)), (.ref b236), (.ref b236)])) rfl rfl (hb hby own_d4_18)
  refine own_st st246 ?_
  show own_Run p e below s _ _ _ (T246.setTop (mkF m 21 #[.val (.ref o0), .val (.double (0 : UInt64)), .second, .val (.int (0 : Int32)), .val (.double (0 : UInt64)), .second, .val (.int (0 : Int32)), .val (.double (4607182418800017408 : UInt64)), .second] [(.int en), (.int ar), (.int en), (.int ar), (.double (0 : UInt64)), (.ref b236), (.ref b236)]))
  refine own_st (fun t k => XS.isub X246.here hx rfl (hb hby own_d4_21) rfl k) ?_
  show own_Run p e below s _ _ _ (T246.setTop (mkF m 22 #[.val (.ref o0), .val (.double (0 : UInt64)), .second, .val (.int (0 : Int32)), .val (.double (0 : UInt64)), .second, .val (.int (0 : Int32)), .val (.double (4607182418800017408 : UInt64)), .second] [(.int (ar - en)), (.int en), (.int ar), (.double (0 : UInt64)), (.ref b236), (.ref b236)]))
  refine own_st (fun t k => XS.aloadN X246.here hx rfl (hb hby own_d4_22) rfl rfl k) ?_
  show own_Run p e below s _ _ _ (T246.setTop (mkF m 23 #[.val (.ref o0), .val (.double (0 : UInt64)), .second, .val (.int (0 : Int32)), .val (.double (0 : UInt64)), .second, .val (.int (0 : Int32)), .val (.double (4607182418800017408 : UInt64)), .second] [(.ref o0), (.int (ar - en)), (.int en), (.int ar), (.double (0 : UInt64)), (.ref b236), (.ref b236)]))
  have F247 := (ple.ext E236)
  obtain ⟨T248, X248, e248, st248⟩ := getF X246 hx hZ hown (host := "") (Or.inl (hw _ (List.mem_of_getElem? (i := 27) rfl))) Via.refl e246 F247 (g := (mkF m 23 #[.val (.ref o0), .val (.double (0 : UInt64)), .second, .val (.int (0 : Int32)), .val (.double (0 : UInt64)), .second, .val (.int (0 : Int32)), .val (.double (4607182418800017408 : UInt64)), .second] [(.ref o0), (.int (ar - en)), (.int en), (.int ar), (.double (0 : UInt64)), (.ref b236), (.ref b236)])) rfl rfl (hb hby own_d4_23)
  refine own_st st248 ?_
  show own_Run p e below s _ _ _ (T248.setTop (mkF m 26 #[.val (.ref o0), .val (.double (0 : UInt64)), .second, .val (.int (0 : Int32)), .val (.double (0 : UInt64)), .second, .val (.int (0 : Int32)), .val (.double (4607182418800017408 : UInt64)), .second] [(.int (0 : Int32)), (.int (ar - en)), (.int en), (.int ar), (.double (0 : UInt64)), (.ref b236), (.ref b236)]))
  refine own_st (fun t k => XS.iloadN X248.here hx rfl (hb hby own_d4_26) rfl k) ?_
  show own_Run p e below s _ _ _ (T248.setTop (mkF m 27 #[.val (.ref o0), .val (.double (0 : UInt64)), .second, .val (.int (0 : Int32)), .val (.double (0 : UInt64)), .second, .val (.int (0 : Int32)), .val (.double (4607182418800017408 : UInt64)), .second] [(.int (0 : Int32)), (.int (0 : Int32)), (.int (ar - en)), (.int en), (.int ar), (.double (0 : UInt64)), (.ref b236), (.ref b236)]))
  refine own_st (fun t k => XS.iloadN X248.here hx rfl (hb hby own_d4_27) rfl k) ?_
  show own_Run p e below s _ _ _ (T248.setTop (mkF m 28 #[.val (.ref o0), .val (.double (0 : UInt64)), .second, .val (.int (0 : Int32)), .val (.double (0 : UInt64)), .second, .val (.int (0 : Int32)), .val (.double (4607182418800017408 : UInt64)), .second] [(.int (0 : Int32)), (.int (0 : Int32)), (.int (0 : Int32)), (.int (ar - en)), (.int en), (.int ar), (.double (0 : UInt64)), (.ref b236), (.ref b236)]))
  refine own_st (fun t k => XS.ifYes X248.here hx rfl (pc0 := 28) (pc' := 39) rfl (hb hby own_d4_28) rfl ((if0 _ _).trans (flt (by decide : ¬ ((0 : Int32) < (0 : Int32)))).2.2.2) (by decide) (by decide) k) ?_
  show own_Run p e below s _ _ _ (T248.setTop (mkF m 39 #[.val (.ref o0), .val (.double (0 : UInt64)), .second, .val (.int (0 : Int32)), .val (.double (0 : UInt64)), .second, .val (.int (0 : Int32)), .val (.double (4607182418800017408 : UInt64)), .second] [(.int (0 : Int32)), (.int (0 : Int32)), (.int (ar - en)), (.int en), (.int ar), (.double (0 : UInt64)), (.ref b236), (.ref b236)]))
  refine own_st (fun t k => XS.dconst0 X248.here hx rfl (hb hby own_d4_39) (v := 0) rfl k) ?_
  show own_Run p e below s _ _ _ (T248.setTop (mkF m 40 #[.val (.ref o0), .val (.double (0 : UInt64)), .second, .val (.int (0 : Int32)), .val (.double (0 : UInt64)), .second, .val (.int (0 : Int32)), .val (.double (4607182418800017408 : UInt64)), .second] [(.double (0 : UInt64)), (.int (0 : Int32)), (.int (0 : Int32)), (.int (ar - en)), (.int en), (.int ar), (.double (0 : UInt64)), (.ref b236), (.ref b236)]))
  refine own_st (fun t k => XS.iloadN X248.here hx rfl (hb hby own_d4_40) rfl k) ?_
  show own_Run p e below s _ _ _ (T248.setTop (mkF m 41 #[.val (.ref o0), .val (.double (0 : UInt64)), .second, .val (.int (0 : Int32)), .val (.double (0 : UInt64)), .second, .val (.int (0 : Int32)), .val (.double (4607182418800017408 : UInt64)), .second] [(.int (0 : Int32)), (.double (0 : UInt64)), (.int (0 : Int32)), (.int (0 : Int32)), (.int (ar - en)), (.int en), (.int ar), (.double (0 : UInt64)), (.ref b236), (.ref b236)]))
  refine own_st (fun t k => XS.i2dS X248.here hx rfl (hb hby own_d4_41) rfl (v := (0 : UInt64)) (by decide +kernel) k) ?_
  show own_Run p e below s _ _ _ (T248.setTop (mkF m 42 #[.val (.ref o0), .val (.double (0 : UInt64)), .second, .val (.int (0 : Int32)), .val (.double (0 : UInt64)), .second, .val (.int (0 : Int32)), .val (.double (4607182418800017408 : UInt64)), .second] [(.double (0 : UInt64)), (.double (0 : UInt64)), (.int (0 : Int32)), (.int (0 : Int32)), (.int (ar - en)), (.int en), (.int ar), (.double (0 : UInt64)), (.ref b236), (.ref b236)]))
  refine own_st (fun t k => XS.dload X248.here hx rfl (hb hby own_d4_42) rfl k) ?_
  show own_Run p e below s _ _ _ (T248.setTop (mkF m 44 #[.val (.ref o0), .val (.double (0 : UInt64)), .second, .val (.int (0 : Int32)), .val (.double (0 : UInt64)), .second, .val (.int (0 : Int32)), .val (.double (4607182418800017408 : UInt64)), .second] [(.double (4607182418800017408 : UInt64)), (.double (0 : UInt64)), (.double (0 : UInt64)), (.int (0 : Int32)), (.int (0 : Int32)), (.int (ar - en)), (.int en), (.int ar), (.double (0 : UInt64)), (.ref b236), (.ref b236)]))
  refine own_st (fun t k => XS.ddivS X248.here hx rfl (hb hby own_d4_44) rfl (by unfold Jvm.Free.Fl.NoNaN64; decide +kernel) (v := (0 : UInt64)) (by decide +kernel) k) ?_
  show own_Run p e below s _ _ _ (T248.setTop (mkF m 45 #[.val (.ref o0), .val (.double (0 : UInt64)), .second, .val (.int (0 : Int32)), .val (.double (0 : UInt64)), .second, .val (.int (0 : Int32)), .val (.double (4607182418800017408 : UInt64)), .second] [(.double (0 : UInt64)), (.double (0 : UInt64)), (.int (0 : Int32)), (.int (0 : Int32)), (.int (ar - en)), (.int en), (.int ar), (.double (0 : UInt64)), (.ref b236), (.ref b236)]))
  refine own_st (fun t k => XS.aloadN X248.here hx rfl (hb hby own_d4_45) rfl rfl k) ?_
  show own_Run p e below s _ _ _ (T248.setTop (mkF m 46 #[.val (.ref o0), .val (.double (0 : UInt64)), .second, .val (.int (0 : Int32)), .val (.double (0 : UInt64)), .second, .val (.int (0 : Int32)), .val (.double (4607182418800017408 : UInt64)), .second] [(.ref o0), (.double (0 : UInt64)), (.double (0 : UInt64)), (.int (0 : Int32)), (.int (0 : Int32)), (.int (ar - en)), (.int en), (.int ar), (.double (0 : UInt64)), (.ref b236), (.ref b236)]))
  have F249 := (pde.ext E236)
  obtain ⟨T250, X250, e250, st250⟩ := getF X248 hx hZ hown (host := "") (Or.inl (hw _ (List.mem_of_getElem? (i := 29) rfl))) Via.refl e248 F249 (g := (mkF m 46 #[.val (.ref o0), .val (.double (0 : UInt64)), .second, .val (.int (0 : Int32)), .val (.double (0 : UInt64)), .second, .val (.int (0 : Int32)), .val (.double (4607182418800017408 : UInt64)), .second] [(.ref o0), (.double (0 : UInt64)), (.double (0 : UInt64)), (.int (0 : Int32)), (.int (0 : Int32)), (.int (ar - en)), (.int en), (.int ar), (.double (0 : UInt64)), (.ref b236), (.ref b236)])) rfl rfl (hb hby own_d4_46)
  refine own_st st250 ?_
  show own_Run p e below s _ _ _ (T250.setTop (mkF m 49 #[.val (.ref o0), .val (.double (0 : UInt64)), .second, .val (.int (0 : Int32)), .val (.double (0 : UInt64)), .second, .val (.int (0 : Int32)), .val (.double (4607182418800017408 : UInt64)), .second] [(.int (0 : Int32)), (.double (0 : UInt64)), (.double (0 : UInt64)), (.int (0 : Int32)), (.int (0 : Int32)), (.int (ar - en)), (.int en), (.int ar), (.double (0 : UInt64)), (.ref b236), (.ref b236)]))
  refine own_st (fun t k => XS.ifYes X250.here hx rfl (pc0 := 49) (pc' := 68) rfl (hb hby own_d4_49) rfl ((if0 _ _).trans (flt (by decide : ¬ ((0 : Int32) < (0 : Int32)))).2.2.2) (by decide) (by decide) k) ?_
  show own_Run p e below s _ _ _ (T250.setTop (mkF m 68 #[.val (.ref o0), .val (.double (0 : UInt64)), .second, .val (.int (0 : Int32)), .val (.double (0 : UInt64)), .second, .val (.int (0 : Int32)), .val (.double (4607182418800017408 : UInt64)), .second] [(.double (0 : UInt64)), (.double (0 : UInt64)), (.int (0 : Int32)), (.int (0 : Int32)), (.int (ar - en)), (.int en), (.int ar), (.double (0 : UInt64)), (.ref b236), (.ref b236)]))
  refine own_callS X250 hx hZ (y := (⟨"java/util/OptionalDouble", "empty", "()Ljava/util/OptionalDouble;"⟩ : MethodName)) hown (hw _ (List.mem_of_getElem? (i := 31) rfl)) (hw _ (List.mem_of_getElem? (i := 32) rfl)) (hw _ (List.mem_of_getElem? (i := 34) rfl)) (hw _ (List.mem_of_getElem? (i := 33) rfl)) (by decide) e250 (argsL := []) (rest := [(.double (0 : UInt64)), (.double (0 : UInt64)), (.int (0 : Int32)), (.int (0 : Int32)), (.int (ar - en)), (.int en), (.int ar), (.double (0 : UInt64)), (.ref b236), (.ref b236)]) (W := 13) (own_rm5 l Z a0 hw [] te h236 n0 (Nat.le_trans Z0 K239.1) O240 S_E) (by decide) (by decide) (by rw [hml]; rfl) (lenOf own_pd6 rfl) rfl (by exact Nat.le_of_eq rfl) (hb hby own_d4_68) (by decide) (by decide) ?_
  intro T251 v251 L251 X251 hq251
  obtain ⟨rfl, N251q, hh251⟩ := hq251
  have N251 := Fr.app N0 N251q
  show own_Run p e below s _ _ _ (T251.setTop (mkF m 71 #[.val (.ref o0), .val (.double (0 : UInt64)), .second, .val (.int (0 : Int32)), .val (.double (0 : UInt64)), .second, .val (.int (0 : Int32)), .val (.double (4607182418800017408 : UInt64)), .second] [(.ref te), (.double (0 : UInt64)), (.double (0 : UInt64)), (.int (0 : Int32)), (.int (0 : Int32)), (.int (ar - en)), (.int en), (.int ar), (.double (0 : UInt64)), (.ref b236), (.ref b236)]))
  refine own_st (fun t k => XS.aloadN X251.here hx rfl (hb hby own_d4_71) rfl rfl k) ?_
  show own_Run p e below s _ _ _ (T251.setTop (mkF m 72 #[.val (.ref o0), .val (.double (0 : UInt64)), .second, .val (.int (0 : Int32)), .val (.double (0 : UInt64)), .second, .val (.int (0 : Int32)), .val (.double (4607182418800017408 : UInt64)), .second] [(.ref o0), (.ref te), (.double (0 : UInt64)), (.double (0 : UInt64)), (.int (0 : Int32)), (.int (0 : Int32)), (.int (ar - en)), (.int en), (.int ar), (.double (0 : UInt64)), (.ref b236), (.ref b236)]))
  have F252 := (pco.ext E236)
  obtain ⟨T253, X253, e253, st253⟩ := getF X251 hx hZ hown (host := "") (Or.inl (hw _ (List.mem_of_getElem? (i := 36) rfl))) Via.refl hh251 F252 (g := (mkF m 72 #[.val (.ref o0), .val (.double (0 : UInt64)), .second, .val (.int (0 : Int32)), .val (.double (0 : UInt64)), .second, .val (.int (0 : Int32)), .val (.double (4607182418800017408 : UInt64)), .second] [(.ref o0), (.ref te), (.double (0 : UInt64)), (.double (0 : UInt64)), (.int (0 : Int32)), (.int (0 : Int32)), (.int (ar - en)), (.int en), (.int ar), (.double (0 : UInt64)), (.ref b236), (.ref b236)])) rfl rfl (hb hby own_d4_72)
  refine own_st st253 ?_
  show own_Run p e below s _ _ _ (T253.setTop (mkF m 75 #[.val (.ref o0), .val (.double (0 : UInt64)), .second, .val (.int (0 : Int32)), .val (.double (0 : UInt64)), .second, .val (.int (0 : Int32)), .val (.double (4607182418800017408 : UInt64)), .second] [(.long (0 : Int64)), (.ref te), (.double (0 : UInt64)), (.double (0 : UInt64)), (.int (0 : Int32)), (.int (0 : Int32)), (.int (ar - en)), (.int en), (.int ar), (.double (0 : UInt64)), (.ref b236), (.ref b236)]))
  refine own_st (fun t k => XS.aloadN X253.here hx rfl (hb hby own_d4_75) rfl rfl k) ?_
  show own_Run p e below s _ _ _ (T253.setTop (mkF m 76 #[.val (.ref o0), .val (.double (0 : UInt64)), .second, .val (.int (0 : Int32)), .val (.double (0 : UInt64)), .second, .val (.int (0 : Int32)), .val (.double (4607182418800017408 : UInt64)), .second] [(.ref o0), (.long (0 : Int64)), (.ref te), (.double (0 : UInt64)), (.double (0 : UInt64)), (.int (0 : Int32)), (.int (0 : Int32)), (.int (ar - en)), (.int en), (.int ar), (.double (0 : UInt64)), (.ref b236), (.ref b236)]))
  have F254 := (pfi.ext E236)
  obtain ⟨T255, X255, e255, st255⟩ := getF X253 hx hZ hown (host := "") (Or.inl (hw _ (List.mem_of_getElem? (i := 38) rfl))) Via.refl e253 F254 (g := (mkF m 76 #[.val (.ref o0), .val (.double (0 : UInt64)), .second, .val (.int (0 : Int32)), .val (.double (0 : UInt64)), .second, .val (.int (0 : Int32)), .val (.double (4607182418800017408 : UInt64)), .second] [(.ref o0), (.long (0 : Int64)), (.ref te), (.double (0 : UInt64)), (.double (0 : UInt64)), (.int (0 : Int32)), (.int (0 : Int32)), (.int (ar - en)), (.int en), (.int ar), (.double (0 : UInt64)), (.ref b236), (.ref b236)])) rfl rfl (hb hby own_d4_76)
  refine own_st st255 ?_
  show own_Run p e below s _ _ _ (T255.setTop (mkF m 79 #[.val (.ref o0), .val (.double (0 : UInt64)), .second, .val (.int (0 : Int32)), .val (.double (0 : UInt64)), .second, .val (.int (0 : Int32)), .val (.double (4607182418800017408 : UInt64)), .second] [(.int (0 : Int32)), (.long (0 : Int64)), (.ref te), (.double (0 : UInt64)), (.double (0 : UInt64)), (.int (0 : Int32)), (.int (0 : Int32)), (.int (ar - en)), (.int en), (.int ar), (.double (0 : UInt64)), (.ref b236), (.ref b236)]))
  refine own_st (fun t k => XS.ifYes X255.here hx rfl (pc0 := 79) (pc' := 99) rfl (hb hby own_d4_79) rfl ((if0 _ _).trans (flt (by decide : ¬ ((0 : Int32) < (0 : Int32)))).2.2.2) (by decide) (by decide) k) ?_
  show own_Run p e below s _ _ _ (T255.setTop (mkF m 99 #[.val (.ref o0), .val (.double (0 : UInt64)), .second, .val (.int (0 : Int32)), .val (.double (0 : UInt64)), .second, .val (.int (0 : Int32)), .val (.double (4607182418800017408 : UInt64)), .second] [(.long (0 : Int64)), (.ref te), (.double (0 : UInt64)), (.double (0 : UInt64)), (.int (0 : Int32)), (.int (0 : Int32)), (.int (ar - en)), (.int en), (.int ar), (.double (0 : UInt64)), (.ref b236), (.ref b236)]))
  refine own_callS X255 hx hZ (y := (⟨"java/util/OptionalDouble", "empty", "()Ljava/util/OptionalDouble;"⟩ : MethodName)) hown (hw _ (List.mem_of_getElem? (i := 31) rfl)) (hw _ (List.mem_of_getElem? (i := 32) rfl)) (hw _ (List.mem_of_getElem? (i := 34) rfl)) (hw _ (List.mem_of_getElem? (i := 33) rfl)) (by decide) e255 (argsL := []) (rest := [(.long (0 : Int64)), (.ref te), (.double (0 : UInt64)), (.double (0 : UInt64)), (.int (0 : Int32)), (.int (0 : Int32)), (.int (ar - en)), (.int en), (.int ar), (.double (0 : UInt64)), (.ref b236), (.ref b236)]) (W := 16) (own_rm5 l Z a0 hw [] te h236 n0 (Nat.le_trans Z0 K239.1) O240 S_E) (by decide) (by decide) (by rw [hml]; rfl) (lenOf own_pd6 rfl) rfl (by exact Nat.le_of_eq rfl) (hb hby own_d4_99) (by decide) (by decide) ?_
  intro T256 v256 L256 X256 hq256
  obtain ⟨rfl, N256q, hh256⟩ := hq256
  have N256 := Fr.app N251 N256q
  show own_Run p e below s _ _ _ (T256.setTop (mkF m 102 #[.val (.ref o0), .val (.double (0 : UInt64)), .second, .val (.int (0 : Int32)), .val (.double (0 : UInt64)), .second, .val (.int (0 : Int32)), .val (.double (4607182418800017408 : UInt64)), .second] [(.ref te), (.long (0 : Int64)), (.ref te), (.double (0 : UInt64)), (.double (0 : UInt64)), (.int (0 : Int32)), (.int (0 : Int32)), (.int (ar - en)), (.int en), (.int ar), (.double (0 : UInt64)), (.ref b236), (.ref b236)]))
  refine own_st (fun t k => XS.aloadN X256.here hx rfl (hb hby own_d4_102) rfl rfl k) ?_
  show own_Run p e below s _ _ _ (T256.setTop (mkF m 103 #[.val (.ref o0), .val (.double (0 : UInt64)), .second, .val (.int (0 : Int32)), .val (.double (0 : UInt64)), .second, .val (.int (0 : Int32)), .val (.double (4607182418800017408 : UInt64)), .second] [(.ref o0), (.ref te), (.long (0 : Int64)), (.ref te), (.double (0 : UInt64)), (.double (0 : UInt64)), (.int (0 : Int32)), (.int (0 : Int32)), (.int (ar - en)), (.int en), (.int ar), (.double (0 : UInt64)), (.ref b236), (.ref b236)]))
  have F257 := (pbo.ext E236)
  obtain ⟨T258, X258, e258, st258⟩ := getF X256 hx hZ hown (host := "") (Or.inl (hw _ (List.mem_of_getElem? (i := 40) rfl))) Via.refl hh256 F257 (g := (mkF m 103 #[.val (.ref o0), .val (.double (0 : UInt64)), .second, .val (.int (0 : Int32)), .val (.double (0 : UInt64)), .second, .val (.int (0 : Int32)), .val (.double (4607182418800017408 : UInt64)), .second] [(.ref o0), (.ref te), (.long (0 : Int64)), (.ref te), (.double (0 : UInt64)), (.double (0 : UInt64)), (.int (0 : Int32)), (.int (0 : Int32)), (.int (ar - en)), (.int en), (.int ar), (.double (0 : UInt64)), (.ref b236), (.ref b236)])) rfl rfl (hb hby own_d4_103)
  refine own_st st258 ?_
  show own_Run p e below s _ _ _ (T258.setTop (mkF m 106 #[.val (.ref o0), .val (.double (0 : UInt64)), .second, .val (.int (0 : Int32)), .val (.double (0 : UInt64)), .second, .val (.int (0 : Int32)), .val (.double (4607182418800017408 : UInt64)), .second] [(.int (0 : Int32)), (.ref te), (.long (0 : Int64)), (.ref te), (.double (0 : UInt64)), (.double (0 : UInt64)), (.int (0 : Int32)), (.int (0 : Int32)), (.int (ar - en)), (.int en), (.int ar), (.double (0 : UInt64)), (.ref b236), (.ref b236)]))
  refine own_st (fun t k => XS.iload X258.here hx rfl (hb hby own_d4_106) rfl k) ?_
  show own_Run p e below s _ _ _ (T258.setTop (mkF m 108 #[.val (.ref o0), .val (.double (0 : UInt64)), .second, .val (.int (0 : Int32)), .val (.double (0 : UInt64)), .second, .val (.int (0 : Int32)), .val (.double (4607182418800017408 : UInt64)), .second] [(.int (0 : Int32)), (.int (0 : Int32)), (.ref te), (.long (0 : Int64)), (.ref te), (.double (0 : UInt64)), (.double (0 : UInt64)), (.int (0 : Int32)), (.int (0 : Int32)), (.int (ar - en)), (.int en), (.int ar), (.double (0 : UInt64)), (.ref b236), (.ref b236)]))
  refine own_callI X258 hx hZ (y := (⟨"com/example/kerb2d/kerb2d/engine/Measures", "<init>", "(DIIIIIDDLjava/util/OptionalDouble;JLjava/util/OptionalDouble;II)V"⟩ : MethodName)) rfl hown (hw _ (List.mem_of_getElem? (i := 42) rfl)) (hw _ (List.mem_of_getElem? (i := 43) rfl)) (hw _ (List.mem_of_getElem? (i := 44) rfl)) (hw _ (List.mem_of_getElem? (i := 22) rfl)) (by decide) e258 (a := b236) (argsL := [(.double (0 : UInt64)), (.int ar), (.int en), (.int (ar - en)), (.int (0 : Int32)), (.int (0 : Int32)), (.double (0 : UInt64)), (.double (0 : UInt64)), (.ref te), (.long (0 : Int64)), (.ref te), (.int (0 : Int32)), (.int (0 : Int32))]) (rest := [(.ref b236)]) (W := 1) (own_rm6 l Z a0 hw [] b236 (0 : UInt64) ar en (ar - en) (0 : Int32) (0 : Int32) (0 : UInt64) (0 : UInt64) te (0 : Int64) te (0 : Int32) (0 : Int32) h236 n0 (Nat.le_trans Z0 K239.1) A236 D236 ge238) (by decide) (by decide) (by rw [hml]; rfl) (lenOf own_pd7 rfl) rfl (by exact Nat.le_of_eq rfl) (hb hby own_d4_108) (by decide) (by decide) ?_
  intro T259 v259 L259 X259 hq259
  obtain ⟨rfl, N259q, K259q, Q260, Q261, Q262, Q263⟩ := hq259
  have K264 : Keep h0 T259.heap [] := K239.trans K259q (allS (Or.inr sz237) all0)
  have O265 := O240.keep K259q (allS ge238 all0)
  have N259 := Fr.app N256 N259q
  show own_Run p e below s _ _ _ (T259.setTop (mkF m 111 #[.val (.ref o0), .val (.double (0 : UInt64)), .second, .val (.int (0 : Int32)), .val (.double (0 : UInt64)), .second, .val (.int (0 : Int32)), .val (.double (4607182418800017408 : UInt64)), .second] [(.ref b236)]))
  exact own_ret X259 hx hlk (t := (.object "com/example/kerb2d/kerb2d/engine/Measures")) hret rfl (Or.inr (Or.inr (Or.inr (Or.inr ⟨rfl, rfl, rfl⟩)))) (hb hby own_d4_111) (by decide) (by decide) ⟨b236, rfl, sz237, ge238, N259, K264, Q260, Q261, Q262, Q263⟩
theorem own_d8_0 : decode prog_10_method_6_code 0 = .ok (.aload_n 0, 1) := by decide +kernel
theorem own_d8_1 : decode prog_10_method_6_code 1 = .ok (.getfield 13, 3) := by decide +kernel
theorem own_d8_4 : decode prog_10_method_6_code 4 = .ok (.ireturn, 1) := by decide +kernel
set_option maxHeartbeats 4000000 in
theorem own_ef8 (m : MethodId) (x0 : Addr) : entryFrame m #[(.ref x0)] 1 = mkF m 0 #[.val (.ref x0)] [] := by first | (simp [entryFrame, mkF, argsToLocals, Value.category]; done) | rfl
def own_Q8 (Z : State) (a0 : Array Value) (o0 : Addr) (x : Int32) (h0 : Heap) (n0 : Nat) (v : Option Value) (h : Heap) (L : List Loc) : Prop := v = some (.int x) ∧ Fr n0 L ∧ h = h0
set_option maxRecDepth 65536 in
set_option maxHeartbeats 40000000 in
theorem own_rm8 (l : Launch) (Z : State) (a0 : Array Value) (hw : ∀ d ∈ tables_1, d.before a0 Z = true) (ws : List Jvm.Cond) (o0 : Addr) (x : Int32) (h0 : Heap) (n0 : Nat) (Z0 : n0 ≤ h0.size) (F_x : Fld Z h0 o0 "com/example/kerb2d/kerb2d/engine/Measures" "arrived" "I" (.int x)) :
    MetFree l (⟨"com/example/kerb2d/kerb2d/engine/Measures", "arrived", "()I"⟩ : MethodName) (head1 (Jvm.Cond.code (⟨"com/example/kerb2d/kerb2d/engine/Measures", "arrived", "()I"⟩ : MethodName) prog_10_method_6_code 1 (some .int) :: ws) ({ frames := 0, cells := 0, slots := 0, locals := 0 } : Room)) (fun a U => a = #[(.ref o0)] ∧ Z.Warmed39 U.vm ∧ U.heap = h0) (fun _ _ _ _ _ => True) (fun _ U o U' => ∃ v L, o = .returned v ∧ own_Q8 Z a0 o0 x h0 n0 v U'.heap L ∧ FrameEnd U o U' L ({ frames := 0, cells := 0, slots := 0, locals := 0 } : Room).cells ({ frames := 0, cells := 0, slots := 0, locals := 0 } : Room).slots) := by
  refine own_body (Q := fun v h L => own_Q8 Z a0 o0 x h0 n0 v h L) (plainFor_of_name own_pn5) ?_
  intro p e s m below meth c s₁ hx hby hml hZ hown hnm hret hlk X0 e0
  replace hml : c.maxLocals = 1 := hml
  have N0 := Fr.nil n0
  have K0 : Keep h0 h0 [] := Keep.refl _ _
  refine own_st (fun t k => castTop (own_ef8 m o0) k) ?_
  show own_Run p e below s _ _ _ (s₁.setTop (mkF m 0 #[.val (.ref o0)] []))
  refine own_st (fun t k => XS.aloadN X0.here hx rfl (hb hby own_d8_0) rfl rfl k) ?_
  show own_Run p e below s _ _ _ (s₁.setTop (mkF m 1 #[.val (.ref o0)] [(.ref o0)]))
  obtain ⟨T266, X266, e266, st266⟩ := getF X0 hx hZ hown (host := "") (Or.inl (hw _ (List.mem_of_getElem? (i := 53) rfl))) Via.refl e0 F_x (g := (mkF m 1 #[.val (.ref o0)] [(.ref o0)])) rfl rfl (hb hby own_d8_1)
  refine own_st st266 ?_
  show own_Run p e below s _ _ _ (T266.setTop (mkF m 4 #[.val (.ref o0)] [(.int x)]))
  exact own_ret X266 hx hlk (t := .int) hret rfl (Or.inl ⟨rfl, by simp, _, rfl⟩) (hb hby own_d8_4) (by decide) (by decide) ⟨rfl, N0, e266⟩
theorem own_d9_0 : decode prog_10_method_8_code 0 = .ok (.aload_n 0, 1) := by decide +kernel
theorem own_d9_1 : decode prog_10_method_8_code 1 = .ok (.getfield 20, 3) := by decide +kernel
theorem own_d9_4 : decode prog_10_method_8_code 4 = .ok (.ireturn, 1) := by decide +kernel
set_option maxHeartbeats 4000000 in
theorem own_ef9 (m : MethodId) (x0 : Addr) : entryFrame m #[(.ref x0)] 1 = mkF m 0 #[.val (.ref x0)] [] := by first | (simp [entryFrame, mkF, argsToLocals, Value.category]; done) | rfl
def own_Q9 (Z : State) (a0 : Array Value) (o0 : Addr) (x : Int32) (h0 : Heap) (n0 : Nat) (v : Option Value) (h : Heap) (L : List Loc) : Prop := v = some (.int x) ∧ Fr n0 L ∧ h = h0
set_option maxRecDepth 65536 in
set_option maxHeartbeats 40000000 in
theorem own_rm9 (l : Launch) (Z : State) (a0 : Array Value) (hw : ∀ d ∈ tables_1, d.before a0 Z = true) (ws : List Jvm.Cond) (o0 : Addr) (x : Int32) (h0 : Heap) (n0 : Nat) (Z0 : n0 ≤ h0.size) (F_x : Fld Z h0 o0 "com/example/kerb2d/kerb2d/engine/Measures" "waiting" "I" (.int x)) :
    MetFree l (⟨"com/example/kerb2d/kerb2d/engine/Measures", "waiting", "()I"⟩ : MethodName) (head1 (Jvm.Cond.code (⟨"com/example/kerb2d/kerb2d/engine/Measures", "waiting", "()I"⟩ : MethodName) prog_10_method_8_code 1 (some .int) :: ws) ({ frames := 0, cells := 0, slots := 0, locals := 0 } : Room)) (fun a U => a = #[(.ref o0)] ∧ Z.Warmed39 U.vm ∧ U.heap = h0) (fun _ _ _ _ _ => True) (fun _ U o U' => ∃ v L, o = .returned v ∧ own_Q9 Z a0 o0 x h0 n0 v U'.heap L ∧ FrameEnd U o U' L ({ frames := 0, cells := 0, slots := 0, locals := 0 } : Room).cells ({ frames := 0, cells := 0, slots := 0, locals := 0 } : Room).slots) := by
  refine own_body (Q := fun v h L => own_Q9 Z a0 o0 x h0 n0 v h L) (plainFor_of_name own_pn5) ?_
  intro p e s m below meth c s₁ hx hby hml hZ hown hnm hret hlk X0 e0
  replace hml : c.maxLocals = 1 := hml
  have N0 := Fr.nil n0
  have K0 : Keep h0 h0 [] := Keep.refl _ _
  refine own_st (fun t k => castTop (own_ef9 m o0) k) ?_
  show own_Run p e below s _ _ _ (s₁.setTop (mkF m 0 #[.val (.ref o0)] []))
  refine own_st (fun t k => XS.aloadN X0.here hx rfl (hb hby own_d9_0) rfl rfl k) ?_
  show own_Run p e below s _ _ _ (s₁.setTop (mkF m 1 #[.val (.ref o0)] [(.ref o0)]))
  obtain ⟨T267, X267, e267, st267⟩ := getF X0 hx hZ hown (host := "") (Or.inl (hw _ (List.mem_of_getElem? (i := 57) rfl))) Via.refl e0 F_x (g := (mkF m 1 #[.val (.ref o0)] [(.ref o0)])) rfl rfl (hb hby own_d9_1)
  refine own_st st267 ?_
  show own_Run p e below s _ _ _ (T267.setTop (mkF m 4 #[.val (.ref o0)] [(.int x)]))
  exact own_ret X267 hx hlk (t := .int) hret rfl (Or.inl ⟨rfl, by simp, _, rfl⟩) (hb hby own_d9_4) (by decide) (by decide) ⟨rfl, N0, e267⟩
theorem own_pd8 : parseMethodDescriptor "(DIDID)Lcom/example/kerb2d/kerb2d/engine/Measures;" = some ⟨[.double, .int, .double, .int, .double], some (.object "com/example/kerb2d/kerb2d/engine/Measures")⟩ := by decide +kernel
theorem own_pd9 : parseMethodDescriptor "()I" = some ⟨[], some .int⟩ := by decide +kernel
set_option maxRecDepth 65536 in
set_option maxHeartbeats 40000000 in
theorem own_tail (l : Launch) (Z : State) (a0 : Array Value) (hw : ∀ d ∈ tables_1, d.before a0 Z = true) {p : Program} {e : Env} {s : State} {m : MethodId} {args : Array Value} {below : List Frame} {meth : Method} {c : Code} (T0 : State) (locs : List Loc) (hx : p.tables.exec = Jvm.exec) (hby : c.code = code) (hml : c.maxLocals = 11) (hZ : Z.Warmed39 s.vm) (hown : s.vm.findClass "com/example/kerb2d/kerb2d/engine/TallyArrivePinLaw" = some m.cls) (hnm : meth.name = x.name) (hret : meth.sig.returnType = ret) (hlk : meth.locks = false) (te : Addr) (i0 : Int32) (bw : Addr) (bp : Addr) (ev : Int32) (a1 : Int32) (a2 : Int32) (a3 : Int32) (aw : Int32) (ew : Int32) (ap : Int32) (ep : Int32) (h0 : Heap) (n0 : Nat) (Z0 : n0 ≤ h0.size) (hs : Heap) (X0 : Stand p l e room_1 s m args below meth c T0 locs 2 18) (e0 : T0.heap = hs) (N0 : Fr n0 locs) (K0 : Keep h0 hs []) (O0 : Old Z n0 hs) (S_E : Sta Z Z.heap "java/util/OptionalDouble" "EMPTY" "Ljava/util/OptionalDouble;" (.ref te)) (E_w : Exa Z hs bw "com/example/kerb2d/kerb2d/engine/Tally") (G_w : n0 ≤ bw) (Z_w : h0.size ≤ bw) (wwh : Fld Z hs bw "com/example/kerb2d/kerb2d/engine/Tally" "whole" "Lcom/example/kerb2d/kerb2d/engine/Tally;" .null) (war : Fld Z hs bw "com/example/kerb2d/kerb2d/engine/Tally" "arrived" "I" (.int aw)) (wen : Fld Z hs bw "com/example/kerb2d/kerb2d/engine/Tally" "entered" "I" (.int ew)) (wle : Fld Z hs bw "com/example/kerb2d/kerb2d/engine/Tally" "left" "I" (.int (0 : Int32))) (wde : Fld Z hs bw "com/example/kerb2d/kerb2d/engine/Tally" "delayed" "I" (.int (0 : Int32))) (wco : Fld Z hs bw "com/example/kerb2d/kerb2d/engine/Tally" "conflictSum" "J" (.long (0 : Int64))) (wfi : Fld Z hs bw "com/example/kerb2d/kerb2d/engine/Tally" "finished" "I" (.int (0 : Int32))) (wbo : Fld Z hs bw "com/example/kerb2d/kerb2d/engine/Tally" "boarded" "I" (.int (0 : Int32))) (E_p : Exa Z hs bp "com/example/kerb2d/kerb2d/engine/Tally") (G_p : n0 ≤ bp) (Z_p : h0.size ≤ bp) (pwh : Fld Z hs bp "com/example/kerb2d/kerb2d/engine/Tally" "whole" "Lcom/example/kerb2d/kerb2d/engine/Tally;" (.ref bw)) (par : Fld Z hs bp "com/example/kerb2d/kerb2d/engine/Tally" "arrived" "I" (.int ap)) (pen : Fld Z hs bp "com/example/kerb2d/kerb2d/engine/Tally" "entered" "I" (.int ep)) (ple : Fld Z hs bp "com/example/kerb2d/kerb2d/engine/Tally" "left" "I" (.int (0 : Int32))) (pde : Fld Z hs bp "com/example/kerb2d/kerb2d/engine/Tally" "delayed" "I" (.int (0 : Int32))) (pco : Fld Z hs bp "com/example/kerb2d/kerb2d/engine/Tally" "conflictSum" "J" (.long (0 : Int64))) (pfi : Fld Z hs bp "com/example/kerb2d/kerb2d/engine/Tally" "finished" "I" (.int (0 : Int32))) (pbo : Fld Z hs bp "com/example/kerb2d/kerb2d/engine/Tally" "boarded" "I" (.int (0 : Int32))) (ne0 : bp ≠ bw) (hA : aw = ((a1 + a3) + a2)) (hE : ew = ev) (hP : ap = (a1 + a3)) (hX : ep = 0) :
    own_Run p e below s (fun v h L => v = some (.int 1) ∧ Fr n0 L) room_1.cells room_1.slots (T0.setTop (mkF m 77 #[.val (.int i0), .val (.ref bw), .val (.ref bp), .val (.int ev), .val (.int a1), .val (.int a2), .val (.int a3), .unset, .unset, .unset, .unset] [])) := by
  show own_Run p e below s _ _ _ (T0.setTop (mkF m 77 #[.val (.int i0), .val (.ref bw), .val (.ref bp), .val (.int ev), .val (.int a1), .val (.int a2), .val (.int a3), .unset, .unset, .unset, .unset] []))
  refine own_st (fun t k => XS.iload X0.here hx rfl (hb hby at_77) rfl k) ?_
  show own_Run p e below s _ _ _ (T0.setTop (mkF m 79 #[.val (.int i0), .val (.ref bw), .val (.ref bp), .val (.int ev), .val (.int a1), .val (.int a2), .val (.int a3), .unset, .unset, .unset, .unset] [(.int a1)]))
  refine own_st (fun t k => XS.iload X0.here hx rfl (hb hby at_79) rfl k) ?_
  show own_Run p e below s _ _ _ (T0.setTop (mkF m 81 #[.val (.int i0), .val (.ref bw), .val (.ref bp), .val (.int ev), .val (.int a1), .val (.int a2), .val (.int a3), .unset, .unset, .unset, .unset] [(.int a3), (.int a1)]))
  refine own_st (fun t k => XS.iadd X0.here hx rfl (hb hby at_81) rfl k) ?_
  show own_Run p e below s _ _ _ (T0.setTop (mkF m 82 #[.val (.int i0), .val (.ref bw), .val (.ref bp), .val (.int ev), .val (.int a1), .val (.int a2), .val (.int a3), .unset, .unset, .unset, .unset] [(.int (a1 + a3))]))
  refine own_st (fun t k => XS.istore X0.here hx rfl (hb hby at_82) rfl (l' := #[.val (.int i0), .val (.ref bw), .val (.ref bp), .val (.int ev), .val (.int a1), .val (.int a2), .val (.int a3), .val (.int (a1 + a3)), .unset, .unset, .unset]) rfl k) ?_
  show own_Run p e below s _ _ _ (T0.setTop (mkF m 84 #[.val (.int i0), .val (.ref bw), .val (.ref bp), .val (.int ev), .val (.int a1), .val (.int a2), .val (.int a3), .val (.int (a1 + a3)), .unset, .unset, .unset] []))
  refine own_st (fun t k => XS.iload X0.here hx rfl (hb hby at_84) rfl k) ?_
  show own_Run p e below s _ _ _ (T0.setTop (mkF m 86 #[.val (.int i0), .val (.ref bw), .val (.ref bp), .val (.int ev), .val (.int a1), .val (.int a2), .val (.int a3), .val (.int (a1 + a3)), .unset, .unset, .unset] [(.int (a1 + a3))]))
  refine own_st (fun t k => XS.iload X0.here hx rfl (hb hby at_86) rfl k) ?_
  show own_Run p e below s _ _ _ (T0.setTop (mkF m 88 #[.val (.int i0), .val (.ref bw), .val (.ref bp), .val (.int ev), .val (.int a1), .val (.int a2), .val (.int a3), .val (.int (a1 + a3)), .unset, .unset, .unset] [(.int a2), (.int (a1 + a3))]))
  refine own_st (fun t k => XS.iadd X0.here hx rfl (hb hby at_88) rfl k) ?_
  show own_Run p e below s _ _ _ (T0.setTop (mkF m 89 #[.val (.int i0), .val (.ref bw), .val (.ref bp), .val (.int ev), .val (.int a1), .val (.int a2), .val (.int a3), .val (.int (a1 + a3)), .unset, .unset, .unset] [(.int ((a1 + a3) + a2))]))
  refine own_st (fun t k => XS.istore X0.here hx rfl (hb hby at_89) rfl (l' := #[.val (.int i0), .val (.ref bw), .val (.ref bp), .val (.int ev), .val (.int a1), .val (.int a2), .val (.int a3), .val (.int (a1 + a3)), .val (.int ((a1 + a3) + a2)), .unset, .unset]) rfl k) ?_
  show own_Run p e below s _ _ _ (T0.setTop (mkF m 91 #[.val (.int i0), .val (.ref bw), .val (.ref bp), .val (.int ev), .val (.int a1), .val (.int a2), .val (.int a3), .val (.int (a1 + a3)), .val (.int ((a1 + a3) + a2)), .unset, .unset] []))
  refine own_st (fun t k => XS.aloadN X0.here hx rfl (hb hby at_91) rfl rfl k) ?_
  show own_Run p e below s _ _ _ (T0.setTop (mkF m 92 #[.val (.int i0), .val (.ref bw), .val (.ref bp), .val (.int ev), .val (.int a1), .val (.int a2), .val (.int a3), .val (.int (a1 + a3)), .val (.int ((a1 + a3) + a2)), .unset, .unset] [(.ref bw)]))
  refine own_st (fun t k => XS.dconst0 X0.here hx rfl (hb hby at_92) (v := 0) rfl k) ?_
  show own_Run p e below s _ _ _ (T0.setTop (mkF m 93 #[.val (.int i0), .val (.ref bw), .val (.ref bp), .val (.int ev), .val (.int a1), .val (.int a2), .val (.int a3), .val (.int (a1 + a3)), .val (.int ((a1 + a3) + a2)), .unset, .unset] [(.double (0 : UInt64)), (.ref bw)]))
  refine own_st (fun t k => XS.iconst X0.here hx rfl (hb hby at_93) k) ?_
  show own_Run p e below s _ _ _ (T0.setTop (mkF m 94 #[.val (.int i0), .val (.ref bw), .val (.ref bp), .val (.int ev), .val (.int a1), .val (.int a2), .val (.int a3), .val (.int (a1 + a3)), .val (.int ((a1 + a3) + a2)), .unset, .unset] [(.int (0 : Int32)), (.double (0 : UInt64)), (.ref bw)]))
  refine own_st (fun t k => XS.dconst0 X0.here hx rfl (hb hby at_94) (v := 0) rfl k) ?_
  show own_Run p e below s _ _ _ (T0.setTop (mkF m 95 #[.val (.int i0), .val (.ref bw), .val (.ref bp), .val (.int ev), .val (.int a1), .val (.int a2), .val (.int a3), .val (.int (a1 + a3)), .val (.int ((a1 + a3) + a2)), .unset, .unset] [(.double (0 : UInt64)), (.int (0 : Int32)), (.double (0 : UInt64)), (.ref bw)]))
  refine own_st (fun t k => XS.iconst X0.here hx rfl (hb hby at_95) k) ?_
  show own_Run p e below s _ _ _ (T0.setTop (mkF m 96 #[.val (.int i0), .val (.ref bw), .val (.ref bp), .val (.int ev), .val (.int a1), .val (.int a2), .val (.int a3), .val (.int (a1 + a3)), .val (.int ((a1 + a3) + a2)), .unset, .unset] [(.int (0 : Int32)), (.double (0 : UInt64)), (.int (0 : Int32)), (.double (0 : UInt64)), (.ref bw)]))
  refine own_st (fun t k => XS.dconst1 X0.here hx rfl (hb hby at_96) (v := 4607182418800017408) rfl k) ?_
  show own_Run p e below s _ _ _ (T0.setTop (mkF m 97 #[.val (.int i0), .val (.ref bw), .val (.ref bp), .val (.int ev), .val (.int a1), .val (.int a2), .val (.int a3), .val (.int (a1 + a3)), .val (.int ((a1 + a3) + a2)), .unset, .unset] [(.double (4607182418800017408 : UInt64)), (.int (0 : Int32)), (.double (0 : UInt64)), (.int (0 : Int32)), (.double (0 : UInt64)), (.ref bw)]))
  refine own_callV X0 hx hZ (y := (⟨"com/example/kerb2d/kerb2d/engine/Tally", "measures", "(DIDID)Lcom/example/kerb2d/kerb2d/engine/Measures;"⟩ : MethodName)) (C := "com/example/kerb2d/kerb2d/engine/Tally") hown (hw _ (List.mem_of_getElem? (i := 15) rfl)) (hw _ (List.mem_of_getElem? (i := 16) rfl)) (hw _ (List.mem_of_getElem? (i := 18) rfl)) (hw _ (List.mem_of_getElem? (i := 17) rfl)) (hw _ (List.mem_of_getElem? (i := 19) rfl)) (hw _ (List.mem_of_getElem? (i := 2) rfl)) (by decide) e0 (a := bw) E_w (argsL := [(.double (0 : UInt64)), (.int (0 : Int32)), (.double (0 : UInt64)), (.int (0 : Int32)), (.double (4607182418800017408 : UInt64))]) (rest := []) (W := 0) (own_rm4 l Z a0 hw [] bw te aw ew hs n0 (Nat.le_trans Z0 K0.1) O0 S_E war wen wle wde wco wfi wbo) (by decide) (by decide) (by rw [hml]; rfl) (lenOf own_pd8 rfl) rfl (by exact Nat.le_of_eq rfl) (hb hby at_97) (by decide) (by decide) ?_
  intro T268 v268 L268 X268 hq268
  obtain ⟨b268, rfl, sz268, ge268, N268q, K268q, Q269, Q270, Q271, Q272⟩ := hq268
  have K273 : Keep h0 T268.heap [] := K0.trans K268q all0
  have O274 := O0.keep K268q all0
  have N268 := Fr.app N0 N268q
  show own_Run p e below s _ _ _ (T268.setTop (mkF m 100 #[.val (.int i0), .val (.ref bw), .val (.ref bp), .val (.int ev), .val (.int a1), .val (.int a2), .val (.int a3), .val (.int (a1 + a3)), .val (.int ((a1 + a3) + a2)), .unset, .unset] [(.ref b268)]))
  refine own_st (fun t k => XS.astore X268.here hx rfl (hb hby at_100) rfl rfl (l' := #[.val (.int i0), .val (.ref bw), .val (.ref bp), .val (.int ev), .val (.int a1), .val (.int a2), .val (.int a3), .val (.int (a1 + a3)), .val (.int ((a1 + a3) + a2)), .val (.ref b268), .unset]) rfl k) ?_
  show own_Run p e below s _ _ _ (T268.setTop (mkF m 102 #[.val (.int i0), .val (.ref bw), .val (.ref bp), .val (.int ev), .val (.int a1), .val (.int a2), .val (.int a3), .val (.int (a1 + a3)), .val (.int ((a1 + a3) + a2)), .val (.ref b268), .unset] []))
  refine own_st (fun t k => XS.aloadN X268.here hx rfl (hb hby at_102) rfl rfl k) ?_
  show own_Run p e below s _ _ _ (T268.setTop (mkF m 103 #[.val (.int i0), .val (.ref bw), .val (.ref bp), .val (.int ev), .val (.int a1), .val (.int a2), .val (.int a3), .val (.int (a1 + a3)), .val (.int ((a1 + a3) + a2)), .val (.ref b268), .unset] [(.ref bp)]))
  refine own_st (fun t k => XS.dconst0 X268.here hx rfl (hb hby at_103) (v := 0) rfl k) ?_
  show own_Run p e below s _ _ _ (T268.setTop (mkF m 104 #[.val (.int i0), .val (.ref bw), .val (.ref bp), .val (.int ev), .val (.int a1), .val (.int a2), .val (.int a3), .val (.int (a1 + a3)), .val (.int ((a1 + a3) + a2)), .val (.ref b268), .unset] [(.double (0 : UInt64)), (.ref bp)]))
  refine own_st (fun t k => XS.iconst X268.here hx rfl (hb hby at_104) k) ?_
  show own_Run p e below s _ _ _ (T268.setTop (mkF m 105 #[.val (.int i0), .val (.ref bw), .val (.ref bp), .val (.int ev), .val (.int a1), .val (.int a2), .val (.int a3), .val (.int (a1 + a3)), .val (.int ((a1 + a3) + a2)), .val (.ref b268), .unset] [(.int (0 : Int32)), (.double (0 : UInt64)), (.ref bp)]))
  refine own_st (fun t k => XS.dconst0 X268.here hx rfl (hb hby at_105) (v := 0) rfl k) ?_
  show own_Run p e below s _ _ _ (T268.setTop (mkF m 106 #[.val (.int i0), .val (.ref bw), .val (.ref bp), .val (.int ev), .val (.int a1), .val (.int a2), .val (.int a3), .val (.int (a1 + a3)), .val (.int ((a1 + a3) + a2)), .val (.ref b268), .unset] [(.double (0 : UInt64)), (.int (0 : Int32)), (.double (0 : UInt64)), (.ref bp)]))
  refine own_st (fun t k => XS.iconst X268.here hx rfl (hb hby at_106) k) ?_
  show own_Run p e below s _ _ _ (T268.setTop (mkF m 107 #[.val (.int i0), .val (.ref bw), .val (.ref bp), .val (.int ev), .val (.int a1), .val (.int a2), .val (.int a3), .val (.int (a1 + a3)), .val (.int ((a1 + a3) + a2)), .val (.ref b268), .unset] [(.int (0 : Int32)), (.double (0 : UInt64)), (.int (0 : Int32)), (.double (0 : UInt64)), (.ref bp)]))
  refine own_st (fun t k => XS.dconst1 X268.here hx rfl (hb hby at_107) (v := 4607182418800017408) rfl k) ?_
  show own_Run p e below s _ _ _ (T268.setTop (mkF m 108 #[.val (.int i0), .val (.ref bw), .val (.ref bp), .val (.int ev), .val (.int a1), .val (.int a2), .val (.int a3), .val (.int (a1 + a3)), .val (.int ((a1 + a3) + a2)), .val (.ref b268), .unset] [(.double (4607182418800017408 : UInt64)), (.int (0 : Int32)), (.double (0 : UInt64)), (.int (0 : Int32)), (.double (0 : UInt64)), (.ref bp)]))
  have F275 := (par.keep K268q nin0)
  have F276 := (pen.keep K268q nin0)
  have F277 := (ple.keep K268q nin0)
  have F278 := (pde.keep K268q nin0)
  have F279 := (pco.keep K268q nin0)
  have F280 := (pfi.keep K268q nin0)
  have F281 := (pbo.keep K268q nin0)
  have E283 := (E_p.keep K268q)
  refine own_callV X268 hx hZ (y := (⟨"com/example/kerb2d/kerb2d/engine/Tally", "measures", "(DIDID)Lcom/example/kerb2d/kerb2d/engine/Measures;"⟩ : MethodName)) (C := "com/example/kerb2d/kerb2d/engine/Tally") hown (hw _ (List.mem_of_getElem? (i := 15) rfl)) (hw _ (List.mem_of_getElem? (i := 16) rfl)) (hw _ (List.mem_of_getElem? (i := 18) rfl)) (hw _ (List.mem_of_getElem? (i := 17) rfl)) (hw _ (List.mem_of_getElem? (i := 19) rfl)) (hw _ (List.mem_of_getElem? (i := 2) rfl)) (by decide) rfl (a := bp) E283 (argsL := [(.double (0 : UInt64)), (.int (0 : Int32)), (.double (0 : UInt64)), (.int (0 : Int32)), (.double (4607182418800017408 : UInt64))]) (rest := []) (W := 0) (own_rm4 l Z a0 hw [] bp te ap ep T268.heap n0 (Nat.le_trans Z0 K273.1) O274 S_E F275 F276 F277 F278 F279 F280 F281) (by decide) (by decide) (by rw [hml]; rfl) (lenOf own_pd8 rfl) rfl (by exact Nat.le_of_eq rfl) (hb hby at_108) (by decide) (by decide) ?_
  intro T282 v282 L282 X282 hq282
  obtain ⟨b282, rfl, sz282, ge282, N282q, K282q, Q284, Q285, Q286, Q287⟩ := hq282
  have K288 : Keep h0 T282.heap [] := K273.trans K282q all0
  have O289 := O274.keep K282q all0
  have N282 := Fr.app N268 N282q
  show own_Run p e below s _ _ _ (T282.setTop (mkF m 111 #[.val (.int i0), .val (.ref bw), .val (.ref bp), .val (.int ev), .val (.int a1), .val (.int a2), .val (.int a3), .val (.int (a1 + a3)), .val (.int ((a1 + a3) + a2)), .val (.ref b268), .unset] [(.ref b282)]))
  refine own_st (fun t k => XS.astore X282.here hx rfl (hb hby at_111) rfl rfl (l' := #[.val (.int i0), .val (.ref bw), .val (.ref bp), .val (.int ev), .val (.int a1), .val (.int a2), .val (.int a3), .val (.int (a1 + a3)), .val (.int ((a1 + a3) + a2)), .val (.ref b268), .val (.ref b282)]) rfl k) ?_
  show own_Run p e below s _ _ _ (T282.setTop (mkF m 113 #[.val (.int i0), .val (.ref bw), .val (.ref bp), .val (.int ev), .val (.int a1), .val (.int a2), .val (.int a3), .val (.int (a1 + a3)), .val (.int ((a1 + a3) + a2)), .val (.ref b268), .val (.ref b282)] []))
  refine own_st (fun t k => XS.aload X282.here hx rfl (hb hby at_113) rfl rfl k) ?_
  show own_Run p e below s _ _ _ (T282.setTop (mkF m 115 #[.val (.int i0), .val (.ref bw), .val (.ref bp), .val (.int ev), .val (.int a1), .val (.int a2), .val (.int a3), .val (.int (a1 + a3)), .val (.int ((a1 + a3) + a2)), .val (.ref b268), .val (.ref b282)] [(.ref b268)]))
  have F290 := (Q270.keep K282q nin0)
  have E292 := (Q269.keep K282q)
  refine own_callV X282 hx hZ (y := (⟨"com/example/kerb2d/kerb2d/engine/Measures", "arrived", "()I"⟩ : MethodName)) (C := "com/example/kerb2d/kerb2d/engine/Measures") hown (hw _ (List.mem_of_getElem? (i := 77) rfl)) (hw _ (List.mem_of_getElem? (i := 78) rfl)) (hw _ (List.mem_of_getElem? (i := 80) rfl)) (hw _ (List.mem_of_getElem? (i := 79) rfl)) (hw _ (List.mem_of_getElem? (i := 81) rfl)) (hw _ (List.mem_of_getElem? (i := 22) rfl)) (by decide) rfl (a := b268) E292 (argsL := []) (rest := []) (W := 0) (own_rm8 l Z a0 hw [] b268 aw T282.heap n0 (Nat.le_trans Z0 K288.1) F290) (by decide) (by decide) (by rw [hml]; rfl) (lenOf own_pd9 rfl) rfl (by exact Nat.le_of_eq rfl) (hb hby at_115) (by decide) (by decide) ?_
  intro T291 v291 L291 X291 hq291
  obtain ⟨rfl, N291q, hh291⟩ := hq291
  have N291 := Fr.app N282 N291q
  show own_Run p e below s _ _ _ (T291.setTop (mkF m 118 #[.val (.int i0), .val (.ref bw), .val (.ref bp), .val (.int ev), .val (.int a1), .val (.int a2), .val (.int a3), .val (.int (a1 + a3)), .val (.int ((a1 + a3) + a2)), .val (.ref b268), .val (.ref b282)] [(.int aw)]))
  refine own_st (fun t k => XS.iload X291.here hx rfl (hb hby at_118) rfl k) ?_
  show own_Run p e below s _ _ _ (T291.setTop (mkF m 120 #[.val (.int i0), .val (.ref bw), .val (.ref bp), .val (.int ev), .val (.int a1), .val (.int a2), .val (.int a3), .val (.int (a1 + a3)), .val (.int ((a1 + a3) + a2)), .val (.ref b268), .val (.ref b282)] [(.int ((a1 + a3) + a2)), (.int aw)]))
  refine own_st (fun t k => XS.icmpNo X291.here hx rfl (hb hby at_120) rfl (teq (hA : aw = ((a1 + a3) + a2))).2 k) ?_
  show own_Run p e below s _ _ _ (T291.setTop (mkF m 123 #[.val (.int i0), .val (.ref bw), .val (.ref bp), .val (.int ev), .val (.int a1), .val (.int a2), .val (.int a3), .val (.int (a1 + a3)), .val (.int ((a1 + a3) + a2)), .val (.ref b268), .val (.ref b282)] []))
  refine own_st (fun t k => XS.aload X291.here hx rfl (hb hby at_123) rfl rfl k) ?_
  show own_Run p e below s _ _ _ (T291.setTop (mkF m 125 #[.val (.int i0), .val (.ref bw), .val (.ref bp), .val (.int ev), .val (.int a1), .val (.int a2), .val (.int a3), .val (.int (a1 + a3)), .val (.int ((a1 + a3) + a2)), .val (.ref b268), .val (.ref b282)] [(.ref b268)]))
  have F293 := (Q272.keep K282q nin0)
  refine own_callV X291 hx hZ (y := (⟨"com/example/kerb2d/kerb2d/engine/Measures", "waiting", "()I"⟩ : MethodName)) (C := "com/example/kerb2d/kerb2d/engine/Measures") hown (hw _ (List.mem_of_getElem? (i := 82) rfl)) (hw _ (List.mem_of_getElem? (i := 83) rfl)) (hw _ (List.mem_of_getElem? (i := 85) rfl)) (hw _ (List.mem_of_getElem? (i := 84) rfl)) (hw _ (List.mem_of_getElem? (i := 86) rfl)) (hw _ (List.mem_of_getElem? (i := 22) rfl)) (by decide) hh291 (a := b268) E292 (argsL := []) (rest := []) (W := 0) (own_rm9 l Z a0 hw [] b268 (aw - ew) T282.heap n0 (Nat.le_trans Z0 K288.1) F293) (by decide) (by decide) (by rw [hml]; rfl) (lenOf own_pd9 rfl) rfl (by exact Nat.le_of_eq rfl) (hb hby at_125) (by decide) (by decide) ?_
  intro T294 v294 L294 X294 hq294
  obtain ⟨rfl, N294q, hh294⟩ := hq294
  have N294 := Fr.app N291 N294q
  show own_Run p e below s _ _ _ (T294.setTop (mkF m 128 #[.val (.int i0), .val (.ref bw), .val (.ref bp), .val (.int ev), .val (.int a1), .val (.int a2), .val (.int a3), .val (.int (a1 + a3)), .val (.int ((a1 + a3) + a2)), .val (.ref b268), .val (.ref b282)] [(.int (aw - ew))]))
  refine own_st (fun t k => XS.iload X294.here hx rfl (hb hby at_128) rfl k) ?_
  show own_Run p e below s _ _ _ (T294.setTop (mkF m 130 #[.val (.int i0), .val (.ref bw), .val (.ref bp), .val (.int ev), .val (.int a1), .val (.int a2), .val (.int a3), .val (.int (a1 + a3)), .val (.int ((a1 + a3) + a2)), .val (.ref b268), .val (.ref b282)] [(.int ((a1 + a3) + a2)), (.int (aw - ew))]))
  refine own_st (fun t k => XS.iloadN X294.here hx rfl (hb hby at_130) rfl k) ?_
  show own_Run p e below s _ _ _ (T294.setTop (mkF m 131 #[.val (.int i0), .val (.ref bw), .val (.ref bp), .val (.int ev), .val (.int a1), .val (.int a2), .val (.int a3), .val (.int (a1 + a3)), .val (.int ((a1 + a3) + a2)), .val (.ref b268), .val (.ref b282)] [(.int ev), (.int ((a1 + a3) + a2)), (.int (aw - ew))]))
  refine own_st (fun t k => XS.isub X294.here hx rfl (hb hby at_131) rfl k) ?_
  show own_Run p e below s _ _ _ (T294.setTop (mkF m 132 #[.val (.int i0), .val (.ref bw), .val (.ref bp), .val (.int ev), .val (.int a1), .val (.int a2), .val (.int a3), .val (.int (a1 + a3)), .val (.int ((a1 + a3) + a2)), .val (.ref b268), .val (.ref b282)] [(.int (((a1 + a3) + a2) - ev)), (.int (aw - ew))]))
  refine own_st (fun t k => XS.icmpNo X294.here hx rfl (hb hby at_132) rfl (teq (by rw [hA, hE] : (aw - ew) = (((a1 + a3) + a2) - ev))).2 k) ?_
  show own_Run p e below s _ _ _ (T294.setTop (mkF m 135 #[.val (.int i0), .val (.ref bw), .val (.ref bp), .val (.int ev), .val (.int a1), .val (.int a2), .val (.int a3), .val (.int (a1 + a3)), .val (.int ((a1 + a3) + a2)), .val (.ref b268), .val (.ref b282)] []))
  refine own_st (fun t k => XS.aload X294.here hx rfl (hb hby at_135) rfl rfl k) ?_
  show own_Run p e below s _ _ _ (T294.setTop (mkF m 137 #[.val (.int i0), .val (.ref bw), .val (.ref bp), .val (.int ev), .val (.int a1), .val (.int a2), .val (.int a3), .val (.int (a1 + a3)), .val (.int ((a1 + a3) + a2)), .val (.ref b268), .val (.ref b282)] [(.ref b282)]))
  refine own_callV X294 hx hZ (y := (⟨"com/example/kerb2d/kerb2d/engine/Measures", "arrived", "()I"⟩ : MethodName)) (C := "com/example/kerb2d/kerb2d/engine/Measures") hown (hw _ (List.mem_of_getElem? (i := 77) rfl)) (hw _ (List.mem_of_getElem? (i := 78) rfl)) (hw _ (List.mem_of_getElem? (i := 80) rfl)) (hw _ (List.mem_of_getElem? (i := 79) rfl)) (hw _ (List.mem_of_getElem? (i := 81) rfl)) (hw _ (List.mem_of_getElem? (i := 22) rfl)) (by decide) hh294 (a := b282) Q284 (argsL := []) (rest := []) (W := 0) (own_rm8 l Z a0 hw [] b282 ap T282.heap n0 (Nat.le_trans Z0 K288.1) Q285) (by decide) (by decide) (by rw [hml]; rfl) (lenOf own_pd9 rfl) rfl (by exact Nat.le_of_eq rfl) (hb hby at_137) (by decide) (by decide) ?_
  intro T295 v295 L295 X295 hq295
  obtain ⟨rfl, N295q, hh295⟩ := hq295
  have N295 := Fr.app N294 N295q
  show own_Run p e below s _ _ _ (T295.setTop (mkF m 140 #[.val (.int i0), .val (.ref bw), .val (.ref bp), .val (.int ev), .val (.int a1), .val (.int a2), .val (.int a3), .val (.int (a1 + a3)), .val (.int ((a1 + a3) + a2)), .val (.ref b268), .val (.ref b282)] [(.int ap)]))
  refine own_st (fun t k => XS.iload X295.here hx rfl (hb hby at_140) rfl k) ?_
  show own_Run p e below s _ _ _ (T295.setTop (mkF m 142 #[.val (.int i0), .val (.ref bw), .val (.ref bp), .val (.int ev), .val (.int a1), .val (.int a2), .val (.int a3), .val (.int (a1 + a3)), .val (.int ((a1 + a3) + a2)), .val (.ref b268), .val (.ref b282)] [(.int (a1 + a3)), (.int ap)]))
  refine own_st (fun t k => XS.icmpNo X295.here hx rfl (hb hby at_142) rfl (teq (hP : ap = (a1 + a3))).2 k) ?_
  show own_Run p e below s _ _ _ (T295.setTop (mkF m 145 #[.val (.int i0), .val (.ref bw), .val (.ref bp), .val (.int ev), .val (.int a1), .val (.int a2), .val (.int a3), .val (.int (a1 + a3)), .val (.int ((a1 + a3) + a2)), .val (.ref b268), .val (.ref b282)] []))
  refine own_st (fun t k => XS.aload X295.here hx rfl (hb hby at_145) rfl rfl k) ?_
  show own_Run p e below s _ _ _ (T295.setTop (mkF m 147 #[.val (.int i0), .val (.ref bw), .val (.ref bp), .val (.int ev), .val (.int a1), .val (.int a2), .val (.int a3), .val (.int (a1 + a3)), .val (.int ((a1 + a3) + a2)), .val (.ref b268), .val (.ref b282)] [(.ref b282)]))
  refine own_callV X295 hx hZ (y := (⟨"com/example/kerb2d/kerb2d/engine/Measures", "waiting", "()I"⟩ : MethodName)) (C := "com/example/kerb2d/kerb2d/engine/Measures") hown (hw _ (List.mem_of_getElem? (i := 82) rfl)) (hw _ (List.mem_of_getElem? (i := 83) rfl)) (hw _ (List.mem_of_getElem? (i := 85) rfl)) (hw _ (List.mem_of_getElem? (i := 84) rfl)) (hw _ (List.mem_of_getElem? (i := 86) rfl)) (hw _ (List.mem_of_getElem? (i := 22) rfl)) (by decide) hh295 (a := b282) Q284 (argsL := []) (rest := []) (W := 0) (own_rm9 l Z a0 hw [] b282 (ap - ep) T282.heap n0 (Nat.le_trans Z0 K288.1) Q287) (by decide) (by decide) (by rw [hml]; rfl) (lenOf own_pd9 rfl) rfl (by exact Nat.le_of_eq rfl) (hb hby at_147) (by decide) (by decide) ?_
  intro T296 v296 L296 X296 hq296
  obtain ⟨rfl, N296q, hh296⟩ := hq296
  have N296 := Fr.app N295 N296q
  show own_Run p e below s _ _ _ (T296.setTop (mkF m 150 #[.val (.int i0), .val (.ref bw), .val (.ref bp), .val (.int ev), .val (.int a1), .val (.int a2), .val (.int a3), .val (.int (a1 + a3)), .val (.int ((a1 + a3) + a2)), .val (.ref b268), .val (.ref b282)] [(.int (ap - ep))]))
  refine own_st (fun t k => XS.iload X296.here hx rfl (hb hby at_150) rfl k) ?_
  show own_Run p e below s _ _ _ (T296.setTop (mkF m 152 #[.val (.int i0), .val (.ref bw), .val (.ref bp), .val (.int ev), .val (.int a1), .val (.int a2), .val (.int a3), .val (.int (a1 + a3)), .val (.int ((a1 + a3) + a2)), .val (.ref b268), .val (.ref b282)] [(.int (a1 + a3)), (.int (ap - ep))]))
  refine own_st (fun t k => XS.icmpNo X296.here hx rfl (hb hby at_152) rfl (teq (by rw [hP, hX]; exact Int32.sub_zero _ : (ap - ep) = (a1 + a3))).2 k) ?_
  show own_Run p e below s _ _ _ (T296.setTop (mkF m 155 #[.val (.int i0), .val (.ref bw), .val (.ref bp), .val (.int ev), .val (.int a1), .val (.int a2), .val (.int a3), .val (.int (a1 + a3)), .val (.int ((a1 + a3) + a2)), .val (.ref b268), .val (.ref b282)] []))
  refine own_st (fun t k => XS.iconst X296.here hx rfl (hb hby at_155) k) ?_
  show own_Run p e below s _ _ _ (T296.setTop (mkF m 156 #[.val (.int i0), .val (.ref bw), .val (.ref bp), .val (.int ev), .val (.int a1), .val (.int a2), .val (.int a3), .val (.int (a1 + a3)), .val (.int ((a1 + a3) + a2)), .val (.ref b268), .val (.ref b282)] [(.int (1 : Int32))]))
  refine own_st (fun t k => XS.goto X296.here hx rfl (pc0 := 156) (pc' := 160) rfl (hb hby at_156) (by decide) (by decide) k) ?_
  show own_Run p e below s _ _ _ (T296.setTop (mkF m 160 #[.val (.int i0), .val (.ref bw), .val (.ref bp), .val (.int ev), .val (.int a1), .val (.int a2), .val (.int a3), .val (.int (a1 + a3)), .val (.int ((a1 + a3) + a2)), .val (.ref b268), .val (.ref b282)] [(.int (1 : Int32))]))
  exact own_ret X296 hx hlk (t := .boolean) hret rfl (Or.inl ⟨rfl, by simp, _, rfl⟩) (hb hby at_160) (by decide) (by decide) ⟨rfl, N296⟩
set_option maxHeartbeats 4000000 in
theorem own_ef0 (m : MethodId) (x0 : Int32) : entryFrame m #[(.int x0)] maxLocals = mkF m 0 #[.val (.int x0), .unset, .unset, .unset, .unset, .unset, .unset, .unset, .unset, .unset, .unset] [] := by first | (simp [entryFrame, mkF, argsToLocals, Value.category, maxLocals]; done) | rfl
theorem own_pn10 : plainName "com/example/kerb2d/kerb2d/engine/TallyArrivePinLaw" = true := by first | (simp [plainName, overriddenIn]; done) | decide +kernel
def own_Q0 (Z : State) (a0 : Array Value) (i0 : Int32) (te : Addr) (h0 : Heap) (n0 : Nat) (v : Option Value) (h : Heap) (L : List Loc) : Prop := v = some (.int 1) ∧ Fr n0 L
set_option maxRecDepth 65536 in
set_option maxHeartbeats 40000000 in
theorem own_rm0 (l : Launch) (Z : State) (a0 : Array Value) (hw : ∀ d ∈ tables_1, d.before a0 Z = true) (ws : List Jvm.Cond) (i0 : Int32) (te : Addr) (h0 : Heap) (n0 : Nat) (Z0 : n0 ≤ h0.size) (O0 : Old Z n0 h0) (S_E : Sta Z Z.heap "java/util/OptionalDouble" "EMPTY" "Ljava/util/OptionalDouble;" (.ref te)) :
    MetFree l x (head1 (Jvm.Cond.code x code maxLocals ret :: ws) room_1) (fun a U => a = #[(.int i0)] ∧ Z.Warmed39 U.vm ∧ U.heap = h0) (fun _ _ _ _ _ => True) (fun _ U o U' => ∃ v L, o = .returned v ∧ own_Q0 Z a0 i0 te h0 n0 v U'.heap L ∧ FrameEnd U o U' L room_1.cells room_1.slots) := by
  refine own_body (Q := fun v h L => own_Q0 Z a0 i0 te h0 n0 v h L) (plainFor_of_name own_pn10) ?_
  intro p e s m below meth c s₁ hx hby hml hZ hown hnm hret hlk X0 e0
  replace hml : c.maxLocals = 11 := hml
  replace hown : s.vm.findClass "com/example/kerb2d/kerb2d/engine/TallyArrivePinLaw" = some m.cls := hown
  have N0 := Fr.nil n0
  have K0 : Keep h0 h0 [] := Keep.refl _ _
  refine own_st (fun t k => castTop (own_ef0 m i0) k) ?_
  show own_Run p e below s _ _ _ (s₁.setTop (mkF m 0 #[.val (.int i0), .unset, .unset, .unset, .unset, .unset, .unset, .unset, .unset, .unset, .unset] []))
  obtain ⟨T297, h297, X297, e297, E297, A297, D297, -, st297⟩ := newO X0 hx hZ hown (hw _ (List.mem_of_getElem? (i := 0) rfl)) (hw _ (List.mem_of_getElem? (i := 1) rfl)) (hw _ (List.mem_of_getElem? (i := 2) rfl)) e0 (g := (mkF m 0 #[.val (.int i0), .unset, .unset, .unset, .unset, .unset, .unset, .unset, .unset, .unset, .unset] [])) rfl (hb hby at_0) (by decide) (by decide)
  obtain ⟨b297, g297⟩ : ∃ z, z = h0.size := ⟨_, rfl⟩
  rw [← g297] at A297 D297 st297
  have sz298 : h0.size ≤ b297 := Nat.le_trans K0.1 (Nat.le_of_eq g297.symm)
  have ge299 : n0 ≤ b297 := Nat.le_trans Z0 sz298
  refine own_st st297 ?_
  have K300 : Keep h0 h297 [] := K0.ext E297
  have O301 := O0.ext E297
  show own_Run p e below s _ _ _ (T297.setTop (mkF m 3 #[.val (.int i0), .unset, .unset, .unset, .unset, .unset, .unset, .unset, .unset, .unset, .unset] [(.ref b297)]))
  refine own_st (fun t k => XS.dup X297.here hx rfl (hb hby at_3) rfl rfl k) ?_
  show own_Run p e below s _ _ _ (T297.setTop (mkF m 4 #[.val (.int i0), .unset, .unset, .unset, .unset, .unset, .unset, .unset, .unset, .unset, .unset] [(.ref b297), (.ref b297)]))
  refine own_callI X297 hx hZ (y := (⟨"com/example/kerb2d/kerb2d/engine/Tally", "<init>", "()V"⟩ : MethodName)) rfl hown (hw _ (List.mem_of_getElem? (i := 3) rfl)) (hw _ (List.mem_of_getElem? (i := 4) rfl)) (hw _ (List.mem_of_getElem? (i := 5) rfl)) (hw _ (List.mem_of_getElem? (i := 2) rfl)) (by decide) e297 (a := b297) (argsL := []) (rest := [(.ref b297)]) (W := 1) (own_rm1 l Z a0 hw [] b297 h297 n0 (Nat.le_trans Z0 K300.1) A297 D297 ge299) (by decide) (by decide) (by rw [hml]; rfl) (lenOf own_pd2 rfl) rfl (by exact Nat.le_of_eq rfl) (hb hby at_4) (by decide) (by decide) ?_
  intro T302 v302 L302 X302 hq302
  obtain ⟨rfl, N302q, K302q, Q303, Q304, Q305, Q306, Q307, Q308, Q309, Q310, Q311⟩ := hq302
  have K312 : Keep h0 T302.heap [] := K300.trans K302q (allS (Or.inr sz298) all0)
  have O313 := O301.keep K302q (allS ge299 all0)
  have N302 := Fr.app N0 N302q
  show own_Run p e below s _ _ _ (T302.setTop (mkF m 7 #[.val (.int i0), .unset, .unset, .unset, .unset, .unset, .unset, .unset, .unset, .unset, .unset] [(.ref b297)]))
  refine own_st (fun t k => XS.astoreN X302.here hx rfl (hb hby at_7) rfl rfl (l' := #[.val (.int i0), .val (.ref b297), .unset, .unset, .unset, .unset, .unset, .unset, .unset, .unset, .unset]) rfl k) ?_
  show own_Run p e below s _ _ _ (T302.setTop (mkF m 8 #[.val (.int i0), .val (.ref b297), .unset, .unset, .unset, .unset, .unset, .unset, .unset, .unset, .unset] []))
  obtain ⟨T314, h314, X314, e314, E314, A314, D314, -, st314⟩ := newO X302 hx hZ hown (hw _ (List.mem_of_getElem? (i := 0) rfl)) (hw _ (List.mem_of_getElem? (i := 1) rfl)) (hw _ (List.mem_of_getElem? (i := 2) rfl)) rfl (g := (mkF m 8 #[.val (.int i0), .val (.ref b297), .unset, .unset, .unset, .unset, .unset, .unset, .unset, .unset, .unset] [])) rfl (hb hby at_8) (by decide) (by decide)
  obtain ⟨b314, g314⟩ : ∃ z, z = T302.heap.size := ⟨_, rfl⟩
  rw [← g314] at A314 D314 st314
  have sz315 : h0.size ≤ b314 := Nat.le_trans K312.1 (Nat.le_of_eq g314.symm)
  have ge316 : n0 ≤ b314 := Nat.le_trans Z0 sz315
  refine own_st st314 ?_
  have K317 : Keep h0 h314 [] := K312.ext E314
  have O318 := O313.ext E314
  show own_Run p e below s _ _ _ (T314.setTop (mkF m 11 #[.val (.int i0), .val (.ref b297), .unset, .unset, .unset, .unset, .unset, .unset, .unset, .unset, .unset] [(.ref b314)]))
  refine own_st (fun t k => XS.dup X314.here hx rfl (hb hby at_11) rfl rfl k) ?_
  show own_Run p e below s _ _ _ (T314.setTop (mkF m 12 #[.val (.int i0), .val (.ref b297), .unset, .unset, .unset, .unset, .unset, .unset, .unset, .unset, .unset] [(.ref b314), (.ref b314)]))
  refine own_st (fun t k => XS.aloadN X314.here hx rfl (hb hby at_12) rfl rfl k) ?_
  show own_Run p e below s _ _ _ (T314.setTop (mkF m 13 #[.val (.int i0), .val (.ref b297), .unset, .unset, .unset, .unset, .unset, .unset, .unset, .unset, .unset] [(.ref b297), (.ref b314), (.ref b314)]))
  refine own_callI X314 hx hZ (y := (⟨"com/example/kerb2d/kerb2d/engine/Tally", "<init>", "(Lcom/example/kerb2d/kerb2d/engine/Tally;)V"⟩ : MethodName)) rfl hown (hw _ (List.mem_of_getElem? (i := 14) rfl)) (hw _ (List.mem_of_getElem? (i := 7) rfl)) (hw _ (List.mem_of_getElem? (i := 8) rfl)) (hw _ (List.mem_of_getElem? (i := 2) rfl)) (by decide) e314 (a := b314) (argsL := [(.ref b297)]) (rest := [(.ref b314)]) (W := 1) (own_rm2R l Z a0 hw [] b314 b297 h314 n0 (Nat.le_trans Z0 K317.1) A314 D314 ge316) (by decide) (by decide) (by rw [hml]; rfl) (lenOf own_pd1 rfl) rfl (by exact Nat.le_of_eq rfl) (hb hby at_13) (by decide) (by decide) ?_
  intro T319 v319 L319 X319 hq319
  obtain ⟨rfl, N319q, K319q, Q320, Q321, Q322, Q323, Q324, Q325, Q326, Q327, Q328⟩ := hq319
  have K329 : Keep h0 T319.heap [] := K317.trans K319q (allS (Or.inr sz315) all0)
  have O330 := O318.keep K319q (allS ge316 all0)
  have N319 := Fr.app N302 N319q
  show own_Run p e below s _ _ _ (T319.setTop (mkF m 16 #[.val (.int i0), .val (.ref b297), .unset, .unset, .unset, .unset, .unset, .unset, .unset, .unset, .unset] [(.ref b314)]))
  refine own_st (fun t k => XS.astoreN X319.here hx rfl (hb hby at_16) rfl rfl (l' := #[.val (.int i0), .val (.ref b297), .val (.ref b314), .unset, .unset, .unset, .unset, .unset, .unset, .unset, .unset]) rfl k) ?_
  show own_Run p e below s _ _ _ (T319.setTop (mkF m 17 #[.val (.int i0), .val (.ref b297), .val (.ref b314), .unset, .unset, .unset, .unset, .unset, .unset, .unset, .unset] []))
  refine own_st (fun t k => XS.iloadN X319.here hx rfl (hb hby at_17) rfl k) ?_
  show own_Run p e below s _ _ _ (T319.setTop (mkF m 18 #[.val (.int i0), .val (.ref b297), .val (.ref b314), .unset, .unset, .unset, .unset, .unset, .unset, .unset, .unset] [(.int i0)]))
  refine own_st (fun t k => XS.iconst X319.here hx rfl (hb hby at_18) k) ?_
  show own_Run p e below s _ _ _ (T319.setTop (mkF m 19 #[.val (.int i0), .val (.ref b297), .val (.ref b314), .unset, .unset, .unset, .unset, .unset, .unset, .unset, .unset] [(.int (1 : Int32)), (.int i0)]))
  refine own_st (fun t k => XS.iand X319.here hx rfl (hb hby at_19) rfl k) ?_
  show own_Run p e below s _ _ _ (T319.setTop (mkF m 20 #[.val (.int i0), .val (.ref b297), .val (.ref b314), .unset, .unset, .unset, .unset, .unset, .unset, .unset, .unset] [(.int (i0 &&& (1 : Int32)))]))
  rcases and_one i0 with hn | hn
  · refine own_topI hn ?_
    show own_Run p e below s _ _ _ (T319.setTop (mkF m 20 #[.val (.int i0), .val (.ref b297), .val (.ref b314), .unset, .unset, .unset, .unset, .unset, .unset, .unset, .unset] [(.int (0 : Int32))]))
    refine own_st (fun t k => XS.istoreN X319.here hx rfl (hb hby at_20) rfl (l' := #[.val (.int i0), .val (.ref b297), .val (.ref b314), .val (.int (0 : Int32)), .unset, .unset, .unset, .unset, .unset, .unset, .unset]) rfl k) ?_
    show own_Run p e below s _ _ _ (T319.setTop (mkF m 21 #[.val (.int i0), .val (.ref b297), .val (.ref b314), .val (.int (0 : Int32)), .unset, .unset, .unset, .unset, .unset, .unset, .unset] []))
    refine own_st (fun t k => XS.iloadN X319.here hx rfl (hb hby at_21) rfl k) ?_
    show own_Run p e below s _ _ _ (T319.setTop (mkF m 22 #[.val (.int i0), .val (.ref b297), .val (.ref b314), .val (.int (0 : Int32)), .unset, .unset, .unset, .unset, .unset, .unset, .unset] [(.int i0)]))
    refine own_st (fun t k => XS.iconst X319.here hx rfl (hb hby at_22) k) ?_
    show own_Run p e below s _ _ _ (T319.setTop (mkF m 23 #[.val (.int i0), .val (.ref b297), .val (.ref b314), .val (.int (0 : Int32)), .unset, .unset, .unset, .unset, .unset, .unset, .unset] [(.int (1 : Int32)), (.int i0)]))
    refine own_st (fun t k => XS.iushr X319.here hx rfl (hb hby at_23) rfl k) ?_
    show own_Run p e below s _ _ _ (T319.setTop (mkF m 24 #[.val (.int i0), .val (.ref b297), .val (.ref b314), .val (.int (0 : Int32)), .unset, .unset, .unset, .unset, .unset, .unset, .unset] [(.int ((i0.toUInt32 >>> ((1 : Int32) &&& 31).toUInt32).toInt32))]))
    refine own_st (fun t k => XS.iconst X319.here hx rfl (hb hby at_24) k) ?_
    show own_Run p e below s _ _ _ (T319.setTop (mkF m 25 #[.val (.int i0), .val (.ref b297), .val (.ref b314), .val (.int (0 : Int32)), .unset, .unset, .unset, .unset, .unset, .unset, .unset] [(.int (1 : Int32)), (.int ((i0.toUInt32 >>> ((1 : Int32) &&& 31).toUInt32).toInt32))]))
    refine own_st (fun t k => XS.iand X319.here hx rfl (hb hby at_25) rfl k) ?_
    show own_Run p e below s _ _ _ (T319.setTop (mkF m 26 #[.val (.int i0), .val (.ref b297), .val (.ref b314), .val (.int (0 : Int32)), .unset, .unset, .unset, .unset, .unset, .unset, .unset] [(.int (((i0.toUInt32 >>> ((1 : Int32) &&& 31).toUInt32).toInt32) &&& (1 : Int32)))]))
    rcases and_one _ with hn | hn
    · refine own_topI hn ?_
      show own_Run p e below s _ _ _ (T319.setTop (mkF m 26 #[.val (.int i0), .val (.ref b297), .val (.ref b314), .val (.int (0 : Int32)), .unset, .unset, .unset, .unset, .unset, .unset, .unset] [(.int (0 : Int32))]))
      refine own_st (fun t k => XS.istore X319.here hx rfl (hb hby at_26) rfl (l' := #[.val (.int i0), .val (.ref b297), .val (.ref b314), .val (.int (0 : Int32)), .val (.int (0 : Int32)), .unset, .unset, .unset, .unset, .unset, .unset]) rfl k) ?_
      show own_Run p e below s _ _ _ (T319.setTop (mkF m 28 #[.val (.int i0), .val (.ref b297), .val (.ref b314), .val (.int (0 : Int32)), .val (.int (0 : Int32)), .unset, .unset, .unset, .unset, .unset, .unset] []))
      refine own_st (fun t k => XS.iloadN X319.here hx rfl (hb hby at_28) rfl k) ?_
      show own_Run p e below s _ _ _ (T319.setTop (mkF m 29 #[.val (.int i0), .val (.ref b297), .val (.ref b314), .val (.int (0 : Int32)), .val (.int (0 : Int32)), .unset, .unset, .unset, .unset, .unset, .unset] [(.int i0)]))
      refine own_st (fun t k => XS.iconst X319.here hx rfl (hb hby at_29) k) ?_
      show own_Run p e below s _ _ _ (T319.setTop (mkF m 30 #[.val (.int i0), .val (.ref b297), .val (.ref b314), .val (.int (0 : Int32)), .val (.int (0 : Int32)), .unset, .unset, .unset, .unset, .unset, .unset] [(.int (2 : Int32)), (.int i0)]))
      refine own_st (fun t k => XS.iushr X319.here hx rfl (hb hby at_30) rfl k) ?_
      show own_Run p e below s _ _ _ (T319.setTop (mkF m 31 #[.val (.int i0), .val (.ref b297), .val (.ref b314), .val (.int (0 : Int32)), .val (.int (0 : Int32)), .unset, .unset, .unset, .unset, .unset, .unset] [(.int ((i0.toUInt32 >>> ((2 : Int32) &&& 31).toUInt32).toInt32))]))
      refine own_st (fun t k => XS.iconst X319.here hx rfl (hb hby at_31) k) ?_
      show own_Run p e below s _ _ _ (T319.setTop (mkF m 32 #[.val (.int i0), .val (.ref b297), .val (.ref b314), .val (.int (0 : Int32)), .val (.int (0 : Int32)), .unset, .unset, .unset, .unset, .unset, .unset] [(.int (1 : Int32)), (.int ((i0.toUInt32 >>> ((2 : Int32) &&& 31).toUInt32).toInt32))]))
      refine own_st (fun t k => XS.iand X319.here hx rfl (hb hby at_32) rfl k) ?_
      show own_Run p e below s _ _ _ (T319.setTop (mkF m 33 #[.val (.int i0), .val (.ref b297), .val (.ref b314), .val (.int (0 : Int32)), .val (.int (0 : Int32)), .unset, .unset, .unset, .unset, .unset, .unset] [(.int (((i0.toUInt32 >>> ((2 : Int32) &&& 31).toUInt32).toInt32) &&& (1 : Int32)))]))
      rcases and_one _ with hn | hn
      · refine own_topI hn ?_
        show own_Run p e below s _ _ _ (T319.setTop (mkF m 33 #[.val (.int i0), .val (.ref b297), .val (.ref b314), .val (.int (0 : Int32)), .val (.int (0 : Int32)), .unset, .unset, .unset, .unset, .unset, .unset] [(.int (0 : Int32))]))
        refine own_st (fun t k => XS.istore X319.here hx rfl (hb hby at_33) rfl (l' := #[.val (.int i0), .val (.ref b297), .val (.ref b314), .val (.int (0 : Int32)), .val (.int (0 : Int32)), .val (.int (0 : Int32)), .unset, .unset, .unset, .unset, .unset]) rfl k) ?_
        show own_Run p e below s _ _ _ (T319.setTop (mkF m 35 #[.val (.int i0), .val (.ref b297), .val (.ref b314), .val (.int (0 : Int32)), .val (.int (0 : Int32)), .val (.int (0 : Int32)), .unset, .unset, .unset, .unset, .unset] []))
        refine own_st (fun t k => XS.iloadN X319.here hx rfl (hb hby at_35) rfl k) ?_
        show own_Run p e below s _ _ _ (T319.setTop (mkF m 36 #[.val (.int i0), .val (.ref b297), .val (.ref b314), .val (.int (0 : Int32)), .val (.int (0 : Int32)), .val (.int (0 : Int32)), .unset, .unset, .unset, .unset, .unset] [(.int i0)]))
        refine own_st (fun t k => XS.iconst X319.here hx rfl (hb hby at_36) k) ?_
        show own_Run p e below s _ _ _ (T319.setTop (mkF m 37 #[.val (.int i0), .val (.ref b297), .val (.ref b314), .val (.int (0 : Int32)), .val (.int (0 : Int32)), .val (.int (0 : Int32)), .unset, .unset, .unset, .unset, .unset] [(.int (3 : Int32)), (.int i0)]))
        refine own_st (fun t k => XS.iushr X319.here hx rfl (hb hby at_37) rfl k) ?_
        show own_Run p e below s _ _ _ (T319.setTop (mkF m 38 #[.val (.int i0), .val (.ref b297), .val (.ref b314), .val (.int (0 : Int32)), .val (.int (0 : Int32)), .val (.int (0 : Int32)), .unset, .unset, .unset, .unset, .unset] [(.int ((i0.toUInt32 >>> ((3 : Int32) &&& 31).toUInt32).toInt32))]))
        refine own_st (fun t k => XS.iconst X319.here hx rfl (hb hby at_38) k) ?_
        show own_Run p e below s _ _ _ (T319.setTop (mkF m 39 #[.val (.int i0), .val (.ref b297), .val (.ref b314), .val (.int (0 : Int32)), .val (.int (0 : Int32)), .val (.int (0 : Int32)), .unset, .unset, .unset, .unset, .unset] [(.int (1 : Int32)), (.int ((i0.toUInt32 >>> ((3 : Int32) &&& 31).toUInt32).toInt32))]))
        refine own_st (fun t k => XS.iand X319.here hx rfl (hb hby at_39) rfl k) ?_
        show own_Run p e below s _ _ _ (T319.setTop (mkF m 40 #[.val (.int i0), .val (.ref b297), .val (.ref b314), .val (.int (0 : Int32)), .val (.int (0 : Int32)), .val (.int (0 : Int32)), .unset, .unset, .unset, .unset, .unset] [(.int (((i0.toUInt32 >>> ((3 : Int32) &&& 31).toUInt32).toInt32) &&& (1 : Int32)))]))
        rcases and_one _ with hn | hn
        · refine own_topI hn ?_
          show own_Run p e below s _ _ _ (T319.setTop (mkF m 40 #[.val (.int i0), .val (.ref b297), .val (.ref b314), .val (.int (0 : Int32)), .val (.int (0 : Int32)), .val (.int (0 : Int32)), .unset, .unset, .unset, .unset, .unset] [(.int (0 : Int32))]))
          refine own_st (fun t k => XS.istore X319.here hx rfl (hb hby at_40) rfl (l' := #[.val (.int i0), .val (.ref b297), .val (.ref b314), .val (.int (0 : Int32)), .val (.int (0 : Int32)), .val (.int (0 : Int32)), .val (.int (0 : Int32)), .unset, .unset, .unset, .unset]) rfl k) ?_
          show own_Run p e below s _ _ _ (T319.setTop (mkF m 42 #[.val (.int i0), .val (.ref b297), .val (.ref b314), .val (.int (0 : Int32)), .val (.int (0 : Int32)), .val (.int (0 : Int32)), .val (.int (0 : Int32)), .unset, .unset, .unset, .unset] []))
          refine own_st (fun t k => XS.iloadN X319.here hx rfl (hb hby at_42) rfl k) ?_
          show own_Run p e below s _ _ _ (T319.setTop (mkF m 43 #[.val (.int i0), .val (.ref b297), .val (.ref b314), .val (.int (0 : Int32)), .val (.int (0 : Int32)), .val (.int (0 : Int32)), .val (.int (0 : Int32)), .unset, .unset, .unset, .unset] [(.int (0 : Int32))]))
          refine own_st (fun t k => XS.ifYes X319.here hx rfl (pc0 := 43) (pc' := 50) rfl (hb hby at_43) rfl ((if0 _ _).trans (teq (by decide : (0 : Int32) = (0 : Int32))).1) (by decide) (by decide) k) ?_
          show own_Run p e below s _ _ _ (T319.setTop (mkF m 50 #[.val (.int i0), .val (.ref b297), .val (.ref b314), .val (.int (0 : Int32)), .val (.int (0 : Int32)), .val (.int (0 : Int32)), .val (.int (0 : Int32)), .unset, .unset, .unset, .unset] []))
          refine own_st (fun t k => XS.iload X319.here hx rfl (hb hby at_50) rfl k) ?_
          show own_Run p e below s _ _ _ (T319.setTop (mkF m 52 #[.val (.int i0), .val (.ref b297), .val (.ref b314), .val (.int (0 : Int32)), .val (.int (0 : Int32)), .val (.int (0 : Int32)), .val (.int (0 : Int32)), .unset, .unset, .unset, .unset] [(.int (0 : Int32))]))
          refine own_st (fun t k => XS.ifYes X319.here hx rfl (pc0 := 52) (pc' := 59) rfl (hb hby at_52) rfl ((if0 _ _).trans (teq (by decide : (0 : Int32) = (0 : Int32))).1) (by decide) (by decide) k) ?_
          show own_Run p e below s _ _ _ (T319.setTop (mkF m 59 #[.val (.int i0), .val (.ref b297), .val (.ref b314), .val (.int (0 : Int32)), .val (.int (0 : Int32)), .val (.int (0 : Int32)), .val (.int (0 : Int32)), .unset, .unset, .unset, .unset] []))
          refine own_st (fun t k => XS.iload X319.here hx rfl (hb hby at_59) rfl k) ?_
          show own_Run p e below s _ _ _ (T319.setTop (mkF m 61 #[.val (.int i0), .val (.ref b297), .val (.ref b314), .val (.int (0 : Int32)), .val (.int (0 : Int32)), .val (.int (0 : Int32)), .val (.int (0 : Int32)), .unset, .unset, .unset, .unset] [(.int (0 : Int32))]))
          refine own_st (fun t k => XS.ifYes X319.here hx rfl (pc0 := 61) (pc' := 68) rfl (hb hby at_61) rfl ((if0 _ _).trans (teq (by decide : (0 : Int32) = (0 : Int32))).1) (by decide) (by decide) k) ?_
          show own_Run p e below s _ _ _ (T319.setTop (mkF m 68 #[.val (.int i0), .val (.ref b297), .val (.ref b314), .val (.int (0 : Int32)), .val (.int (0 : Int32)), .val (.int (0 : Int32)), .val (.int (0 : Int32)), .unset, .unset, .unset, .unset] []))
          refine own_st (fun t k => XS.iload X319.here hx rfl (hb hby at_68) rfl k) ?_
          show own_Run p e below s _ _ _ (T319.setTop (mkF m 70 #[.val (.int i0), .val (.ref b297), .val (.ref b314), .val (.int (0 : Int32)), .val (.int (0 : Int32)), .val (.int (0 : Int32)), .val (.int (0 : Int32)), .unset, .unset, .unset, .unset] [(.int (0 : Int32))]))
          refine own_st (fun t k => XS.ifYes X319.here hx rfl (pc0 := 70) (pc' := 77) rfl (hb hby at_70) rfl ((if0 _ _).trans (teq (by decide : (0 : Int32) = (0 : Int32))).1) (by decide) (by decide) k) ?_
          show own_Run p e below s _ _ _ (T319.setTop (mkF m 77 #[.val (.int i0), .val (.ref b297), .val (.ref b314), .val (.int (0 : Int32)), .val (.int (0 : Int32)), .val (.int (0 : Int32)), .val (.int (0 : Int32)), .unset, .unset, .unset, .unset] []))
          have E331 := ((Q303.ext E314).keep K319q)
          have F332 := ((Q304.ext E314).keep K319q (ninS (Nat.ne_of_lt (Nat.lt_of_lt_of_le (Nat.lt_of_lt_of_le A297.lt K302q.1) (Nat.le_of_eq g314.symm))) nin0))
          have F333 := ((Q305.ext E314).keep K319q (ninS (Nat.ne_of_lt (Nat.lt_of_lt_of_le (Nat.lt_of_lt_of_le A297.lt K302q.1) (Nat.le_of_eq g314.symm))) nin0))
          have F334 := ((Q306.ext E314).keep K319q (ninS (Nat.ne_of_lt (Nat.lt_of_lt_of_le (Nat.lt_of_lt_of_le A297.lt K302q.1) (Nat.le_of_eq g314.symm))) nin0))
          have F335 := ((Q307.ext E314).keep K319q (ninS (Nat.ne_of_lt (Nat.lt_of_lt_of_le (Nat.lt_of_lt_of_le A297.lt K302q.1) (Nat.le_of_eq g314.symm))) nin0))
          have F336 := ((Q308.ext E314).keep K319q (ninS (Nat.ne_of_lt (Nat.lt_of_lt_of_le (Nat.lt_of_lt_of_le A297.lt K302q.1) (Nat.le_of_eq g314.symm))) nin0))
          have F337 := ((Q309.ext E314).keep K319q (ninS (Nat.ne_of_lt (Nat.lt_of_lt_of_le (Nat.lt_of_lt_of_le A297.lt K302q.1) (Nat.le_of_eq g314.symm))) nin0))
          have F338 := ((Q310.ext E314).keep K319q (ninS (Nat.ne_of_lt (Nat.lt_of_lt_of_le (Nat.lt_of_lt_of_le A297.lt K302q.1) (Nat.le_of_eq g314.symm))) nin0))
          have F339 := ((Q311.ext E314).keep K319q (ninS (Nat.ne_of_lt (Nat.lt_of_lt_of_le (Nat.lt_of_lt_of_le A297.lt K302q.1) (Nat.le_of_eq g314.symm))) nin0))
          exact own_tail l Z a0 hw T319 _ hx hby hml hZ hown hnm hret hlk te i0 b297 b314 (0 : Int32) (0 : Int32) (0 : Int32) (0 : Int32) (0 : Int32) (0 : Int32) (0 : Int32) (0 : Int32) h0 n0 Z0 _ (X319.more (by decide) (by decide)) rfl N319 K329 O330 S_E E331 ge299 sz298 F332 F333 F334 F335 F336 F337 F338 F339 Q320 ge316 sz315 Q321 Q322 Q323 Q324 Q325 Q326 Q327 Q328 (Ne.symm (Nat.ne_of_lt (Nat.lt_of_lt_of_le (Nat.lt_of_lt_of_le A297.lt K302q.1) (Nat.le_of_eq g314.symm)))) (by decide) (by decide) (by decide) (by decide)
        · refine own_topI hn ?_
          show own_Run p e below s _ _ _ (T319.setTop (mkF m 40 #[.val (.int i0), .val (.ref b297), .val (.ref b314), .val (.int (0 : Int32)), .val (.int (0 : Int32)), .val (.int (0 : Int32)), .unset, .unset, .unset, .unset, .unset] [(.int (1 : Int32))]))
          refine own_st (fun t k => XS.istore X319.here hx rfl (hb hby at_40) rfl (l' := #[.val (.int i0), .val (.ref b297), .val (.ref b314), .val (.int (0 : Int32)), .val (.int (0 : Int32)), .val (.int (0 : Int32)), .val (.int (1 : Int32)), .unset, .unset, .unset, .unset]) rfl k) ?_
          show own_Run p e below s _ _ _ (T319.setTop (mkF m 42 #[.val (.int i0), .val (.ref b297), .val (.ref b314), .val (.int (0 : Int32)), .val (.int (0 : Int32)), .val (.int (0 : Int32)), .val (.int (1 : Int32)), .unset, .unset, .unset, .unset] []))
          refine own_st (fun t k => XS.iloadN X319.here hx rfl (hb hby at_42) rfl k) ?_
          show own_Run p e below s _ _ _ (T319.setTop (mkF m 43 #[.val (.int i0), .val (.ref b297), .val (.ref b314), .val (.int (0 : Int32)), .val (.int (0 : Int32)), .val (.int (0 : Int32)), .val (.int (1 : Int32)), .unset, .unset, .unset, .unset] [(.int (0 : Int32))]))
          refine own_st (fun t k => XS.ifYes X319.here hx rfl (pc0 := 43) (pc' := 50) rfl (hb hby at_43) rfl ((if0 _ _).trans (teq (by decide : (0 : Int32) = (0 : Int32))).1) (by decide) (by decide) k) ?_
          show own_Run p e below s _ _ _ (T319.setTop (mkF m 50 #[.val (.int i0), .val (.ref b297), .val (.ref b314), .val (.int (0 : Int32)), .val (.int (0 : Int32)), .val (.int (0 : Int32)), .val (.int (1 : Int32)), .unset, .unset, .unset, .unset] []))
          refine own_st (fun t k => XS.iload X319.here hx rfl (hb hby at_50) rfl k) ?_
          show own_Run p e below s _ _ _ (T319.setTop (mkF m 52 #[.val (.int i0), .val (.ref b297), .val (.ref b314), .val (.int (0 : Int32)), .val (.int (0 : Int32)), .val (.int (0 : Int32)), .val (.int (1 : Int32)), .unset, .unset, .unset, .unset] [(.int (0 : Int32))]))
          refine own_st (fun t k => XS.ifYes X319.here hx rfl (pc0 := 52) (pc' := 59) rfl (hb hby at_52) rfl ((if0 _ _).trans (teq (by decide : (0 : Int32) = (0 : Int32))).1) (by decide) (by decide) k) ?_
          show own_Run p e below s _ _ _ (T319.setTop (mkF m 59 #[.val (.int i0), .val (.ref b297), .val (.ref b314), .val (.int (0 : Int32)), .val (.int (0 : Int32)), .val (.int (0 : Int32)), .val (.int (1 : Int32)), .unset, .unset, .unset, .unset] []))
          refine own_st (fun t k => XS.iload X319.here hx rfl (hb hby at_59) rfl k) ?_
          show own_Run p e below s _ _ _ (T319.setTop (mkF m 61 #[.val (.int i0), .val (.ref b297), .val (.ref b314), .val (.int (0 : Int32)), .val (.int (0 : Int32)), .val (.int (0 : Int32)), .val (.int (1 : Int32)), .unset, .unset, .unset, .unset] [(.int (0 : Int32))]))
          refine own_st (fun t k => XS.ifYes X319.here hx rfl (pc0 := 61) (pc' := 68) rfl (hb hby at_61) rfl ((if0 _ _).trans (teq (by decide : (0 : Int32) = (0 : Int32))).1) (by decide) (by decide) k) ?_
          show own_Run p e below s _ _ _ (T319.setTop (mkF m 68 #[.val (.int i0), .val (.ref b297), .val (.ref b314), .val (.int (0 : Int32)), .val (.int (0 : Int32)), .val (.int (0 : Int32)), .val (.int (1 : Int32)), .unset, .unset, .unset, .unset] []))
          refine own_st (fun t k => XS.iload X319.here hx rfl (hb hby at_68) rfl k) ?_
          show own_Run p e below s _ _ _ (T319.setTop (mkF m 70 #[.val (.int i0), .val (.ref b297), .val (.ref b314), .val (.int (0 : Int32)), .val (.int (0 : Int32)), .val (.int (0 : Int32)), .val (.int (1 : Int32)), .unset, .unset, .unset, .unset] [(.int (1 : Int32))]))
          refine own_st (fun t k => XS.ifNo X319.here hx rfl (hb hby at_70) rfl ((if0 _ _).trans (feq (by decide : ¬ ((1 : Int32) = (0 : Int32)))).1) k) ?_
          show own_Run p e below s _ _ _ (T319.setTop (mkF m 73 #[.val (.int i0), .val (.ref b297), .val (.ref b314), .val (.int (0 : Int32)), .val (.int (0 : Int32)), .val (.int (0 : Int32)), .val (.int (1 : Int32)), .unset, .unset, .unset, .unset] []))
          refine own_st (fun t k => XS.aloadN X319.here hx rfl (hb hby at_73) rfl rfl k) ?_
          show own_Run p e below s _ _ _ (T319.setTop (mkF m 74 #[.val (.int i0), .val (.ref b297), .val (.ref b314), .val (.int (0 : Int32)), .val (.int (0 : Int32)), .val (.int (0 : Int32)), .val (.int (1 : Int32)), .unset, .unset, .unset, .unset] [(.ref b314)]))
          have E340 := ((Q303.ext E314).keep K319q)
          have F341 := ((Q304.ext E314).keep K319q (ninS (Nat.ne_of_lt (Nat.lt_of_lt_of_le (Nat.lt_of_lt_of_le A297.lt K302q.1) (Nat.le_of_eq g314.symm))) nin0))
          have F342 := ((Q305.ext E314).keep K319q (ninS (Nat.ne_of_lt (Nat.lt_of_lt_of_le (Nat.lt_of_lt_of_le A297.lt K302q.1) (Nat.le_of_eq g314.symm))) nin0))
          have F343 := ((Q306.ext E314).keep K319q (ninS (Nat.ne_of_lt (Nat.lt_of_lt_of_le (Nat.lt_of_lt_of_le A297.lt K302q.1) (Nat.le_of_eq g314.symm))) nin0))
          have F344 := ((Q307.ext E314).keep K319q (ninS (Nat.ne_of_lt (Nat.lt_of_lt_of_le (Nat.lt_of_lt_of_le A297.lt K302q.1) (Nat.le_of_eq g314.symm))) nin0))
          have F345 := ((Q308.ext E314).keep K319q (ninS (Nat.ne_of_lt (Nat.lt_of_lt_of_le (Nat.lt_of_lt_of_le A297.lt K302q.1) (Nat.le_of_eq g314.symm))) nin0))
          have F346 := ((Q309.ext E314).keep K319q (ninS (Nat.ne_of_lt (Nat.lt_of_lt_of_le (Nat.lt_of_lt_of_le A297.lt K302q.1) (Nat.le_of_eq g314.symm))) nin0))
          have F347 := ((Q310.ext E314).keep K319q (ninS (Nat.ne_of_lt (Nat.lt_of_lt_of_le (Nat.lt_of_lt_of_le A297.lt K302q.1) (Nat.le_of_eq g314.symm))) nin0))
          have F348 := ((Q311.ext E314).keep K319q (ninS (Nat.ne_of_lt (Nat.lt_of_lt_of_le (Nat.lt_of_lt_of_le A297.lt K302q.1) (Nat.le_of_eq g314.symm))) nin0))
          refine own_callV X319 hx hZ (y := (⟨"com/example/kerb2d/kerb2d/engine/Tally", "arrive", "()V"⟩ : MethodName)) (C := "com/example/kerb2d/kerb2d/engine/Tally") hown (hw _ (List.mem_of_getElem? (i := 92) rfl)) (hw _ (List.mem_of_getElem? (i := 93) rfl)) (hw _ (List.mem_of_getElem? (i := 95) rfl)) (hw _ (List.mem_of_getElem? (i := 94) rfl)) (hw _ (List.mem_of_getElem? (i := 96) rfl)) (hw _ (List.mem_of_getElem? (i := 2) rfl)) (by decide) rfl (a := b314) Q320 (argsL := []) (rest := []) (W := 0) (own_rm11P l Z a0 hw [] b314 b297 (0 : Int32) (0 : Int32) (0 : Int32) (0 : Int32) T319.heap n0 (Nat.le_trans Z0 K329.1) Q320 ge316 Q321 Q322 Q323 Q324 Q325 Q326 Q327 Q328 E340 ge299 F341 F342 F343 F344 F345 F346 F347 F348 (Ne.symm (Nat.ne_of_lt (Nat.lt_of_lt_of_le (Nat.lt_of_lt_of_le A297.lt K302q.1) (Nat.le_of_eq g314.symm))))) (by decide) (by decide) (by rw [hml]; rfl) (lenOf own_pd2 rfl) rfl (by exact Nat.le_of_eq rfl) (hb hby at_74) (by decide) (by decide) ?_
          intro T349 v349 L349 X349 hq349
          obtain ⟨rfl, N349q, K349q, Q350, Q351, Q352, Q353, Q354, Q355, Q356, Q357, Q358, Q359, Q360, Q361, Q362, Q363, Q364, Q365, Q366, Q367⟩ := hq349
          have K368 : Keep h0 T349.heap [] := K329.trans K349q (allS (Or.inr sz315) (allS (Or.inr sz298) all0))
          have O369 := O330.keep K349q (allS ge316 (allS ge299 all0))
          have N349 := Fr.app N319 N349q
          show own_Run p e below s _ _ _ (T349.setTop (mkF m 77 #[.val (.int i0), .val (.ref b297), .val (.ref b314), .val (.int (0 : Int32)), .val (.int (0 : Int32)), .val (.int (0 : Int32)), .val (.int (1 : Int32)), .unset, .unset, .unset, .unset] []))
          exact own_tail l Z a0 hw T349 _ hx hby hml hZ hown hnm hret hlk te i0 b297 b314 (0 : Int32) (0 : Int32) (0 : Int32) (1 : Int32) ((0 : Int32) + (1 : Int32)) (0 : Int32) ((0 : Int32) + (1 : Int32)) (0 : Int32) h0 n0 Z0 _ (X349.more (by decide) (by decide)) rfl N349 K368 O369 S_E Q359 ge299 sz298 Q360 Q361 Q362 Q363 Q364 Q365 Q366 Q367 Q350 ge316 sz315 Q351 Q352 Q353 Q354 Q355 Q356 Q357 Q358 (Ne.symm (Nat.ne_of_lt (Nat.lt_of_lt_of_le (Nat.lt_of_lt_of_le A297.lt K302q.1) (Nat.le_of_eq g314.symm)))) (by decide) (by decide) (by decide) (by decide)
      · refine own_topI hn ?_
        show own_Run p e below s _ _ _ (T319.setTop (mkF m 33 #[.val (.int i0), .val (.ref b297), .val (.ref b314), .val (.int (0 : Int32)), .val (.int (0 : Int32)), .unset, .unset, .unset, .unset, .unset, .unset] [(.int (1 : Int32))]))
        refine own_st (fun t k => XS.istore X319.here hx rfl (hb hby at_33) rfl (l' := #[.val (.int i0), .val (.ref b297), .val (.ref b314), .val (.int (0 : Int32)), .val (.int (0 : Int32)), .val (.int (1 : Int32)), .unset, .unset, .unset, .unset, .unset]) rfl k) ?_
        show own_Run p e below s _ _ _ (T319.setTop (mkF m 35 #[.val (.int i0), .val (.ref b297), .val (.ref b314), .val (.int (0 : Int32)), .val (.int (0 : Int32)), .val (.int (1 : Int32)), .unset, .unset, .unset, .unset, .unset] []))
        refine own_st (fun t k => XS.iloadN X319.here hx rfl (hb hby at_35) rfl k) ?_
        show own_Run p e below s _ _ _ (T319.setTop (mkF m 36 #[.val (.int i0), .val (.ref b297), .val (.ref b314), .val (.int (0 : Int32)), .val (.int (0 : Int32)), .val (.int (1 : Int32)), .unset, .unset, .unset, .unset, .unset] [(.int i0)]))
        refine own_st (fun t k => XS.iconst X319.here hx rfl (hb hby at_36) k) ?_
        show own_Run p e below s _ _ _ (T319.setTop (mkF m 37 #[.val (.int i0), .val (.ref b297), .val (.ref b314), .val (.int (0 : Int32)), .val (.int (0 : Int32)), .val (.int (1 : Int32)), .unset, .unset, .unset, .unset, .unset] [(.int (3 : Int32)), (.int i0)]))
        refine own_st (fun t k => XS.iushr X319.here hx rfl (hb hby at_37) rfl k) ?_
        show own_Run p e below s _ _ _ (T319.setTop (mkF m 38 #[.val (.int i0), .val (.ref b297), .val (.ref b314), .val (.int (0 : Int32)), .val (.int (0 : Int32)), .val (.int (1 : Int32)), .unset, .unset, .unset, .unset, .unset] [(.int ((i0.toUInt32 >>> ((3 : Int32) &&& 31).toUInt32).toInt32))]))
        refine own_st (fun t k => XS.iconst X319.here hx rfl (hb hby at_38) k) ?_
        show own_Run p e below s _ _ _ (T319.setTop (mkF m 39 #[.val (.int i0), .val (.ref b297), .val (.ref b314), .val (.int (0 : Int32)), .val (.int (0 : Int32)), .val (.int (1 : Int32)), .unset, .unset, .unset, .unset, .unset] [(.int (1 : Int32)), (.int ((i0.toUInt32 >>> ((3 : Int32) &&& 31).toUInt32).toInt32))]))
        refine own_st (fun t k => XS.iand X319.here hx rfl (hb hby at_39) rfl k) ?_
        show own_Run p e below s _ _ _ (T319.setTop (mkF m 40 #[.val (.int i0), .val (.ref b297), .val (.ref b314), .val (.int (0 : Int32)), .val (.int (0 : Int32)), .val (.int (1 : Int32)), .unset, .unset, .unset, .unset, .unset] [(.int (((i0.toUInt32 >>> ((3 : Int32) &&& 31).toUInt32).toInt32) &&& (1 : Int32)))]))
        rcases and_one _ with hn | hn
        · refine own_topI hn ?_
          show own_Run p e below s _ _ _ (T319.setTop (mkF m 40 #[.val (.int i0), .val (.ref b297), .val (.ref b314), .val (.int (0 : Int32)), .val (.int (0 : Int32)), .val (.int (1 : Int32)), .unset, .unset, .unset, .unset, .unset] [(.int (0 : Int32))]))
          refine own_st (fun t k => XS.istore X319.here hx rfl (hb hby at_40) rfl (l' := #[.val (.int i0), .val (.ref b297), .val (.ref b314), .val (.int (0 : Int32)), .val (.int (0 : Int32)), .val (.int (1 : Int32)), .val (.int (0 : Int32)), .unset, .unset, .unset, .unset]) rfl k) ?_
          show own_Run p e below s _ _ _ (T319.setTop (mkF m 42 #[.val (.int i0), .val (.ref b297), .val (.ref b314), .val (.int (0 : Int32)), .val (.int (0 : Int32)), .val (.int (1 : Int32)), .val (.int (0 : Int32)), .unset, .unset, .unset, .unset] []))
          refine own_st (fun t k => XS.iloadN X319.here hx rfl (hb hby at_42) rfl k) ?_
          show own_Run p e below s _ _ _ (T319.setTop (mkF m 43 #[.val (.int i0), .val (.ref b297), .val (.ref b314), .val (.int (0 : Int32)), .val (.int (0 : Int32)), .val (.int (1 : Int32)), .val (.int (0 : Int32)), .unset, .unset, .unset, .unset] [(.int (0 : Int32))]))
          refine own_st (fun t k => XS.ifYes X319.here hx rfl (pc0 := 43) (pc' := 50) rfl (hb hby at_43) rfl ((if0 _ _).trans (teq (by decide : (0 : Int32) = (0 : Int32))).1) (by decide) (by decide) k) ?_
          show own_Run p e below s _ _ _ (T319.setTop (mkF m 50 #[.val (.int i0), .val (.ref b297), .val (.ref b314), .val (.int (0 : Int32)), .val (.int (0 : Int32)), .val (.int (1 : Int32)), .val (.int (0 : Int32)), .unset, .unset, .unset, .unset] []))
          refine own_st (fun t k => XS.iload X319.here hx rfl (hb hby at_50) rfl k) ?_
          show own_Run p e below s _ _ _ (T319.setTop (mkF m 52 #[.val (.int i0), .val (.ref b297), .val (.ref b314), .val (.int (0 : Int32)), .val (.int (0 : Int32)), .val (.int (1 : Int32)), .val (.int (0 : Int32)), .unset, .unset, .unset, .unset] [(.int (0 : Int32))]))
          refine own_st (fun t k => XS.ifYes X319.here hx rfl (pc0 := 52) (pc' := 59) rfl (hb hby at_52) rfl ((if0 _ _).trans (teq (by decide : (0 : Int32) = (0 : Int32))).1) (by decide) (by decide) k) ?_
          show own_Run p e below s _ _ _ (T319.setTop (mkF m 59 #[.val (.int i0), .val (.ref b297), .val (.ref b314), .val (.int (0 : Int32)), .val (.int (0 : Int32)), .val (.int (1 : Int32)), .val (.int (0 : Int32)), .unset, .unset, .unset, .unset] []))
          refine own_st (fun t k => XS.iload X319.here hx rfl (hb hby at_59) rfl k) ?_
          show own_Run p e below s _ _ _ (T319.setTop (mkF m 61 #[.val (.int i0), .val (.ref b297), .val (.ref b314), .val (.int (0 : Int32)), .val (.int (0 : Int32)), .val (.int (1 : Int32)), .val (.int (0 : Int32)), .unset, .unset, .unset, .unset] [(.int (1 : Int32))]))
          refine own_st (fun t k => XS.ifNo X319.here hx rfl (hb hby at_61) rfl ((if0 _ _).trans (feq (by decide : ¬ ((1 : Int32) = (0 : Int32)))).1) k) ?_
          show own_Run p e below s _ _ _ (T319.setTop (mkF m 64 #[.val (.int i0), .val (.ref b297), .val (.ref b314), .val (.int (0 : Int32)), .val (.int (0 : Int32)), .val (.int (1 : Int32)), .val (.int (0 : Int32)), .unset, .unset, .unset, .unset] []))
          refine own_st (fun t k => XS.aloadN X319.here hx rfl (hb hby at_64) rfl rfl k) ?_
          show own_Run p e below s _ _ _ (T319.setTop (mkF m 65 #[.val (.int i0), .val (.ref b297), .val (.ref b314), .val (.int (0 : Int32)), .val (.int (0 : Int32)), .val (.int (1 : Int32)), .val (.int (0 : Int32)), .unset, .unset, .unset, .unset] [(.ref b297)]))
          have E370 := ((Q303.ext E314).keep K319q)
          have F371 := ((Q304.ext E314).keep K319q (ninS (Nat.ne_of_lt (Nat.lt_of_lt_of_le (Nat.lt_of_lt_of_le A297.lt K302q.1) (Nat.le_of_eq g314.symm))) nin0))
          have F372 := ((Q305.ext E314).keep K319q (ninS (Nat.ne_of_lt (Nat.lt_of_lt_of_le (Nat.lt_of_lt_of_le A297.lt K302q.1) (Nat.le_of_eq g314.symm))) nin0))
          have F373 := ((Q306.ext E314).keep K319q (ninS (Nat.ne_of_lt (Nat.lt_of_lt_of_le (Nat.lt_of_lt_of_le A297.lt K302q.1) (Nat.le_of_eq g314.symm))) nin0))
          have F374 := ((Q307.ext E314).keep K319q (ninS (Nat.ne_of_lt (Nat.lt_of_lt_of_le (Nat.lt_of_lt_of_le A297.lt K302q.1) (Nat.le_of_eq g314.symm))) nin0))
          have F375 := ((Q308.ext E314).keep K319q (ninS (Nat.ne_of_lt (Nat.lt_of_lt_of_le (Nat.lt_of_lt_of_le A297.lt K302q.1) (Nat.le_of_eq g314.symm))) nin0))
          have F376 := ((Q309.ext E314).keep K319q (ninS (Nat.ne_of_lt (Nat.lt_of_lt_of_le (Nat.lt_of_lt_of_le A297.lt K302q.1) (Nat.le_of_eq g314.symm))) nin0))
          have F377 := ((Q310.ext E314).keep K319q (ninS (Nat.ne_of_lt (Nat.lt_of_lt_of_le (Nat.lt_of_lt_of_le A297.lt K302q.1) (Nat.le_of_eq g314.symm))) nin0))
          have F378 := ((Q311.ext E314).keep K319q (ninS (Nat.ne_of_lt (Nat.lt_of_lt_of_le (Nat.lt_of_lt_of_le A297.lt K302q.1) (Nat.le_of_eq g314.symm))) nin0))
          refine own_callV X319 hx hZ (y := (⟨"com/example/kerb2d/kerb2d/engine/Tally", "arrive", "()V"⟩ : MethodName)) (C := "com/example/kerb2d/kerb2d/engine/Tally") hown (hw _ (List.mem_of_getElem? (i := 92) rfl)) (hw _ (List.mem_of_getElem? (i := 93) rfl)) (hw _ (List.mem_of_getElem? (i := 95) rfl)) (hw _ (List.mem_of_getElem? (i := 94) rfl)) (hw _ (List.mem_of_getElem? (i := 96) rfl)) (hw _ (List.mem_of_getElem? (i := 2) rfl)) (by decide) rfl (a := b297) E370 (argsL := []) (rest := []) (W := 0) (own_rm11W l Z a0 hw [] b297 (0 : Int32) (0 : Int32) T319.heap n0 (Nat.le_trans Z0 K329.1) E370 ge299 F371 F372 F373 F374 F375 F376 F377 F378) (by decide) (by decide) (by rw [hml]; rfl) (lenOf own_pd2 rfl) rfl (by exact Nat.le_of_eq rfl) (hb hby at_65) (by decide) (by decide) ?_
          intro T379 v379 L379 X379 hq379
          obtain ⟨rfl, N379q, K379q, Q380, Q381, Q382, Q383, Q384, Q385, Q386, Q387, Q388⟩ := hq379
          have K389 : Keep h0 T379.heap [] := K329.trans K379q (allS (Or.inr sz298) all0)
          have O390 := O330.keep K379q (allS ge299 all0)
          have N379 := Fr.app N319 N379q
          show own_Run p e below s _ _ _ (T379.setTop (mkF m 68 #[.val (.int i0), .val (.ref b297), .val (.ref b314), .val (.int (0 : Int32)), .val (.int (0 : Int32)), .val (.int (1 : Int32)), .val (.int (0 : Int32)), .unset, .unset, .unset, .unset] []))
          refine own_st (fun t k => XS.iload X379.here hx rfl (hb hby at_68) rfl k) ?_
          show own_Run p e below s _ _ _ (T379.setTop (mkF m 70 #[.val (.int i0), .val (.ref b297), .val (.ref b314), .val (.int (0 : Int32)), .val (.int (0 : Int32)), .val (.int (1 : Int32)), .val (.int (0 : Int32)), .unset, .unset, .unset, .unset] [(.int (0 : Int32))]))
          refine own_st (fun t k => XS.ifYes X379.here hx rfl (pc0 := 70) (pc' := 77) rfl (hb hby at_70) rfl ((if0 _ _).trans (teq (by decide : (0 : Int32) = (0 : Int32))).1) (by decide) (by decide) k) ?_
          show own_Run p e below s _ _ _ (T379.setTop (mkF m 77 #[.val (.int i0), .val (.ref b297), .val (.ref b314), .val (.int (0 : Int32)), .val (.int (0 : Int32)), .val (.int (1 : Int32)), .val (.int (0 : Int32)), .unset, .unset, .unset, .unset] []))
          have E391 := (Q320.keep K379q)
          have F392 := (Q321.keep K379q (ninS (Ne.symm (Nat.ne_of_lt (Nat.lt_of_lt_of_le (Nat.lt_of_lt_of_le A297.lt K302q.1) (Nat.le_of_eq g314.symm)))) nin0))
          have F393 := (Q322.keep K379q (ninS (Ne.symm (Nat.ne_of_lt (Nat.lt_of_lt_of_le (Nat.lt_of_lt_of_le A297.lt K302q.1) (Nat.le_of_eq g314.symm)))) nin0))
          have F394 := (Q323.keep K379q (ninS (Ne.symm (Nat.ne_of_lt (Nat.lt_of_lt_of_le (Nat.lt_of_lt_of_le A297.lt K302q.1) (Nat.le_of_eq g314.symm)))) nin0))
          have F395 := (Q324.keep K379q (ninS (Ne.symm (Nat.ne_of_lt (Nat.lt_of_lt_of_le (Nat.lt_of_lt_of_le A297.lt K302q.1) (Nat.le_of_eq g314.symm)))) nin0))
          have F396 := (Q325.keep K379q (ninS (Ne.symm (Nat.ne_of_lt (Nat.lt_of_lt_of_le (Nat.lt_of_lt_of_le A297.lt K302q.1) (Nat.le_of_eq g314.symm)))) nin0))
          have F397 := (Q326.keep K379q (ninS (Ne.symm (Nat.ne_of_lt (Nat.lt_of_lt_of_le (Nat.lt_of_lt_of_le A297.lt K302q.1) (Nat.le_of_eq g314.symm)))) nin0))
          have F398 := (Q327.keep K379q (ninS (Ne.symm (Nat.ne_of_lt (Nat.lt_of_lt_of_le (Nat.lt_of_lt_of_le A297.lt K302q.1) (Nat.le_of_eq g314.symm)))) nin0))
          have F399 := (Q328.keep K379q (ninS (Ne.symm (Nat.ne_of_lt (Nat.lt_of_lt_of_le (Nat.lt_of_lt_of_le A297.lt K302q.1) (Nat.le_of_eq g314.symm)))) nin0))
          exact own_tail l Z a0 hw T379 _ hx hby hml hZ hown hnm hret hlk te i0 b297 b314 (0 : Int32) (0 : Int32) (1 : Int32) (0 : Int32) ((0 : Int32) + (1 : Int32)) (0 : Int32) (0 : Int32) (0 : Int32) h0 n0 Z0 _ (X379.more (by decide) (by decide)) rfl N379 K389 O390 S_E Q380 ge299 sz298 Q381 Q382 Q383 Q384 Q385 Q386 Q387 Q388 E391 ge316 sz315 F392 F393 F394 F395 F396 F397 F398 F399 (Ne.symm (Nat.ne_of_lt (Nat.lt_of_lt_of_le (Nat.lt_of_lt_of_le A297.lt K302q.1) (Nat.le_of_eq g314.symm)))) (by decide) (by decide) (by decide) (by decide)
        · refine own_topI hn ?_
          show own_Run p e below s _ _ _ (T319.setTop (mkF m 40 #[.val (.int i0), .val (.ref b297), .val (.ref b314), .val (.int (0 : Int32)), .val (.int (0 : Int32)), .val (.int (1 : Int32)), .unset, .unset, .unset, .unset, .unset] [(.int (1 : Int32))]))
          refine own_st (fun t k => XS.istore X319.here hx rfl (hb hby at_40) rfl (l' := #[.val (.int i0), .val (.ref b297), .val (.ref b314), .val (.int (0 : Int32)), .val (.int (0 : Int32)), .val (.int (1 : Int32)), .val (.int (1 : Int32)), .unset, .unset, .unset, .unset]) rfl k) ?_
          show own_Run p e below s _ _ _ (T319.setTop (mkF m 42 #[.val (.int i0), .val (.ref b297), .val (.ref b314), .val (.int (0 : Int32)), .val (.int (0 : Int32)), .val (.int (1 : Int32)), .val (.int (1 : Int32)), .unset, .unset, .unset, .unset] []))
          refine own_st (fun t k => XS.iloadN X319.here hx rfl (hb hby at_42) rfl k) ?_
          show own_Run p e below s _ _ _ (T319.setTop (mkF m 43 #[.val (.int i0), .val (.ref b297), .val (.ref b314), .val (.int (0 : Int32)), .val (.int (0 : Int32)), .val (.int (1 : Int32)), .val (.int (1 : Int32)), .unset, .unset, .unset, .unset] [(.int (0 : Int32))]))
          refine own_st (fun t k => XS.ifYes X319.here hx rfl (pc0 := 43) (pc' := 50) rfl (hb hby at_43) rfl ((if0 _ _).trans (teq (by decide : (0 : Int32) = (0 : Int32))).1) (by decide) (by decide) k) ?_
          show own_Run p e below s _ _ _ (T319.setTop (mkF m 50 #[.val (.int i0), .val (.ref b297), .val (.ref b314), .val (.int (0 : Int32)), .val (.int (0 : Int32)), .val (.int (1 : Int32)), .val (.int (1 : Int32)), .unset, .unset, .unset, .unset] []))
          refine own_st (fun t k => XS.iload X319.here hx rfl (hb hby at_50) rfl k) ?_
          show own_Run p e below s _ _ _ (T319.setTop (mkF m 52 #[.val (.int i0), .val (.ref b297), .val (.ref b314), .val (.int (0 : Int32)), .val (.int (0 : Int32)), .val (.int (1 : Int32)), .val (.int (1 : Int32)), .unset, .unset, .unset, .unset] [(.int (0 : Int32))]))
          refine own_st (fun t k => XS.ifYes X319.here hx rfl (pc0 := 52) (pc' := 59) rfl (hb hby at_52) rfl ((if0 _ _).trans (teq (by decide : (0 : Int32) = (0 : Int32))).1) (by decide) (by decide) k) ?_
          show own_Run p e below s _ _ _ (T319.setTop (mkF m 59 #[.val (.int i0), .val (.ref b297), .val (.ref b314), .val (.int (0 : Int32)), .val (.int (0 : Int32)), .val (.int (1 : Int32)), .val (.int (1 : Int32)), .unset, .unset, .unset, .unset] []))
          refine own_st (fun t k => XS.iload X319.here hx rfl (hb hby at_59) rfl k) ?_
          show own_Run p e below s _ _ _ (T319.setTop (mkF m 61 #[.val (.int i0), .val (.ref b297), .val (.ref b314), .val (.int (0 : Int32)), .val (.int (0 : Int32)), .val (.int (1 : Int32)), .val (.int (1 : Int32)), .unset, .unset, .unset, .unset] [(.int (1 : Int32))]))
          refine own_st (fun t k => XS.ifNo X319.here hx rfl (hb hby at_61) rfl ((if0 _ _).trans (feq (by decide : ¬ ((1 : Int32) = (0 : Int32)))).1) k) ?_
          show own_Run p e below s _ _ _ (T319.setTop (mkF m 64 #[.val (.int i0), .val (.ref b297), .val (.ref b314), .val (.int (0 : Int32)), .val (.int (0 : Int32)), .val (.int (1 : Int32)), .val (.int (1 : Int32)), .unset, .unset, .unset, .unset] []))
          refine own_st (fun t k => XS.aloadN X319.here hx rfl (hb hby at_64) rfl rfl k) ?_
          show own_Run p e below s _ _ _ (T319.setTop (mkF m 65 #[.val (.int i0), .val (.ref b297), .val (.ref b314), .val (.int (0 : Int32)), .val (.int (0 : Int32)), .val (.int (1 : Int32)), .val (.int (1 : Int32)), .unset, .unset, .unset, .unset] [(.ref b297)]))
          have E400 := ((Q303.ext E314).keep K319q)
          have F401 := ((Q304.ext E314).keep K319q (ninS (Nat.ne_of_lt (Nat.lt_of_lt_of_le (Nat.lt_of_lt_of_le A297.lt K302q.1) (Nat.le_of_eq g314.symm))) nin0))
          have F402 := ((Q305.ext E314).keep K319q (ninS (Nat.ne_of_lt (Nat.lt_of_lt_of_le (Nat.lt_of_lt_of_le A297.lt K302q.1) (Nat.le_of_eq g314.symm))) nin0))
          have F403 := ((Q306.ext E314).keep K319q (ninS (Nat.ne_of_lt (Nat.lt_of_lt_of_le (Nat.lt_of_lt_of_le A297.lt K302q.1) (Nat.le_of_eq g314.symm))) nin0))
          have F404 := ((Q307.ext E314).keep K319q (ninS (Nat.ne_of_lt (Nat.lt_of_lt_of_le (Nat.lt_of_lt_of_le A297.lt K302q.1) (Nat.le_of_eq g314.symm))) nin0))
          have F405 := ((Q308.ext E314).keep K319q (ninS (Nat.ne_of_lt (Nat.lt_of_lt_of_le (Nat.lt_of_lt_of_le A297.lt K302q.1) (Nat.le_of_eq g314.symm))) nin0))
          have F406 := ((Q309.ext E314).keep K319q (ninS (Nat.ne_of_lt (Nat.lt_of_lt_of_le (Nat.lt_of_lt_of_le A297.lt K302q.1) (Nat.le_of_eq g314.symm))) nin0))
          have F407 := ((Q310.ext E314).keep K319q (ninS (Nat.ne_of_lt (Nat.lt_of_lt_of_le (Nat.lt_of_lt_of_le A297.lt K302q.1) (Nat.le_of_eq g314.symm))) nin0))
          have F408 := ((Q311.ext E314).keep K319q (ninS (Nat.ne_of_lt (Nat.lt_of_lt_of_le (Nat.lt_of_lt_of_le A297.lt K302q.1) (Nat.le_of_eq g314.symm))) nin0))
          refine own_callV X319 hx hZ (y := (⟨"com/example/kerb2d/kerb2d/engine/Tally", "arrive", "()V"⟩ : MethodName)) (C := "com/example/kerb2d/kerb2d/engine/Tally") hown (hw _ (List.mem_of_getElem? (i := 92) rfl)) (hw _ (List.mem_of_getElem? (i := 93) rfl)) (hw _ (List.mem_of_getElem? (i := 95) rfl)) (hw _ (List.mem_of_getElem? (i := 94) rfl)) (hw _ (List.mem_of_getElem? (i := 96) rfl)) (hw _ (List.mem_of_getElem? (i := 2) rfl)) (by decide) rfl (a := b297) E400 (argsL := []) (rest := []) (W := 0) (own_rm11W l Z a0 hw [] b297 (0 : Int32) (0 : Int32) T319.heap n0 (Nat.le_trans Z0 K329.1) E400 ge299 F401 F402 F403 F404 F405 F406 F407 F408) (by decide) (by decide) (by rw [hml]; rfl) (lenOf own_pd2 rfl) rfl (by exact Nat.le_of_eq rfl) (hb hby at_65) (by decide) (by decide) ?_
          intro T409 v409 L409 X409 hq409
          obtain ⟨rfl, N409q, K409q, Q410, Q411, Q412, Q413, Q414, Q415, Q416, Q417, Q418⟩ := hq409
          have K419 : Keep h0 T409.heap [] := K329.trans K409q (allS (Or.inr sz298) all0)
          have O420 := O330.keep K409q (allS ge299 all0)
          have N409 := Fr.app N319 N409q
          show own_Run p e below s _ _ _ (T409.setTop (mkF m 68 #[.val (.int i0), .val (.ref b297), .val (.ref b314), .val (.int (0 : Int32)), .val (.int (0 : Int32)), .val (.int (1 : Int32)), .val (.int (1 : Int32)), .unset, .unset, .unset, .unset] []))
          refine own_st (fun t k => XS.iload X409.here hx rfl (hb hby at_68) rfl k) ?_
          show own_Run p e below s _ _ _ (T409.setTop (mkF m 70 #[.val (.int i0), .val (.ref b297), .val (.ref b314), .val (.int (0 : Int32)), .val (.int (0 : Int32)), .val (.int (1 : Int32)), .val (.int (1 : Int32)), .unset, .unset, .unset, .unset] [(.int (1 : Int32))]))
          refine own_st (fun t k => XS.ifNo X409.here hx rfl (hb hby at_70) rfl ((if0 _ _).trans (feq (by decide : ¬ ((1 : Int32) = (0 : Int32)))).1) k) ?_
          show own_Run p e below s _ _ _ (T409.setTop (mkF m 73 #[.val (.int i0), .val (.ref b297), .val (.ref b314), .val (.int (0 : Int32)), .val (.int (0 : Int32)), .val (.int (1 : Int32)), .val (.int (1 : Int32)), .unset, .unset, .unset, .unset] []))
          refine own_st (fun t k => XS.aloadN X409.here hx rfl (hb hby at_73) rfl rfl k) ?_
          show own_Run p e below s _ _ _ (T409.setTop (mkF m 74 #[.val (.int i0), .val (.ref b297), .val (.ref b314), .val (.int (0 : Int32)), .val (.int (0 : Int32)), .val (.int (1 : Int32)), .val (.int (1 : Int32)), .unset, .unset, .unset, .unset] [(.ref b314)]))
          have E421 := (Q320.keep K409q)
          have F422 := (Q321.keep K409q (ninS (Ne.symm (Nat.ne_of_lt (Nat.lt_of_lt_of_le (Nat.lt_of_lt_of_le A297.lt K302q.1) (Nat.le_of_eq g314.symm)))) nin0))
          have F423 := (Q322.keep K409q (ninS (Ne.symm (Nat.ne_of_lt (Nat.lt_of_lt_of_le (Nat.lt_of_lt_of_le A297.lt K302q.1) (Nat.le_of_eq g314.symm)))) nin0))
          have F424 := (Q323.keep K409q (ninS (Ne.symm (Nat.ne_of_lt (Nat.lt_of_lt_of_le (Nat.lt_of_lt_of_le A297.lt K302q.1) (Nat.le_of_eq g314.symm)))) nin0))
          have F425 := (Q324.keep K409q (ninS (Ne.symm (Nat.ne_of_lt (Nat.lt_of_lt_of_le (Nat.lt_of_lt_of_le A297.lt K302q.1) (Nat.le_of_eq g314.symm)))) nin0))
          have F426 := (Q325.keep K409q (ninS (Ne.symm (Nat.ne_of_lt (Nat.lt_of_lt_of_le (Nat.lt_of_lt_of_le A297.lt K302q.1) (Nat.le_of_eq g314.symm)))) nin0))
          have F427 := (Q326.keep K409q (ninS (Ne.symm (Nat.ne_of_lt (Nat.lt_of_lt_of_le (Nat.lt_of_lt_of_le A297.lt K302q.1) (Nat.le_of_eq g314.symm)))) nin0))
          have F428 := (Q327.keep K409q (ninS (Ne.symm (Nat.ne_of_lt (Nat.lt_of_lt_of_le (Nat.lt_of_lt_of_le A297.lt K302q.1) (Nat.le_of_eq g314.symm)))) nin0))
          have F429 := (Q328.keep K409q (ninS (Ne.symm (Nat.ne_of_lt (Nat.lt_of_lt_of_le (Nat.lt_of_lt_of_le A297.lt K302q.1) (Nat.le_of_eq g314.symm)))) nin0))
          refine own_callV X409 hx hZ (y := (⟨"com/example/kerb2d/kerb2d/engine/Tally", "arrive", "()V"⟩ : MethodName)) (C := "com/example/kerb2d/kerb2d/engine/Tally") hown (hw _ (List.mem_of_getElem? (i := 92) rfl)) (hw _ (List.mem_of_getElem? (i := 93) rfl)) (hw _ (List.mem_of_getElem? (i := 95) rfl)) (hw _ (List.mem_of_getElem? (i := 94) rfl)) (hw _ (List.mem_of_getElem? (i := 96) rfl)) (hw _ (List.mem_of_getElem? (i := 2) rfl)) (by decide) rfl (a := b314) E421 (argsL := []) (rest := []) (W := 0) (own_rm11P l Z a0 hw [] b314 b297 (0 : Int32) (0 : Int32) ((0 : Int32) + (1 : Int32)) (0 : Int32) T409.heap n0 (Nat.le_trans Z0 K419.1) E421 ge316 F422 F423 F424 F425 F426 F427 F428 F429 Q410 ge299 Q411 Q412 Q413 Q414 Q415 Q416 Q417 Q418 (Ne.symm (Nat.ne_of_lt (Nat.lt_of_lt_of_le (Nat.lt_of_lt_of_le A297.lt K302q.1) (Nat.le_of_eq g314.symm))))) (by decide) (by decide) (by rw [hml]; rfl) (lenOf own_pd2 rfl) rfl (by exact Nat.le_of_eq rfl) (hb hby at_74) (by decide) (by decide) ?_
          intro T430 v430 L430 X430 hq430
          obtain ⟨rfl, N430q, K430q, Q431, Q432, Q433, Q434, Q435, Q436, Q437, Q438, Q439, Q440, Q441, Q442, Q443, Q444, Q445, Q446, Q447, Q448⟩ := hq430
          have K449 : Keep h0 T430.heap [] := K419.trans K430q (allS (Or.inr sz315) (allS (Or.inr sz298) all0))
          have O450 := O420.keep K430q (allS ge316 (allS ge299 all0))
          have N430 := Fr.app N409 N430q
          show own_Run p e below s _ _ _ (T430.setTop (mkF m 77 #[.val (.int i0), .val (.ref b297), .val (.ref b314), .val (.int (0 : Int32)), .val (.int (0 : Int32)), .val (.int (1 : Int32)), .val (.int (1 : Int32)), .unset, .unset, .unset, .unset] []))
          exact own_tail l Z a0 hw T430 _ hx hby hml hZ hown hnm hret hlk te i0 b297 b314 (0 : Int32) (0 : Int32) (1 : Int32) (1 : Int32) (((0 : Int32) + (1 : Int32)) + (1 : Int32)) (0 : Int32) ((0 : Int32) + (1 : Int32)) (0 : Int32) h0 n0 Z0 _ (X430.more (by decide) (by decide)) rfl N430 K449 O450 S_E Q440 ge299 sz298 Q441 Q442 Q443 Q444 Q445 Q446 Q447 Q448 Q431 ge316 sz315 Q432 Q433 Q434 Q435 Q436 Q437 Q438 Q439 (Ne.symm (Nat.ne_of_lt (Nat.lt_of_lt_of_le (Nat.lt_of_lt_of_le A297.lt K302q.1) (Nat.le_of_eq g314.symm)))) (by decide) (by decide) (by decide) (by decide)
    · refine own_topI hn ?_
      show own_Run p e below s _ _ _ (T319.setTop (mkF m 26 #[.val (.int i0), .val (.ref b297), .val (.ref b314), .val (.int (0 : Int32)), .unset, .unset, .unset, .unset, .unset, .unset, .unset] [(.int (1 : Int32))]))
      refine own_st (fun t k => XS.istore X319.here hx rfl (hb hby at_26) rfl (l' := #[.val (.int i0), .val (.ref b297), .val (.ref b314), .val (.int (0 : Int32)), .val (.int (1 : Int32)), .unset, .unset, .unset, .unset, .unset, .unset]) rfl k) ?_
      show own_Run p e below s _ _ _ (T319.setTop (mkF m 28 #[.val (.int i0), .val (.ref b297), .val (.ref b314), .val (.int (0 : Int32)), .val (.int (1 : Int32)), .unset, .unset, .unset, .unset, .unset, .unset] []))
      refine own_st (fun t k => XS.iloadN X319.here hx rfl (hb hby at_28) rfl k) ?_
      show own_Run p e below s _ _ _ (T319.setTop (mkF m 29 #[.val (.int i0), .val (.ref b297), .val (.ref b314), .val (.int (0 : Int32)), .val (.int (1 : Int32)), .unset, .unset, .unset, .unset, .unset, .unset] [(.int i0)]))
      refine own_st (fun t k => XS.iconst X319.here hx rfl (hb hby at_29) k) ?_
      show own_Run p e below s _ _ _ (T319.setTop (mkF m 30 #[.val (.int i0), .val (.ref b297), .val (.ref b314), .val (.int (0 : Int32)), .val (.int (1 : Int32)), .unset, .unset, .unset, .unset, .unset, .unset] [(.int (2 : Int32)), (.int i0)]))
      refine own_st (fun t k => XS.iushr X319.here hx rfl (hb hby at_30) rfl k) ?_
      show own_Run p e below s _ _ _ (T319.setTop (mkF m 31 #[.val (.int i0), .val (.ref b297), .val (.ref b314), .val (.int (0 : Int32)), .val (.int (1 : Int32)), .unset, .unset, .unset, .unset, .unset, .unset] [(.int ((i0.toUInt32 >>> ((2 : Int32) &&& 31).toUInt32).toInt32))]))
      refine own_st (fun t k => XS.iconst X319.here hx rfl (hb hby at_31) k) ?_
      show own_Run p e below s _ _ _ (T319.setTop (mkF m 32 #[.val (.int i0), .val (.ref b297), .val (.ref b314), .val (.int (0 : Int32)), .val (.int (1 : Int32)), .unset, .unset, .unset, .unset, .unset, .unset] [(.int (1 : Int32)), (.int ((i0.toUInt32 >>> ((2 : Int32) &&& 31).toUInt32).toInt32))]))
      refine own_st (fun t k => XS.iand X319.here hx rfl (hb hby at_32) rfl k) ?_
      show own_Run p e below s _ _ _ (T319.setTop (mkF m 33 #[.val (.int i0), .val (.ref b297), .val (.ref b314), .val (.int (0 : Int32)), .val (.int (1 : Int32)), .unset, .unset, .unset, .unset, .unset, .unset] [(.int (((i0.toUInt32 >>> ((2 : Int32) &&& 31).toUInt32).toInt32) &&& (1 : Int32)))]))
      rcases and_one _ with hn | hn
      · refine own_topI hn ?_
        show own_Run p e below s _ _ _ (T319.setTop (mkF m 33 #[.val (.int i0), .val (.ref b297), .val (.ref b314), .val (.int (0 : Int32)), .val (.int (1 : Int32)), .unset, .unset, .unset, .unset, .unset, .unset] [(.int (0 : Int32))]))
        refine own_st (fun t k => XS.istore X319.here hx rfl (hb hby at_33) rfl (l' := #[.val (.int i0), .val (.ref b297), .val (.ref b314), .val (.int (0 : Int32)), .val (.int (1 : Int32)), .val (.int (0 : Int32)), .unset, .unset, .unset, .unset, .unset]) rfl k) ?_
        show own_Run p e below s _ _ _ (T319.setTop (mkF m 35 #[.val (.int i0), .val (.ref b297), .val (.ref b314), .val (.int (0 : Int32)), .val (.int (1 : Int32)), .val (.int (0 : Int32)), .unset, .unset, .unset, .unset, .unset] []))
        refine own_st (fun t k => XS.iloadN X319.here hx rfl (hb hby at_35) rfl k) ?_
        show own_Run p e below s _ _ _ (T319.setTop (mkF m 36 #[.val (.int i0), .val (.ref b297), .val (.ref b314), .val (.int (0 : Int32)), .val (.int (1 : Int32)), .val (.int (0 : Int32)), .unset, .unset, .unset, .unset, .unset] [(.int i0)]))
        refine own_st (fun t k => XS.iconst X319.here hx rfl (hb hby at_36) k) ?_
        show own_Run p e below s _ _ _ (T319.setTop (mkF m 37 #[.val (.int i0), .val (.ref b297), .val (.ref b314), .val (.int (0 : Int32)), .val (.int (1 : Int32)), .val (.int (0 : Int32)), .unset, .unset, .unset, .unset, .unset] [(.int (3 : Int32)), (.int i0)]))
        refine own_st (fun t k => XS.iushr X319.here hx rfl (hb hby at_37) rfl k) ?_
        show own_Run p e below s _ _ _ (T319.setTop (mkF m 38 #[.val (.int i0), .val (.ref b297), .val (.ref b314), .val (.int (0 : Int32)), .val (.int (1 : Int32)), .val (.int (0 : Int32)), .unset, .unset, .unset, .unset, .unset] [(.int ((i0.toUInt32 >>> ((3 : Int32) &&& 31).toUInt32).toInt32))]))
        refine own_st (fun t k => XS.iconst X319.here hx rfl (hb hby at_38) k) ?_
        show own_Run p e below s _ _ _ (T319.setTop (mkF m 39 #[.val (.int i0), .val (.ref b297), .val (.ref b314), .val (.int (0 : Int32)), .val (.int (1 : Int32)), .val (.int (0 : Int32)), .unset, .unset, .unset, .unset, .unset] [(.int (1 : Int32)), (.int ((i0.toUInt32 >>> ((3 : Int32) &&& 31).toUInt32).toInt32))]))
        refine own_st (fun t k => XS.iand X319.here hx rfl (hb hby at_39) rfl k) ?_
        show own_Run p e below s _ _ _ (T319.setTop (mkF m 40 #[.val (.int i0), .val (.ref b297), .val (.ref b314), .val (.int (0 : Int32)), .val (.int (1 : Int32)), .val (.int (0 : Int32)), .unset, .unset, .unset, .unset, .unset] [(.int (((i0.toUInt32 >>> ((3 : Int32) &&& 31).toUInt32).toInt32) &&& (1 : Int32)))]))
        rcases and_one _ with hn | hn
        · refine own_topI hn ?_
          show own_Run p e below s _ _ _ (T319.setTop (mkF m 40 #[.val (.int i0), .val (.ref b297), .val (.ref b314), .val (.int (0 : Int32)), .val (.int (1 : Int32)), .val (.int (0 : Int32)), .unset, .unset, .unset, .unset, .unset] [(.int (0 : Int32))]))
          refine own_st (fun t k => XS.istore X319.here hx rfl (hb hby at_40) rfl (l' := #[.val (.int i0), .val (.ref b297), .val (.ref b314), .val (.int (0 : Int32)), .val (.int (1 : Int32)), .val (.int (0 : Int32)), .val (.int (0 : Int32)), .unset, .unset, .unset, .unset]) rfl k) ?_
          show own_Run p e below s _ _ _ (T319.setTop (mkF m 42 #[.val (.int i0), .val (.ref b297), .val (.ref b314), .val (.int (0 : Int32)), .val (.int (1 : Int32)), .val (.int (0 : Int32)), .val (.int (0 : Int32)), .unset, .unset, .unset, .unset] []))
          refine own_st (fun t k => XS.iloadN X319.here hx rfl (hb hby at_42) rfl k) ?_
          show own_Run p e below s _ _ _ (T319.setTop (mkF m 43 #[.val (.int i0), .val (.ref b297), .val (.ref b314), .val (.int (0 : Int32)), .val (.int (1 : Int32)), .val (.int (0 : Int32)), .val (.int (0 : Int32)), .unset, .unset, .unset, .unset] [(.int (0 : Int32))]))
          refine own_st (fun t k => XS.ifYes X319.here hx rfl (pc0 := 43) (pc' := 50) rfl (hb hby at_43) rfl ((if0 _ _).trans (teq (by decide : (0 : Int32) = (0 : Int32))).1) (by decide) (by decide) k) ?_
          show own_Run p e below s _ _ _ (T319.setTop (mkF m 50 #[.val (.int i0), .val (.ref b297), .val (.ref b314), .val (.int (0 : Int32)), .val (.int (1 : Int32)), .val (.int (0 : Int32)), .val (.int (0 : Int32)), .unset, .unset, .unset, .unset] []))
          refine own_st (fun t k => XS.iload X319.here hx rfl (hb hby at_50) rfl k) ?_
          show own_Run p e below s _ _ _ (T319.setTop (mkF m 52 #[.val (.int i0), .val (.ref b297), .val (.ref b314), .val (.int (0 : Int32)), .val (.int (1 : Int32)), .val (.int (0 : Int32)), .val (.int (0 : Int32)), .unset, .unset, .unset, .unset] [(.int (1 : Int32))]))
          refine own_st (fun t k => XS.ifNo X319.here hx rfl (hb hby at_52) rfl ((if0 _ _).trans (feq (by decide : ¬ ((1 : Int32) = (0 : Int32)))).1) k) ?_
          show own_Run p e below s _ _ _ (T319.setTop (mkF m 55 #[.val (.int i0), .val (.ref b297), .val (.ref b314), .val (.int (0 : Int32)), .val (.int (1 : Int32)), .val (.int (0 : Int32)), .val (.int (0 : Int32)), .unset, .unset, .unset, .unset] []))
          refine own_st (fun t k => XS.aloadN X319.here hx rfl (hb hby at_55) rfl rfl k) ?_
          show own_Run p e below s _ _ _ (T319.setTop (mkF m 56 #[.val (.int i0), .val (.ref b297), .val (.ref b314), .val (.int (0 : Int32)), .val (.int (1 : Int32)), .val (.int (0 : Int32)), .val (.int (0 : Int32)), .unset, .unset, .unset, .unset] [(.ref b314)]))
          have E451 := ((Q303.ext E314).keep K319q)
          have F452 := ((Q304.ext E314).keep K319q (ninS (Nat.ne_of_lt (Nat.lt_of_lt_of_le (Nat.lt_of_lt_of_le A297.lt K302q.1) (Nat.le_of_eq g314.symm))) nin0))
          have F453 := ((Q305.ext E314).keep K319q (ninS (Nat.ne_of_lt (Nat.lt_of_lt_of_le (Nat.lt_of_lt_of_le A297.lt K302q.1) (Nat.le_of_eq g314.symm))) nin0))
          have F454 := ((Q306.ext E314).keep K319q (ninS (Nat.ne_of_lt (Nat.lt_of_lt_of_le (Nat.lt_of_lt_of_le A297.lt K302q.1) (Nat.le_of_eq g314.symm))) nin0))
          have F455 := ((Q307.ext E314).keep K319q (ninS (Nat.ne_of_lt (Nat.lt_of_lt_of_le (Nat.lt_of_lt_of_le A297.lt K302q.1) (Nat.le_of_eq g314.symm))) nin0))
          have F456 := ((Q308.ext E314).keep K319q (ninS (Nat.ne_of_lt (Nat.lt_of_lt_of_le (Nat.lt_of_lt_of_le A297.lt K302q.1) (Nat.le_of_eq g314.symm))) nin0))
          have F457 := ((Q309.ext E314).keep K319q (ninS (Nat.ne_of_lt (Nat.lt_of_lt_of_le (Nat.lt_of_lt_of_le A297.lt K302q.1) (Nat.le_of_eq g314.symm))) nin0))
          have F458 := ((Q310.ext E314).keep K319q (ninS (Nat.ne_of_lt (Nat.lt_of_lt_of_le (Nat.lt_of_lt_of_le A297.lt K302q.1) (Nat.le_of_eq g314.symm))) nin0))
          have F459 := ((Q311.ext E314).keep K319q (ninS (Nat.ne_of_lt (Nat.lt_of_lt_of_le (Nat.lt_of_lt_of_le A297.lt K302q.1) (Nat.le_of_eq g314.symm))) nin0))
          refine own_callV X319 hx hZ (y := (⟨"com/example/kerb2d/kerb2d/engine/Tally", "arrive", "()V"⟩ : MethodName)) (C := "com/example/kerb2d/kerb2d/engine/Tally") hown (hw _ (List.mem_of_getElem? (i := 92) rfl)) (hw _ (List.mem_of_getElem? (i := 93) rfl)) (hw _ (List.mem_of_getElem? (i := 95) rfl)) (hw _ (List.mem_of_getElem? (i := 94) rfl)) (hw _ (List.mem_of_getElem? (i := 96) rfl)) (hw _ (List.mem_of_getElem? (i := 2) rfl)) (by decide) rfl (a := b314) Q320 (argsL := []) (rest := []) (W := 0) (own_rm11P l Z a0 hw [] b314 b297 (0 : Int32) (0 : Int32) (0 : Int32) (0 : Int32) T319.heap n0 (Nat.le_trans Z0 K329.1) Q320 ge316 Q321 Q322 Q323 Q324 Q325 Q326 Q327 Q328 E451 ge299 F452 F453 F454 F455 F456 F457 F458 F459 (Ne.symm (Nat.ne_of_lt (Nat.lt_of_lt_of_le (Nat.lt_of_lt_of_le A297.lt K302q.1) (Nat.le_of_eq g314.symm))))) (by decide) (by decide) (by rw [hml]; rfl) (lenOf own_pd2 rfl) rfl (by exact Nat.le_of_eq rfl) (hb hby at_56) (by decide) (by decide) ?_
          intro T460 v460 L460 X460 hq460
          obtain ⟨rfl, N460q, K460q, Q461, Q462, Q463, Q464, Q465, Q466, Q467, Q468, Q469, Q470, Q471, Q472, Q473, Q474, Q475, Q476, Q477, Q478⟩ := hq460
          have K479 : Keep h0 T460.heap [] := K329.trans K460q (allS (Or.inr sz315) (allS (Or.inr sz298) all0))
          have O480 := O330.keep K460q (allS ge316 (allS ge299 all0))
          have N460 := Fr.app N319 N460q
          show own_Run p e below s _ _ _ (T460.setTop (mkF m 59 #[.val (.int i0), .val (.ref b297), .val (.ref b314), .val (.int (0 : Int32)), .val (.int (1 : Int32)), .val (.int (0 : Int32)), .val (.int (0 : Int32)), .unset, .unset, .unset, .unset] []))
          refine own_st (fun t k => XS.iload X460.here hx rfl (hb hby at_59) rfl k) ?_
          show own_Run p e below s _ _ _ (T460.setTop (mkF m 61 #[.val (.int i0), .val (.ref b297), .val (.ref b314), .val (.int (0 : Int32)), .val (.int (1 : Int32)), .val (.int (0 : Int32)), .val (.int (0 : Int32)), .unset, .unset, .unset, .unset] [(.int (0 : Int32))]))
          refine own_st (fun t k => XS.ifYes X460.here hx rfl (pc0 := 61) (pc' := 68) rfl (hb hby at_61) rfl ((if0 _ _).trans (teq (by decide : (0 : Int32) = (0 : Int32))).1) (by decide) (by decide) k) ?_
          show own_Run p e below s _ _ _ (T460.setTop (mkF m 68 #[.val (.int i0), .val (.ref b297), .val (.ref b314), .val (.int (0 : Int32)), .val (.int (1 : Int32)), .val (.int (0 : Int32)), .val (.int (0 : Int32)), .unset, .unset, .unset, .unset] []))
          refine own_st (fun t k => XS.iload X460.here hx rfl (hb hby at_68) rfl k) ?_
          show own_Run p e below s _ _ _ (T460.setTop (mkF m 70 #[.val (.int i0), .val (.ref b297), .val (.ref b314), .val (.int (0 : Int32)), .val (.int (1 : Int32)), .val (.int (0 : Int32)), .val (.int (0 : Int32)), .unset, .unset, .unset, .unset] [(.int (0 : Int32))]))
          refine own_st (fun t k => XS.ifYes X460.here hx rfl (pc0 := 70) (pc' := 77) rfl (hb hby at_70) rfl ((if0 _ _).trans (teq (by decide : (0 : Int32) = (0 : Int32))).1) (by decide) (by decide) k) ?_
          show own_Run p e below s _ _ _ (T460.setTop (mkF m 77 #[.val (.int i0), .val (.ref b297), .val (.ref b314), .val (.int (0 : Int32)), .val (.int (1 : Int32)), .val (.int (0 : Int32)), .val (.int (0 : Int32)), .unset, .unset, .unset, .unset] []))
          exact own_tail l Z a0 hw T460 _ hx hby hml hZ hown hnm hret hlk te i0 b297 b314 (0 : Int32) (1 : Int32) (0 : Int32) (0 : Int32) ((0 : Int32) + (1 : Int32)) (0 : Int32) ((0 : Int32) + (1 : Int32)) (0 : Int32) h0 n0 Z0 _ (X460.more (by decide) (by decide)) rfl N460 K479 O480 S_E Q470 ge299 sz298 Q471 Q472 Q473 Q474 Q475 Q476 Q477 Q478 Q461 ge316 sz315 Q462 Q463 Q464 Q465 Q466 Q467 Q468 Q469 (Ne.symm (Nat.ne_of_lt (Nat.lt_of_lt_of_le (Nat.lt_of_lt_of_le A297.lt K302q.1) (Nat.le_of_eq g314.symm)))) (by decide) (by decide) (by decide) (by decide)
        · refine own_topI hn ?_
          show own_Run p e below s _ _ _ (T319.setTop (mkF m 40 #[.val (.int i0), .val (.ref b297), .val (.ref b314), .val (.int (0 : Int32)), .val (.int (1 : Int32)), .val (.int (0 : Int32)), .unset, .unset, .unset, .unset, .unset] [(.int (1 : Int32))]))
          refine own_st (fun t k => XS.istore X319.here hx rfl (hb hby at_40) rfl (l' := #[.val (.int i0), .val (.ref b297), .val (.ref b314), .val (.int (0 : Int32)), .val (.int (1 : Int32)), .val (.int (0 : Int32)), .val (.int (1 : Int32)), .unset, .unset, .unset, .unset]) rfl k) ?_
          show own_Run p e below s _ _ _ (T319.setTop (mkF m 42 #[.val (.int i0), .val (.ref b297), .val (.ref b314), .val (.int (0 : Int32)), .val (.int (1 : Int32)), .val (.int (0 : Int32)), .val (.int (1 : Int32)), .unset, .unset, .unset, .unset] []))
          refine own_st (fun t k => XS.iloadN X319.here hx rfl (hb hby at_42) rfl k) ?_
          show own_Run p e below s _ _ _ (T319.setTop (mkF m 43 #[.val (.int i0), .val (.ref b297), .val (.ref b314), .val (.int (0 : Int32)), .val (.int (1 : Int32)), .val (.int (0 : Int32)), .val (.int (1 : Int32)), .unset, .unset, .unset, .unset] [(.int (0 : Int32))]))
          refine own_st (fun t k => XS.ifYes X319.here hx rfl (pc0 := 43) (pc' := 50) rfl (hb hby at_43) rfl ((if0 _ _).trans (teq (by decide : (0 : Int32) = (0 : Int32))).1) (by decide) (by decide) k) ?_
          show own_Run p e below s _ _ _ (T319.setTop (mkF m 50 #[.val (.int i0), .val (.ref b297), .val (.ref b314), .val (.int (0 : Int32)), .val (.int (1 : Int32)), .val (.int (0 : Int32)), .val (.int (1 : Int32)), .unset, .unset, .unset, .unset] []))
          refine own_st (fun t k => XS.iload X319.here hx rfl (hb hby at_50) rfl k) ?_
          show own_Run p e below s _ _ _ (T319.setTop (mkF m 52 #[.val (.int i0), .val (.ref b297), .val (.ref b314), .val (.int (0 : Int32)), .val (.int (1 : Int32)), .val (.int (0 : Int32)), .val (.int (1 : Int32)), .unset, .unset, .unset, .unset] [(.int (1 : Int32))]))
          refine own_st (fun t k => XS.ifNo X319.here hx rfl (hb hby at_52) rfl ((if0 _ _).trans (feq (by decide : ¬ ((1 : Int32) = (0 : Int32)))).1) k) ?_
          show own_Run p e below s _ _ _ (T319.setTop (mkF m 55 #[.val (.int i0), .val (.ref b297), .val (.ref b314), .val (.int (0 : Int32)), .val (.int (1 : Int32)), .val (.int (0 : Int32)), .val (.int (1 : Int32)), .unset, .unset, .unset, .unset] []))
          refine own_st (fun t k => XS.aloadN X319.here hx rfl (hb hby at_55) rfl rfl k) ?_
          show own_Run p e below s _ _ _ (T319.setTop (mkF m 56 #[.val (.int i0), .val (.ref b297), .val (.ref b314), .val (.int (0 : Int32)), .val (.int (1 : Int32)), .val (.int (0 : Int32)), .val (.int (1 : Int32)), .unset, .unset, .unset, .unset] [(.ref b314)]))
          have E481 := ((Q303.ext E314).keep K319q)
          have F482 := ((Q304.ext E314).keep K319q (ninS (Nat.ne_of_lt (Nat.lt_of_lt_of_le (Nat.lt_of_lt_of_le A297.lt K302q.1) (Nat.le_of_eq g314.symm))) nin0))
          have F483 := ((Q305.ext E314).keep K319q (ninS (Nat.ne_of_lt (Nat.lt_of_lt_of_le (Nat.lt_of_lt_of_le A297.lt K302q.1) (Nat.le_of_eq g314.symm))) nin0))
          have F484 := ((Q306.ext E314).keep K319q (ninS (Nat.ne_of_lt (Nat.lt_of_lt_of_le (Nat.lt_of_lt_of_le A297.lt K302q.1) (Nat.le_of_eq g314.symm))) nin0))
          have F485 := ((Q307.ext E314).keep K319q (ninS (Nat.ne_of_lt (Nat.lt_of_lt_of_le (Nat.lt_of_lt_of_le A297.lt K302q.1) (Nat.le_of_eq g314.symm))) nin0))
          have F486 := ((Q308.ext E314).keep K319q (ninS (Nat.ne_of_lt (Nat.lt_of_lt_of_le (Nat.lt_of_lt_of_le A297.lt K302q.1) (Nat.le_of_eq g314.symm))) nin0))
          have F487 := ((Q309.ext E314).keep K319q (ninS (Nat.ne_of_lt (Nat.lt_of_lt_of_le (Nat.lt_of_lt_of_le A297.lt K302q.1) (Nat.le_of_eq g314.symm))) nin0))
          have F488 := ((Q310.ext E314).keep K319q (ninS (Nat.ne_of_lt (Nat.lt_of_lt_of_le (Nat.lt_of_lt_of_le A297.lt K302q.1) (Nat.le_of_eq g314.symm))) nin0))
          have F489 := ((Q311.ext E314).keep K319q (ninS (Nat.ne_of_lt (Nat.lt_of_lt_of_le (Nat.lt_of_lt_of_le A297.lt K302q.1) (Nat.le_of_eq g314.symm))) nin0))
          refine own_callV X319 hx hZ (y := (⟨"com/example/kerb2d/kerb2d/engine/Tally", "arrive", "()V"⟩ : MethodName)) (C := "com/example/kerb2d/kerb2d/engine/Tally") hown (hw _ (List.mem_of_getElem? (i := 92) rfl)) (hw _ (List.mem_of_getElem? (i := 93) rfl)) (hw _ (List.mem_of_getElem? (i := 95) rfl)) (hw _ (List.mem_of_getElem? (i := 94) rfl)) (hw _ (List.mem_of_getElem? (i := 96) rfl)) (hw _ (List.mem_of_getElem? (i := 2) rfl)) (by decide) rfl (a := b314) Q320 (argsL := []) (rest := []) (W := 0) (own_rm11P l Z a0 hw [] b314 b297 (0 : Int32) (0 : Int32) (0 : Int32) (0 : Int32) T319.heap n0 (Nat.le_trans Z0 K329.1) Q320 ge316 Q321 Q322 Q323 Q324 Q325 Q326 Q327 Q328 E481 ge299 F482 F483 F484 F485 F486 F487 F488 F489 (Ne.symm (Nat.ne_of_lt (Nat.lt_of_lt_of_le (Nat.lt_of_lt_of_le A297.lt K302q.1) (Nat.le_of_eq g314.symm))))) (by decide) (by decide) (by rw [hml]; rfl) (lenOf own_pd2 rfl) rfl (by exact Nat.le_of_eq rfl) (hb hby at_56) (by decide) (by decide) ?_
          intro T490 v490 L490 X490 hq490
          obtain ⟨rfl, N490q, K490q, Q491, Q492, Q493, Q494, Q495, Q496, Q497, Q498, Q499, Q500, Q501, Q502, Q503, Q504, Q505, Q506, Q507, Q508⟩ := hq490
          have K509 : Keep h0 T490.heap [] := K329.trans K490q (allS (Or.inr sz315) (allS (Or.inr sz298) all0))
          have O510 := O330.keep K490q (allS ge316 (allS ge299 all0))
          have N490 := Fr.app N319 N490q
          show own_Run p e below s _ _ _ (T490.setTop (mkF m 59 #[.val (.int i0), .val (.ref b297), .val (.ref b314), .val (.int (0 : Int32)), .val (.int (1 : Int32)), .val (.int (0 : Int32)), .val (.int (1 : Int32)), .unset, .unset, .unset, .unset] []))
          refine own_st (fun t k => XS.iload X490.here hx rfl (hb hby at_59) rfl k) ?_
          show own_Run p e below s _ _ _ (T490.setTop (mkF m 61 #[.val (.int i0), .val (.ref b297), .val (.ref b314), .val (.int (0 : Int32)), .val (.int (1 : Int32)), .val (.int (0 : Int32)), .val (.int (1 : Int32)), .unset, .unset, .unset, .unset] [(.int (0 : Int32))]))
          refine own_st (fun t k => XS.ifYes X490.here hx rfl (pc0 := 61) (pc' := 68) rfl (hb hby at_61) rfl ((if0 _ _).trans (teq (by decide : (0 : Int32) = (0 : Int32))).1) (by decide) (by decide) k) ?_
          show own_Run p e below s _ _ _ (T490.setTop (mkF m 68 #[.val (.int i0), .val (.ref b297), .val (.ref b314), .val (.int (0 : Int32)), .val (.int (1 : Int32)), .val (.int (0 : Int32)), .val (.int (1 : Int32)), .unset, .unset, .unset, .unset] []))
          refine own_st (fun t k => XS.iload X490.here hx rfl (hb hby at_68) rfl k) ?_
          show own_Run p e below s _ _ _ (T490.setTop (mkF m 70 #[.val (.int i0), .val (.ref b297), .val (.ref b314), .val (.int (0 : Int32)), .val (.int (1 : Int32)), .val (.int (0 : Int32)), .val (.int (1 : Int32)), .unset, .unset, .unset, .unset] [(.int (1 : Int32))]))
          refine own_st (fun t k => XS.ifNo X490.here hx rfl (hb hby at_70) rfl ((if0 _ _).trans (feq (by decide : ¬ ((1 : Int32) = (0 : Int32)))).1) k) ?_
          show own_Run p e below s _ _ _ (T490.setTop (mkF m 73 #[.val (.int i0), .val (.ref b297), .val (.ref b314), .val (.int (0 : Int32)), .val (.int (1 : Int32)), .val (.int (0 : Int32)), .val (.int (1 : Int32)), .unset, .unset, .unset, .unset] []))
          refine own_st (fun t k => XS.aloadN X490.here hx rfl (hb hby at_73) rfl rfl k) ?_
          show own_Run p e below s _ _ _ (T490.setTop (mkF m 74 #[.val (.int i0), .val (.ref b297), .val (.ref b314), .val (.int (0 : Int32)), .val (.int (1 : Int32)), .val (.int (0 : Int32)), .val (.int (1 : Int32)), .unset, .unset, .unset, .unset] [(.ref b314)]))
          refine own_callV X490 hx hZ (y := (⟨"com/example/kerb2d/kerb2d/engine/Tally", "arrive", "()V"⟩ : MethodName)) (C := "com/example/kerb2d/kerb2d/engine/Tally") hown (hw _ (List.mem_of_getElem? (i := 92) rfl)) (hw _ (List.mem_of_getElem? (i := 93) rfl)) (hw _ (List.mem_of_getElem? (i := 95) rfl)) (hw _ (List.mem_of_getElem? (i := 94) rfl)) (hw _ (List.mem_of_getElem? (i := 96) rfl)) (hw _ (List.mem_of_getElem? (i := 2) rfl)) (by decide) rfl (a := b314) Q491 (argsL := []) (rest := []) (W := 0) (own_rm11P l Z a0 hw [] b314 b297 ((0 : Int32) + (1 : Int32)) (0 : Int32) ((0 : Int32) + (1 : Int32)) (0 : Int32) T490.heap n0 (Nat.le_trans Z0 K509.1) Q491 ge316 Q492 Q493 Q494 Q495 Q496 Q497 Q498 Q499 Q500 ge299 Q501 Q502 Q503 Q504 Q505 Q506 Q507 Q508 (Ne.symm (Nat.ne_of_lt (Nat.lt_of_lt_of_le (Nat.lt_of_lt_of_le A297.lt K302q.1) (Nat.le_of_eq g314.symm))))) (by decide) (by decide) (by rw [hml]; rfl) (lenOf own_pd2 rfl) rfl (by exact Nat.le_of_eq rfl) (hb hby at_74) (by decide) (by decide) ?_
          intro T511 v511 L511 X511 hq511
          obtain ⟨rfl, N511q, K511q, Q512, Q513, Q514, Q515, Q516, Q517, Q518, Q519, Q520, Q521, Q522, Q523, Q524, Q525, Q526, Q527, Q528, Q529⟩ := hq511
          have K530 : Keep h0 T511.heap [] := K509.trans K511q (allS (Or.inr sz315) (allS (Or.inr sz298) all0))
          have O531 := O510.keep K511q (allS ge316 (allS ge299 all0))
          have N511 := Fr.app N490 N511q
          show own_Run p e below s _ _ _ (T511.setTop (mkF m 77 #[.val (.int i0), .val (.ref b297), .val (.ref b314), .val (.int (0 : Int32)), .val (.int (1 : Int32)), .val (.int (0 : Int32)), .val (.int (1 : Int32)), .unset, .unset, .unset, .unset] []))
          exact own_tail l Z a0 hw T511 _ hx hby hml hZ hown hnm hret hlk te i0 b297 b314 (0 : Int32) (1 : Int32) (0 : Int32) (1 : Int32) (((0 : Int32) + (1 : Int32)) + (1 : Int32)) (0 : Int32) (((0 : Int32) + (1 : Int32)) + (1 : Int32)) (0 : Int32) h0 n0 Z0 _ (X511.more (by decide) (by decide)) rfl N511 K530 O531 S_E Q521 ge299 sz298 Q522 Q523 Q524 Q525 Q526 Q527 Q528 Q529 Q512 ge316 sz315 Q513 Q514 Q515 Q516 Q517 Q518 Q519 Q520 (Ne.symm (Nat.ne_of_lt (Nat.lt_of_lt_of_le (Nat.lt_of_lt_of_le A297.lt K302q.1) (Nat.le_of_eq g314.symm)))) (by decide) (by decide) (by decide) (by decide)
      · refine own_topI hn ?_
        show own_Run p e below s _ _ _ (T319.setTop (mkF m 33 #[.val (.int i0), .val (.ref b297), .val (.ref b314), .val (.int (0 : Int32)), .val (.int (1 : Int32)), .unset, .unset, .unset, .unset, .unset, .unset] [(.int (1 : Int32))]))
        refine own_st (fun t k => XS.istore X319.here hx rfl (hb hby at_33) rfl (l' := #[.val (.int i0), .val (.ref b297), .val (.ref b314), .val (.int (0 : Int32)), .val (.int (1 : Int32)), .val (.int (1 : Int32)), .unset, .unset, .unset, .unset, .unset]) rfl k) ?_
        show own_Run p e below s _ _ _ (T319.setTop (mkF m 35 #[.val (.int i0), .val (.ref b297), .val (.ref b314), .val (.int (0 : Int32)), .val (.int (1 : Int32)), .val (.int (1 : Int32)), .unset, .unset, .unset, .unset, .unset] []))
        refine own_st (fun t k => XS.iloadN X319.here hx rfl (hb hby at_35) rfl k) ?_
        show own_Run p e below s _ _ _ (T319.setTop (mkF m 36 #[.val (.int i0), .val (.ref b297), .val (.ref b314), .val (.int (0 : Int32)), .val (.int (1 : Int32)), .val (.int (1 : Int32)), .unset, .unset, .unset, .unset, .unset] [(.int i0)]))
        refine own_st (fun t k => XS.iconst X319.here hx rfl (hb hby at_36) k) ?_
        show own_Run p e below s _ _ _ (T319.setTop (mkF m 37 #[.val (.int i0), .val (.ref b297), .val (.ref b314), .val (.int (0 : Int32)), .val (.int (1 : Int32)), .val (.int (1 : Int32)), .unset, .unset, .unset, .unset, .unset] [(.int (3 : Int32)), (.int i0)]))
        refine own_st (fun t k => XS.iushr X319.here hx rfl (hb hby at_37) rfl k) ?_
        show own_Run p e below s _ _ _ (T319.setTop (mkF m 38 #[.val (.int i0), .val (.ref b297), .val (.ref b314), .val (.int (0 : Int32)), .val (.int (1 : Int32)), .val (.int (1 : Int32)), .unset, .unset, .unset, .unset, .unset] [(.int ((i0.toUInt32 >>> ((3 : Int32) &&& 31).toUInt32).toInt32))]))
        refine own_st (fun t k => XS.iconst X319.here hx rfl (hb hby at_38) k) ?_
        show own_Run p e below s _ _ _ (T319.setTop (mkF m 39 #[.val (.int i0), .val (.ref b297), .val (.ref b314), .val (.int (0 : Int32)), .val (.int (1 : Int32)), .val (.int (1 : Int32)), .unset, .unset, .unset, .unset, .unset] [(.int (1 : Int32)), (.int ((i0.toUInt32 >>> ((3 : Int32) &&& 31).toUInt32).toInt32))]))
        refine own_st (fun t k => XS.iand X319.here hx rfl (hb hby at_39) rfl k) ?_
        show own_Run p e below s _ _ _ (T319.setTop (mkF m 40 #[.val (.int i0), .val (.ref b297), .val (.ref b314), .val (.int (0 : Int32)), .val (.int (1 : Int32)), .val (.int (1 : Int32)), .unset, .unset, .unset, .unset, .unset] [(.int (((i0.toUInt32 >>> ((3 : Int32) &&& 31).toUInt32).toInt32) &&& (1 : Int32)))]))
        rcases and_one _ with hn | hn
        · refine own_topI hn ?_
          show own_Run p e below s _ _ _ (T319.setTop (mkF m 40 #[.val (.int i0), .val (.ref b297), .val (.ref b314), .val (.int (0 : Int32)), .val (.int (1 : Int32)), .val (.int (1 : Int32)), .unset, .unset, .unset, .unset, .unset] [(.int (0 : Int32))]))
          refine own_st (fun t k => XS.istore X319.here hx rfl (hb hby at_40) rfl (l' := #[.val (.int i0), .val (.ref b297), .val (.ref b314), .val (.int (0 : Int32)), .val (.int (1 : Int32)), .val (.int (1 : Int32)), .val (.int (0 : Int32)), .unset, .unset, .unset, .unset]) rfl k) ?_
          show own_Run p e below s _ _ _ (T319.setTop (mkF m 42 #[.val (.int i0), .val (.ref b297), .val (.ref b314), .val (.int (0 : Int32)), .val (.int (1 : Int32)), .val (.int (1 : Int32)), .val (.int (0 : Int32)), .unset, .unset, .unset, .unset] []))
          refine own_st (fun t k => XS.iloadN X319.here hx rfl (hb hby at_42) rfl k) ?_
          show own_Run p e below s _ _ _ (T319.setTop (mkF m 43 #[.val (.int i0), .val (.ref b297), .val (.ref b314), .val (.int (0 : Int32)), .val (.int (1 : Int32)), .val (.int (1 : Int32)), .val (.int (0 : Int32)), .unset, .unset, .unset, .unset] [(.int (0 : Int32))]))
          refine own_st (fun t k => XS.ifYes X319.here hx rfl (pc0 := 43) (pc' := 50) rfl (hb hby at_43) rfl ((if0 _ _).trans (teq (by decide : (0 : Int32) = (0 : Int32))).1) (by decide) (by decide) k) ?_
          show own_Run p e below s _ _ _ (T319.setTop (mkF m 50 #[.val (.int i0), .val (.ref b297), .val (.ref b314), .val (.int (0 : Int32)), .val (.int (1 : Int32)), .val (.int (1 : Int32)), .val (.int (0 : Int32)), .unset, .unset, .unset, .unset] []))
          refine own_st (fun t k => XS.iload X319.here hx rfl (hb hby at_50) rfl k) ?_
          show own_Run p e below s _ _ _ (T319.setTop (mkF m 52 #[.val (.int i0), .val (.ref b297), .val (.ref b314), .val (.int (0 : Int32)), .val (.int (1 : Int32)), .val (.int (1 : Int32)), .val (.int (0 : Int32)), .unset, .unset, .unset, .unset] [(.int (1 : Int32))]))
          refine own_st (fun t k => XS.ifNo X319.here hx rfl (hb hby at_52) rfl ((if0 _ _).trans (feq (by decide : ¬ ((1 : Int32) = (0 : Int32)))).1) k) ?_
          show own_Run p e below s _ _ _ (T319.setTop (mkF m 55 #[.val (.int i0), .val (.ref b297), .val (.ref b314), .val (.int (0 : Int32)), .val (.int (1 : Int32)), .val (.int (1 : Int32)), .val (.int (0 : Int32)), .unset, .unset, .unset, .unset] []))
          refine own_st (fun t k => XS.aloadN X319.here hx rfl (hb hby at_55) rfl rfl k) ?_
          show own_Run p e below s _ _ _ (T319.setTop (mkF m 56 #[.val (.int i0), .val (.ref b297), .val (.ref b314), .val (.int (0 : Int32)), .val (.int (1 : Int32)), .val (.int (1 : Int32)), .val (.int (0 : Int32)), .unset, .unset, .unset, .unset] [(.ref b314)]))
          have E532 := ((Q303.ext E314).keep K319q)
          have F533 := ((Q304.ext E314).keep K319q (ninS (Nat.ne_of_lt (Nat.lt_of_lt_of_le (Nat.lt_of_lt_of_le A297.lt K302q.1) (Nat.le_of_eq g314.symm))) nin0))
          have F534 := ((Q305.ext E314).keep K319q (ninS (Nat.ne_of_lt (Nat.lt_of_lt_of_le (Nat.lt_of_lt_of_le A297.lt K302q.1) (Nat.le_of_eq g314.symm))) nin0))
          have F535 := ((Q306.ext E314).keep K319q (ninS (Nat.ne_of_lt (Nat.lt_of_lt_of_le (Nat.lt_of_lt_of_le A297.lt K302q.1) (Nat.le_of_eq g314.symm))) nin0))
          have F536 := ((Q307.ext E314).keep K319q (ninS (Nat.ne_of_lt (Nat.lt_of_lt_of_le (Nat.lt_of_lt_of_le A297.lt K302q.1) (Nat.le_of_eq g314.symm))) nin0))
          have F537 := ((Q308.ext E314).keep K319q (ninS (Nat.ne_of_lt (Nat.lt_of_lt_of_le (Nat.lt_of_lt_of_le A297.lt K302q.1) (Nat.le_of_eq g314.symm))) nin0))
          have F538 := ((Q309.ext E314).keep K319q (ninS (Nat.ne_of_lt (Nat.lt_of_lt_of_le (Nat.lt_of_lt_of_le A297.lt K302q.1) (Nat.le_of_eq g314.symm))) nin0))
          have F539 := ((Q310.ext E314).keep K319q (ninS (Nat.ne_of_lt (Nat.lt_of_lt_of_le (Nat.lt_of_lt_of_le A297.lt K302q.1) (Nat.le_of_eq g314.symm))) nin0))
          have F540 := ((Q311.ext E314).keep K319q (ninS (Nat.ne_of_lt (Nat.lt_of_lt_of_le (Nat.lt_of_lt_of_le A297.lt K302q.1) (Nat.le_of_eq g314.symm))) nin0))
          refine own_callV X319 hx hZ (y := (⟨"com/example/kerb2d/kerb2d/engine/Tally", "arrive", "()V"⟩ : MethodName)) (C := "com/example/kerb2d/kerb2d/engine/Tally") hown (hw _ (List.mem_of_getElem? (i := 92) rfl)) (hw _ (List.mem_of_getElem? (i := 93) rfl)) (hw _ (List.mem_of_getElem? (i := 95) rfl)) (hw _ (List.mem_of_getElem? (i := 94) rfl)) (hw _ (List.mem_of_getElem? (i := 96) rfl)) (hw _ (List.mem_of_getElem? (i := 2) rfl)) (by decide) rfl (a := b314) Q320 (argsL := []) (rest := []) (W := 0) (own_rm11P l Z a0 hw [] b314 b297 (0 : Int32) (0 : Int32) (0 : Int32) (0 : Int32) T319.heap n0 (Nat.le_trans Z0 K329.1) Q320 ge316 Q321 Q322 Q323 Q324 Q325 Q326 Q327 Q328 E532 ge299 F533 F534 F535 F536 F537 F538 F539 F540 (Ne.symm (Nat.ne_of_lt (Nat.lt_of_lt_of_le (Nat.lt_of_lt_of_le A297.lt K302q.1) (Nat.le_of_eq g314.symm))))) (by decide) (by decide) (by rw [hml]; rfl) (lenOf own_pd2 rfl) rfl (by exact Nat.le_of_eq rfl) (hb hby at_56) (by decide) (by decide) ?_
          intro T541 v541 L541 X541 hq541
          obtain ⟨rfl, N541q, K541q, Q542, Q543, Q544, Q545, Q546, Q547, Q548, Q549, Q550, Q551, Q552, Q553, Q554, Q555, Q556, Q557, Q558, Q559⟩ := hq541
          have K560 : Keep h0 T541.heap [] := K329.trans K541q (allS (Or.inr sz315) (allS (Or.inr sz298) all0))
          have O561 := O330.keep K541q (allS ge316 (allS ge299 all0))
          have N541 := Fr.app N319 N541q
          show own_Run p e below s _ _ _ (T541.setTop (mkF m 59 #[.val (.int i0), .val (.ref b297), .val (.ref b314), .val (.int (0 : Int32)), .val (.int (1 : Int32)), .val (.int (1 : Int32)), .val (.int (0 : Int32)), .unset, .unset, .unset, .unset] []))
          refine own_st (fun t k => XS.iload X541.here hx rfl (hb hby at_59) rfl k) ?_
          show own_Run p e below s _ _ _ (T541.setTop (mkF m 61 #[.val (.int i0), .val (.ref b297), .val (.ref b314), .val (.int (0 : Int32)), .val (.int (1 : Int32)), .val (.int (1 : Int32)), .val (.int (0 : Int32)), .unset, .unset, .unset, .unset] [(.int (1 : Int32))]))
          refine own_st (fun t k => XS.ifNo X541.here hx rfl (hb hby at_61) rfl ((if0 _ _).trans (feq (by decide : ¬ ((1 : Int32) = (0 : Int32)))).1) k) ?_
          show own_Run p e below s _ _ _ (T541.setTop (mkF m 64 #[.val (.int i0), .val (.ref b297), .val (.ref b314), .val (.int (0 : Int32)), .val (.int (1 : Int32)), .val (.int (1 : Int32)), .val (.int (0 : Int32)), .unset, .unset, .unset, .unset] []))
          refine own_st (fun t k => XS.aloadN X541.here hx rfl (hb hby at_64) rfl rfl k) ?_
          show own_Run p e below s _ _ _ (T541.setTop (mkF m 65 #[.val (.int i0), .val (.ref b297), .val (.ref b314), .val (.int (0 : Int32)), .val (.int (1 : Int32)), .val (.int (1 : Int32)), .val (.int (0 : Int32)), .unset, .unset, .unset, .unset] [(.ref b297)]))
          refine own_callV X541 hx hZ (y := (⟨"com/example/kerb2d/kerb2d/engine/Tally", "arrive", "()V"⟩ : MethodName)) (C := "com/example/kerb2d/kerb2d/engine/Tally") hown (hw _ (List.mem_of_getElem? (i := 92) rfl)) (hw _ (List.mem_of_getElem? (i := 93) rfl)) (hw _ (List.mem_of_getElem? (i := 95) rfl)) (hw _ (List.mem_of_getElem? (i := 94) rfl)) (hw _ (List.mem_of_getElem? (i := 96) rfl)) (hw _ (List.mem_of_getElem? (i := 2) rfl)) (by decide) rfl (a := b297) Q551 (argsL := []) (rest := []) (W := 0) (own_rm11W l Z a0 hw [] b297 ((0 : Int32) + (1 : Int32)) (0 : Int32) T541.heap n0 (Nat.le_trans Z0 K560.1) Q551 ge299 Q552 Q553 Q554 Q555 Q556 Q557 Q558 Q559) (by decide) (by decide) (by rw [hml]; rfl) (lenOf own_pd2 rfl) rfl (by exact Nat.le_of_eq rfl) (hb hby at_65) (by decide) (by decide) ?_
          intro T562 v562 L562 X562 hq562
          obtain ⟨rfl, N562q, K562q, Q563, Q564, Q565, Q566, Q567, Q568, Q569, Q570, Q571⟩ := hq562
          have K572 : Keep h0 T562.heap [] := K560.trans K562q (allS (Or.inr sz298) all0)
          have O573 := O561.keep K562q (allS ge299 all0)
          have N562 := Fr.app N541 N562q
          show own_Run p e below s _ _ _ (T562.setTop (mkF m 68 #[.val (.int i0), .val (.ref b297), .val (.ref b314), .val (.int (0 : Int32)), .val (.int (1 : Int32)), .val (.int (1 : Int32)), .val (.int (0 : Int32)), .unset, .unset, .unset, .unset] []))
          refine own_st (fun t k => XS.iload X562.here hx rfl (hb hby at_68) rfl k) ?_
          show own_Run p e below s _ _ _ (T562.setTop (mkF m 70 #[.val (.int i0), .val (.ref b297), .val (.ref b314), .val (.int (0 : Int32)), .val (.int (1 : Int32)), .val (.int (1 : Int32)), .val (.int (0 : Int32)), .unset, .unset, .unset, .unset] [(.int (0 : Int32))]))
          refine own_st (fun t k => XS.ifYes X562.here hx rfl (pc0 := 70) (pc' := 77) rfl (hb hby at_70) rfl ((if0 _ _).trans (teq (by decide : (0 : Int32) = (0 : Int32))).1) (by decide) (by decide) k) ?_
          show own_Run p e below s _ _ _ (T562.setTop (mkF m 77 #[.val (.int i0), .val (.ref b297), .val (.ref b314), .val (.int (0 : Int32)), .val (.int (1 : Int32)), .val (.int (1 : Int32)), .val (.int (0 : Int32)), .unset, .unset, .unset, .unset] []))
          have E574 := (Q542.keep K562q)
          have F575 := (Q543.keep K562q (ninS (Ne.symm (Nat.ne_of_lt (Nat.lt_of_lt_of_le (Nat.lt_of_lt_of_le A297.lt K302q.1) (Nat.le_of_eq g314.symm)))) nin0))
          have F576 := (Q544.keep K562q (ninS (Ne.symm (Nat.ne_of_lt (Nat.lt_of_lt_of_le (Nat.lt_of_lt_of_le A297.lt K302q.1) (Nat.le_of_eq g314.symm)))) nin0))
          have F577 := (Q545.keep K562q (ninS (Ne.symm (Nat.ne_of_lt (Nat.lt_of_lt_of_le (Nat.lt_of_lt_of_le A297.lt K302q.1) (Nat.le_of_eq g314.symm)))) nin0))
          have F578 := (Q546.keep K562q (ninS (Ne.symm (Nat.ne_of_lt (Nat.lt_of_lt_of_le (Nat.lt_of_lt_of_le A297.lt K302q.1) (Nat.le_of_eq g314.symm)))) nin0))
          have F579 := (Q547.keep K562q (ninS (Ne.symm (Nat.ne_of_lt (Nat.lt_of_lt_of_le (Nat.lt_of_lt_of_le A297.lt K302q.1) (Nat.le_of_eq g314.symm)))) nin0))
          have F580 := (Q548.keep K562q (ninS (Ne.symm (Nat.ne_of_lt (Nat.lt_of_lt_of_le (Nat.lt_of_lt_of_le A297.lt K302q.1) (Nat.le_of_eq g314.symm)))) nin0))
          have F581 := (Q549.keep K562q (ninS (Ne.symm (Nat.ne_of_lt (Nat.lt_of_lt_of_le (Nat.lt_of_lt_of_le A297.lt K302q.1) (Nat.le_of_eq g314.symm)))) nin0))
          have F582 := (Q550.keep K562q (ninS (Ne.symm (Nat.ne_of_lt (Nat.lt_of_lt_of_le (Nat.lt_of_lt_of_le A297.lt K302q.1) (Nat.le_of_eq g314.symm)))) nin0))
          exact own_tail l Z a0 hw T562 _ hx hby hml hZ hown hnm hret hlk te i0 b297 b314 (0 : Int32) (1 : Int32) (1 : Int32) (0 : Int32) (((0 : Int32) + (1 : Int32)) + (1 : Int32)) (0 : Int32) ((0 : Int32) + (1 : Int32)) (0 : Int32) h0 n0 Z0 _ (X562.more (by decide) (by decide)) rfl N562 K572 O573 S_E Q563 ge299 sz298 Q564 Q565 Q566 Q567 Q568 Q569 Q570 Q571 E574 ge316 sz315 F575 F576 F577 F578 F579 F580 F581 F582 (Ne.symm (Nat.ne_of_lt (Nat.lt_of_lt_of_le (Nat.lt_of_lt_of_le A297.lt K302q.1) (Nat.le_of_eq g314.symm)))) (by decide) (by decide) (by decide) (by decide)
        · refine own_topI hn ?_
          show own_Run p e below s _ _ _ (T319.setTop (mkF m 40 #[.val (.int i0), .val (.ref b297), .val (.ref b314), .val (.int (0 : Int32)), .val (.int (1 : Int32)), .val (.int (1 : Int32)), .unset, .unset, .unset, .unset, .unset] [(.int (1 : Int32))]))
          refine own_st (fun t k => XS.istore X319.here hx rfl (hb hby at_40) rfl (l' := #[.val (.int i0), .val (.ref b297), .val (.ref b314), .val (.int (0 : Int32)), .val (.int (1 : Int32)), .val (.int (1 : Int32)), .val (.int (1 : Int32)), .unset, .unset, .unset, .unset]) rfl k) ?_
          show own_Run p e below s _ _ _ (T319.setTop (mkF m 42 #[.val (.int i0), .val (.ref b297), .val (.ref b314), .val (.int (0 : Int32)), .val (.int (1 : Int32)), .val (.int (1 : Int32)), .val (.int (1 : Int32)), .unset, .unset, .unset, .unset] []))
          refine own_st (fun t k => XS.iloadN X319.here hx rfl (hb hby at_42) rfl k) ?_
          show own_Run p e below s _ _ _ (T319.setTop (mkF m 43 #[.val (.int i0), .val (.ref b297), .val (.ref b314), .val (.int (0 : Int32)), .val (.int (1 : Int32)), .val (.int (1 : Int32)), .val (.int (1 : Int32)), .unset, .unset, .unset, .unset] [(.int (0 : Int32))]))
          refine own_st (fun t k => XS.ifYes X319.here hx rfl (pc0 := 43) (pc' := 50) rfl (hb hby at_43) rfl ((if0 _ _).trans (teq (by decide : (0 : Int32) = (0 : Int32))).1) (by decide) (by decide) k) ?_
          show own_Run p e below s _ _ _ (T319.setTop (mkF m 50 #[.val (.int i0), .val (.ref b297), .val (.ref b314), .val (.int (0 : Int32)), .val (.int (1 : Int32)), .val (.int (1 : Int32)), .val (.int (1 : Int32)), .unset, .unset, .unset, .unset] []))
          refine own_st (fun t k => XS.iload X319.here hx rfl (hb hby at_50) rfl k) ?_
          show own_Run p e below s _ _ _ (T319.setTop (mkF m 52 #[.val (.int i0), .val (.ref b297), .val (.ref b314), .val (.int (0 : Int32)), .val (.int (1 : Int32)), .val (.int (1 : Int32)), .val (.int (1 : Int32)), .unset, .unset, .unset, .unset] [(.int (1 : Int32))]))
          refine own_st (fun t k => XS.ifNo X319.here hx rfl (hb hby at_52) rfl ((if0 _ _).trans (feq (by decide : ¬ ((1 : Int32) = (0 : Int32)))).1) k) ?_
          show own_Run p e below s _ _ _ (T319.setTop (mkF m 55 #[.val (.int i0), .val (.ref b297), .val (.ref b314), .val (.int (0 : Int32)), .val (.int (1 : Int32)), .val (.int (1 : Int32)), .val (.int (1 : Int32)), .unset, .unset, .unset, .unset] []))
          refine own_st (fun t k => XS.aloadN X319.here hx rfl (hb hby at_55) rfl rfl k) ?_
          show own_Run p e below s _ _ _ (T319.setTop (mkF m 56 #[.val (.int i0), .val (.ref b297), .val (.ref b314), .val (.int (0 : Int32)), .val (.int (1 : Int32)), .val (.int (1 : Int32)), .val (.int (1 : Int32)), .unset, .unset, .unset, .unset] [(.ref b314)]))
          have E583 := ((Q303.ext E314).keep K319q)
          have F584 := ((Q304.ext E314).keep K319q (ninS (Nat.ne_of_lt (Nat.lt_of_lt_of_le (Nat.lt_of_lt_of_le A297.lt K302q.1) (Nat.le_of_eq g314.symm))) nin0))
          have F585 := ((Q305.ext E314).keep K319q (ninS (Nat.ne_of_lt (Nat.lt_of_lt_of_le (Nat.lt_of_lt_of_le A297.lt K302q.1) (Nat.le_of_eq g314.symm))) nin0))
          have F586 := ((Q306.ext E314).keep K319q (ninS (Nat.ne_of_lt (Nat.lt_of_lt_of_le (Nat.lt_of_lt_of_le A297.lt K302q.1) (Nat.le_of_eq g314.symm))) nin0))
          have F587 := ((Q307.ext E314).keep K319q (ninS (Nat.ne_of_lt (Nat.lt_of_lt_of_le (Nat.lt_of_lt_of_le A297.lt K302q.1) (Nat.le_of_eq g314.symm))) nin0))
          have F588 := ((Q308.ext E314).keep K319q (ninS (Nat.ne_of_lt (Nat.lt_of_lt_of_le (Nat.lt_of_lt_of_le A297.lt K302q.1) (Nat.le_of_eq g314.symm))) nin0))
          have F589 := ((Q309.ext E314).keep K319q (ninS (Nat.ne_of_lt (Nat.lt_of_lt_of_le (Nat.lt_of_lt_of_le A297.lt K302q.1) (Nat.le_of_eq g314.symm))) nin0))
          have F590 := ((Q310.ext E314).keep K319q (ninS (Nat.ne_of_lt (Nat.lt_of_lt_of_le (Nat.lt_of_lt_of_le A297.lt K302q.1) (Nat.le_of_eq g314.symm))) nin0))
          have F591 := ((Q311.ext E314).keep K319q (ninS (Nat.ne_of_lt (Nat.lt_of_lt_of_le (Nat.lt_of_lt_of_le A297.lt K302q.1) (Nat.le_of_eq g314.symm))) nin0))
          refine own_callV X319 hx hZ (y := (⟨"com/example/kerb2d/kerb2d/engine/Tally", "arrive", "()V"⟩ : MethodName)) (C := "com/example/kerb2d/kerb2d/engine/Tally") hown (hw _ (List.mem_of_getElem? (i := 92) rfl)) (hw _ (List.mem_of_getElem? (i := 93) rfl)) (hw _ (List.mem_of_getElem? (i := 95) rfl)) (hw _ (List.mem_of_getElem? (i := 94) rfl)) (hw _ (List.mem_of_getElem? (i := 96) rfl)) (hw _ (List.mem_of_getElem? (i := 2) rfl)) (by decide) rfl (a := b314) Q320 (argsL := []) (rest := []) (W := 0) (own_rm11P l Z a0 hw [] b314 b297 (0 : Int32) (0 : Int32) (0 : Int32) (0 : Int32) T319.heap n0 (Nat.le_trans Z0 K329.1) Q320 ge316 Q321 Q322 Q323 Q324 Q325 Q326 Q327 Q328 E583 ge299 F584 F585 F586 F587 F588 F589 F590 F591 (Ne.symm (Nat.ne_of_lt (Nat.lt_of_lt_of_le (Nat.lt_of_lt_of_le A297.lt K302q.1) (Nat.le_of_eq g314.symm))))) (by decide) (by decide) (by rw [hml]; rfl) (lenOf own_pd2 rfl) rfl (by exact Nat.le_of_eq rfl) (hb hby at_56) (by decide) (by decide) ?_
          intro T592 v592 L592 X592 hq592
          obtain ⟨rfl, N592q, K592q, Q593, Q594, Q595, Q596, Q597, Q598, Q599, Q600, Q601, Q602, Q603, Q604, Q605, Q606, Q607, Q608, Q609, Q610⟩ := hq592
          have K611 : Keep h0 T592.heap [] := K329.trans K592q (allS (Or.inr sz315) (allS (Or.inr sz298) all0))
          have O612 := O330.keep K592q (allS ge316 (allS ge299 all0))
          have N592 := Fr.app N319 N592q
          show own_Run p e below s _ _ _ (T592.setTop (mkF m 59 #[.val (.int i0), .val (.ref b297), .val (.ref b314), .val (.int (0 : Int32)), .val (.int (1 : Int32)), .val (.int (1 : Int32)), .val (.int (1 : Int32)), .unset, .unset, .unset, .unset] []))
          refine own_st (fun t k => XS.iload X592.here hx rfl (hb hby at_59) rfl k) ?_
          show own_Run p e below s _ _ _ (T592.setTop (mkF m 61 #[.val (.int i0), .val (.ref b297), .val (.ref b314), .val (.int (0 : Int32)), .val (.int (1 : Int32)), .val (.int (1 : Int32)), .val (.int (1 : Int32)), .unset, .unset, .unset, .unset] [(.int (1 : Int32))]))
          refine own_st (fun t k => XS.ifNo X592.here hx rfl (hb hby at_61) rfl ((if0 _ _).trans (feq (by decide : ¬ ((1 : Int32) = (0 : Int32)))).1) k) ?_
          show own_Run p e below s _ _ _ (T592.setTop (mkF m 64 #[.val (.int i0), .val (.ref b297), .val (.ref b314), .val (.int (0 : Int32)), .val (.int (1 : Int32)), .val (.int (1 : Int32)), .val (.int (1 : Int32)), .unset, .unset, .unset, .unset] []))
          refine own_st (fun t k => XS.aloadN X592.here hx rfl (hb hby at_64) rfl rfl k) ?_
          show own_Run p e below s _ _ _ (T592.setTop (mkF m 65 #[.val (.int i0), .val (.ref b297), .val (.ref b314), .val (.int (0 : Int32)), .val (.int (1 : Int32)), .val (.int (1 : Int32)), .val (.int (1 : Int32)), .unset, .unset, .unset, .unset] [(.ref b297)]))
          refine own_callV X592 hx hZ (y := (⟨"com/example/kerb2d/kerb2d/engine/Tally", "arrive", "()V"⟩ : MethodName)) (C := "com/example/kerb2d/kerb2d/engine/Tally") hown (hw _ (List.mem_of_getElem? (i := 92) rfl)) (hw _ (List.mem_of_getElem? (i := 93) rfl)) (hw _ (List.mem_of_getElem? (i := 95) rfl)) (hw _ (List.mem_of_getElem? (i := 94) rfl)) (hw _ (List.mem_of_getElem? (i := 96) rfl)) (hw _ (List.mem_of_getElem? (i := 2) rfl)) (by decide) rfl (a := b297) Q602 (argsL := []) (rest := []) (W := 0) (own_rm11W l Z a0 hw [] b297 ((0 : Int32) + (1 : Int32)) (0 : Int32) T592.heap n0 (Nat.le_trans Z0 K611.1) Q602 ge299 Q603 Q604 Q605 Q606 Q607 Q608 Q609 Q610) (by decide) (by decide) (by rw [hml]; rfl) (lenOf own_pd2 rfl) rfl (by exact Nat.le_of_eq rfl) (hb hby at_65) (by decide) (by decide) ?_
          intro T613 v613 L613 X613 hq613
          obtain ⟨rfl, N613q, K613q, Q614, Q615, Q616, Q617, Q618, Q619, Q620, Q621, Q622⟩ := hq613
          have K623 : Keep h0 T613.heap [] := K611.trans K613q (allS (Or.inr sz298) all0)
          have O624 := O612.keep K613q (allS ge299 all0)
          have N613 := Fr.app N592 N613q
          show own_Run p e below s _ _ _ (T613.setTop (mkF m 68 #[.val (.int i0), .val (.ref b297), .val (.ref b314), .val (.int (0 : Int32)), .val (.int (1 : Int32)), .val (.int (1 : Int32)), .val (.int (1 : Int32)), .unset, .unset, .unset, .unset] []))
          refine own_st (fun t k => XS.iload X613.here hx rfl (hb hby at_68) rfl k) ?_
          show own_Run p e below s _ _ _ (T613.setTop (mkF m 70 #[.val (.int i0), .val (.ref b297), .val (.ref b314), .val (.int (0 : Int32)), .val (.int (1 : Int32)), .val (.int (1 : Int32)), .val (.int (1 : Int32)), .unset, .unset, .unset, .unset] [(.int (1 : Int32))]))
          refine own_st (fun t k => XS.ifNo X613.here hx rfl (hb hby at_70) rfl ((if0 _ _).trans (feq (by decide : ¬ ((1 : Int32) = (0 : Int32)))).1) k) ?_
          show own_Run p e below s _ _ _ (T613.setTop (mkF m 73 #[.val (.int i0), .val (.ref b297), .val (.ref b314), .val (.int (0 : Int32)), .val (.int (1 : Int32)), .val (.int (1 : Int32)), .val (.int (1 : Int32)), .unset, .unset, .unset, .unset] []))
          refine own_st (fun t k => XS.aloadN X613.here hx rfl (hb hby at_73) rfl rfl k) ?_
          show own_Run p e below s _ _ _ (T613.setTop (mkF m 74 #[.val (.int i0), .val (.ref b297), .val (.ref b314), .val (.int (0 : Int32)), .val (.int (1 : Int32)), .val (.int (1 : Int32)), .val (.int (1 : Int32)), .unset, .unset, .unset, .unset] [(.ref b314)]))
          have E625 := (Q593.keep K613q)
          have F626 := (Q594.keep K613q (ninS (Ne.symm (Nat.ne_of_lt (Nat.lt_of_lt_of_le (Nat.lt_of_lt_of_le A297.lt K302q.1) (Nat.le_of_eq g314.symm)))) nin0))
          have F627 := (Q595.keep K613q (ninS (Ne.symm (Nat.ne_of_lt (Nat.lt_of_lt_of_le (Nat.lt_of_lt_of_le A297.lt K302q.1) (Nat.le_of_eq g314.symm)))) nin0))
          have F628 := (Q596.keep K613q (ninS (Ne.symm (Nat.ne_of_lt (Nat.lt_of_lt_of_le (Nat.lt_of_lt_of_le A297.lt K302q.1) (Nat.le_of_eq g314.symm)))) nin0))
          have F629 := (Q597.keep K613q (ninS (Ne.symm (Nat.ne_of_lt (Nat.lt_of_lt_of_le (Nat.lt_of_lt_of_le A297.lt K302q.1) (Nat.le_of_eq g314.symm)))) nin0))
          have F630 := (Q598.keep K613q (ninS (Ne.symm (Nat.ne_of_lt (Nat.lt_of_lt_of_le (Nat.lt_of_lt_of_le A297.lt K302q.1) (Nat.le_of_eq g314.symm)))) nin0))
          have F631 := (Q599.keep K613q (ninS (Ne.symm (Nat.ne_of_lt (Nat.lt_of_lt_of_le (Nat.lt_of_lt_of_le A297.lt K302q.1) (Nat.le_of_eq g314.symm)))) nin0))
          have F632 := (Q600.keep K613q (ninS (Ne.symm (Nat.ne_of_lt (Nat.lt_of_lt_of_le (Nat.lt_of_lt_of_le A297.lt K302q.1) (Nat.le_of_eq g314.symm)))) nin0))
          have F633 := (Q601.keep K613q (ninS (Ne.symm (Nat.ne_of_lt (Nat.lt_of_lt_of_le (Nat.lt_of_lt_of_le A297.lt K302q.1) (Nat.le_of_eq g314.symm)))) nin0))
          refine own_callV X613 hx hZ (y := (⟨"com/example/kerb2d/kerb2d/engine/Tally", "arrive", "()V"⟩ : MethodName)) (C := "com/example/kerb2d/kerb2d/engine/Tally") hown (hw _ (List.mem_of_getElem? (i := 92) rfl)) (hw _ (List.mem_of_getElem? (i := 93) rfl)) (hw _ (List.mem_of_getElem? (i := 95) rfl)) (hw _ (List.mem_of_getElem? (i := 94) rfl)) (hw _ (List.mem_of_getElem? (i := 96) rfl)) (hw _ (List.mem_of_getElem? (i := 2) rfl)) (by decide) rfl (a := b314) E625 (argsL := []) (rest := []) (W := 0) (own_rm11P l Z a0 hw [] b314 b297 ((0 : Int32) + (1 : Int32)) (0 : Int32) (((0 : Int32) + (1 : Int32)) + (1 : Int32)) (0 : Int32) T613.heap n0 (Nat.le_trans Z0 K623.1) E625 ge316 F626 F627 F628 F629 F630 F631 F632 F633 Q614 ge299 Q615 Q616 Q617 Q618 Q619 Q620 Q621 Q622 (Ne.symm (Nat.ne_of_lt (Nat.lt_of_lt_of_le (Nat.lt_of_lt_of_le A297.lt K302q.1) (Nat.le_of_eq g314.symm))))) (by decide) (by decide) (by rw [hml]; rfl) (lenOf own_pd2 rfl) rfl (by exact Nat.le_of_eq rfl) (hb hby at_74) (by decide) (by decide) ?_
          intro T634 v634 L634 X634 hq634
          obtain ⟨rfl, N634q, K634q, Q635, Q636, Q637, Q638, Q639, Q640, Q641, Q642, Q643, Q644, Q645, Q646, Q647, Q648, Q649, Q650, Q651, Q652⟩ := hq634
          have K653 : Keep h0 T634.heap [] := K623.trans K634q (allS (Or.inr sz315) (allS (Or.inr sz298) all0))
          have O654 := O624.keep K634q (allS ge316 (allS ge299 all0))
          have N634 := Fr.app N613 N634q
          show own_Run p e below s _ _ _ (T634.setTop (mkF m 77 #[.val (.int i0), .val (.ref b297), .val (.ref b314), .val (.int (0 : Int32)), .val (.int (1 : Int32)), .val (.int (1 : Int32)), .val (.int (1 : Int32)), .unset, .unset, .unset, .unset] []))
          exact own_tail l Z a0 hw T634 _ hx hby hml hZ hown hnm hret hlk te i0 b297 b314 (0 : Int32) (1 : Int32) (1 : Int32) (1 : Int32) ((((0 : Int32) + (1 : Int32)) + (1 : Int32)) + (1 : Int32)) (0 : Int32) (((0 : Int32) + (1 : Int32)) + (1 : Int32)) (0 : Int32) h0 n0 Z0 _ (X634.more (by decide) (by decide)) rfl N634 K653 O654 S_E Q644 ge299 sz298 Q645 Q646 Q647 Q648 Q649 Q650 Q651 Q652 Q635 ge316 sz315 Q636 Q637 Q638 Q639 Q640 Q641 Q642 Q643 (Ne.symm (Nat.ne_of_lt (Nat.lt_of_lt_of_le (Nat.lt_of_lt_of_le A297.lt K302q.1) (Nat.le_of_eq g314.symm)))) (by decide) (by decide) (by decide) (by decide)
  · refine own_topI hn ?_
    show own_Run p e below s _ _ _ (T319.setTop (mkF m 20 #[.val (.int i0), .val (.ref b297), .val (.ref b314), .unset, .unset, .unset, .unset, .unset, .unset, .unset, .unset] [(.int (1 : Int32))]))
    refine own_st (fun t k => XS.istoreN X319.here hx rfl (hb hby at_20) rfl (l' := #[.val (.int i0), .val (.ref b297), .val (.ref b314), .val (.int (1 : Int32)), .unset, .unset, .unset, .unset, .unset, .unset, .unset]) rfl k) ?_
    show own_Run p e below s _ _ _ (T319.setTop (mkF m 21 #[.val (.int i0), .val (.ref b297), .val (.ref b314), .val (.int (1 : Int32)), .unset, .unset, .unset, .unset, .unset, .unset, .unset] []))
    refine own_st (fun t k => XS.iloadN X319.here hx rfl (hb hby at_21) rfl k) ?_
    show own_Run p e below s _ _ _ (T319.setTop (mkF m 22 #[.val (.int i0), .val (.ref b297), .val (.ref b314), .val (.int (1 : Int32)), .unset, .unset, .unset, .unset, .unset, .unset, .unset] [(.int i0)]))
    refine own_st (fun t k => XS.iconst X319.here hx rfl (hb hby at_22) k) ?_
    show own_Run p e below s _ _ _ (T319.setTop (mkF m 23 #[.val (.int i0), .val (.ref b297), .val (.ref b314), .val (.int (1 : Int32)), .unset, .unset, .unset, .unset, .unset, .unset, .unset] [(.int (1 : Int32)), (.int i0)]))
    refine own_st (fun t k => XS.iushr X319.here hx rfl (hb hby at_23) rfl k) ?_
    show own_Run p e below s _ _ _ (T319.setTop (mkF m 24 #[.val (.int i0), .val (.ref b297), .val (.ref b314), .val (.int (1 : Int32)), .unset, .unset, .unset, .unset, .unset, .unset, .unset] [(.int ((i0.toUInt32 >>> ((1 : Int32) &&& 31).toUInt32).toInt32))]))
    refine own_st (fun t k => XS.iconst X319.here hx rfl (hb hby at_24) k) ?_
    show own_Run p e below s _ _ _ (T319.setTop (mkF m 25 #[.val (.int i0), .val (.ref b297), .val (.ref b314), .val (.int (1 : Int32)), .unset, .unset, .unset, .unset, .unset, .unset, .unset] [(.int (1 : Int32)), (.int ((i0.toUInt32 >>> ((1 : Int32) &&& 31).toUInt32).toInt32))]))
    refine own_st (fun t k => XS.iand X319.here hx rfl (hb hby at_25) rfl k) ?_
    show own_Run p e below s _ _ _ (T319.setTop (mkF m 26 #[.val (.int i0), .val (.ref b297), .val (.ref b314), .val (.int (1 : Int32)), .unset, .unset, .unset, .unset, .unset, .unset, .unset] [(.int (((i0.toUInt32 >>> ((1 : Int32) &&& 31).toUInt32).toInt32) &&& (1 : Int32)))]))
    rcases and_one _ with hn | hn
    · refine own_topI hn ?_
      show own_Run p e below s _ _ _ (T319.setTop (mkF m 26 #[.val (.int i0), .val (.ref b297), .val (.ref b314), .val (.int (1 : Int32)), .unset, .unset, .unset, .unset, .unset, .unset, .unset] [(.int (0 : Int32))]))
      refine own_st (fun t k => XS.istore X319.here hx rfl (hb hby at_26) rfl (l' := #[.val (.int i0), .val (.ref b297), .val (.ref b314), .val (.int (1 : Int32)), .val (.int (0 : Int32)), .unset, .unset, .unset, .unset, .unset, .unset]) rfl k) ?_
      show own_Run p e below s _ _ _ (T319.setTop (mkF m 28 #[.val (.int i0), .val (.ref b297), .val (.ref b314), .val (.int (1 : Int32)), .val (.int (0 : Int32)), .unset, .unset, .unset, .unset, .unset, .unset] []))
      refine own_st (fun t k => XS.iloadN X319.here hx rfl (hb hby at_28) rfl k) ?_
      show own_Run p e below s _ _ _ (T319.setTop (mkF m 29 #[.val (.int i0), .val (.ref b297), .val (.ref b314), .val (.int (1 : Int32)), .val (.int (0 : Int32)), .unset, .unset, .unset, .unset, .unset, .unset] [(.int i0)]))
      refine own_st (fun t k => XS.iconst X319.here hx rfl (hb hby at_29) k) ?_
      show own_Run p e below s _ _ _ (T319.setTop (mkF m 30 #[.val (.int i0), .val (.ref b297), .val (.ref b314), .val (.int (1 : Int32)), .val (.int (0 : Int32)), .unset, .unset, .unset, .unset, .unset, .unset] [(.int (2 : Int32)), (.int i0)]))
      refine own_st (fun t k => XS.iushr X319.here hx rfl (hb hby at_30) rfl k) ?_
      show own_Run p e below s _ _ _ (T319.setTop (mkF m 31 #[.val (.int i0), .val (.ref b297), .val (.ref b314), .val (.int (1 : Int32)), .val (.int (0 : Int32)), .unset, .unset, .unset, .unset, .unset, .unset] [(.int ((i0.toUInt32 >>> ((2 : Int32) &&& 31).toUInt32).toInt32))]))
      refine own_st (fun t k => XS.iconst X319.here hx rfl (hb hby at_31) k) ?_
      show own_Run p e below s _ _ _ (T319.setTop (mkF m 32 #[.val (.int i0), .val (.ref b297), .val (.ref b314), .val (.int (1 : Int32)), .val (.int (0 : Int32)), .unset, .unset, .unset, .unset, .unset, .unset] [(.int (1 : Int32)), (.int ((i0.toUInt32 >>> ((2 : Int32) &&& 31).toUInt32).toInt32))]))
      refine own_st (fun t k => XS.iand X319.here hx rfl (hb hby at_32) rfl k) ?_
      show own_Run p e below s _ _ _ (T319.setTop (mkF m 33 #[.val (.int i0), .val (.ref b297), .val (.ref b314), .val (.int (1 : Int32)), .val (.int (0 : Int32)), .unset, .unset, .unset, .unset, .unset, .unset] [(.int (((i0.toUInt32 >>> ((2 : Int32) &&& 31).toUInt32).toInt32) &&& (1 : Int32)))]))
      rcases and_one _ with hn | hn
      · refine own_topI hn ?_
        show own_Run p e below s _ _ _ (T319.setTop (mkF m 33 #[.val (.int i0), .val (.ref b297), .val (.ref b314), .val (.int (1 : Int32)), .val (.int (0 : Int32)), .unset, .unset, .unset, .unset, .unset, .unset] [(.int (0 : Int32))]))
        refine own_st (fun t k => XS.istore X319.here hx rfl (hb hby at_33) rfl (l' := #[.val (.int i0), .val (.ref b297), .val (.ref b314), .val (.int (1 : Int32)), .val (.int (0 : Int32)), .val (.int (0 : Int32)), .unset, .unset, .unset, .unset, .unset]) rfl k) ?_
        show own_Run p e below s _ _ _ (T319.setTop (mkF m 35 #[.val (.int i0), .val (.ref b297), .val (.ref b314), .val (.int (1 : Int32)), .val (.int (0 : Int32)), .val (.int (0 : Int32)), .unset, .unset, .unset, .unset, .unset] []))
        refine own_st (fun t k => XS.iloadN X319.here hx rfl (hb hby at_35) rfl k) ?_
        show own_Run p e below s _ _ _ (T319.setTop (mkF m 36 #[.val (.int i0), .val (.ref b297), .val (.ref b314), .val (.int (1 : Int32)), .val (.int (0 : Int32)), .val (.int (0 : Int32)), .unset, .unset, .unset, .unset, .unset] [(.int i0)]))
        refine own_st (fun t k => XS.iconst X319.here hx rfl (hb hby at_36) k) ?_
        show own_Run p e below s _ _ _ (T319.setTop (mkF m 37 #[.val (.int i0), .val (.ref b297), .val (.ref b314), .val (.int (1 : Int32)), .val (.int (0 : Int32)), .val (.int (0 : Int32)), .unset, .unset, .unset, .unset, .unset] [(.int (3 : Int32)), (.int i0)]))
        refine own_st (fun t k => XS.iushr X319.here hx rfl (hb hby at_37) rfl k) ?_
        show own_Run p e below s _ _ _ (T319.setTop (mkF m 38 #[.val (.int i0), .val (.ref b297), .val (.ref b314), .val (.int (1 : Int32)), .val (.int (0 : Int32)), .val (.int (0 : Int32)), .unset, .unset, .unset, .unset, .unset] [(.int ((i0.toUInt32 >>> ((3 : Int32) &&& 31).toUInt32).toInt32))]))
        refine own_st (fun t k => XS.iconst X319.here hx rfl (hb hby at_38) k) ?_
        show own_Run p e below s _ _ _ (T319.setTop (mkF m 39 #[.val (.int i0), .val (.ref b297), .val (.ref b314), .val (.int (1 : Int32)), .val (.int (0 : Int32)), .val (.int (0 : Int32)), .unset, .unset, .unset, .unset, .unset] [(.int (1 : Int32)), (.int ((i0.toUInt32 >>> ((3 : Int32) &&& 31).toUInt32).toInt32))]))
        refine own_st (fun t k => XS.iand X319.here hx rfl (hb hby at_39) rfl k) ?_
        show own_Run p e below s _ _ _ (T319.setTop (mkF m 40 #[.val (.int i0), .val (.ref b297), .val (.ref b314), .val (.int (1 : Int32)), .val (.int (0 : Int32)), .val (.int (0 : Int32)), .unset, .unset, .unset, .unset, .unset] [(.int (((i0.toUInt32 >>> ((3 : Int32) &&& 31).toUInt32).toInt32) &&& (1 : Int32)))]))
        rcases and_one _ with hn | hn
        · refine own_topI hn ?_
          show own_Run p e below s _ _ _ (T319.setTop (mkF m 40 #[.val (.int i0), .val (.ref b297), .val (.ref b314), .val (.int (1 : Int32)), .val (.int (0 : Int32)), .val (.int (0 : Int32)), .unset, .unset, .unset, .unset, .unset] [(.int (0 : Int32))]))
          refine own_st (fun t k => XS.istore X319.here hx rfl (hb hby at_40) rfl (l' := #[.val (.int i0), .val (.ref b297), .val (.ref b314), .val (.int (1 : Int32)), .val (.int (0 : Int32)), .val (.int (0 : Int32)), .val (.int (0 : Int32)), .unset, .unset, .unset, .unset]) rfl k) ?_
          show own_Run p e below s _ _ _ (T319.setTop (mkF m 42 #[.val (.int i0), .val (.ref b297), .val (.ref b314), .val (.int (1 : Int32)), .val (.int (0 : Int32)), .val (.int (0 : Int32)), .val (.int (0 : Int32)), .unset, .unset, .unset, .unset] []))
          refine own_st (fun t k => XS.iloadN X319.here hx rfl (hb hby at_42) rfl k) ?_
          show own_Run p e below s _ _ _ (T319.setTop (mkF m 43 #[.val (.int i0), .val (.ref b297), .val (.ref b314), .val (.int (1 : Int32)), .val (.int (0 : Int32)), .val (.int (0 : Int32)), .val (.int (0 : Int32)), .unset, .unset, .unset, .unset] [(.int (1 : Int32))]))
          refine own_st (fun t k => XS.ifNo X319.here hx rfl (hb hby at_43) rfl ((if0 _ _).trans (feq (by decide : ¬ ((1 : Int32) = (0 : Int32)))).1) k) ?_
          show own_Run p e below s _ _ _ (T319.setTop (mkF m 46 #[.val (.int i0), .val (.ref b297), .val (.ref b314), .val (.int (1 : Int32)), .val (.int (0 : Int32)), .val (.int (0 : Int32)), .val (.int (0 : Int32)), .unset, .unset, .unset, .unset] []))
          refine own_st (fun t k => XS.aloadN X319.here hx rfl (hb hby at_46) rfl rfl k) ?_
          show own_Run p e below s _ _ _ (T319.setTop (mkF m 47 #[.val (.int i0), .val (.ref b297), .val (.ref b314), .val (.int (1 : Int32)), .val (.int (0 : Int32)), .val (.int (0 : Int32)), .val (.int (0 : Int32)), .unset, .unset, .unset, .unset] [(.ref b297)]))
          have E655 := ((Q303.ext E314).keep K319q)
          have F656 := ((Q304.ext E314).keep K319q (ninS (Nat.ne_of_lt (Nat.lt_of_lt_of_le (Nat.lt_of_lt_of_le A297.lt K302q.1) (Nat.le_of_eq g314.symm))) nin0))
          have F657 := ((Q305.ext E314).keep K319q (ninS (Nat.ne_of_lt (Nat.lt_of_lt_of_le (Nat.lt_of_lt_of_le A297.lt K302q.1) (Nat.le_of_eq g314.symm))) nin0))
          have F658 := ((Q306.ext E314).keep K319q (ninS (Nat.ne_of_lt (Nat.lt_of_lt_of_le (Nat.lt_of_lt_of_le A297.lt K302q.1) (Nat.le_of_eq g314.symm))) nin0))
          have F659 := ((Q307.ext E314).keep K319q (ninS (Nat.ne_of_lt (Nat.lt_of_lt_of_le (Nat.lt_of_lt_of_le A297.lt K302q.1) (Nat.le_of_eq g314.symm))) nin0))
          have F660 := ((Q308.ext E314).keep K319q (ninS (Nat.ne_of_lt (Nat.lt_of_lt_of_le (Nat.lt_of_lt_of_le A297.lt K302q.1) (Nat.le_of_eq g314.symm))) nin0))
          have F661 := ((Q309.ext E314).keep K319q (ninS (Nat.ne_of_lt (Nat.lt_of_lt_of_le (Nat.lt_of_lt_of_le A297.lt K302q.1) (Nat.le_of_eq g314.symm))) nin0))
          have F662 := ((Q310.ext E314).keep K319q (ninS (Nat.ne_of_lt (Nat.lt_of_lt_of_le (Nat.lt_of_lt_of_le A297.lt K302q.1) (Nat.le_of_eq g314.symm))) nin0))
          have F663 := ((Q311.ext E314).keep K319q (ninS (Nat.ne_of_lt (Nat.lt_of_lt_of_le (Nat.lt_of_lt_of_le A297.lt K302q.1) (Nat.le_of_eq g314.symm))) nin0))
          refine own_callV X319 hx hZ (y := (⟨"com/example/kerb2d/kerb2d/engine/Tally", "enter", "()V"⟩ : MethodName)) (C := "com/example/kerb2d/kerb2d/engine/Tally") hown (hw _ (List.mem_of_getElem? (i := 87) rfl)) (hw _ (List.mem_of_getElem? (i := 88) rfl)) (hw _ (List.mem_of_getElem? (i := 90) rfl)) (hw _ (List.mem_of_getElem? (i := 89) rfl)) (hw _ (List.mem_of_getElem? (i := 91) rfl)) (hw _ (List.mem_of_getElem? (i := 2) rfl)) (by decide) rfl (a := b297) E655 (argsL := []) (rest := []) (W := 0) (own_rm10W l Z a0 hw [] b297 (0 : Int32) (0 : Int32) T319.heap n0 (Nat.le_trans Z0 K329.1) E655 ge299 F656 F657 F658 F659 F660 F661 F662 F663) (by decide) (by decide) (by rw [hml]; rfl) (lenOf own_pd2 rfl) rfl (by exact Nat.le_of_eq rfl) (hb hby at_47) (by decide) (by decide) ?_
          intro T664 v664 L664 X664 hq664
          obtain ⟨rfl, N664q, K664q, Q665, Q666, Q667, Q668, Q669, Q670, Q671, Q672, Q673⟩ := hq664
          have K674 : Keep h0 T664.heap [] := K329.trans K664q (allS (Or.inr sz298) all0)
          have O675 := O330.keep K664q (allS ge299 all0)
          have N664 := Fr.app N319 N664q
          show own_Run p e below s _ _ _ (T664.setTop (mkF m 50 #[.val (.int i0), .val (.ref b297), .val (.ref b314), .val (.int (1 : Int32)), .val (.int (0 : Int32)), .val (.int (0 : Int32)), .val (.int (0 : Int32)), .unset, .unset, .unset, .unset] []))
          refine own_st (fun t k => XS.iload X664.here hx rfl (hb hby at_50) rfl k) ?_
          show own_Run p e below s _ _ _ (T664.setTop (mkF m 52 #[.val (.int i0), .val (.ref b297), .val (.ref b314), .val (.int (1 : Int32)), .val (.int (0 : Int32)), .val (.int (0 : Int32)), .val (.int (0 : Int32)), .unset, .unset, .unset, .unset] [(.int (0 : Int32))]))
          refine own_st (fun t k => XS.ifYes X664.here hx rfl (pc0 := 52) (pc' := 59) rfl (hb hby at_52) rfl ((if0 _ _).trans (teq (by decide : (0 : Int32) = (0 : Int32))).1) (by decide) (by decide) k) ?_
          show own_Run p e below s _ _ _ (T664.setTop (mkF m 59 #[.val (.int i0), .val (.ref b297), .val (.ref b314), .val (.int (1 : Int32)), .val (.int (0 : Int32)), .val (.int (0 : Int32)), .val (.int (0 : Int32)), .unset, .unset, .unset, .unset] []))
          refine own_st (fun t k => XS.iload X664.here hx rfl (hb hby at_59) rfl k) ?_
          show own_Run p e below s _ _ _ (T664.setTop (mkF m 61 #[.val (.int i0), .val (.ref b297), .val (.ref b314), .val (.int (1 : Int32)), .val (.int (0 : Int32)), .val (.int (0 : Int32)), .val (.int (0 : Int32)), .unset, .unset, .unset, .unset] [(.int (0 : Int32))]))
          refine own_st (fun t k => XS.ifYes X664.here hx rfl (pc0 := 61) (pc' := 68) rfl (hb hby at_61) rfl ((if0 _ _).trans (teq (by decide : (0 : Int32) = (0 : Int32))).1) (by decide) (by decide) k) ?_
          show own_Run p e below s _ _ _ (T664.setTop (mkF m 68 #[.val (.int i0), .val (.ref b297), .val (.ref b314), .val (.int (1 : Int32)), .val (.int (0 : Int32)), .val (.int (0 : Int32)), .val (.int (0 : Int32)), .unset, .unset, .unset, .unset] []))
          refine own_st (fun t k => XS.iload X664.here hx rfl (hb hby at_68) rfl k) ?_
          show own_Run p e below s _ _ _ (T664.setTop (mkF m 70 #[.val (.int i0), .val (.ref b297), .val (.ref b314), .val (.int (1 : Int32)), .val (.int (0 : Int32)), .val (.int (0 : Int32)), .val (.int (0 : Int32)), .unset, .unset, .unset, .unset] [(.int (0 : Int32))]))
          refine own_st (fun t k => XS.ifYes X664.here hx rfl (pc0 := 70) (pc' := 77) rfl (hb hby at_70) rfl ((if0 _ _).trans (teq (by decide : (0 : Int32) = (0 : Int32))).1) (by decide) (by decide) k) ?_
          show own_Run p e below s _ _ _ (T664.setTop (mkF m 77 #[.val (.int i0), .val (.ref b297), .val (.ref b314), .val (.int (1 : Int32)), .val (.int (0 : Int32)), .val (.int (0 : Int32)), .val (.int (0 : Int32)), .unset, .unset, .unset, .unset] []))
          have E676 := (Q320.keep K664q)
          have F677 := (Q321.keep K664q (ninS (Ne.symm (Nat.ne_of_lt (Nat.lt_of_lt_of_le (Nat.lt_of_lt_of_le A297.lt K302q.1) (Nat.le_of_eq g314.symm)))) nin0))
          have F678 := (Q322.keep K664q (ninS (Ne.symm (Nat.ne_of_lt (Nat.lt_of_lt_of_le (Nat.lt_of_lt_of_le A297.lt K302q.1) (Nat.le_of_eq g314.symm)))) nin0))
          have F679 := (Q323.keep K664q (ninS (Ne.symm (Nat.ne_of_lt (Nat.lt_of_lt_of_le (Nat.lt_of_lt_of_le A297.lt K302q.1) (Nat.le_of_eq g314.symm)))) nin0))
          have F680 := (Q324.keep K664q (ninS (Ne.symm (Nat.ne_of_lt (Nat.lt_of_lt_of_le (Nat.lt_of_lt_of_le A297.lt K302q.1) (Nat.le_of_eq g314.symm)))) nin0))
          have F681 := (Q325.keep K664q (ninS (Ne.symm (Nat.ne_of_lt (Nat.lt_of_lt_of_le (Nat.lt_of_lt_of_le A297.lt K302q.1) (Nat.le_of_eq g314.symm)))) nin0))
          have F682 := (Q326.keep K664q (ninS (Ne.symm (Nat.ne_of_lt (Nat.lt_of_lt_of_le (Nat.lt_of_lt_of_le A297.lt K302q.1) (Nat.le_of_eq g314.symm)))) nin0))
          have F683 := (Q327.keep K664q (ninS (Ne.symm (Nat.ne_of_lt (Nat.lt_of_lt_of_le (Nat.lt_of_lt_of_le A297.lt K302q.1) (Nat.le_of_eq g314.symm)))) nin0))
          have F684 := (Q328.keep K664q (ninS (Ne.symm (Nat.ne_of_lt (Nat.lt_of_lt_of_le (Nat.lt_of_lt_of_le A297.lt K302q.1) (Nat.le_of_eq g314.symm)))) nin0))
          exact own_tail l Z a0 hw T664 _ hx hby hml hZ hown hnm hret hlk te i0 b297 b314 (1 : Int32) (0 : Int32) (0 : Int32) (0 : Int32) (0 : Int32) ((0 : Int32) + (1 : Int32)) (0 : Int32) (0 : Int32) h0 n0 Z0 _ (X664.more (by decide) (by decide)) rfl N664 K674 O675 S_E Q665 ge299 sz298 Q666 Q667 Q668 Q669 Q670 Q671 Q672 Q673 E676 ge316 sz315 F677 F678 F679 F680 F681 F682 F683 F684 (Ne.symm (Nat.ne_of_lt (Nat.lt_of_lt_of_le (Nat.lt_of_lt_of_le A297.lt K302q.1) (Nat.le_of_eq g314.symm)))) (by decide) (by decide) (by decide) (by decide)
        · refine own_topI hn ?_
          show own_Run p e below s _ _ _ (T319.setTop (mkF m 40 #[.val (.int i0), .val (.ref b297), .val (.ref b314), .val (.int (1 : Int32)), .val (.int (0 : Int32)), .val (.int (0 : Int32)), .unset, .unset, .unset, .unset, .unset] [(.int (1 : Int32))]))
          refine own_st (fun t k => XS.istore X319.here hx rfl (hb hby at_40) rfl (l' := #[.val (.int i0), .val (.ref b297), .val (.ref b314), .val (.int (1 : Int32)), .val (.int (0 : Int32)), .val (.int (0 : Int32)), .val (.int (1 : Int32)), .unset, .unset, .unset, .unset]) rfl k) ?_
          show own_Run p e below s _ _ _ (T319.setTop (mkF m 42 #[.val (.int i0), .val (.ref b297), .val (.ref b314), .val (.int (1 : Int32)), .val (.int (0 : Int32)), .val (.int (0 : Int32)), .val (.int (1 : Int32)), .unset, .unset, .unset, .unset] []))
          refine own_st (fun t k => XS.iloadN X319.here hx rfl (hb hby at_42) rfl k) ?_
          show own_Run p e below s _ _ _ (T319.setTop (mkF m 43 #[.val (.int i0), .val (.ref b297), .val (.ref b314), .val (.int (1 : Int32)), .val (.int (0 : Int32)), .val (.int (0 : Int32)), .val (.int (1 : Int32)), .unset, .unset, .unset, .unset] [(.int (1 : Int32))]))
          refine own_st (fun t k => XS.ifNo X319.here hx rfl (hb hby at_43) rfl ((if0 _ _).trans (feq (by decide : ¬ ((1 : Int32) = (0 : Int32)))).1) k) ?_
          show own_Run p e below s _ _ _ (T319.setTop (mkF m 46 #[.val (.int i0), .val (.ref b297), .val (.ref b314), .val (.int (1 : Int32)), .val (.int (0 : Int32)), .val (.int (0 : Int32)), .val (.int (1 : Int32)), .unset, .unset, .unset, .unset] []))
          refine own_st (fun t k => XS.aloadN X319.here hx rfl (hb hby at_46) rfl rfl k) ?_
          show own_Run p e below s _ _ _ (T319.setTop (mkF m 47 #[.val (.int i0), .val (.ref b297), .val (.ref b314), .val (.int (1 : Int32)), .val (.int (0 : Int32)), .val (.int (0 : Int32)), .val (.int (1 : Int32)), .unset, .unset, .unset, .unset] [(.ref b297)]))
          have E685 := ((Q303.ext E314).keep K319q)
          have F686 := ((Q304.ext E314).keep K319q (ninS (Nat.ne_of_lt (Nat.lt_of_lt_of_le (Nat.lt_of_lt_of_le A297.lt K302q.1) (Nat.le_of_eq g314.symm))) nin0))
          have F687 := ((Q305.ext E314).keep K319q (ninS (Nat.ne_of_lt (Nat.lt_of_lt_of_le (Nat.lt_of_lt_of_le A297.lt K302q.1) (Nat.le_of_eq g314.symm))) nin0))
          have F688 := ((Q306.ext E314).keep K319q (ninS (Nat.ne_of_lt (Nat.lt_of_lt_of_le (Nat.lt_of_lt_of_le A297.lt K302q.1) (Nat.le_of_eq g314.symm))) nin0))
          have F689 := ((Q307.ext E314).keep K319q (ninS (Nat.ne_of_lt (Nat.lt_of_lt_of_le (Nat.lt_of_lt_of_le A297.lt K302q.1) (Nat.le_of_eq g314.symm))) nin0))
          have F690 := ((Q308.ext E314).keep K319q (ninS (Nat.ne_of_lt (Nat.lt_of_lt_of_le (Nat.lt_of_lt_of_le A297.lt K302q.1) (Nat.le_of_eq g314.symm))) nin0))
          have F691 := ((Q309.ext E314).keep K319q (ninS (Nat.ne_of_lt (Nat.lt_of_lt_of_le (Nat.lt_of_lt_of_le A297.lt K302q.1) (Nat.le_of_eq g314.symm))) nin0))
          have F692 := ((Q310.ext E314).keep K319q (ninS (Nat.ne_of_lt (Nat.lt_of_lt_of_le (Nat.lt_of_lt_of_le A297.lt K302q.1) (Nat.le_of_eq g314.symm))) nin0))
          have F693 := ((Q311.ext E314).keep K319q (ninS (Nat.ne_of_lt (Nat.lt_of_lt_of_le (Nat.lt_of_lt_of_le A297.lt K302q.1) (Nat.le_of_eq g314.symm))) nin0))
          refine own_callV X319 hx hZ (y := (⟨"com/example/kerb2d/kerb2d/engine/Tally", "enter", "()V"⟩ : MethodName)) (C := "com/example/kerb2d/kerb2d/engine/Tally") hown (hw _ (List.mem_of_getElem? (i := 87) rfl)) (hw _ (List.mem_of_getElem? (i := 88) rfl)) (hw _ (List.mem_of_getElem? (i := 90) rfl)) (hw _ (List.mem_of_getElem? (i := 89) rfl)) (hw _ (List.mem_of_getElem? (i := 91) rfl)) (hw _ (List.mem_of_getElem? (i := 2) rfl)) (by decide) rfl (a := b297) E685 (argsL := []) (rest := []) (W := 0) (own_rm10W l Z a0 hw [] b297 (0 : Int32) (0 : Int32) T319.heap n0 (Nat.le_trans Z0 K329.1) E685 ge299 F686 F687 F688 F689 F690 F691 F692 F693) (by decide) (by decide) (by rw [hml]; rfl) (lenOf own_pd2 rfl) rfl (by exact Nat.le_of_eq rfl) (hb hby at_47) (by decide) (by decide) ?_
          intro T694 v694 L694 X694 hq694
          obtain ⟨rfl, N694q, K694q, Q695, Q696, Q697, Q698, Q699, Q700, Q701, Q702, Q703⟩ := hq694
          have K704 : Keep h0 T694.heap [] := K329.trans K694q (allS (Or.inr sz298) all0)
          have O705 := O330.keep K694q (allS ge299 all0)
          have N694 := Fr.app N319 N694q
          show own_Run p e below s _ _ _ (T694.setTop (mkF m 50 #[.val (.int i0), .val (.ref b297), .val (.ref b314), .val (.int (1 : Int32)), .val (.int (0 : Int32)), .val (.int (0 : Int32)), .val (.int (1 : Int32)), .unset, .unset, .unset, .unset] []))
          refine own_st (fun t k => XS.iload X694.here hx rfl (hb hby at_50) rfl k) ?_
          show own_Run p e below s _ _ _ (T694.setTop (mkF m 52 #[.val (.int i0), .val (.ref b297), .val (.ref b314), .val (.int (1 : Int32)), .val (.int (0 : Int32)), .val (.int (0 : Int32)), .val (.int (1 : Int32)), .unset, .unset, .unset, .unset] [(.int (0 : Int32))]))
          refine own_st (fun t k => XS.ifYes X694.here hx rfl (pc0 := 52) (pc' := 59) rfl (hb hby at_52) rfl ((if0 _ _).trans (teq (by decide : (0 : Int32) = (0 : Int32))).1) (by decide) (by decide) k) ?_
          show own_Run p e below s _ _ _ (T694.setTop (mkF m 59 #[.val (.int i0), .val (.ref b297), .val (.ref b314), .val (.int (1 : Int32)), .val (.int (0 : Int32)), .val (.int (0 : Int32)), .val (.int (1 : Int32)), .unset, .unset, .unset, .unset] []))
          refine own_st (fun t k => XS.iload X694.here hx rfl (hb hby at_59) rfl k) ?_
          show own_Run p e below s _ _ _ (T694.setTop (mkF m 61 #[.val (.int i0), .val (.ref b297), .val (.ref b314), .val (.int (1 : Int32)), .val (.int (0 : Int32)), .val (.int (0 : Int32)), .val (.int (1 : Int32)), .unset, .unset, .unset, .unset] [(.int (0 : Int32))]))
          refine own_st (fun t k => XS.ifYes X694.here hx rfl (pc0 := 61) (pc' := 68) rfl (hb hby at_61) rfl ((if0 _ _).trans (teq (by decide : (0 : Int32) = (0 : Int32))).1) (by decide) (by decide) k) ?_
          show own_Run p e below s _ _ _ (T694.setTop (mkF m 68 #[.val (.int i0), .val (.ref b297), .val (.ref b314), .val (.int (1 : Int32)), .val (.int (0 : Int32)), .val (.int (0 : Int32)), .val (.int (1 : Int32)), .unset, .unset, .unset, .unset] []))
          refine own_st (fun t k => XS.iload X694.here hx rfl (hb hby at_68) rfl k) ?_
          show own_Run p e below s _ _ _ (T694.setTop (mkF m 70 #[.val (.int i0), .val (.ref b297), .val (.ref b314), .val (.int (1 : Int32)), .val (.int (0 : Int32)), .val (.int (0 : Int32)), .val (.int (1 : Int32)), .unset, .unset, .unset, .unset] [(.int (1 : Int32))]))
          refine own_st (fun t k => XS.ifNo X694.here hx rfl (hb hby at_70) rfl ((if0 _ _).trans (feq (by decide : ¬ ((1 : Int32) = (0 : Int32)))).1) k) ?_
          show own_Run p e below s _ _ _ (T694.setTop (mkF m 73 #[.val (.int i0), .val (.ref b297), .val (.ref b314), .val (.int (1 : Int32)), .val (.int (0 : Int32)), .val (.int (0 : Int32)), .val (.int (1 : Int32)), .unset, .unset, .unset, .unset] []))
          refine own_st (fun t k => XS.aloadN X694.here hx rfl (hb hby at_73) rfl rfl k) ?_
          show own_Run p e below s _ _ _ (T694.setTop (mkF m 74 #[.val (.int i0), .val (.ref b297), .val (.ref b314), .val (.int (1 : Int32)), .val (.int (0 : Int32)), .val (.int (0 : Int32)), .val (.int (1 : Int32)), .unset, .unset, .unset, .unset] [(.ref b314)]))
          have E706 := (Q320.keep K694q)
          have F707 := (Q321.keep K694q (ninS (Ne.symm (Nat.ne_of_lt (Nat.lt_of_lt_of_le (Nat.lt_of_lt_of_le A297.lt K302q.1) (Nat.le_of_eq g314.symm)))) nin0))
          have F708 := (Q322.keep K694q (ninS (Ne.symm (Nat.ne_of_lt (Nat.lt_of_lt_of_le (Nat.lt_of_lt_of_le A297.lt K302q.1) (Nat.le_of_eq g314.symm)))) nin0))
          have F709 := (Q323.keep K694q (ninS (Ne.symm (Nat.ne_of_lt (Nat.lt_of_lt_of_le (Nat.lt_of_lt_of_le A297.lt K302q.1) (Nat.le_of_eq g314.symm)))) nin0))
          have F710 := (Q324.keep K694q (ninS (Ne.symm (Nat.ne_of_lt (Nat.lt_of_lt_of_le (Nat.lt_of_lt_of_le A297.lt K302q.1) (Nat.le_of_eq g314.symm)))) nin0))
          have F711 := (Q325.keep K694q (ninS (Ne.symm (Nat.ne_of_lt (Nat.lt_of_lt_of_le (Nat.lt_of_lt_of_le A297.lt K302q.1) (Nat.le_of_eq g314.symm)))) nin0))
          have F712 := (Q326.keep K694q (ninS (Ne.symm (Nat.ne_of_lt (Nat.lt_of_lt_of_le (Nat.lt_of_lt_of_le A297.lt K302q.1) (Nat.le_of_eq g314.symm)))) nin0))
          have F713 := (Q327.keep K694q (ninS (Ne.symm (Nat.ne_of_lt (Nat.lt_of_lt_of_le (Nat.lt_of_lt_of_le A297.lt K302q.1) (Nat.le_of_eq g314.symm)))) nin0))
          have F714 := (Q328.keep K694q (ninS (Ne.symm (Nat.ne_of_lt (Nat.lt_of_lt_of_le (Nat.lt_of_lt_of_le A297.lt K302q.1) (Nat.le_of_eq g314.symm)))) nin0))
          refine own_callV X694 hx hZ (y := (⟨"com/example/kerb2d/kerb2d/engine/Tally", "arrive", "()V"⟩ : MethodName)) (C := "com/example/kerb2d/kerb2d/engine/Tally") hown (hw _ (List.mem_of_getElem? (i := 92) rfl)) (hw _ (List.mem_of_getElem? (i := 93) rfl)) (hw _ (List.mem_of_getElem? (i := 95) rfl)) (hw _ (List.mem_of_getElem? (i := 94) rfl)) (hw _ (List.mem_of_getElem? (i := 96) rfl)) (hw _ (List.mem_of_getElem? (i := 2) rfl)) (by decide) rfl (a := b314) E706 (argsL := []) (rest := []) (W := 0) (own_rm11P l Z a0 hw [] b314 b297 (0 : Int32) (0 : Int32) (0 : Int32) ((0 : Int32) + (1 : Int32)) T694.heap n0 (Nat.le_trans Z0 K704.1) E706 ge316 F707 F708 F709 F710 F711 F712 F713 F714 Q695 ge299 Q696 Q697 Q698 Q699 Q700 Q701 Q702 Q703 (Ne.symm (Nat.ne_of_lt (Nat.lt_of_lt_of_le (Nat.lt_of_lt_of_le A297.lt K302q.1) (Nat.le_of_eq g314.symm))))) (by decide) (by decide) (by rw [hml]; rfl) (lenOf own_pd2 rfl) rfl (by exact Nat.le_of_eq rfl) (hb hby at_74) (by decide) (by decide) ?_
          intro T715 v715 L715 X715 hq715
          obtain ⟨rfl, N715q, K715q, Q716, Q717, Q718, Q719, Q720, Q721, Q722, Q723, Q724, Q725, Q726, Q727, Q728, Q729, Q730, Q731, Q732, Q733⟩ := hq715
          have K734 : Keep h0 T715.heap [] := K704.trans K715q (allS (Or.inr sz315) (allS (Or.inr sz298) all0))
          have O735 := O705.keep K715q (allS ge316 (allS ge299 all0))
          have N715 := Fr.app N694 N715q
          show own_Run p e below s _ _ _ (T715.setTop (mkF m 77 #[.val (.int i0), .val (.ref b297), .val (.ref b314), .val (.int (1 : Int32)), .val (.int (0 : Int32)), .val (.int (0 : Int32)), .val (.int (1 : Int32)), .unset, .unset, .unset, .unset] []))
          exact own_tail l Z a0 hw T715 _ hx hby hml hZ hown hnm hret hlk te i0 b297 b314 (1 : Int32) (0 : Int32) (0 : Int32) (1 : Int32) ((0 : Int32) + (1 : Int32)) ((0 : Int32) + (1 : Int32)) ((0 : Int32) + (1 : Int32)) (0 : Int32) h0 n0 Z0 _ (X715.more (by decide) (by decide)) rfl N715 K734 O735 S_E Q725 ge299 sz298 Q726 Q727 Q728 Q729 Q730 Q731 Q732 Q733 Q716 ge316 sz315 Q717 Q718 Q719 Q720 Q721 Q722 Q723 Q724 (Ne.symm (Nat.ne_of_lt (Nat.lt_of_lt_of_le (Nat.lt_of_lt_of_le A297.lt K302q.1) (Nat.le_of_eq g314.symm)))) (by decide) (by decide) (by decide) (by decide)
      · refine own_topI hn ?_
        show own_Run p e below s _ _ _ (T319.setTop (mkF m 33 #[.val (.int i0), .val (.ref b297), .val (.ref b314), .val (.int (1 : Int32)), .val (.int (0 : Int32)), .unset, .unset, .unset, .unset, .unset, .unset] [(.int (1 : Int32))]))
        refine own_st (fun t k => XS.istore X319.here hx rfl (hb hby at_33) rfl (l' := #[.val (.int i0), .val (.ref b297), .val (.ref b314), .val (.int (1 : Int32)), .val (.int (0 : Int32)), .val (.int (1 : Int32)), .unset, .unset, .unset, .unset, .unset]) rfl k) ?_
        show own_Run p e below s _ _ _ (T319.setTop (mkF m 35 #[.val (.int i0), .val (.ref b297), .val (.ref b314), .val (.int (1 : Int32)), .val (.int (0 : Int32)), .val (.int (1 : Int32)), .unset, .unset, .unset, .unset, .unset] []))
        refine own_st (fun t k => XS.iloadN X319.here hx rfl (hb hby at_35) rfl k) ?_
        show own_Run p e below s _ _ _ (T319.setTop (mkF m 36 #[.val (.int i0), .val (.ref b297), .val (.ref b314), .val (.int (1 : Int32)), .val (.int (0 : Int32)), .val (.int (1 : Int32)), .unset, .unset, .unset, .unset, .unset] [(.int i0)]))
        refine own_st (fun t k => XS.iconst X319.here hx rfl (hb hby at_36) k) ?_
        show own_Run p e below s _ _ _ (T319.setTop (mkF m 37 #[.val (.int i0), .val (.ref b297), .val (.ref b314), .val (.int (1 : Int32)), .val (.int (0 : Int32)), .val (.int (1 : Int32)), .unset, .unset, .unset, .unset, .unset] [(.int (3 : Int32)), (.int i0)]))
        refine own_st (fun t k => XS.iushr X319.here hx rfl (hb hby at_37) rfl k) ?_
        show own_Run p e below s _ _ _ (T319.setTop (mkF m 38 #[.val (.int i0), .val (.ref b297), .val (.ref b314), .val (.int (1 : Int32)), .val (.int (0 : Int32)), .val (.int (1 : Int32)), .unset, .unset, .unset, .unset, .unset] [(.int ((i0.toUInt32 >>> ((3 : Int32) &&& 31).toUInt32).toInt32))]))
        refine own_st (fun t k => XS.iconst X319.here hx rfl (hb hby at_38) k) ?_
        show own_Run p e below s _ _ _ (T319.setTop (mkF m 39 #[.val (.int i0), .val (.ref b297), .val (.ref b314), .val (.int (1 : Int32)), .val (.int (0 : Int32)), .val (.int (1 : Int32)), .unset, .unset, .unset, .unset, .unset] [(.int (1 : Int32)), (.int ((i0.toUInt32 >>> ((3 : Int32) &&& 31).toUInt32).toInt32))]))
        refine own_st (fun t k => XS.iand X319.here hx rfl (hb hby at_39) rfl k) ?_
        show own_Run p e below s _ _ _ (T319.setTop (mkF m 40 #[.val (.int i0), .val (.ref b297), .val (.ref b314), .val (.int (1 : Int32)), .val (.int (0 : Int32)), .val (.int (1 : Int32)), .unset, .unset, .unset, .unset, .unset] [(.int (((i0.toUInt32 >>> ((3 : Int32) &&& 31).toUInt32).toInt32) &&& (1 : Int32)))]))
        rcases and_one _ with hn | hn
        · refine own_topI hn ?_
          show own_Run p e below s _ _ _ (T319.setTop (mkF m 40 #[.val (.int i0), .val (.ref b297), .val (.ref b314), .val (.int (1 : Int32)), .val (.int (0 : Int32)), .val (.int (1 : Int32)), .unset, .unset, .unset, .unset, .unset] [(.int (0 : Int32))]))
          refine own_st (fun t k => XS.istore X319.here hx rfl (hb hby at_40) rfl (l' := #[.val (.int i0), .val (.ref b297), .val (.ref b314), .val (.int (1 : Int32)), .val (.int (0 : Int32)), .val (.int (1 : Int32)), .val (.int (0 : Int32)), .unset, .unset, .unset, .unset]) rfl k) ?_
          show own_Run p e below s _ _ _ (T319.setTop (mkF m 42 #[.val (.int i0), .val (.ref b297), .val (.ref b314), .val (.int (1 : Int32)), .val (.int (0 : Int32)), .val (.int (1 : Int32)), .val (.int (0 : Int32)), .unset, .unset, .unset, .unset] []))
          refine own_st (fun t k => XS.iloadN X319.here hx rfl (hb hby at_42) rfl k) ?_
          show own_Run p e below s _ _ _ (T319.setTop (mkF m 43 #[.val (.int i0), .val (.ref b297), .val (.ref b314), .val (.int (1 : Int32)), .val (.int (0 : Int32)), .val (.int (1 : Int32)), .val (.int (0 : Int32)), .unset, .unset, .unset, .unset] [(.int (1 : Int32))]))
          refine own_st (fun t k => XS.ifNo X319.here hx rfl (hb hby at_43) rfl ((if0 _ _).trans (feq (by decide : ¬ ((1 : Int32) = (0 : Int32)))).1) k) ?_
          show own_Run p e below s _ _ _ (T319.setTop (mkF m 46 #[.val (.int i0), .val (.ref b297), .val (.ref b314), .val (.int (1 : Int32)), .val (.int (0 : Int32)), .val (.int (1 : Int32)), .val (.int (0 : Int32)), .unset, .unset, .unset, .unset] []))
          refine own_st (fun t k => XS.aloadN X319.here hx rfl (hb hby at_46) rfl rfl k) ?_
          show own_Run p e below s _ _ _ (T319.setTop (mkF m 47 #[.val (.int i0), .val (.ref b297), .val (.ref b314), .val (.int (1 : Int32)), .val (.int (0 : Int32)), .val (.int (1 : Int32)), .val (.int (0 : Int32)), .unset, .unset, .unset, .unset] [(.ref b297)]))
          have E736 := ((Q303.ext E314).keep K319q)
          have F737 := ((Q304.ext E314).keep K319q (ninS (Nat.ne_of_lt (Nat.lt_of_lt_of_le (Nat.lt_of_lt_of_le A297.lt K302q.1) (Nat.le_of_eq g314.symm))) nin0))
          have F738 := ((Q305.ext E314).keep K319q (ninS (Nat.ne_of_lt (Nat.lt_of_lt_of_le (Nat.lt_of_lt_of_le A297.lt K302q.1) (Nat.le_of_eq g314.symm))) nin0))
          have F739 := ((Q306.ext E314).keep K319q (ninS (Nat.ne_of_lt (Nat.lt_of_lt_of_le (Nat.lt_of_lt_of_le A297.lt K302q.1) (Nat.le_of_eq g314.symm))) nin0))
          have F740 := ((Q307.ext E314).keep K319q (ninS (Nat.ne_of_lt (Nat.lt_of_lt_of_le (Nat.lt_of_lt_of_le A297.lt K302q.1) (Nat.le_of_eq g314.symm))) nin0))
          have F741 := ((Q308.ext E314).keep K319q (ninS (Nat.ne_of_lt (Nat.lt_of_lt_of_le (Nat.lt_of_lt_of_le A297.lt K302q.1) (Nat.le_of_eq g314.symm))) nin0))
          have F742 := ((Q309.ext E314).keep K319q (ninS (Nat.ne_of_lt (Nat.lt_of_lt_of_le (Nat.lt_of_lt_of_le A297.lt K302q.1) (Nat.le_of_eq g314.symm))) nin0))
          have F743 := ((Q310.ext E314).keep K319q (ninS (Nat.ne_of_lt (Nat.lt_of_lt_of_le (Nat.lt_of_lt_of_le A297.lt K302q.1) (Nat.le_of_eq g314.symm))) nin0))
          have F744 := ((Q311.ext E314).keep K319q (ninS (Nat.ne_of_lt (Nat.lt_of_lt_of_le (Nat.lt_of_lt_of_le A297.lt K302q.1) (Nat.le_of_eq g314.symm))) nin0))
          refine own_callV X319 hx hZ (y := (⟨"com/example/kerb2d/kerb2d/engine/Tally", "enter", "()V"⟩ : MethodName)) (C := "com/example/kerb2d/kerb2d/engine/Tally") hown (hw _ (List.mem_of_getElem? (i := 87) rfl)) (hw _ (List.mem_of_getElem? (i := 88) rfl)) (hw _ (List.mem_of_getElem? (i := 90) rfl)) (hw _ (List.mem_of_getElem? (i := 89) rfl)) (hw _ (List.mem_of_getElem? (i := 91) rfl)) (hw _ (List.mem_of_getElem? (i := 2) rfl)) (by decide) rfl (a := b297) E736 (argsL := []) (rest := []) (W := 0) (own_rm10W l Z a0 hw [] b297 (0 : Int32) (0 : Int32) T319.heap n0 (Nat.le_trans Z0 K329.1) E736 ge299 F737 F738 F739 F740 F741 F742 F743 F744) (by decide) (by decide) (by rw [hml]; rfl) (lenOf own_pd2 rfl) rfl (by exact Nat.le_of_eq rfl) (hb hby at_47) (by decide) (by decide) ?_
          intro T745 v745 L745 X745 hq745
          obtain ⟨rfl, N745q, K745q, Q746, Q747, Q748, Q749, Q750, Q751, Q752, Q753, Q754⟩ := hq745
          have K755 : Keep h0 T745.heap [] := K329.trans K745q (allS (Or.inr sz298) all0)
          have O756 := O330.keep K745q (allS ge299 all0)
          have N745 := Fr.app N319 N745q
          show own_Run p e below s _ _ _ (T745.setTop (mkF m 50 #[.val (.int i0), .val (.ref b297), .val (.ref b314), .val (.int (1 : Int32)), .val (.int (0 : Int32)), .val (.int (1 : Int32)), .val (.int (0 : Int32)), .unset, .unset, .unset, .unset] []))
          refine own_st (fun t k => XS.iload X745.here hx rfl (hb hby at_50) rfl k) ?_
          show own_Run p e below s _ _ _ (T745.setTop (mkF m 52 #[.val (.int i0), .val (.ref b297), .val (.ref b314), .val (.int (1 : Int32)), .val (.int (0 : Int32)), .val (.int (1 : Int32)), .val (.int (0 : Int32)), .unset, .unset, .unset, .unset] [(.int (0 : Int32))]))
          refine own_st (fun t k => XS.ifYes X745.here hx rfl (pc0 := 52) (pc' := 59) rfl (hb hby at_52) rfl ((if0 _ _).trans (teq (by decide : (0 : Int32) = (0 : Int32))).1) (by decide) (by decide) k) ?_
          show own_Run p e below s _ _ _ (T745.setTop (mkF m 59 #[.val (.int i0), .val (.ref b297), .val (.ref b314), .val (.int (1 : Int32)), .val (.int (0 : Int32)), .val (.int (1 : Int32)), .val (.int (0 : Int32)), .unset, .unset, .unset, .unset] []))
          refine own_st (fun t k => XS.iload X745.here hx rfl (hb hby at_59) rfl k) ?_
          show own_Run p e below s _ _ _ (T745.setTop (mkF m 61 #[.val (.int i0), .val (.ref b297), .val (.ref b314), .val (.int (1 : Int32)), .val (.int (0 : Int32)), .val (.int (1 : Int32)), .val (.int (0 : Int32)), .unset, .unset, .unset, .unset] [(.int (1 : Int32))]))
          refine own_st (fun t k => XS.ifNo X745.here hx rfl (hb hby at_61) rfl ((if0 _ _).trans (feq (by decide : ¬ ((1 : Int32) = (0 : Int32)))).1) k) ?_
          show own_Run p e below s _ _ _ (T745.setTop (mkF m 64 #[.val (.int i0), .val (.ref b297), .val (.ref b314), .val (.int (1 : Int32)), .val (.int (0 : Int32)), .val (.int (1 : Int32)), .val (.int (0 : Int32)), .unset, .unset, .unset, .unset] []))
          refine own_st (fun t k => XS.aloadN X745.here hx rfl (hb hby at_64) rfl rfl k) ?_
          show own_Run p e below s _ _ _ (T745.setTop (mkF m 65 #[.val (.int i0), .val (.ref b297), .val (.ref b314), .val (.int (1 : Int32)), .val (.int (0 : Int32)), .val (.int (1 : Int32)), .val (.int (0 : Int32)), .unset, .unset, .unset, .unset] [(.ref b297)]))
          refine own_callV X745 hx hZ (y := (⟨"com/example/kerb2d/kerb2d/engine/Tally", "arrive", "()V"⟩ : MethodName)) (C := "com/example/kerb2d/kerb2d/engine/Tally") hown (hw _ (List.mem_of_getElem? (i := 92) rfl)) (hw _ (List.mem_of_getElem? (i := 93) rfl)) (hw _ (List.mem_of_getElem? (i := 95) rfl)) (hw _ (List.mem_of_getElem? (i := 94) rfl)) (hw _ (List.mem_of_getElem? (i := 96) rfl)) (hw _ (List.mem_of_getElem? (i := 2) rfl)) (by decide) rfl (a := b297) Q746 (argsL := []) (rest := []) (W := 0) (own_rm11W l Z a0 hw [] b297 (0 : Int32) ((0 : Int32) + (1 : Int32)) T745.heap n0 (Nat.le_trans Z0 K755.1) Q746 ge299 Q747 Q748 Q749 Q750 Q751 Q752 Q753 Q754) (by decide) (by decide) (by rw [hml]; rfl) (lenOf own_pd2 rfl) rfl (by exact Nat.le_of_eq rfl) (hb hby at_65) (by decide) (by decide) ?_
          intro T757 v757 L757 X757 hq757
          obtain ⟨rfl, N757q, K757q, Q758, Q759, Q760, Q761, Q762, Q763, Q764, Q765, Q766⟩ := hq757
          have K767 : Keep h0 T757.heap [] := K755.trans K757q (allS (Or.inr sz298) all0)
          have O768 := O756.keep K757q (allS ge299 all0)
          have N757 := Fr.app N745 N757q
          show own_Run p e below s _ _ _ (T757.setTop (mkF m 68 #[.val (.int i0), .val (.ref b297), .val (.ref b314), .val (.int (1 : Int32)), .val (.int (0 : Int32)), .val (.int (1 : Int32)), .val (.int (0 : Int32)), .unset, .unset, .unset, .unset] []))
          refine own_st (fun t k => XS.iload X757.here hx rfl (hb hby at_68) rfl k) ?_
          show own_Run p e below s _ _ _ (T757.setTop (mkF m 70 #[.val (.int i0), .val (.ref b297), .val (.ref b314), .val (.int (1 : Int32)), .val (.int (0 : Int32)), .val (.int (1 : Int32)), .val (.int (0 : Int32)), .unset, .unset, .unset, .unset] [(.int (0 : Int32))]))
          refine own_st (fun t k => XS.ifYes X757.here hx rfl (pc0 := 70) (pc' := 77) rfl (hb hby at_70) rfl ((if0 _ _).trans (teq (by decide : (0 : Int32) = (0 : Int32))).1) (by decide) (by decide) k) ?_
          show own_Run p e below s _ _ _ (T757.setTop (mkF m 77 #[.val (.int i0), .val (.ref b297), .val (.ref b314), .val (.int (1 : Int32)), .val (.int (0 : Int32)), .val (.int (1 : Int32)), .val (.int (0 : Int32)), .unset, .unset, .unset, .unset] []))
          have E769 := ((Q320.keep K745q).keep K757q)
          have F770 := ((Q321.keep K745q (ninS (Ne.symm (Nat.ne_of_lt (Nat.lt_of_lt_of_le (Nat.lt_of_lt_of_le A297.lt K302q.1) (Nat.le_of_eq g314.symm)))) nin0)).keep K757q (ninS (Ne.symm (Nat.ne_of_lt (Nat.lt_of_lt_of_le (Nat.lt_of_lt_of_le A297.lt K302q.1) (Nat.le_of_eq g314.symm)))) nin0))
          have F771 := ((Q322.keep K745q (ninS (Ne.symm (Nat.ne_of_lt (Nat.lt_of_lt_of_le (Nat.lt_of_lt_of_le A297.lt K302q.1) (Nat.le_of_eq g314.symm)))) nin0)).keep K757q (ninS (Ne.symm (Nat.ne_of_lt (Nat.lt_of_lt_of_le (Nat.lt_of_lt_of_le A297.lt K302q.1) (Nat.le_of_eq g314.symm)))) nin0))
          have F772 := ((Q323.keep K745q (ninS (Ne.symm (Nat.ne_of_lt (Nat.lt_of_lt_of_le (Nat.lt_of_lt_of_le A297.lt K302q.1) (Nat.le_of_eq g314.symm)))) nin0)).keep K757q (ninS (Ne.symm (Nat.ne_of_lt (Nat.lt_of_lt_of_le (Nat.lt_of_lt_of_le A297.lt K302q.1) (Nat.le_of_eq g314.symm)))) nin0))
          have F773 := ((Q324.keep K745q (ninS (Ne.symm (Nat.ne_of_lt (Nat.lt_of_lt_of_le (Nat.lt_of_lt_of_le A297.lt K302q.1) (Nat.le_of_eq g314.symm)))) nin0)).keep K757q (ninS (Ne.symm (Nat.ne_of_lt (Nat.lt_of_lt_of_le (Nat.lt_of_lt_of_le A297.lt K302q.1) (Nat.le_of_eq g314.symm)))) nin0))
          have F774 := ((Q325.keep K745q (ninS (Ne.symm (Nat.ne_of_lt (Nat.lt_of_lt_of_le (Nat.lt_of_lt_of_le A297.lt K302q.1) (Nat.le_of_eq g314.symm)))) nin0)).keep K757q (ninS (Ne.symm (Nat.ne_of_lt (Nat.lt_of_lt_of_le (Nat.lt_of_lt_of_le A297.lt K302q.1) (Nat.le_of_eq g314.symm)))) nin0))
          have F775 := ((Q326.keep K745q (ninS (Ne.symm (Nat.ne_of_lt (Nat.lt_of_lt_of_le (Nat.lt_of_lt_of_le A297.lt K302q.1) (Nat.le_of_eq g314.symm)))) nin0)).keep K757q (ninS (Ne.symm (Nat.ne_of_lt (Nat.lt_of_lt_of_le (Nat.lt_of_lt_of_le A297.lt K302q.1) (Nat.le_of_eq g314.symm)))) nin0))
          have F776 := ((Q327.keep K745q (ninS (Ne.symm (Nat.ne_of_lt (Nat.lt_of_lt_of_le (Nat.lt_of_lt_of_le A297.lt K302q.1) (Nat.le_of_eq g314.symm)))) nin0)).keep K757q (ninS (Ne.symm (Nat.ne_of_lt (Nat.lt_of_lt_of_le (Nat.lt_of_lt_of_le A297.lt K302q.1) (Nat.le_of_eq g314.symm)))) nin0))
          have F777 := ((Q328.keep K745q (ninS (Ne.symm (Nat.ne_of_lt (Nat.lt_of_lt_of_le (Nat.lt_of_lt_of_le A297.lt K302q.1) (Nat.le_of_eq g314.symm)))) nin0)).keep K757q (ninS (Ne.symm (Nat.ne_of_lt (Nat.lt_of_lt_of_le (Nat.lt_of_lt_of_le A297.lt K302q.1) (Nat.le_of_eq g314.symm)))) nin0))
          exact own_tail l Z a0 hw T757 _ hx hby hml hZ hown hnm hret hlk te i0 b297 b314 (1 : Int32) (0 : Int32) (1 : Int32) (0 : Int32) ((0 : Int32) + (1 : Int32)) ((0 : Int32) + (1 : Int32)) (0 : Int32) (0 : Int32) h0 n0 Z0 _ (X757.more (by decide) (by decide)) rfl N757 K767 O768 S_E Q758 ge299 sz298 Q759 Q760 Q761 Q762 Q763 Q764 Q765 Q766 E769 ge316 sz315 F770 F771 F772 F773 F774 F775 F776 F777 (Ne.symm (Nat.ne_of_lt (Nat.lt_of_lt_of_le (Nat.lt_of_lt_of_le A297.lt K302q.1) (Nat.le_of_eq g314.symm)))) (by decide) (by decide) (by decide) (by decide)
        · refine own_topI hn ?_
          show own_Run p e below s _ _ _ (T319.setTop (mkF m 40 #[.val (.int i0), .val (.ref b297), .val (.ref b314), .val (.int (1 : Int32)), .val (.int (0 : Int32)), .val (.int (1 : Int32)), .unset, .unset, .unset, .unset, .unset] [(.int (1 : Int32))]))
          refine own_st (fun t k => XS.istore X319.here hx rfl (hb hby at_40) rfl (l' := #[.val (.int i0), .val (.ref b297), .val (.ref b314), .val (.int (1 : Int32)), .val (.int (0 : Int32)), .val (.int (1 : Int32)), .val (.int (1 : Int32)), .unset, .unset, .unset, .unset]) rfl k) ?_
          show own_Run p e below s _ _ _ (T319.setTop (mkF m 42 #[.val (.int i0), .val (.ref b297), .val (.ref b314), .val (.int (1 : Int32)), .val (.int (0 : Int32)), .val (.int (1 : Int32)), .val (.int (1 : Int32)), .unset, .unset, .unset, .unset] []))
          refine own_st (fun t k => XS.iloadN X319.here hx rfl (hb hby at_42) rfl k) ?_
          show own_Run p e below s _ _ _ (T319.setTop (mkF m 43 #[.val (.int i0), .val (.ref b297), .val (.ref b314), .val (.int (1 : Int32)), .val (.int (0 : Int32)), .val (.int (1 : Int32)), .val (.int (1 : Int32)), .unset, .unset, .unset, .unset] [(.int (1 : Int32))]))
          refine own_st (fun t k => XS.ifNo X319.here hx rfl (hb hby at_43) rfl ((if0 _ _).trans (feq (by decide : ¬ ((1 : Int32) = (0 : Int32)))).1) k) ?_
          show own_Run p e below s _ _ _ (T319.setTop (mkF m 46 #[.val (.int i0), .val (.ref b297), .val (.ref b314), .val (.int (1 : Int32)), .val (.int (0 : Int32)), .val (.int (1 : Int32)), .val (.int (1 : Int32)), .unset, .unset, .unset, .unset] []))
          refine own_st (fun t k => XS.aloadN X319.here hx rfl (hb hby at_46) rfl rfl k) ?_
          show own_Run p e below s _ _ _ (T319.setTop (mkF m 47 #[.val (.int i0), .val (.ref b297), .val (.ref b314), .val (.int (1 : Int32)), .val (.int (0 : Int32)), .val (.int (1 : Int32)), .val (.int (1 : Int32)), .unset, .unset, .unset, .unset] [(.ref b297)]))
          have E778 := ((Q303.ext E314).keep K319q)
          have F779 := ((Q304.ext E314).keep K319q (ninS (Nat.ne_of_lt (Nat.lt_of_lt_of_le (Nat.lt_of_lt_of_le A297.lt K302q.1) (Nat.le_of_eq g314.symm))) nin0))
          have F780 := ((Q305.ext E314).keep K319q (ninS (Nat.ne_of_lt (Nat.lt_of_lt_of_le (Nat.lt_of_lt_of_le A297.lt K302q.1) (Nat.le_of_eq g314.symm))) nin0))
          have F781 := ((Q306.ext E314).keep K319q (ninS (Nat.ne_of_lt (Nat.lt_of_lt_of_le (Nat.lt_of_lt_of_le A297.lt K302q.1) (Nat.le_of_eq g314.symm))) nin0))
          have F782 := ((Q307.ext E314).keep K319q (ninS (Nat.ne_of_lt (Nat.lt_of_lt_of_le (Nat.lt_of_lt_of_le A297.lt K302q.1) (Nat.le_of_eq g314.symm))) nin0))
          have F783 := ((Q308.ext E314).keep K319q (ninS (Nat.ne_of_lt (Nat.lt_of_lt_of_le (Nat.lt_of_lt_of_le A297.lt K302q.1) (Nat.le_of_eq g314.symm))) nin0))
          have F784 := ((Q309.ext E314).keep K319q (ninS (Nat.ne_of_lt (Nat.lt_of_lt_of_le (Nat.lt_of_lt_of_le A297.lt K302q.1) (Nat.le_of_eq g314.symm))) nin0))
          have F785 := ((Q310.ext E314).keep K319q (ninS (Nat.ne_of_lt (Nat.lt_of_lt_of_le (Nat.lt_of_lt_of_le A297.lt K302q.1) (Nat.le_of_eq g314.symm))) nin0))
          have F786 := ((Q311.ext E314).keep K319q (ninS (Nat.ne_of_lt (Nat.lt_of_lt_of_le (Nat.lt_of_lt_of_le A297.lt K302q.1) (Nat.le_of_eq g314.symm))) nin0))
          refine own_callV X319 hx hZ (y := (⟨"com/example/kerb2d/kerb2d/engine/Tally", "enter", "()V"⟩ : MethodName)) (C := "com/example/kerb2d/kerb2d/engine/Tally") hown (hw _ (List.mem_of_getElem? (i := 87) rfl)) (hw _ (List.mem_of_getElem? (i := 88) rfl)) (hw _ (List.mem_of_getElem? (i := 90) rfl)) (hw _ (List.mem_of_getElem? (i := 89) rfl)) (hw _ (List.mem_of_getElem? (i := 91) rfl)) (hw _ (List.mem_of_getElem? (i := 2) rfl)) (by decide) rfl (a := b297) E778 (argsL := []) (rest := []) (W := 0) (own_rm10W l Z a0 hw [] b297 (0 : Int32) (0 : Int32) T319.heap n0 (Nat.le_trans Z0 K329.1) E778 ge299 F779 F780 F781 F782 F783 F784 F785 F786) (by decide) (by decide) (by rw [hml]; rfl) (lenOf own_pd2 rfl) rfl (by exact Nat.le_of_eq rfl) (hb hby at_47) (by decide) (by decide) ?_
          intro T787 v787 L787 X787 hq787
          obtain ⟨rfl, N787q, K787q, Q788, Q789, Q790, Q791, Q792, Q793, Q794, Q795, Q796⟩ := hq787
          have K797 : Keep h0 T787.heap [] := K329.trans K787q (allS (Or.inr sz298) all0)
          have O798 := O330.keep K787q (allS ge299 all0)
          have N787 := Fr.app N319 N787q
          show own_Run p e below s _ _ _ (T787.setTop (mkF m 50 #[.val (.int i0), .val (.ref b297), .val (.ref b314), .val (.int (1 : Int32)), .val (.int (0 : Int32)), .val (.int (1 : Int32)), .val (.int (1 : Int32)), .unset, .unset, .unset, .unset] []))
          refine own_st (fun t k => XS.iload X787.here hx rfl (hb hby at_50) rfl k) ?_
          show own_Run p e below s _ _ _ (T787.setTop (mkF m 52 #[.val (.int i0), .val (.ref b297), .val (.ref b314), .val (.int (1 : Int32)), .val (.int (0 : Int32)), .val (.int (1 : Int32)), .val (.int (1 : Int32)), .unset, .unset, .unset, .unset] [(.int (0 : Int32))]))
          refine own_st (fun t k => XS.ifYes X787.here hx rfl (pc0 := 52) (pc' := 59) rfl (hb hby at_52) rfl ((if0 _ _).trans (teq (by decide : (0 : Int32) = (0 : Int32))).1) (by decide) (by decide) k) ?_
          show own_Run p e below s _ _ _ (T787.setTop (mkF m 59 #[.val (.int i0), .val (.ref b297), .val (.ref b314), .val (.int (1 : Int32)), .val (.int (0 : Int32)), .val (.int (1 : Int32)), .val (.int (1 : Int32)), .unset, .unset, .unset, .unset] []))
          refine own_st (fun t k => XS.iload X787.here hx rfl (hb hby at_59) rfl k) ?_
          show own_Run p e below s _ _ _ (T787.setTop (mkF m 61 #[.val (.int i0), .val (.ref b297), .val (.ref b314), .val (.int (1 : Int32)), .val (.int (0 : Int32)), .val (.int (1 : Int32)), .val (.int (1 : Int32)), .unset, .unset, .unset, .unset] [(.int (1 : Int32))]))
          refine own_st (fun t k => XS.ifNo X787.here hx rfl (hb hby at_61) rfl ((if0 _ _).trans (feq (by decide : ¬ ((1 : Int32) = (0 : Int32)))).1) k) ?_
          show own_Run p e below s _ _ _ (T787.setTop (mkF m 64 #[.val (.int i0), .val (.ref b297), .val (.ref b314), .val (.int (1 : Int32)), .val (.int (0 : Int32)), .val (.int (1 : Int32)), .val (.int (1 : Int32)), .unset, .unset, .unset, .unset] []))
          refine own_st (fun t k => XS.aloadN X787.here hx rfl (hb hby at_64) rfl rfl k) ?_
          show own_Run p e below s _ _ _ (T787.setTop (mkF m 65 #[.val (.int i0), .val (.ref b297), .val (.ref b314), .val (.int (1 : Int32)), .val (.int (0 : Int32)), .val (.int (1 : Int32)), .val (.int (1 : Int32)), .unset, .unset, .unset, .unset] [(.ref b297)]))
          refine own_callV X787 hx hZ (y := (⟨"com/example/kerb2d/kerb2d/engine/Tally", "arrive", "()V"⟩ : MethodName)) (C := "com/example/kerb2d/kerb2d/engine/Tally") hown (hw _ (List.mem_of_getElem? (i := 92) rfl)) (hw _ (List.mem_of_getElem? (i := 93) rfl)) (hw _ (List.mem_of_getElem? (i := 95) rfl)) (hw _ (List.mem_of_getElem? (i := 94) rfl)) (hw _ (List.mem_of_getElem? (i := 96) rfl)) (hw _ (List.mem_of_getElem? (i := 2) rfl)) (by decide) rfl (a := b297) Q788 (argsL := []) (rest := []) (W := 0) (own_rm11W l Z a0 hw [] b297 (0 : Int32) ((0 : Int32) + (1 : Int32)) T787.heap n0 (Nat.le_trans Z0 K797.1) Q788 ge299 Q789 Q790 Q791 Q792 Q793 Q794 Q795 Q796) (by decide) (by decide) (by rw [hml]; rfl) (lenOf own_pd2 rfl) rfl (by exact Nat.le_of_eq rfl) (hb hby at_65) (by decide) (by decide) ?_
          intro T799 v799 L799 X799 hq799
          obtain ⟨rfl, N799q, K799q, Q800, Q801, Q802, Q803, Q804, Q805, Q806, Q807, Q808⟩ := hq799
          have K809 : Keep h0 T799.heap [] := K797.trans K799q (allS (Or.inr sz298) all0)
          have O810 := O798.keep K799q (allS ge299 all0)
          have N799 := Fr.app N787 N799q
          show own_Run p e below s _ _ _ (T799.setTop (mkF m 68 #[.val (.int i0), .val (.ref b297), .val (.ref b314), .val (.int (1 : Int32)), .val (.int (0 : Int32)), .val (.int (1 : Int32)), .val (.int (1 : Int32)), .unset, .unset, .unset, .unset] []))
          refine own_st (fun t k => XS.iload X799.here hx rfl (hb hby at_68) rfl k) ?_
          show own_Run p e below s _ _ _ (T799.setTop (mkF m 70 #[.val (.int i0), .val (.ref b297), .val (.ref b314), .val (.int (1 : Int32)), .val (.int (0 : Int32)), .val (.int (1 : Int32)), .val (.int (1 : Int32)), .unset, .unset, .unset, .unset] [(.int (1 : Int32))]))
          refine own_st (fun t k => XS.ifNo X799.here hx rfl (hb hby at_70) rfl ((if0 _ _).trans (feq (by decide : ¬ ((1 : Int32) = (0 : Int32)))).1) k) ?_
          show own_Run p e below s _ _ _ (T799.setTop (mkF m 73 #[.val (.int i0), .val (.ref b297), .val (.ref b314), .val (.int (1 : Int32)), .val (.int (0 : Int32)), .val (.int (1 : Int32)), .val (.int (1 : Int32)), .unset, .unset, .unset, .unset] []))
          refine own_st (fun t k => XS.aloadN X799.here hx rfl (hb hby at_73) rfl rfl k) ?_
          show own_Run p e below s _ _ _ (T799.setTop (mkF m 74 #[.val (.int i0), .val (.ref b297), .val (.ref b314), .val (.int (1 : Int32)), .val (.int (0 : Int32)), .val (.int (1 : Int32)), .val (.int (1 : Int32)), .unset, .unset, .unset, .unset] [(.ref b314)]))
          have E811 := ((Q320.keep K787q).keep K799q)
          have F812 := ((Q321.keep K787q (ninS (Ne.symm (Nat.ne_of_lt (Nat.lt_of_lt_of_le (Nat.lt_of_lt_of_le A297.lt K302q.1) (Nat.le_of_eq g314.symm)))) nin0)).keep K799q (ninS (Ne.symm (Nat.ne_of_lt (Nat.lt_of_lt_of_le (Nat.lt_of_lt_of_le A297.lt K302q.1) (Nat.le_of_eq g314.symm)))) nin0))
          have F813 := ((Q322.keep K787q (ninS (Ne.symm (Nat.ne_of_lt (Nat.lt_of_lt_of_le (Nat.lt_of_lt_of_le A297.lt K302q.1) (Nat.le_of_eq g314.symm)))) nin0)).keep K799q (ninS (Ne.symm (Nat.ne_of_lt (Nat.lt_of_lt_of_le (Nat.lt_of_lt_of_le A297.lt K302q.1) (Nat.le_of_eq g314.symm)))) nin0))
          have F814 := ((Q323.keep K787q (ninS (Ne.symm (Nat.ne_of_lt (Nat.lt_of_lt_of_le (Nat.lt_of_lt_of_le A297.lt K302q.1) (Nat.le_of_eq g314.symm)))) nin0)).keep K799q (ninS (Ne.symm (Nat.ne_of_lt (Nat.lt_of_lt_of_le (Nat.lt_of_lt_of_le A297.lt K302q.1) (Nat.le_of_eq g314.symm)))) nin0))
          have F815 := ((Q324.keep K787q (ninS (Ne.symm (Nat.ne_of_lt (Nat.lt_of_lt_of_le (Nat.lt_of_lt_of_le A297.lt K302q.1) (Nat.le_of_eq g314.symm)))) nin0)).keep K799q (ninS (Ne.symm (Nat.ne_of_lt (Nat.lt_of_lt_of_le (Nat.lt_of_lt_of_le A297.lt K302q.1) (Nat.le_of_eq g314.symm)))) nin0))
          have F816 := ((Q325.keep K787q (ninS (Ne.symm (Nat.ne_of_lt (Nat.lt_of_lt_of_le (Nat.lt_of_lt_of_le A297.lt K302q.1) (Nat.le_of_eq g314.symm)))) nin0)).keep K799q (ninS (Ne.symm (Nat.ne_of_lt (Nat.lt_of_lt_of_le (Nat.lt_of_lt_of_le A297.lt K302q.1) (Nat.le_of_eq g314.symm)))) nin0))
          have F817 := ((Q326.keep K787q (ninS (Ne.symm (Nat.ne_of_lt (Nat.lt_of_lt_of_le (Nat.lt_of_lt_of_le A297.lt K302q.1) (Nat.le_of_eq g314.symm)))) nin0)).keep K799q (ninS (Ne.symm (Nat.ne_of_lt (Nat.lt_of_lt_of_le (Nat.lt_of_lt_of_le A297.lt K302q.1) (Nat.le_of_eq g314.symm)))) nin0))
          have F818 := ((Q327.keep K787q (ninS (Ne.symm (Nat.ne_of_lt (Nat.lt_of_lt_of_le (Nat.lt_of_lt_of_le A297.lt K302q.1) (Nat.le_of_eq g314.symm)))) nin0)).keep K799q (ninS (Ne.symm (Nat.ne_of_lt (Nat.lt_of_lt_of_le (Nat.lt_of_lt_of_le A297.lt K302q.1) (Nat.le_of_eq g314.symm)))) nin0))
          have F819 := ((Q328.keep K787q (ninS (Ne.symm (Nat.ne_of_lt (Nat.lt_of_lt_of_le (Nat.lt_of_lt_of_le A297.lt K302q.1) (Nat.le_of_eq g314.symm)))) nin0)).keep K799q (ninS (Ne.symm (Nat.ne_of_lt (Nat.lt_of_lt_of_le (Nat.lt_of_lt_of_le A297.lt K302q.1) (Nat.le_of_eq g314.symm)))) nin0))
          refine own_callV X799 hx hZ (y := (⟨"com/example/kerb2d/kerb2d/engine/Tally", "arrive", "()V"⟩ : MethodName)) (C := "com/example/kerb2d/kerb2d/engine/Tally") hown (hw _ (List.mem_of_getElem? (i := 92) rfl)) (hw _ (List.mem_of_getElem? (i := 93) rfl)) (hw _ (List.mem_of_getElem? (i := 95) rfl)) (hw _ (List.mem_of_getElem? (i := 94) rfl)) (hw _ (List.mem_of_getElem? (i := 96) rfl)) (hw _ (List.mem_of_getElem? (i := 2) rfl)) (by decide) rfl (a := b314) E811 (argsL := []) (rest := []) (W := 0) (own_rm11P l Z a0 hw [] b314 b297 (0 : Int32) (0 : Int32) ((0 : Int32) + (1 : Int32)) ((0 : Int32) + (1 : Int32)) T799.heap n0 (Nat.le_trans Z0 K809.1) E811 ge316 F812 F813 F814 F815 F816 F817 F818 F819 Q800 ge299 Q801 Q802 Q803 Q804 Q805 Q806 Q807 Q808 (Ne.symm (Nat.ne_of_lt (Nat.lt_of_lt_of_le (Nat.lt_of_lt_of_le A297.lt K302q.1) (Nat.le_of_eq g314.symm))))) (by decide) (by decide) (by rw [hml]; rfl) (lenOf own_pd2 rfl) rfl (by exact Nat.le_of_eq rfl) (hb hby at_74) (by decide) (by decide) ?_
          intro T820 v820 L820 X820 hq820
          obtain ⟨rfl, N820q, K820q, Q821, Q822, Q823, Q824, Q825, Q826, Q827, Q828, Q829, Q830, Q831, Q832, Q833, Q834, Q835, Q836, Q837, Q838⟩ := hq820
          have K839 : Keep h0 T820.heap [] := K809.trans K820q (allS (Or.inr sz315) (allS (Or.inr sz298) all0))
          have O840 := O810.keep K820q (allS ge316 (allS ge299 all0))
          have N820 := Fr.app N799 N820q
          show own_Run p e below s _ _ _ (T820.setTop (mkF m 77 #[.val (.int i0), .val (.ref b297), .val (.ref b314), .val (.int (1 : Int32)), .val (.int (0 : Int32)), .val (.int (1 : Int32)), .val (.int (1 : Int32)), .unset, .unset, .unset, .unset] []))
          exact own_tail l Z a0 hw T820 _ hx hby hml hZ hown hnm hret hlk te i0 b297 b314 (1 : Int32) (0 : Int32) (1 : Int32) (1 : Int32) (((0 : Int32) + (1 : Int32)) + (1 : Int32)) ((0 : Int32) + (1 : Int32)) ((0 : Int32) + (1 : Int32)) (0 : Int32) h0 n0 Z0 _ (X820.more (by decide) (by decide)) rfl N820 K839 O840 S_E Q830 ge299 sz298 Q831 Q832 Q833 Q834 Q835 Q836 Q837 Q838 Q821 ge316 sz315 Q822 Q823 Q824 Q825 Q826 Q827 Q828 Q829 (Ne.symm (Nat.ne_of_lt (Nat.lt_of_lt_of_le (Nat.lt_of_lt_of_le A297.lt K302q.1) (Nat.le_of_eq g314.symm)))) (by decide) (by decide) (by decide) (by decide)
    · refine own_topI hn ?_
      show own_Run p e below s _ _ _ (T319.setTop (mkF m 26 #[.val (.int i0), .val (.ref b297), .val (.ref b314), .val (.int (1 : Int32)), .unset, .unset, .unset, .unset, .unset, .unset, .unset] [(.int (1 : Int32))]))
      refine own_st (fun t k => XS.istore X319.here hx rfl (hb hby at_26) rfl (l' := #[.val (.int i0), .val (.ref b297), .val (.ref b314), .val (.int (1 : Int32)), .val (.int (1 : Int32)), .unset, .unset, .unset, .unset, .unset, .unset]) rfl k) ?_
      show own_Run p e below s _ _ _ (T319.setTop (mkF m 28 #[.val (.int i0), .val (.ref b297), .val (.ref b314), .val (.int (1 : Int32)), .val (.int (1 : Int32)), .unset, .unset, .unset, .unset, .unset, .unset] []))
      refine own_st (fun t k => XS.iloadN X319.here hx rfl (hb hby at_28) rfl k) ?_
      show own_Run p e below s _ _ _ (T319.setTop (mkF m 29 #[.val (.int i0), .val (.ref b297), .val (.ref b314), .val (.int (1 : Int32)), .val (.int (1 : Int32)), .unset, .unset, .unset, .unset, .unset, .unset] [(.int i0)]))
      refine own_st (fun t k => XS.iconst X319.here hx rfl (hb hby at_29) k) ?_
      show own_Run p e below s _ _ _ (T319.setTop (mkF m 30 #[.val (.int i0), .val (.ref b297), .val (.ref b314), .val (.int (1 : Int32)), .val (.int (1 : Int32)), .unset, .unset, .unset, .unset, .unset, .unset] [(.int (2 : Int32)), (.int i0)]))
      refine own_st (fun t k => XS.iushr X319.here hx rfl (hb hby at_30) rfl k) ?_
      show own_Run p e below s _ _ _ (T319.setTop (mkF m 31 #[.val (.int i0), .val (.ref b297), .val (.ref b314), .val (.int (1 : Int32)), .val (.int (1 : Int32)), .unset, .unset, .unset, .unset, .unset, .unset] [(.int ((i0.toUInt32 >>> ((2 : Int32) &&& 31).toUInt32).toInt32))]))
      refine own_st (fun t k => XS.iconst X319.here hx rfl (hb hby at_31) k) ?_
      show own_Run p e below s _ _ _ (T319.setTop (mkF m 32 #[.val (.int i0), .val (.ref b297), .val (.ref b314), .val (.int (1 : Int32)), .val (.int (1 : Int32)), .unset, .unset, .unset, .unset, .unset, .unset] [(.int (1 : Int32)), (.int ((i0.toUInt32 >>> ((2 : Int32) &&& 31).toUInt32).toInt32))]))
      refine own_st (fun t k => XS.iand X319.here hx rfl (hb hby at_32) rfl k) ?_
      show own_Run p e below s _ _ _ (T319.setTop (mkF m 33 #[.val (.int i0), .val (.ref b297), .val (.ref b314), .val (.int (1 : Int32)), .val (.int (1 : Int32)), .unset, .unset, .unset, .unset, .unset, .unset] [(.int (((i0.toUInt32 >>> ((2 : Int32) &&& 31).toUInt32).toInt32) &&& (1 : Int32)))]))
      rcases and_one _ with hn | hn
      · refine own_topI hn ?_
        show own_Run p e below s _ _ _ (T319.setTop (mkF m 33 #[.val (.int i0), .val (.ref b297), .val (.ref b314), .val (.int (1 : Int32)), .val (.int (1 : Int32)), .unset, .unset, .unset, .unset, .unset, .unset] [(.int (0 : Int32))]))
        refine own_st (fun t k => XS.istore X319.here hx rfl (hb hby at_33) rfl (l' := #[.val (.int i0), .val (.ref b297), .val (.ref b314), .val (.int (1 : Int32)), .val (.int (1 : Int32)), .val (.int (0 : Int32)), .unset, .unset, .unset, .unset, .unset]) rfl k) ?_
        show own_Run p e below s _ _ _ (T319.setTop (mkF m 35 #[.val (.int i0), .val (.ref b297), .val (.ref b314), .val (.int (1 : Int32)), .val (.int (1 : Int32)), .val (.int (0 : Int32)), .unset, .unset, .unset, .unset, .unset] []))
        refine own_st (fun t k => XS.iloadN X319.here hx rfl (hb hby at_35) rfl k) ?_
        show own_Run p e below s _ _ _ (T319.setTop (mkF m 36 #[.val (.int i0), .val (.ref b297), .val (.ref b314), .val (.int (1 : Int32)), .val (.int (1 : Int32)), .val (.int (0 : Int32)), .unset, .unset, .unset, .unset, .unset] [(.int i0)]))
        refine own_st (fun t k => XS.iconst X319.here hx rfl (hb hby at_36) k) ?_
        show own_Run p e below s _ _ _ (T319.setTop (mkF m 37 #[.val (.int i0), .val (.ref b297), .val (.ref b314), .val (.int (1 : Int32)), .val (.int (1 : Int32)), .val (.int (0 : Int32)), .unset, .unset, .unset, .unset, .unset] [(.int (3 : Int32)), (.int i0)]))
        refine own_st (fun t k => XS.iushr X319.here hx rfl (hb hby at_37) rfl k) ?_
        show own_Run p e below s _ _ _ (T319.setTop (mkF m 38 #[.val (.int i0), .val (.ref b297), .val (.ref b314), .val (.int (1 : Int32)), .val (.int (1 : Int32)), .val (.int (0 : Int32)), .unset, .unset, .unset, .unset, .unset] [(.int ((i0.toUInt32 >>> ((3 : Int32) &&& 31).toUInt32).toInt32))]))
        refine own_st (fun t k => XS.iconst X319.here hx rfl (hb hby at_38) k) ?_
        show own_Run p e below s _ _ _ (T319.setTop (mkF m 39 #[.val (.int i0), .val (.ref b297), .val (.ref b314), .val (.int (1 : Int32)), .val (.int (1 : Int32)), .val (.int (0 : Int32)), .unset, .unset, .unset, .unset, .unset] [(.int (1 : Int32)), (.int ((i0.toUInt32 >>> ((3 : Int32) &&& 31).toUInt32).toInt32))]))
        refine own_st (fun t k => XS.iand X319.here hx rfl (hb hby at_39) rfl k) ?_
        show own_Run p e below s _ _ _ (T319.setTop (mkF m 40 #[.val (.int i0), .val (.ref b297), .val (.ref b314), .val (.int (1 : Int32)), .val (.int (1 : Int32)), .val (.int (0 : Int32)), .unset, .unset, .unset, .unset, .unset] [(.int (((i0.toUInt32 >>> ((3 : Int32) &&& 31).toUInt32).toInt32) &&& (1 : Int32)))]))
        rcases and_one _ with hn | hn
        · refine own_topI hn ?_
          show own_Run p e below s _ _ _ (T319.setTop (mkF m 40 #[.val (.int i0), .val (.ref b297), .val (.ref b314), .val (.int (1 : Int32)), .val (.int (1 : Int32)), .val (.int (0 : Int32)), .unset, .unset, .unset, .unset, .unset] [(.int (0 : Int32))]))
          refine own_st (fun t k => XS.istore X319.here hx rfl (hb hby at_40) rfl (l' := #[.val (.int i0), .val (.ref b297), .val (.ref b314), .val (.int (1 : Int32)), .val (.int (1 : Int32)), .val (.int (0 : Int32)), .val (.int (0 : Int32)), .unset, .unset, .unset, .unset]) rfl k) ?_
          show own_Run p e below s _ _ _ (T319.setTop (mkF m 42 #[.val (.int i0), .val (.ref b297), .val (.ref b314), .val (.int (1 : Int32)), .val (.int (1 : Int32)), .val (.int (0 : Int32)), .val (.int (0 : Int32)), .unset, .unset, .unset, .unset] []))
          refine own_st (fun t k => XS.iloadN X319.here hx rfl (hb hby at_42) rfl k) ?_
          show own_Run p e below s _ _ _ (T319.setTop (mkF m 43 #[.val (.int i0), .val (.ref b297), .val (.ref b314), .val (.int (1 : Int32)), .val (.int (1 : Int32)), .val (.int (0 : Int32)), .val (.int (0 : Int32)), .unset, .unset, .unset, .unset] [(.int (1 : Int32))]))
          refine own_st (fun t k => XS.ifNo X319.here hx rfl (hb hby at_43) rfl ((if0 _ _).trans (feq (by decide : ¬ ((1 : Int32) = (0 : Int32)))).1) k) ?_
          show own_Run p e below s _ _ _ (T319.setTop (mkF m 46 #[.val (.int i0), .val (.ref b297), .val (.ref b314), .val (.int (1 : Int32)), .val (.int (1 : Int32)), .val (.int (0 : Int32)), .val (.int (0 : Int32)), .unset, .unset, .unset, .unset] []))
          refine own_st (fun t k => XS.aloadN X319.here hx rfl (hb hby at_46) rfl rfl k) ?_
          show own_Run p e below s _ _ _ (T319.setTop (mkF m 47 #[.val (.int i0), .val (.ref b297), .val (.ref b314), .val (.int (1 : Int32)), .val (.int (1 : Int32)), .val (.int (0 : Int32)), .val (.int (0 : Int32)), .unset, .unset, .unset, .unset] [(.ref b297)]))
          have E841 := ((Q303.ext E314).keep K319q)
          have F842 := ((Q304.ext E314).keep K319q (ninS (Nat.ne_of_lt (Nat.lt_of_lt_of_le (Nat.lt_of_lt_of_le A297.lt K302q.1) (Nat.le_of_eq g314.symm))) nin0))
          have F843 := ((Q305.ext E314).keep K319q (ninS (Nat.ne_of_lt (Nat.lt_of_lt_of_le (Nat.lt_of_lt_of_le A297.lt K302q.1) (Nat.le_of_eq g314.symm))) nin0))
          have F844 := ((Q306.ext E314).keep K319q (ninS (Nat.ne_of_lt (Nat.lt_of_lt_of_le (Nat.lt_of_lt_of_le A297.lt K302q.1) (Nat.le_of_eq g314.symm))) nin0))
          have F845 := ((Q307.ext E314).keep K319q (ninS (Nat.ne_of_lt (Nat.lt_of_lt_of_le (Nat.lt_of_lt_of_le A297.lt K302q.1) (Nat.le_of_eq g314.symm))) nin0))
          have F846 := ((Q308.ext E314).keep K319q (ninS (Nat.ne_of_lt (Nat.lt_of_lt_of_le (Nat.lt_of_lt_of_le A297.lt K302q.1) (Nat.le_of_eq g314.symm))) nin0))
          have F847 := ((Q309.ext E314).keep K319q (ninS (Nat.ne_of_lt (Nat.lt_of_lt_of_le (Nat.lt_of_lt_of_le A297.lt K302q.1) (Nat.le_of_eq g314.symm))) nin0))
          have F848 := ((Q310.ext E314).keep K319q (ninS (Nat.ne_of_lt (Nat.lt_of_lt_of_le (Nat.lt_of_lt_of_le A297.lt K302q.1) (Nat.le_of_eq g314.symm))) nin0))
          have F849 := ((Q311.ext E314).keep K319q (ninS (Nat.ne_of_lt (Nat.lt_of_lt_of_le (Nat.lt_of_lt_of_le A297.lt K302q.1) (Nat.le_of_eq g314.symm))) nin0))
          refine own_callV X319 hx hZ (y := (⟨"com/example/kerb2d/kerb2d/engine/Tally", "enter", "()V"⟩ : MethodName)) (C := "com/example/kerb2d/kerb2d/engine/Tally") hown (hw _ (List.mem_of_getElem? (i := 87) rfl)) (hw _ (List.mem_of_getElem? (i := 88) rfl)) (hw _ (List.mem_of_getElem? (i := 90) rfl)) (hw _ (List.mem_of_getElem? (i := 89) rfl)) (hw _ (List.mem_of_getElem? (i := 91) rfl)) (hw _ (List.mem_of_getElem? (i := 2) rfl)) (by decide) rfl (a := b297) E841 (argsL := []) (rest := []) (W := 0) (own_rm10W l Z a0 hw [] b297 (0 : Int32) (0 : Int32) T319.heap n0 (Nat.le_trans Z0 K329.1) E841 ge299 F842 F843 F844 F845 F846 F847 F848 F849) (by decide) (by decide) (by rw [hml]; rfl) (lenOf own_pd2 rfl) rfl (by exact Nat.le_of_eq rfl) (hb hby at_47) (by decide) (by decide) ?_
          intro T850 v850 L850 X850 hq850
          obtain ⟨rfl, N850q, K850q, Q851, Q852, Q853, Q854, Q855, Q856, Q857, Q858, Q859⟩ := hq850
          have K860 : Keep h0 T850.heap [] := K329.trans K850q (allS (Or.inr sz298) all0)
          have O861 := O330.keep K850q (allS ge299 all0)
          have N850 := Fr.app N319 N850q
          show own_Run p e below s _ _ _ (T850.setTop (mkF m 50 #[.val (.int i0), .val (.ref b297), .val (.ref b314), .val (.int (1 : Int32)), .val (.int (1 : Int32)), .val (.int (0 : Int32)), .val (.int (0 : Int32)), .unset, .unset, .unset, .unset] []))
          refine own_st (fun t k => XS.iload X850.here hx rfl (hb hby at_50) rfl k) ?_
          show own_Run p e below s _ _ _ (T850.setTop (mkF m 52 #[.val (.int i0), .val (.ref b297), .val (.ref b314), .val (.int (1 : Int32)), .val (.int (1 : Int32)), .val (.int (0 : Int32)), .val (.int (0 : Int32)), .unset, .unset, .unset, .unset] [(.int (1 : Int32))]))
          refine own_st (fun t k => XS.ifNo X850.here hx rfl (hb hby at_52) rfl ((if0 _ _).trans (feq (by decide : ¬ ((1 : Int32) = (0 : Int32)))).1) k) ?_
          show own_Run p e below s _ _ _ (T850.setTop (mkF m 55 #[.val (.int i0), .val (.ref b297), .val (.ref b314), .val (.int (1 : Int32)), .val (.int (1 : Int32)), .val (.int (0 : Int32)), .val (.int (0 : Int32)), .unset, .unset, .unset, .unset] []))
          refine own_st (fun t k => XS.aloadN X850.here hx rfl (hb hby at_55) rfl rfl k) ?_
          show own_Run p e below s _ _ _ (T850.setTop (mkF m 56 #[.val (.int i0), .val (.ref b297), .val (.ref b314), .val (.int (1 : Int32)), .val (.int (1 : Int32)), .val (.int (0 : Int32)), .val (.int (0 : Int32)), .unset, .unset, .unset, .unset] [(.ref b314)]))
          have E862 := (Q320.keep K850q)
          have F863 := (Q321.keep K850q (ninS (Ne.symm (Nat.ne_of_lt (Nat.lt_of_lt_of_le (Nat.lt_of_lt_of_le A297.lt K302q.1) (Nat.le_of_eq g314.symm)))) nin0))
          have F864 := (Q322.keep K850q (ninS (Ne.symm (Nat.ne_of_lt (Nat.lt_of_lt_of_le (Nat.lt_of_lt_of_le A297.lt K302q.1) (Nat.le_of_eq g314.symm)))) nin0))
          have F865 := (Q323.keep K850q (ninS (Ne.symm (Nat.ne_of_lt (Nat.lt_of_lt_of_le (Nat.lt_of_lt_of_le A297.lt K302q.1) (Nat.le_of_eq g314.symm)))) nin0))
          have F866 := (Q324.keep K850q (ninS (Ne.symm (Nat.ne_of_lt (Nat.lt_of_lt_of_le (Nat.lt_of_lt_of_le A297.lt K302q.1) (Nat.le_of_eq g314.symm)))) nin0))
          have F867 := (Q325.keep K850q (ninS (Ne.symm (Nat.ne_of_lt (Nat.lt_of_lt_of_le (Nat.lt_of_lt_of_le A297.lt K302q.1) (Nat.le_of_eq g314.symm)))) nin0))
          have F868 := (Q326.keep K850q (ninS (Ne.symm (Nat.ne_of_lt (Nat.lt_of_lt_of_le (Nat.lt_of_lt_of_le A297.lt K302q.1) (Nat.le_of_eq g314.symm)))) nin0))
          have F869 := (Q327.keep K850q (ninS (Ne.symm (Nat.ne_of_lt (Nat.lt_of_lt_of_le (Nat.lt_of_lt_of_le A297.lt K302q.1) (Nat.le_of_eq g314.symm)))) nin0))
          have F870 := (Q328.keep K850q (ninS (Ne.symm (Nat.ne_of_lt (Nat.lt_of_lt_of_le (Nat.lt_of_lt_of_le A297.lt K302q.1) (Nat.le_of_eq g314.symm)))) nin0))
          refine own_callV X850 hx hZ (y := (⟨"com/example/kerb2d/kerb2d/engine/Tally", "arrive", "()V"⟩ : MethodName)) (C := "com/example/kerb2d/kerb2d/engine/Tally") hown (hw _ (List.mem_of_getElem? (i := 92) rfl)) (hw _ (List.mem_of_getElem? (i := 93) rfl)) (hw _ (List.mem_of_getElem? (i := 95) rfl)) (hw _ (List.mem_of_getElem? (i := 94) rfl)) (hw _ (List.mem_of_getElem? (i := 96) rfl)) (hw _ (List.mem_of_getElem? (i := 2) rfl)) (by decide) rfl (a := b314) E862 (argsL := []) (rest := []) (W := 0) (own_rm11P l Z a0 hw [] b314 b297 (0 : Int32) (0 : Int32) (0 : Int32) ((0 : Int32) + (1 : Int32)) T850.heap n0 (Nat.le_trans Z0 K860.1) E862 ge316 F863 F864 F865 F866 F867 F868 F869 F870 Q851 ge299 Q852 Q853 Q854 Q855 Q856 Q857 Q858 Q859 (Ne.symm (Nat.ne_of_lt (Nat.lt_of_lt_of_le (Nat.lt_of_lt_of_le A297.lt K302q.1) (Nat.le_of_eq g314.symm))))) (by decide) (by decide) (by rw [hml]; rfl) (lenOf own_pd2 rfl) rfl (by exact Nat.le_of_eq rfl) (hb hby at_56) (by decide) (by decide) ?_
          intro T871 v871 L871 X871 hq871
          obtain ⟨rfl, N871q, K871q, Q872, Q873, Q874, Q875, Q876, Q877, Q878, Q879, Q880, Q881, Q882, Q883, Q884, Q885, Q886, Q887, Q888, Q889⟩ := hq871
          have K890 : Keep h0 T871.heap [] := K860.trans K871q (allS (Or.inr sz315) (allS (Or.inr sz298) all0))
          have O891 := O861.keep K871q (allS ge316 (allS ge299 all0))
          have N871 := Fr.app N850 N871q
          show own_Run p e below s _ _ _ (T871.setTop (mkF m 59 #[.val (.int i0), .val (.ref b297), .val (.ref b314), .val (.int (1 : Int32)), .val (.int (1 : Int32)), .val (.int (0 : Int32)), .val (.int (0 : Int32)), .unset, .unset, .unset, .unset] []))
          refine own_st (fun t k => XS.iload X871.here hx rfl (hb hby at_59) rfl k) ?_
          show own_Run p e below s _ _ _ (T871.setTop (mkF m 61 #[.val (.int i0), .val (.ref b297), .val (.ref b314), .val (.int (1 : Int32)), .val (.int (1 : Int32)), .val (.int (0 : Int32)), .val (.int (0 : Int32)), .unset, .unset, .unset, .unset] [(.int (0 : Int32))]))
          refine own_st (fun t k => XS.ifYes X871.here hx rfl (pc0 := 61) (pc' := 68) rfl (hb hby at_61) rfl ((if0 _ _).trans (teq (by decide : (0 : Int32) = (0 : Int32))).1) (by decide) (by decide) k) ?_
          show own_Run p e below s _ _ _ (T871.setTop (mkF m 68 #[.val (.int i0), .val (.ref b297), .val (.ref b314), .val (.int (1 : Int32)), .val (.int (1 : Int32)), .val (.int (0 : Int32)), .val (.int (0 : Int32)), .unset, .unset, .unset, .unset] []))
          refine own_st (fun t k => XS.iload X871.here hx rfl (hb hby at_68) rfl k) ?_
          show own_Run p e below s _ _ _ (T871.setTop (mkF m 70 #[.val (.int i0), .val (.ref b297), .val (.ref b314), .val (.int (1 : Int32)), .val (.int (1 : Int32)), .val (.int (0 : Int32)), .val (.int (0 : Int32)), .unset, .unset, .unset, .unset] [(.int (0 : Int32))]))
          refine own_st (fun t k => XS.ifYes X871.here hx rfl (pc0 := 70) (pc' := 77) rfl (hb hby at_70) rfl ((if0 _ _).trans (teq (by decide : (0 : Int32) = (0 : Int32))).1) (by decide) (by decide) k) ?_
          show own_Run p e below s _ _ _ (T871.setTop (mkF m 77 #[.val (.int i0), .val (.ref b297), .val (.ref b314), .val (.int (1 : Int32)), .val (.int (1 : Int32)), .val (.int (0 : Int32)), .val (.int (0 : Int32)), .unset, .unset, .unset, .unset] []))
          exact own_tail l Z a0 hw T871 _ hx hby hml hZ hown hnm hret hlk te i0 b297 b314 (1 : Int32) (1 : Int32) (0 : Int32) (0 : Int32) ((0 : Int32) + (1 : Int32)) ((0 : Int32) + (1 : Int32)) ((0 : Int32) + (1 : Int32)) (0 : Int32) h0 n0 Z0 _ (X871.more (by decide) (by decide)) rfl N871 K890 O891 S_E Q881 ge299 sz298 Q882 Q883 Q884 Q885 Q886 Q887 Q888 Q889 Q872 ge316 sz315 Q873 Q874 Q875 Q876 Q877 Q878 Q879 Q880 (Ne.symm (Nat.ne_of_lt (Nat.lt_of_lt_of_le (Nat.lt_of_lt_of_le A297.lt K302q.1) (Nat.le_of_eq g314.symm)))) (by decide) (by decide) (by decide) (by decide)
        · refine own_topI hn ?_
          show own_Run p e below s _ _ _ (T319.setTop (mkF m 40 #[.val (.int i0), .val (.ref b297), .val (.ref b314), .val (.int (1 : Int32)), .val (.int (1 : Int32)), .val (.int (0 : Int32)), .unset, .unset, .unset, .unset, .unset] [(.int (1 : Int32))]))
          refine own_st (fun t k => XS.istore X319.here hx rfl (hb hby at_40) rfl (l' := #[.val (.int i0), .val (.ref b297), .val (.ref b314), .val (.int (1 : Int32)), .val (.int (1 : Int32)), .val (.int (0 : Int32)), .val (.int (1 : Int32)), .unset, .unset, .unset, .unset]) rfl k) ?_
          show own_Run p e below s _ _ _ (T319.setTop (mkF m 42 #[.val (.int i0), .val (.ref b297), .val (.ref b314), .val (.int (1 : Int32)), .val (.int (1 : Int32)), .val (.int (0 : Int32)), .val (.int (1 : Int32)), .unset, .unset, .unset, .unset] []))
          refine own_st (fun t k => XS.iloadN X319.here hx rfl (hb hby at_42) rfl k) ?_
          show own_Run p e below s _ _ _ (T319.setTop (mkF m 43 #[.val (.int i0), .val (.ref b297), .val (.ref b314), .val (.int (1 : Int32)), .val (.int (1 : Int32)), .val (.int (0 : Int32)), .val (.int (1 : Int32)), .unset, .unset, .unset, .unset] [(.int (1 : Int32))]))
          refine own_st (fun t k => XS.ifNo X319.here hx rfl (hb hby at_43) rfl ((if0 _ _).trans (feq (by decide : ¬ ((1 : Int32) = (0 : Int32)))).1) k) ?_
          show own_Run p e below s _ _ _ (T319.setTop (mkF m 46 #[.val (.int i0), .val (.ref b297), .val (.ref b314), .val (.int (1 : Int32)), .val (.int (1 : Int32)), .val (.int (0 : Int32)), .val (.int (1 : Int32)), .unset, .unset, .unset, .unset] []))
          refine own_st (fun t k => XS.aloadN X319.here hx rfl (hb hby at_46) rfl rfl k) ?_
          show own_Run p e below s _ _ _ (T319.setTop (mkF m 47 #[.val (.int i0), .val (.ref b297), .val (.ref b314), .val (.int (1 : Int32)), .val (.int (1 : Int32)), .val (.int (0 : Int32)), .val (.int (1 : Int32)), .unset, .unset, .unset, .unset] [(.ref b297)]))
          have E892 := ((Q303.ext E314).keep K319q)
          have F893 := ((Q304.ext E314).keep K319q (ninS (Nat.ne_of_lt (Nat.lt_of_lt_of_le (Nat.lt_of_lt_of_le A297.lt K302q.1) (Nat.le_of_eq g314.symm))) nin0))
          have F894 := ((Q305.ext E314).keep K319q (ninS (Nat.ne_of_lt (Nat.lt_of_lt_of_le (Nat.lt_of_lt_of_le A297.lt K302q.1) (Nat.le_of_eq g314.symm))) nin0))
          have F895 := ((Q306.ext E314).keep K319q (ninS (Nat.ne_of_lt (Nat.lt_of_lt_of_le (Nat.lt_of_lt_of_le A297.lt K302q.1) (Nat.le_of_eq g314.symm))) nin0))
          have F896 := ((Q307.ext E314).keep K319q (ninS (Nat.ne_of_lt (Nat.lt_of_lt_of_le (Nat.lt_of_lt_of_le A297.lt K302q.1) (Nat.le_of_eq g314.symm))) nin0))
          have F897 := ((Q308.ext E314).keep K319q (ninS (Nat.ne_of_lt (Nat.lt_of_lt_of_le (Nat.lt_of_lt_of_le A297.lt K302q.1) (Nat.le_of_eq g314.symm))) nin0))
          have F898 := ((Q309.ext E314).keep K319q (ninS (Nat.ne_of_lt (Nat.lt_of_lt_of_le (Nat.lt_of_lt_of_le A297.lt K302q.1) (Nat.le_of_eq g314.symm))) nin0))
          have F899 := ((Q310.ext E314).keep K319q (ninS (Nat.ne_of_lt (Nat.lt_of_lt_of_le (Nat.lt_of_lt_of_le A297.lt K302q.1) (Nat.le_of_eq g314.symm))) nin0))
          have F900 := ((Q311.ext E314).keep K319q (ninS (Nat.ne_of_lt (Nat.lt_of_lt_of_le (Nat.lt_of_lt_of_le A297.lt K302q.1) (Nat.le_of_eq g314.symm))) nin0))
          refine own_callV X319 hx hZ (y := (⟨"com/example/kerb2d/kerb2d/engine/Tally", "enter", "()V"⟩ : MethodName)) (C := "com/example/kerb2d/kerb2d/engine/Tally") hown (hw _ (List.mem_of_getElem? (i := 87) rfl)) (hw _ (List.mem_of_getElem? (i := 88) rfl)) (hw _ (List.mem_of_getElem? (i := 90) rfl)) (hw _ (List.mem_of_getElem? (i := 89) rfl)) (hw _ (List.mem_of_getElem? (i := 91) rfl)) (hw _ (List.mem_of_getElem? (i := 2) rfl)) (by decide) rfl (a := b297) E892 (argsL := []) (rest := []) (W := 0) (own_rm10W l Z a0 hw [] b297 (0 : Int32) (0 : Int32) T319.heap n0 (Nat.le_trans Z0 K329.1) E892 ge299 F893 F894 F895 F896 F897 F898 F899 F900) (by decide) (by decide) (by rw [hml]; rfl) (lenOf own_pd2 rfl) rfl (by exact Nat.le_of_eq rfl) (hb hby at_47) (by decide) (by decide) ?_
          intro T901 v901 L901 X901 hq901
          obtain ⟨rfl, N901q, K901q, Q902, Q903, Q904, Q905, Q906, Q907, Q908, Q909, Q910⟩ := hq901
          have K911 : Keep h0 T901.heap [] := K329.trans K901q (allS (Or.inr sz298) all0)
          have O912 := O330.keep K901q (allS ge299 all0)
          have N901 := Fr.app N319 N901q
          show own_Run p e below s _ _ _ (T901.setTop (mkF m 50 #[.val (.int i0), .val (.ref b297), .val (.ref b314), .val (.int (1 : Int32)), .val (.int (1 : Int32)), .val (.int (0 : Int32)), .val (.int (1 : Int32)), .unset, .unset, .unset, .unset] []))
          refine own_st (fun t k => XS.iload X901.here hx rfl (hb hby at_50) rfl k) ?_
          show own_Run p e below s _ _ _ (T901.setTop (mkF m 52 #[.val (.int i0), .val (.ref b297), .val (.ref b314), .val (.int (1 : Int32)), .val (.int (1 : Int32)), .val (.int (0 : Int32)), .val (.int (1 : Int32)), .unset, .unset, .unset, .unset] [(.int (1 : Int32))]))
          refine own_st (fun t k => XS.ifNo X901.here hx rfl (hb hby at_52) rfl ((if0 _ _).trans (feq (by decide : ¬ ((1 : Int32) = (0 : Int32)))).1) k) ?_
          show own_Run p e below s _ _ _ (T901.setTop (mkF m 55 #[.val (.int i0), .val (.ref b297), .val (.ref b314), .val (.int (1 : Int32)), .val (.int (1 : Int32)), .val (.int (0 : Int32)), .val (.int (1 : Int32)), .unset, .unset, .unset, .unset] []))
          refine own_st (fun t k => XS.aloadN X901.here hx rfl (hb hby at_55) rfl rfl k) ?_
          show own_Run p e below s _ _ _ (T901.setTop (mkF m 56 #[.val (.int i0), .val (.ref b297), .val (.ref b314), .val (.int (1 : Int32)), .val (.int (1 : Int32)), .val (.int (0 : Int32)), .val (.int (1 : Int32)), .unset, .unset, .unset, .unset] [(.ref b314)]))
          have E913 := (Q320.keep K901q)
          have F914 := (Q321.keep K901q (ninS (Ne.symm (Nat.ne_of_lt (Nat.lt_of_lt_of_le (Nat.lt_of_lt_of_le A297.lt K302q.1) (Nat.le_of_eq g314.symm)))) nin0))
          have F915 := (Q322.keep K901q (ninS (Ne.symm (Nat.ne_of_lt (Nat.lt_of_lt_of_le (Nat.lt_of_lt_of_le A297.lt K302q.1) (Nat.le_of_eq g314.symm)))) nin0))
          have F916 := (Q323.keep K901q (ninS (Ne.symm (Nat.ne_of_lt (Nat.lt_of_lt_of_le (Nat.lt_of_lt_of_le A297.lt K302q.1) (Nat.le_of_eq g314.symm)))) nin0))
          have F917 := (Q324.keep K901q (ninS (Ne.symm (Nat.ne_of_lt (Nat.lt_of_lt_of_le (Nat.lt_of_lt_of_le A297.lt K302q.1) (Nat.le_of_eq g314.symm)))) nin0))
          have F918 := (Q325.keep K901q (ninS (Ne.symm (Nat.ne_of_lt (Nat.lt_of_lt_of_le (Nat.lt_of_lt_of_le A297.lt K302q.1) (Nat.le_of_eq g314.symm)))) nin0))
          have F919 := (Q326.keep K901q (ninS (Ne.symm (Nat.ne_of_lt (Nat.lt_of_lt_of_le (Nat.lt_of_lt_of_le A297.lt K302q.1) (Nat.le_of_eq g314.symm)))) nin0))
          have F920 := (Q327.keep K901q (ninS (Ne.symm (Nat.ne_of_lt (Nat.lt_of_lt_of_le (Nat.lt_of_lt_of_le A297.lt K302q.1) (Nat.le_of_eq g314.symm)))) nin0))
          have F921 := (Q328.keep K901q (ninS (Ne.symm (Nat.ne_of_lt (Nat.lt_of_lt_of_le (Nat.lt_of_lt_of_le A297.lt K302q.1) (Nat.le_of_eq g314.symm)))) nin0))
          refine own_callV X901 hx hZ (y := (⟨"com/example/kerb2d/kerb2d/engine/Tally", "arrive", "()V"⟩ : MethodName)) (C := "com/example/kerb2d/kerb2d/engine/Tally") hown (hw _ (List.mem_of_getElem? (i := 92) rfl)) (hw _ (List.mem_of_getElem? (i := 93) rfl)) (hw _ (List.mem_of_getElem? (i := 95) rfl)) (hw _ (List.mem_of_getElem? (i := 94) rfl)) (hw _ (List.mem_of_getElem? (i := 96) rfl)) (hw _ (List.mem_of_getElem? (i := 2) rfl)) (by decide) rfl (a := b314) E913 (argsL := []) (rest := []) (W := 0) (own_rm11P l Z a0 hw [] b314 b297 (0 : Int32) (0 : Int32) (0 : Int32) ((0 : Int32) + (1 : Int32)) T901.heap n0 (Nat.le_trans Z0 K911.1) E913 ge316 F914 F915 F916 F917 F918 F919 F920 F921 Q902 ge299 Q903 Q904 Q905 Q906 Q907 Q908 Q909 Q910 (Ne.symm (Nat.ne_of_lt (Nat.lt_of_lt_of_le (Nat.lt_of_lt_of_le A297.lt K302q.1) (Nat.le_of_eq g314.symm))))) (by decide) (by decide) (by rw [hml]; rfl) (lenOf own_pd2 rfl) rfl (by exact Nat.le_of_eq rfl) (hb hby at_56) (by decide) (by decide) ?_
          intro T922 v922 L922 X922 hq922
          obtain ⟨rfl, N922q, K922q, Q923, Q924, Q925, Q926, Q927, Q928, Q929, Q930, Q931, Q932, Q933, Q934, Q935, Q936, Q937, Q938, Q939, Q940⟩ := hq922
          have K941 : Keep h0 T922.heap [] := K911.trans K922q (allS (Or.inr sz315) (allS (Or.inr sz298) all0))
          have O942 := O912.keep K922q (allS ge316 (allS ge299 all0))
          have N922 := Fr.app N901 N922q
          show own_Run p e below s _ _ _ (T922.setTop (mkF m 59 #[.val (.int i0), .val (.ref b297), .val (.ref b314), .val (.int (1 : Int32)), .val (.int (1 : Int32)), .val (.int (0 : Int32)), .val (.int (1 : Int32)), .unset, .unset, .unset, .unset] []))
          refine own_st (fun t k => XS.iload X922.here hx rfl (hb hby at_59) rfl k) ?_
          show own_Run p e below s _ _ _ (T922.setTop (mkF m 61 #[.val (.int i0), .val (.ref b297), .val (.ref b314), .val (.int (1 : Int32)), .val (.int (1 : Int32)), .val (.int (0 : Int32)), .val (.int (1 : Int32)), .unset, .unset, .unset, .unset] [(.int (0 : Int32))]))
          refine own_st (fun t k => XS.ifYes X922.here hx rfl (pc0 := 61) (pc' := 68) rfl (hb hby at_61) rfl ((if0 _ _).trans (teq (by decide : (0 : Int32) = (0 : Int32))).1) (by decide) (by decide) k) ?_
          show own_Run p e below s _ _ _ (T922.setTop (mkF m 68 #[.val (.int i0), .val (.ref b297), .val (.ref b314), .val (.int (1 : Int32)), .val (.int (1 : Int32)), .val (.int (0 : Int32)), .val (.int (1 : Int32)), .unset, .unset, .unset, .unset] []))
          refine own_st (fun t k => XS.iload X922.here hx rfl (hb hby at_68) rfl k) ?_
          show own_Run p e below s _ _ _ (T922.setTop (mkF m 70 #[.val (.int i0), .val (.ref b297), .val (.ref b314), .val (.int (1 : Int32)), .val (.int (1 : Int32)), .val (.int (0 : Int32)), .val (.int (1 : Int32)), .unset, .unset, .unset, .unset] [(.int (1 : Int32))]))
          refine own_st (fun t k => XS.ifNo X922.here hx rfl (hb hby at_70) rfl ((if0 _ _).trans (feq (by decide : ¬ ((1 : Int32) = (0 : Int32)))).1) k) ?_
          show own_Run p e below s _ _ _ (T922.setTop (mkF m 73 #[.val (.int i0), .val (.ref b297), .val (.ref b314), .val (.int (1 : Int32)), .val (.int (1 : Int32)), .val (.int (0 : Int32)), .val (.int (1 : Int32)), .unset, .unset, .unset, .unset] []))
          refine own_st (fun t k => XS.aloadN X922.here hx rfl (hb hby at_73) rfl rfl k) ?_
          show own_Run p e below s _ _ _ (T922.setTop (mkF m 74 #[.val (.int i0), .val (.ref b297), .val (.ref b314), .val (.int (1 : Int32)), .val (.int (1 : Int32)), .val (.int (0 : Int32)), .val (.int (1 : Int32)), .unset, .unset, .unset, .unset] [(.ref b314)]))
          refine own_callV X922 hx hZ (y := (⟨"com/example/kerb2d/kerb2d/engine/Tally", "arrive", "()V"⟩ : MethodName)) (C := "com/example/kerb2d/kerb2d/engine/Tally") hown (hw _ (List.mem_of_getElem? (i := 92) rfl)) (hw _ (List.mem_of_getElem? (i := 93) rfl)) (hw _ (List.mem_of_getElem? (i := 95) rfl)) (hw _ (List.mem_of_getElem? (i := 94) rfl)) (hw _ (List.mem_of_getElem? (i := 96) rfl)) (hw _ (List.mem_of_getElem? (i := 2) rfl)) (by decide) rfl (a := b314) Q923 (argsL := []) (rest := []) (W := 0) (own_rm11P l Z a0 hw [] b314 b297 ((0 : Int32) + (1 : Int32)) (0 : Int32) ((0 : Int32) + (1 : Int32)) ((0 : Int32) + (1 : Int32)) T922.heap n0 (Nat.le_trans Z0 K941.1) Q923 ge316 Q924 Q925 Q926 Q927 Q928 Q929 Q930 Q931 Q932 ge299 Q933 Q934 Q935 Q936 Q937 Q938 Q939 Q940 (Ne.symm (Nat.ne_of_lt (Nat.lt_of_lt_of_le (Nat.lt_of_lt_of_le A297.lt K302q.1) (Nat.le_of_eq g314.symm))))) (by decide) (by decide) (by rw [hml]; rfl) (lenOf own_pd2 rfl) rfl (by exact Nat.le_of_eq rfl) (hb hby at_74) (by decide) (by decide) ?_
          intro T943 v943 L943 X943 hq943
          obtain ⟨rfl, N943q, K943q, Q944, Q945, Q946, Q947, Q948, Q949, Q950, Q951, Q952, Q953, Q954, Q955, Q956, Q957, Q958, Q959, Q960, Q961⟩ := hq943
          have K962 : Keep h0 T943.heap [] := K941.trans K943q (allS (Or.inr sz315) (allS (Or.inr sz298) all0))
          have O963 := O942.keep K943q (allS ge316 (allS ge299 all0))
          have N943 := Fr.app N922 N943q
          show own_Run p e below s _ _ _ (T943.setTop (mkF m 77 #[.val (.int i0), .val (.ref b297), .val (.ref b314), .val (.int (1 : Int32)), .val (.int (1 : Int32)), .val (.int (0 : Int32)), .val (.int (1 : Int32)), .unset, .unset, .unset, .unset] []))
          exact own_tail l Z a0 hw T943 _ hx hby hml hZ hown hnm hret hlk te i0 b297 b314 (1 : Int32) (1 : Int32) (0 : Int32) (1 : Int32) (((0 : Int32) + (1 : Int32)) + (1 : Int32)) ((0 : Int32) + (1 : Int32)) (((0 : Int32) + (1 : Int32)) + (1 : Int32)) (0 : Int32) h0 n0 Z0 _ (X943.more (by decide) (by decide)) rfl N943 K962 O963 S_E Q953 ge299 sz298 Q954 Q955 Q956 Q957 Q958 Q959 Q960 Q961 Q944 ge316 sz315 Q945 Q946 Q947 Q948 Q949 Q950 Q951 Q952 (Ne.symm (Nat.ne_of_lt (Nat.lt_of_lt_of_le (Nat.lt_of_lt_of_le A297.lt K302q.1) (Nat.le_of_eq g314.symm)))) (by decide) (by decide) (by decide) (by decide)
      · refine own_topI hn ?_
        show own_Run p e below s _ _ _ (T319.setTop (mkF m 33 #[.val (.int i0), .val (.ref b297), .val (.ref b314), .val (.int (1 : Int32)), .val (.int (1 : Int32)), .unset, .unset, .unset, .unset, .unset, .unset] [(.int (1 : Int32))]))
        refine own_st (fun t k => XS.istore X319.here hx rfl (hb hby at_33) rfl (l' := #[.val (.int i0), .val (.ref b297), .val (.ref b314), .val (.int (1 : Int32)), .val (.int (1 : Int32)), .val (.int (1 : Int32)), .unset, .unset, .unset, .unset, .unset]) rfl k) ?_
        show own_Run p e below s _ _ _ (T319.setTop (mkF m 35 #[.val (.int i0), .val (.ref b297), .val (.ref b314), .val (.int (1 : Int32)), .val (.int (1 : Int32)), .val (.int (1 : Int32)), .unset, .unset, .unset, .unset, .unset] []))
        refine own_st (fun t k => XS.iloadN X319.here hx rfl (hb hby at_35) rfl k) ?_
        show own_Run p e below s _ _ _ (T319.setTop (mkF m 36 #[.val (.int i0), .val (.ref b297), .val (.ref b314), .val (.int (1 : Int32)), .val (.int (1 : Int32)), .val (.int (1 : Int32)), .unset, .unset, .unset, .unset, .unset] [(.int i0)]))
        refine own_st (fun t k => XS.iconst X319.here hx rfl (hb hby at_36) k) ?_
        show own_Run p e below s _ _ _ (T319.setTop (mkF m 37 #[.val (.int i0), .val (.ref b297), .val (.ref b314), .val (.int (1 : Int32)), .val (.int (1 : Int32)), .val (.int (1 : Int32)), .unset, .unset, .unset, .unset, .unset] [(.int (3 : Int32)), (.int i0)]))
        refine own_st (fun t k => XS.iushr X319.here hx rfl (hb hby at_37) rfl k) ?_
        show own_Run p e below s _ _ _ (T319.setTop (mkF m 38 #[.val (.int i0), .val (.ref b297), .val (.ref b314), .val (.int (1 : Int32)), .val (.int (1 : Int32)), .val (.int (1 : Int32)), .unset, .unset, .unset, .unset, .unset] [(.int ((i0.toUInt32 >>> ((3 : Int32) &&& 31).toUInt32).toInt32))]))
        refine own_st (fun t k => XS.iconst X319.here hx rfl (hb hby at_38) k) ?_
        show own_Run p e below s _ _ _ (T319.setTop (mkF m 39 #[.val (.int i0), .val (.ref b297), .val (.ref b314), .val (.int (1 : Int32)), .val (.int (1 : Int32)), .val (.int (1 : Int32)), .unset, .unset, .unset, .unset, .unset] [(.int (1 : Int32)), (.int ((i0.toUInt32 >>> ((3 : Int32) &&& 31).toUInt32).toInt32))]))
        refine own_st (fun t k => XS.iand X319.here hx rfl (hb hby at_39) rfl k) ?_
        show own_Run p e below s _ _ _ (T319.setTop (mkF m 40 #[.val (.int i0), .val (.ref b297), .val (.ref b314), .val (.int (1 : Int32)), .val (.int (1 : Int32)), .val (.int (1 : Int32)), .unset, .unset, .unset, .unset, .unset] [(.int (((i0.toUInt32 >>> ((3 : Int32) &&& 31).toUInt32).toInt32) &&& (1 : Int32)))]))
        rcases and_one _ with hn | hn
        · refine own_topI hn ?_
          show own_Run p e below s _ _ _ (T319.setTop (mkF m 40 #[.val (.int i0), .val (.ref b297), .val (.ref b314), .val (.int (1 : Int32)), .val (.int (1 : Int32)), .val (.int (1 : Int32)), .unset, .unset, .unset, .unset, .unset] [(.int (0 : Int32))]))
          refine own_st (fun t k => XS.istore X319.here hx rfl (hb hby at_40) rfl (l' := #[.val (.int i0), .val (.ref b297), .val (.ref b314), .val (.int (1 : Int32)), .val (.int (1 : Int32)), .val (.int (1 : Int32)), .val (.int (0 : Int32)), .unset, .unset, .unset, .unset]) rfl k) ?_
          show own_Run p e below s _ _ _ (T319.setTop (mkF m 42 #[.val (.int i0), .val (.ref b297), .val (.ref b314), .val (.int (1 : Int32)), .val (.int (1 : Int32)), .val (.int (1 : Int32)), .val (.int (0 : Int32)), .unset, .unset, .unset, .unset] []))
          refine own_st (fun t k => XS.iloadN X319.here hx rfl (hb hby at_42) rfl k) ?_
          show own_Run p e below s _ _ _ (T319.setTop (mkF m 43 #[.val (.int i0), .val (.ref b297), .val (.ref b314), .val (.int (1 : Int32)), .val (.int (1 : Int32)), .val (.int (1 : Int32)), .val (.int (0 : Int32)), .unset, .unset, .unset, .unset] [(.int (1 : Int32))]))
          refine own_st (fun t k => XS.ifNo X319.here hx rfl (hb hby at_43) rfl ((if0 _ _).trans (feq (by decide : ¬ ((1 : Int32) = (0 : Int32)))).1) k) ?_
          show own_Run p e below s _ _ _ (T319.setTop (mkF m 46 #[.val (.int i0), .val (.ref b297), .val (.ref b314), .val (.int (1 : Int32)), .val (.int (1 : Int32)), .val (.int (1 : Int32)), .val (.int (0 : Int32)), .unset, .unset, .unset, .unset] []))
          refine own_st (fun t k => XS.aloadN X319.here hx rfl (hb hby at_46) rfl rfl k) ?_
          show own_Run p e below s _ _ _ (T319.setTop (mkF m 47 #[.val (.int i0), .val (.ref b297), .val (.ref b314), .val (.int (1 : Int32)), .val (.int (1 : Int32)), .val (.int (1 : Int32)), .val (.int (0 : Int32)), .unset, .unset, .unset, .unset] [(.ref b297)]))
          have E964 := ((Q303.ext E314).keep K319q)
          have F965 := ((Q304.ext E314).keep K319q (ninS (Nat.ne_of_lt (Nat.lt_of_lt_of_le (Nat.lt_of_lt_of_le A297.lt K302q.1) (Nat.le_of_eq g314.symm))) nin0))
          have F966 := ((Q305.ext E314).keep K319q (ninS (Nat.ne_of_lt (Nat.lt_of_lt_of_le (Nat.lt_of_lt_of_le A297.lt K302q.1) (Nat.le_of_eq g314.symm))) nin0))
          have F967 := ((Q306.ext E314).keep K319q (ninS (Nat.ne_of_lt (Nat.lt_of_lt_of_le (Nat.lt_of_lt_of_le A297.lt K302q.1) (Nat.le_of_eq g314.symm))) nin0))
          have F968 := ((Q307.ext E314).keep K319q (ninS (Nat.ne_of_lt (Nat.lt_of_lt_of_le (Nat.lt_of_lt_of_le A297.lt K302q.1) (Nat.le_of_eq g314.symm))) nin0))
          have F969 := ((Q308.ext E314).keep K319q (ninS (Nat.ne_of_lt (Nat.lt_of_lt_of_le (Nat.lt_of_lt_of_le A297.lt K302q.1) (Nat.le_of_eq g314.symm))) nin0))
          have F970 := ((Q309.ext E314).keep K319q (ninS (Nat.ne_of_lt (Nat.lt_of_lt_of_le (Nat.lt_of_lt_of_le A297.lt K302q.1) (Nat.le_of_eq g314.symm))) nin0))
          have F971 := ((Q310.ext E314).keep K319q (ninS (Nat.ne_of_lt (Nat.lt_of_lt_of_le (Nat.lt_of_lt_of_le A297.lt K302q.1) (Nat.le_of_eq g314.symm))) nin0))
          have F972 := ((Q311.ext E314).keep K319q (ninS (Nat.ne_of_lt (Nat.lt_of_lt_of_le (Nat.lt_of_lt_of_le A297.lt K302q.1) (Nat.le_of_eq g314.symm))) nin0))
          refine own_callV X319 hx hZ (y := (⟨"com/example/kerb2d/kerb2d/engine/Tally", "enter", "()V"⟩ : MethodName)) (C := "com/example/kerb2d/kerb2d/engine/Tally") hown (hw _ (List.mem_of_getElem? (i := 87) rfl)) (hw _ (List.mem_of_getElem? (i := 88) rfl)) (hw _ (List.mem_of_getElem? (i := 90) rfl)) (hw _ (List.mem_of_getElem? (i := 89) rfl)) (hw _ (List.mem_of_getElem? (i := 91) rfl)) (hw _ (List.mem_of_getElem? (i := 2) rfl)) (by decide) rfl (a := b297) E964 (argsL := []) (rest := []) (W := 0) (own_rm10W l Z a0 hw [] b297 (0 : Int32) (0 : Int32) T319.heap n0 (Nat.le_trans Z0 K329.1) E964 ge299 F965 F966 F967 F968 F969 F970 F971 F972) (by decide) (by decide) (by rw [hml]; rfl) (lenOf own_pd2 rfl) rfl (by exact Nat.le_of_eq rfl) (hb hby at_47) (by decide) (by decide) ?_
          intro T973 v973 L973 X973 hq973
          obtain ⟨rfl, N973q, K973q, Q974, Q975, Q976, Q977, Q978, Q979, Q980, Q981, Q982⟩ := hq973
          have K983 : Keep h0 T973.heap [] := K329.trans K973q (allS (Or.inr sz298) all0)
          have O984 := O330.keep K973q (allS ge299 all0)
          have N973 := Fr.app N319 N973q
          show own_Run p e below s _ _ _ (T973.setTop (mkF m 50 #[.val (.int i0), .val (.ref b297), .val (.ref b314), .val (.int (1 : Int32)), .val (.int (1 : Int32)), .val (.int (1 : Int32)), .val (.int (0 : Int32)), .unset, .unset, .unset, .unset] []))
          refine own_st (fun t k => XS.iload X973.here hx rfl (hb hby at_50) rfl k) ?_
          show own_Run p e below s _ _ _ (T973.setTop (mkF m 52 #[.val (.int i0), .val (.ref b297), .val (.ref b314), .val (.int (1 : Int32)), .val (.int (1 : Int32)), .val (.int (1 : Int32)), .val (.int (0 : Int32)), .unset, .unset, .unset, .unset] [(.int (1 : Int32))]))
          refine own_st (fun t k => XS.ifNo X973.here hx rfl (hb hby at_52) rfl ((if0 _ _).trans (feq (by decide : ¬ ((1 : Int32) = (0 : Int32)))).1) k) ?_
          show own_Run p e below s _ _ _ (T973.setTop (mkF m 55 #[.val (.int i0), .val (.ref b297), .val (.ref b314), .val (.int (1 : Int32)), .val (.int (1 : Int32)), .val (.int (1 : Int32)), .val (.int (0 : Int32)), .unset, .unset, .unset, .unset] []))
          refine own_st (fun t k => XS.aloadN X973.here hx rfl (hb hby at_55) rfl rfl k) ?_
          show own_Run p e below s _ _ _ (T973.setTop (mkF m 56 #[.val (.int i0), .val (.ref b297), .val (.ref b314), .val (.int (1 : Int32)), .val (.int (1 : Int32)), .val (.int (1 : Int32)), .val (.int (0 : Int32)), .unset, .unset, .unset, .unset] [(.ref b314)]))
          have E985 := (Q320.keep K973q)
          have F986 := (Q321.keep K973q (ninS (Ne.symm (Nat.ne_of_lt (Nat.lt_of_lt_of_le (Nat.lt_of_lt_of_le A297.lt K302q.1) (Nat.le_of_eq g314.symm)))) nin0))
          have F987 := (Q322.keep K973q (ninS (Ne.symm (Nat.ne_of_lt (Nat.lt_of_lt_of_le (Nat.lt_of_lt_of_le A297.lt K302q.1) (Nat.le_of_eq g314.symm)))) nin0))
          have F988 := (Q323.keep K973q (ninS (Ne.symm (Nat.ne_of_lt (Nat.lt_of_lt_of_le (Nat.lt_of_lt_of_le A297.lt K302q.1) (Nat.le_of_eq g314.symm)))) nin0))
          have F989 := (Q324.keep K973q (ninS (Ne.symm (Nat.ne_of_lt (Nat.lt_of_lt_of_le (Nat.lt_of_lt_of_le A297.lt K302q.1) (Nat.le_of_eq g314.symm)))) nin0))
          have F990 := (Q325.keep K973q (ninS (Ne.symm (Nat.ne_of_lt (Nat.lt_of_lt_of_le (Nat.lt_of_lt_of_le A297.lt K302q.1) (Nat.le_of_eq g314.symm)))) nin0))
          have F991 := (Q326.keep K973q (ninS (Ne.symm (Nat.ne_of_lt (Nat.lt_of_lt_of_le (Nat.lt_of_lt_of_le A297.lt K302q.1) (Nat.le_of_eq g314.symm)))) nin0))
          have F992 := (Q327.keep K973q (ninS (Ne.symm (Nat.ne_of_lt (Nat.lt_of_lt_of_le (Nat.lt_of_lt_of_le A297.lt K302q.1) (Nat.le_of_eq g314.symm)))) nin0))
          have F993 := (Q328.keep K973q (ninS (Ne.symm (Nat.ne_of_lt (Nat.lt_of_lt_of_le (Nat.lt_of_lt_of_le A297.lt K302q.1) (Nat.le_of_eq g314.symm)))) nin0))
          refine own_callV X973 hx hZ (y := (⟨"com/example/kerb2d/kerb2d/engine/Tally", "arrive", "()V"⟩ : MethodName)) (C := "com/example/kerb2d/kerb2d/engine/Tally") hown (hw _ (List.mem_of_getElem? (i := 92) rfl)) (hw _ (List.mem_of_getElem? (i := 93) rfl)) (hw _ (List.mem_of_getElem? (i := 95) rfl)) (hw _ (List.mem_of_getElem? (i := 94) rfl)) (hw _ (List.mem_of_getElem? (i := 96) rfl)) (hw _ (List.mem_of_getElem? (i := 2) rfl)) (by decide) rfl (a := b314) E985 (argsL := []) (rest := []) (W := 0) (own_rm11P l Z a0 hw [] b314 b297 (0 : Int32) (0 : Int32) (0 : Int32) ((0 : Int32) + (1 : Int32)) T973.heap n0 (Nat.le_trans Z0 K983.1) E985 ge316 F986 F987 F988 F989 F990 F991 F992 F993 Q974 ge299 Q975 Q976 Q977 Q978 Q979 Q980 Q981 Q982 (Ne.symm (Nat.ne_of_lt (Nat.lt_of_lt_of_le (Nat.lt_of_lt_of_le A297.lt K302q.1) (Nat.le_of_eq g314.symm))))) (by decide) (by decide) (by rw [hml]; rfl) (lenOf own_pd2 rfl) rfl (by exact Nat.le_of_eq rfl) (hb hby at_56) (by decide) (by decide) ?_
          intro T994 v994 L994 X994 hq994
          obtain ⟨rfl, N994q, K994q, Q995, Q996, Q997, Q998, Q999, Q1000, Q1001, Q1002, Q1003, Q1004, Q1005, Q1006, Q1007, Q1008, Q1009, Q1010, Q1011, Q1012⟩ := hq994
          have K1013 : Keep h0 T994.heap [] := K983.trans K994q (allS (Or.inr sz315) (allS (Or.inr sz298) all0))
          have O1014 := O984.keep K994q (allS ge316 (allS ge299 all0))
          have N994 := Fr.app N973 N994q
          show own_Run p e below s _ _ _ (T994.setTop (mkF m 59 #[.val (.int i0), .val (.ref b297), .val (.ref b314), .val (.int (1 : Int32)), .val (.int (1 : Int32)), .val (.int (1 : Int32)), .val (.int (0 : Int32)), .unset, .unset, .unset, .unset] []))
          refine own_st (fun t k => XS.iload X994.here hx rfl (hb hby at_59) rfl k) ?_
          show own_Run p e below s _ _ _ (T994.setTop (mkF m 61 #[.val (.int i0), .val (.ref b297), .val (.ref b314), .val (.int (1 : Int32)), .val (.int (1 : Int32)), .val (.int (1 : Int32)), .val (.int (0 : Int32)), .unset, .unset, .unset, .unset] [(.int (1 : Int32))]))
          refine own_st (fun t k => XS.ifNo X994.here hx rfl (hb hby at_61) rfl ((if0 _ _).trans (feq (by decide : ¬ ((1 : Int32) = (0 : Int32)))).1) k) ?_
          show own_Run p e below s _ _ _ (T994.setTop (mkF m 64 #[.val (.int i0), .val (.ref b297), .val (.ref b314), .val (.int (1 : Int32)), .val (.int (1 : Int32)), .val (.int (1 : Int32)), .val (.int (0 : Int32)), .unset, .unset, .unset, .unset] []))
          refine own_st (fun t k => XS.aloadN X994.here hx rfl (hb hby at_64) rfl rfl k) ?_
          show own_Run p e below s _ _ _ (T994.setTop (mkF m 65 #[.val (.int i0), .val (.ref b297), .val (.ref b314), .val (.int (1 : Int32)), .val (.int (1 : Int32)), .val (.int (1 : Int32)), .val (.int (0 : Int32)), .unset, .unset, .unset, .unset] [(.ref b297)]))
          refine own_callV X994 hx hZ (y := (⟨"com/example/kerb2d/kerb2d/engine/Tally", "arrive", "()V"⟩ : MethodName)) (C := "com/example/kerb2d/kerb2d/engine/Tally") hown (hw _ (List.mem_of_getElem? (i := 92) rfl)) (hw _ (List.mem_of_getElem? (i := 93) rfl)) (hw _ (List.mem_of_getElem? (i := 95) rfl)) (hw _ (List.mem_of_getElem? (i := 94) rfl)) (hw _ (List.mem_of_getElem? (i := 96) rfl)) (hw _ (List.mem_of_getElem? (i := 2) rfl)) (by decide) rfl (a := b297) Q1004 (argsL := []) (rest := []) (W := 0) (own_rm11W l Z a0 hw [] b297 ((0 : Int32) + (1 : Int32)) ((0 : Int32) + (1 : Int32)) T994.heap n0 (Nat.le_trans Z0 K1013.1) Q1004 ge299 Q1005 Q1006 Q1007 Q1008 Q1009 Q1010 Q1011 Q1012) (by decide) (by decide) (by rw [hml]; rfl) (lenOf own_pd2 rfl) rfl (by exact Nat.le_of_eq rfl) (hb hby at_65) (by decide) (by decide) ?_
          intro T1015 v1015 L1015 X1015 hq1015
          obtain ⟨rfl, N1015q, K1015q, Q1016, Q1017, Q1018, Q1019, Q1020, Q1021, Q1022, Q1023, Q1024⟩ := hq1015
          have K1025 : Keep h0 T1015.heap [] := K1013.trans K1015q (allS (Or.inr sz298) all0)
          have O1026 := O1014.keep K1015q (allS ge299 all0)
          have N1015 := Fr.app N994 N1015q
          show own_Run p e below s _ _ _ (T1015.setTop (mkF m 68 #[.val (.int i0), .val (.ref b297), .val (.ref b314), .val (.int (1 : Int32)), .val (.int (1 : Int32)), .val (.int (1 : Int32)), .val (.int (0 : Int32)), .unset, .unset, .unset, .unset] []))
          refine own_st (fun t k => XS.iload X1015.here hx rfl (hb hby at_68) rfl k) ?_
          show own_Run p e below s _ _ _ (T1015.setTop (mkF m 70 #[.val (.int i0), .val (.ref b297), .val (.ref b314), .val (.int (1 : Int32)), .val (.int (1 : Int32)), .val (.int (1 : Int32)), .val (.int (0 : Int32)), .unset, .unset, .unset, .unset] [(.int (0 : Int32))]))
          refine own_st (fun t k => XS.ifYes X1015.here hx rfl (pc0 := 70) (pc' := 77) rfl (hb hby at_70) rfl ((if0 _ _).trans (teq (by decide : (0 : Int32) = (0 : Int32))).1) (by decide) (by decide) k) ?_
          show own_Run p e below s _ _ _ (T1015.setTop (mkF m 77 #[.val (.int i0), .val (.ref b297), .val (.ref b314), .val (.int (1 : Int32)), .val (.int (1 : Int32)), .val (.int (1 : Int32)), .val (.int (0 : Int32)), .unset, .unset, .unset, .unset] []))
          have E1027 := (Q995.keep K1015q)
          have F1028 := (Q996.keep K1015q (ninS (Ne.symm (Nat.ne_of_lt (Nat.lt_of_lt_of_le (Nat.lt_of_lt_of_le A297.lt K302q.1) (Nat.le_of_eq g314.symm)))) nin0))
          have F1029 := (Q997.keep K1015q (ninS (Ne.symm (Nat.ne_of_lt (Nat.lt_of_lt_of_le (Nat.lt_of_lt_of_le A297.lt K302q.1) (Nat.le_of_eq g314.symm)))) nin0))
          have F1030 := (Q998.keep K1015q (ninS (Ne.symm (Nat.ne_of_lt (Nat.lt_of_lt_of_le (Nat.lt_of_lt_of_le A297.lt K302q.1) (Nat.le_of_eq g314.symm)))) nin0))
          have F1031 := (Q999.keep K1015q (ninS (Ne.symm (Nat.ne_of_lt (Nat.lt_of_lt_of_le (Nat.lt_of_lt_of_le A297.lt K302q.1) (Nat.le_of_eq g314.symm)))) nin0))
          have F1032 := (Q1000.keep K1015q (ninS (Ne.symm (Nat.ne_of_lt (Nat.lt_of_lt_of_le (Nat.lt_of_lt_of_le A297.lt K302q.1) (Nat.le_of_eq g314.symm)))) nin0))
          have F1033 := (Q1001.keep K1015q (ninS (Ne.symm (Nat.ne_of_lt (Nat.lt_of_lt_of_le (Nat.lt_of_lt_of_le A297.lt K302q.1) (Nat.le_of_eq g314.symm)))) nin0))
          have F1034 := (Q1002.keep K1015q (ninS (Ne.symm (Nat.ne_of_lt (Nat.lt_of_lt_of_le (Nat.lt_of_lt_of_le A297.lt K302q.1) (Nat.le_of_eq g314.symm)))) nin0))
          have F1035 := (Q1003.keep K1015q (ninS (Ne.symm (Nat.ne_of_lt (Nat.lt_of_lt_of_le (Nat.lt_of_lt_of_le A297.lt K302q.1) (Nat.le_of_eq g314.symm)))) nin0))
          exact own_tail l Z a0 hw T1015 _ hx hby hml hZ hown hnm hret hlk te i0 b297 b314 (1 : Int32) (1 : Int32) (1 : Int32) (0 : Int32) (((0 : Int32) + (1 : Int32)) + (1 : Int32)) ((0 : Int32) + (1 : Int32)) ((0 : Int32) + (1 : Int32)) (0 : Int32) h0 n0 Z0 _ (X1015.more (by decide) (by decide)) rfl N1015 K1025 O1026 S_E Q1016 ge299 sz298 Q1017 Q1018 Q1019 Q1020 Q1021 Q1022 Q1023 Q1024 E1027 ge316 sz315 F1028 F1029 F1030 F1031 F1032 F1033 F1034 F1035 (Ne.symm (Nat.ne_of_lt (Nat.lt_of_lt_of_le (Nat.lt_of_lt_of_le A297.lt K302q.1) (Nat.le_of_eq g314.symm)))) (by decide) (by decide) (by decide) (by decide)
        · refine own_topI hn ?_
          show own_Run p e below s _ _ _ (T319.setTop (mkF m 40 #[.val (.int i0), .val (.ref b297), .val (.ref b314), .val (.int (1 : Int32)), .val (.int (1 : Int32)), .val (.int (1 : Int32)), .unset, .unset, .unset, .unset, .unset] [(.int (1 : Int32))]))
          refine own_st (fun t k => XS.istore X319.here hx rfl (hb hby at_40) rfl (l' := #[.val (.int i0), .val (.ref b297), .val (.ref b314), .val (.int (1 : Int32)), .val (.int (1 : Int32)), .val (.int (1 : Int32)), .val (.int (1 : Int32)), .unset, .unset, .unset, .unset]) rfl k) ?_
          show own_Run p e below s _ _ _ (T319.setTop (mkF m 42 #[.val (.int i0), .val (.ref b297), .val (.ref b314), .val (.int (1 : Int32)), .val (.int (1 : Int32)), .val (.int (1 : Int32)), .val (.int (1 : Int32)), .unset, .unset, .unset, .unset] []))
          refine own_st (fun t k => XS.iloadN X319.here hx rfl (hb hby at_42) rfl k) ?_
          show own_Run p e below s _ _ _ (T319.setTop (mkF m 43 #[.val (.int i0), .val (.ref b297), .val (.ref b314), .val (.int (1 : Int32)), .val (.int (1 : Int32)), .val (.int (1 : Int32)), .val (.int (1 : Int32)), .unset, .unset, .unset, .unset] [(.int (1 : Int32))]))
          refine own_st (fun t k => XS.ifNo X319.here hx rfl (hb hby at_43) rfl ((if0 _ _).trans (feq (by decide : ¬ ((1 : Int32) = (0 : Int32)))).1) k) ?_
          show own_Run p e below s _ _ _ (T319.setTop (mkF m 46 #[.val (.int i0), .val (.ref b297), .val (.ref b314), .val (.int (1 : Int32)), .val (.int (1 : Int32)), .val (.int (1 : Int32)), .val (.int (1 : Int32)), .unset, .unset, .unset, .unset] []))
          refine own_st (fun t k => XS.aloadN X319.here hx rfl (hb hby at_46) rfl rfl k) ?_
          show own_Run p e below s _ _ _ (T319.setTop (mkF m 47 #[.val (.int i0), .val (.ref b297), .val (.ref b314), .val (.int (1 : Int32)), .val (.int (1 : Int32)), .val (.int (1 : Int32)), .val (.int (1 : Int32)), .unset, .unset, .unset, .unset] [(.ref b297)]))
          have E1036 := ((Q303.ext E314).keep K319q)
          have F1037 := ((Q304.ext E314).keep K319q (ninS (Nat.ne_of_lt (Nat.lt_of_lt_of_le (Nat.lt_of_lt_of_le A297.lt K302q.1) (Nat.le_of_eq g314.symm))) nin0))
          have F1038 := ((Q305.ext E314).keep K319q (ninS (Nat.ne_of_lt (Nat.lt_of_lt_of_le (Nat.lt_of_lt_of_le A297.lt K302q.1) (Nat.le_of_eq g314.symm))) nin0))
          have F1039 := ((Q306.ext E314).keep K319q (ninS (Nat.ne_of_lt (Nat.lt_of_lt_of_le (Nat.lt_of_lt_of_le A297.lt K302q.1) (Nat.le_of_eq g314.symm))) nin0))
          have F1040 := ((Q307.ext E314).keep K319q (ninS (Nat.ne_of_lt (Nat.lt_of_lt_of_le (Nat.lt_of_lt_of_le A297.lt K302q.1) (Nat.le_of_eq g314.symm))) nin0))
          have F1041 := ((Q308.ext E314).keep K319q (ninS (Nat.ne_of_lt (Nat.lt_of_lt_of_le (Nat.lt_of_lt_of_le A297.lt K302q.1) (Nat.le_of_eq g314.symm))) nin0))
          have F1042 := ((Q309.ext E314).keep K319q (ninS (Nat.ne_of_lt (Nat.lt_of_lt_of_le (Nat.lt_of_lt_of_le A297.lt K302q.1) (Nat.le_of_eq g314.symm))) nin0))
          have F1043 := ((Q310.ext E314).keep K319q (ninS (Nat.ne_of_lt (Nat.lt_of_lt_of_le (Nat.lt_of_lt_of_le A297.lt K302q.1) (Nat.le_of_eq g314.symm))) nin0))
          have F1044 := ((Q311.ext E314).keep K319q (ninS (Nat.ne_of_lt (Nat.lt_of_lt_of_le (Nat.lt_of_lt_of_le A297.lt K302q.1) (Nat.le_of_eq g314.symm))) nin0))
          refine own_callV X319 hx hZ (y := (⟨"com/example/kerb2d/kerb2d/engine/Tally", "enter", "()V"⟩ : MethodName)) (C := "com/example/kerb2d/kerb2d/engine/Tally") hown (hw _ (List.mem_of_getElem? (i := 87) rfl)) (hw _ (List.mem_of_getElem? (i := 88) rfl)) (hw _ (List.mem_of_getElem? (i := 90) rfl)) (hw _ (List.mem_of_getElem? (i := 89) rfl)) (hw _ (List.mem_of_getElem? (i := 91) rfl)) (hw _ (List.mem_of_getElem? (i := 2) rfl)) (by decide) rfl (a := b297) E1036 (argsL := []) (rest := []) (W := 0) (own_rm10W l Z a0 hw [] b297 (0 : Int32) (0 : Int32) T319.heap n0 (Nat.le_trans Z0 K329.1) E1036 ge299 F1037 F1038 F1039 F1040 F1041 F1042 F1043 F1044) (by decide) (by decide) (by rw [hml]; rfl) (lenOf own_pd2 rfl) rfl (by exact Nat.le_of_eq rfl) (hb hby at_47) (by decide) (by decide) ?_
          intro T1045 v1045 L1045 X1045 hq1045
          obtain ⟨rfl, N1045q, K1045q, Q1046, Q1047, Q1048, Q1049, Q1050, Q1051, Q1052, Q1053, Q1054⟩ := hq1045
          have K1055 : Keep h0 T1045.heap [] := K329.trans K1045q (allS (Or.inr sz298) all0)
          have O1056 := O330.keep K1045q (allS ge299 all0)
          have N1045 := Fr.app N319 N1045q
          show own_Run p e below s _ _ _ (T1045.setTop (mkF m 50 #[.val (.int i0), .val (.ref b297), .val (.ref b314), .val (.int (1 : Int32)), .val (.int (1 : Int32)), .val (.int (1 : Int32)), .val (.int (1 : Int32)), .unset, .unset, .unset, .unset] []))
          refine own_st (fun t k => XS.iload X1045.here hx rfl (hb hby at_50) rfl k) ?_
          show own_Run p e below s _ _ _ (T1045.setTop (mkF m 52 #[.val (.int i0), .val (.ref b297), .val (.ref b314), .val (.int (1 : Int32)), .val (.int (1 : Int32)), .val (.int (1 : Int32)), .val (.int (1 : Int32)), .unset, .unset, .unset, .unset] [(.int (1 : Int32))]))
          refine own_st (fun t k => XS.ifNo X1045.here hx rfl (hb hby at_52) rfl ((if0 _ _).trans (feq (by decide : ¬ ((1 : Int32) = (0 : Int32)))).1) k) ?_
          show own_Run p e below s _ _ _ (T1045.setTop (mkF m 55 #[.val (.int i0), .val (.ref b297), .val (.ref b314), .val (.int (1 : Int32)), .val (.int (1 : Int32)), .val (.int (1 : Int32)), .val (.int (1 : Int32)), .unset, .unset, .unset, .unset] []))
          refine own_st (fun t k => XS.aloadN X1045.here hx rfl (hb hby at_55) rfl rfl k) ?_
          show own_Run p e below s _ _ _ (T1045.setTop (mkF m 56 #[.val (.int i0), .val (.ref b297), .val (.ref b314), .val (.int (1 : Int32)), .val (.int (1 : Int32)), .val (.int (1 : Int32)), .val (.int (1 : Int32)), .unset, .unset, .unset, .unset] [(.ref b314)]))
          have E1057 := (Q320.keep K1045q)
          have F1058 := (Q321.keep K1045q (ninS (Ne.symm (Nat.ne_of_lt (Nat.lt_of_lt_of_le (Nat.lt_of_lt_of_le A297.lt K302q.1) (Nat.le_of_eq g314.symm)))) nin0))
          have F1059 := (Q322.keep K1045q (ninS (Ne.symm (Nat.ne_of_lt (Nat.lt_of_lt_of_le (Nat.lt_of_lt_of_le A297.lt K302q.1) (Nat.le_of_eq g314.symm)))) nin0))
          have F1060 := (Q323.keep K1045q (ninS (Ne.symm (Nat.ne_of_lt (Nat.lt_of_lt_of_le (Nat.lt_of_lt_of_le A297.lt K302q.1) (Nat.le_of_eq g314.symm)))) nin0))
          have F1061 := (Q324.keep K1045q (ninS (Ne.symm (Nat.ne_of_lt (Nat.lt_of_lt_of_le (Nat.lt_of_lt_of_le A297.lt K302q.1) (Nat.le_of_eq g314.symm)))) nin0))
          have F1062 := (Q325.keep K1045q (ninS (Ne.symm (Nat.ne_of_lt (Nat.lt_of_lt_of_le (Nat.lt_of_lt_of_le A297.lt K302q.1) (Nat.le_of_eq g314.symm)))) nin0))
          have F1063 := (Q326.keep K1045q (ninS (Ne.symm (Nat.ne_of_lt (Nat.lt_of_lt_of_le (Nat.lt_of_lt_of_le A297.lt K302q.1) (Nat.le_of_eq g314.symm)))) nin0))
          have F1064 := (Q327.keep K1045q (ninS (Ne.symm (Nat.ne_of_lt (Nat.lt_of_lt_of_le (Nat.lt_of_lt_of_le A297.lt K302q.1) (Nat.le_of_eq g314.symm)))) nin0))
          have F1065 := (Q328.keep K1045q (ninS (Ne.symm (Nat.ne_of_lt (Nat.lt_of_lt_of_le (Nat.lt_of_lt_of_le A297.lt K302q.1) (Nat.le_of_eq g314.symm)))) nin0))
          refine own_callV X1045 hx hZ (y := (⟨"com/example/kerb2d/kerb2d/engine/Tally", "arrive", "()V"⟩ : MethodName)) (C := "com/example/kerb2d/kerb2d/engine/Tally") hown (hw _ (List.mem_of_getElem? (i := 92) rfl)) (hw _ (List.mem_of_getElem? (i := 93) rfl)) (hw _ (List.mem_of_getElem? (i := 95) rfl)) (hw _ (List.mem_of_getElem? (i := 94) rfl)) (hw _ (List.mem_of_getElem? (i := 96) rfl)) (hw _ (List.mem_of_getElem? (i := 2) rfl)) (by decide) rfl (a := b314) E1057 (argsL := []) (rest := []) (W := 0) (own_rm11P l Z a0 hw [] b314 b297 (0 : Int32) (0 : Int32) (0 : Int32) ((0 : Int32) + (1 : Int32)) T1045.heap n0 (Nat.le_trans Z0 K1055.1) E1057 ge316 F1058 F1059 F1060 F1061 F1062 F1063 F1064 F1065 Q1046 ge299 Q1047 Q1048 Q1049 Q1050 Q1051 Q1052 Q1053 Q1054 (Ne.symm (Nat.ne_of_lt (Nat.lt_of_lt_of_le (Nat.lt_of_lt_of_le A297.lt K302q.1) (Nat.le_of_eq g314.symm))))) (by decide) (by decide) (by rw [hml]; rfl) (lenOf own_pd2 rfl) rfl (by exact Nat.le_of_eq rfl) (hb hby at_56) (by decide) (by decide) ?_
          intro T1066 v1066 L1066 X1066 hq1066
          obtain ⟨rfl, N1066q, K1066q, Q1067, Q1068, Q1069, Q1070, Q1071, Q1072, Q1073, Q1074, Q1075, Q1076, Q1077, Q1078, Q1079, Q1080, Q1081, Q1082, Q1083, Q1084⟩ := hq1066
          have K1085 : Keep h0 T1066.heap [] := K1055.trans K1066q (allS (Or.inr sz315) (allS (Or.inr sz298) all0))
          have O1086 := O1056.keep K1066q (allS ge316 (allS ge299 all0))
          have N1066 := Fr.app N1045 N1066q
          show own_Run p e below s _ _ _ (T1066.setTop (mkF m 59 #[.val (.int i0), .val (.ref b297), .val (.ref b314), .val (.int (1 : Int32)), .val (.int (1 : Int32)), .val (.int (1 : Int32)), .val (.int (1 : Int32)), .unset, .unset, .unset, .unset] []))
          refine own_st (fun t k => XS.iload X1066.here hx rfl (hb hby at_59) rfl k) ?_
          show own_Run p e below s _ _ _ (T1066.setTop (mkF m 61 #[.val (.int i0), .val (.ref b297), .val (.ref b314), .val (.int (1 : Int32)), .val (.int (1 : Int32)), .val (.int (1 : Int32)), .val (.int (1 : Int32)), .unset, .unset, .unset, .unset] [(.int (1 : Int32))]))
          refine own_st (fun t k => XS.ifNo X1066.here hx rfl (hb hby at_61) rfl ((if0 _ _).trans (feq (by decide : ¬ ((1 : Int32) = (0 : Int32)))).1) k) ?_
          show own_Run p e below s _ _ _ (T1066.setTop (mkF m 64 #[.val (.int i0), .val (.ref b297), .val (.ref b314), .val (.int (1 : Int32)), .val (.int (1 : Int32)), .val (.int (1 : Int32)), .val (.int (1 : Int32)), .unset, .unset, .unset, .unset] []))
          refine own_st (fun t k => XS.aloadN X1066.here hx rfl (hb hby at_64) rfl rfl k) ?_
          show own_Run p e below s _ _ _ (T1066.setTop (mkF m 65 #[.val (.int i0), .val (.ref b297), .val (.ref b314), .val (.int (1 : Int32)), .val (.int (1 : Int32)), .val (.int (1 : Int32)), .val (.int (1 : Int32)), .unset, .unset, .unset, .unset] [(.ref b297)]))
          refine own_callV X1066 hx hZ (y := (⟨"com/example/kerb2d/kerb2d/engine/Tally", "arrive", "()V"⟩ : MethodName)) (C := "com/example/kerb2d/kerb2d/engine/Tally") hown (hw _ (List.mem_of_getElem? (i := 92) rfl)) (hw _ (List.mem_of_getElem? (i := 93) rfl)) (hw _ (List.mem_of_getElem? (i := 95) rfl)) (hw _ (List.mem_of_getElem? (i := 94) rfl)) (hw _ (List.mem_of_getElem? (i := 96) rfl)) (hw _ (List.mem_of_getElem? (i := 2) rfl)) (by decide) rfl (a := b297) Q1076 (argsL := []) (rest := []) (W := 0) (own_rm11W l Z a0 hw [] b297 ((0 : Int32) + (1 : Int32)) ((0 : Int32) + (1 : Int32)) T1066.heap n0 (Nat.le_trans Z0 K1085.1) Q1076 ge299 Q1077 Q1078 Q1079 Q1080 Q1081 Q1082 Q1083 Q1084) (by decide) (by decide) (by rw [hml]; rfl) (lenOf own_pd2 rfl) rfl (by exact Nat.le_of_eq rfl) (hb hby at_65) (by decide) (by decide) ?_
          intro T1087 v1087 L1087 X1087 hq1087
          obtain ⟨rfl, N1087q, K1087q, Q1088, Q1089, Q1090, Q1091, Q1092, Q1093, Q1094, Q1095, Q1096⟩ := hq1087
          have K1097 : Keep h0 T1087.heap [] := K1085.trans K1087q (allS (Or.inr sz298) all0)
          have O1098 := O1086.keep K1087q (allS ge299 all0)
          have N1087 := Fr.app N1066 N1087q
          show own_Run p e below s _ _ _ (T1087.setTop (mkF m 68 #[.val (.int i0), .val (.ref b297), .val (.ref b314), .val (.int (1 : Int32)), .val (.int (1 : Int32)), .val (.int (1 : Int32)), .val (.int (1 : Int32)), .unset, .unset, .unset, .unset] []))
          refine own_st (fun t k => XS.iload X1087.here hx rfl (hb hby at_68) rfl k) ?_
          show own_Run p e below s _ _ _ (T1087.setTop (mkF m 70 #[.val (.int i0), .val (.ref b297), .val (.ref b314), .val (.int (1 : Int32)), .val (.int (1 : Int32)), .val (.int (1 : Int32)), .val (.int (1 : Int32)), .unset, .unset, .unset, .unset] [(.int (1 : Int32))]))
          refine own_st (fun t k => XS.ifNo X1087.here hx rfl (hb hby at_70) rfl ((if0 _ _).trans (feq (by decide : ¬ ((1 : Int32) = (0 : Int32)))).1) k) ?_
          show own_Run p e below s _ _ _ (T1087.setTop (mkF m 73 #[.val (.int i0), .val (.ref b297), .val (.ref b314), .val (.int (1 : Int32)), .val (.int (1 : Int32)), .val (.int (1 : Int32)), .val (.int (1 : Int32)), .unset, .unset, .unset, .unset] []))
          refine own_st (fun t k => XS.aloadN X1087.here hx rfl (hb hby at_73) rfl rfl k) ?_
          show own_Run p e below s _ _ _ (T1087.setTop (mkF m 74 #[.val (.int i0), .val (.ref b297), .val (.ref b314), .val (.int (1 : Int32)), .val (.int (1 : Int32)), .val (.int (1 : Int32)), .val (.int (1 : Int32)), .unset, .unset, .unset, .unset] [(.ref b314)]))
          have E1099 := (Q1067.keep K1087q)
          have F1100 := (Q1068.keep K1087q (ninS (Ne.symm (Nat.ne_of_lt (Nat.lt_of_lt_of_le (Nat.lt_of_lt_of_le A297.lt K302q.1) (Nat.le_of_eq g314.symm)))) nin0))
          have F1101 := (Q1069.keep K1087q (ninS (Ne.symm (Nat.ne_of_lt (Nat.lt_of_lt_of_le (Nat.lt_of_lt_of_le A297.lt K302q.1) (Nat.le_of_eq g314.symm)))) nin0))
          have F1102 := (Q1070.keep K1087q (ninS (Ne.symm (Nat.ne_of_lt (Nat.lt_of_lt_of_le (Nat.lt_of_lt_of_le A297.lt K302q.1) (Nat.le_of_eq g314.symm)))) nin0))
          have F1103 := (Q1071.keep K1087q (ninS (Ne.symm (Nat.ne_of_lt (Nat.lt_of_lt_of_le (Nat.lt_of_lt_of_le A297.lt K302q.1) (Nat.le_of_eq g314.symm)))) nin0))
          have F1104 := (Q1072.keep K1087q (ninS (Ne.symm (Nat.ne_of_lt (Nat.lt_of_lt_of_le (Nat.lt_of_lt_of_le A297.lt K302q.1) (Nat.le_of_eq g314.symm)))) nin0))
          have F1105 := (Q1073.keep K1087q (ninS (Ne.symm (Nat.ne_of_lt (Nat.lt_of_lt_of_le (Nat.lt_of_lt_of_le A297.lt K302q.1) (Nat.le_of_eq g314.symm)))) nin0))
          have F1106 := (Q1074.keep K1087q (ninS (Ne.symm (Nat.ne_of_lt (Nat.lt_of_lt_of_le (Nat.lt_of_lt_of_le A297.lt K302q.1) (Nat.le_of_eq g314.symm)))) nin0))
          have F1107 := (Q1075.keep K1087q (ninS (Ne.symm (Nat.ne_of_lt (Nat.lt_of_lt_of_le (Nat.lt_of_lt_of_le A297.lt K302q.1) (Nat.le_of_eq g314.symm)))) nin0))
          refine own_callV X1087 hx hZ (y := (⟨"com/example/kerb2d/kerb2d/engine/Tally", "arrive", "()V"⟩ : MethodName)) (C := "com/example/kerb2d/kerb2d/engine/Tally") hown (hw _ (List.mem_of_getElem? (i := 92) rfl)) (hw _ (List.mem_of_getElem? (i := 93) rfl)) (hw _ (List.mem_of_getElem? (i := 95) rfl)) (hw _ (List.mem_of_getElem? (i := 94) rfl)) (hw _ (List.mem_of_getElem? (i := 96) rfl)) (hw _ (List.mem_of_getElem? (i := 2) rfl)) (by decide) rfl (a := b314) E1099 (argsL := []) (rest := []) (W := 0) (own_rm11P l Z a0 hw [] b314 b297 ((0 : Int32) + (1 : Int32)) (0 : Int32) (((0 : Int32) + (1 : Int32)) + (1 : Int32)) ((0 : Int32) + (1 : Int32)) T1087.heap n0 (Nat.le_trans Z0 K1097.1) E1099 ge316 F1100 F1101 F1102 F1103 F1104 F1105 F1106 F1107 Q1088 ge299 Q1089 Q1090 Q1091 Q1092 Q1093 Q1094 Q1095 Q1096 (Ne.symm (Nat.ne_of_lt (Nat.lt_of_lt_of_le (Nat.lt_of_lt_of_le A297.lt K302q.1) (Nat.le_of_eq g314.symm))))) (by decide) (by decide) (by rw [hml]; rfl) (lenOf own_pd2 rfl) rfl (by exact Nat.le_of_eq rfl) (hb hby at_74) (by decide) (by decide) ?_
          intro T1108 v1108 L1108 X1108 hq1108
          obtain ⟨rfl, N1108q, K1108q, Q1109, Q1110, Q1111, Q1112, Q1113, Q1114, Q1115, Q1116, Q1117, Q1118, Q1119, Q1120, Q1121, Q1122, Q1123, Q1124, Q1125, Q1126⟩ := hq1108
          have K1127 : Keep h0 T1108.heap [] := K1097.trans K1108q (allS (Or.inr sz315) (allS (Or.inr sz298) all0))
          have O1128 := O1098.keep K1108q (allS ge316 (allS ge299 all0))
          have N1108 := Fr.app N1087 N1108q
          show own_Run p e below s _ _ _ (T1108.setTop (mkF m 77 #[.val (.int i0), .val (.ref b297), .val (.ref b314), .val (.int (1 : Int32)), .val (.int (1 : Int32)), .val (.int (1 : Int32)), .val (.int (1 : Int32)), .unset, .unset, .unset, .unset] []))
          exact own_tail l Z a0 hw T1108 _ hx hby hml hZ hown hnm hret hlk te i0 b297 b314 (1 : Int32) (1 : Int32) (1 : Int32) (1 : Int32) ((((0 : Int32) + (1 : Int32)) + (1 : Int32)) + (1 : Int32)) ((0 : Int32) + (1 : Int32)) (((0 : Int32) + (1 : Int32)) + (1 : Int32)) (0 : Int32) h0 n0 Z0 _ (X1108.more (by decide) (by decide)) rfl N1108 K1127 O1128 S_E Q1118 ge299 sz298 Q1119 Q1120 Q1121 Q1122 Q1123 Q1124 Q1125 Q1126 Q1109 ge316 sz315 Q1110 Q1111 Q1112 Q1113 Q1114 Q1115 Q1116 Q1117 (Ne.symm (Nat.ne_of_lt (Nat.lt_of_lt_of_le (Nat.lt_of_lt_of_le A297.lt K302q.1) (Nat.le_of_eq g314.symm)))) (by decide) (by decide) (by decide) (by decide)
set_option maxRecDepth 65536 in
set_option maxHeartbeats 40000000 in
theorem own_comes_1 {Post : Tables → Env → Array Value → State → Outcome → State → Prop} (hpost : ∀ tb e args s v u, (limb_1_1.after args s (.returned v) u = true ∧ limb_1_2.after args s (.returned v) u = true ∧ True) → FrameEnd s (.returned v) u (Jvm.fieldLocs frame_1_writes args s ++ Jvm.arrayLocs frame_1_arrays args s ++ Jvm.staticLocs frame_1_statics s) 16 192 → Post tb e args s (.returned v) u) :
    ArmFor flags0 classFile x code maxLocals ret World_1 tables_1 room_1 Calls_1 rest_1 Pre_1 Post := by
  intro l hfl _ _ p e ha hc hk s m args below hf hA hF happ hP
  obtain ⟨hcalls, hrest, hpre⟩ := hP
  obtain ⟨-, -, -, hnamed, -, -, -, hat⟩ := (Spec.applies_iff hf).mp happ
  obtain ⟨hg, hn⟩ := and_e (Cond.before_iff.mp (show (Jvm.Cond.and given_1 narrow_1).before args s = true from hpre))
  obtain ⟨gv1, gv2⟩ := and_e hg
  obtain ⟨w0, rfl⟩ : ∃ w0 : Value, args = #[w0] := by
    have hs : args.size = 1 := by simpa [Cond.value, given_1] using gv1
    obtain ⟨L⟩ := args
    match L, hs with
    | [w0], _ => exact ⟨w0, rfl⟩
  have hw := fun d (hd : d ∈ tables_1) => atoms_spec (ws := Jvm.Cond.code x code maxLocals ret :: tables_1) hat d (List.mem_cons_of_mem _ hd)
  have hfit : Fit s := fun {y c} hc i hi => by
    obtain ⟨ha, rfl⟩ := Array.getElem?_eq_some_iff.mp hc
    have q := List.all_eq_true.mp ((Array.all_eq_true_iff_forall_mem.mp hF) _ (Array.getElem_mem ha)) i (List.mem_range.mpr hi)
    simpa [Array.getElem?_eq_getElem hi] using q
  obtain ⟨hsets, hown0⟩ := atoms_of _ (rest_1_c_eq ▸ (show rest_1_c.before _ s = true from hrest))
  obtain ⟨i0, ei0⟩ := is_v gv2
  obtain rfl : w0 = (.int i0) := Option.some.inj ei0
  obtain ⟨te, ete⟩ := exa_v (Cond.before_iff.mp (hsets _ (List.mem_of_getElem? (i := 2) rfl)))
  have SE := Sta.start ete (Or.inl (hsets _ (List.mem_of_getElem? (i := 1) rfl)))
  obtain ⟨n, o, h1, h2, h3, _, L, rfl, ⟨rfl, N⟩, hq⟩ := own_rm0 l s _ hw tables_1 i0 te s.heap s.heap.size (Nat.le_refl _) (Old.start s) SE p e ha hc hk s m _ below hf ((Spec.applies_iff_loose hf).mp happ).1 ⟨rfl, State.Warmed39.refl s, rfl⟩ trivial
  refine ⟨n, _, h1, h2, h3, hpost _ _ _ _ _ _ ⟨Cond.after_iff.mpr rfl, Cond.after_iff.mpr (eq_i res_at (Term.int_eval (1)) rfl), trivial⟩ ⟨hq.1, hq.2.1, (hq.2.2.sift fun y hy => Or.inr (N y hy)).mono (by decide) (by decide)⟩⟩
theorem main_1_1 : Claimed_1_1 := own_comes_1 fun _ _ _ _ _ _ h hF => ⟨h.1, hF⟩
theorem main_1_2 : Claimed_1_2 := own_comes_1 fun _ _ _ _ _ _ h hF => ⟨h.2.1, hF⟩
end Jvm.Pilot.@@N@@
namespace Jvm.Pilot.@@N@@
open Jvm Jvm.ClassFile Sem Op Lib Jvm.Free Jvm.Stand Jvm.Pilot.@@N@@.Jvm.D
/-! MADE BY PROGRAM (witnessworld.py) out of the Statement's table words and the real class files: 12 classes; the members and pool entries that the words name. The judged class is class 1, her method 1. -/
namespace start1
open Jvm.ClassFile
def u (s : String) : CpInfo := .utf8 (stringToUtf16 s)
/-- a pool by its gaps: so many unusable entries, then the entry; so many at the end -/
def gap : Nat → List CpInfo → List CpInfo
  | 0, r => r
  | n + 1, r => .unusable :: gap n r
def poolList (es : List (Nat × CpInfo)) (last : Nat) : List CpInfo := es.foldr (fun e r => gap e.1 (e.2 :: r)) (gap last [])
def pool (es : List (Nat × CpInfo)) (last : Nat) : Array CpInfo := ⟨poolList es last⟩
def fileOf (pool : Array CpInfo) (this : Nat) (attrs : Array Attribute := #[]) (ms : Array MethodInfo := #[]) (fl : Nat := 33) (sup : Nat := 0) (ifs : Array Nat := #[]) (fds : Array FieldInfo := #[]) : ClassFile where
  minorVersion := 0
  majorVersion := 65
  constantPool := pool
  accessFlags := fl
  thisClass := this
  superClass := sup
  interfaces := ifs
  fields := fds
  methods := ms
  attributes := attrs
def plain (name : String) (sup : Option ClassId) : Class where
  name := name
  kind := .ordinary
  loader := none
  accessFlags := 33
  super := sup
  interfaces := #[]
  cf := none
  fields := #[]
  methods := #[]
  instanceTypes := #[]
  staticTypes := #[]
  resolved := #[]
  callSites := []
  init := .initialized
  statics := none
  mirror := none

def pool0 : Array CpInfo := pool [(5, u "<init>"), (0, u "()V"), (1, .class_ 10), (1, u "java/lang/Object")] 113

def k0c0 : Code := { maxStack := 0, maxLocals := 1, code := object_method_1_code, exceptionTable := #[], attributes := #[] }
def k0m0 : Method := { name := "<init>", desc := "()V", sig := { parameters := [], returnType := none }, accessFlags := 1, code := some k0c0 }
/-- java/lang/Object -/
def k0 : Class := { plain "java/lang/Object" none with
  accessFlags := 33
  interfaces := #[]
  cf := some (fileOf pool0 8 #[] #[{ accessFlags := 1, nameIndex := 5, descriptorIndex := 6, attributes := #[] }] 33 0 #[] #[])
  fields := #[]
  methods := #[k0m0]
  instanceTypes := #[]
  staticTypes := #[]
  resolved := Array.replicate 124 none
  statics := none }

def pool1 : Array CpInfo := pool [(2, .class_ 4), (0, .nameAndType 5 6), (0, u "java/lang/Object"), (0, u "<init>"), (0, u "()V"), (0, .class_ 8), (0, u "com/example/kerb2d/kerb2d/engine/Tally"), (0, .methodref 7 3), (0, .methodref 7 11), (0, .nameAndType 5 12), (0, u "(Lcom/example/kerb2d/kerb2d/engine/Tally;)V"), (0, .methodref 7 14), (0, .nameAndType 15 6), (0, u "enter"), (0, .methodref 7 17), (0, .nameAndType 18 6), (0, u "arrive"), (0, .methodref 7 20), (0, .nameAndType 21 22), (0, u "measures"), (0, u "(DIDID)Lcom/example/kerb2d/kerb2d/engine/Measures;"), (0, .methodref 24 25), (0, .class_ 26), (0, .nameAndType 27 28), (0, u "com/example/kerb2d/kerb2d/engine/Measures"), (0, u "arrived"), (0, u "()I"), (0, .methodref 24 30), (0, .nameAndType 31 28), (0, u "waiting"), (0, .class_ 33), (0, u "com/example/kerb2d/kerb2d/engine/TallyArrivePinLaw"), (2, u "law"), (0, u "(I)Z")] 3

def k1m0 : Method := { name := "<init>", desc := "()V", sig := { parameters := [], returnType := none }, accessFlags := 1, code := none }
def k1c1 : Code := { maxStack := 9, maxLocals := 11, code := code, exceptionTable := #[], attributes := #[] }
def k1m1 : Method := { name := "law", desc := "(I)Z", sig := { parameters := [.int], returnType := some .boolean }, accessFlags := 9, code := some k1c1 }
/-- com/example/kerb2d/kerb2d/engine/TallyArrivePinLaw -/
def k1 : Class := { plain "com/example/kerb2d/kerb2d/engine/TallyArrivePinLaw" (some 0) with
  accessFlags := 49
  interfaces := #[]
  cf := some (fileOf pool1 32 #[] #[{ accessFlags := 1, nameIndex := 5, descriptorIndex := 6, attributes := #[] }, { accessFlags := 9, nameIndex := 36, descriptorIndex := 37, attributes := #[] }] 49 2 #[] #[])
  fields := #[]
  methods := #[k1m0, k1m1]
  instanceTypes := #[]
  staticTypes := #[]
  resolved := Array.replicate 41 none
  statics := none }

def pool2 : Array CpInfo := pool [(1, .methodref 2 3), (0, .class_ 4), (0, .nameAndType 5 6), (0, u "com/example/kerb2d/kerb2d/engine/Tally"), (0, u "<init>"), (0, u "(Lcom/example/kerb2d/kerb2d/engine/Tally;)V"), (0, .methodref 8 9), (0, .class_ 10), (0, .nameAndType 5 11), (0, u "java/lang/Object"), (0, u "()V"), (0, .fieldref 2 13), (0, .nameAndType 14 15), (0, u "whole"), (0, u "Lcom/example/kerb2d/kerb2d/engine/Tally;"), (0, .fieldref 2 17), (0, .nameAndType 18 19), (0, u "arrived"), (0, u "I"), (0, .methodref 2 21), (0, .nameAndType 22 11), (0, u "arrive"), (0, .fieldref 2 24), (0, .nameAndType 25 19), (0, u "entered"), (0, .methodref 2 27), (0, .nameAndType 28 11), (0, u "enter"), (7, .fieldref 2 37), (0, .nameAndType 38 19), (0, u "left"), (0, .fieldref 2 40), (0, .nameAndType 41 19), (0, u "boarded"), (15, .fieldref 2 58), (0, .nameAndType 59 19), (0, u "finished"), (0, .fieldref 2 61), (0, .nameAndType 62 63), (0, u "conflictSum"), (0, u "J"), (7, u "()Ljava/util/OptionalDouble;"), (1, .class_ 75), (1, u "java/util/OptionalDouble"), (1, .fieldref 2 78), (0, .nameAndType 79 19), (0, u "delayed"), (0, .fieldref 2 81), (0, .nameAndType 82 83), (0, u "delaySum"), (0, u "D"), (4, .class_ 89), (0, u "com/example/kerb2d/kerb2d/engine/Measures"), (4, .methodref 73 95), (0, .nameAndType 96 71), (0, u "empty"), (0, .methodref 88 98), (0, .nameAndType 5 99), (0, u "(DIIIIIDDLjava/util/OptionalDouble;JLjava/util/OptionalDouble;II)V"), (3, u "measures"), (0, u "(DIDID)Lcom/example/kerb2d/kerb2d/engine/Measures;")] 4

def k2c0 : Code := { maxStack := 2, maxLocals := 1, code := prog_18_method_1_code, exceptionTable := #[], attributes := #[] }
def k2m0 : Method := { name := "<init>", desc := "()V", sig := { parameters := [], returnType := none }, accessFlags := 0, code := some k2c0 }
def k2c1 : Code := { maxStack := 2, maxLocals := 2, code := prog_18_method_2_code, exceptionTable := #[], attributes := #[] }
def k2m1 : Method := { name := "<init>", desc := "(Lcom/example/kerb2d/kerb2d/engine/Tally;)V", sig := { parameters := [(.object "com/example/kerb2d/kerb2d/engine/Tally")], returnType := none }, accessFlags := 0, code := some k2c1 }
def k2c2 : Code := { maxStack := 3, maxLocals := 1, code := prog_18_method_3_code, exceptionTable := #[], attributes := #[] }
def k2m2 : Method := { name := "arrive", desc := "()V", sig := { parameters := [], returnType := none }, accessFlags := 0, code := some k2c2 }
def k2c3 : Code := { maxStack := 3, maxLocals := 1, code := prog_18_method_4_code, exceptionTable := #[], attributes := #[] }
def k2m3 : Method := { name := "enter", desc := "()V", sig := { parameters := [], returnType := none }, accessFlags := 0, code := some k2c3 }
def k2c4 : Code := { maxStack := 20, maxLocals := 9, code := prog_18_method_7_code, exceptionTable := #[], attributes := #[] }
def k2m4 : Method := { name := "measures", desc := "(DIDID)Lcom/example/kerb2d/kerb2d/engine/Measures;", sig := { parameters := [.double, .int, .double, .int, .double], returnType := some (.object "com/example/kerb2d/kerb2d/engine/Measures") }, accessFlags := 0, code := some k2c4 }
/-- com/example/kerb2d/kerb2d/engine/Tally -/
def k2 : Class := { plain "com/example/kerb2d/kerb2d/engine/Tally" (some 0) with
  accessFlags := 48
  interfaces := #[]
  cf := some (fileOf pool2 2 #[] #[{ accessFlags := 0, nameIndex := 5, descriptorIndex := 11, attributes := #[] }, { accessFlags := 0, nameIndex := 5, descriptorIndex := 6, attributes := #[] }, { accessFlags := 0, nameIndex := 22, descriptorIndex := 11, attributes := #[] }, { accessFlags := 0, nameIndex := 28, descriptorIndex := 11, attributes := #[] }, { accessFlags := 0, nameIndex := 103, descriptorIndex := 104, attributes := #[] }] 48 8 #[] #[{ accessFlags := 18, nameIndex := 14, descriptorIndex := 15, attributes := #[] }, { accessFlags := 2, nameIndex := 18, descriptorIndex := 19, attributes := #[] }, { accessFlags := 2, nameIndex := 25, descriptorIndex := 19, attributes := #[] }, { accessFlags := 2, nameIndex := 38, descriptorIndex := 19, attributes := #[] }, { accessFlags := 2, nameIndex := 41, descriptorIndex := 19, attributes := #[] }, { accessFlags := 2, nameIndex := 79, descriptorIndex := 19, attributes := #[] }, { accessFlags := 2, nameIndex := 82, descriptorIndex := 83, attributes := #[] }, { accessFlags := 2, nameIndex := 59, descriptorIndex := 19, attributes := #[] }, { accessFlags := 2, nameIndex := 62, descriptorIndex := 63, attributes := #[] }])
  fields := #[{ name := "whole", type := (.object "com/example/kerb2d/kerb2d/engine/Tally"), accessFlags := 18, slot := 0, constantValue := 0 }, { name := "arrived", type := .int, accessFlags := 2, slot := 1, constantValue := 0 }, { name := "entered", type := .int, accessFlags := 2, slot := 2, constantValue := 0 }, { name := "left", type := .int, accessFlags := 2, slot := 3, constantValue := 0 }, { name := "boarded", type := .int, accessFlags := 2, slot := 4, constantValue := 0 }, { name := "delayed", type := .int, accessFlags := 2, slot := 5, constantValue := 0 }, { name := "delaySum", type := .double, accessFlags := 2, slot := 6, constantValue := 0 }, { name := "finished", type := .int, accessFlags := 2, slot := 7, constantValue := 0 }, { name := "conflictSum", type := .long, accessFlags := 2, slot := 8, constantValue := 0 }]
  methods := #[k2m0, k2m1, k2m2, k2m3, k2m4]
  instanceTypes := #[(.object "com/example/kerb2d/kerb2d/engine/Tally"), .int, .int, .int, .int, .int, .double, .int, .long]
  staticTypes := #[]
  resolved := Array.replicate 109 none
  statics := none }

def pool3 : Array CpInfo := pool [(1, .methodref 2 3), (0, .class_ 4), (0, .nameAndType 5 6), (0, u "java/lang/Object"), (0, u "<init>"), (0, u "()V"), (0, .class_ 8), (0, u "java/lang/Record")] 13

def k3c0 : Code := { maxStack := 1, maxLocals := 1, code := jdk_30_method_1_code, exceptionTable := #[], attributes := #[] }
def k3m0 : Method := { name := "<init>", desc := "()V", sig := { parameters := [], returnType := none }, accessFlags := 4, code := some k3c0 }
/-- java/lang/Record -/
def k3 : Class := { plain "java/lang/Record" (some 0) with
  accessFlags := 1057
  interfaces := #[]
  cf := some (fileOf pool3 7 #[] #[{ accessFlags := 4, nameIndex := 5, descriptorIndex := 6, attributes := #[] }] 1057 2 #[] #[])
  fields := #[]
  methods := #[k3m0]
  instanceTypes := #[]
  staticTypes := #[]
  resolved := Array.replicate 22 none
  statics := none }

def pool4 : Array CpInfo := pool [(1, .methodref 2 3), (0, .class_ 4), (0, .nameAndType 5 6), (0, u "java/lang/Record"), (0, u "<init>"), (0, u "()V"), (0, .fieldref 8 9), (0, .class_ 10), (0, .nameAndType 11 12), (0, u "com/example/kerb2d/kerb2d/engine/Measures"), (0, u "time"), (0, u "D"), (0, .fieldref 8 14), (0, .nameAndType 15 16), (0, u "arrived"), (0, u "I"), (0, .fieldref 8 18), (0, .nameAndType 19 16), (0, u "entered"), (0, .fieldref 8 21), (0, .nameAndType 22 16), (0, u "waiting"), (0, .fieldref 8 24), (0, .nameAndType 25 16), (0, u "left"), (0, .fieldref 8 27), (0, .nameAndType 28 16), (0, u "present"), (0, .fieldref 8 30), (0, .nameAndType 31 12), (0, u "meanSpeed"), (0, .fieldref 8 33), (0, .nameAndType 34 12), (0, u "density"), (0, .fieldref 8 36), (0, .nameAndType 37 38), (0, u "meanDelay"), (0, u "Ljava/util/OptionalDouble;"), (0, .fieldref 8 40), (0, .nameAndType 41 42), (0, u "totalConflicts"), (0, u "J"), (0, .fieldref 8 44), (0, .nameAndType 45 38), (0, u "meanConflicts"), (0, .fieldref 8 47), (0, .nameAndType 48 16), (0, u "boarded"), (0, .fieldref 8 50), (0, .nameAndType 51 16), (0, u "waitingForBus"), (12, u "(DIIIIIDDLjava/util/OptionalDouble;JLjava/util/OptionalDouble;II)V"), (4, u "()I")] 36

def k4c0 : Code := { maxStack := 3, maxLocals := 18, code := prog_10_method_1_code, exceptionTable := #[], attributes := #[] }
def k4m0 : Method := { name := "<init>", desc := "(DIIIIIDDLjava/util/OptionalDouble;JLjava/util/OptionalDouble;II)V", sig := { parameters := [.double, .int, .int, .int, .int, .int, .double, .double, (.object "java/util/OptionalDouble"), .long, (.object "java/util/OptionalDouble"), .int, .int], returnType := none }, accessFlags := 1, code := some k4c0 }
def k4c1 : Code := { maxStack := 1, maxLocals := 1, code := prog_10_method_6_code, exceptionTable := #[], attributes := #[] }
def k4m1 : Method := { name := "arrived", desc := "()I", sig := { parameters := [], returnType := some .int }, accessFlags := 1, code := some k4c1 }
def k4c2 : Code := { maxStack := 1, maxLocals := 1, code := prog_10_method_8_code, exceptionTable := #[], attributes := #[] }
def k4m2 : Method := { name := "waiting", desc := "()I", sig := { parameters := [], returnType := some .int }, accessFlags := 1, code := some k4c2 }
/-- com/example/kerb2d/kerb2d/engine/Measures -/
def k4 : Class := { plain "com/example/kerb2d/kerb2d/engine/Measures" (some 3) with
  accessFlags := 49
  interfaces := #[]
  cf := some (fileOf pool4 8 #[] #[{ accessFlags := 1, nameIndex := 5, descriptorIndex := 64, attributes := #[] }, { accessFlags := 1, nameIndex := 15, descriptorIndex := 69, attributes := #[] }, { accessFlags := 1, nameIndex := 22, descriptorIndex := 69, attributes := #[] }] 49 2 #[] #[{ accessFlags := 18, nameIndex := 11, descriptorIndex := 12, attributes := #[] }, { accessFlags := 18, nameIndex := 15, descriptorIndex := 16, attributes := #[] }, { accessFlags := 18, nameIndex := 19, descriptorIndex := 16, attributes := #[] }, { accessFlags := 18, nameIndex := 22, descriptorIndex := 16, attributes := #[] }, { accessFlags := 18, nameIndex := 25, descriptorIndex := 16, attributes := #[] }, { accessFlags := 18, nameIndex := 28, descriptorIndex := 16, attributes := #[] }, { accessFlags := 18, nameIndex := 31, descriptorIndex := 12, attributes := #[] }, { accessFlags := 18, nameIndex := 34, descriptorIndex := 12, attributes := #[] }, { accessFlags := 18, nameIndex := 37, descriptorIndex := 38, attributes := #[] }, { accessFlags := 18, nameIndex := 41, descriptorIndex := 42, attributes := #[] }, { accessFlags := 18, nameIndex := 45, descriptorIndex := 38, attributes := #[] }, { accessFlags := 18, nameIndex := 48, descriptorIndex := 16, attributes := #[] }, { accessFlags := 18, nameIndex := 51, descriptorIndex := 16, attributes := #[] }])
  fields := #[{ name := "time", type := .double, accessFlags := 18, slot := 0, constantValue := 0 }, { name := "arrived", type := .int, accessFlags := 18, slot := 1, constantValue := 0 }, { name := "entered", type := .int, accessFlags := 18, slot := 2, constantValue := 0 }, { name := "waiting", type := .int, accessFlags := 18, slot := 3, constantValue := 0 }, { name := "left", type := .int, accessFlags := 18, slot := 4, constantValue := 0 }, { name := "present", type := .int, accessFlags := 18, slot := 5, constantValue := 0 }, { name := "meanSpeed", type := .double, accessFlags := 18, slot := 6, constantValue := 0 }, { name := "density", type := .double, accessFlags := 18, slot := 7, constantValue := 0 }, { name := "meanDelay", type := (.object "java/util/OptionalDouble"), accessFlags := 18, slot := 8, constantValue := 0 }, { name := "totalConflicts", type := .long, accessFlags := 18, slot := 9, constantValue := 0 }, { name := "meanConflicts", type := (.object "java/util/OptionalDouble"), accessFlags := 18, slot := 10, constantValue := 0 }, { name := "boarded", type := .int, accessFlags := 18, slot := 11, constantValue := 0 }, { name := "waitingForBus", type := .int, accessFlags := 18, slot := 12, constantValue := 0 }]
  methods := #[k4m0, k4m1, k4m2]
  instanceTypes := #[.double, .int, .int, .int, .int, .int, .double, .double, (.object "java/util/OptionalDouble"), .long, (.object "java/util/OptionalDouble"), .int, .int]
  staticTypes := #[]
  resolved := Array.replicate 106 none
  statics := none }

def pool5 : Array CpInfo := pool [(2, .class_ 4), (1, u "java/lang/Object"), (0, u "<init>"), (0, u "()V"), (1, .class_ 10), (1, u "java/util/OptionalDouble"), (0, u "isPresent"), (0, u "Z"), (6, u "value"), (0, u "D"), (0, .fieldref 8 22), (0, .nameAndType 23 24), (0, u "EMPTY"), (0, u "Ljava/util/OptionalDouble;"), (28, u "empty"), (48, u "()Ljava/util/OptionalDouble;")] 41

def k5m0 : Method := { name := "<init>", desc := "()V", sig := { parameters := [], returnType := none }, accessFlags := 2, code := none }
def k5c1 : Code := { maxStack := 1, maxLocals := 0, code := jdk_2648_method_2_code, exceptionTable := #[], attributes := #[] }
def k5m1 : Method := { name := "empty", desc := "()Ljava/util/OptionalDouble;", sig := { parameters := [], returnType := some (.object "java/util/OptionalDouble") }, accessFlags := 9, code := some k5c1 }
/-- java/util/OptionalDouble -/
def k5 : Class := { plain "java/util/OptionalDouble" (some 0) with
  accessFlags := 49
  interfaces := #[]
  cf := some (fileOf pool5 8 #[] #[{ accessFlags := 2, nameIndex := 5, descriptorIndex := 6, attributes := #[] }, { accessFlags := 9, nameIndex := 53, descriptorIndex := 102, attributes := #[] }] 49 2 #[] #[{ accessFlags := 26, nameIndex := 23, descriptorIndex := 24, attributes := #[] }, { accessFlags := 18, nameIndex := 11, descriptorIndex := 12, attributes := #[] }, { accessFlags := 18, nameIndex := 19, descriptorIndex := 20, attributes := #[] }])
  fields := #[{ name := "EMPTY", type := (.object "java/util/OptionalDouble"), accessFlags := 26, slot := 0, constantValue := 0 }, { name := "isPresent", type := .boolean, accessFlags := 18, slot := 0, constantValue := 0 }, { name := "value", type := .double, accessFlags := 18, slot := 1, constantValue := 0 }]
  methods := #[k5m0, k5m1]
  instanceTypes := #[.boolean, .double]
  staticTypes := #[(.object "java/util/OptionalDouble")]
  resolved := Array.replicate 144 none
  statics := some 0 }

def pool6 : Array CpInfo := pool [(1, u "java/lang/Cloneable"), (0, .class_ 1), (0, u "java/lang/Object"), (0, .class_ 3)] 3

/-- java/lang/Cloneable -/
def k6 : Class := { plain "java/lang/Cloneable" (some 0) with
  accessFlags := 1537
  interfaces := #[]
  cf := some (fileOf pool6 2 #[] #[] 1537 4 #[] #[])
  fields := #[]
  methods := #[]
  instanceTypes := #[]
  staticTypes := #[]
  resolved := Array.replicate 8 none
  statics := none }

def pool7 : Array CpInfo := pool [(1, u "java/io/Serializable"), (0, .class_ 1), (0, u "java/lang/Object"), (0, .class_ 3)] 3

/-- java/io/Serializable -/
def k7 : Class := { plain "java/io/Serializable" (some 0) with
  accessFlags := 1537
  interfaces := #[]
  cf := some (fileOf pool7 2 #[] #[] 1537 4 #[] #[])
  fields := #[]
  methods := #[]
  instanceTypes := #[]
  staticTypes := #[]
  resolved := Array.replicate 8 none
  statics := none }

/-- the primitive byte -/
def k8 : Class := { plain "byte" none with kind := .primitive 'B', accessFlags := 0x411 }
/-- [B -/
def k9 : Class := { plain "[B" (some 0) with kind := .array 8 .byte, interfaces := #[6, 7], accessFlags := 1041 }

/-- the primitive int -/
def k10 : Class := { plain "int" none with kind := .primitive 'I', accessFlags := 0x411 }
/-- [I -/
def k11 : Class := { plain "[I" (some 0) with kind := .array 10 .int, interfaces := #[6, 7], accessFlags := 1041 }

def heap : Heap := #[{ cls := 5, slots := #[.ref 1], vm := .statics 5 },
  { cls := 5, slots := #[.int 0, .double 0], vm := .none }]
def classes : Array Class := #[k0, k1, k2, k3, k4, k5, k6, k7, k8, k9, k10, k11]
def interned : List (Array UInt16 × Addr) := []
def slotsUsed : Nat := 3
def theMethod : MethodId := ⟨1, 1⟩
def args0 : Array Value := #[.int 3]
def aboutOver (below : List Frame) : State where
  vm := { classes := classes, interned := interned.toArray }
  heap := heap
  slotsUsed := slotsUsed
  threads := #[{ frames := .invoking theMethod args0 :: below }]
def below0 : List Frame := [.native { method := ⟨0, 0⟩, args := #[] }]
def about1 : State := aboutOver below0
def p0 : Program := .bare "" "" ""
def e0 : Env := launch0.env 0 0 0
theorem w_frames : about1.frames = Frame.invoking theMethod args0 :: below0 := rfl
set_option maxRecDepth 65536 in
theorem w_args : argsFit about1.vm theMethod args0 = true := by decide +kernel
set_option maxRecDepth 65536 in
theorem w_heap : heapFits about1 = true := by decide +kernel
set_option maxRecDepth 65536 in
theorem w_runnable : about1.curStatus? = some .runnable := by decide +kernel
set_option maxRecDepth 65536 in
theorem w_alone : about1.alone = true := by decide +kernel
set_option maxRecDepth 65536 in
theorem w_named : about1.methodNamed? x = some theMethod := by decide +kernel
set_option maxRecDepth 65536 in
theorem w_hears : about1.hears theMethod below0 = true := by decide +kernel
set_option maxRecDepth 65536 in
theorem w_ripe : about1.ripe theMethod args0 below0 = true := by decide +kernel
theorem w_running : about1.status = .running := rfl
set_option maxRecDepth 65536 in
theorem w_room : about1.hasRoom e0.platform room_1 = true :=
  launch0.hasRoom_least _ room_1 (by decide +kernel) (by decide +kernel) (by decide +kernel) (by decide +kernel) (by decide +kernel) (by decide +kernel)
theorem allAtoms_all (ts : List Jvm.Cond) (a : Array Jvm.Value) (st : Jvm.State) : (allAtoms ts).before a st = ts.all (fun c => c.before a st) := by
  induction ts with
  | nil => rfl
  | cons c t ih =>
    show (Jvm.Cond.and c (allAtoms t)).before a st = _
    rw [Jvm.Cond.before_and, ih, List.all_cons]
def words1 : List Jvm.Cond := Jvm.Cond.code x code maxLocals ret :: tables_1
/-- a 'code' word, met by the world's own term for the bytes: nothing is compared byte by byte -/
theorem code_word {y : MethodName} {bytes : ByteArray} {mx : Nat} {rt : Option FieldType} {a : Array Value} {s : State} {m : MethodId} {meth : Method} {c : Code} (h1 : s.methodNamed? y = some m) (h2 : s.vm.method? m = some meth) (h3 : meth.code = some c) (h4 : c.code = bytes)
    (h5 : (c.maxLocals == mx && c.exceptionTable.isEmpty && decide (c.maxStack ≤ mostOperands) && decide (meth.sig.returnType = rt) && !meth.locks && decide (parseMethodDescriptor y.desc = some meth.sig)) = true) : (Jvm.Cond.code y bytes mx rt).before a s = true := by
  simp only [Bool.and_eq_true, beq_iff_eq, Bool.not_eq_true', decide_eq_true_eq] at h5
  obtain ⟨⟨⟨⟨⟨g1, g2⟩, g3⟩, g4⟩, g5⟩, g6⟩ := h5
  simp [Cond.before, Cond.holds, Cond.value, h1, h2, h3, h4, g1, g2, g3, g4, g5, g6]
def isCode : Jvm.Cond → Bool
  | .code _ _ _ _ => true
  | _ => false
theorem all_split {L : List Jvm.Cond} {P : Jvm.Cond → Bool} (h1 : L.all (fun c => isCode c || P c) = true) (h2 : ∀ c ∈ L.filter isCode, P c = true) : L.all P = true := by
  refine List.all_eq_true.mpr fun c hc => ?_
  have h := List.all_eq_true.mp h1 c hc
  rcases Bool.eq_false_or_eq_true (isCode c) with hi | hi
  · exact h2 c (List.mem_filter.mpr ⟨hc, hi⟩)
  · simpa [hi] using h
set_option maxRecDepth 65536 in
theorem w_c0 : (Jvm.Cond.code x code maxLocals ret).before args0 about1 = true := code_word (m := ⟨1, 1⟩) (meth := k1m1) (c := k1c1) (by decide +kernel) rfl rfl rfl (by decide +kernel)
set_option maxRecDepth 65536 in
theorem w_c1 : (Jvm.Cond.code ({ cls := "com/example/kerb2d/kerb2d/engine/Tally", name := "<init>", desc := "()V" } : Jvm.MethodName) prog_18_method_1_code (1 : Nat) (Option.none : Option Jvm.ClassFile.FieldType)).before args0 about1 = true := code_word (m := ⟨2, 0⟩) (meth := k2m0) (c := k2c0) (by decide +kernel) rfl rfl rfl (by decide +kernel)
set_option maxRecDepth 65536 in
theorem w_c2 : (Jvm.Cond.code ({ cls := "com/example/kerb2d/kerb2d/engine/Tally", name := "<init>", desc := "(Lcom/example/kerb2d/kerb2d/engine/Tally;)V" } : Jvm.MethodName) prog_18_method_2_code (2 : Nat) (Option.none : Option Jvm.ClassFile.FieldType)).before args0 about1 = true := code_word (m := ⟨2, 1⟩) (meth := k2m1) (c := k2c1) (by decide +kernel) rfl rfl rfl (by decide +kernel)
set_option maxRecDepth 65536 in
theorem w_c3 : (Jvm.Cond.code ({ cls := "java/lang/Object", name := "<init>", desc := "()V" } : Jvm.MethodName) object_method_1_code (1 : Nat) (Option.none : Option Jvm.ClassFile.FieldType)).before args0 about1 = true := code_word (m := ⟨0, 0⟩) (meth := k0m0) (c := k0c0) (by decide +kernel) rfl rfl rfl (by decide +kernel)
set_option maxRecDepth 65536 in
theorem w_c4 : (Jvm.Cond.code ({ cls := "com/example/kerb2d/kerb2d/engine/Tally", name := "measures", desc := "(DIDID)Lcom/example/kerb2d/kerb2d/engine/Measures;" } : Jvm.MethodName) prog_18_method_7_code (9 : Nat) (Option.some (Jvm.ClassFile.FieldType.object "com/example/kerb2d/kerb2d/engine/Measures"))).before args0 about1 = true := code_word (m := ⟨2, 4⟩) (meth := k2m4) (c := k2c4) (by decide +kernel) rfl rfl rfl (by decide +kernel)
set_option maxRecDepth 65536 in
theorem w_c5 : (Jvm.Cond.code ({ cls := "java/util/OptionalDouble", name := "empty", desc := "()Ljava/util/OptionalDouble;" } : Jvm.MethodName) jdk_2648_method_2_code (0 : Nat) (Option.some (Jvm.ClassFile.FieldType.object "java/util/OptionalDouble"))).before args0 about1 = true := code_word (m := ⟨5, 1⟩) (meth := k5m1) (c := k5c1) (by decide +kernel) rfl rfl rfl (by decide +kernel)
set_option maxRecDepth 65536 in
theorem w_c6 : (Jvm.Cond.code ({ cls := "com/example/kerb2d/kerb2d/engine/Measures", name := "<init>", desc := "(DIIIIIDDLjava/util/OptionalDouble;JLjava/util/OptionalDouble;II)V" } : Jvm.MethodName) prog_10_method_1_code (18 : Nat) (Option.none : Option Jvm.ClassFile.FieldType)).before args0 about1 = true := code_word (m := ⟨4, 0⟩) (meth := k4m0) (c := k4c0) (by decide +kernel) rfl rfl rfl (by decide +kernel)
set_option maxRecDepth 65536 in
theorem w_c7 : (Jvm.Cond.code ({ cls := "java/lang/Record", name := "<init>", desc := "()V" } : Jvm.MethodName) jdk_30_method_1_code (1 : Nat) (Option.none : Option Jvm.ClassFile.FieldType)).before args0 about1 = true := code_word (m := ⟨3, 0⟩) (meth := k3m0) (c := k3c0) (by decide +kernel) rfl rfl rfl (by decide +kernel)
set_option maxRecDepth 65536 in
theorem w_c8 : (Jvm.Cond.code ({ cls := "com/example/kerb2d/kerb2d/engine/Measures", name := "arrived", desc := "()I" } : Jvm.MethodName) prog_10_method_6_code (1 : Nat) (Option.some Jvm.ClassFile.FieldType.int)).before args0 about1 = true := code_word (m := ⟨4, 1⟩) (meth := k4m1) (c := k4c1) (by decide +kernel) rfl rfl rfl (by decide +kernel)
set_option maxRecDepth 65536 in
theorem w_c9 : (Jvm.Cond.code ({ cls := "com/example/kerb2d/kerb2d/engine/Measures", name := "waiting", desc := "()I" } : Jvm.MethodName) prog_10_method_8_code (1 : Nat) (Option.some Jvm.ClassFile.FieldType.int)).before args0 about1 = true := code_word (m := ⟨4, 2⟩) (meth := k4m2) (c := k4c2) (by decide +kernel) rfl rfl rfl (by decide +kernel)
set_option maxRecDepth 65536 in
theorem w_c10 : (Jvm.Cond.code ({ cls := "com/example/kerb2d/kerb2d/engine/Tally", name := "enter", desc := "()V" } : Jvm.MethodName) prog_18_method_4_code (1 : Nat) (Option.none : Option Jvm.ClassFile.FieldType)).before args0 about1 = true := code_word (m := ⟨2, 3⟩) (meth := k2m3) (c := k2c3) (by decide +kernel) rfl rfl rfl (by decide +kernel)
set_option maxRecDepth 65536 in
theorem w_c11 : (Jvm.Cond.code ({ cls := "com/example/kerb2d/kerb2d/engine/Tally", name := "arrive", desc := "()V" } : Jvm.MethodName) prog_18_method_3_code (1 : Nat) (Option.none : Option Jvm.ClassFile.FieldType)).before args0 about1 = true := code_word (m := ⟨2, 2⟩) (meth := k2m2) (c := k2c2) (by decide +kernel) rfl rfl rfl (by decide +kernel)
def codes1 : List Jvm.Cond := [Jvm.Cond.code x code maxLocals ret, Jvm.Cond.code ({ cls := "com/example/kerb2d/kerb2d/engine/Tally", name := "<init>", desc := "()V" } : Jvm.MethodName) prog_18_method_1_code (1 : Nat) (Option.none : Option Jvm.ClassFile.FieldType), Jvm.Cond.code ({ cls := "com/example/kerb2d/kerb2d/engine/Tally", name := "<init>", desc := "(Lcom/example/kerb2d/kerb2d/engine/Tally;)V" } : Jvm.MethodName) prog_18_method_2_code (2 : Nat) (Option.none : Option Jvm.ClassFile.FieldType), Jvm.Cond.code ({ cls := "java/lang/Object", name := "<init>", desc := "()V" } : Jvm.MethodName) object_method_1_code (1 : Nat) (Option.none : Option Jvm.ClassFile.FieldType), Jvm.Cond.code ({ cls := "com/example/kerb2d/kerb2d/engine/Tally", name := "measures", desc := "(DIDID)Lcom/example/kerb2d/kerb2d/engine/Measures;" } : Jvm.MethodName) prog_18_method_7_code (9 : Nat) (Option.some (Jvm.ClassFile.FieldType.object "com/example/kerb2d/kerb2d/engine/Measures")), Jvm.Cond.code ({ cls := "java/util/OptionalDouble", name := "empty", desc := "()Ljava/util/OptionalDouble;" } : Jvm.MethodName) jdk_2648_method_2_code (0 : Nat) (Option.some (Jvm.ClassFile.FieldType.object "java/util/OptionalDouble")), Jvm.Cond.code ({ cls := "com/example/kerb2d/kerb2d/engine/Measures", name := "<init>", desc := "(DIIIIIDDLjava/util/OptionalDouble;JLjava/util/OptionalDouble;II)V" } : Jvm.MethodName) prog_10_method_1_code (18 : Nat) (Option.none : Option Jvm.ClassFile.FieldType), Jvm.Cond.code ({ cls := "java/lang/Record", name := "<init>", desc := "()V" } : Jvm.MethodName) jdk_30_method_1_code (1 : Nat) (Option.none : Option Jvm.ClassFile.FieldType), Jvm.Cond.code ({ cls := "com/example/kerb2d/kerb2d/engine/Measures", name := "arrived", desc := "()I" } : Jvm.MethodName) prog_10_method_6_code (1 : Nat) (Option.some Jvm.ClassFile.FieldType.int), Jvm.Cond.code ({ cls := "com/example/kerb2d/kerb2d/engine/Measures", name := "waiting", desc := "()I" } : Jvm.MethodName) prog_10_method_8_code (1 : Nat) (Option.some Jvm.ClassFile.FieldType.int), Jvm.Cond.code ({ cls := "com/example/kerb2d/kerb2d/engine/Tally", name := "enter", desc := "()V" } : Jvm.MethodName) prog_18_method_4_code (1 : Nat) (Option.none : Option Jvm.ClassFile.FieldType), Jvm.Cond.code ({ cls := "com/example/kerb2d/kerb2d/engine/Tally", name := "arrive", desc := "()V" } : Jvm.MethodName) prog_18_method_3_code (1 : Nat) (Option.none : Option Jvm.ClassFile.FieldType)]
set_option maxRecDepth 65536 in
theorem codes_eq : words1.filter isCode = codes1 := rfl
theorem w_codes : ∀ c ∈ words1.filter isCode, c.before args0 about1 = true := by
  rw [codes_eq]
  intro c hc
  simp only [codes1, List.mem_cons, List.not_mem_nil, or_false] at hc
  rcases hc with rfl | rfl | rfl | rfl | rfl | rfl | rfl | rfl | rfl | rfl | rfl | rfl
  · exact w_c0
  · exact w_c1
  · exact w_c2
  · exact w_c3
  · exact w_c4
  · exact w_c5
  · exact w_c6
  · exact w_c7
  · exact w_c8
  · exact w_c9
  · exact w_c10
  · exact w_c11
set_option maxRecDepth 65536 in
theorem w_t1 : (words1.take 24).all (fun c => isCode c || c.before args0 about1) = true := by decide +kernel
set_option maxRecDepth 65536 in
theorem w_t2 : ((words1.drop 24).take 24).all (fun c => isCode c || c.before args0 about1) = true := by decide +kernel
set_option maxRecDepth 65536 in
theorem w_t3 : (((words1.drop 24).drop 24).take 24).all (fun c => isCode c || c.before args0 about1) = true := by decide +kernel
set_option maxRecDepth 65536 in
theorem w_t4 : ((((words1.drop 24).drop 24).drop 24).take 24).all (fun c => isCode c || c.before args0 about1) = true := by decide +kernel
set_option maxRecDepth 65536 in
theorem w_t5 : ((((words1.drop 24).drop 24).drop 24).drop 24).all (fun c => isCode c || c.before args0 about1) = true := by decide +kernel
theorem w_tables : (allAtoms (Jvm.Cond.code x code maxLocals ret :: tables_1)).before args0 about1 = true := by
  rw [allAtoms_all]
  show words1.all (fun c => c.before args0 about1) = true
  refine all_split ?_ w_codes
  rw [← List.take_append_drop 24 words1, List.all_append, w_t1, ← List.take_append_drop 24 (words1.drop 24), List.all_append, w_t2, ← List.take_append_drop 24 ((words1.drop 24).drop 24), List.all_append, w_t3, ← List.take_append_drop 24 (((words1.drop 24).drop 24).drop 24), List.all_append, w_t4, w_t5]
  rfl
set_option maxRecDepth 65536 in
theorem w_rest : rest_1_c.before args0 about1 = true := by decide +kernel
set_option maxRecDepth 65536 in
theorem w_case : (Jvm.Cond.and given_1 narrow_1).before args0 about1 = true := by decide +kernel
theorem w_applies : (headSpec (Jvm.Cond.code x code maxLocals ret :: tables_1) room_1).applies x e0.platform about1 = true :=
  (Spec.applies_iff w_frames).mpr ⟨w_running, w_runnable, w_alone, w_named, w_hears, w_ripe, w_room, w_tables⟩
theorem atStart : AtStart classFile x code maxLocals ret World_1 tables_1 room_1 Calls_1 rest_1 Pre_1 launch0 p0 e0 about1 theMethod args0 below0 :=
  ⟨lists_1, trivial, launch0.admits_env _ _ _, launch0.least_env, fairChoices_fair.cas, fairChoices_fair.clock, w_frames, w_args, w_heap, w_applies, trivial, w_rest, w_case⟩
end start1
theorem witness_1 : WitnessClaimed_1 := ⟨start1.p0, start1.e0, start1.about1, start1.theMethod, start1.args0, start1.below0, start1.atStart⟩
end Jvm.Pilot.@@N@@
