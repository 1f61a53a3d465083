import JvmDerived
import JvmDerived.Pilot.@@N@@Statement
import JvmDerived.Pilot.@@N@@Code
set_option linter.unusedVariables false
set_option linter.unusedSimpArgs false
namespace Jvm.Pilot.@@N@@
open Jvm Jvm.ClassFile Sem Op Lib Jvm.Free Jvm.Stand Jvm.LawKit Jvm.RoadKit Bundle Jvm.Pilot.@@N@@.Jvm.D
def own_Run (p : Program) (e : Env) (below : List Frame) (s : State) (Q : Option Value → Heap → List Loc → Prop) (ck sk : Nat) (U : State) : Prop :=
  ∃ s₂ o, Steps p.tables e below U s₂ ∧ s₂.status = .running ∧ Ended s₂ below o ∧ ∃ v L, o = .returned v ∧ Q v s₂.heap L ∧ FrameEnd s o s₂ L ck sk
section OwnLayer
variable {p : Program} {l : Launch} {e : Env} {R : Room} {s : State} {m : MethodId} {args : Array Value} {below : List Frame} {meth : Method} {c : Code} {T : State} {locs : List Loc} {cells slots : Nat} {Z : State} {a0 : Array Value} {h : Heap} {Q : Option Value → Heap → List Loc → Prop} {ck sk : Nat}
theorem own_st {U U' : State} (hh : ∀ t, Steps p.tables e below U' t → Steps p.tables e below U t) (K : own_Run p e below s Q ck sk U') : own_Run p e below s Q ck sk U := by
  obtain ⟨s2, o, h1, r⟩ := K
  exact ⟨s2, o, hh _ h1, r⟩
theorem own_topI {pc : Nat} {Ls : Array Slot} {st : List Value} {v v' : Int32} (hv : v = v') (K : own_Run p e below s Q ck sk (T.setTop (mkF m pc Ls (.int v' :: st)))) : own_Run p e below s Q ck sk (T.setTop (mkF m pc Ls (.int v :: st))) := hv ▸ K
theorem own_topJ {pc : Nat} {Ls : Array Slot} {st : List Value} {v v' : Int64} (hv : v = v') (K : own_Run p e below s Q ck sk (T.setTop (mkF m pc Ls (.long v' :: st)))) : own_Run p e below s Q ck sk (T.setTop (mkF m pc Ls (.long v :: st))) := hv ▸ K
theorem own_topD {pc : Nat} {Ls : Array Slot} {st : List Value} {v v' : UInt64} (hv : v = v') (K : own_Run p e below s Q ck sk (T.setTop (mkF m pc Ls (.double v' :: st)))) : own_Run p e below s Q ck sk (T.setTop (mkF m pc Ls (.double v :: st))) := hv ▸ K
theorem own_ret (X : Stand p l e R s m args below meth c T locs cells slots) (hx : p.tables.exec = Jvm.exec) (hlk : meth.locks = false) {pc : Nat} {Ls : Array Slot} {w : Value} {t : FieldType} {i : Instr} {rest : List Value} (hret : meth.sig.returnType = some t) (hn : narrow t w = w)
    (hi : (i = .ireturn ∧ (t = .int ∨ t = .boolean ∨ t = .byte ∨ t = .char ∨ t = .short) ∧ ∃ z, w = .int z) ∨ (i = .lreturn ∧ t = .long ∧ ∃ z, w = .long z) ∨ (i = .dreturn ∧ t = .double ∧ ∃ z, w = .double z) ∨ (i = .freturn ∧ t = .float ∧ ∃ z, w = .float z) ∨ (i = .areturn ∧ t.isReference = true ∧ w.isRef = true))
    (hd : decode c.code pc = .ok (i, 1)) (hc : cells ≤ ck) (hs : slots ≤ sk) (hq : Q (some w) T.heap locs) : own_Run p e below s Q ck sk (T.setTop (mkF m pc Ls (w :: rest))) := by
  obtain ⟨fs, hr, hrun, hended, hW, hsame⟩ := X.leave (v := some w) (fun q => by rw [hret] at q; cases q) hlk
  exact ⟨_, _, retOut X hx hret hn hi hd hr, hrun, hended, _, _, rfl, hq, ⟨_, rfl⟩, hW, hsame.mono hc hs⟩
theorem own_retV (X : Stand p l e R s m args below meth c T locs cells slots) (hx : p.tables.exec = Jvm.exec) (hlk : meth.locks = false) {pc : Nat} {Ls : Array Slot} (hret : meth.sig.returnType = none)
    (hd : decode c.code pc = .ok (.return_, 1)) (hc : cells ≤ ck) (hs : slots ≤ sk) (hq : Q none T.heap locs) : own_Run p e below s Q ck sk (T.setTop (mkF m pc Ls [])) := by
  obtain ⟨fs, hr, hrun, hended, hW, hsame⟩ := X.leave (v := none) (fun _ => rfl) hlk
  exact ⟨_, _, X.returnOut hx hret hd hr, hrun, hended, _, _, rfl, hq, ⟨_, rfl⟩, hW, hsame.mono hc hs⟩
theorem own_body {y : MethodName} {bytes : ByteArray} {maxL : Nat} {ret : Option FieldType} {ws : List Jvm.Cond} {rm : Room} {as' : Array Value} {h0 : Heap} (hpl : plainFor y = true)
    (hbody : ∀ (p : Program) (e : Env) (s : State) (m : MethodId) (below : List Frame) (meth : Method) (c : Code) (s₁ : State), p.tables.exec = Jvm.exec → c.code = bytes → c.maxLocals = maxL → Z.Warmed39 s.vm → s.vm.findClass y.cls = some m.cls → meth.name = y.name → meth.sig.returnType = ret → meth.locks = false → Stand p l e rm s m as' below meth c s₁ [] 0 0 → s₁.heap = h0 → own_Run p e below s Q rm.cells rm.slots (s₁.setTop (entryFrame m as' maxL))) :
    MetFree l y (head1 (Jvm.Cond.code y bytes maxL ret :: ws) rm) (fun a U => a = as' ∧ Z.Warmed39 U.vm ∧ U.heap = h0) (fun _ _ _ _ _ => True) (fun _ U o U' => ∃ v L, o = .returned v ∧ Q v U'.heap L ∧ FrameEnd U o U' L rm.cells rm.slots) := by
  refine MetFree.of_bodySF hpl hisR ?_
  intro p e s m args below meth c s₁ Bd hml0 hP hK
  obtain ⟨rfl, hZ, hh⟩ := hP
  exact hbody p e s m below meth c s₁ Bd.exec Bd.bytes hml0 hZ (findClass_of_methodNamed Bd.named) (name_of_methodNamed Bd.named Bd.method).1 Bd.returns Bd.notSynchronized (Stand.of_body Bd) (by rw [← hh, Bd.state]; rfl)
theorem own_callI (X : Stand p l e R s m args below meth c T locs cells slots) (hx : p.tables.exec = Jvm.exec) (hZ : Z.Warmed39 s.vm) {own : String} {idx : Nat} {y : MethodName} (hy1 : y.name = "<init>") (hown : s.vm.findClass own = some m.cls) (w1 : (Jvm.Cond.methodLink own idx y).before a0 Z = true) (w2 : (Jvm.Cond.instanceMethod y).before a0 Z = true)
    {bytes : ByteArray} {maxL : Nat} (w3 : (Jvm.Cond.code y bytes maxL none).before a0 Z = true) (wz : (Jvm.Cond.initialized y.cls).before a0 Z = true) (hy : y.cls ≠ "java/lang/invoke/MethodHandle" ∧ y.cls ≠ "java/lang/invoke/VarHandle") (eT : T.heap = h) {rm : Room} {Qc : Option Value → Heap → List Loc → Prop} {a : Addr} {argsL rest : List Value}
    (hM : MetFree l y (head1 [Jvm.Cond.code y bytes maxL none] rm) (fun b U => b = (Value.ref a :: argsL).toArray ∧ Z.Warmed39 U.vm ∧ U.heap = h) (fun _ _ _ _ _ => True) (fun _ U o U' => ∃ v L, o = .returned v ∧ Qc v U'.heap L ∧ FrameEnd U o U' L rm.cells rm.slots))
    {W : Nat} (hf : rm.frames + 1 ≤ R.frames) (hl : W + (maxL + 11) + rm.locals ≤ R.locals) {pc : Nat} {Ls : Array Slot} {st : List Value} (hsize : Ls.size = c.maxLocals) (hlen : ∀ sig, parseMethodDescriptor y.desc = some sig → argsL.length = sig.parameters.length) (hst : st = argsL.reverse ++ .ref a :: rest) (hW : (rest.map fun v => v.category).sum ≤ W) (hd : decode c.code pc = .ok (.invokespecial idx, 3)) (hc : cells + rm.cells ≤ R.cells) (hs : slots + rm.slots ≤ R.slots)
    (K : ∀ (T' : State) (v : Option Value) (L : List Loc), Stand p l e R s m args below meth c T' (locs ++ L) (cells + rm.cells) (slots + rm.slots) → Qc v T'.heap L → own_Run p e below s Q ck sk (T'.setTop (mkF m (pc + 3) Ls (v.toList ++ rest)))) :
    own_Run p e below s Q ck sk (T.setTop (mkF m pc Ls st)) := by
  obtain ⟨v, _, ⟨T', L', k', n'⟩, -, X', ⟨Lc, hQ, hl', hk', hn'⟩, st'⟩ := X.specialBack hx (y := y) hy1 hown (mvT hZ w1) (mvT hZ w2) (mvT hZ w3) hy (backOf (W := W) hM hZ w3 wz hf hl) (g := mkF m pc Ls st) rfl hsize (Steps.refl _) (a := a) (argsL := argsL) (rest := rest) hlen hst (by show 2 * 0 + _ ≤ _; omega) hd (fun _ _ => ⟨rfl, eT, hc, hs⟩)
  dsimp only [Pt.U, Pt.locs, Pt.cells, Pt.slots] at X' hl' hk' hn' st' hQ
  subst hl' hk' hn'
  exact own_st (fun t k => st'.trans k) (K T' v Lc X' hQ)
theorem own_callV (X : Stand p l e R s m args below meth c T locs cells slots) (hx : p.tables.exec = Jvm.exec) (hZ : Z.Warmed39 s.vm) {own C : String} {idx : Nat} {y : MethodName} (hown : s.vm.findClass own = some m.cls) (w1 : (Jvm.Cond.methodLink own idx y).before a0 Z = true) (w2 : (Jvm.Cond.declares y).before a0 Z = true) (w3 : (Jvm.Cond.selects C y y).before a0 Z = true) (w4 : (Jvm.Cond.instanceMethod y).before a0 Z = true)
    {bytes : ByteArray} {maxL : Nat} {ret : Option FieldType} (w5 : (Jvm.Cond.code y bytes maxL ret).before a0 Z = true) (wz : (Jvm.Cond.initialized y.cls).before a0 Z = true) (hy : y.cls ≠ "java/lang/invoke/MethodHandle" ∧ y.cls ≠ "java/lang/invoke/VarHandle") (eT : T.heap = h) {a : Addr} (E : Exa Z h a C) {rm : Room} {Qc : Option Value → Heap → List Loc → Prop} {argsL rest : List Value}
    (hM : MetFree l y (head1 [Jvm.Cond.code y bytes maxL ret] rm) (fun b U => b = (Value.ref a :: argsL).toArray ∧ Z.Warmed39 U.vm ∧ U.heap = h) (fun _ _ _ _ _ => True) (fun _ U o U' => ∃ v L, o = .returned v ∧ Qc v U'.heap L ∧ FrameEnd U o U' L rm.cells rm.slots))
    {W : Nat} (hf : rm.frames + 1 ≤ R.frames) (hl : W + (maxL + 11) + rm.locals ≤ R.locals) {pc : Nat} {Ls : Array Slot} {st : List Value} (hsize : Ls.size = c.maxLocals) (hlen : ∀ sig, parseMethodDescriptor y.desc = some sig → argsL.length = sig.parameters.length) (hst : st = argsL.reverse ++ .ref a :: rest) (hW : (rest.map fun v => v.category).sum ≤ W) (hd : decode c.code pc = .ok (.invokevirtual idx, 3)) (hc : cells + rm.cells ≤ R.cells) (hs : slots + rm.slots ≤ R.slots)
    (K : ∀ (T' : State) (v : Option Value) (L : List Loc), Stand p l e R s m args below meth c T' (locs ++ L) (cells + rm.cells) (slots + rm.slots) → Qc v T'.heap L → own_Run p e below s Q ck sk (T'.setTop (mkF m (pc + 3) Ls (v.toList ++ rest)))) :
    own_Run p e below s Q ck sk (T.setTop (mkF m pc Ls st)) := by
  obtain ⟨cq, kq, qa, qb, qc⟩ := isOf hZ eT E
  obtain ⟨v, _, ⟨T', L', k', n'⟩, -, X', ⟨Lc, hQ, hl', hk', hn'⟩, st'⟩ := X.virtualBack hx (y := y) (z := y) hown (mvT hZ w1) (mvT hZ w2) (notFace_of_selects (args := #[]) (mvT hZ w3)) (mvT hZ w3) (mvT hZ w4) hy (backOf (W := W) hM hZ w5 wz hf hl) qa qc (g := mkF m pc Ls st) rfl hsize (Steps.refl _) (argsL := argsL) (rest := rest) hlen hst (by show 2 * 0 + _ ≤ _; omega) hd (fun _ _ => ⟨rfl, eT, hc, hs⟩)
  dsimp only [Pt.U, Pt.locs, Pt.cells, Pt.slots] at X' hl' hk' hn' st' hQ
  subst hl' hk' hn'
  exact own_st (fun t k => st'.trans k) (K T' v Lc X' hQ)
theorem own_callS (X : Stand p l e R s m args below meth c T locs cells slots) (hx : p.tables.exec = Jvm.exec) (hZ : Z.Warmed39 s.vm) {own : String} {idx : Nat} {y : MethodName} (hown : s.vm.findClass own = some m.cls) (w1 : (Jvm.Cond.methodLink own idx y).before a0 Z = true) (w2 : (Jvm.Cond.static y).before a0 Z = true)
    {bytes : ByteArray} {maxL : Nat} {ret : Option FieldType} (w5 : (Jvm.Cond.code y bytes maxL ret).before a0 Z = true) (wz : (Jvm.Cond.initialized y.cls).before a0 Z = true) (hy : y.cls ≠ "java/lang/invoke/MethodHandle" ∧ y.cls ≠ "java/lang/invoke/VarHandle") (eT : T.heap = h) {rm : Room} {Qc : Option Value → Heap → List Loc → Prop} {argsL rest : List Value}
    (hM : MetFree l y (head1 [Jvm.Cond.code y bytes maxL ret] rm) (fun b U => b = argsL.toArray ∧ Z.Warmed39 U.vm ∧ U.heap = h) (fun _ _ _ _ _ => True) (fun _ U o U' => ∃ v L, o = .returned v ∧ Qc v U'.heap L ∧ FrameEnd U o U' L rm.cells rm.slots))
    {W : Nat} (hf : rm.frames + 1 ≤ R.frames) (hl : W + (maxL + 11) + rm.locals ≤ R.locals) {pc : Nat} {Ls : Array Slot} {st : List Value} (hsize : Ls.size = c.maxLocals) (hlen : ∀ sig, parseMethodDescriptor y.desc = some sig → argsL.length = sig.parameters.length) (hst : st = argsL.reverse ++ rest) (hW : (rest.map fun v => v.category).sum ≤ W) (hd : decode c.code pc = .ok (.invokestatic idx, 3)) (hc : cells + rm.cells ≤ R.cells) (hs : slots + rm.slots ≤ R.slots)
    (K : ∀ (T' : State) (v : Option Value) (L : List Loc), Stand p l e R s m args below meth c T' (locs ++ L) (cells + rm.cells) (slots + rm.slots) → Qc v T'.heap L → own_Run p e below s Q ck sk (T'.setTop (mkF m (pc + 3) Ls (v.toList ++ rest)))) :
    own_Run p e below s Q ck sk (T.setTop (mkF m pc Ls st)) := by
  obtain ⟨v, _, ⟨T', L', k', n'⟩, -, X', ⟨Lc, hQ, hl', hk', hn'⟩, st'⟩ := Jvm.LawKit.callS X hx (y := y) hown (mvT hZ w1) (mvT hZ w2) (mvT hZ wz) (mvT hZ w5) hy (backOf (W := W) hM hZ w5 wz hf hl) (g := mkF m pc Ls st) rfl hsize (argsL := argsL) (rest := rest) hlen hst (by show 2 * 0 + _ ≤ _; omega) hd (fun _ _ => ⟨rfl, eT, hc, hs⟩)
  dsimp only [Pt.U, Pt.locs, Pt.cells, Pt.slots] at X' hl' hk' hn' st' hQ
  subst hl' hk' hn'
  exact own_st st' (K T' v Lc X' hQ)
end OwnLayer
section OwnNums
open Jvm.FP Jvm.Free.Fl
theorem own_b53 (x : Int32) : B53 x.toInt64 := by
  have := x.le_toInt; have := x.toInt_lt
  unfold B53; rw [Int32.toInt_toInt64]; omega
theorem own_i64lt (x y : Int32) : x.toInt64 < y.toInt64 ↔ x < y := by
  rw [Int64.lt_iff_toInt_lt, Int32.lt_iff_toInt_lt, Int32.toInt_toInt64, Int32.toInt_toInt64]
theorem own_i64eq (x y : Int32) : x.toInt64 = y.toInt64 ↔ x = y := by
  rw [← Int64.toInt_inj, ← Int32.toInt_inj, Int32.toInt_toInt64, Int32.toInt_toInt64]
theorem own_dcmp_lt (x y : Int32) (o : CmpOp) : cmpValue (FP.dcmp (FP.i2d x) (FP.i2d y)) o < 0 ↔ x < y := by
  rw [i2d_w, i2d_w, dcmpV_w (own_b53 x) (own_b53 y), lw_lt, own_i64lt]
theorem own_dcmp_gt (x y : Int32) (o : CmpOp) : 0 < cmpValue (FP.dcmp (FP.i2d x) (FP.i2d y)) o ↔ y < x := by
  rw [i2d_w, i2d_w, dcmpV_w (own_b53 x) (own_b53 y), lw_gt, own_i64lt]
theorem own_dcmp_eq (x y : Int32) (o : CmpOp) : cmpValue (FP.dcmp (FP.i2d x) (FP.i2d y)) o = 0 ↔ x = y := by
  rw [i2d_w, i2d_w, dcmpV_w (own_b53 x) (own_b53 y), lw_eq, own_i64eq]
theorem own_sub_lt (x y : Int32) : lcmpW (x.toInt64 - y.toInt64) 0 < 0 ↔ x < y := by
  have h := sub64 (own_b53 x) (own_b53 y)
  rw [lw_lt, Int64.lt_iff_toInt_lt, Int32.lt_iff_toInt_lt, h, Int32.toInt_toInt64, Int32.toInt_toInt64]
  have : (0 : Int64).toInt = 0 := rfl
  omega
end OwnNums
section OwnWords
theorem own_eqint {args : Array Value} {first s : State} {o : Option Outcome} {idx : List Nat} {t : Term} {k : Int32} (h : (Jvm.Cond.eq t (.int k)).value args first o s idx = some true) : t.eval args first o idx s = some (.int k) := by
  simp only [Cond.value, Term.eval] at h
  cases ht : t.eval args first o idx s with
  | none => simp [ht] at h
  | some x => cases x <;> simp [ht] at h ⊢; exact h
end OwnWords
section OwnInts
theorem own_prod {a b : Int} {A B : Nat} (ha : a.natAbs ≤ A) (hb : b.natAbs ≤ B) : (a * b).natAbs ≤ A * B := by
  rw [Int.natAbs_mul]; exact Nat.mul_le_mul ha hb
theorem own_shr (x : Int32) : (x >>> ((11 : Int32) &&& 31)).toInt.natAbs ≤ 1048576 := by
  rw [c_ishr x 11 11 (by decide)]
  have := x.le_toInt; have := x.toInt_lt
  show (x.toInt / (2048 : Nat)).natAbs ≤ _
  omega
end OwnInts
theorem own_d2_0 : decode prog_18_method_2_code 0 = .ok (.aload_n 0, 1) := by decide +kernel
theorem own_d2_1 : decode prog_18_method_2_code 1 = .ok (.invokespecial 7, 3) := by decide +kernel
theorem own_d2_4 : decode prog_18_method_2_code 4 = .ok (.aload_n 0, 1) := by decide +kernel
theorem own_d2_5 : decode prog_18_method_2_code 5 = .ok (.aload_n 1, 1) := by decide +kernel
theorem own_d2_6 : decode prog_18_method_2_code 6 = .ok (.putfield 12, 3) := by decide +kernel
theorem own_d2_9 : decode prog_18_method_2_code 9 = .ok (.return_, 1) := by decide +kernel
set_option maxHeartbeats 4000000 in
theorem own_ef2N (m : MethodId) (x0 : Addr) : entryFrame m #[(.ref x0), .null] 2 = mkF m 0 #[.val (.ref x0), .val .null] [] := by first | (simp [entryFrame, mkF, argsToLocals, Value.category]; done) | rfl
theorem own_pn0 : plainName "com/example/kerb2d/kerb2d/engine/Tally" = true := by first | (simp [plainName, overriddenIn]; done) | decide +kernel
def own_Q2N (Z : State) (a0 : Array Value) (a0_ : Addr) (h0 : Heap) (n0 : Nat) (v : Option Value) (h : Heap) (L : List Loc) : Prop := v = none ∧ Fr n0 L ∧ Keep h0 h [a0_] ∧ Exa Z h a0_ "com/example/kerb2d/kerb2d/engine/Tally" ∧ Fld Z h a0_ "com/example/kerb2d/kerb2d/engine/Tally" "whole" "Lcom/example/kerb2d/kerb2d/engine/Tally;" .null ∧ Fld Z h a0_ "com/example/kerb2d/kerb2d/engine/Tally" "arrived" "I" (.int (0 : Int32)) ∧ Fld Z h a0_ "com/example/kerb2d/kerb2d/engine/Tally" "entered" "I" (.int (0 : Int32)) ∧ Fld Z h a0_ "com/example/kerb2d/kerb2d/engine/Tally" "left" "I" (.int (0 : Int32)) ∧ Fld Z h a0_ "com/example/kerb2d/kerb2d/engine/Tally" "delayed" "I" (.int (0 : Int32)) ∧ Fld Z h a0_ "com/example/kerb2d/kerb2d/engine/Tally" "conflictSum" "J" (.long (0 : Int64)) ∧ Fld Z h a0_ "com/example/kerb2d/kerb2d/engine/Tally" "finished" "I" (.int (0 : Int32)) ∧ Fld Z h a0_ "com/example/kerb2d/kerb2d/engine/Tally" "boarded" "I" (.int (0 : Int32))
set_option maxRecDepth 65536 in
set_option maxHeartbeats 40000000 in
theorem own_rm2N (l : Launch) (Z : State) (a0 : Array Value) (hw : ∀ d ∈ tables_1, d.before a0 Z = true) (ws : List Jvm.Cond) (a0_ : Addr) (h0 : Heap) (n0 : Nat) (Z0 : n0 ≤ h0.size) (E0 : Exa Z h0 a0_ "com/example/kerb2d/kerb2d/engine/Tally") (D0 : ∀ {O nm d : String} {ty : FieldType}, Laid Z a0 "com/example/kerb2d/kerb2d/engine/Tally" O nm d → parseFieldDescriptor d = some ty → Fld Z h0 a0_ O nm d (defaultValue ty)) (G0 : n0 ≤ a0_) :
    MetFree l (⟨"com/example/kerb2d/kerb2d/engine/Tally", "<init>", "(Lcom/example/kerb2d/kerb2d/engine/Tally;)V"⟩ : MethodName) (head1 (Jvm.Cond.code (⟨"com/example/kerb2d/kerb2d/engine/Tally", "<init>", "(Lcom/example/kerb2d/kerb2d/engine/Tally;)V"⟩ : MethodName) prog_18_method_2_code 2 none :: ws) ({ frames := 1, cells := 0, slots := 0, locals := 12 } : Room)) (fun a U => a = #[(.ref a0_), .null] ∧ Z.Warmed39 U.vm ∧ U.heap = h0) (fun _ _ _ _ _ => True) (fun _ U o U' => ∃ v L, o = .returned v ∧ own_Q2N Z a0 a0_ h0 n0 v U'.heap L ∧ FrameEnd U o U' L ({ frames := 1, cells := 0, slots := 0, locals := 12 } : Room).cells ({ frames := 1, cells := 0, slots := 0, locals := 12 } : Room).slots) := by
  refine own_body (Q := fun v h L => own_Q2N Z a0 a0_ h0 n0 v h L) (plainFor_of_name own_pn0) ?_
  intro p e s m below meth c s₁ hx hby hml hZ hown hnm hret hlk X0 e0
  replace hml : c.maxLocals = 2 := hml
  have N0 := Fr.nil n0
  have K0 : Keep h0 h0 [a0_] := Keep.refl _ _
  refine own_st (fun t k => castTop (own_ef2N m a0_) k) ?_
  show own_Run p e below s _ _ _ (s₁.setTop (mkF m 0 #[.val (.ref a0_), .val .null] []))
  refine own_st (fun t k => XS.aloadN X0.here hx rfl (hb hby own_d2_0) rfl rfl k) ?_
  show own_Run p e below s _ _ _ (s₁.setTop (mkF m 1 #[.val (.ref a0_), .val .null] [(.ref a0_)]))
  obtain ⟨T1, X1, e1, st1⟩ := initO X0 hx hZ hown (hw _ (List.mem_of_getElem? (i := 9) rfl)) (hw _ (List.mem_of_getElem? (i := 10) rfl)) (hw _ (List.mem_of_getElem? (i := 11) rfl)) e0 (g := (mkF m 1 #[.val (.ref a0_), .val .null] [(.ref a0_)])) rfl (by rw [hml]; rfl) rfl (hb hby own_d2_1) (by decide) (W := 0) (by show 2 * 0 + _ ≤ _; exact Nat.le_of_eq rfl) (by decide)
  refine own_st st1 ?_
  show own_Run p e below s _ _ _ (T1.setTop (mkF m 4 #[.val (.ref a0_), .val .null] []))
  refine own_st (fun t k => XS.aloadN X1.here hx rfl (hb hby own_d2_4) rfl rfl k) ?_
  show own_Run p e below s _ _ _ (T1.setTop (mkF m 5 #[.val (.ref a0_), .val .null] [(.ref a0_)]))
  refine own_st (fun t k => XS.aloadN X1.here hx rfl (hb hby own_d2_5) rfl rfl k) ?_
  show own_Run p e below s _ _ _ (T1.setTop (mkF m 6 #[.val (.ref a0_), .val .null] [.null, (.ref a0_)]))
  have F2 : Fld Z _ a0_ "com/example/kerb2d/kerb2d/engine/Tally" "whole" "Lcom/example/kerb2d/kerb2d/engine/Tally;" .null := D0 (Or.inr (hw _ (List.mem_of_getElem? (i := 13) rfl))) (ty := (.object "com/example/kerb2d/kerb2d/engine/Tally")) (by decide)
  obtain ⟨T3, h3, X3, e3, W3, st3⟩ := putF X1 hx hZ hown (host := "") (Or.inl (hw _ (List.mem_of_getElem? (i := 12) rfl))) Via.refl e1 F2 E0 (Or.inr ⟨(hw _ (List.mem_of_getElem? (i := 13) rfl)), rfl, hnm⟩) (hw _ (List.mem_of_getElem? (i := 1) rfl)) (ty := (.object "com/example/kerb2d/kerb2d/engine/Tally")) (by decide) rfl rfl (g := (mkF m 6 #[.val (.ref a0_), .val .null] [.null, (.ref a0_)])) rfl rfl (hb hby own_d2_6)
  refine own_st st3 ?_
  have Fw3 := F2.same W3
  have N3 := Fr.snoc X3 N0 G0
  have K4 : Keep h0 h3 [a0_] := K0.wr W3 (Or.inl (List.mem_of_getElem? (i := 0) rfl))
  show own_Run p e below s _ _ _ (T3.setTop (mkF m 9 #[.val (.ref a0_), .val .null] []))
  have hQe := e3
  subst hQe
  have E6 := (E0.wr W3)
  have F7 : Fld Z _ a0_ "com/example/kerb2d/kerb2d/engine/Tally" "arrived" "I" (.int (0 : Int32)) := D0 (Or.inl (hw _ (List.mem_of_getElem? (i := 24) rfl))) (ty := .int) (by decide)
  have F8 := (F7.other W3 (Or.inr (slot_ne (Or.inl (hw _ (List.mem_of_getElem? (i := 24) rfl))) (Or.inr (hw _ (List.mem_of_getElem? (i := 13) rfl))) (by decide) (t := .int) (t' := (.object "com/example/kerb2d/kerb2d/engine/Tally")) (by decide) (by decide))))
  have F9 : Fld Z _ a0_ "com/example/kerb2d/kerb2d/engine/Tally" "entered" "I" (.int (0 : Int32)) := D0 (Or.inl (hw _ (List.mem_of_getElem? (i := 26) rfl))) (ty := .int) (by decide)
  have F10 := (F9.other W3 (Or.inr (slot_ne (Or.inl (hw _ (List.mem_of_getElem? (i := 26) rfl))) (Or.inr (hw _ (List.mem_of_getElem? (i := 13) rfl))) (by decide) (t := .int) (t' := (.object "com/example/kerb2d/kerb2d/engine/Tally")) (by decide) (by decide))))
  have F11 : Fld Z _ a0_ "com/example/kerb2d/kerb2d/engine/Tally" "left" "I" (.int (0 : Int32)) := D0 (Or.inl (hw _ (List.mem_of_getElem? (i := 28) rfl))) (ty := .int) (by decide)
  have F12 := (F11.other W3 (Or.inr (slot_ne (Or.inl (hw _ (List.mem_of_getElem? (i := 28) rfl))) (Or.inr (hw _ (List.mem_of_getElem? (i := 13) rfl))) (by decide) (t := .int) (t' := (.object "com/example/kerb2d/kerb2d/engine/Tally")) (by decide) (by decide))))
  have F13 : Fld Z _ a0_ "com/example/kerb2d/kerb2d/engine/Tally" "delayed" "I" (.int (0 : Int32)) := D0 (Or.inl (hw _ (List.mem_of_getElem? (i := 30) rfl))) (ty := .int) (by decide)
  have F14 := (F13.other W3 (Or.inr (slot_ne (Or.inl (hw _ (List.mem_of_getElem? (i := 30) rfl))) (Or.inr (hw _ (List.mem_of_getElem? (i := 13) rfl))) (by decide) (t := .int) (t' := (.object "com/example/kerb2d/kerb2d/engine/Tally")) (by decide) (by decide))))
  have F15 : Fld Z _ a0_ "com/example/kerb2d/kerb2d/engine/Tally" "conflictSum" "J" (.long (0 : Int64)) := D0 (Or.inl (hw _ (List.mem_of_getElem? (i := 37) rfl))) (ty := .long) (by decide)
  have F16 := (F15.other W3 (Or.inr (slot_ne (Or.inl (hw _ (List.mem_of_getElem? (i := 37) rfl))) (Or.inr (hw _ (List.mem_of_getElem? (i := 13) rfl))) (by decide) (t := .long) (t' := (.object "com/example/kerb2d/kerb2d/engine/Tally")) (by decide) (by decide))))
  have F17 : Fld Z _ a0_ "com/example/kerb2d/kerb2d/engine/Tally" "finished" "I" (.int (0 : Int32)) := D0 (Or.inl (hw _ (List.mem_of_getElem? (i := 39) rfl))) (ty := .int) (by decide)
  have F18 := (F17.other W3 (Or.inr (slot_ne (Or.inl (hw _ (List.mem_of_getElem? (i := 39) rfl))) (Or.inr (hw _ (List.mem_of_getElem? (i := 13) rfl))) (by decide) (t := .int) (t' := (.object "com/example/kerb2d/kerb2d/engine/Tally")) (by decide) (by decide))))
  have F19 : Fld Z _ a0_ "com/example/kerb2d/kerb2d/engine/Tally" "boarded" "I" (.int (0 : Int32)) := D0 (Or.inl (hw _ (List.mem_of_getElem? (i := 41) rfl))) (ty := .int) (by decide)
  have F20 := (F19.other W3 (Or.inr (slot_ne (Or.inl (hw _ (List.mem_of_getElem? (i := 41) rfl))) (Or.inr (hw _ (List.mem_of_getElem? (i := 13) rfl))) (by decide) (t := .int) (t' := (.object "com/example/kerb2d/kerb2d/engine/Tally")) (by decide) (by decide))))
  exact own_retV X3 hx hlk hret (hb hby own_d2_9) (by decide) (by decide) ⟨rfl, N3, K4, E6, Fw3, F8, F10, F12, F14, F16, F18, F20⟩
set_option maxHeartbeats 4000000 in
theorem own_ef2R (m : MethodId) (x0 : Addr) (x1 : Addr) : entryFrame m #[(.ref x0), (.ref x1)] 2 = mkF m 0 #[.val (.ref x0), .val (.ref x1)] [] := by first | (simp [entryFrame, mkF, argsToLocals, Value.category]; done) | rfl
def own_Q2R (Z : State) (a0 : Array Value) (a0_ : Addr) (o1 : Addr) (h0 : Heap) (n0 : Nat) (v : Option Value) (h : Heap) (L : List Loc) : Prop := v = none ∧ Fr n0 L ∧ Keep h0 h [a0_] ∧ Exa Z h a0_ "com/example/kerb2d/kerb2d/engine/Tally" ∧ Fld Z h a0_ "com/example/kerb2d/kerb2d/engine/Tally" "whole" "Lcom/example/kerb2d/kerb2d/engine/Tally;" (.ref o1) ∧ Fld Z h a0_ "com/example/kerb2d/kerb2d/engine/Tally" "arrived" "I" (.int (0 : Int32)) ∧ Fld Z h a0_ "com/example/kerb2d/kerb2d/engine/Tally" "entered" "I" (.int (0 : Int32)) ∧ Fld Z h a0_ "com/example/kerb2d/kerb2d/engine/Tally" "left" "I" (.int (0 : Int32)) ∧ Fld Z h a0_ "com/example/kerb2d/kerb2d/engine/Tally" "delayed" "I" (.int (0 : Int32)) ∧ Fld Z h a0_ "com/example/kerb2d/kerb2d/engine/Tally" "conflictSum" "J" (.long (0 : Int64)) ∧ Fld Z h a0_ "com/example/kerb2d/kerb2d/engine/Tally" "finished" "I" (.int (0 : Int32)) ∧ Fld Z h a0_ "com/example/kerb2d/kerb2d/engine/Tally" "boarded" "I" (.int (0 : Int32))
set_option maxRecDepth 65536 in
set_option maxHeartbeats 40000000 in
theorem own_rm2R (l : Launch) (Z : State) (a0 : Array Value) (hw : ∀ d ∈ tables_1, d.before a0 Z = true) (ws : List Jvm.Cond) (a0_ : Addr) (o1 : Addr) (h0 : Heap) (n0 : Nat) (Z0 : n0 ≤ h0.size) (E0 : Exa Z h0 a0_ "com/example/kerb2d/kerb2d/engine/Tally") (D0 : ∀ {O nm d : String} {ty : FieldType}, Laid Z a0 "com/example/kerb2d/kerb2d/engine/Tally" O nm d → parseFieldDescriptor d = some ty → Fld Z h0 a0_ O nm d (defaultValue ty)) (G0 : n0 ≤ a0_) :
    MetFree l (⟨"com/example/kerb2d/kerb2d/engine/Tally", "<init>", "(Lcom/example/kerb2d/kerb2d/engine/Tally;)V"⟩ : MethodName) (head1 (Jvm.Cond.code (⟨"com/example/kerb2d/kerb2d/engine/Tally", "<init>", "(Lcom/example/kerb2d/kerb2d/engine/Tally;)V"⟩ : MethodName) prog_18_method_2_code 2 none :: ws) ({ frames := 1, cells := 0, slots := 0, locals := 12 } : Room)) (fun a U => a = #[(.ref a0_), (.ref o1)] ∧ Z.Warmed39 U.vm ∧ U.heap = h0) (fun _ _ _ _ _ => True) (fun _ U o U' => ∃ v L, o = .returned v ∧ own_Q2R Z a0 a0_ o1 h0 n0 v U'.heap L ∧ FrameEnd U o U' L ({ frames := 1, cells := 0, slots := 0, locals := 12 } : Room).cells ({ frames := 1, cells := 0, slots := 0, locals := 12 } : Room).slots) := by
  refine own_body (Q := fun v h L => own_Q2R Z a0 a0_ o1 h0 n0 v h L) (plainFor_of_name own_pn0) ?_
  intro p e s m below meth c s₁ hx hby hml hZ hown hnm hret hlk X0 e0
  replace hml : c.maxLocals = 2 := hml
  have N0 := Fr.nil n0
  have K0 : Keep h0 h0 [a0_] := Keep.refl _ _
  refine own_st (fun t k => castTop (own_ef2R m a0_ o1) k) ?_
  show own_Run p e below s _ _ _ (s₁.setTop (mkF m 0 #[.val (.ref a0_), .val (.ref o1)] []))
  refine own_st (fun t k => XS.aloadN X0.here hx rfl (hb hby own_d2_0) rfl rfl k) ?_
  show own_Run p e below s _ _ _ (s₁.setTop (mkF m 1 #[.val (.ref a0_), .val (.ref o1)] [(.ref a0_)]))
  obtain ⟨T21, X21, e21, st21⟩ := initO X0 hx hZ hown (hw _ (List.mem_of_getElem? (i := 9) rfl)) (hw _ (List.mem_of_getElem? (i := 10) rfl)) (hw _ (List.mem_of_getElem? (i := 11) rfl)) e0 (g := (mkF m 1 #[.val (.ref a0_), .val (.ref o1)] [(.ref a0_)])) rfl (by rw [hml]; rfl) rfl (hb hby own_d2_1) (by decide) (W := 0) (by show 2 * 0 + _ ≤ _; exact Nat.le_of_eq rfl) (by decide)
  refine own_st st21 ?_
  show own_Run p e below s _ _ _ (T21.setTop (mkF m 4 #[.val (.ref a0_), .val (.ref o1)] []))
  refine own_st (fun t k => XS.aloadN X21.here hx rfl (hb hby own_d2_4) rfl rfl k) ?_
  show own_Run p e below s _ _ _ (T21.setTop (mkF m 5 #[.val (.ref a0_), .val (.ref o1)] [(.ref a0_)]))
  refine own_st (fun t k => XS.aloadN X21.here hx rfl (hb hby own_d2_5) rfl rfl k) ?_
  show own_Run p e below s _ _ _ (T21.setTop (mkF m 6 #[.val (.ref a0_), .val (.ref o1)] [(.ref o1), (.ref a0_)]))
  have F22 : Fld Z _ a0_ "com/example/kerb2d/kerb2d/engine/Tally" "whole" "Lcom/example/kerb2d/kerb2d/engine/Tally;" .null := D0 (Or.inr (hw _ (List.mem_of_getElem? (i := 13) rfl))) (ty := (.object "com/example/kerb2d/kerb2d/engine/Tally")) (by decide)
  obtain ⟨T23, h23, X23, e23, W23, st23⟩ := putF X21 hx hZ hown (host := "") (Or.inl (hw _ (List.mem_of_getElem? (i := 12) rfl))) Via.refl e21 F22 E0 (Or.inr ⟨(hw _ (List.mem_of_getElem? (i := 13) rfl)), rfl, hnm⟩) (hw _ (List.mem_of_getElem? (i := 1) rfl)) (ty := (.object "com/example/kerb2d/kerb2d/engine/Tally")) (by decide) rfl rfl (g := (mkF m 6 #[.val (.ref a0_), .val (.ref o1)] [(.ref o1), (.ref a0_)])) rfl rfl (hb hby own_d2_6)
  refine own_st st23 ?_
  have Fw23 := F22.same W23
  have N23 := Fr.snoc X23 N0 G0
  have K24 : Keep h0 h23 [a0_] := K0.wr W23 (Or.inl (List.mem_of_getElem? (i := 0) rfl))
  show own_Run p e below s _ _ _ (T23.setTop (mkF m 9 #[.val (.ref a0_), .val (.ref o1)] []))
  have hQe := e23
  subst hQe
  have E26 := (E0.wr W23)
  have F27 : Fld Z _ a0_ "com/example/kerb2d/kerb2d/engine/Tally" "arrived" "I" (.int (0 : Int32)) := D0 (Or.inl (hw _ (List.mem_of_getElem? (i := 24) rfl))) (ty := .int) (by decide)
  have F28 := (F27.other W23 (Or.inr (slot_ne (Or.inl (hw _ (List.mem_of_getElem? (i := 24) rfl))) (Or.inr (hw _ (List.mem_of_getElem? (i := 13) rfl))) (by decide) (t := .int) (t' := (.object "com/example/kerb2d/kerb2d/engine/Tally")) (by decide) (by decide))))
  have F29 : Fld Z _ a0_ "com/example/kerb2d/kerb2d/engine/Tally" "entered" "I" (.int (0 : Int32)) := D0 (Or.inl (hw _ (List.mem_of_getElem? (i := 26) rfl))) (ty := .int) (by decide)
  have F30 := (F29.other W23 (Or.inr (slot_ne (Or.inl (hw _ (List.mem_of_getElem? (i := 26) rfl))) (Or.inr (hw _ (List.mem_of_getElem? (i := 13) rfl))) (by decide) (t := .int) (t' := (.object "com/example/kerb2d/kerb2d/engine/Tally")) (by decide) (by decide))))
  have F31 : Fld Z _ a0_ "com/example/kerb2d/kerb2d/engine/Tally" "left" "I" (.int (0 : Int32)) := D0 (Or.inl (hw _ (List.mem_of_getElem? (i := 28) rfl))) (ty := .int) (by decide)
  have F32 := (F31.other W23 (Or.inr (slot_ne (Or.inl (hw _ (List.mem_of_getElem? (i := 28) rfl))) (Or.inr (hw _ (List.mem_of_getElem? (i := 13) rfl))) (by decide) (t := .int) (t' := (.object "com/example/kerb2d/kerb2d/engine/Tally")) (by decide) (by decide))))
  have F33 : Fld Z _ a0_ "com/example/kerb2d/kerb2d/engine/Tally" "delayed" "I" (.int (0 : Int32)) := D0 (Or.inl (hw _ (List.mem_of_getElem? (i := 30) rfl))) (ty := .int) (by decide)
  have F34 := (F33.other W23 (Or.inr (slot_ne (Or.inl (hw _ (List.mem_of_getElem? (i := 30) rfl))) (Or.inr (hw _ (List.mem_of_getElem? (i := 13) rfl))) (by decide) (t := .int) (t' := (.object "com/example/kerb2d/kerb2d/engine/Tally")) (by decide) (by decide))))
  have F35 : Fld Z _ a0_ "com/example/kerb2d/kerb2d/engine/Tally" "conflictSum" "J" (.long (0 : Int64)) := D0 (Or.inl (hw _ (List.mem_of_getElem? (i := 37) rfl))) (ty := .long) (by decide)
  have F36 := (F35.other W23 (Or.inr (slot_ne (Or.inl (hw _ (List.mem_of_getElem? (i := 37) rfl))) (Or.inr (hw _ (List.mem_of_getElem? (i := 13) rfl))) (by decide) (t := .long) (t' := (.object "com/example/kerb2d/kerb2d/engine/Tally")) (by decide) (by decide))))
  have F37 : Fld Z _ a0_ "com/example/kerb2d/kerb2d/engine/Tally" "finished" "I" (.int (0 : Int32)) := D0 (Or.inl (hw _ (List.mem_of_getElem? (i := 39) rfl))) (ty := .int) (by decide)
  have F38 := (F37.other W23 (Or.inr (slot_ne (Or.inl (hw _ (List.mem_of_getElem? (i := 39) rfl))) (Or.inr (hw _ (List.mem_of_getElem? (i := 13) rfl))) (by decide) (t := .int) (t' := (.object "com/example/kerb2d/kerb2d/engine/Tally")) (by decide) (by decide))))
  have F39 : Fld Z _ a0_ "com/example/kerb2d/kerb2d/engine/Tally" "boarded" "I" (.int (0 : Int32)) := D0 (Or.inl (hw _ (List.mem_of_getElem? (i := 41) rfl))) (ty := .int) (by decide)
  have F40 := (F39.other W23 (Or.inr (slot_ne (Or.inl (hw _ (List.mem_of_getElem? (i := 41) rfl))) (Or.inr (hw _ (List.mem_of_getElem? (i := 13) rfl))) (by decide) (t := .int) (t' := (.object "com/example/kerb2d/kerb2d/engine/Tally")) (by decide) (by decide))))
  exact own_retV X23 hx hlk hret (hb hby own_d2_9) (by decide) (by decide) ⟨rfl, N23, K24, E26, Fw23, F28, F30, F32, F34, F36, F38, F40⟩
theorem own_d1_0 : decode prog_18_method_1_code 0 = .ok (.aload_n 0, 1) := by decide +kernel
theorem own_d1_1 : decode prog_18_method_1_code 1 = .ok (.aconst_null, 1) := by decide +kernel
theorem own_d1_2 : decode prog_18_method_1_code 2 = .ok (.invokespecial 1, 3) := by decide +kernel
theorem own_pd1 : parseMethodDescriptor "(Lcom/example/kerb2d/kerb2d/engine/Tally;)V" = some ⟨[(.object "com/example/kerb2d/kerb2d/engine/Tally")], none⟩ := by decide +kernel
theorem own_d1_5 : decode prog_18_method_1_code 5 = .ok (.return_, 1) := by decide +kernel
set_option maxHeartbeats 4000000 in
theorem own_ef1 (m : MethodId) (x0 : Addr) : entryFrame m #[(.ref x0)] 1 = mkF m 0 #[.val (.ref x0)] [] := by first | (simp [entryFrame, mkF, argsToLocals, Value.category]; done) | rfl
def own_Q1 (Z : State) (a0 : Array Value) (a0_ : Addr) (h0 : Heap) (n0 : Nat) (v : Option Value) (h : Heap) (L : List Loc) : Prop := v = none ∧ Fr n0 L ∧ Keep h0 h [a0_] ∧ Exa Z h a0_ "com/example/kerb2d/kerb2d/engine/Tally" ∧ Fld Z h a0_ "com/example/kerb2d/kerb2d/engine/Tally" "whole" "Lcom/example/kerb2d/kerb2d/engine/Tally;" .null ∧ Fld Z h a0_ "com/example/kerb2d/kerb2d/engine/Tally" "arrived" "I" (.int (0 : Int32)) ∧ Fld Z h a0_ "com/example/kerb2d/kerb2d/engine/Tally" "entered" "I" (.int (0 : Int32)) ∧ Fld Z h a0_ "com/example/kerb2d/kerb2d/engine/Tally" "left" "I" (.int (0 : Int32)) ∧ Fld Z h a0_ "com/example/kerb2d/kerb2d/engine/Tally" "delayed" "I" (.int (0 : Int32)) ∧ Fld Z h a0_ "com/example/kerb2d/kerb2d/engine/Tally" "conflictSum" "J" (.long (0 : Int64)) ∧ Fld Z h a0_ "com/example/kerb2d/kerb2d/engine/Tally" "finished" "I" (.int (0 : Int32)) ∧ Fld Z h a0_ "com/example/kerb2d/kerb2d/engine/Tally" "boarded" "I" (.int (0 : Int32))
set_option maxRecDepth 65536 in
set_option maxHeartbeats 40000000 in
theorem own_rm1 (l : Launch) (Z : State) (a0 : Array Value) (hw : ∀ d ∈ tables_1, d.before a0 Z = true) (ws : List Jvm.Cond) (a0_ : Addr) (h0 : Heap) (n0 : Nat) (Z0 : n0 ≤ h0.size) (E0 : Exa Z h0 a0_ "com/example/kerb2d/kerb2d/engine/Tally") (D0 : ∀ {O nm d : String} {ty : FieldType}, Laid Z a0 "com/example/kerb2d/kerb2d/engine/Tally" O nm d → parseFieldDescriptor d = some ty → Fld Z h0 a0_ O nm d (defaultValue ty)) (G0 : n0 ≤ a0_) :
    MetFree l (⟨"com/example/kerb2d/kerb2d/engine/Tally", "<init>", "()V"⟩ : MethodName) (head1 (Jvm.Cond.code (⟨"com/example/kerb2d/kerb2d/engine/Tally", "<init>", "()V"⟩ : MethodName) prog_18_method_1_code 1 none :: ws) ({ frames := 2, cells := 0, slots := 0, locals := 25 } : Room)) (fun a U => a = #[(.ref a0_)] ∧ Z.Warmed39 U.vm ∧ U.heap = h0) (fun _ _ _ _ _ => True) (fun _ U o U' => ∃ v L, o = .returned v ∧ own_Q1 Z a0 a0_ h0 n0 v U'.heap L ∧ FrameEnd U o U' L ({ frames := 2, cells := 0, slots := 0, locals := 25 } : Room).cells ({ frames := 2, cells := 0, slots := 0, locals := 25 } : Room).slots) := by
  refine own_body (Q := fun v h L => own_Q1 Z a0 a0_ h0 n0 v h L) (plainFor_of_name own_pn0) ?_
  intro p e s m below meth c s₁ hx hby hml hZ hown hnm hret hlk X0 e0
  replace hml : c.maxLocals = 1 := hml
  have N0 := Fr.nil n0
  have K0 : Keep h0 h0 [a0_] := Keep.refl _ _
  refine own_st (fun t k => castTop (own_ef1 m a0_) k) ?_
  show own_Run p e below s _ _ _ (s₁.setTop (mkF m 0 #[.val (.ref a0_)] []))
  refine own_st (fun t k => XS.aloadN X0.here hx rfl (hb hby own_d1_0) rfl rfl k) ?_
  show own_Run p e below s _ _ _ (s₁.setTop (mkF m 1 #[.val (.ref a0_)] [(.ref a0_)]))
  refine own_st (fun t k => XS.aconstNull X0.here hx rfl (hb hby own_d1_1) k) ?_
  show own_Run p e below s _ _ _ (s₁.setTop (mkF m 2 #[.val (.ref a0_)] [.null, (.ref a0_)]))
  refine own_callI X0 hx hZ (y := (⟨"com/example/kerb2d/kerb2d/engine/Tally", "<init>", "(Lcom/example/kerb2d/kerb2d/engine/Tally;)V"⟩ : MethodName)) rfl hown (hw _ (List.mem_of_getElem? (i := 6) rfl)) (hw _ (List.mem_of_getElem? (i := 7) rfl)) (hw _ (List.mem_of_getElem? (i := 8) rfl)) (hw _ (List.mem_of_getElem? (i := 2) rfl)) (by decide) e0 (a := a0_) (argsL := [.null]) (rest := []) (W := 0) (own_rm2N l Z a0 hw [] a0_ h0 n0 (Nat.le_trans Z0 K0.1) E0 D0 G0) (by decide) (by decide) (by rw [hml]; rfl) (lenOf own_pd1 rfl) rfl (by exact Nat.le_of_eq rfl) (hb hby own_d1_2) (by decide) (by decide) ?_
  intro T41 v41 L41 X41 hq41
  obtain ⟨rfl, N41q, K41q, Q42, Q43, Q44, Q45, Q46, Q47, Q48, Q49, Q50⟩ := hq41
  have K51 : Keep h0 T41.heap [a0_] := K0.trans K41q (allS (Or.inl (List.mem_of_getElem? (i := 0) rfl)) all0)
  have N41 := Fr.app N0 N41q
  show own_Run p e below s _ _ _ (T41.setTop (mkF m 5 #[.val (.ref a0_)] []))
  exact own_retV X41 hx hlk hret (hb hby own_d1_5) (by decide) (by decide) ⟨rfl, N41, K51, Q42, Q43, Q44, Q45, Q46, Q47, Q48, Q49, Q50⟩
theorem own_d10_0 : decode prog_18_method_4_code 0 = .ok (.aload_n 0, 1) := by decide +kernel
theorem own_d10_1 : decode prog_18_method_4_code 1 = .ok (.dup, 1) := by decide +kernel
theorem own_d10_2 : decode prog_18_method_4_code 2 = .ok (.getfield 23, 3) := by decide +kernel
theorem own_d10_5 : decode prog_18_method_4_code 5 = .ok (.iconst 1, 1) := by decide +kernel
theorem own_d10_6 : decode prog_18_method_4_code 6 = .ok (.iadd, 1) := by decide +kernel
theorem own_d10_7 : decode prog_18_method_4_code 7 = .ok (.putfield 23, 3) := by decide +kernel
theorem own_d10_10 : decode prog_18_method_4_code 10 = .ok (.aload_n 0, 1) := by decide +kernel
theorem own_d10_11 : decode prog_18_method_4_code 11 = .ok (.getfield 12, 3) := by decide +kernel
theorem own_d10_14 : decode prog_18_method_4_code 14 = .ok (.ifnull 10, 3) := by decide +kernel
theorem own_d10_24 : decode prog_18_method_4_code 24 = .ok (.return_, 1) := by decide +kernel
set_option maxHeartbeats 4000000 in
theorem own_ef10W (m : MethodId) (x0 : Addr) : entryFrame m #[(.ref x0)] 1 = mkF m 0 #[.val (.ref x0)] [] := by first | (simp [entryFrame, mkF, argsToLocals, Value.category]; done) | rfl
def own_Q10W (Z : State) (a0 : Array Value) (o0 : Addr) (ar : Int32) (en : Int32) (h0 : Heap) (n0 : Nat) (v : Option Value) (h : Heap) (L : List Loc) : Prop := v = none ∧ Fr n0 L ∧ Keep h0 h [o0] ∧ Exa Z h o0 "com/example/kerb2d/kerb2d/engine/Tally" ∧ Fld Z h o0 "com/example/kerb2d/kerb2d/engine/Tally" "whole" "Lcom/example/kerb2d/kerb2d/engine/Tally;" .null ∧ Fld Z h o0 "com/example/kerb2d/kerb2d/engine/Tally" "arrived" "I" (.int ar) ∧ Fld Z h o0 "com/example/kerb2d/kerb2d/engine/Tally" "entered" "I" (.int (en + (1 : Int32))) ∧ Fld Z h o0 "com/example/kerb2d/kerb2d/engine/Tally" "left" "I" (.int (0 : Int32)) ∧ Fld Z h o0 "com/example/kerb2d/kerb2d/engine/Tally" "delayed" "I" (.int (0 : Int32)) ∧ Fld Z h o0 "com/example/kerb2d/kerb2d/engine/Tally" "conflictSum" "J" (.long (0 : Int64)) ∧ Fld Z h o0 "com/example/kerb2d/kerb2d/engine/Tally" "finished" "I" (.int (0 : Int32)) ∧ Fld Z h o0 "com/example/kerb2d/kerb2d/engine/Tally" "boarded" "I" (.int (0 : Int32))
set_option maxRecDepth 65536 in
set_option maxHeartbeats 40000000 in
theorem own_rm10W (l : Launch) (Z : State) (a0 : Array Value) (hw : ∀ d ∈ tables_1, d.before a0 Z = true) (ws : List Jvm.Cond) (o0 : Addr) (ar : Int32) (en : Int32) (h0 : Heap) (n0 : Nat) (Z0 : n0 ≤ h0.size) (E0 : Exa Z h0 o0 "com/example/kerb2d/kerb2d/engine/Tally") (G0 : n0 ≤ o0) (pwh : Fld Z h0 o0 "com/example/kerb2d/kerb2d/engine/Tally" "whole" "Lcom/example/kerb2d/kerb2d/engine/Tally;" .null) (par : Fld Z h0 o0 "com/example/kerb2d/kerb2d/engine/Tally" "arrived" "I" (.int ar)) (pen : Fld Z h0 o0 "com/example/kerb2d/kerb2d/engine/Tally" "entered" "I" (.int en)) (ple : Fld Z h0 o0 "com/example/kerb2d/kerb2d/engine/Tally" "left" "I" (.int (0 : Int32))) (pde : Fld Z h0 o0 "com/example/kerb2d/kerb2d/engine/Tally" "delayed" "I" (.int (0 : Int32))) (pco : Fld Z h0 o0 "com/example/kerb2d/kerb2d/engine/Tally" "conflictSum" "J" (.long (0 : Int64))) (pfi : Fld Z h0 o0 "com/example/kerb2d/kerb2d/engine/Tally" "finished" "I" (.int (0 : Int32))) (pbo : Fld Z h0 o0 "com/example/kerb2d/kerb2d/engine/Tally" "boarded" "I" (.int (0 : Int32))) :
    MetFree l (⟨"com/example/kerb2d/kerb2d/engine/Tally", "enter", "()V"⟩ : MethodName) (head1 (Jvm.Cond.code (⟨"com/example/kerb2d/kerb2d/engine/Tally", "enter", "()V"⟩ : MethodName) prog_18_method_4_code 1 none :: ws) ({ frames := 0, cells := 0, slots := 0, locals := 0 } : Room)) (fun a U => a = #[(.ref o0)] ∧ Z.Warmed39 U.vm ∧ U.heap = h0) (fun _ _ _ _ _ => True) (fun _ U o U' => ∃ v L, o = .returned v ∧ own_Q10W Z a0 o0 ar en h0 n0 v U'.heap L ∧ FrameEnd U o U' L ({ frames := 0, cells := 0, slots := 0, locals := 0 } : Room).cells ({ frames := 0, cells := 0, slots := 0, locals := 0 } : Room).slots) := by
  refine own_body (Q := fun v h L => own_Q10W Z a0 o0 ar en h0 n0 v h L) (plainFor_of_name own_pn0) ?_
  intro p e s m below meth c s₁ hx hby hml hZ hown hnm hret hlk X0 e0
  replace hml : c.maxLocals = 1 := hml
  have N0 := Fr.nil n0
  have K0 : Keep h0 h0 [o0] := Keep.refl _ _
  refine own_st (fun t k => castTop (own_ef10W m o0) k) ?_
  show own_Run p e below s _ _ _ (s₁.setTop (mkF m 0 #[.val (.ref o0)] []))
  refine own_st (fun t k => XS.aloadN X0.here hx rfl (hb hby own_d10_0) rfl rfl k) ?_
  show own_Run p e below s _ _ _ (s₁.setTop (mkF m 1 #[.val (.ref o0)] [(.ref o0)]))
  refine own_st (fun t k => XS.dup X0.here hx rfl (hb hby own_d10_1) rfl rfl k) ?_
  show own_Run p e below s _ _ _ (s₁.setTop (mkF m 2 #[.val (.ref o0)] [(.ref o0), (.ref o0)]))
  obtain ⟨T53, X53, e53, st53⟩ := getF X0 hx hZ hown (host := "") (Or.inl (hw _ (List.mem_of_getElem? (i := 25) rfl))) Via.refl e0 pen (g := (mkF m 2 #[.val (.ref o0)] [(.ref o0), (.ref o0)])) rfl rfl (hb hby own_d10_2)
  refine own_st st53 ?_
  show own_Run p e below s _ _ _ (T53.setTop (mkF m 5 #[.val (.ref o0)] [(.int en), (.ref o0)]))
  refine own_st (fun t k => XS.iconst X53.here hx rfl (hb hby own_d10_5) k) ?_
  show own_Run p e below s _ _ _ (T53.setTop (mkF m 6 #[.val (.ref o0)] [(.int (1 : Int32)), (.int en), (.ref o0)]))
  refine own_st (fun t k => XS.iadd X53.here hx rfl (hb hby own_d10_6) rfl k) ?_
  show own_Run p e below s _ _ _ (T53.setTop (mkF m 7 #[.val (.ref o0)] [(.int (en + (1 : Int32))), (.ref o0)]))
  obtain ⟨T54, h54, X54, e54, W54, st54⟩ := putF X53 hx hZ hown (host := "") (Or.inl (hw _ (List.mem_of_getElem? (i := 25) rfl))) Via.refl e53 pen E0 (Or.inl (hw _ (List.mem_of_getElem? (i := 26) rfl))) (hw _ (List.mem_of_getElem? (i := 1) rfl)) (ty := .int) (by decide) rfl rfl (g := (mkF m 7 #[.val (.ref o0)] [(.int (en + (1 : Int32))), (.ref o0)])) rfl rfl (hb hby own_d10_7)
  refine own_st st54 ?_
  have Fw54 := pen.same W54
  have N54 := Fr.snoc X54 N0 G0
  have K55 : Keep h0 h54 [o0] := K0.wr W54 (Or.inl (List.mem_of_getElem? (i := 0) rfl))
  show own_Run p e below s _ _ _ (T54.setTop (mkF m 10 #[.val (.ref o0)] []))
  refine own_st (fun t k => XS.aloadN X54.here hx rfl (hb hby own_d10_10) rfl rfl k) ?_
  show own_Run p e below s _ _ _ (T54.setTop (mkF m 11 #[.val (.ref o0)] [(.ref o0)]))
  have F57 := (pwh.other W54 (Or.inr (slot_ne (Or.inr (hw _ (List.mem_of_getElem? (i := 13) rfl))) (Or.inl (hw _ (List.mem_of_getElem? (i := 26) rfl))) (by decide) (t := (.object "com/example/kerb2d/kerb2d/engine/Tally")) (t' := .int) (by decide) (by decide))))
  obtain ⟨T58, X58, e58, st58⟩ := getF X54 hx hZ hown (host := "") (Or.inl (hw _ (List.mem_of_getElem? (i := 12) rfl))) Via.refl e54 F57 (g := (mkF m 11 #[.val (.ref o0)] [(.ref o0)])) rfl rfl (hb hby own_d10_11)
  refine own_st st58 ?_
  show own_Run p e below s _ _ _ (T58.setTop (mkF m 14 #[.val (.ref o0)] [.null]))
  refine own_st (fun t k => XS.ifnullYes X58.here hx rfl (pc0 := 14) (pc' := 24) rfl (hb hby own_d10_14) rfl (by decide) (by decide) k) ?_
  show own_Run p e below s _ _ _ (T58.setTop (mkF m 24 #[.val (.ref o0)] []))
  have hQe := e58
  subst hQe
  have E59 := (E0.wr W54)
  have F60 := (par.other W54 (Or.inr (slot_ne (Or.inl (hw _ (List.mem_of_getElem? (i := 24) rfl))) (Or.inl (hw _ (List.mem_of_getElem? (i := 26) rfl))) (by decide) (t := .int) (t' := .int) (by decide) (by decide))))
  have F61 := (ple.other W54 (Or.inr (slot_ne (Or.inl (hw _ (List.mem_of_getElem? (i := 28) rfl))) (Or.inl (hw _ (List.mem_of_getElem? (i := 26) rfl))) (by decide) (t := .int) (t' := .int) (by decide) (by decide))))
  have F62 := (pde.other W54 (Or.inr (slot_ne (Or.inl (hw _ (List.mem_of_getElem? (i := 30) rfl))) (Or.inl (hw _ (List.mem_of_getElem? (i := 26) rfl))) (by decide) (t := .int) (t' := .int) (by decide) (by decide))))
  have F63 := (pco.other W54 (Or.inr (slot_ne (Or.inl (hw _ (List.mem_of_getElem? (i := 37) rfl))) (Or.inl (hw _ (List.mem_of_getElem? (i := 26) rfl))) (by decide) (t := .long) (t' := .int) (by decide) (by decide))))
  have F64 := (pfi.other W54 (Or.inr (slot_ne (Or.inl (hw _ (List.mem_of_getElem? (i := 39) rfl))) (Or.inl (hw _ (List.mem_of_getElem? (i := 26) rfl))) (by decide) (t := .int) (t' := .int) (by decide) (by decide))))
  have F65 := (pbo.other W54 (Or.inr (slot_ne (Or.inl (hw _ (List.mem_of_getElem? (i := 41) rfl))) (Or.inl (hw _ (List.mem_of_getElem? (i := 26) rfl))) (by decide) (t := .int) (t' := .int) (by decide) (by decide))))
  exact own_retV X58 hx hlk hret (hb hby own_d10_24) (by decide) (by decide) ⟨rfl, N54, K55, E59, F57, F60, Fw54, F61, F62, F63, F64, F65⟩
theorem own_d10_17 : decode prog_18_method_4_code 17 = .ok (.aload_n 0, 1) := by decide +kernel
theorem own_d10_18 : decode prog_18_method_4_code 18 = .ok (.getfield 12, 3) := by decide +kernel
theorem own_d10_21 : decode prog_18_method_4_code 21 = .ok (.invokevirtual 26, 3) := by decide +kernel
theorem own_pd2 : parseMethodDescriptor "()V" = some ⟨[], none⟩ := by decide +kernel
set_option maxHeartbeats 4000000 in
theorem own_ef10P (m : MethodId) (x0 : Addr) : entryFrame m #[(.ref x0)] 1 = mkF m 0 #[.val (.ref x0)] [] := by first | (simp [entryFrame, mkF, argsToLocals, Value.category]; done) | rfl
def own_Q10P (Z : State) (a0 : Array Value) (o0 : Addr) (w : Addr) (ar : Int32) (en : Int32) (ar1 : Int32) (en1 : Int32) (h0 : Heap) (n0 : Nat) (v : Option Value) (h : Heap) (L : List Loc) : Prop := v = none ∧ Fr n0 L ∧ Keep h0 h [o0, w] ∧ Exa Z h o0 "com/example/kerb2d/kerb2d/engine/Tally" ∧ Fld Z h o0 "com/example/kerb2d/kerb2d/engine/Tally" "whole" "Lcom/example/kerb2d/kerb2d/engine/Tally;" (.ref w) ∧ Fld Z h o0 "com/example/kerb2d/kerb2d/engine/Tally" "arrived" "I" (.int ar) ∧ Fld Z h o0 "com/example/kerb2d/kerb2d/engine/Tally" "entered" "I" (.int (en + (1 : Int32))) ∧ Fld Z h o0 "com/example/kerb2d/kerb2d/engine/Tally" "left" "I" (.int (0 : Int32)) ∧ Fld Z h o0 "com/example/kerb2d/kerb2d/engine/Tally" "delayed" "I" (.int (0 : Int32)) ∧ Fld Z h o0 "com/example/kerb2d/kerb2d/engine/Tally" "conflictSum" "J" (.long (0 : Int64)) ∧ Fld Z h o0 "com/example/kerb2d/kerb2d/engine/Tally" "finished" "I" (.int (0 : Int32)) ∧ Fld Z h o0 "com/example/kerb2d/kerb2d/engine/Tally" "boarded" "I" (.int (0 : Int32)) ∧ Exa Z h w "com/example/kerb2d/kerb2d/engine/Tally" ∧ Fld Z h w "com/example/kerb2d/kerb2d/engine/Tally" "whole" "Lcom/example/kerb2d/kerb2d/engine/Tally;" .null ∧ Fld Z h w "com/example/kerb2d/kerb2d/engine/Tally" "arrived" "I" (.int ar1) ∧ Fld Z h w "com/example/kerb2d/kerb2d/engine/Tally" "entered" "I" (.int (en1 + (1 : Int32))) ∧ Fld Z h w "com/example/kerb2d/kerb2d/engine/Tally" "left" "I" (.int (0 : Int32)) ∧ Fld Z h w "com/example/kerb2d/kerb2d/engine/Tally" "delayed" "I" (.int (0 : Int32)) ∧ Fld Z h w "com/example/kerb2d/kerb2d/engine/Tally" "conflictSum" "J" (.long (0 : Int64)) ∧ Fld Z h w "com/example/kerb2d/kerb2d/engine/Tally" "finished" "I" (.int (0 : Int32)) ∧ Fld Z h w "com/example/kerb2d/kerb2d/engine/Tally" "boarded" "I" (.int (0 : Int32))
set_option maxRecDepth 65536 in
set_option maxHeartbeats 40000000 in
theorem own_rm10P (l : Launch) (Z : State) (a0 : Array Value) (hw : ∀ d ∈ tables_1, d.before a0 Z = true) (ws : List Jvm.Cond) (o0 : Addr) (w : Addr) (ar : Int32) (en : Int32) (ar1 : Int32) (en1 : Int32) (h0 : Heap) (n0 : Nat) (Z0 : n0 ≤ h0.size) (E0 : Exa Z h0 o0 "com/example/kerb2d/kerb2d/engine/Tally") (G0 : n0 ≤ o0) (pwh : Fld Z h0 o0 "com/example/kerb2d/kerb2d/engine/Tally" "whole" "Lcom/example/kerb2d/kerb2d/engine/Tally;" (.ref w)) (par : Fld Z h0 o0 "com/example/kerb2d/kerb2d/engine/Tally" "arrived" "I" (.int ar)) (pen : Fld Z h0 o0 "com/example/kerb2d/kerb2d/engine/Tally" "entered" "I" (.int en)) (ple : Fld Z h0 o0 "com/example/kerb2d/kerb2d/engine/Tally" "left" "I" (.int (0 : Int32))) (pde : Fld Z h0 o0 "com/example/kerb2d/kerb2d/engine/Tally" "delayed" "I" (.int (0 : Int32))) (pco : Fld Z h0 o0 "com/example/kerb2d/kerb2d/engine/Tally" "conflictSum" "J" (.long (0 : Int64))) (pfi : Fld Z h0 o0 "com/example/kerb2d/kerb2d/engine/Tally" "finished" "I" (.int (0 : Int32))) (pbo : Fld Z h0 o0 "com/example/kerb2d/kerb2d/engine/Tally" "boarded" "I" (.int (0 : Int32))) (E9 : Exa Z h0 w "com/example/kerb2d/kerb2d/engine/Tally") (G9 : n0 ≤ w) (qwh : Fld Z h0 w "com/example/kerb2d/kerb2d/engine/Tally" "whole" "Lcom/example/kerb2d/kerb2d/engine/Tally;" .null) (qar : Fld Z h0 w "com/example/kerb2d/kerb2d/engine/Tally" "arrived" "I" (.int ar1)) (qen : Fld Z h0 w "com/example/kerb2d/kerb2d/engine/Tally" "entered" "I" (.int en1)) (qle : Fld Z h0 w "com/example/kerb2d/kerb2d/engine/Tally" "left" "I" (.int (0 : Int32))) (qde : Fld Z h0 w "com/example/kerb2d/kerb2d/engine/Tally" "delayed" "I" (.int (0 : Int32))) (qco : Fld Z h0 w "com/example/kerb2d/kerb2d/engine/Tally" "conflictSum" "J" (.long (0 : Int64))) (qfi : Fld Z h0 w "com/example/kerb2d/kerb2d/engine/Tally" "finished" "I" (.int (0 : Int32))) (qbo : Fld Z h0 w "com/example/kerb2d/kerb2d/engine/Tally" "boarded" "I" (.int (0 : Int32))) (ne1 : o0 ≠ w) :
    MetFree l (⟨"com/example/kerb2d/kerb2d/engine/Tally", "enter", "()V"⟩ : MethodName) (head1 (Jvm.Cond.code (⟨"com/example/kerb2d/kerb2d/engine/Tally", "enter", "()V"⟩ : MethodName) prog_18_method_4_code 1 none :: ws) ({ frames := 1, cells := 0, slots := 0, locals := 12 } : Room)) (fun a U => a = #[(.ref o0)] ∧ Z.Warmed39 U.vm ∧ U.heap = h0) (fun _ _ _ _ _ => True) (fun _ U o U' => ∃ v L, o = .returned v ∧ own_Q10P Z a0 o0 w ar en ar1 en1 h0 n0 v U'.heap L ∧ FrameEnd U o U' L ({ frames := 1, cells := 0, slots := 0, locals := 12 } : Room).cells ({ frames := 1, cells := 0, slots := 0, locals := 12 } : Room).slots) := by
  refine own_body (Q := fun v h L => own_Q10P Z a0 o0 w ar en ar1 en1 h0 n0 v h L) (plainFor_of_name own_pn0) ?_
  intro p e s m below meth c s₁ hx hby hml hZ hown hnm hret hlk X0 e0
  replace hml : c.maxLocals = 1 := hml
  have N0 := Fr.nil n0
  have K0 : Keep h0 h0 [o0, w] := Keep.refl _ _
  refine own_st (fun t k => castTop (own_ef10P m o0) k) ?_
  show own_Run p e below s _ _ _ (s₁.setTop (mkF m 0 #[.val (.ref o0)] []))
  refine own_st (fun t k => XS.aloadN X0.here hx rfl (hb hby own_d10_0) rfl rfl k) ?_
  show own_Run p e below s _ _ _ (s₁.setTop (mkF m 1 #[.val (.ref o0)] [(.ref o0)]))
  refine own_st (fun t k => XS.dup X0.here hx rfl (hb hby own_d10_1) rfl rfl k) ?_
  show own_Run p e below s _ _ _ (s₁.setTop (mkF m 2 #[.val (.ref o0)] [(.ref o0), (.ref o0)]))
  obtain ⟨T66, X66, e66, st66⟩ := getF X0 hx hZ hown (host := "") (Or.inl (hw _ (List.mem_of_getElem? (i := 25) rfl))) Via.refl e0 pen (g := (mkF m 2 #[.val (.ref o0)] [(.ref o0), (.ref o0)])) rfl rfl (hb hby own_d10_2)
  refine own_st st66 ?_
  show own_Run p e below s _ _ _ (T66.setTop (mkF m 5 #[.val (.ref o0)] [(.int en), (.ref o0)]))
  refine own_st (fun t k => XS.iconst X66.here hx rfl (hb hby own_d10_5) k) ?_
  show own_Run p e below s _ _ _ (T66.setTop (mkF m 6 #[.val (.ref o0)] [(.int (1 : Int32)), (.int en), (.ref o0)]))
  refine own_st (fun t k => XS.iadd X66.here hx rfl (hb hby own_d10_6) rfl k) ?_
  show own_Run p e below s _ _ _ (T66.setTop (mkF m 7 #[.val (.ref o0)] [(.int (en + (1 : Int32))), (.ref o0)]))
  obtain ⟨T67, h67, X67, e67, W67, st67⟩ := putF X66 hx hZ hown (host := "") (Or.inl (hw _ (List.mem_of_getElem? (i := 25) rfl))) Via.refl e66 pen E0 (Or.inl (hw _ (List.mem_of_getElem? (i := 26) rfl))) (hw _ (List.mem_of_getElem? (i := 1) rfl)) (ty := .int) (by decide) rfl rfl (g := (mkF m 7 #[.val (.ref o0)] [(.int (en + (1 : Int32))), (.ref o0)])) rfl rfl (hb hby own_d10_7)
  refine own_st st67 ?_
  have Fw67 := pen.same W67
  have N67 := Fr.snoc X67 N0 G0
  have K68 : Keep h0 h67 [o0, w] := K0.wr W67 (Or.inl (List.mem_of_getElem? (i := 0) rfl))
  show own_Run p e below s _ _ _ (T67.setTop (mkF m 10 #[.val (.ref o0)] []))
  refine own_st (fun t k => XS.aloadN X67.here hx rfl (hb hby own_d10_10) rfl rfl k) ?_
  show own_Run p e below s _ _ _ (T67.setTop (mkF m 11 #[.val (.ref o0)] [(.ref o0)]))
  have F70 := (pwh.other W67 (Or.inr (slot_ne (Or.inr (hw _ (List.mem_of_getElem? (i := 13) rfl))) (Or.inl (hw _ (List.mem_of_getElem? (i := 26) rfl))) (by decide) (t := (.object "com/example/kerb2d/kerb2d/engine/Tally")) (t' := .int) (by decide) (by decide))))
  obtain ⟨T71, X71, e71, st71⟩ := getF X67 hx hZ hown (host := "") (Or.inl (hw _ (List.mem_of_getElem? (i := 12) rfl))) Via.refl e67 F70 (g := (mkF m 11 #[.val (.ref o0)] [(.ref o0)])) rfl rfl (hb hby own_d10_11)
  refine own_st st71 ?_
  show own_Run p e below s _ _ _ (T71.setTop (mkF m 14 #[.val (.ref o0)] [(.ref w)]))
  refine own_st (fun t k => XS.ifnullNo X71.here hx rfl (hb hby own_d10_14) rfl k) ?_
  show own_Run p e below s _ _ _ (T71.setTop (mkF m 17 #[.val (.ref o0)] []))
  refine own_st (fun t k => XS.aloadN X71.here hx rfl (hb hby own_d10_17) rfl rfl k) ?_
  show own_Run p e below s _ _ _ (T71.setTop (mkF m 18 #[.val (.ref o0)] [(.ref o0)]))
  obtain ⟨T72, X72, e72, st72⟩ := getF X71 hx hZ hown (host := "") (Or.inl (hw _ (List.mem_of_getElem? (i := 12) rfl))) Via.refl e71 F70 (g := (mkF m 18 #[.val (.ref o0)] [(.ref o0)])) rfl rfl (hb hby own_d10_18)
  refine own_st st72 ?_
  show own_Run p e below s _ _ _ (T72.setTop (mkF m 21 #[.val (.ref o0)] [(.ref w)]))
  have E73 := (E9.wr W67)
  have F74 := (qwh.other W67 (Or.inl (Ne.symm ne1)))
  have F75 := (qar.other W67 (Or.inl (Ne.symm ne1)))
  have F76 := (qen.other W67 (Or.inl (Ne.symm ne1)))
  have F77 := (qle.other W67 (Or.inl (Ne.symm ne1)))
  have F78 := (qde.other W67 (Or.inl (Ne.symm ne1)))
  have F79 := (qco.other W67 (Or.inl (Ne.symm ne1)))
  have F80 := (qfi.other W67 (Or.inl (Ne.symm ne1)))
  have F81 := (qbo.other W67 (Or.inl (Ne.symm ne1)))
  refine own_callV X72 hx hZ (y := (⟨"com/example/kerb2d/kerb2d/engine/Tally", "enter", "()V"⟩ : MethodName)) (C := "com/example/kerb2d/kerb2d/engine/Tally") hown (hw _ (List.mem_of_getElem? (i := 92) rfl)) (hw _ (List.mem_of_getElem? (i := 88) rfl)) (hw _ (List.mem_of_getElem? (i := 90) rfl)) (hw _ (List.mem_of_getElem? (i := 89) rfl)) (hw _ (List.mem_of_getElem? (i := 91) rfl)) (hw _ (List.mem_of_getElem? (i := 2) rfl)) (by decide) e72 (a := w) E73 (argsL := []) (rest := []) (W := 0) (own_rm10W l Z a0 hw [] w ar1 en1 h67 n0 (Nat.le_trans Z0 K68.1) E73 G9 F74 F75 F76 F77 F78 F79 F80 F81) (by decide) (by decide) (by rw [hml]; rfl) (lenOf own_pd2 rfl) rfl (by exact Nat.le_of_eq rfl) (hb hby own_d10_21) (by decide) (by decide) ?_
  intro T82 v82 L82 X82 hq82
  obtain ⟨rfl, N82q, K82q, Q83, Q84, Q85, Q86, Q87, Q88, Q89, Q90, Q91⟩ := hq82
  have K92 : Keep h0 T82.heap [o0, w] := K68.trans K82q (allS (Or.inl (List.mem_of_getElem? (i := 1) rfl)) all0)
  have N82 := Fr.app N67 N82q
  show own_Run p e below s _ _ _ (T82.setTop (mkF m 24 #[.val (.ref o0)] []))
  have E94 := ((E0.wr W67).keep K82q)
  have F95 := (F70.keep K82q (ninS ne1 nin0))
  have F96 := ((par.other W67 (Or.inr (slot_ne (Or.inl (hw _ (List.mem_of_getElem? (i := 24) rfl))) (Or.inl (hw _ (List.mem_of_getElem? (i := 26) rfl))) (by decide) (t := .int) (t' := .int) (by decide) (by decide)))).keep K82q (ninS ne1 nin0))
  have F97 := (Fw67.keep K82q (ninS ne1 nin0))
  have F98 := ((ple.other W67 (Or.inr (slot_ne (Or.inl (hw _ (List.mem_of_getElem? (i := 28) rfl))) (Or.inl (hw _ (List.mem_of_getElem? (i := 26) rfl))) (by decide) (t := .int) (t' := .int) (by decide) (by decide)))).keep K82q (ninS ne1 nin0))
  have F99 := ((pde.other W67 (Or.inr (slot_ne (Or.inl (hw _ (List.mem_of_getElem? (i := 30) rfl))) (Or.inl (hw _ (List.mem_of_getElem? (i := 26) rfl))) (by decide) (t := .int) (t' := .int) (by decide) (by decide)))).keep K82q (ninS ne1 nin0))
  have F100 := ((pco.other W67 (Or.inr (slot_ne (Or.inl (hw _ (List.mem_of_getElem? (i := 37) rfl))) (Or.inl (hw _ (List.mem_of_getElem? (i := 26) rfl))) (by decide) (t := .long) (t' := .int) (by decide) (by decide)))).keep K82q (ninS ne1 nin0))
  have F101 := ((pfi.other W67 (Or.inr (slot_ne (Or.inl (hw _ (List.mem_of_getElem? (i := 39) rfl))) (Or.inl (hw _ (List.mem_of_getElem? (i := 26) rfl))) (by decide) (t := .int) (t' := .int) (by decide) (by decide)))).keep K82q (ninS ne1 nin0))
  have F102 := ((pbo.other W67 (Or.inr (slot_ne (Or.inl (hw _ (List.mem_of_getElem? (i := 41) rfl))) (Or.inl (hw _ (List.mem_of_getElem? (i := 26) rfl))) (by decide) (t := .int) (t' := .int) (by decide) (by decide)))).keep K82q (ninS ne1 nin0))
  exact own_retV X82 hx hlk hret (hb hby own_d10_24) (by decide) (by decide) ⟨rfl, N82, K92, E94, F95, F96, F97, F98, F99, F100, F101, F102, Q83, Q84, Q85, Q86, Q87, Q88, Q89, Q90, Q91⟩
theorem own_d7_0 : decode jdk_30_method_1_code 0 = .ok (.aload_n 0, 1) := by decide +kernel
theorem own_d7_1 : decode jdk_30_method_1_code 1 = .ok (.invokespecial 1, 3) := by decide +kernel
theorem own_d7_4 : decode jdk_30_method_1_code 4 = .ok (.return_, 1) := by decide +kernel
set_option maxHeartbeats 4000000 in
theorem own_ef7 (m : MethodId) (x0 : Addr) : entryFrame m #[(.ref x0)] 1 = mkF m 0 #[.val (.ref x0)] [] := by first | (simp [entryFrame, mkF, argsToLocals, Value.category]; done) | rfl
theorem own_pn3 : plainName "java/lang/Record" = true := by first | (simp [plainName, overriddenIn]; done) | decide +kernel
def own_Q7 (Z : State) (a0 : Array Value) (o0 : Addr) (h0 : Heap) (n0 : Nat) (v : Option Value) (h : Heap) (L : List Loc) : Prop := v = none ∧ Fr n0 L ∧ h = h0
set_option maxRecDepth 65536 in
set_option maxHeartbeats 40000000 in
theorem own_rm7 (l : Launch) (Z : State) (a0 : Array Value) (hw : ∀ d ∈ tables_1, d.before a0 Z = true) (ws : List Jvm.Cond) (o0 : Addr) (h0 : Heap) (n0 : Nat) (Z0 : n0 ≤ h0.size) :
    MetFree l (⟨"java/lang/Record", "<init>", "()V"⟩ : MethodName) (head1 (Jvm.Cond.code (⟨"java/lang/Record", "<init>", "()V"⟩ : MethodName) jdk_30_method_1_code 1 none :: ws) ({ frames := 1, cells := 0, slots := 0, locals := 12 } : Room)) (fun a U => a = #[(.ref o0)] ∧ Z.Warmed39 U.vm ∧ U.heap = h0) (fun _ _ _ _ _ => True) (fun _ U o U' => ∃ v L, o = .returned v ∧ own_Q7 Z a0 o0 h0 n0 v U'.heap L ∧ FrameEnd U o U' L ({ frames := 1, cells := 0, slots := 0, locals := 12 } : Room).cells ({ frames := 1, cells := 0, slots := 0, locals := 12 } : Room).slots) := by
  refine own_body (Q := fun v h L => own_Q7 Z a0 o0 h0 n0 v h L) (plainFor_of_name own_pn3) ?_
  intro p e s m below meth c s₁ hx hby hml hZ hown hnm hret hlk X0 e0
  replace hml : c.maxLocals = 1 := hml
  have N0 := Fr.nil n0
  have K0 : Keep h0 h0 [] := Keep.refl _ _
  refine own_st (fun t k => castTop (own_ef7 m o0) k) ?_
  show own_Run p e below s _ _ _ (s₁.setTop (mkF m 0 #[.val (.ref o0)] []))
  refine own_st (fun t k => XS.aloadN X0.here hx rfl (hb hby own_d7_0) rfl rfl k) ?_
  show own_Run p e below s _ _ _ (s₁.setTop (mkF m 1 #[.val (.ref o0)] [(.ref o0)]))
  obtain ⟨T103, X103, e103, st103⟩ := initO X0 hx hZ hown (hw _ (List.mem_of_getElem? (i := 50) rfl)) (hw _ (List.mem_of_getElem? (i := 10) rfl)) (hw _ (List.mem_of_getElem? (i := 11) rfl)) e0 (g := (mkF m 1 #[.val (.ref o0)] [(.ref o0)])) rfl (by rw [hml]; rfl) rfl (hb hby own_d7_1) (by decide) (W := 0) (by show 2 * 0 + _ ≤ _; exact Nat.le_of_eq rfl) (by decide)
  refine own_st st103 ?_
  show own_Run p e below s _ _ _ (T103.setTop (mkF m 4 #[.val (.ref o0)] []))
  exact own_retV X103 hx hlk hret (hb hby own_d7_4) (by decide) (by decide) ⟨rfl, N0, e103⟩
theorem own_d5_0 : decode jdk_2648_method_2_code 0 = .ok (.getstatic 21, 3) := by decide +kernel
theorem own_d5_3 : decode jdk_2648_method_2_code 3 = .ok (.areturn, 1) := by decide +kernel
set_option maxHeartbeats 4000000 in
theorem own_ef5 (m : MethodId)  : entryFrame m #[] 0 = mkF m 0 #[] [] := by first | (simp [entryFrame, mkF, argsToLocals, Value.category]; done) | rfl
theorem own_pn4 : plainName "java/util/OptionalDouble" = true := by first | (simp [plainName, overriddenIn]; done) | decide +kernel
def own_Q5 (Z : State) (a0 : Array Value) (te : Addr) (h0 : Heap) (n0 : Nat) (v : Option Value) (h : Heap) (L : List Loc) : Prop := v = some (.ref te) ∧ Fr n0 L ∧ h = h0
set_option maxRecDepth 65536 in
set_option maxHeartbeats 40000000 in
theorem own_rm5 (l : Launch) (Z : State) (a0 : Array Value) (hw : ∀ d ∈ tables_1, d.before a0 Z = true) (ws : List Jvm.Cond) (te : Addr) (h0 : Heap) (n0 : Nat) (Z0 : n0 ≤ h0.size) (O0 : Old Z n0 h0) (S_E : Sta Z Z.heap "java/util/OptionalDouble" "EMPTY" "Ljava/util/OptionalDouble;" (.ref te)) :
    MetFree l (⟨"java/util/OptionalDouble", "empty", "()Ljava/util/OptionalDouble;"⟩ : MethodName) (head1 (Jvm.Cond.code (⟨"java/util/OptionalDouble", "empty", "()Ljava/util/OptionalDouble;"⟩ : MethodName) jdk_2648_method_2_code 0 (some (.object "java/util/OptionalDouble")) :: ws) ({ frames := 0, cells := 0, slots := 0, locals := 0 } : Room)) (fun a U => a = #[] ∧ Z.Warmed39 U.vm ∧ U.heap = h0) (fun _ _ _ _ _ => True) (fun _ U o U' => ∃ v L, o = .returned v ∧ own_Q5 Z a0 te h0 n0 v U'.heap L ∧ FrameEnd U o U' L ({ frames := 0, cells := 0, slots := 0, locals := 0 } : Room).cells ({ frames := 0, cells := 0, slots := 0, locals := 0 } : Room).slots) := by
  refine own_body (Q := fun v h L => own_Q5 Z a0 te h0 n0 v h L) (plainFor_of_name own_pn4) ?_
  intro p e s m below meth c s₁ hx hby hml hZ hown hnm hret hlk X0 e0
  replace hml : c.maxLocals = 0 := hml
  have N0 := Fr.nil n0
  have K0 : Keep h0 h0 [] := Keep.refl _ _
  refine own_st (fun t k => castTop (own_ef5 m ) k) ?_
  show own_Run p e below s _ _ _ (s₁.setTop (mkF m 0 #[] []))
  obtain ⟨T104, X104, e104, st104⟩ := getS2 X0 hx hZ hown (host := "") (Or.inl (hw _ (List.mem_of_getElem? (i := 35) rfl))) Via.refl e0 (S_E.ext O0.2) (g := (mkF m 0 #[] [])) rfl (hb hby own_d5_0)
  refine own_st st104 ?_
  show own_Run p e below s _ _ _ (T104.setTop (mkF m 3 #[] [(.ref te)]))
  exact own_ret X104 hx hlk (t := (.object "java/util/OptionalDouble")) hret rfl (Or.inr (Or.inr (Or.inr (Or.inr ⟨rfl, rfl, rfl⟩)))) (hb hby own_d5_3) (by decide) (by decide) ⟨rfl, N0, e104⟩
theorem own_d6_0 : decode prog_10_method_1_code 0 = .ok (.aload_n 0, 1) := by decide +kernel
theorem own_d6_1 : decode prog_10_method_1_code 1 = .ok (.invokespecial 1, 3) := by decide +kernel
theorem own_d6_4 : decode prog_10_method_1_code 4 = .ok (.aload_n 0, 1) := by decide +kernel
theorem own_d6_5 : decode prog_10_method_1_code 5 = .ok (.dload_n 1, 1) := by decide +kernel
theorem own_d6_6 : decode prog_10_method_1_code 6 = .ok (.putfield 7, 3) := by decide +kernel
theorem own_d6_9 : decode prog_10_method_1_code 9 = .ok (.aload_n 0, 1) := by decide +kernel
theorem own_d6_10 : decode prog_10_method_1_code 10 = .ok (.iload_n 3, 1) := by decide +kernel
theorem own_d6_11 : decode prog_10_method_1_code 11 = .ok (.putfield 13, 3) := by decide +kernel
theorem own_d6_14 : decode prog_10_method_1_code 14 = .ok (.aload_n 0, 1) := by decide +kernel
theorem own_d6_15 : decode prog_10_method_1_code 15 = .ok (.iload 4, 2) := by decide +kernel
theorem own_d6_17 : decode prog_10_method_1_code 17 = .ok (.putfield 17, 3) := by decide +kernel
theorem own_d6_20 : decode prog_10_method_1_code 20 = .ok (.aload_n 0, 1) := by decide +kernel
theorem own_d6_21 : decode prog_10_method_1_code 21 = .ok (.iload 5, 2) := by decide +kernel
theorem own_d6_23 : decode prog_10_method_1_code 23 = .ok (.putfield 20, 3) := by decide +kernel
theorem own_d6_26 : decode prog_10_method_1_code 26 = .ok (.aload_n 0, 1) := by decide +kernel
theorem own_d6_27 : decode prog_10_method_1_code 27 = .ok (.iload 6, 2) := by decide +kernel
theorem own_d6_29 : decode prog_10_method_1_code 29 = .ok (.putfield 23, 3) := by decide +kernel
theorem own_d6_32 : decode prog_10_method_1_code 32 = .ok (.aload_n 0, 1) := by decide +kernel
theorem own_d6_33 : decode prog_10_method_1_code 33 = .ok (.iload 7, 2) := by decide +kernel
theorem own_d6_35 : decode prog_10_method_1_code 35 = .ok (.putfield 26, 3) := by decide +kernel
theorem own_d6_38 : decode prog_10_method_1_code 38 = .ok (.aload_n 0, 1) := by decide +kernel
theorem own_d6_39 : decode prog_10_method_1_code 39 = .ok (.dload 8, 2) := by decide +kernel
theorem own_d6_41 : decode prog_10_method_1_code 41 = .ok (.putfield 29, 3) := by decide +kernel
theorem own_d6_44 : decode prog_10_method_1_code 44 = .ok (.aload_n 0, 1) := by decide +kernel
theorem own_d6_45 : decode prog_10_method_1_code 45 = .ok (.dload 10, 2) := by decide +kernel
theorem own_d6_47 : decode prog_10_method_1_code 47 = .ok (.putfield 32, 3) := by decide +kernel
theorem own_d6_50 : decode prog_10_method_1_code 50 = .ok (.aload_n 0, 1) := by decide +kernel
theorem own_d6_51 : decode prog_10_method_1_code 51 = .ok (.aload 12, 2) := by decide +kernel
theorem own_d6_53 : decode prog_10_method_1_code 53 = .ok (.putfield 35, 3) := by decide +kernel
theorem own_d6_56 : decode prog_10_method_1_code 56 = .ok (.aload_n 0, 1) := by decide +kernel
theorem own_d6_57 : decode prog_10_method_1_code 57 = .ok (.lload 13, 2) := by decide +kernel
theorem own_d6_59 : decode prog_10_method_1_code 59 = .ok (.putfield 39, 3) := by decide +kernel
theorem own_d6_62 : decode prog_10_method_1_code 62 = .ok (.aload_n 0, 1) := by decide +kernel
theorem own_d6_63 : decode prog_10_method_1_code 63 = .ok (.aload 15, 2) := by decide +kernel
theorem own_d6_65 : decode prog_10_method_1_code 65 = .ok (.putfield 43, 3) := by decide +kernel
theorem own_d6_68 : decode prog_10_method_1_code 68 = .ok (.aload_n 0, 1) := by decide +kernel
theorem own_d6_69 : decode prog_10_method_1_code 69 = .ok (.iload 16, 2) := by decide +kernel
theorem own_d6_71 : decode prog_10_method_1_code 71 = .ok (.putfield 46, 3) := by decide +kernel
theorem own_d6_74 : decode prog_10_method_1_code 74 = .ok (.aload_n 0, 1) := by decide +kernel
theorem own_d6_75 : decode prog_10_method_1_code 75 = .ok (.iload 17, 2) := by decide +kernel
theorem own_d6_77 : decode prog_10_method_1_code 77 = .ok (.putfield 49, 3) := by decide +kernel
theorem own_d6_80 : decode prog_10_method_1_code 80 = .ok (.return_, 1) := by decide +kernel
set_option maxHeartbeats 4000000 in
theorem own_ef6 (m : MethodId) (x0 : Addr) (x1 : UInt64) (x2 : Int32) (x3 : Int32) (x4 : Int32) (x5 : Int32) (x6 : Int32) (x7 : UInt64) (x8 : UInt64) (x9 : Addr) (x10 : Int64) (x11 : Addr) (x12 : Int32) (x13 : Int32) : entryFrame m #[(.ref x0), (.double x1), (.int x2), (.int x3), (.int x4), (.int x5), (.int x6), (.double x7), (.double x8), (.ref x9), (.long x10), (.ref x11), (.int x12), (.int x13)] 18 = mkF m 0 #[.val (.ref x0), .val (.double x1), .second, .val (.int x2), .val (.int x3), .val (.int x4), .val (.int x5), .val (.int x6), .val (.double x7), .second, .val (.double x8), .second, .val (.ref x9), .val (.long x10), .second, .val (.ref x11), .val (.int x12), .val (.int x13)] [] := by first | (simp [entryFrame, mkF, argsToLocals, Value.category]; done) | rfl
theorem own_pn5 : plainName "com/example/kerb2d/kerb2d/engine/Measures" = true := by first | (simp [plainName, overriddenIn]; done) | decide +kernel
def own_Q6 (Z : State) (a0 : Array Value) (a0_ : Addr) (d1 : UInt64) (i2 : Int32) (i3 : Int32) (i4 : Int32) (i5 : Int32) (i6 : Int32) (d7 : UInt64) (d8 : UInt64) (o9 : Addr) (j10 : Int64) (o11 : Addr) (i12 : Int32) (i13 : Int32) (h0 : Heap) (n0 : Nat) (v : Option Value) (h : Heap) (L : List Loc) : Prop := v = none ∧ Fr n0 L ∧ Keep h0 h [a0_] ∧ Exa Z h a0_ "com/example/kerb2d/kerb2d/engine/Measures" ∧ Fld Z h a0_ "com/example/kerb2d/kerb2d/engine/Measures" "arrived" "I" (.int i2) ∧ Fld Z h a0_ "com/example/kerb2d/kerb2d/engine/Measures" "entered" "I" (.int i3) ∧ Fld Z h a0_ "com/example/kerb2d/kerb2d/engine/Measures" "waiting" "I" (.int i4)
set_option maxRecDepth 65536 in
set_option maxHeartbeats 40000000 in
theorem own_rm6 (l : Launch) (Z : State) (a0 : Array Value) (hw : ∀ d ∈ tables_1, d.before a0 Z = true) (ws : List Jvm.Cond) (a0_ : Addr) (d1 : UInt64) (i2 : Int32) (i3 : Int32) (i4 : Int32) (i5 : Int32) (i6 : Int32) (d7 : UInt64) (d8 : UInt64) (o9 : Addr) (j10 : Int64) (o11 : Addr) (i12 : Int32) (i13 : Int32) (h0 : Heap) (n0 : Nat) (Z0 : n0 ≤ h0.size) (E0 : Exa Z h0 a0_ "com/example/kerb2d/kerb2d/engine/Measures") (D0 : ∀ {O nm d : String} {ty : FieldType}, Laid Z a0 "com/example/kerb2d/kerb2d/engine/Measures" O nm d → parseFieldDescriptor d = some ty → Fld Z h0 a0_ O nm d (defaultValue ty)) (G0 : n0 ≤ a0_) :
    MetFree l (⟨"com/example/kerb2d/kerb2d/engine/Measures", "<init>", "(DIIIIIDDLjava/util/OptionalDouble;JLjava/util/OptionalDouble;II)V"⟩ : MethodName) (head1 (Jvm.Cond.code (⟨"com/example/kerb2d/kerb2d/engine/Measures", "<init>", "(DIIIIIDDLjava/util/OptionalDouble;JLjava/util/OptionalDouble;II)V"⟩ : MethodName) prog_10_method_1_code 18 none :: ws) ({ frames := 2, cells := 0, slots := 0, locals := 24 } : Room)) (fun a U => a = #[(.ref a0_), (.double d1), (.int i2), (.int i3), (.int i4), (.int i5), (.int i6), (.double d7), (.double d8), (.ref o9), (.long j10), (.ref o11), (.int i12), (.int i13)] ∧ Z.Warmed39 U.vm ∧ U.heap = h0) (fun _ _ _ _ _ => True) (fun _ U o U' => ∃ v L, o = .returned v ∧ own_Q6 Z a0 a0_ d1 i2 i3 i4 i5 i6 d7 d8 o9 j10 o11 i12 i13 h0 n0 v U'.heap L ∧ FrameEnd U o U' L ({ frames := 2, cells := 0, slots := 0, locals := 24 } : Room).cells ({ frames := 2, cells := 0, slots := 0, locals := 24 } : Room).slots) := by
  refine own_body (Q := fun v h L => own_Q6 Z a0 a0_ d1 i2 i3 i4 i5 i6 d7 d8 o9 j10 o11 i12 i13 h0 n0 v h L) (plainFor_of_name own_pn5) ?_
  intro p e s m below meth c s₁ hx hby hml hZ hown hnm hret hlk X0 e0
  replace hml : c.maxLocals = 18 := hml
  have N0 := Fr.nil n0
  have K0 : Keep h0 h0 [a0_] := Keep.refl _ _
  refine own_st (fun t k => castTop (own_ef6 m a0_ d1 i2 i3 i4 i5 i6 d7 d8 o9 j10 o11 i12 i13) k) ?_
  show own_Run p e below s _ _ _ (s₁.setTop (mkF m 0 #[.val (.ref a0_), .val (.double d1), .second, .val (.int i2), .val (.int i3), .val (.int i4), .val (.int i5), .val (.int i6), .val (.double d7), .second, .val (.double d8), .second, .val (.ref o9), .val (.long j10), .second, .val (.ref o11), .val (.int i12), .val (.int i13)] []))
  refine own_st (fun t k => XS.aloadN X0.here hx rfl (hb hby own_d6_0) rfl rfl k) ?_
  show own_Run p e below s _ _ _ (s₁.setTop (mkF m 1 #[.val (.ref a0_), .val (.double d1), .second, .val (.int i2), .val (.int i3), .val (.int i4), .val (.int i5), .val (.int i6), .val (.double d7), .second, .val (.double d8), .second, .val (.ref o9), .val (.long j10), .second, .val (.ref o11), .val (.int i12), .val (.int i13)] [(.ref a0_)]))
  refine own_callI X0 hx hZ (y := (⟨"java/lang/Record", "<init>", "()V"⟩ : MethodName)) rfl hown (hw _ (List.mem_of_getElem? (i := 45) rfl)) (hw _ (List.mem_of_getElem? (i := 46) rfl)) (hw _ (List.mem_of_getElem? (i := 49) rfl)) (hw _ (List.mem_of_getElem? (i := 48) rfl)) (by decide) e0 (a := a0_) (argsL := []) (rest := []) (W := 0) (own_rm7 l Z a0 hw [] a0_ h0 n0 (Nat.le_trans Z0 K0.1) ) (by decide) (by decide) (by rw [hml]; rfl) (lenOf own_pd2 rfl) rfl (by exact Nat.le_of_eq rfl) (hb hby own_d6_1) (by decide) (by decide) ?_
  intro T105 v105 L105 X105 hq105
  obtain ⟨rfl, N105q, hh105⟩ := hq105
  have N105 := Fr.app N0 N105q
  show own_Run p e below s _ _ _ (T105.setTop (mkF m 4 #[.val (.ref a0_), .val (.double d1), .second, .val (.int i2), .val (.int i3), .val (.int i4), .val (.int i5), .val (.int i6), .val (.double d7), .second, .val (.double d8), .second, .val (.ref o9), .val (.long j10), .second, .val (.ref o11), .val (.int i12), .val (.int i13)] []))
  refine own_st (fun t k => XS.aloadN X105.here hx rfl (hb hby own_d6_4) rfl rfl k) ?_
  show own_Run p e below s _ _ _ (T105.setTop (mkF m 5 #[.val (.ref a0_), .val (.double d1), .second, .val (.int i2), .val (.int i3), .val (.int i4), .val (.int i5), .val (.int i6), .val (.double d7), .second, .val (.double d8), .second, .val (.ref o9), .val (.long j10), .second, .val (.ref o11), .val (.int i12), .val (.int i13)] [(.ref a0_)]))
  refine own_st (fun t k => XS.dloadN X105.here hx rfl (hb hby own_d6_5) rfl k) ?_
  show own_Run p e below s _ _ _ (T105.setTop (mkF m 6 #[.val (.ref a0_), .val (.double d1), .second, .val (.int i2), .val (.int i3), .val (.int i4), .val (.int i5), .val (.int i6), .val (.double d7), .second, .val (.double d8), .second, .val (.ref o9), .val (.long j10), .second, .val (.ref o11), .val (.int i12), .val (.int i13)] [(.double d1), (.ref a0_)]))
  have F106 : Fld Z _ a0_ "com/example/kerb2d/kerb2d/engine/Measures" "time" "D" (.double (0 : UInt64)) := D0 (Or.inr (hw _ (List.mem_of_getElem? (i := 52) rfl))) (ty := .double) (by decide)
  obtain ⟨T107, h107, X107, e107, W107, st107⟩ := putF X105 hx hZ hown (host := "") (Or.inl (hw _ (List.mem_of_getElem? (i := 51) rfl))) Via.refl hh105 F106 E0 (Or.inr ⟨(hw _ (List.mem_of_getElem? (i := 52) rfl)), rfl, hnm⟩) (hw _ (List.mem_of_getElem? (i := 21) rfl)) (ty := .double) (by decide) rfl rfl (g := (mkF m 6 #[.val (.ref a0_), .val (.double d1), .second, .val (.int i2), .val (.int i3), .val (.int i4), .val (.int i5), .val (.int i6), .val (.double d7), .second, .val (.double d8), .second, .val (.ref o9), .val (.long j10), .second, .val (.ref o11), .val (.int i12), .val (.int i13)] [(.double d1), (.ref a0_)])) rfl rfl (hb hby own_d6_6)
  refine own_st st107 ?_
  have Fw107 := F106.same W107
  have N107 := Fr.snoc X107 N105 G0
  have K108 : Keep h0 h107 [a0_] := K0.wr W107 (Or.inl (List.mem_of_getElem? (i := 0) rfl))
  show own_Run p e below s _ _ _ (T107.setTop (mkF m 9 #[.val (.ref a0_), .val (.double d1), .second, .val (.int i2), .val (.int i3), .val (.int i4), .val (.int i5), .val (.int i6), .val (.double d7), .second, .val (.double d8), .second, .val (.ref o9), .val (.long j10), .second, .val (.ref o11), .val (.int i12), .val (.int i13)] []))
  refine own_st (fun t k => XS.aloadN X107.here hx rfl (hb hby own_d6_9) rfl rfl k) ?_
  show own_Run p e below s _ _ _ (T107.setTop (mkF m 10 #[.val (.ref a0_), .val (.double d1), .second, .val (.int i2), .val (.int i3), .val (.int i4), .val (.int i5), .val (.int i6), .val (.double d7), .second, .val (.double d8), .second, .val (.ref o9), .val (.long j10), .second, .val (.ref o11), .val (.int i12), .val (.int i13)] [(.ref a0_)]))
  refine own_st (fun t k => XS.iloadN X107.here hx rfl (hb hby own_d6_10) rfl k) ?_
  show own_Run p e below s _ _ _ (T107.setTop (mkF m 11 #[.val (.ref a0_), .val (.double d1), .second, .val (.int i2), .val (.int i3), .val (.int i4), .val (.int i5), .val (.int i6), .val (.double d7), .second, .val (.double d8), .second, .val (.ref o9), .val (.long j10), .second, .val (.ref o11), .val (.int i12), .val (.int i13)] [(.int i2), (.ref a0_)]))
  have E110 := (E0.wr W107)
  have F111 : Fld Z _ a0_ "com/example/kerb2d/kerb2d/engine/Measures" "arrived" "I" (.int (0 : Int32)) := D0 (Or.inr (hw _ (List.mem_of_getElem? (i := 54) rfl))) (ty := .int) (by decide)
  have F112 := (F111.other W107 (Or.inr (slot_ne (Or.inr (hw _ (List.mem_of_getElem? (i := 54) rfl))) (Or.inr (hw _ (List.mem_of_getElem? (i := 52) rfl))) (by decide) (t := .int) (t' := .double) (by decide) (by decide))))
  obtain ⟨T113, h113, X113, e113, W113, st113⟩ := putF X107 hx hZ hown (host := "") (Or.inl (hw _ (List.mem_of_getElem? (i := 53) rfl))) Via.refl e107 F112 E110 (Or.inr ⟨(hw _ (List.mem_of_getElem? (i := 54) rfl)), rfl, hnm⟩) (hw _ (List.mem_of_getElem? (i := 21) rfl)) (ty := .int) (by decide) rfl rfl (g := (mkF m 11 #[.val (.ref a0_), .val (.double d1), .second, .val (.int i2), .val (.int i3), .val (.int i4), .val (.int i5), .val (.int i6), .val (.double d7), .second, .val (.double d8), .second, .val (.ref o9), .val (.long j10), .second, .val (.ref o11), .val (.int i12), .val (.int i13)] [(.int i2), (.ref a0_)])) rfl rfl (hb hby own_d6_11)
  refine own_st st113 ?_
  have Fw113 := F112.same W113
  have N113 := Fr.snoc X113 N107 G0
  have K114 : Keep h0 h113 [a0_] := K108.wr W113 (Or.inl (List.mem_of_getElem? (i := 0) rfl))
  show own_Run p e below s _ _ _ (T113.setTop (mkF m 14 #[.val (.ref a0_), .val (.double d1), .second, .val (.int i2), .val (.int i3), .val (.int i4), .val (.int i5), .val (.int i6), .val (.double d7), .second, .val (.double d8), .second, .val (.ref o9), .val (.long j10), .second, .val (.ref o11), .val (.int i12), .val (.int i13)] []))
  refine own_st (fun t k => XS.aloadN X113.here hx rfl (hb hby own_d6_14) rfl rfl k) ?_
  show own_Run p e below s _ _ _ (T113.setTop (mkF m 15 #[.val (.ref a0_), .val (.double d1), .second, .val (.int i2), .val (.int i3), .val (.int i4), .val (.int i5), .val (.int i6), .val (.double d7), .second, .val (.double d8), .second, .val (.ref o9), .val (.long j10), .second, .val (.ref o11), .val (.int i12), .val (.int i13)] [(.ref a0_)]))
  refine own_st (fun t k => XS.iload X113.here hx rfl (hb hby own_d6_15) rfl k) ?_
  show own_Run p e below s _ _ _ (T113.setTop (mkF m 17 #[.val (.ref a0_), .val (.double d1), .second, .val (.int i2), .val (.int i3), .val (.int i4), .val (.int i5), .val (.int i6), .val (.double d7), .second, .val (.double d8), .second, .val (.ref o9), .val (.long j10), .second, .val (.ref o11), .val (.int i12), .val (.int i13)] [(.int i3), (.ref a0_)]))
  have E116 := (E110.wr W113)
  have F117 : Fld Z _ a0_ "com/example/kerb2d/kerb2d/engine/Measures" "entered" "I" (.int (0 : Int32)) := D0 (Or.inr (hw _ (List.mem_of_getElem? (i := 56) rfl))) (ty := .int) (by decide)
  have F118 := ((F117.other W107 (Or.inr (slot_ne (Or.inr (hw _ (List.mem_of_getElem? (i := 56) rfl))) (Or.inr (hw _ (List.mem_of_getElem? (i := 52) rfl))) (by decide) (t := .int) (t' := .double) (by decide) (by decide)))).other W113 (Or.inr (slot_ne (Or.inr (hw _ (List.mem_of_getElem? (i := 56) rfl))) (Or.inr (hw _ (List.mem_of_getElem? (i := 54) rfl))) (by decide) (t := .int) (t' := .int) (by decide) (by decide))))
  obtain ⟨T119, h119, X119, e119, W119, st119⟩ := putF X113 hx hZ hown (host := "") (Or.inl (hw _ (List.mem_of_getElem? (i := 55) rfl))) Via.refl e113 F118 E116 (Or.inr ⟨(hw _ (List.mem_of_getElem? (i := 56) rfl)), rfl, hnm⟩) (hw _ (List.mem_of_getElem? (i := 21) rfl)) (ty := .int) (by decide) rfl rfl (g := (mkF m 17 #[.val (.ref a0_), .val (.double d1), .second, .val (.int i2), .val (.int i3), .val (.int i4), .val (.int i5), .val (.int i6), .val (.double d7), .second, .val (.double d8), .second, .val (.ref o9), .val (.long j10), .second, .val (.ref o11), .val (.int i12), .val (.int i13)] [(.int i3), (.ref a0_)])) rfl rfl (hb hby own_d6_17)
  refine own_st st119 ?_
  have Fw119 := F118.same W119
  have N119 := Fr.snoc X119 N113 G0
  have K120 : Keep h0 h119 [a0_] := K114.wr W119 (Or.inl (List.mem_of_getElem? (i := 0) rfl))
  show own_Run p e below s _ _ _ (T119.setTop (mkF m 20 #[.val (.ref a0_), .val (.double d1), .second, .val (.int i2), .val (.int i3), .val (.int i4), .val (.int i5), .val (.int i6), .val (.double d7), .second, .val (.double d8), .second, .val (.ref o9), .val (.long j10), .second, .val (.ref o11), .val (.int i12), .val (.int i13)] []))
  refine own_st (fun t k => XS.aloadN X119.here hx rfl (hb hby own_d6_20) rfl rfl k) ?_
  show own_Run p e below s _ _ _ (T119.setTop (mkF m 21 #[.val (.ref a0_), .val (.double d1), .second, .val (.int i2), .val (.int i3), .val (.int i4), .val (.int i5), .val (.int i6), .val (.double d7), .second, .val (.double d8), .second, .val (.ref o9), .val (.long j10), .second, .val (.ref o11), .val (.int i12), .val (.int i13)] [(.ref a0_)]))
  refine own_st (fun t k => XS.iload X119.here hx rfl (hb hby own_d6_21) rfl k) ?_
  show own_Run p e below s _ _ _ (T119.setTop (mkF m 23 #[.val (.ref a0_), .val (.double d1), .second, .val (.int i2), .val (.int i3), .val (.int i4), .val (.int i5), .val (.int i6), .val (.double d7), .second, .val (.double d8), .second, .val (.ref o9), .val (.long j10), .second, .val (.ref o11), .val (.int i12), .val (.int i13)] [(.int i4), (.ref a0_)]))
  have E122 := (E116.wr W119)
  have F123 : Fld Z _ a0_ "com/example/kerb2d/kerb2d/engine/Measures" "waiting" "I" (.int (0 : Int32)) := D0 (Or.inr (hw _ (List.mem_of_getElem? (i := 58) rfl))) (ty := .int) (by decide)
  have F124 := (((F123.other W107 (Or.inr (slot_ne (Or.inr (hw _ (List.mem_of_getElem? (i := 58) rfl))) (Or.inr (hw _ (List.mem_of_getElem? (i := 52) rfl))) (by decide) (t := .int) (t' := .double) (by decide) (by decide)))).other W113 (Or.inr (slot_ne (Or.inr (hw _ (List.mem_of_getElem? (i := 58) rfl))) (Or.inr (hw _ (List.mem_of_getElem? (i := 54) rfl))) (by decide) (t := .int) (t' := .int) (by decide) (by decide)))).other W119 (Or.inr (slot_ne (Or.inr (hw _ (List.mem_of_getElem? (i := 58) rfl))) (Or.inr (hw _ (List.mem_of_getElem? (i := 56) rfl))) (by decide) (t := .int) (t' := .int) (by decide) (by decide))))
  obtain ⟨T125, h125, X125, e125, W125, st125⟩ := putF X119 hx hZ hown (host := "") (Or.inl (hw _ (List.mem_of_getElem? (i := 57) rfl))) Via.refl e119 F124 E122 (Or.inr ⟨(hw _ (List.mem_of_getElem? (i := 58) rfl)), rfl, hnm⟩) (hw _ (List.mem_of_getElem? (i := 21) rfl)) (ty := .int) (by decide) rfl rfl (g := (mkF m 23 #[.val (.ref a0_), .val (.double d1), .second, .val (.int i2), .val (.int i3), .val (.int i4), .val (.int i5), .val (.int i6), .val (.double d7), .second, .val (.double d8), .second, .val (.ref o9), .val (.long j10), .second, .val (.ref o11), .val (.int i12), .val (.int i13)] [(.int i4), (.ref a0_)])) rfl rfl (hb hby own_d6_23)
  refine own_st st125 ?_
  have Fw125 := F124.same W125
  have N125 := Fr.snoc X125 N119 G0
  have K126 : Keep h0 h125 [a0_] := K120.wr W125 (Or.inl (List.mem_of_getElem? (i := 0) rfl))
  show own_Run p e below s _ _ _ (T125.setTop (mkF m 26 #[.val (.ref a0_), .val (.double d1), .second, .val (.int i2), .val (.int i3), .val (.int i4), .val (.int i5), .val (.int i6), .val (.double d7), .second, .val (.double d8), .second, .val (.ref o9), .val (.long j10), .second, .val (.ref o11), .val (.int i12), .val (.int i13)] []))
  refine own_st (fun t k => XS.aloadN X125.here hx rfl (hb hby own_d6_26) rfl rfl k) ?_
  show own_Run p e below s _ _ _ (T125.setTop (mkF m 27 #[.val (.ref a0_), .val (.double d1), .second, .val (.int i2), .val (.int i3), .val (.int i4), .val (.int i5), .val (.int i6), .val (.double d7), .second, .val (.double d8), .second, .val (.ref o9), .val (.long j10), .second, .val (.ref o11), .val (.int i12), .val (.int i13)] [(.ref a0_)]))
  refine own_st (fun t k => XS.iload X125.here hx rfl (hb hby own_d6_27) rfl k) ?_
  show own_Run p e below s _ _ _ (T125.setTop (mkF m 29 #[.val (.ref a0_), .val (.double d1), .second, .val (.int i2), .val (.int i3), .val (.int i4), .val (.int i5), .val (.int i6), .val (.double d7), .second, .val (.double d8), .second, .val (.ref o9), .val (.long j10), .second, .val (.ref o11), .val (.int i12), .val (.int i13)] [(.int i5), (.ref a0_)]))
  have E128 := (E122.wr W125)
  have F129 : Fld Z _ a0_ "com/example/kerb2d/kerb2d/engine/Measures" "left" "I" (.int (0 : Int32)) := D0 (Or.inr (hw _ (List.mem_of_getElem? (i := 60) rfl))) (ty := .int) (by decide)
  have F130 := ((((F129.other W107 (Or.inr (slot_ne (Or.inr (hw _ (List.mem_of_getElem? (i := 60) rfl))) (Or.inr (hw _ (List.mem_of_getElem? (i := 52) rfl))) (by decide) (t := .int) (t' := .double) (by decide) (by decide)))).other W113 (Or.inr (slot_ne (Or.inr (hw _ (List.mem_of_getElem? (i := 60) rfl))) (Or.inr (hw _ (List.mem_of_getElem? (i := 54) rfl))) (by decide) (t := .int) (t' := .int) (by decide) (by decide)))).other W119 (Or.inr (slot_ne (Or.inr (hw _ (List.mem_of_getElem? (i := 60) rfl))) (Or.inr (hw _ (List.mem_of_getElem? (i := 56) rfl))) (by decide) (t := .int) (t' := .int) (by decide) (by decide)))).other W125 (Or.inr (slot_ne (Or.inr (hw _ (List.mem_of_getElem? (i := 60) rfl))) (Or.inr (hw _ (List.mem_of_getElem? (i := 58) rfl))) (by decide) (t := .int) (t' := .int) (by decide) (by decide))))
  obtain ⟨T131, h131, X131, e131, W131, st131⟩ := putF X125 hx hZ hown (host := "") (Or.inl (hw _ (List.mem_of_getElem? (i := 59) rfl))) Via.refl e125 F130 E128 (Or.inr ⟨(hw _ (List.mem_of_getElem? (i := 60) rfl)), rfl, hnm⟩) (hw _ (List.mem_of_getElem? (i := 21) rfl)) (ty := .int) (by decide) rfl rfl (g := (mkF m 29 #[.val (.ref a0_), .val (.double d1), .second, .val (.int i2), .val (.int i3), .val (.int i4), .val (.int i5), .val (.int i6), .val (.double d7), .second, .val (.double d8), .second, .val (.ref o9), .val (.long j10), .second, .val (.ref o11), .val (.int i12), .val (.int i13)] [(.int i5), (.ref a0_)])) rfl rfl (hb hby own_d6_29)
  refine own_st st131 ?_
  have Fw131 := F130.same W131
  have N131 := Fr.snoc X131 N125 G0
  have K132 : Keep h0 h131 [a0_] := K126.wr W131 (Or.inl (List.mem_of_getElem? (i := 0) rfl))
  show own_Run p e below s _ _ _ (T131.setTop (mkF m 32 #[.val (.ref a0_), .val (.double d1), .second, .val (.int i2), .val (.int i3), .val (.int i4), .val (.int i5), .val (.int i6), .val (.double d7), .second, .val (.double d8), .second, .val (.ref o9), .val (.long j10), .second, .val (.ref o11), .val (.int i12), .val (.int i13)] []))
  refine own_st (fun t k => XS.aloadN X131.here hx rfl (hb hby own_d6_32) rfl rfl k) ?_
  show own_Run p e below s _ _ _ (T131.setTop (mkF m 33 #[.val (.ref a0_), .val (.double d1), .second, .val (.int i2), .val (.int i3), .val (.int i4), .val (.int i5), .val (.int i6), .val (.double d7), .second, .val (.double d8), .second, .val (.ref o9), .val (.long j10), .second, .val (.ref o11), .val (.int i12), .val (.int i13)] [(.ref a0_)]))
  refine own_st (fun t k => XS.iload X131.here hx rfl (hb hby own_d6_33) rfl k) ?_
  show own_Run p e below s _ _ _ (T131.setTop (mkF m 35 #[.val (.ref a0_), .val (.double d1), .second, .val (.int i2), .val (.int i3), .val (.int i4), .val (.int i5), .val (.int i6), .val (.double d7), .second, .val (.double d8), .second, .val (.ref o9), .val (.long j10), .second, .val (.ref o11), .val (.int i12), .val (.int i13)] [(.int i6), (.ref a0_)]))
  have E134 := (E128.wr W131)
  have F135 : Fld Z _ a0_ "com/example/kerb2d/kerb2d/engine/Measures" "present" "I" (.int (0 : Int32)) := D0 (Or.inr (hw _ (List.mem_of_getElem? (i := 62) rfl))) (ty := .int) (by decide)
  have F136 := (((((F135.other W107 (Or.inr (slot_ne (Or.inr (hw _ (List.mem_of_getElem? (i := 62) rfl))) (Or.inr (hw _ (List.mem_of_getElem? (i := 52) rfl))) (by decide) (t := .int) (t' := .double) (by decide) (by decide)))).other W113 (Or.inr (slot_ne (Or.inr (hw _ (List.mem_of_getElem? (i := 62) rfl))) (Or.inr (hw _ (List.mem_of_getElem? (i := 54) rfl))) (by decide) (t := .int) (t' := .int) (by decide) (by decide)))).other W119 (Or.inr (slot_ne (Or.inr (hw _ (List.mem_of_getElem? (i := 62) rfl))) (Or.inr (hw _ (List.mem_of_getElem? (i := 56) rfl))) (by decide) (t := .int) (t' := .int) (by decide) (by decide)))).other W125 (Or.inr (slot_ne (Or.inr (hw _ (List.mem_of_getElem? (i := 62) rfl))) (Or.inr (hw _ (List.mem_of_getElem? (i := 58) rfl))) (by decide) (t := .int) (t' := .int) (by decide) (by decide)))).other W131 (Or.inr (slot_ne (Or.inr (hw _ (List.mem_of_getElem? (i := 62) rfl))) (Or.inr (hw _ (List.mem_of_getElem? (i := 60) rfl))) (by decide) (t := .int) (t' := .int) (by decide) (by decide))))
  obtain ⟨T137, h137, X137, e137, W137, st137⟩ := putF X131 hx hZ hown (host := "") (Or.inl (hw _ (List.mem_of_getElem? (i := 61) rfl))) Via.refl e131 F136 E134 (Or.inr ⟨(hw _ (List.mem_of_getElem? (i := 62) rfl)), rfl, hnm⟩) (hw _ (List.mem_of_getElem? (i := 21) rfl)) (ty := .int) (by decide) rfl rfl (g := (mkF m 35 #[.val (.ref a0_), .val (.double d1), .second, .val (.int i2), .val (.int i3), .val (.int i4), .val (.int i5), .val (.int i6), .val (.double d7), .second, .val (.double d8), .second, .val (.ref o9), .val (.long j10), .second, .val (.ref o11), .val (.int i12), .val (.int i13)] [(.int i6), (.ref a0_)])) rfl rfl (hb hby own_d6_35)
  refine own_st st137 ?_
  have Fw137 := F136.same W137
  have N137 := Fr.snoc X137 N131 G0
  have K138 : Keep h0 h137 [a0_] := K132.wr W137 (Or.inl (List.mem_of_getElem? (i := 0) rfl))
  show own_Run p e below s _ _ _ (T137.setTop (mkF m 38 #[.val (.ref a0_), .val (.double d1), .second, .val (.int i2), .val (.int i3), .val (.int i4), .val (.int i5), .val (.int i6), .val (.double d7), .second, .val (.double d8), .second, .val (.ref o9), .val (.long j10), .second, .val (.ref o11), .val (.int i12), .val (.int i13)] []))
  refine own_st (fun t k => XS.aloadN X137.here hx rfl (hb hby own_d6_38) rfl rfl k) ?_
  show own_Run p e below s _ _ _ (T137.setTop (mkF m 39 #[.val (.ref a0_), .val (.double d1), .second, .val (.int i2), .val (.int i3), .val (.int i4), .val (.int i5), .val (.int i6), .val (.double d7), .second, .val (.double d8), .second, .val (.ref o9), .val (.long j10), .second, .val (.ref o11), .val (.int i12), .val (.int i13)] [(.ref a0_)]))
  refine own_st (fun t k => XS.dload X137.here hx rfl (hb hby own_d6_39) rfl k) ?_
  show own_Run p e below s _ _ _ (T137.setTop (mkF m 41 #[.val (.ref a0_), .val (.double d1), .second, .val (.int i2), .val (.int i3), .val (.int i4), .val (.int i5), .val (.int i6), .val (.double d7), .second, .val (.double d8), .second, .val (.ref o9), .val (.long j10), .second, .val (.ref o11), .val (.int i12), .val (.int i13)] [(.double d7), (.ref a0_)]))
  have E140 := (E134.wr W137)
  have F141 : Fld Z _ a0_ "com/example/kerb2d/kerb2d/engine/Measures" "meanSpeed" "D" (.double (0 : UInt64)) := D0 (Or.inr (hw _ (List.mem_of_getElem? (i := 64) rfl))) (ty := .double) (by decide)
  have F142 := ((((((F141.other W107 (Or.inr (slot_ne (Or.inr (hw _ (List.mem_of_getElem? (i := 64) rfl))) (Or.inr (hw _ (List.mem_of_getElem? (i := 52) rfl))) (by decide) (t := .double) (t' := .double) (by decide) (by decide)))).other W113 (Or.inr (slot_ne (Or.inr (hw _ (List.mem_of_getElem? (i := 64) rfl))) (Or.inr (hw _ (List.mem_of_getElem? (i := 54) rfl))) (by decide) (t := .double) (t' := .int) (by decide) (by decide)))).other W119 (Or.inr (slot_ne (Or.inr (hw _ (List.mem_of_getElem? (i := 64) rfl))) (Or.inr (hw _ (List.mem_of_getElem? (i := 56) rfl))) (by decide) (t := .double) (t' := .int) (by decide) (by decide)))).other W125 (Or.inr (slot_ne (Or.inr (hw _ (List.mem_of_getElem? (i := 64) rfl))) (Or.inr (hw _ (List.mem_of_getElem? (i := 58) rfl))) (by decide) (t := .double) (t' := .int) (by decide) (by decide)))).other W131 (Or.inr (slot_ne (Or.inr (hw _ (List.mem_of_getElem? (i := 64) rfl))) (Or.inr (hw _ (List.mem_of_getElem? (i := 60) rfl))) (by decide) (t := .double) (t' := .int) (by decide) (by decide)))).other W137 (Or.inr (slot_ne (Or.inr (hw _ (List.mem_of_getElem? (i := 64) rfl))) (Or.inr (hw _ (List.mem_of_getElem? (i := 62) rfl))) (by decide) (t := .double) (t' := .int) (by decide) (by decide))))
  obtain ⟨T143, h143, X143, e143, W143, st143⟩ := putF X137 hx hZ hown (host := "") (Or.inl (hw _ (List.mem_of_getElem? (i := 63) rfl))) Via.refl e137 F142 E140 (Or.inr ⟨(hw _ (List.mem_of_getElem? (i := 64) rfl)), rfl, hnm⟩) (hw _ (List.mem_of_getElem? (i := 21) rfl)) (ty := .double) (by decide) rfl rfl (g := (mkF m 41 #[.val (.ref a0_), .val (.double d1), .second, .val (.int i2), .val (.int i3), .val (.int i4), .val (.int i5), .val (.int i6), .val (.double d7), .second, .val (.double d8), .second, .val (.ref o9), .val (.long j10), .second, .val (.ref o11), .val (.int i12), .val (.int i13)] [(.double d7), (.ref a0_)])) rfl rfl (hb hby own_d6_41)
  refine own_st st143 ?_
  have Fw143 := F142.same W143
  have N143 := Fr.snoc X143 N137 G0
  have K144 : Keep h0 h143 [a0_] := K138.wr W143 (Or.inl (List.mem_of_getElem? (i := 0) rfl))
  show own_Run p e below s _ _ _ (T143.setTop (mkF m 44 #[.val (.ref a0_), .val (.double d1), .second, .val (.int i2), .val (.int i3), .val (.int i4), .val (.int i5), .val (.int i6), .val (.double d7), .second, .val (.double d8), .second, .val (.ref o9), .val (.long j10), .second, .val (.ref o11), .val (.int i12), .val (.int i13)] []))
  refine own_st (fun t k => XS.aloadN X143.here hx rfl (hb hby own_d6_44) rfl rfl k) ?_
  show own_Run p e below s _ _ _ (T143.setTop (mkF m 45 #[.val (.ref a0_), .val (.double d1), .second, .val (.int i2), .val (.int i3), .val (.int i4), .val (.int i5), .val (.int i6), .val (.double d7), .second, .val (.double d8), .second, .val (.ref o9), .val (.long j10), .second, .val (.ref o11), .val (.int i12), .val (.int i13)] [(.ref a0_)]))
  refine own_st (fun t k => XS.dload X143.here hx rfl (hb hby own_d6_45) rfl k) ?_
  show own_Run p e below s _ _ _ (T143.setTop (mkF m 47 #[.val (.ref a0_), .val (.double d1), .second, .val (.int i2), .val (.int i3), .val (.int i4), .val (.int i5), .val (.int i6), .val (.double d7), .second, .val (.double d8), .second, .val (.ref o9), .val (.long j10), .second, .val (.ref o11), .val (.int i12), .val (.int i13)] [(.double d8), (.ref a0_)]))
  have E146 := (E140.wr W143)
  have F147 : Fld Z _ a0_ "com/example/kerb2d/kerb2d/engine/Measures" "density" "D" (.double (0 : UInt64)) := D0 (Or.inr (hw _ (List.mem_of_getElem? (i := 66) rfl))) (ty := .double) (by decide)
  have F148 := (((((((F147.other W107 (Or.inr (slot_ne (Or.inr (hw _ (List.mem_of_getElem? (i := 66) rfl))) (Or.inr (hw _ (List.mem_of_getElem? (i := 52) rfl))) (by decide) (t := .double) (t' := .double) (by decide) (by decide)))).other W113 (Or.inr (slot_ne (Or.inr (hw _ (List.mem_of_getElem? (i := 66) rfl))) (Or.inr (hw _ (List.mem_of_getElem? (i := 54) rfl))) (by decide) (t := .double) (t' := .int) (by decide) (by decide)))).other W119 (Or.inr (slot_ne (Or.inr (hw _ (List.mem_of_getElem? (i := 66) rfl))) (Or.inr (hw _ (List.mem_of_getElem? (i := 56) rfl))) (by decide) (t := .double) (t' := .int) (by decide) (by decide)))).other W125 (Or.inr (slot_ne (Or.inr (hw _ (List.mem_of_getElem? (i := 66) rfl))) (Or.inr (hw _ (List.mem_of_getElem? (i := 58) rfl))) (by decide) (t := .double) (t' := .int) (by decide) (by decide)))).other W131 (Or.inr (slot_ne (Or.inr (hw _ (List.mem_of_getElem? (i := 66) rfl))) (Or.inr (hw _ (List.mem_of_getElem? (i := 60) rfl))) (by decide) (t := .double) (t' := .int) (by decide) (by decide)))).other W137 (Or.inr (slot_ne (Or.inr (hw _ (List.mem_of_getElem? (i := 66) rfl))) (Or.inr (hw _ (List.mem_of_getElem? (i := 62) rfl))) (by decide) (t := .double) (t' := .int) (by decide) (by decide)))).other W143 (Or.inr (slot_ne (Or.inr (hw _ (List.mem_of_getElem? (i := 66) rfl))) (Or.inr (hw _ (List.mem_of_getElem? (i := 64) rfl))) (by decide) (t := .double) (t' := .double) (by decide) (by decide))))
  obtain ⟨T149, h149, X149, e149, W149, st149⟩ := putF X143 hx hZ hown (host := "") (Or.inl (hw _ (List.mem_of_getElem? (i := 65) rfl))) Via.refl e143 F148 E146 (Or.inr ⟨(hw _ (List.mem_of_getElem? (i := 66) rfl)), rfl, hnm⟩) (hw _ (List.mem_of_getElem? (i := 21) rfl)) (ty := .double) (by decide) rfl rfl (g := (mkF m 47 #[.val (.ref a0_), .val (.double d1), .second, .val (.int i2), .val (.int i3), .val (.int i4), .val (.int i5), .val (.int i6), .val (.double d7), .second, .val (.double d8), .second, .val (.ref o9), .val (.long j10), .second, .val (.ref o11), .val (.int i12), .val (.int i13)] [(.double d8), (.ref a0_)])) rfl rfl (hb hby own_d6_47)
  refine own_st st149 ?_
  have Fw149 := F148.same W149
  have N149 := Fr.snoc X149 N143 G0
  have K150 : Keep h0 h149 [a0_] := K144.wr W149 (Or.inl (List.mem_of_getElem? (i := 0) rfl))
  show own_Run p e below s _ _ _ (T149.setTop (mkF m 50 #[.val (.ref a0_), .val (.double d1), .second, .val (.int i2), .val (.int i3), .val (.int i4), .val (.int i5), .val (.int i6), .val (.double d7), .second, .val (.double d8), .second, .val (.ref o9), .val (.long j10), .second, .val (.ref o11), .val (.int i12), .val (.int i13)] []))
  refine own_st (fun t k => XS.aloadN X149.here hx rfl (hb hby own_d6_50) rfl rfl k) ?_
  show own_Run p e below s _ _ _ (T149.setTop (mkF m 51 #[.val (.ref a0_), .val (.double d1), .second, .val (.int i2), .val (.int i3), .val (.int i4), .val (.int i5), .val (.int i6), .val (.double d7), .second, .val (.double d8), .second, .val (.ref o9), .val (.long j10), .second, .val (.ref o11), .val (.int i12), .val (.int i13)] [(.ref a0_)]))
  refine own_st (fun t k => XS.aload X149.here hx rfl (hb hby own_d6_51) rfl rfl k) ?_
  show own_Run p e below s _ _ _ (T149.setTop (mkF m 53 #[.val (.ref a0_), .val (.double d1), .second, .val (.int i2), .val (.int i3), .val (.int i4), .val (.int i5), .val (.int i6), .val (.double d7), .second, .val (.double d8), .second, .val (.ref o9), .val (.long j10), .second, .val (.ref o11), .val (.int i12), .val (.int i13)] [(.ref o9), (.ref a0_)]))
  have E152 := (E146.wr W149)
  have F153 : Fld Z _ a0_ "com/example/kerb2d/kerb2d/engine/Measures" "meanDelay" "Ljava/util/OptionalDouble;" .null := D0 (Or.inr (hw _ (List.mem_of_getElem? (i := 68) rfl))) (ty := (.object "java/util/OptionalDouble")) (by decide)
  have F154 := ((((((((F153.other W107 (Or.inr (slot_ne (Or.inr (hw _ (List.mem_of_getElem? (i := 68) rfl))) (Or.inr (hw _ (List.mem_of_getElem? (i := 52) rfl))) (by decide) (t := (.object "java/util/OptionalDouble")) (t' := .double) (by decide) (by decide)))).other W113 (Or.inr (slot_ne (Or.inr (hw _ (List.mem_of_getElem? (i := 68) rfl))) (Or.inr (hw _ (List.mem_of_getElem? (i := 54) rfl))) (by decide) (t := (.object "java/util/OptionalDouble")) (t' := .int) (by decide) (by decide)))).other W119 (Or.inr (slot_ne (Or.inr (hw _ (List.mem_of_getElem? (i := 68) rfl))) (Or.inr (hw _ (List.mem_of_getElem? (i := 56) rfl))) (by decide) (t := (.object "java/util/OptionalDouble")) (t' := .int) (by decide) (by decide)))).other W125 (Or.inr (slot_ne (Or.inr (hw _ (List.mem_of_getElem? (i := 68) rfl))) (Or.inr (hw _ (List.mem_of_getElem? (i := 58) rfl))) (by decide) (t := (.object "java/util/OptionalDouble")) (t' := .int) (by decide) (by decide)))).other W131 (Or.inr (slot_ne (Or.inr (hw _ (List.mem_of_getElem? (i := 68) rfl))) (Or.inr (hw _ (List.mem_of_getElem? (i := 60) rfl))) (by decide) (t := (.object "java/util/OptionalDouble")) (t' := .int) (by decide) (by decide)))).other W137 (Or.inr (slot_ne (Or.inr (hw _ (List.mem_of_getElem? (i := 68) rfl))) (Or.inr (hw _ (List.mem_of_getElem? (i := 62) rfl))) (by decide) (t := (.object "java/util/OptionalDouble")) (t' := .int) (by decide) (by decide)))).other W143 (Or.inr (slot_ne (Or.inr (hw _ (List.mem_of_getElem? (i := 68) rfl))) (Or.inr (hw _ (List.mem_of_getElem? (i := 64) rfl))) (by decide) (t := (.object "java/util/OptionalDouble")) (t' := .double) (by decide) (by decide)))).other W149 (Or.inr (slot_ne (Or.inr (hw _ (List.mem_of_getElem? (i := 68) rfl))) (Or.inr (hw _ (List.mem_of_getElem? (i := 66) rfl))) (by decide) (t := (.object "java/util/OptionalDouble")) (t' := .double) (by decide) (by decide))))
  obtain ⟨T155, h155, X155, e155, W155, st155⟩ := putF X149 hx hZ hown (host := "") (Or.inl (hw _ (List.mem_of_getElem? (i := 67) rfl))) Via.refl e149 F154 E152 (Or.inr ⟨(hw _ (List.mem_of_getElem? (i := 68) rfl)), rfl, hnm⟩) (hw _ (List.mem_of_getElem? (i := 21) rfl)) (ty := (.object "java/util/OptionalDouble")) (by decide) rfl rfl (g := (mkF m 53 #[.val (.ref a0_), .val (.double d1), .second, .val (.int i2), .val (.int i3), .val (.int i4), .val (.int i5), .val (.int i6), .val (.double d7), .second, .val (.double d8), .second, .val (.ref o9), .val (.long j10), .second, .val (.ref o11), .val (.int i12), .val (.int i13)] [(.ref o9), (.ref a0_)])) rfl rfl (hb hby own_d6_53)
  refine own_st st155 ?_
  have Fw155 := F154.same W155
  have N155 := Fr.snoc X155 N149 G0
  have K156 : Keep h0 h155 [a0_] := K150.wr W155 (Or.inl (List.mem_of_getElem? (i := 0) rfl))
  show own_Run p e below s _ _ _ (T155.setTop (mkF m 56 #[.val (.ref a0_), .val (.double d1), .second, .val (.int i2), .val (.int i3), .val (.int i4), .val (.int i5), .val (.int i6), .val (.double d7), .second, .val (.double d8), .second, .val (.ref o9), .val (.long j10), .second, .val (.ref o11), .val (.int i12), .val (.int i13)] []))
  refine own_st (fun t k => XS.aloadN X155.here hx rfl (hb hby own_d6_56) rfl rfl k) ?_
  show own_Run p e below s _ _ _ (T155.setTop (mkF m 57 #[.val (.ref a0_), .val (.double d1), .second, .val (.int i2), .val (.int i3), .val (.int i4), .val (.int i5), .val (.int i6), .val (.double d7), .second, .val (.double d8), .second, .val (.ref o9), .val (.long j10), .second, .val (.ref o11), .val (.int i12), .val (.int i13)] [(.ref a0_)]))
  refine own_st (fun t k => XS.lload X155.here hx rfl (hb hby own_d6_57) rfl k) ?_
  show own_Run p e below s _ _ _ (T155.setTop (mkF m 59 #[.val (.ref a0_), .val (.double d1), .second, .val (.int i2), .val (.int i3), .val (.int i4), .val (.int i5), .val (.int i6), .val (.double d7), .second, .val (.double d8), .second, .val (.ref o9), .val (.long j10), .second, .val (.ref o11), .val (.int i12), .val (.int i13)] [(.long j10), (.ref a0_)]))
  have E158 := (E152.wr W155)
  have F159 : Fld Z _ a0_ "com/example/kerb2d/kerb2d/engine/Measures" "totalConflicts" "J" (.long (0 : Int64)) := D0 (Or.inr (hw _ (List.mem_of_getElem? (i := 70) rfl))) (ty := .long) (by decide)
  have F160 := (((((((((F159.other W107 (Or.inr (slot_ne (Or.inr (hw _ (List.mem_of_getElem? (i := 70) rfl))) (Or.inr (hw _ (List.mem_of_getElem? (i := 52) rfl))) (by decide) (t := .long) (t' := .double) (by decide) (by decide)))).other W113 (Or.inr (slot_ne (Or.inr (hw _ (List.mem_of_getElem? (i := 70) rfl))) (Or.inr (hw _ (List.mem_of_getElem? (i := 54) rfl))) (by decide) (t := .long) (t' := .int) (by decide) (by decide)))).other W119 (Or.inr (slot_ne (Or.inr (hw _ (List.mem_of_getElem? (i := 70) rfl))) (Or.inr (hw _ (List.mem_of_getElem? (i := 56) rfl))) (by decide) (t := .long) (t' := .int) (by decide) (by decide)))).other W125 (Or.inr (slot_ne (Or.inr (hw _ (List.mem_of_getElem? (i := 70) rfl))) (Or.inr (hw _ (List.mem_of_getElem? (i := 58) rfl))) (by decide) (t := .long) (t' := .int) (by decide) (by decide)))).other W131 (Or.inr (slot_ne (Or.inr (hw _ (List.mem_of_getElem? (i := 70) rfl))) (Or.inr (hw _ (List.mem_of_getElem? (i := 60) rfl))) (by decide) (t := .long) (t' := .int) (by decide) (by decide)))).other W137 (Or.inr (slot_ne (Or.inr (hw _ (List.mem_of_getElem? (i := 70) rfl))) (Or.inr (hw _ (List.mem_of_getElem? (i := 62) rfl))) (by decide) (t := .long) (t' := .int) (by decide) (by decide)))).other W143 (Or.inr (slot_ne (Or.inr (hw _ (List.mem_of_getElem? (i := 70) rfl))) (Or.inr (hw _ (List.mem_of_getElem? (i := 64) rfl))) (by decide) (t := .long) (t' := .double) (by decide) (by decide)))).other W149 (Or.inr (slot_ne (Or.inr (hw _ (List.mem_of_getElem? (i := 70) rfl))) (Or.inr (hw _ (List.mem_of_getElem? (i := 66) rfl))) (by decide) (t := .long) (t' := .double) (by decide) (by decide)))).other W155 (Or.inr (slot_ne (Or.inr (hw _ (List.mem_of_getElem? (i := 70) rfl))) (Or.inr (hw _ (List.mem_of_getElem? (i := 68) rfl))) (by decide) (t := .long) (t' := (.object "java/util/OptionalDouble")) (by decide) (by decide))))
  obtain ⟨T161, h161, X161, e161, W161, st161⟩ := putF X155 hx hZ hown (host := "") (Or.inl (hw _ (List.mem_of_getElem? (i := 69) rfl))) Via.refl e155 F160 E158 (Or.inr ⟨(hw _ (List.mem_of_getElem? (i := 70) rfl)), rfl, hnm⟩) (hw _ (List.mem_of_getElem? (i := 21) rfl)) (ty := .long) (by decide) rfl rfl (g := (mkF m 59 #[.val (.ref a0_), .val (.double d1), .second, .val (.int i2), .val (.int i3), .val (.int i4), .val (.int i5), .val (.int i6), .val (.double d7), .second, .val (.double d8), .second, .val (.ref o9), .val (.long j10), .second, .val (.ref o11), .val (.int i12), .val (.int i13)] [(.long j10), (.ref a0_)])) rfl rfl (hb hby own_d6_59)
  refine own_st st161 ?_
  have Fw161 := F160.same W161
  have N161 := Fr.snoc X161 N155 G0
  have K162 : Keep h0 h161 [a0_] := K156.wr W161 (Or.inl (List.mem_of_getElem? (i := 0) rfl))
  show own_Run p e below s _ _ _ (T161.setTop (mkF m 62 #[.val (.ref a0_), .val (.double d1), .second, .val (.int i2), .val (.int i3), .val (.int i4), .val (.int i5), .val (.int i6), .val (.double d7), .second, .val (.double d8), .second, .val (.ref o9), .val (.long j10), .second, .val (.ref o11), .val (.int i12), .val (.int i13)] []))
  refine own_st (fun t k => XS.aloadN X161.here hx rfl (hb hby own_d6_62) rfl rfl k) ?_
  show own_Run p e below s _ _ _ (T161.setTop (mkF m 63 #[.val (.ref a0_), .val (.double d1), .second, .val (.int i2), .val (.int i3), .val (.int i4), .val (.int i5), .val (.int i6), .val (.double d7), .second, .val (.double d8), .second, .val (.ref o9), .val (.long j10), .second, .val (.ref o11), .val (.int i12), .val (.int i13)] [(.ref a0_)]))
  refine own_st (fun t k => XS.aload X161.here hx rfl (hb hby own_d6_63) rfl rfl k) ?_
  show own_Run p e below s _ _ _ (T161.setTop (mkF m 65 #[.val (.ref a0_), .val (.double d1), .second, .val (.int i2), .val (.int i3), .val (.int i4), .val (.int i5), .val (.int i6), .val (.double d7), .second, .val (.double d8), .second, .val (.ref o9), .val (.long j10), .second, .val (.ref o11), .val (.int i12), .val (.int i13)] [(.ref o11), (.ref a0_)]))
  have E164 := (E158.wr W161)
  have F165 : Fld Z _ a0_ "com/example/kerb2d/kerb2d/engine/Measures" "meanConflicts" "Ljava/util/OptionalDouble;" .null := D0 (Or.inr (hw _ (List.mem_of_getElem? (i := 72) rfl))) (ty := (.object "java/util/OptionalDouble")) (by decide)
  have F166 := ((((((((((F165.other W107 (Or.inr (slot_ne (Or.inr (hw _ (List.mem_of_getElem? (i := 72) rfl))) (Or.inr (hw _ (List.mem_of_getElem? (i := 52) rfl))) (by decide) (t := (.object "java/util/OptionalDouble")) (t' := .double) (by decide) (by decide)))).other W113 (Or.inr (slot_ne (Or.inr (hw _ (List.mem_of_getElem? (i := 72) rfl))) (Or.inr (hw _ (List.mem_of_getElem? (i := 54) rfl))) (by decide) (t := (.object "java/util/OptionalDouble")) (t' := .int) (by decide) (by decide)))).other W119 (Or.inr (slot_ne (Or.inr (hw _ (List.mem_of_getElem? (i := 72) rfl))) (Or.inr (hw _ (List.mem_of_getElem? (i := 56) rfl))) (by decide) (t := (.object "java/util/OptionalDouble")) (t' := .int) (by decide) (by decide)))).other W125 (Or.inr (slot_ne (Or.inr (hw _ (List.mem_of_getElem? (i := 72) rfl))) (Or.inr (hw _ (List.mem_of_getElem? (i := 58) rfl))) (by decide) (t := (.object "java/util/OptionalDouble")) (t' := .int) (by decide) (by decide)))).other W131 (Or.inr (slot_ne (Or.inr (hw _ (List.mem_of_getElem? (i := 72) rfl))) (Or.inr (hw _ (List.mem_of_getElem? (i := 60) rfl))) (by decide) (t := (.object "java/util/OptionalDouble")) (t' := .int) (by decide) (by decide)))).other W137 (Or.inr (slot_ne (Or.inr (hw _ (List.mem_of_getElem? (i := 72) rfl))) (Or.inr (hw _ (List.mem_of_getElem? (i := 62) rfl))) (by decide) (t := (.object "java/util/OptionalDouble")) (t' := .int) (by decide) (by decide)))).other W143 (Or.inr (slot_ne (Or.inr (hw _ (List.mem_of_getElem? (i := 72) rfl))) (Or.inr (hw _ (List.mem_of_getElem? (i := 64) rfl))) (by decide) (t := (.object "java/util/OptionalDouble")) (t' := .double) (by decide) (by decide)))).other W149 (Or.inr (slot_ne (Or.inr (hw _ (List.mem_of_getElem? (i := 72) rfl))) (Or.inr (hw _ (List.mem_of_getElem? (i := 66) rfl))) (by decide) (t := (.object "java/util/OptionalDouble")) (t' := .double) (by decide) (by decide)))).other W155 (Or.inr (slot_ne (Or.inr (hw _ (List.mem_of_getElem? (i := 72) rfl))) (Or.inr (hw _ (List.mem_of_getElem? (i := 68) rfl))) (by decide) (t := (.object "java/util/OptionalDouble")) (t' := (.object "java/util/OptionalDouble")) (by decide) (by decide)))).other W161 (Or.inr (slot_ne (Or.inr (hw _ (List.mem_of_getElem? (i := 72) rfl))) (Or.inr (hw _ (List.mem_of_getElem? (i := 70) rfl))) (by decide) (t := (.object "java/util/OptionalDouble")) (t' := .long) (by decide) (by decide))))
  obtain ⟨T167, h167, X167, e167, W167, st167⟩ := putF X161 hx hZ hown (host := "") (Or.inl (hw _ (List.mem_of_getElem? (i := 71) rfl))) Via.refl e161 F166 E164 (Or.inr ⟨(hw _ (List.mem_of_getElem? (i := 72) rfl)), rfl, hnm⟩) (hw _ (List.mem_of_getElem? (i := 21) rfl)) (ty := (.object "java/util/OptionalDouble")) (by decide) rfl rfl (g := (mkF m 65 #[.val (.ref a0_), .val (.double d1), .second, .val (.int i2), .val (.int i3), .val (.int i4), .val (.int i5), .val (.int i6), .val (.double d7), .second, .val (.double d8), .second, .val (.ref o9), .val (.long j10), .second, .val (.ref o11), .val (.int i12), .val (.int i13)] [(.ref o11), (.ref a0_)])) rfl rfl (hb hby own_d6_65)
  refine own_st st167 ?_
  have Fw167 := F166.same W167
  have N167 := Fr.snoc X167 N161 G0
  have K168 : Keep h0 h167 [a0_] := K162.wr W167 (Or.inl (List.mem_of_getElem? (i := 0) rfl))
  show own_Run p e below s _ _ _ (T167.setTop (mkF m 68 #[.val (.ref a0_), .val (.double d1), .second, .val (.int i2), .val (.int i3), .val (.int i4), .val (.int i5), .val (.int i6), .val (.double d7), .second, .val (.double d8), .second, .val (.ref o9), .val (.long j10), .second, .val (.ref o11), .val (.int i12), .val (.int i13)] []))
  refine own_st (fun t k => XS.aloadN X167.here hx rfl (hb hby own_d6_68) rfl rfl k) ?_
  show own_Run p e below s _ _ _ (T167.setTop (mkF m 69 #[.val (.ref a0_), .val (.double d1), .second, .val (.int i2), .val (.int i3), .val (.int i4), .val (.int i5), .val (.int i6), .val (.double d7), .second, .val (.double d8), .second, .val (.ref o9), .val (.long j10), .second, .val (.ref o11), .val (.int i12), .val (.int i13)] [(.ref a0_)]))
  refine own_st (fun t k => XS.iload X167.here hx rfl (hb hby own_d6_69) rfl k) ?_
  show own_Run p e below s _ _ _ (T167.setTop (mkF m 71 #[.val (.ref a0_), .val (.double d1), .second, .val (.int i2), .val (.int i3), .val (.int i4), .val (.int i5), .val (.int i6), .val (.double d7), .second, .val (.double d8), .second, .val (.ref o9), .val (.long j10), .second, .val (.ref o11), .val (.int i12), .val (.int i13)] [(.int i12), (.ref a0_)]))
  have E170 := (E164.wr W167)
  have F171 : Fld Z _ a0_ "com/example/kerb2d/kerb2d/engine/Measures" "boarded" "I" (.int (0 : Int32)) := D0 (Or.inr (hw _ (List.mem_of_getElem? (i := 74) rfl))) (ty := .int) (by decide)
  have F172 := (((((((((((F171.other W107 (Or.inr (slot_ne (Or.inr (hw _ (List.mem_of_getElem? (i := 74) rfl))) (Or.inr (hw _ (List.mem_of_getElem? (i := 52) rfl))) (by decide) (t := .int) (t' := .double) (by decide) (by decide)))).other W113 (Or.inr (slot_ne (Or.inr (hw _ (List.mem_of_getElem? (i := 74) rfl))) (Or.inr (hw _ (List.mem_of_getElem? (i := 54) rfl))) (by decide) (t := .int) (t' := .int) (by decide) (by decide)))).other W119 (Or.inr (slot_ne (Or.inr (hw _ (List.mem_of_getElem? (i := 74) rfl))) (Or.inr (hw _ (List.mem_of_getElem? (i := 56) rfl))) (by decide) (t := .int) (t' := .int) (by decide) (by decide)))).other W125 (Or.inr (slot_ne (Or.inr (hw _ (List.mem_of_getElem? (i := 74) rfl))) (Or.inr (hw _ (List.mem_of_getElem? (i := 58) rfl))) (by decide) (t := .int) (t' := .int) (by decide) (by decide)))).other W131 (Or.inr (slot_ne (Or.inr (hw _ (List.mem_of_getElem? (i := 74) rfl))) (Or.inr (hw _ (List.mem_of_getElem? (i := 60) rfl))) (by decide) (t := .int) (t' := .int) (by decide) (by decide)))).other W137 (Or.inr (slot_ne (Or.inr (hw _ (List.mem_of_getElem? (i := 74) rfl))) (Or.inr (hw _ (List.mem_of_getElem? (i := 62) rfl))) (by decide) (t := .int) (t' := .int) (by decide) (by decide)))).other W143 (Or.inr (slot_ne (Or.inr (hw _ (List.mem_of_getElem? (i := 74) rfl))) (Or.inr (hw _ (List.mem_of_getElem? (i := 64) rfl))) (by decide) (t := .int) (t' := .double) (by decide) (by decide)))).other W149 (Or.inr (slot_ne (Or.inr (hw _ (List.mem_of_getElem? (i := 74) rfl))) (Or.inr (hw _ (List.mem_of_getElem? (i := 66) rfl))) (by decide) (t := .int) (t' := .double) (by decide) (by decide)))).other W155 (Or.inr (slot_ne (Or.inr (hw _ (List.mem_of_getElem? (i := 74) rfl))) (Or.inr (hw _ (List.mem_of_getElem? (i := 68) rfl))) (by decide) (t := .int) (t' := (.object "java/util/OptionalDouble")) (by decide) (by decide)))).other W161 (Or.inr (slot_ne (Or.inr (hw _ (List.mem_of_getElem? (i := 74) rfl))) (Or.inr (hw _ (List.mem_of_getElem? (i := 70) rfl))) (by decide) (t := .int) (t' := .long) (by decide) (by decide)))).other W167 (Or.inr (slot_ne (Or.inr (hw _ (List.mem_of_getElem? (i := 74) rfl))) (Or.inr (hw _ (List.mem_of_getElem? (i := 72) rfl))) (by decide) (t := .int) (t' := (.object "java/util/OptionalDouble")) (by decide) (by decide))))
  obtain ⟨T173, h173, X173, e173, W173, st173⟩ := putF X167 hx hZ hown (host := "") (Or.inl (hw _ (List.mem_of_getElem? (i := 73) rfl))) Via.refl e167 F172 E170 (Or.inr ⟨(hw _ (List.mem_of_getElem? (i := 74) rfl)), rfl, hnm⟩) (hw _ (List.mem_of_getElem? (i := 21) rfl)) (ty := .int) (by decide) rfl rfl (g := (mkF m 71 #[.val (.ref a0_), .val (.double d1), .second, .val (.int i2), .val (.int i3), .val (.int i4), .val (.int i5), .val (.int i6), .val (.double d7), .second, .val (.double d8), .second, .val (.ref o9), .val (.long j10), .second, .val (.ref o11), .val (.int i12), .val (.int i13)] [(.int i12), (.ref a0_)])) rfl rfl (hb hby own_d6_71)
  refine own_st st173 ?_
  have Fw173 := F172.same W173
  have N173 := Fr.snoc X173 N167 G0
  have K174 : Keep h0 h173 [a0_] := K168.wr W173 (Or.inl (List.mem_of_getElem? (i := 0) rfl))
  show own_Run p e below s _ _ _ (T173.setTop (mkF m 74 #[.val (.ref a0_), .val (.double d1), .second, .val (.int i2), .val (.int i3), .val (.int i4), .val (.int i5), .val (.int i6), .val (.double d7), .second, .val (.double d8), .second, .val (.ref o9), .val (.long j10), .second, .val (.ref o11), .val (.int i12), .val (.int i13)] []))
  refine own_st (fun t k => XS.aloadN X173.here hx rfl (hb hby own_d6_74) rfl rfl k) ?_
  show own_Run p e below s _ _ _ (T173.setTop (mkF m 75 #[.val (.ref a0_), .val (.double d1), .second, .val (.int i2), .val (.int i3), .val (.int i4), .val (.int i5), .val (.int i6), .val (.double d7), .second, .val (.double d8), .second, .val (.ref o9), .val (.long j10), .second, .val (.ref o11), .val (.int i12), .val (.int i13)] [(.ref a0_)]))
  refine own_st (fun t k => XS.iload X173.here hx rfl (hb hby own_d6_75) rfl k) ?_
  show own_Run p e below s _ _ _ (T173.setTop (mkF m 77 #[.val (.ref a0_), .val (.double d1), .second, .val (.int i2), .val (.int i3), .val (.int i4), .val (.int i5), .val (.int i6), .val (.double d7), .second, .val (.double d8), .second, .val (.ref o9), .val (.long j10), .second, .val (.ref o11), .val (.int i12), .val (.int i13)] [(.int i13), (.ref a0_)]))
  have E176 := (E170.wr W173)
  have F177 : Fld Z _ a0_ "com/example/kerb2d/kerb2d/engine/Measures" "waitingForBus" "I" (.int (0 : Int32)) := D0 (Or.inr (hw _ (List.mem_of_getElem? (i := 76) rfl))) (ty := .int) (by decide)
  have F178 := ((((((((((((F177.other W107 (Or.inr (slot_ne (Or.inr (hw _ (List.mem_of_getElem? (i := 76) rfl))) (Or.inr (hw _ (List.mem_of_getElem? (i := 52) rfl))) (by decide) (t := .int) (t' := .double) (by decide) (by decide)))).other W113 (Or.inr (slot_ne (Or.inr (hw _ (List.mem_of_getElem? (i := 76) rfl))) (Or.inr (hw _ (List.mem_of_getElem? (i := 54) rfl))) (by decide) (t := .int) (t' := .int) (by decide) (by decide)))).other W119 (Or.inr (slot_ne (Or.inr (hw _ (List.mem_of_getElem? (i := 76) rfl))) (Or.inr (hw _ (List.mem_of_getElem? (i := 56) rfl))) (by decide) (t := .int) (t' := .int) (by decide) (by decide)))).other W125 (Or.inr (slot_ne (Or.inr (hw _ (List.mem_of_getElem? (i := 76) rfl))) (Or.inr (hw _ (List.mem_of_getElem? (i := 58) rfl))) (by decide) (t := .int) (t' := .int) (by decide) (by decide)))).other W131 (Or.inr (slot_ne (Or.inr (hw _ (List.mem_of_getElem? (i := 76) rfl))) (Or.inr (hw _ (List.mem_of_getElem? (i := 60) rfl))) (by decide) (t := .int) (t' := .int) (by decide) (by decide)))).other W137 (Or.inr (slot_ne (Or.inr (hw _ (List.mem_of_getElem? (i := 76) rfl))) (Or.inr (hw _ (List.mem_of_getElem? (i := 62) rfl))) (by decide) (t := .int) (t' := .int) (by decide) (by decide)))).other W143 (Or.inr (slot_ne (Or.inr (hw _ (List.mem_of_getElem? (i := 76) rfl))) (Or.inr (hw _ (List.mem_of_getElem? (i := 64) rfl))) (by decide) (t := .int) (t' := .double) (by decide) (by decide)))).other W149 (Or.inr (slot_ne (Or.inr (hw _ (List.mem_of_getElem? (i := 76) rfl))) (Or.inr (hw _ (List.mem_of_getElem? (i := 66) rfl))) (by decide) (t := .int) (t' := .double) (by decide) (by decide)))).other W155 (Or.inr (slot_ne (Or.inr (hw _ (List.mem_of_getElem? (i := 76) rfl))) (Or.inr (hw _ (List.mem_of_getElem? (i := 68) rfl))) (by decide) (t := .int) (t' := (.object "java/util/OptionalDouble")) (by decide) (by decide)))).other W161 (Or.inr (slot_ne (Or.inr (hw _ (List.mem_of_getElem? (i := 76) rfl))) (Or.inr (hw _ (List.mem_of_getElem? (i := 70) rfl))) (by decide) (t := .int) (t' := .long) (by decide) (by decide)))).other W167 (Or.inr (slot_ne (Or.inr (hw _ (List.mem_of_getElem? (i := 76) rfl))) (Or.inr (hw _ (List.mem_of_getElem? (i := 72) rfl))) (by decide) (t := .int) (t' := (.object "java/util/OptionalDouble")) (by decide) (by decide)))).other W173 (Or.inr (slot_ne (Or.inr (hw _ (List.mem_of_getElem? (i := 76) rfl))) (Or.inr (hw _ (List.mem_of_getElem? (i := 74) rfl))) (by decide) (t := .int) (t' := .int) (by decide) (by decide))))
  obtain ⟨T179, h179, X179, e179, W179, st179⟩ := putF X173 hx hZ hown (host := "") (Or.inl (hw _ (List.mem_of_getElem? (i := 75) rfl))) Via.refl e173 F178 E176 (Or.inr ⟨(hw _ (List.mem_of_getElem? (i := 76) rfl)), rfl, hnm⟩) (hw _ (List.mem_of_getElem? (i := 21) rfl)) (ty := .int) (by decide) rfl rfl (g := (mkF m 77 #[.val (.ref a0_), .val (.double d1), .second, .val (.int i2), .val (.int i3), .val (.int i4), .val (.int i5), .val (.int i6), .val (.double d7), .second, .val (.double d8), .second, .val (.ref o9), .val (.long j10), .second, .val (.ref o11), .val (.int i12), .val (.int i13)] [(.int i13), (.ref a0_)])) rfl rfl (hb hby own_d6_77)
  refine own_st st179 ?_
  have Fw179 := F178.same W179
  have N179 := Fr.snoc X179 N173 G0
  have K180 : Keep h0 h179 [a0_] := K174.wr W179 (Or.inl (List.mem_of_getElem? (i := 0) rfl))
  show own_Run p e below s _ _ _ (T179.setTop (mkF m 80 #[.val (.ref a0_), .val (.double d1), .second, .val (.int i2), .val (.int i3), .val (.int i4), .val (.int i5), .val (.int i6), .val (.double d7), .second, .val (.double d8), .second, .val (.ref o9), .val (.long j10), .second, .val (.ref o11), .val (.int i12), .val (.int i13)] []))
  have hQe := e179
  subst hQe
  have E182 := (E176.wr W179)
  have F183 := (((((((((((Fw113.other W119 (Or.inr (slot_ne (Or.inr (hw _ (List.mem_of_getElem? (i := 54) rfl))) (Or.inr (hw _ (List.mem_of_getElem? (i := 56) rfl))) (by decide) (t := .int) (t' := .int) (by decide) (by decide)))).other W125 (Or.inr (slot_ne (Or.inr (hw _ (List.mem_of_getElem? (i := 54) rfl))) (Or.inr (hw _ (List.mem_of_getElem? (i := 58) rfl))) (by decide) (t := .int) (t' := .int) (by decide) (by decide)))).other W131 (Or.inr (slot_ne (Or.inr (hw _ (List.mem_of_getElem? (i := 54) rfl))) (Or.inr (hw _ (List.mem_of_getElem? (i := 60) rfl))) (by decide) (t := .int) (t' := .int) (by decide) (by decide)))).other W137 (Or.inr (slot_ne (Or.inr (hw _ (List.mem_of_getElem? (i := 54) rfl))) (Or.inr (hw _ (List.mem_of_getElem? (i := 62) rfl))) (by decide) (t := .int) (t' := .int) (by decide) (by decide)))).other W143 (Or.inr (slot_ne (Or.inr (hw _ (List.mem_of_getElem? (i := 54) rfl))) (Or.inr (hw _ (List.mem_of_getElem? (i := 64) rfl))) (by decide) (t := .int) (t' := .double) (by decide) (by decide)))).other W149 (Or.inr (slot_ne (Or.inr (hw _ (List.mem_of_getElem? (i := 54) rfl))) (Or.inr (hw _ (List.mem_of_getElem? (i := 66) rfl))) (by decide) (t := .int) (t' := .double) (by decide) (by decide)))).other W155 (Or.inr (slot_ne (Or.inr (hw _ (List.mem_of_getElem? (i := 54) rfl))) (Or.inr (hw _ (List.mem_of_getElem? (i := 68) rfl))) (by decide) (t := .int) (t' := (.object "java/util/OptionalDouble")) (by decide) (by decide)))).other W161 (Or.inr (slot_ne (Or.inr (hw _ (List.mem_of_getElem? (i := 54) rfl))) (Or.inr (hw _ (List.mem_of_getElem? (i := 70) rfl))) (by decide) (t := .int) (t' := .long) (by decide) (by decide)))).other W167 (Or.inr (slot_ne (Or.inr (hw _ (List.mem_of_getElem? (i := 54) rfl))) (Or.inr (hw _ (List.mem_of_getElem? (i := 72) rfl))) (by decide) (t := .int) (t' := (.object "java/util/OptionalDouble")) (by decide) (by decide)))).other W173 (Or.inr (slot_ne (Or.inr (hw _ (List.mem_of_getElem? (i := 54) rfl))) (Or.inr (hw _ (List.mem_of_getElem? (i := 74) rfl))) (by decide) (t := .int) (t' := .int) (by decide) (by decide)))).other W179 (Or.inr (slot_ne (Or.inr (hw _ (List.mem_of_getElem? (i := 54) rfl))) (Or.inr (hw _ (List.mem_of_getElem? (i := 76) rfl))) (by decide) (t := .int) (t' := .int) (by decide) (by decide))))
  have F184 := ((((((((((Fw119.other W125 (Or.inr (slot_ne (Or.inr (hw _ (List.mem_of_getElem? (i := 56) rfl))) (Or.inr (hw _ (List.mem_of_getElem? (i := 58) rfl))) (by decide) (t := .int) (t' := .int) (by decide) (by decide)))).other W131 (Or.inr (slot_ne (Or.inr (hw _ (List.mem_of_getElem? (i := 56) rfl))) (Or.inr (hw _ (List.mem_of_getElem? (i := 60) rfl))) (by decide) (t := .int) (t' := .int) (by decide) (by decide)))).other W137 (Or.inr (slot_ne (Or.inr (hw _ (List.mem_of_getElem? (i := 56) rfl))) (Or.inr (hw _ (List.mem_of_getElem? (i := 62) rfl))) (by decide) (t := .int) (t' := .int) (by decide) (by decide)))).other W143 (Or.inr (slot_ne (Or.inr (hw _ (List.mem_of_getElem? (i := 56) rfl))) (Or.inr (hw _ (List.mem_of_getElem? (i := 64) rfl))) (by decide) (t := .int) (t' := .double) (by decide) (by decide)))).other W149 (Or.inr (slot_ne (Or.inr (hw _ (List.mem_of_getElem? (i := 56) rfl))) (Or.inr (hw _ (List.mem_of_getElem? (i := 66) rfl))) (by decide) (t := .int) (t' := .double) (by decide) (by decide)))).other W155 (Or.inr (slot_ne (Or.inr (hw _ (List.mem_of_getElem? (i := 56) rfl))) (Or.inr (hw _ (List.mem_of_getElem? (i := 68) rfl))) (by decide) (t := .int) (t' := (.object "java/util/OptionalDouble")) (by decide) (by decide)))).other W161 (Or.inr (slot_ne (Or.inr (hw _ (List.mem_of_getElem? (i := 56) rfl))) (Or.inr (hw _ (List.mem_of_getElem? (i := 70) rfl))) (by decide) (t := .int) (t' := .long) (by decide) (by decide)))).other W167 (Or.inr (slot_ne (Or.inr (hw _ (List.mem_of_getElem? (i := 56) rfl))) (Or.inr (hw _ (List.mem_of_getElem? (i := 72) rfl))) (by decide) (t := .int) (t' := (.object "java/util/OptionalDouble")) (by decide) (by decide)))).other W173 (Or.inr (slot_ne (Or.inr (hw _ (List.mem_of_getElem? (i := 56) rfl))) (Or.inr (hw _ (List.mem_of_getElem? (i := 74) rfl))) (by decide) (t := .int) (t' := .int) (by decide) (by decide)))).other W179 (Or.inr (slot_ne (Or.inr (hw _ (List.mem_of_getElem? (i := 56) rfl))) (Or.inr (hw _ (List.mem_of_getElem? (i := 76) rfl))) (by decide) (t := .int) (t' := .int) (by decide) (by decide))))
  have F185 := (((((((((Fw125.other W131 (Or.inr (slot_ne (Or.inr (hw _ (List.mem_of_getElem? (i := 58) rfl))) (Or.inr (hw _ (List.mem_of_getElem? (i := 60) rfl))) (by decide) (t := .int) (t' := .int) (by decide) (by decide)))).other W137 (Or.inr (slot_ne (Or.inr (hw _ (List.mem_of_getElem? (i := 58) rfl))) (Or.inr (hw _ (List.mem_of_getElem? (i := 62) rfl))) (by decide) (t := .int) (t' := .int) (by decide) (by decide)))).other W143 (Or.inr (slot_ne (Or.inr (hw _ (List.mem_of_getElem? (i := 58) rfl))) (Or.inr (hw _ (List.mem_of_getElem? (i := 64) rfl))) (by decide) (t := .int) (t' := .double) (by decide) (by decide)))).other W149 (Or.inr (slot_ne (Or.inr (hw _ (List.mem_of_getElem? (i := 58) rfl))) (Or.inr (hw _ (List.mem_of_getElem? (i := 66) rfl))) (by decide) (t := .int) (t' := .double) (by decide) (by decide)))).other W155 (Or.inr (slot_ne (Or.inr (hw _ (List.mem_of_getElem? (i := 58) rfl))) (Or.inr (hw _ (List.mem_of_getElem? (i := 68) rfl))) (by decide) (t := .int) (t' := (.object "java/util/OptionalDouble")) (by decide) (by decide)))).other W161 (Or.inr (slot_ne (Or.inr (hw _ (List.mem_of_getElem? (i := 58) rfl))) (Or.inr (hw _ (List.mem_of_getElem? (i := 70) rfl))) (by decide) (t := .int) (t' := .long) (by decide) (by decide)))).other W167 (Or.inr (slot_ne (Or.inr (hw _ (List.mem_of_getElem? (i := 58) rfl))) (Or.inr (hw _ (List.mem_of_getElem? (i := 72) rfl))) (by decide) (t := .int) (t' := (.object "java/util/OptionalDouble")) (by decide) (by decide)))).other W173 (Or.inr (slot_ne (Or.inr (hw _ (List.mem_of_getElem? (i := 58) rfl))) (Or.inr (hw _ (List.mem_of_getElem? (i := 74) rfl))) (by decide) (t := .int) (t' := .int) (by decide) (by decide)))).other W179 (Or.inr (slot_ne (Or.inr (hw _ (List.mem_of_getElem? (i := 58) rfl))) (Or.inr (hw _ (List.mem_of_getElem? (i := 76) rfl))) (by decide) (t := .int) (t' := .int) (by decide) (by decide))))
  exact own_retV X179 hx hlk hret (hb hby own_d6_80) (by decide) (by decide) ⟨rfl, N179, K180, E182, F183, F184, F185⟩
theorem own_d4_0 : decode prog_18_method_7_code 0 = .ok (.new 88, 3) := by decide +kernel
theorem own_d4_3 : decode prog_18_method_7_code 3 = .ok (.dup, 1) := by decide +kernel
theorem own_d4_4 : decode prog_18_method_7_code 4 = .ok (.dload_n 1, 1) := by decide +kernel
theorem own_d4_5 : decode prog_18_method_7_code 5 = .ok (.aload_n 0, 1) := by decide +kernel
theorem own_d4_6 : decode prog_18_method_7_code 6 = .ok (.getfield 16, 3) := by decide +kernel
theorem own_d4_9 : decode prog_18_method_7_code 9 = .ok (.aload_n 0, 1) := by decide +kernel
theorem own_d4_10 : decode prog_18_method_7_code 10 = .ok (.getfield 23, 3) := by decide +kernel
theorem own_d4_13 : decode prog_18_method_7_code 13 = .ok (.aload_n 0, 1) := by decide +kernel
theorem own_d4_14 : decode prog_18_method_7_code 14 = .ok (.getfield 16, 3) := by decide +kernel
theorem own_d4_17 : decode prog_18_method_7_code 17 = .ok (.aload_n 0, 1) := by decide +kernel
theorem own_d4_18 : decode prog_18_method_7_code 18 = .ok (.getfield 23, 3) := by decide +kernel
theorem own_d4_21 : decode prog_18_method_7_code 21 = .ok (.isub, 1) := by decide +kernel
theorem own_d4_22 : decode prog_18_method_7_code 22 = .ok (.aload_n 0, 1) := by decide +kernel
theorem own_d4_23 : decode prog_18_method_7_code 23 = .ok (.getfield 36, 3) := by decide +kernel
theorem own_d4_26 : decode prog_18_method_7_code 26 = .ok (.iload_n 3, 1) := by decide +kernel
theorem own_d4_27 : decode prog_18_method_7_code 27 = .ok (.iload_n 3, 1) := by decide +kernel
theorem own_d4_28 : decode prog_18_method_7_code 28 = .ok (.ifCond .le 11, 3) := by decide +kernel
theorem own_d4_39 : decode prog_18_method_7_code 39 = .ok (.dconst 0, 1) := by decide +kernel
theorem own_d4_40 : decode prog_18_method_7_code 40 = .ok (.iload_n 3, 1) := by decide +kernel
theorem own_d4_41 : decode prog_18_method_7_code 41 = .ok (.i2d, 1) := by decide +kernel
theorem own_d4_42 : decode prog_18_method_7_code 42 = .ok (.dload 7, 2) := by decide +kernel
theorem own_d4_44 : decode prog_18_method_7_code 44 = .ok (.ddiv, 1) := by decide +kernel
theorem own_d4_45 : decode prog_18_method_7_code 45 = .ok (.aload_n 0, 1) := by decide +kernel
theorem own_d4_46 : decode prog_18_method_7_code 46 = .ok (.getfield 77, 3) := by decide +kernel
theorem own_d4_49 : decode prog_18_method_7_code 49 = .ok (.ifCond .le 19, 3) := by decide +kernel
theorem own_d4_68 : decode prog_18_method_7_code 68 = .ok (.invokestatic 94, 3) := by decide +kernel
theorem own_pd6 : parseMethodDescriptor "()Ljava/util/OptionalDouble;" = some ⟨[], some (.object "java/util/OptionalDouble")⟩ := by decide +kernel
theorem own_d4_71 : decode prog_18_method_7_code 71 = .ok (.aload_n 0, 1) := by decide +kernel
theorem own_d4_72 : decode prog_18_method_7_code 72 = .ok (.getfield 60, 3) := by decide +kernel
theorem own_d4_75 : decode prog_18_method_7_code 75 = .ok (.aload_n 0, 1) := by decide +kernel
theorem own_d4_76 : decode prog_18_method_7_code 76 = .ok (.getfield 57, 3) := by decide +kernel
theorem own_d4_79 : decode prog_18_method_7_code 79 = .ok (.ifCond .le 20, 3) := by decide +kernel
theorem own_d4_99 : decode prog_18_method_7_code 99 = .ok (.invokestatic 94, 3) := by decide +kernel
theorem own_d4_102 : decode prog_18_method_7_code 102 = .ok (.aload_n 0, 1) := by decide +kernel
theorem own_d4_103 : decode prog_18_method_7_code 103 = .ok (.getfield 39, 3) := by decide +kernel
theorem own_d4_106 : decode prog_18_method_7_code 106 = .ok (.iload 6, 2) := by decide +kernel
theorem own_d4_108 : decode prog_18_method_7_code 108 = .ok (.invokespecial 97, 3) := by decide +kernel
theorem own_pd7 : parseMethodDescriptor "(DIIIIIDDLjava/util/OptionalDouble;JLjava/util/OptionalDouble;II)V" = some ⟨[.double, .int, .int, .int, .int, .int, .double, .double, (.object "java/util/OptionalDouble"), .long, (.object "java/util/OptionalDouble"), .int, .int], none⟩ := by decide +kernel
theorem own_d4_111 : decode prog_18_method_7_code 111 = .ok (.areturn, 1) := by decide +kernel
set_option maxHeartbeats 4000000 in
theorem own_ef4 (m : MethodId) (x0 : Addr) (x1 : UInt64) (x2 : Int32) (x3 : UInt64) (x4 : Int32) (x5 : UInt64) : entryFrame m #[(.ref x0), (.double x1), (.int x2), (.double x3), (.int x4), (.double x5)] 9 = mkF m 0 #[.val (.ref x0), .val (.double x1), .second, .val (.int x2), .val (.double x3), .second, .val (.int x4), .val (.double x5), .second] [] := by first | (simp [entryFrame, mkF, argsToLocals, Value.category]; done) | rfl
def own_Q4 (Z : State) (a0 : Array Value) (o0 : Addr) (te : Addr) (ar : Int32) (en : Int32) (h0 : Heap) (n0 : Nat) (v : Option Value) (h : Heap) (L : List Loc) : Prop := ∃ bm : Addr, v = some (.ref bm) ∧ h0.size ≤ bm ∧ n0 ≤ bm ∧ Fr n0 L ∧ Keep h0 h [] ∧ Exa Z h bm "com/example/kerb2d/kerb2d/engine/Measures" ∧ Fld Z h bm "com/example/kerb2d/kerb2d/engine/Measures" "arrived" "I" (.int ar) ∧ Fld Z h bm "com/example/kerb2d/kerb2d/engine/Measures" "entered" "I" (.int en) ∧ Fld Z h bm "com/example/kerb2d/kerb2d/engine/Measures" "waiting" "I" (.int (ar - en))
set_option maxRecDepth 65536 in
set_option maxHeartbeats 40000000 in
theorem own_rm4 (l : Launch) (Z : State) (a0 : Array Value) (hw : ∀ d ∈ tables_1, d.before a0 Z = true) (ws : List Jvm.Cond) (o0 : Addr) (te : Addr) (ar : Int32) (en : Int32) (h0 : Heap) (n0 : Nat) (Z0 : n0 ≤ h0.size) (O0 : Old Z n0 h0) (S_E : Sta Z Z.heap "java/util/OptionalDouble" "EMPTY" "Ljava/util/OptionalDouble;" (.ref te)) (par : Fld Z h0 o0 "com/example/kerb2d/kerb2d/engine/Tally" "arrived" "I" (.int ar)) (pen : Fld Z h0 o0 "com/example/kerb2d/kerb2d/engine/Tally" "entered" "I" (.int en)) (ple : Fld Z h0 o0 "com/example/kerb2d/kerb2d/engine/Tally" "left" "I" (.int (0 : Int32))) (pde : Fld Z h0 o0 "com/example/kerb2d/kerb2d/engine/Tally" "delayed" "I" (.int (0 : Int32))) (pco : Fld Z h0 o0 "com/example/kerb2d/kerb2d/engine/Tally" "conflictSum" "J" (.long (0 : Int64))) (pfi : Fld Z h0 o0 "com/example/kerb2d/kerb2d/engine/Tally" "finished" "I" (.int (0 : Int32))) (pbo : Fld Z h0 o0 "com/example/kerb2d/kerb2d/engine/Tally" "boarded" "I" (.int (0 : Int32))) :
    MetFree l (⟨"com/example/kerb2d/kerb2d/engine/Tally", "measures", "(DIDID)Lcom/example/kerb2d/kerb2d/engine/Measures;"⟩ : MethodName) (head1 (Jvm.Cond.code (⟨"com/example/kerb2d/kerb2d/engine/Tally", "measures", "(DIDID)Lcom/example/kerb2d/kerb2d/engine/Measures;"⟩ : MethodName) prog_18_method_7_code 9 (some (.object "com/example/kerb2d/kerb2d/engine/Measures")) :: ws) ({ frames := 3, cells := 1, slots := 13, locals := 54 } : Room)) (fun a U => a = #[(.ref o0), (.double (0 : UInt64)), (.int (0 : Int32)), (.double (0 : UInt64)), (.int (0 : Int32)), (.double (4607182418800017408 : UInt64))] ∧ Z.Warmed39 U.vm ∧ U.heap = h0) (fun _ _ _ _ _ => True) (fun _ U o U' => ∃ v L, o = .returned v ∧ own_Q4 Z a0 o0 te ar en h0 n0 v U'.heap L ∧ FrameEnd U o U' L ({ frames := 3, cells := 1, slots := 13, locals := 54 } : Room).cells ({ frames := 3, cells := 1, slots := 13, locals := 54 } : Room).slots) := by
  refine own_body (Q := fun v h L => own_Q4 Z a0 o0 te ar en h0 n0 v h L) (plainFor_of_name own_pn0) ?_
  intro p e s m below meth c s₁ hx hby hml hZ hown hnm hret hlk X0 e0
  replace hml : c.maxLocals = 9 := hml
  have N0 := Fr.nil n0
  have K0 : Keep h0 h0 [] := Keep.refl _ _
  refine own_st (fun t k => castTop (own_ef4 m o0 (0 : UInt64) (0 : Int32) (0 : UInt64) (0 : Int32) (4607182418800017408 : UInt64)) k) ?_
  show own_Run p e below s _ _ _ (s₁.setTop (mkF m 0 #[.val (.ref o0), .val (.double (0 : UInt64)), .second, .val (.int (0 : Int32)), .val (.double (0 : UInt64)), .second, .val (.int (0 : Int32)), .val (.double (4607182418800017408 : UInt64)), .second] []))
  obtain ⟨T186, h186, X186, e186, E186, A186, D186, -, st186⟩ := newO X0 hx hZ hown (hw _ (List.mem_of_getElem? (i := 20) rfl)) (hw _ (List.mem_of_getElem? (i := 21) rfl)) (hw _ (List.mem_of_getElem? (i := 22) rfl)) e0 (g := (mkF m 0 #[.val (.ref o0), .val (.double (0 : UInt64)), .second, .val (.int (0 : Int32)), .val (.double (0 : UInt64)), .second, .val (.int (0 : Int32)), .val (.double (4607182418800017408 : UInt64)), .second] [])) rfl (hb hby own_d4_0) (by decide) (by decide)
  obtain ⟨b186, g186⟩ : ∃ z, z = h0.size := ⟨_, rfl⟩
  rw [← g186] at A186 D186 st186
  have sz187 : h0.size ≤ b186 := Nat.le_trans K0.1 (Nat.le_of_eq g186.symm)
  have ge188 : n0 ≤ b186 := Nat.le_trans Z0 sz187
  refine own_st st186 ?_
  have K189 : Keep h0 h186 [] := K0.ext E186
  have O190 := O0.ext E186
  show own_Run p e below s _ _ _ (T186.setTop (mkF m 3 #[.val (.ref o0), .val (.double (0 : UInt64)), .second, .val (.int (0 : Int32)), .val (.double (0 : UInt64)), .second, .val (.int (0 : Int32)), .val (.double (4607182418800017408 : UInt64)), .second] [(.ref b186)]))
  refine own_st (fun t k => XS.dup X186.here hx rfl (hb hby own_d4_3) rfl rfl k) ?_
  show own_Run p e below s _ _ _ (T186.setTop (mkF m 4 #[.val (.ref o0), .val (.double (0 : UInt64)), .second, .val (.int (0 : Int32)), .val (.double (0 : UInt64)), .second, .val (.int (0 : Int32)), .val (.double (4607182418800017408 : UInt64)), .second] [(.ref b186), (.ref b186)]))
  refine own_st (fun t k => XS.dloadN X186.here hx rfl (hb hby own_d4_4) rfl k) ?_
  show own_Run p e below s _ _ _ (T186.setTop (mkF m 5 #[.val (.ref o0), .val (.double (0 : UInt64)), .second, .val (.int (0 : Int32)), .val (.double (0 : UInt64)), .second, .val (.int (0 : Int32)), .val (.double (4607182418800017408 : UInt64)), .second] [(.double (0 : UInt64)), (.ref b186), (.ref b186)]))
  refine own_st (fun t k => XS.aloadN X186.here hx rfl (hb hby own_d4_5) rfl rfl k) ?_
  show own_Run p e below s _ _ _ (T186.setTop (mkF m 6 #[.val (.ref o0), .val (.double (0 : UInt64)), .second, .val (.int (0 : Int32)), .val (.double (0 : UInt64)), .second, .val (.int (0 : Int32)), .val (.double (4607182418800017408 : UInt64)), .second] [(.ref o0), (.double (0 : UInt64)), (.ref b186), (.ref b186)]))
  have F191 := (par.ext E186)
  obtain ⟨T192, X192, e192, st192⟩ := getF X186 hx hZ hown (host := "") (Or.inl (hw _ (List.mem_of_getElem? (i := 23) rfl))) Via.refl e186 F191 (g := (mkF m 6 #[.val (.ref o0), .val (.double (0 : UInt64)), .second, .val (.int (0 : Int32)), .val (.double (0 : UInt64)), .second, .val (.int (0 : Int32)), .val (.double (4607182418800017408 : UInt64)), .second] [(.ref o0), (.double (0 : UInt64)), (.ref b186), (.ref b186)])) rfl rfl (hb hby own_d4_6)
  refine own_st st192 ?_
  show own_Run p e below s _ _ _ (T192.setTop (mkF m 9 #[.val (.ref o0), .val (.double (0 : UInt64)), .second, .val (.int (0 : Int32)), .val (.double (0 : UInt64)), .second, .val (.int (0 : Int32)), .val (.double (4607182418800017408 : UInt64)), .second] [(.int ar), (.double (0 : UInt64)), (.ref b186), (.ref b186)]))
  refine own_st (fun t k => XS.aloadN X192.here hx rfl (hb hby own_d4_9) rfl rfl k) ?_
  show own_Run p e below s _ _ _ (T192.setTop (mkF m 10 #[.val (.ref o0), .val (.double (0 : UInt64)), .second, .val (.int (0 : Int32)), .val (.double (0 : UInt64)), .second, .val (.int (0 : Int32)), .val (.double (4607182418800017408 : UInt64)), .second] [(.ref o0), (.int ar), (.double (0 : UInt64)), (.ref b186), (.ref b186)]))
  have F193 := (pen.ext E186)
  obtain ⟨T194, X194, e194, st194⟩ := getF X192 hx hZ hown (host := "") (Or.inl (hw _ (List.mem_of_getElem? (i := 25) rfl))) Via.refl e192 F193 (g := (mkF m 10 #[.val (.ref o0), .val (.double (0 : UInt64)), .second, .val (.int (0 : Int32)), .val (.double (0 : UInt64)), .second, .val (.int (0 : Int32)), .val (.double (4607182418800017408 : UInt64)), .second] [(.ref o0), (.int ar), (.double (0 : UInt64)), (.ref b186), (.ref b186)])) rfl rfl (hb hby own_d4_10)
  refine own_st st194 ?_
  show own_Run p e below s _ _ _ (T194.setTop (mkF m 13 #[.val (.ref o0), .val (.double (0 : UInt64)), .second, .val (.int (0 : Int32)), .val (.double (0 : UInt64)), .second, .val (.int (0 : Int32)), .val (.double (4607182418800017408 : UInt64)), .second] [(.int en), (.int ar), (.double (0 : UInt64)), (.ref b186), (.ref b186)]))
  refine own_st (fun t k => XS.aloadN X194.here hx rfl (hb hby own_d4_13) rfl rfl k) ?_
  show own_Run p e below s _ _ _ (T194.setTop (mkF m 14 #[.val (.ref o0), .val (.double (0 : UInt64)), .second, .val (.int (0 : Int32)), .val (.double (0 : UInt64)), .second, .val (.int (0 : Int32)), .val (.double (4607182418800017408 : UInt64)), .second] [(.ref o0), (.int en), (.int ar), (.double (0 : UInt64)), (.ref b186), (.ref b186)]))
  obtain ⟨T195, X195, e195, st195⟩ := getF X194 hx hZ hown (host := "") (Or.inl (hw _ (List.mem_of_getElem? (i := 23) rfl))) Via.refl e194 F191 (g := (mkF m 14 #[.val (.ref o0), .val (.double (0 : UInt64)), .second, .val (.int (0 : Int32)), .val (.double (0 : UInt64)), .second, .val (.int (0 : Int32)), .val (.double (4607182418800017408 : UInt64)), .second] [(.ref o0), (.int en), (.int ar), (.double (0 : UInt64)), (.ref b186), (.ref b186)])) rfl rfl (hb hby own_d4_14)
  refine own_st st195 ?_
  show own_Run p e below s _ _ _ (T195.setTop (mkF m 17 #[.val (.ref o0), .val (.double (0 : UInt64)), .second, .val (.int (0 : Int32)), .val (.double (0 : UInt64)), .second, .val (.int (0 : Int32)), .val (.double (4607182418800017408 : UInt64)), .second] [(.int ar), (.int en), (.int ar), (.double (0 : UInt64)), (.ref b186), (.ref b186)]))
  refine own_st (fun t k => XS.aloadN X195.here hx rfl (hb hby own_d4_17) rfl rfl k) ?_
  show own_Run p e below s _ _ _ (T195.setTop (mkF m 18 #[.val (.ref o0), .val (.double (0 : UInt64)), .second, .val (.int (0 : Int32)), .val (.double (0 : UInt64)), .second, .val (.int (0 : Int32)), .val (.double (4607182418800017408 : UInt64)), .second] [(.ref o0), (.int ar), (.int en), (.int ar), (.double (0 : UInt64)), (.ref b186), (.ref b186)]))
  obtain ⟨T196, X196, e196, st196⟩ := getF X195 hx hZ hown (host := "") (Or.inl (hw _ (List.mem_of_getElem? (i := 25) rfl))) Via.refl e195 F193 (g := (mkF m 18 #[.val (.ref o0), .val (.double (0 : UInt64)), .second, .val (.int (0 : Int32)), .val (.double (0 : UInt64)), .second, .val (.int (0 : Int32)), .val (.double (4607182418800017408 : UInt64)), .second] [(.ref o0), (.int ar), (.int en), (.int ar), (.double (0 : UInt64)), (.ref b186), (.ref b186)])) rfl rfl (hb hby own_d4_18)
  refine own_st st196 ?_
  show own_Run p e below s _ _ _ (T196.setTop (mkF m 21 #[.val (.ref o0), .val (.double (0 : UInt64)), .second, .val (.int (0 : Int32)), .val (.double (0 : UInt64)), .second, .val (.int (0 : Int32)), .val (.double (4607182418800017408 : UInt64)), .second] [(.int en), (.int ar), (.int en), (.int ar), (.double (0 : UInt64)), (.ref b186), (.ref b186)]))
  refine own_st (fun t k => XS.isub X196.here hx rfl (hb hby own_d4_21) rfl k) ?_
  show own_Run p e below s _ _ _ (T196.setTop (mkF m 22 #[.val (.ref o0), .val (.double (0 : UInt64)), .second, .val (.int (0 : Int32)), .val (.double (0 : UInt64)), .second, .val (.int (0 : Int32)), .val (.double (4607182418800017408 : UInt64)), .second] [(.int (ar - en)), (.int en), (.int ar), (.double (0 : UInt64)), (.ref b186), (.ref b186)]))
  refine own_st (fun t k => XS.aloadN X196.here hx rfl (hb hby own_d4_22) rfl rfl k) ?_
  show own_Run p e below s _ _ _ (T196.setTop (mkF m 23 #[.val (.ref o0), .val (.double (0 : UInt64)), .second, .val (.int (0 : Int32)), .val (.double (0 : UInt64)), .second, .val (.int (0 : Int32)), .val (.double (4607182418800017408 : UInt64)), .second] [(.ref o0), (.int (ar - en)), (.int en), (.int ar), (.double (0 : UInt64)), (.ref b186), (.ref b186)]))
  have F197 := (ple.ext E186)
  obtain ⟨T198, X198, e198, st198⟩ := getF X196 hx hZ hown (host := "") (Or.inl (hw _ (List.mem_of_getElem? (i := 27) rfl))) Via.refl e196 F197 (g := (mkF m 23 #[.val (.ref o0), .val (.double (0 : UInt64)), .second, .val (.int (0 : Int32)), .val (.double (0 : UInt64)), .second, .val (.int (0 : Int32)), .val (.double (4607182418800017408 : UInt64)), .second] [(.ref o0), (.int (ar - en)), (.int en), (.int ar), (.double (0 : UInt64)), (.ref b186), (.ref b186)])) rfl rfl (hb hby own_d4_23)
  refine own_st st198 ?_
  show own_Run p e below s _ _ _ (T198.setTop (mkF m 26 #[.val (.ref o0), .val (.double (0 : UInt64)), .second, .val (.int (0 : Int32)), .val (.double (0 : UInt64)), .second, .val (.int (0 : Int32)), .val (.double (4607182418800017408 : UInt64)), .second] [(.int (0 : Int32)), (.int (ar - en)), (.int en), (.int ar), (.double (0 : UInt64)), (.ref b186), (.ref b186)]))
  refine own_st (fun t k => XS.iloadN X198.here hx rfl (hb hby own_d4_26) rfl k) ?_
  show own_Run p e below s _ _ _ (T198.setTop (mkF m 27 #[.val (.ref o0), .val (.double (0 : UInt64)), .second, .val (.int (0 : Int32)), .val (.double (0 : UInt64)), .second, .val (.int (0 : Int32)), .val (.double (4607182418800017408 : UInt64)), .second] [(.int (0 : Int32)), (.int (0 : Int32)), (.int (ar - en)), (.int en), (.int ar), (.double (0 : UInt64)), (.ref b186), (.ref b186)]))
  refine own_st (fun t k => XS.iloadN X198.here hx rfl (hb hby own_d4_27) rfl k) ?_
  show own_Run p e below s _ _ _ (T198.setTop (mkF m 28 #[.val (.ref o0), .val (.double (0 : UInt64)), .second, .val (.int (0 : Int32)), .val (.double (0 : UInt64)), .second, .val (.int (0 : Int32)), .val (.double (4607182418800017408 : UInt64)), .second] [(.int (0 : Int32)), (.int (0 : Int32)), (.int (0 : Int32)), (.int (ar - en)), (.int en), (.int ar), (.double (0 : UInt64)), (.ref b186), (.ref b186)]))
  refine own_st (fun t k => XS.ifYes X198.here hx rfl (pc0 := 28) (pc' := 39) rfl (hb hby own_d4_28) rfl ((if0 _ _).trans (flt (by decide : ¬ ((0 : Int32) < (0 : Int32)))).2.2.2) (by decide) (by decide) k) ?_
  show own_Run p e below s _ _ _ (T198.setTop (mkF m 39 #[.val (.ref o0), .val (.double (0 : UInt64)), .second, .val (.int (0 : Int32)), .val (.double (0 : UInt64)), .second, .val (.int (0 : Int32)), .val (.double (4607182418800017408 : UInt64)), .second] [(.int (0 : Int32)), (.int (0 : Int32)), (.int (ar - en)), (.int en), (.int ar), (.double (0 : UInt64)), (.ref b186), (.ref b186)]))
  refine own_st (fun t k => XS.dconst0 X198.here hx rfl (hb hby own_d4_39) (v := 0) rfl k) ?_
  show own_Run p e below s _ _ _ (T198.setTop (mkF m 40 #[.val (.ref o0), .val (.double (0 : UInt64)), .second, .val (.int (0 : Int32)), .val (.double (0 : UInt64)), .second, .val (.int (0 : Int32)), .val (.double (4607182418800017408 : UInt64)), .second] [(.double (0 : UInt64)), (.int (0 : Int32)), (.int (0 : Int32)), (.int (ar - en)), (.int en), (.int ar), (.double (0 : UInt64)), (.ref b186), (.ref b186)]))
  refine own_st (fun t k => XS.iloadN X198.here hx rfl (hb hby own_d4_40) rfl k) ?_
  show own_Run p e below s _ _ _ (T198.setTop (mkF m 41 #[.val (.ref o0), .val (.double (0 : UInt64)), .second, .val (.int (0 : Int32)), .val (.double (0 : UInt64)), .second, .val (.int (0 : Int32)), .val (.double (4607182418800017408 : UInt64)), .second] [(.int (0 : Int32)), (.double (0 : UInt64)), (.int (0 : Int32)), (.int (0 : Int32)), (.int (ar - en)), (.int en), (.int ar), (.double (0 : UInt64)), (.ref b186), (.ref b186)]))
  refine own_st (fun t k => XS.i2dS X198.here hx rfl (hb hby own_d4_41) rfl (v := (0 : UInt64)) (by decide +kernel) k) ?_
  show own_Run p e below s _ _ _ (T198.setTop (mkF m 42 #[.val (.ref o0), .val (.double (0 : UInt64)), .second, .val (.int (0 : Int32)), .val (.double (0 : UInt64)), .second, .val (.int (0 : Int32)), .val (.double (4607182418800017408 : UInt64)), .second] [(.double (0 : UInt64)), (.double (0 : UInt64)), (.int (0 : Int32)), (.int (0 : Int32)), (.int (ar - en)), (.int en), (.int ar), (.double (0 : UInt64)), (.ref b186), (.ref b186)]))
  refine own_st (fun t k => XS.dload X198.here hx rfl (hb hby own_d4_42) rfl k) ?_
  show own_Run p e below s _ _ _ (T198.setTop (mkF m 44 #[.val (.ref o0), .val (.double (0 : UInt64)), .second, .val (.int (0 : Int32)), .val (.double (0 : UInt64)), .second, .val (.int (0 : Int32)), .val (.double (4607182418800017408 : UInt64)), .second] [(.double (4607182418800017408 : UInt64)), (.double (0 : UInt64)), (.double (0 : UInt64)), (.int (0 : Int32)), (.int (0 : Int32)), (.int (ar - en)), (.int en), (.int ar), (.double (0 : UInt64)), (.ref b186), (.ref b186)]))
  refine own_st (fun t k => XS.ddivS X198.here hx rfl (hb hby own_d4_44) rfl (by unfold Jvm.Free.Fl.NoNaN64; decide +kernel) (v := (0 : UInt64)) (by decide +kernel) k) ?_
  show own_Run p e below s _ _ _ (T198.setTop (mkF m 45 #[.val (.ref o0), .val (.double (0 : UInt64)), .second, .val (.int (0 : Int32)), .val (.double (0 : UInt64)), .second, .val (.int (0 : Int32)), .val (.double (4607182418800017408 : UInt64)), .second] [(.double (0 : UInt64)), (.double (0 : UInt64)), (.int (0 : Int32)), (.int (0 : Int32)), (.int (ar - en)), (.int en), (.int ar), (.double (0 : UInt64)), (.ref b186), (.ref b186)]))
  refine own_st (fun t k => XS.aloadN X198.here hx rfl (hb hby own_d4_45) rfl rfl k) ?_
  show own_Run p e below s _ _ _ (T198.setTop (mkF m 46 #[.val (.ref o0), .val (.double (0 : UInt64)), .second, .val (.int (0 : Int32)), .val (.double (0 : UInt64)), .second, .val (.int (0 : Int32)), .val (.double (4607182418800017408 : UInt64)), .second] [(.ref o0), (.double (0 : UInt64)), (.double (0 : UInt64)), (.int (0 : Int32)), (.int (0 : Int32)), (.int (ar - en)), (.int en), (.int ar), (.double (0 : UInt64)), (.ref b186), (.ref b186)]))
  have F199 := (pde.ext E186)
  obtain ⟨T200, X200, e200, st200⟩ := getF X198 hx hZ hown (host := "") (Or.inl (hw _ (List.mem_of_getElem? (i := 29) rfl))) Via.refl e198 F199 (g := (mkF m 46 #[.val (.ref o0), .val (.double (0 : UInt64)), .second, .val (.int (0 : Int32)), .val (.double (0 : UInt64)), .second, .val (.int (0 : Int32)), .val (.double (4607182418800017408 : UInt64)), .second] [(.ref o0), (.double (0 : UInt64)), (.double (0 : UInt64)), (.int (0 : Int32)), (.int (0 : Int32)), (.int (ar - en)), (.int en), (.int ar), (.double (0 : UInt64)), (.ref b186), (.ref b186)])) rfl rfl (hb hby own_d4_46)
  refine own_st st200 ?_
  show own_Run p e below s _ _ _ (T200.setTop (mkF m 49 #[.val (.ref o0), .val (.double (0 : UInt64)), .second, .val (.int (0 : Int32)), .val (.double (0 : UInt64)), .second, .val (.int (0 : Int32)), .val (.double (4607182418800017408 : UInt64)), .second] [(.int (0 : Int32)), (.double (0 : UInt64)), (.double (0 : UInt64)), (.int (0 : Int32)), (.int (0 : Int32)), (.int (ar - en)), (.int en), (.int ar), (.double (0 : UInt64)), (.ref b186), (.ref b186)]))
  refine own_st (fun t k => XS.ifYes X200.here hx rfl (pc0 := 49) (pc' := 68) rfl (hb hby own_d4_49) rfl ((if0 _ _).trans (flt (by decide : ¬ ((0 : Int32) < (0 : Int32)))).2.2.2) (by decide) (by decide) k) ?_
  show own_Run p e below s _ _ _ (T200.setTop (mkF m 68 #[.val (.ref o0), .val (.double (0 : UInt64)), .second, .val (.int (0 : Int32)), .val (.double (0 : UInt64)), .second, .val (.int (0 : Int32)), .val (.double (4607182418800017408 : UInt64)), .second] [(.double (0 : UInt64)), (.double (0 : UInt64)), (.int (0 : Int32)), (.int (0 : Int32)), (.int (ar - en)), (.int en), (.int ar), (.double (0 : UInt64)), (.ref b186), (.ref b186)]))
  refine own_callS X200 hx hZ (y := (⟨"java/util/OptionalDouble", "empty", "()Ljava/util/OptionalDouble;"⟩ : MethodName)) hown (hw _ (List.mem_of_getElem? (i := 31) rfl)) (hw _ (List.mem_of_getElem? (i := 32) rfl)) (hw _ (List.mem_of_getElem? (i := 34) rfl)) (hw _ (List.mem_of_getElem? (i := 33) rfl)) (by decide) e200 (argsL := []) (rest := [(.double (0 : UInt64)), (.double (0 : UInt64)), (.int (0 : Int32)), (.int (0 : Int32)), (.int (ar - en)), (.int en), (.int ar), (.double (0 : UInt64)), (.ref b186), (.ref b186)]) (W := 13) (own_rm5 l Z a0 hw [] te h186 n0 (Nat.le_trans Z0 K189.1) O190 S_E) (by decide) (by decide) (by rw [hml]; rfl) (lenOf own_pd6 rfl) rfl (by exact Nat.le_of_eq rfl) (hb hby own_d4_68) (by decide) (by decide) ?_
  intro T201 v201 L201 X201 hq201
  obtain ⟨rfl, N201q, hh201⟩ := hq201
  have N201 := Fr.app N0 N201q
  show own_Run p e below s _ _ _ (T201.setTop (mkF m 71 #[.val (.ref o0), .val (.double (0 : UInt64)), .second, .val (.int (0 : Int32)), .val (.double (0 : UInt64)), .second, .val (.int (0 : Int32)), .val (.double (4607182418800017408 : UInt64)), .second] [(.ref te), (.double (0 : UInt64)), (.double (0 : UInt64)), (.int (0 : Int32)), (.int (0 : Int32)), (.int (ar - en)), (.int en), (.int ar), (.double (0 : UInt64)), (.ref b186), (.ref b186)]))
  refine own_st (fun t k => XS.aloadN X201.here hx rfl (hb hby own_d4_71) rfl rfl k) ?_
  show own_Run p e below s _ _ _ (T201.setTop (mkF m 72 #[.val (.ref o0), .val (.double (0 : UInt64)), .second, .val (.int (0 : Int32)), .val (.double (0 : UInt64)), .second, .val (.int (0 : Int32)), .val (.double (4607182418800017408 : UInt64)), .second] [(.ref o0), (.ref te), (.double (0 : UInt64)), (.double (0 : UInt64)), (.int (0 : Int32)), (.int (0 : Int32)), (.int (ar - en)), (.int en), (.int ar), (.double (0 : UInt64)), (.ref b186), (.ref b186)]))
  have F202 := (pco.ext E186)
  obtain ⟨T203, X203, e203, st203⟩ := getF X201 hx hZ hown (host := "") (Or.inl (hw _ (List.mem_of_getElem? (i := 36) rfl))) Via.refl hh201 F202 (g := (mkF m 72 #[.val (.ref o0), .val (.double (0 : UInt64)), .second, .val (.int (0 : Int32)), .val (.double (0 : UInt64)), .second, .val (.int (0 : Int32)), .val (.double (4607182418800017408 : UInt64)), .second] [(.ref o0), (.ref te), (.double (0 : UInt64)), (.double (0 : UInt64)), (.int (0 : Int32)), (.int (0 : Int32)), (.int (ar - en)), (.int en), (.int ar), (.double (0 : UInt64)), (.ref b186), (.ref b186)])) rfl rfl (hb hby own_d4_72)
  refine own_st st203 ?_
  show own_Run p e below s _ _ _ (T203.setTop (mkF m 75 #[.val (.ref o0), .val (.double (0 : UInt64)), .second, .val (.int (0 : Int32)), .val (.double (0 : UInt64)), .second, .val (.int (0 : Int32)), .val (.double (4607182418800017408 : UInt64)), .second] [(.long (0 : Int64)), (.ref te), (.double (0 : UInt64)), (.double (0 : UInt64)), (.int (0 : Int32)), (.int (0 : Int32)), (.int (ar - en)), (.int en), (.int ar), (.double (0 : UInt64)), (.ref b186), (.ref b186)]))
  refine own_st (fun t k => XS.aloadN X203.here hx rfl (hb hby own_d4_75) rfl rfl k) ?_
  show own_Run p e below s _ _ _ (T203.setTop (mkF m 76 #[.val (.ref o0), .val (.double (0 : UInt64)), .second, .val (.int (0 : Int32)), .val (.double (0 : UInt64)), .second, .val (.int (0 : Int32)), .val (.double (4607182418800017408 : UInt64)), .second] [(.ref o0), (.long (0 : Int64)), (.ref te), (.double (0 : UInt64)), (.double (0 : UInt64)), (.int (0 : Int32)), (.int (0 : Int32)), (.int (ar - en)), (.int en), (.int ar), (.double (0 : UInt64)), (.ref b186), (.ref b186)]))
  have F204 := (pfi.ext E186)
  obtain ⟨T205, X205, e205, st205⟩ := getF X203 hx hZ hown (host := "") (Or.inl (hw _ (List.mem_of_getElem? (i := 38) rfl))) Via.refl e203 F204 (g := (mkF m 76 #[.val (.ref o0), .val (.double (0 : UInt64)), .second, .val (.int (0 : Int32)), .val (.double (0 : UInt64)), .second, .val (.int (0 : Int32)), .val (.double (4607182418800017408 : UInt64)), .second] [(.ref o0), (.long (0 : Int64)), (.ref te), (.double (0 : UInt64)), (.double (0 : UInt64)), (.int (0 : Int32)), (.int (0 : Int32)), (.int (ar - en)), (.int en), (.int ar), (.double (0 : UInt64)), (.ref b186), (.ref b186)])) rfl rfl (hb hby own_d4_76)
  refine own_st st205 ?_
  show own_Run p e below s _ _ _ (T205.setTop (mkF m 79 #[.val (.ref o0), .val (.double (0 : UInt64)), .second, .val (.int (0 : Int32)), .val (.double (0 : UInt64)), .second, .val (.int (0 : Int32)), .val (.double (4607182418800017408 : UInt64)), .second] [(.int (0 : Int32)), (.long (0 : Int64)), (.ref te), (.double (0 : UInt64)), (.double (0 : UInt64)), (.int (0 : Int32)), (.int (0 : Int32)), (.int (ar - en)), (.int en), (.int ar), (.double (0 : UInt64)), (.ref b186), (.ref b186)]))
  refine own_st (fun t k => XS.ifYes X205.here hx rfl (pc0 := 79) (pc' := 99) rfl (hb hby own_d4_79) rfl ((if0 _ _).trans (flt (by decide : ¬ ((0 : Int32) < (0 : Int32)))).2.2.2) (by decide) (by decide) k) ?_
  show own_Run p e below s _ _ _ (T205.setTop (mkF m 99 #[.val (.ref o0), .val (.double (0 : UInt64)), .second, .val (.int (0 : Int32)), .val (.double (0 : UInt64)), .second, .val (.int (0 : Int32)), .val (.double (4607182418800017408 : UInt64)), .second] [(.long (0 : Int64)), (.ref te), (.double (0 : UInt64)), (.double (0 : UInt64)), (.int (0 : Int32)), (.int (0 : Int32)), (.int (ar - en)), (.int en), (.int ar), (.double (0 : UInt64)), (.ref b186), (.ref b186)]))
  refine own_callS X205 hx hZ (y := (⟨"java/util/OptionalDouble", "empty", "()Ljava/util/OptionalDouble;"⟩ : MethodName)) hown (hw _ (List.mem_of_getElem? (i := 31) rfl)) (hw _ (List.mem_of_getElem? (i := 32) rfl)) (hw _ (List.mem_of_getElem? (i := 34) rfl)) (hw _ (List.mem_of_getElem? (i := 33) rfl)) (by decide) e205 (argsL := []) (rest := [(.long (0 : Int64)), (.ref te), (.double (0 : UInt64)), (.double (0 : UInt64)), (.int (0 : Int32)), (.int (0 : Int32)), (.int (ar - en)), (.int en), (.int ar), (.double (0 : UInt64)), (.ref b186), (.ref b186)]) (W := 16) (own_rm5 l Z a0 hw [] te h186 n0 (Nat.le_trans Z0 K189.1) O190 S_E) (by decide) (by decide) (by rw [hml]; rfl) (lenOf own_pd6 rfl) rfl (by exact Nat.le_of_eq rfl) (hb hby own_d4_99) (by decide) (by decide) ?_
  intro T206 v206 L206 X206 hq206
  obtain ⟨rfl, N206q, hh206⟩ := hq206
  have N206 := Fr.app N201 N206q
  show own_Run p e below s _ _ _ (T206.setTop (mkF m 102 #[.val (.ref o0), .val (.double (0 : UInt64)), .second, .val (.int (0 : Int32)), .val (.double (0 : UInt64)), .second, .val (.int (0 : Int32)), .val (.double (4607182418800017408 : UInt64)), .second] [(.ref te), (.long (0 : Int64)), (.ref te), (.double (0 : UInt64)), (.double (0 : UInt64)), (.int (0 : Int32)), (.int (0 : Int32)), (.int (ar - en)), (.int en), (.int ar), (.double (0 : UInt64)), (.ref b186), (.ref b186)]))
  refine own_st (fun t k => XS.aloadN X206.here hx rfl (hb hby own_d4_102) rfl rfl k) ?_
  show own_Run p e below s _ _ _ (T206.setTop (mkF m 103 #[.val (.ref o0), .val (.double (0 : UInt64)), .second, .val (.int (0 : Int32)), .val (.double (0 : UInt64)), .second, .val (.int (0 : Int32)), .val (.double (4607182418800017408 : UInt64)), .second] [(.ref o0), (.ref te), (.long (0 : Int64)), (.ref te), (.double (0 : UInt64)), (.double (0 : UInt64)), (.int (0 : Int32)), (.int (0 : Int32)), (.int (ar - en)), (.int en), (.int ar), (.double (0 : UInt64)), (.ref b186), (.ref b186)]))
  have F207 := (pbo.ext E186)
  obtain ⟨T208, X208, e208, st208⟩ := getF X206 hx hZ hown (host := "") (Or.inl (hw _ (List.mem_of_getElem? (i := 40) rfl))) Via.refl hh206 F207 (g := (mkF m 103 #[.val (.ref o0), .val (.double (0 : UInt64)), .second, .val (.int (0 : Int32)), .val (.double (0 : UInt64)), .second, .val (.int (0 : Int32)), .val (.double (4607182418800017408 : UInt64)), .second] [(.ref o0), (.ref te), (.long (0 : Int64)), (.ref te), (.double (0 : UInt64)), (.double (0 : UInt64)), (.int (0 : Int32)), (.int (0 : Int32)), (.int (ar - en)), (.int en), (.int ar), (.double (0 : UInt64)), (.ref b186), (.ref b186)])) rfl rfl (hb hby own_d4_103)
  refine own_st st208 ?_
  show own_Run p e below s _ _ _ (T208.setTop (mkF m 106 #[.val (.ref o0), .val (.double (0 : UInt64)), .second, .val (.int (0 : Int32)), .val (.double (0 : UInt64)), .second, .val (.int (0 : Int32)), .val (.double (4607182418800017408 : UInt64)), .second] [(.int (0 : Int32)), (.ref te), (.long (0 : Int64)), (.ref te), (.double (0 : UInt64)), (.double (0 : UInt64)), (.int (0 : Int32)), (.int (0 : Int32)), (.int (ar - en)), (.int en), (.int ar), (.double (0 : UInt64)), (.ref b186), (.ref b186)]))
  refine own_st (fun t k => XS.iload X208.here hx rfl (hb hby own_d4_106) rfl k) ?_
  show own_Run p e below s _ _ _ (T208.setTop (mkF m 108 #[.val (.ref o0), .val (.double (0 : UInt64)), .second, .val (.int (0 : Int32)), .val (.double (0 : UInt64)), .second, .val (.int (0 : Int32)), .val (.double (4607182418800017408 : UInt64)), .second] [(.int (0 : Int32)), (.int (0 : Int32)), (.ref te), (.long (0 : Int64)), (.ref te), (.double (0 : UInt64)), (.double (0 : UInt64)), (.int (0 : Int32)), (.int (0 : Int32)), (.int (ar - en)), (.int en), (.int ar), (.double (0 : UInt64)), (.ref b186), (.ref b186)]))
  refine own_callI X208 hx hZ (y := (⟨"com/example/kerb2d/kerb2d/engine/Measures", "<init>", "(DIIIIIDDLjava/util/OptionalDouble;JLjava/util/OptionalDouble;II)V"⟩ : MethodName)) rfl hown (hw _ (List.mem_of_getElem? (i := 42) rfl)) (hw _ (List.mem_of_getElem? (i := 43) rfl)) (hw _ (List.mem_of_getElem? (i := 44) rfl)) (hw _ (List.mem_of_getElem? (i := 22) rfl)) (by decide) e208 (a := b186) (argsL := [(.double (0 : UInt64)), (.int ar), (.int en), (.int (ar - en)), (.int (0 : Int32)), (.int (0 : Int32)), (.double (0 : UInt64)), (.double (0 : UInt64)), (.ref te), (.long (0 : Int64)), (.ref te), (.int (0 : Int32)), (.int (0 : Int32))]) (rest := [(.ref b186)]) (W := 1) (own_rm6 l Z a0 hw [] b186 (0 : UInt64) ar en (ar - en) (0 : Int32) (0 : Int32) (0 : UInt64) (0 : UInt64) te (0 : Int64) te (0 : Int32) (0 : Int32) h186 n0 (Nat.le_trans Z0 K189.1) A186 D186 ge188) (by decide) (by decide) (by rw [hml]; rfl) (lenOf own_pd7 rfl) rfl (by exact Nat.le_of_eq rfl) (hb hby own_d4_108) (by decide) (by decide) ?_
  intro T209 v209 L209 X209 hq209
  obtain ⟨rfl, N209q, K209q, Q210, Q211, Q212, Q213⟩ := hq209
  have K214 : Keep h0 T209.heap [] := K189.trans K209q (allS (Or.inr sz187) all0)
  have O215 := O190.keep K209q (allS ge188 all0)
  have N209 := Fr.app N206 N209q
  show own_Run p e below s _ _ _ (T209.setTop (mkF m 111 #[.val (.ref o0), .val (.double (0 : UInt64)), .second, .val (.int (0 : Int32)), .val (.double (0 : UInt64)), .second, .val (.int (0 : Int32)), .val (.double (4607182418800017408 : UInt64)), .second] [(.ref b186)]))
  exact own_ret X209 hx hlk (t := (.object "com/example/kerb2d/kerb2d/engine/Measures")) hret rfl (Or.inr (Or.inr (Or.inr (Or.inr ⟨rfl, rfl, rfl⟩)))) (hb hby own_d4_111) (by decide) (by decide) ⟨b186, rfl, sz187, ge188, N209, K214, Q210, Q211, Q212, Q213⟩
theorem own_d8_0 : decode prog_10_method_7_code 0 = .ok (.aload_n 0, 1) := by decide +kernel
theorem own_d8_1 : decode prog_10_method_7_code 1 = .ok (.getfield 17, 3) := by decide +kernel
theorem own_d8_4 : decode prog_10_method_7_code 4 = .ok (.ireturn, 1) := by decide +kernel
set_option maxHeartbeats 4000000 in
theorem own_ef8 (m : MethodId) (x0 : Addr) : entryFrame m #[(.ref x0)] 1 = mkF m 0 #[.val (.ref x0)] [] := by first | (simp [entryFrame, mkF, argsToLocals, Value.category]; done) | rfl
def own_Q8 (Z : State) (a0 : Array Value) (o0 : Addr) (x : Int32) (h0 : Heap) (n0 : Nat) (v : Option Value) (h : Heap) (L : List Loc) : Prop := v = some (.int x) ∧ Fr n0 L ∧ h = h0
set_option maxRecDepth 65536 in
set_option maxHeartbeats 40000000 in
theorem own_rm8 (l : Launch) (Z : State) (a0 : Array Value) (hw : ∀ d ∈ tables_1, d.before a0 Z = true) (ws : List Jvm.Cond) (o0 : Addr) (x : Int32) (h0 : Heap) (n0 : Nat) (Z0 : n0 ≤ h0.size) (F_x : Fld Z h0 o0 "com/example/kerb2d/kerb2d/engine/Measures" "entered" "I" (.int x)) :
    MetFree l (⟨"com/example/kerb2d/kerb2d/engine/Measures", "entered", "()I"⟩ : MethodName) (head1 (Jvm.Cond.code (⟨"com/example/kerb2d/kerb2d/engine/Measures", "entered", "()I"⟩ : MethodName) prog_10_method_7_code 1 (some .int) :: ws) ({ frames := 0, cells := 0, slots := 0, locals := 0 } : Room)) (fun a U => a = #[(.ref o0)] ∧ Z.Warmed39 U.vm ∧ U.heap = h0) (fun _ _ _ _ _ => True) (fun _ U o U' => ∃ v L, o = .returned v ∧ own_Q8 Z a0 o0 x h0 n0 v U'.heap L ∧ FrameEnd U o U' L ({ frames := 0, cells := 0, slots := 0, locals := 0 } : Room).cells ({ frames := 0, cells := 0, slots := 0, locals := 0 } : Room).slots) := by
  refine own_body (Q := fun v h L => own_Q8 Z a0 o0 x h0 n0 v h L) (plainFor_of_name own_pn5) ?_
  intro p e s m below meth c s₁ hx hby hml hZ hown hnm hret hlk X0 e0
  replace hml : c.maxLocals = 1 := hml
  have N0 := Fr.nil n0
  have K0 : Keep h0 h0 [] := Keep.refl _ _
  refine own_st (fun t k => castTop (own_ef8 m o0) k) ?_
  show own_Run p e below s _ _ _ (s₁.setTop (mkF m 0 #[.val (.ref o0)] []))
  refine own_st (fun t k => XS.aloadN X0.here hx rfl (hb hby own_d8_0) rfl rfl k) ?_
  show own_Run p e below s _ _ _ (s₁.setTop (mkF m 1 #[.val (.ref o0)] [(.ref o0)]))
  obtain ⟨T216, X216, e216, st216⟩ := getF X0 hx hZ hown (host := "") (Or.inl (hw _ (List.mem_of_getElem? (i := 55) rfl))) Via.refl e0 F_x (g := (mkF m 1 #[.val (.ref o0)] [(.ref o0)])) rfl rfl (hb hby own_d8_1)
  refine own_st st216 ?_
  show own_Run p e below s _ _ _ (T216.setTop (mkF m 4 #[.val (.ref o0)] [(.int x)]))
  exact own_ret X216 hx hlk (t := .int) hret rfl (Or.inl ⟨rfl, by simp, _, rfl⟩) (hb hby own_d8_4) (by decide) (by decide) ⟨rfl, N0, e216⟩
theorem own_d9_0 : decode prog_10_method_8_code 0 = .ok (.aload_n 0, 1) := by decide +kernel
theorem own_d9_1 : decode prog_10_method_8_code 1 = .ok (.getfield 20, 3) := by decide +kernel
theorem own_d9_4 : decode prog_10_method_8_code 4 = .ok (.ireturn, 1) := by decide +kernel
set_option maxHeartbeats 4000000 in
theorem own_ef9 (m : MethodId) (x0 : Addr) : entryFrame m #[(.ref x0)] 1 = mkF m 0 #[.val (.ref x0)] [] := by first | (simp [entryFrame, mkF, argsToLocals, Value.category]; done) | rfl
def own_Q9 (Z : State) (a0 : Array Value) (o0 : Addr) (x : Int32) (h0 : Heap) (n0 : Nat) (v : Option Value) (h : Heap) (L : List Loc) : Prop := v = some (.int x) ∧ Fr n0 L ∧ h = h0
set_option maxRecDepth 65536 in
set_option maxHeartbeats 40000000 in
theorem own_rm9 (l : Launch) (Z : State) (a0 : Array Value) (hw : ∀ d ∈ tables_1, d.before a0 Z = true) (ws : List Jvm.Cond) (o0 : Addr) (x : Int32) (h0 : Heap) (n0 : Nat) (Z0 : n0 ≤ h0.size) (F_x : Fld Z h0 o0 "com/example/kerb2d/kerb2d/engine/Measures" "waiting" "I" (.int x)) :
    MetFree l (⟨"com/example/kerb2d/kerb2d/engine/Measures", "waiting", "()I"⟩ : MethodName) (head1 (Jvm.Cond.code (⟨"com/example/kerb2d/kerb2d/engine/Measures", "waiting", "()I"⟩ : MethodName) prog_10_method_8_code 1 (some .int) :: ws) ({ frames := 0, cells := 0, slots := 0, locals := 0 } : Room)) (fun a U => a = #[(.ref o0)] ∧ Z.Warmed39 U.vm ∧ U.heap = h0) (fun _ _ _ _ _ => True) (fun _ U o U' => ∃ v L, o = .returned v ∧ own_Q9 Z a0 o0 x h0 n0 v U'.heap L ∧ FrameEnd U o U' L ({ frames := 0, cells := 0, slots := 0, locals := 0 } : Room).cells ({ frames := 0, cells := 0, slots := 0, locals := 0 } : Room).slots) := by
  refine own_body (Q := fun v h L => own_Q9 Z a0 o0 x h0 n0 v h L) (plainFor_of_name own_pn5) ?_
  intro p e s m below meth c s₁ hx hby hml hZ hown hnm hret hlk X0 e0
  replace hml : c.maxLocals = 1 := hml
  have N0 := Fr.nil n0
  have K0 : Keep h0 h0 [] := Keep.refl _ _
  refine own_st (fun t k => castTop (own_ef9 m o0) k) ?_
  show own_Run p e below s _ _ _ (s₁.setTop (mkF m 0 #[.val (.ref o0)] []))
  refine own_st (fun t k => XS.aloadN X0.here hx rfl (hb hby own_d9_0) rfl rfl k) ?_
  show own_Run p e below s _ _ _ (s₁.setTop (mkF m 1 #[.val (.ref o0)] [(.ref o0)]))
  obtain ⟨T217, X217, e217, st217⟩ := getF X0 hx hZ hown (host := "") (Or.inl (hw _ (List.mem_of_getElem? (i := 57) rfl))) Via.refl e0 F_x (g := (mkF m 1 #[.val (.ref o0)] [(.ref o0)])) rfl rfl (hb hby own_d9_1)
  refine own_st st217 ?_
  show own_Run p e below s _ _ _ (T217.setTop (mkF m 4 #[.val (.ref o0)] [(.int x)]))
  exact own_ret X217 hx hlk (t := .int) hret rfl (Or.inl ⟨rfl, by simp, _, rfl⟩) (hb hby own_d9_4) (by decide) (by decide) ⟨rfl, N0, e217⟩
theorem own_pd8 : parseMethodDescriptor "(DIDID)Lcom/example/kerb2d/kerb2d/engine/Measures;" = some ⟨[.double, .int, .double, .int, .double], some (.object "com/example/kerb2d/kerb2d/engine/Measures")⟩ := by decide +kernel
theorem own_pd9 : parseMethodDescriptor "()I" = some ⟨[], some .int⟩ := by decide +kernel
set_option maxRecDepth 65536 in
set_option maxHeartbeats 40000000 in
theorem own_tail (l : Launch) (Z : State) (a0 : Array Value) (hw : ∀ d ∈ tables_1, d.before a0 Z = true) {p : Program} {e : Env} {s : State} {m : MethodId} {args : Array Value} {below : List Frame} {meth : Method} {c : Code} (T0 : State) (locs : List Loc) (hx : p.tables.exec = Jvm.exec) (hby : c.code = code) (hml : c.maxLocals = 10) (hZ : Z.Warmed39 s.vm) (hown : s.vm.findClass "com/example/kerb2d/kerb2d/engine/TallyEnterPinLaw" = some m.cls) (hnm : meth.name = x.name) (hret : meth.sig.returnType = ret) (hlk : meth.locks = false) (te : Addr) (i0 : Int32) (a : Int32) (b : Int32) (cc : Int32) (bw : Addr) (bp : Addr) (pe : Int32) (we : Int32) (ew : Int32) (ep : Int32) (h0 : Heap) (n0 : Nat) (Z0 : n0 ≤ h0.size) (hs : Heap) (X0 : Stand p l e room_1 s m args below meth c T0 locs 2 18) (e0 : T0.heap = hs) (N0 : Fr n0 locs) (K0 : Keep h0 hs []) (O0 : Old Z n0 hs) (S_E : Sta Z Z.heap "java/util/OptionalDouble" "EMPTY" "Ljava/util/OptionalDouble;" (.ref te)) (E_w : Exa Z hs bw "com/example/kerb2d/kerb2d/engine/Tally") (G_w : n0 ≤ bw) (Z_w : h0.size ≤ bw) (wwh : Fld Z hs bw "com/example/kerb2d/kerb2d/engine/Tally" "whole" "Lcom/example/kerb2d/kerb2d/engine/Tally;" .null) (war : Fld Z hs bw "com/example/kerb2d/kerb2d/engine/Tally" "arrived" "I" (.int (0 : Int32))) (wen : Fld Z hs bw "com/example/kerb2d/kerb2d/engine/Tally" "entered" "I" (.int ew)) (wle : Fld Z hs bw "com/example/kerb2d/kerb2d/engine/Tally" "left" "I" (.int (0 : Int32))) (wde : Fld Z hs bw "com/example/kerb2d/kerb2d/engine/Tally" "delayed" "I" (.int (0 : Int32))) (wco : Fld Z hs bw "com/example/kerb2d/kerb2d/engine/Tally" "conflictSum" "J" (.long (0 : Int64))) (wfi : Fld Z hs bw "com/example/kerb2d/kerb2d/engine/Tally" "finished" "I" (.int (0 : Int32))) (wbo : Fld Z hs bw "com/example/kerb2d/kerb2d/engine/Tally" "boarded" "I" (.int (0 : Int32))) (E_p : Exa Z hs bp "com/example/kerb2d/kerb2d/engine/Tally") (G_p : n0 ≤ bp) (Z_p : h0.size ≤ bp) (pwh : Fld Z hs bp "com/example/kerb2d/kerb2d/engine/Tally" "whole" "Lcom/example/kerb2d/kerb2d/engine/Tally;" (.ref bw)) (par : Fld Z hs bp "com/example/kerb2d/kerb2d/engine/Tally" "arrived" "I" (.int (0 : Int32))) (pen : Fld Z hs bp "com/example/kerb2d/kerb2d/engine/Tally" "entered" "I" (.int ep)) (ple : Fld Z hs bp "com/example/kerb2d/kerb2d/engine/Tally" "left" "I" (.int (0 : Int32))) (pde : Fld Z hs bp "com/example/kerb2d/kerb2d/engine/Tally" "delayed" "I" (.int (0 : Int32))) (pco : Fld Z hs bp "com/example/kerb2d/kerb2d/engine/Tally" "conflictSum" "J" (.long (0 : Int64))) (pfi : Fld Z hs bp "com/example/kerb2d/kerb2d/engine/Tally" "finished" "I" (.int (0 : Int32))) (pbo : Fld Z hs bp "com/example/kerb2d/kerb2d/engine/Tally" "boarded" "I" (.int (0 : Int32))) (ne0 : bp ≠ bw) (hE : ew = we) (hX : ep = pe) :
    own_Run p e below s (fun v h L => v = some (.int 1) ∧ Fr n0 L) room_1.cells room_1.slots (T0.setTop (mkF m 118 #[.val (.int i0), .val (.int a), .val (.int b), .val (.int cc), .val (.ref bw), .val (.ref bp), .val (.int pe), .val (.int we), .unset, .unset] [])) := by
  show own_Run p e below s _ _ _ (T0.setTop (mkF m 118 #[.val (.int i0), .val (.int a), .val (.int b), .val (.int cc), .val (.ref bw), .val (.ref bp), .val (.int pe), .val (.int we), .unset, .unset] []))
  refine own_st (fun t k => XS.aload X0.here hx rfl (hb hby at_118) rfl rfl k) ?_
  show own_Run p e below s _ _ _ (T0.setTop (mkF m 120 #[.val (.int i0), .val (.int a), .val (.int b), .val (.int cc), .val (.ref bw), .val (.ref bp), .val (.int pe), .val (.int we), .unset, .unset] [(.ref bp)]))
  refine own_st (fun t k => XS.dconst0 X0.here hx rfl (hb hby at_120) (v := 0) rfl k) ?_
  show own_Run p e below s _ _ _ (T0.setTop (mkF m 121 #[.val (.int i0), .val (.int a), .val (.int b), .val (.int cc), .val (.ref bw), .val (.ref bp), .val (.int pe), .val (.int we), .unset, .unset] [(.double (0 : UInt64)), (.ref bp)]))
  refine own_st (fun t k => XS.iconst X0.here hx rfl (hb hby at_121) k) ?_
  show own_Run p e below s _ _ _ (T0.setTop (mkF m 122 #[.val (.int i0), .val (.int a), .val (.int b), .val (.int cc), .val (.ref bw), .val (.ref bp), .val (.int pe), .val (.int we), .unset, .unset] [(.int (0 : Int32)), (.double (0 : UInt64)), (.ref bp)]))
  refine own_st (fun t k => XS.dconst0 X0.here hx rfl (hb hby at_122) (v := 0) rfl k) ?_
  show own_Run p e below s _ _ _ (T0.setTop (mkF m 123 #[.val (.int i0), .val (.int a), .val (.int b), .val (.int cc), .val (.ref bw), .val (.ref bp), .val (.int pe), .val (.int we), .unset, .unset] [(.double (0 : UInt64)), (.int (0 : Int32)), (.double (0 : UInt64)), (.ref bp)]))
  refine own_st (fun t k => XS.iconst X0.here hx rfl (hb hby at_123) k) ?_
  show own_Run p e below s _ _ _ (T0.setTop (mkF m 124 #[.val (.int i0), .val (.int a), .val (.int b), .val (.int cc), .val (.ref bw), .val (.ref bp), .val (.int pe), .val (.int we), .unset, .unset] [(.int (0 : Int32)), (.double (0 : UInt64)), (.int (0 : Int32)), (.double (0 : UInt64)), (.ref bp)]))
  refine own_st (fun t k => XS.dconst1 X0.here hx rfl (hb hby at_124) (v := 4607182418800017408) rfl k) ?_
  show own_Run p e below s _ _ _ (T0.setTop (mkF m 125 #[.val (.int i0), .val (.int a), .val (.int b), .val (.int cc), .val (.ref bw), .val (.ref bp), .val (.int pe), .val (.int we), .unset, .unset] [(.double (4607182418800017408 : UInt64)), (.int (0 : Int32)), (.double (0 : UInt64)), (.int (0 : Int32)), (.double (0 : UInt64)), (.ref bp)]))
  refine own_callV X0 hx hZ (y := (⟨"com/example/kerb2d/kerb2d/engine/Tally", "measures", "(DIDID)Lcom/example/kerb2d/kerb2d/engine/Measures;"⟩ : MethodName)) (C := "com/example/kerb2d/kerb2d/engine/Tally") hown (hw _ (List.mem_of_getElem? (i := 15) rfl)) (hw _ (List.mem_of_getElem? (i := 16) rfl)) (hw _ (List.mem_of_getElem? (i := 18) rfl)) (hw _ (List.mem_of_getElem? (i := 17) rfl)) (hw _ (List.mem_of_getElem? (i := 19) rfl)) (hw _ (List.mem_of_getElem? (i := 2) rfl)) (by decide) e0 (a := bp) E_p (argsL := [(.double (0 : UInt64)), (.int (0 : Int32)), (.double (0 : UInt64)), (.int (0 : Int32)), (.double (4607182418800017408 : UInt64))]) (rest := []) (W := 0) (own_rm4 l Z a0 hw [] bp te (0 : Int32) ep hs n0 (Nat.le_trans Z0 K0.1) O0 S_E par pen ple pde pco pfi pbo) (by decide) (by decide) (by rw [hml]; rfl) (lenOf own_pd8 rfl) rfl (by exact Nat.le_of_eq rfl) (hb hby at_125) (by decide) (by decide) ?_
  intro T218 v218 L218 X218 hq218
  obtain ⟨b218, rfl, sz218, ge218, N218q, K218q, Q219, Q220, Q221, Q222⟩ := hq218
  have K223 : Keep h0 T218.heap [] := K0.trans K218q all0
  have O224 := O0.keep K218q all0
  have N218 := Fr.app N0 N218q
  show own_Run p e below s _ _ _ (T218.setTop (mkF m 128 #[.val (.int i0), .val (.int a), .val (.int b), .val (.int cc), .val (.ref bw), .val (.ref bp), .val (.int pe), .val (.int we), .unset, .unset] [(.ref b218)]))
  refine own_st (fun t k => XS.astore X218.here hx rfl (hb hby at_128) rfl rfl (l' := #[.val (.int i0), .val (.int a), .val (.int b), .val (.int cc), .val (.ref bw), .val (.ref bp), .val (.int pe), .val (.int we), .val (.ref b218), .unset]) rfl k) ?_
  show own_Run p e below s _ _ _ (T218.setTop (mkF m 130 #[.val (.int i0), .val (.int a), .val (.int b), .val (.int cc), .val (.ref bw), .val (.ref bp), .val (.int pe), .val (.int we), .val (.ref b218), .unset] []))
  refine own_st (fun t k => XS.aload X218.here hx rfl (hb hby at_130) rfl rfl k) ?_
  show own_Run p e below s _ _ _ (T218.setTop (mkF m 132 #[.val (.int i0), .val (.int a), .val (.int b), .val (.int cc), .val (.ref bw), .val (.ref bp), .val (.int pe), .val (.int we), .val (.ref b218), .unset] [(.ref bw)]))
  refine own_st (fun t k => XS.dconst0 X218.here hx rfl (hb hby at_132) (v := 0) rfl k) ?_
  show own_Run p e below s _ _ _ (T218.setTop (mkF m 133 #[.val (.int i0), .val (.int a), .val (.int b), .val (.int cc), .val (.ref bw), .val (.ref bp), .val (.int pe), .val (.int we), .val (.ref b218), .unset] [(.double (0 : UInt64)), (.ref bw)]))
  refine own_st (fun t k => XS.iconst X218.here hx rfl (hb hby at_133) k) ?_
  show own_Run p e below s _ _ _ (T218.setTop (mkF m 134 #[.val (.int i0), .val (.int a), .val (.int b), .val (.int cc), .val (.ref bw), .val (.ref bp), .val (.int pe), .val (.int we), .val (.ref b218), .unset] [(.int (0 : Int32)), (.double (0 : UInt64)), (.ref bw)]))
  refine own_st (fun t k => XS.dconst0 X218.here hx rfl (hb hby at_134) (v := 0) rfl k) ?_
  show own_Run p e below s _ _ _ (T218.setTop (mkF m 135 #[.val (.int i0), .val (.int a), .val (.int b), .val (.int cc), .val (.ref bw), .val (.ref bp), .val (.int pe), .val (.int we), .val (.ref b218), .unset] [(.double (0 : UInt64)), (.int (0 : Int32)), (.double (0 : UInt64)), (.ref bw)]))
  refine own_st (fun t k => XS.iconst X218.here hx rfl (hb hby at_135) k) ?_
  show own_Run p e below s _ _ _ (T218.setTop (mkF m 136 #[.val (.int i0), .val (.int a), .val (.int b), .val (.int cc), .val (.ref bw), .val (.ref bp), .val (.int pe), .val (.int we), .val (.ref b218), .unset] [(.int (0 : Int32)), (.double (0 : UInt64)), (.int (0 : Int32)), (.double (0 : UInt64)), (.ref bw)]))
  refine own_st (fun t k => XS.dconst1 X218.here hx rfl (hb hby at_136) (v := 4607182418800017408) rfl k) ?_
  show own_Run p e below s _ _ _ (T218.setTop (mkF m 137 #[.val (.int i0), .val (.int a), .val (.int b), .val (.int cc), .val (.ref bw), .val (.ref bp), .val (.int pe), .val (.int we), .val (.ref b218), .unset] [(.double (4607182418800017408 : UInt64)), (.int (0 : Int32)), (.double (0 : UInt64)), (.int (0 : Int32)), (.double (0 : UInt64)), (.ref bw)]))
  have F225 := (war.keep K218q nin0)
  have F226 := (wen.keep K218q nin0)
  have F227 := (wle.keep K218q nin0)
  have F228 := (wde.keep K218q nin0)
  have F229 := (wco.keep K218q nin0)
  have F230 := (wfi.keep K218q nin0)
  have F231 := (wbo.keep K218q nin0)
  have E233 := (E_w.keep K218q)
  refine own_callV X218 hx hZ (y := (⟨"com/example/kerb2d/kerb2d/engine/Tally", "measures", "(DIDID)Lcom/example/kerb2d/kerb2d/engine/Measures;"⟩ : MethodName)) (C := "com/example/kerb2d/kerb2d/engine/Tally") hown (hw _ (List.mem_of_getElem? (i := 15) rfl)) (hw _ (List.mem_of_getElem? (i := 16) rfl)) (hw _ (List.mem_of_getElem? (i := 18) rfl)) (hw _ (List.mem_of_getElem? (i := 17) rfl)) (hw _ (List.mem_of_getElem? (i := 19) rfl)) (hw _ (List.mem_of_getElem? (i := 2) rfl)) (by decide) rfl (a := bw) E233 (argsL := [(.double (0 : UInt64)), (.int (0 : Int32)), (.double (0 : UInt64)), (.int (0 : Int32)), (.double (4607182418800017408 : UInt64))]) (rest := []) (W := 0) (own_rm4 l Z a0 hw [] bw te (0 : Int32) ew T218.heap n0 (Nat.le_trans Z0 K223.1) O224 S_E F225 F226 F227 F228 F229 F230 F231) (by decide) (by decide) (by rw [hml]; rfl) (lenOf own_pd8 rfl) rfl (by exact Nat.le_of_eq rfl) (hb hby at_137) (by decide) (by decide) ?_
  intro T232 v232 L232 X232 hq232
  obtain ⟨b232, rfl, sz232, ge232, N232q, K232q, Q234, Q235, Q236, Q237⟩ := hq232
  have K238 : Keep h0 T232.heap [] := K223.trans K232q all0
  have O239 := O224.keep K232q all0
  have N232 := Fr.app N218 N232q
  show own_Run p e below s _ _ _ (T232.setTop (mkF m 140 #[.val (.int i0), .val (.int a), .val (.int b), .val (.int cc), .val (.ref bw), .val (.ref bp), .val (.int pe), .val (.int we), .val (.ref b218), .unset] [(.ref b232)]))
  refine own_st (fun t k => XS.astore X232.here hx rfl (hb hby at_140) rfl rfl (l' := #[.val (.int i0), .val (.int a), .val (.int b), .val (.int cc), .val (.ref bw), .val (.ref bp), .val (.int pe), .val (.int we), .val (.ref b218), .val (.ref b232)]) rfl k) ?_
  show own_Run p e below s _ _ _ (T232.setTop (mkF m 142 #[.val (.int i0), .val (.int a), .val (.int b), .val (.int cc), .val (.ref bw), .val (.ref bp), .val (.int pe), .val (.int we), .val (.ref b218), .val (.ref b232)] []))
  refine own_st (fun t k => XS.aload X232.here hx rfl (hb hby at_142) rfl rfl k) ?_
  show own_Run p e below s _ _ _ (T232.setTop (mkF m 144 #[.val (.int i0), .val (.int a), .val (.int b), .val (.int cc), .val (.ref bw), .val (.ref bp), .val (.int pe), .val (.int we), .val (.ref b218), .val (.ref b232)] [(.ref b218)]))
  have F240 := (Q221.keep K232q nin0)
  have E242 := (Q219.keep K232q)
  refine own_callV X232 hx hZ (y := (⟨"com/example/kerb2d/kerb2d/engine/Measures", "entered", "()I"⟩ : MethodName)) (C := "com/example/kerb2d/kerb2d/engine/Measures") hown (hw _ (List.mem_of_getElem? (i := 77) rfl)) (hw _ (List.mem_of_getElem? (i := 78) rfl)) (hw _ (List.mem_of_getElem? (i := 80) rfl)) (hw _ (List.mem_of_getElem? (i := 79) rfl)) (hw _ (List.mem_of_getElem? (i := 81) rfl)) (hw _ (List.mem_of_getElem? (i := 22) rfl)) (by decide) rfl (a := b218) E242 (argsL := []) (rest := []) (W := 0) (own_rm8 l Z a0 hw [] b218 ep T232.heap n0 (Nat.le_trans Z0 K238.1) F240) (by decide) (by decide) (by rw [hml]; rfl) (lenOf own_pd9 rfl) rfl (by exact Nat.le_of_eq rfl) (hb hby at_144) (by decide) (by decide) ?_
  intro T241 v241 L241 X241 hq241
  obtain ⟨rfl, N241q, hh241⟩ := hq241
  have N241 := Fr.app N232 N241q
  show own_Run p e below s _ _ _ (T241.setTop (mkF m 147 #[.val (.int i0), .val (.int a), .val (.int b), .val (.int cc), .val (.ref bw), .val (.ref bp), .val (.int pe), .val (.int we), .val (.ref b218), .val (.ref b232)] [(.int ep)]))
  refine own_st (fun t k => XS.iload X241.here hx rfl (hb hby at_147) rfl k) ?_
  show own_Run p e below s _ _ _ (T241.setTop (mkF m 149 #[.val (.int i0), .val (.int a), .val (.int b), .val (.int cc), .val (.ref bw), .val (.ref bp), .val (.int pe), .val (.int we), .val (.ref b218), .val (.ref b232)] [(.int pe), (.int ep)]))
  refine own_st (fun t k => XS.icmpNo X241.here hx rfl (hb hby at_149) rfl (teq (hX : ep = pe)).2 k) ?_
  show own_Run p e below s _ _ _ (T241.setTop (mkF m 152 #[.val (.int i0), .val (.int a), .val (.int b), .val (.int cc), .val (.ref bw), .val (.ref bp), .val (.int pe), .val (.int we), .val (.ref b218), .val (.ref b232)] []))
  refine own_st (fun t k => XS.aload X241.here hx rfl (hb hby at_152) rfl rfl k) ?_
  show own_Run p e below s _ _ _ (T241.setTop (mkF m 154 #[.val (.int i0), .val (.int a), .val (.int b), .val (.int cc), .val (.ref bw), .val (.ref bp), .val (.int pe), .val (.int we), .val (.ref b218), .val (.ref b232)] [(.ref b218)]))
  have F243 := (Q222.keep K232q nin0)
  refine own_callV X241 hx hZ (y := (⟨"com/example/kerb2d/kerb2d/engine/Measures", "waiting", "()I"⟩ : MethodName)) (C := "com/example/kerb2d/kerb2d/engine/Measures") hown (hw _ (List.mem_of_getElem? (i := 82) rfl)) (hw _ (List.mem_of_getElem? (i := 83) rfl)) (hw _ (List.mem_of_getElem? (i := 85) rfl)) (hw _ (List.mem_of_getElem? (i := 84) rfl)) (hw _ (List.mem_of_getElem? (i := 86) rfl)) (hw _ (List.mem_of_getElem? (i := 22) rfl)) (by decide) hh241 (a := b218) E242 (argsL := []) (rest := []) (W := 0) (own_rm9 l Z a0 hw [] b218 ((0 : Int32) - ep) T232.heap n0 (Nat.le_trans Z0 K238.1) F243) (by decide) (by decide) (by rw [hml]; rfl) (lenOf own_pd9 rfl) rfl (by exact Nat.le_of_eq rfl) (hb hby at_154) (by decide) (by decide) ?_
  intro T244 v244 L244 X244 hq244
  obtain ⟨rfl, N244q, hh244⟩ := hq244
  have N244 := Fr.app N241 N244q
  show own_Run p e below s _ _ _ (T244.setTop (mkF m 157 #[.val (.int i0), .val (.int a), .val (.int b), .val (.int cc), .val (.ref bw), .val (.ref bp), .val (.int pe), .val (.int we), .val (.ref b218), .val (.ref b232)] [(.int ((0 : Int32) - ep))]))
  refine own_st (fun t k => XS.iload X244.here hx rfl (hb hby at_157) rfl k) ?_
  show own_Run p e below s _ _ _ (T244.setTop (mkF m 159 #[.val (.int i0), .val (.int a), .val (.int b), .val (.int cc), .val (.ref bw), .val (.ref bp), .val (.int pe), .val (.int we), .val (.ref b218), .val (.ref b232)] [(.int pe), (.int ((0 : Int32) - ep))]))
  refine own_st (fun t k => XS.ineg X244.here hx rfl (hb hby at_159) rfl k) ?_
  show own_Run p e below s _ _ _ (T244.setTop (mkF m 160 #[.val (.int i0), .val (.int a), .val (.int b), .val (.int cc), .val (.ref bw), .val (.ref bp), .val (.int pe), .val (.int we), .val (.ref b218), .val (.ref b232)] [(.int (-pe)), (.int ((0 : Int32) - ep))]))
  refine own_st (fun t k => XS.icmpNo X244.here hx rfl (hb hby at_160) rfl (teq (by rw [hX]; exact Int32.zero_sub _ : ((0 : Int32) - ep) = (-pe))).2 k) ?_
  show own_Run p e below s _ _ _ (T244.setTop (mkF m 163 #[.val (.int i0), .val (.int a), .val (.int b), .val (.int cc), .val (.ref bw), .val (.ref bp), .val (.int pe), .val (.int we), .val (.ref b218), .val (.ref b232)] []))
  refine own_st (fun t k => XS.aload X244.here hx rfl (hb hby at_163) rfl rfl k) ?_
  show own_Run p e below s _ _ _ (T244.setTop (mkF m 165 #[.val (.int i0), .val (.int a), .val (.int b), .val (.int cc), .val (.ref bw), .val (.ref bp), .val (.int pe), .val (.int we), .val (.ref b218), .val (.ref b232)] [(.ref b232)]))
  refine own_callV X244 hx hZ (y := (⟨"com/example/kerb2d/kerb2d/engine/Measures", "entered", "()I"⟩ : MethodName)) (C := "com/example/kerb2d/kerb2d/engine/Measures") hown (hw _ (List.mem_of_getElem? (i := 77) rfl)) (hw _ (List.mem_of_getElem? (i := 78) rfl)) (hw _ (List.mem_of_getElem? (i := 80) rfl)) (hw _ (List.mem_of_getElem? (i := 79) rfl)) (hw _ (List.mem_of_getElem? (i := 81) rfl)) (hw _ (List.mem_of_getElem? (i := 22) rfl)) (by decide) hh244 (a := b232) Q234 (argsL := []) (rest := []) (W := 0) (own_rm8 l Z a0 hw [] b232 ew T232.heap n0 (Nat.le_trans Z0 K238.1) Q236) (by decide) (by decide) (by rw [hml]; rfl) (lenOf own_pd9 rfl) rfl (by exact Nat.le_of_eq rfl) (hb hby at_165) (by decide) (by decide) ?_
  intro T245 v245 L245 X245 hq245
  obtain ⟨rfl, N245q, hh245⟩ := hq245
  have N245 := Fr.app N244 N245q
  show own_Run p e below s _ _ _ (T245.setTop (mkF m 168 #[.val (.int i0), .val (.int a), .val (.int b), .val (.int cc), .val (.ref bw), .val (.ref bp), .val (.int pe), .val (.int we), .val (.ref b218), .val (.ref b232)] [(.int ew)]))
  refine own_st (fun t k => XS.iload X245.here hx rfl (hb hby at_168) rfl k) ?_
  show own_Run p e below s _ _ _ (T245.setTop (mkF m 170 #[.val (.int i0), .val (.int a), .val (.int b), .val (.int cc), .val (.ref bw), .val (.ref bp), .val (.int pe), .val (.int we), .val (.ref b218), .val (.ref b232)] [(.int we), (.int ew)]))
  refine own_st (fun t k => XS.icmpNo X245.here hx rfl (hb hby at_170) rfl (teq (hE : ew = we)).2 k) ?_
  show own_Run p e below s _ _ _ (T245.setTop (mkF m 173 #[.val (.int i0), .val (.int a), .val (.int b), .val (.int cc), .val (.ref bw), .val (.ref bp), .val (.int pe), .val (.int we), .val (.ref b218), .val (.ref b232)] []))
  refine own_st (fun t k => XS.aload X245.here hx rfl (hb hby at_173) rfl rfl k) ?_
  show own_Run p e below s _ _ _ (T245.setTop (mkF m 175 #[.val (.int i0), .val (.int a), .val (.int b), .val (.int cc), .val (.ref bw), .val (.ref bp), .val (.int pe), .val (.int we), .val (.ref b218), .val (.ref b232)] [(.ref b232)]))
  refine own_callV X245 hx hZ (y := (⟨"com/example/kerb2d/kerb2d/engine/Measures", "waiting", "()I"⟩ : MethodName)) (C := "com/example/kerb2d/kerb2d/engine/Measures") hown (hw _ (List.mem_of_getElem? (i := 82) rfl)) (hw _ (List.mem_of_getElem? (i := 83) rfl)) (hw _ (List.mem_of_getElem? (i := 85) rfl)) (hw _ (List.mem_of_getElem? (i := 84) rfl)) (hw _ (List.mem_of_getElem? (i := 86) rfl)) (hw _ (List.mem_of_getElem? (i := 22) rfl)) (by decide) hh245 (a := b232) Q234 (argsL := []) (rest := []) (W := 0) (own_rm9 l Z a0 hw [] b232 ((0 : Int32) - ew) T232.heap n0 (Nat.le_trans Z0 K238.1) Q237) (by decide) (by decide) (by rw [hml]; rfl) (lenOf own_pd9 rfl) rfl (by exact Nat.le_of_eq rfl) (hb hby at_175) (by decide) (by decide) ?_
  intro T246 v246 L246 X246 hq246
  obtain ⟨rfl, N246q, hh246⟩ := hq246
  have N246 := Fr.app N245 N246q
  show own_Run p e below s _ _ _ (T246.setTop (mkF m 178 #[.val (.int i0), .val (.int a), .val (.int b), .val (.int cc), .val (.ref bw), .val (.ref bp), .val (.int pe), .val (.int we), .val (.ref b218), .val (.ref b232)] [(.int ((0 : Int32) - ew))]))
  refine own_st (fun t k => XS.iload X246.here hx rfl (hb hby at_178) rfl k) ?_
  show own_Run p e below s _ _ _ (T246.setTop (mkF m 180 #[.val (.int i0), .val (.int a), .val (.int b), .val (.int cc), .val (.ref bw), .val (.ref bp), .val (.int pe), .val (.int we), .val (.ref b218), .val (.ref b232)] [(.int we), (.int ((0 : Int32) - ew))]))
  refine own_st (fun t k => XS.ineg X246.here hx rfl (hb hby at_180) rfl k) ?_
  show own_Run p e below s _ _ _ (T246.setTop (mkF m 181 #[.val (.int i0), .val (.int a), .val (.int b), .val (.int cc), .val (.ref bw), .val (.ref bp), .val (.int pe), .val (.int we), .val (.ref b218), .val (.ref b232)] [(.int (-we)), (.int ((0 : Int32) - ew))]))
  refine own_st (fun t k => XS.icmpNo X246.here hx rfl (hb hby at_181) rfl (teq (by rw [hE]; exact Int32.zero_sub _ : ((0 : Int32) - ew) = (-we))).2 k) ?_
  show own_Run p e below s _ _ _ (T246.setTop (mkF m 184 #[.val (.int i0), .val (.int a), .val (.int b), .val (.int cc), .val (.ref bw), .val (.ref bp), .val (.int pe), .val (.int we), .val (.ref b218), .val (.ref b232)] []))
  refine own_st (fun t k => XS.iconst X246.here hx rfl (hb hby at_184) k) ?_
  show own_Run p e below s _ _ _ (T246.setTop (mkF m 185 #[.val (.int i0), .val (.int a), .val (.int b), .val (.int cc), .val (.ref bw), .val (.ref bp), .val (.int pe), .val (.int we), .val (.ref b218), .val (.ref b232)] [(.int (1 : Int32))]))
  refine own_st (fun t k => XS.goto X246.here hx rfl (pc0 := 185) (pc' := 189) rfl (hb hby at_185) (by decide) (by decide) k) ?_
  show own_Run p e below s _ _ _ (T246.setTop (mkF m 189 #[.val (.int i0), .val (.int a), .val (.int b), .val (.int cc), .val (.ref bw), .val (.ref bp), .val (.int pe), .val (.int we), .val (.ref b218), .val (.ref b232)] [(.int (1 : Int32))]))
  exact own_ret X246 hx hlk (t := .boolean) hret rfl (Or.inl ⟨rfl, by simp, _, rfl⟩) (hb hby at_189) (by decide) (by decide) ⟨rfl, N246⟩
set_option maxHeartbeats 4000000 in
theorem own_ef0 (m : MethodId) (x0 : Int32) : entryFrame m #[(.int x0)] maxLocals = mkF m 0 #[.val (.int x0), .unset, .unset, .unset, .unset, .unset, .unset, .unset, .unset, .unset] [] := by first | (simp [entryFrame, mkF, argsToLocals, Value.category, maxLocals]; done) | rfl
theorem own_pn10 : plainName "com/example/kerb2d/kerb2d/engine/TallyEnterPinLaw" = true := by first | (simp [plainName, overriddenIn]; done) | decide +kernel
def own_Q0 (Z : State) (a0 : Array Value) (i0 : Int32) (te : Addr) (h0 : Heap) (n0 : Nat) (v : Option Value) (h : Heap) (L : List Loc) : Prop := v = some (.int 1) ∧ Fr n0 L
set_option maxRecDepth 65536 in
set_option maxHeartbeats 40000000 in
theorem own_rm0 (l : Launch) (Z : State) (a0 : Array Value) (hw : ∀ d ∈ tables_1, d.before a0 Z = true) (ws : List Jvm.Cond) (i0 : Int32) (te : Addr) (h0 : Heap) (n0 : Nat) (Z0 : n0 ≤ h0.size) (O0 : Old Z n0 h0) (S_E : Sta Z Z.heap "java/util/OptionalDouble" "EMPTY" "Ljava/util/OptionalDouble;" (.ref te)) :
    MetFree l x (head1 (Jvm.Cond.code x code maxLocals ret :: ws) room_1) (fun a U => a = #[(.int i0)] ∧ Z.Warmed39 U.vm ∧ U.heap = h0) (fun _ _ _ _ _ => True) (fun _ U o U' => ∃ v L, o = .returned v ∧ own_Q0 Z a0 i0 te h0 n0 v U'.heap L ∧ FrameEnd U o U' L room_1.cells room_1.slots) := by
  refine own_body (Q := fun v h L => own_Q0 Z a0 i0 te h0 n0 v h L) (plainFor_of_name own_pn10) ?_
  intro p e s m below meth c s₁ hx hby hml hZ hown hnm hret hlk X0 e0
  replace hml : c.maxLocals = 10 := hml
  replace hown : s.vm.findClass "com/example/kerb2d/kerb2d/engine/TallyEnterPinLaw" = some m.cls := hown
  have N0 := Fr.nil n0
  have K0 : Keep h0 h0 [] := Keep.refl _ _
  refine own_st (fun t k => castTop (own_ef0 m i0) k) ?_
  show own_Run p e below s _ _ _ (s₁.setTop (mkF m 0 #[.val (.int i0), .unset, .unset, .unset, .unset, .unset, .unset, .unset, .unset, .unset] []))
  refine own_st (fun t k => XS.iloadN X0.here hx rfl (hb hby at_0) rfl k) ?_
  show own_Run p e below s _ _ _ (s₁.setTop (mkF m 1 #[.val (.int i0), .unset, .unset, .unset, .unset, .unset, .unset, .unset, .unset, .unset] [(.int i0)]))
  refine own_st (fun t k => XS.iconst X0.here hx rfl (hb hby at_1) k) ?_
  show own_Run p e below s _ _ _ (s₁.setTop (mkF m 2 #[.val (.int i0), .unset, .unset, .unset, .unset, .unset, .unset, .unset, .unset, .unset] [(.int (1 : Int32)), (.int i0)]))
  refine own_st (fun t k => XS.iand X0.here hx rfl (hb hby at_2) rfl k) ?_
  show own_Run p e below s _ _ _ (s₁.setTop (mkF m 3 #[.val (.int i0), .unset, .unset, .unset, .unset, .unset, .unset, .unset, .unset, .unset] [(.int (i0 &&& (1 : Int32)))]))
  by_cases hc247 : (i0 &&& (1 : Int32)) = (0 : Int32)
  · skip
    refine own_st (fun t k => XS.ifYes X0.here hx rfl (pc0 := 3) (pc' := 10) rfl (hb hby at_3) rfl ((if0 _ _).trans (teq (hc247 : (i0 &&& (1 : Int32)) = (0 : Int32))).1) (by decide) (by decide) k) ?_
    show own_Run p e below s _ _ _ (s₁.setTop (mkF m 10 #[.val (.int i0), .unset, .unset, .unset, .unset, .unset, .unset, .unset, .unset, .unset] []))
    refine own_st (fun t k => XS.iconst X0.here hx rfl (hb hby at_10) k) ?_
    show own_Run p e below s _ _ _ (s₁.setTop (mkF m 11 #[.val (.int i0), .unset, .unset, .unset, .unset, .unset, .unset, .unset, .unset, .unset] [(.int (0 : Int32))]))
    refine own_st (fun t k => XS.istoreN X0.here hx rfl (hb hby at_11) rfl (l' := #[.val (.int i0), .val (.int (0 : Int32)), .unset, .unset, .unset, .unset, .unset, .unset, .unset, .unset]) rfl k) ?_
    show own_Run p e below s _ _ _ (s₁.setTop (mkF m 12 #[.val (.int i0), .val (.int (0 : Int32)), .unset, .unset, .unset, .unset, .unset, .unset, .unset, .unset] []))
    refine own_st (fun t k => XS.iloadN X0.here hx rfl (hb hby at_12) rfl k) ?_
    show own_Run p e below s _ _ _ (s₁.setTop (mkF m 13 #[.val (.int i0), .val (.int (0 : Int32)), .unset, .unset, .unset, .unset, .unset, .unset, .unset, .unset] [(.int i0)]))
    refine own_st (fun t k => XS.iconst X0.here hx rfl (hb hby at_13) k) ?_
    show own_Run p e below s _ _ _ (s₁.setTop (mkF m 14 #[.val (.int i0), .val (.int (0 : Int32)), .unset, .unset, .unset, .unset, .unset, .unset, .unset, .unset] [(.int (2 : Int32)), (.int i0)]))
    refine own_st (fun t k => XS.iand X0.here hx rfl (hb hby at_14) rfl k) ?_
    show own_Run p e below s _ _ _ (s₁.setTop (mkF m 15 #[.val (.int i0), .val (.int (0 : Int32)), .unset, .unset, .unset, .unset, .unset, .unset, .unset, .unset] [(.int (i0 &&& (2 : Int32)))]))
    by_cases hc248 : (i0 &&& (2 : Int32)) = (0 : Int32)
    · skip
      refine own_st (fun t k => XS.ifYes X0.here hx rfl (pc0 := 15) (pc' := 22) rfl (hb hby at_15) rfl ((if0 _ _).trans (teq (hc248 : (i0 &&& (2 : Int32)) = (0 : Int32))).1) (by decide) (by decide) k) ?_
      show own_Run p e below s _ _ _ (s₁.setTop (mkF m 22 #[.val (.int i0), .val (.int (0 : Int32)), .unset, .unset, .unset, .unset, .unset, .unset, .unset, .unset] []))
      refine own_st (fun t k => XS.iconst X0.here hx rfl (hb hby at_22) k) ?_
      show own_Run p e below s _ _ _ (s₁.setTop (mkF m 23 #[.val (.int i0), .val (.int (0 : Int32)), .unset, .unset, .unset, .unset, .unset, .unset, .unset, .unset] [(.int (0 : Int32))]))
      refine own_st (fun t k => XS.istoreN X0.here hx rfl (hb hby at_23) rfl (l' := #[.val (.int i0), .val (.int (0 : Int32)), .val (.int (0 : Int32)), .unset, .unset, .unset, .unset, .unset, .unset, .unset]) rfl k) ?_
      show own_Run p e below s _ _ _ (s₁.setTop (mkF m 24 #[.val (.int i0), .val (.int (0 : Int32)), .val (.int (0 : Int32)), .unset, .unset, .unset, .unset, .unset, .unset, .unset] []))
      refine own_st (fun t k => XS.iloadN X0.here hx rfl (hb hby at_24) rfl k) ?_
      show own_Run p e below s _ _ _ (s₁.setTop (mkF m 25 #[.val (.int i0), .val (.int (0 : Int32)), .val (.int (0 : Int32)), .unset, .unset, .unset, .unset, .unset, .unset, .unset] [(.int i0)]))
      refine own_st (fun t k => XS.iconst X0.here hx rfl (hb hby at_25) k) ?_
      show own_Run p e below s _ _ _ (s₁.setTop (mkF m 26 #[.val (.int i0), .val (.int (0 : Int32)), .val (.int (0 : Int32)), .unset, .unset, .unset, .unset, .unset, .unset, .unset] [(.int (4 : Int32)), (.int i0)]))
      refine own_st (fun t k => XS.iand X0.here hx rfl (hb hby at_26) rfl k) ?_
      show own_Run p e below s _ _ _ (s₁.setTop (mkF m 27 #[.val (.int i0), .val (.int (0 : Int32)), .val (.int (0 : Int32)), .unset, .unset, .unset, .unset, .unset, .unset, .unset] [(.int (i0 &&& (4 : Int32)))]))
      by_cases hc249 : (i0 &&& (4 : Int32)) = (0 : Int32)
      · skip
        refine own_st (fun t k => XS.ifYes X0.here hx rfl (pc0 := 27) (pc' := 34) rfl (hb hby at_27) rfl ((if0 _ _).trans (teq (hc249 : (i0 &&& (4 : Int32)) = (0 : Int32))).1) (by decide) (by decide) k) ?_
        show own_Run p e below s _ _ _ (s₁.setTop (mkF m 34 #[.val (.int i0), .val (.int (0 : Int32)), .val (.int (0 : Int32)), .unset, .unset, .unset, .unset, .unset, .unset, .unset] []))
        refine own_st (fun t k => XS.iconst X0.here hx rfl (hb hby at_34) k) ?_
        show own_Run p e below s _ _ _ (s₁.setTop (mkF m 35 #[.val (.int i0), .val (.int (0 : Int32)), .val (.int (0 : Int32)), .unset, .unset, .unset, .unset, .unset, .unset, .unset] [(.int (0 : Int32))]))
        refine own_st (fun t k => XS.istoreN X0.here hx rfl (hb hby at_35) rfl (l' := #[.val (.int i0), .val (.int (0 : Int32)), .val (.int (0 : Int32)), .val (.int (0 : Int32)), .unset, .unset, .unset, .unset, .unset, .unset]) rfl k) ?_
        show own_Run p e below s _ _ _ (s₁.setTop (mkF m 36 #[.val (.int i0), .val (.int (0 : Int32)), .val (.int (0 : Int32)), .val (.int (0 : Int32)), .unset, .unset, .unset, .unset, .unset, .unset] []))
        obtain ⟨T250, h250, X250, e250, E250, A250, D250, -, st250⟩ := newO X0 hx hZ hown (hw _ (List.mem_of_getElem? (i := 0) rfl)) (hw _ (List.mem_of_getElem? (i := 1) rfl)) (hw _ (List.mem_of_getElem? (i := 2) rfl)) e0 (g := (mkF m 36 #[.val (.int i0), .val (.int (0 : Int32)), .val (.int (0 : Int32)), .val (.int (0 : Int32)), .unset, .unset, .unset, .unset, .unset, .unset] [])) rfl (hb hby at_36) (by decide) (by decide)
        obtain ⟨b250, g250⟩ : ∃ z, z = h0.size := ⟨_, rfl⟩
        rw [← g250] at A250 D250 st250
        have sz251 : h0.size ≤ b250 := Nat.le_trans K0.1 (Nat.le_of_eq g250.symm)
        have ge252 : n0 ≤ b250 := Nat.le_trans Z0 sz251
        refine own_st st250 ?_
        have K253 : Keep h0 h250 [] := K0.ext E250
        have O254 := O0.ext E250
        show own_Run p e below s _ _ _ (T250.setTop (mkF m 39 #[.val (.int i0), .val (.int (0 : Int32)), .val (.int (0 : Int32)), .val (.int (0 : Int32)), .unset, .unset, .unset, .unset, .unset, .unset] [(.ref b250)]))
        refine own_st (fun t k => XS.dup X250.here hx rfl (hb hby at_39) rfl rfl k) ?_
        show own_Run p e below s _ _ _ (T250.setTop (mkF m 40 #[.val (.int i0), .val (.int (0 : Int32)), .val (.int (0 : Int32)), .val (.int (0 : Int32)), .unset, .unset, .unset, .unset, .unset, .unset] [(.ref b250), (.ref b250)]))
        refine own_callI X250 hx hZ (y := (⟨"com/example/kerb2d/kerb2d/engine/Tally", "<init>", "()V"⟩ : MethodName)) rfl hown (hw _ (List.mem_of_getElem? (i := 3) rfl)) (hw _ (List.mem_of_getElem? (i := 4) rfl)) (hw _ (List.mem_of_getElem? (i := 5) rfl)) (hw _ (List.mem_of_getElem? (i := 2) rfl)) (by decide) e250 (a := b250) (argsL := []) (rest := [(.ref b250)]) (W := 1) (own_rm1 l Z a0 hw [] b250 h250 n0 (Nat.le_trans Z0 K253.1) A250 D250 ge252) (by decide) (by decide) (by rw [hml]; rfl) (lenOf own_pd2 rfl) rfl (by exact Nat.le_of_eq rfl) (hb hby at_40) (by decide) (by decide) ?_
        intro T255 v255 L255 X255 hq255
        obtain ⟨rfl, N255q, K255q, Q256, Q257, Q258, Q259, Q260, Q261, Q262, Q263, Q264⟩ := hq255
        have K265 : Keep h0 T255.heap [] := K253.trans K255q (allS (Or.inr sz251) all0)
        have O266 := O254.keep K255q (allS ge252 all0)
        have N255 := Fr.app N0 N255q
        show own_Run p e below s _ _ _ (T255.setTop (mkF m 43 #[.val (.int i0), .val (.int (0 : Int32)), .val (.int (0 : Int32)), .val (.int (0 : Int32)), .unset, .unset, .unset, .unset, .unset, .unset] [(.ref b250)]))
        refine own_st (fun t k => XS.astore X255.here hx rfl (hb hby at_43) rfl rfl (l' := #[.val (.int i0), .val (.int (0 : Int32)), .val (.int (0 : Int32)), .val (.int (0 : Int32)), .val (.ref b250), .unset, .unset, .unset, .unset, .unset]) rfl k) ?_
        show own_Run p e below s _ _ _ (T255.setTop (mkF m 45 #[.val (.int i0), .val (.int (0 : Int32)), .val (.int (0 : Int32)), .val (.int (0 : Int32)), .val (.ref b250), .unset, .unset, .unset, .unset, .unset] []))
        obtain ⟨T267, h267, X267, e267, E267, A267, D267, -, st267⟩ := newO X255 hx hZ hown (hw _ (List.mem_of_getElem? (i := 0) rfl)) (hw _ (List.mem_of_getElem? (i := 1) rfl)) (hw _ (List.mem_of_getElem? (i := 2) rfl)) rfl (g := (mkF m 45 #[.val (.int i0), .val (.int (0 : Int32)), .val (.int (0 : Int32)), .val (.int (0 : Int32)), .val (.ref b250), .unset, .unset, .unset, .unset, .unset] [])) rfl (hb hby at_45) (by decide) (by decide)
        obtain ⟨b267, g267⟩ : ∃ z, z = T255.heap.size := ⟨_, rfl⟩
        rw [← g267] at A267 D267 st267
        have sz268 : h0.size ≤ b267 := Nat.le_trans K265.1 (Nat.le_of_eq g267.symm)
        have ge269 : n0 ≤ b267 := Nat.le_trans Z0 sz268
        refine own_st st267 ?_
        have K270 : Keep h0 h267 [] := K265.ext E267
        have O271 := O266.ext E267
        show own_Run p e below s _ _ _ (T267.setTop (mkF m 48 #[.val (.int i0), .val (.int (0 : Int32)), .val (.int (0 : Int32)), .val (.int (0 : Int32)), .val (.ref b250), .unset, .unset, .unset, .unset, .unset] [(.ref b267)]))
        refine own_st (fun t k => XS.dup X267.here hx rfl (hb hby at_48) rfl rfl k) ?_
        show own_Run p e below s _ _ _ (T267.setTop (mkF m 49 #[.val (.int i0), .val (.int (0 : Int32)), .val (.int (0 : Int32)), .val (.int (0 : Int32)), .val (.ref b250), .unset, .unset, .unset, .unset, .unset] [(.ref b267), (.ref b267)]))
        refine own_st (fun t k => XS.aload X267.here hx rfl (hb hby at_49) rfl rfl k) ?_
        show own_Run p e below s _ _ _ (T267.setTop (mkF m 51 #[.val (.int i0), .val (.int (0 : Int32)), .val (.int (0 : Int32)), .val (.int (0 : Int32)), .val (.ref b250), .unset, .unset, .unset, .unset, .unset] [(.ref b250), (.ref b267), (.ref b267)]))
        refine own_callI X267 hx hZ (y := (⟨"com/example/kerb2d/kerb2d/engine/Tally", "<init>", "(Lcom/example/kerb2d/kerb2d/engine/Tally;)V"⟩ : MethodName)) rfl hown (hw _ (List.mem_of_getElem? (i := 14) rfl)) (hw _ (List.mem_of_getElem? (i := 7) rfl)) (hw _ (List.mem_of_getElem? (i := 8) rfl)) (hw _ (List.mem_of_getElem? (i := 2) rfl)) (by decide) e267 (a := b267) (argsL := [(.ref b250)]) (rest := [(.ref b267)]) (W := 1) (own_rm2R l Z a0 hw [] b267 b250 h267 n0 (Nat.le_trans Z0 K270.1) A267 D267 ge269) (by decide) (by decide) (by rw [hml]; rfl) (lenOf own_pd1 rfl) rfl (by exact Nat.le_of_eq rfl) (hb hby at_51) (by decide) (by decide) ?_
        intro T272 v272 L272 X272 hq272
        obtain ⟨rfl, N272q, K272q, Q273, Q274, Q275, Q276, Q277, Q278, Q279, Q280, Q281⟩ := hq272
        have K282 : Keep h0 T272.heap [] := K270.trans K272q (allS (Or.inr sz268) all0)
        have O283 := O271.keep K272q (allS ge269 all0)
        have N272 := Fr.app N255 N272q
        show own_Run p e below s _ _ _ (T272.setTop (mkF m 54 #[.val (.int i0), .val (.int (0 : Int32)), .val (.int (0 : Int32)), .val (.int (0 : Int32)), .val (.ref b250), .unset, .unset, .unset, .unset, .unset] [(.ref b267)]))
        refine own_st (fun t k => XS.astore X272.here hx rfl (hb hby at_54) rfl rfl (l' := #[.val (.int i0), .val (.int (0 : Int32)), .val (.int (0 : Int32)), .val (.int (0 : Int32)), .val (.ref b250), .val (.ref b267), .unset, .unset, .unset, .unset]) rfl k) ?_
        show own_Run p e below s _ _ _ (T272.setTop (mkF m 56 #[.val (.int i0), .val (.int (0 : Int32)), .val (.int (0 : Int32)), .val (.int (0 : Int32)), .val (.ref b250), .val (.ref b267), .unset, .unset, .unset, .unset] []))
        refine own_st (fun t k => XS.iloadN X272.here hx rfl (hb hby at_56) rfl k) ?_
        show own_Run p e below s _ _ _ (T272.setTop (mkF m 57 #[.val (.int i0), .val (.int (0 : Int32)), .val (.int (0 : Int32)), .val (.int (0 : Int32)), .val (.ref b250), .val (.ref b267), .unset, .unset, .unset, .unset] [(.int (0 : Int32))]))
        refine own_st (fun t k => XS.ifYes X272.here hx rfl (pc0 := 57) (pc' := 65) rfl (hb hby at_57) rfl ((if0 _ _).trans (teq (by decide : (0 : Int32) = (0 : Int32))).1) (by decide) (by decide) k) ?_
        show own_Run p e below s _ _ _ (T272.setTop (mkF m 65 #[.val (.int i0), .val (.int (0 : Int32)), .val (.int (0 : Int32)), .val (.int (0 : Int32)), .val (.ref b250), .val (.ref b267), .unset, .unset, .unset, .unset] []))
        refine own_st (fun t k => XS.iloadN X272.here hx rfl (hb hby at_65) rfl k) ?_
        show own_Run p e below s _ _ _ (T272.setTop (mkF m 66 #[.val (.int i0), .val (.int (0 : Int32)), .val (.int (0 : Int32)), .val (.int (0 : Int32)), .val (.ref b250), .val (.ref b267), .unset, .unset, .unset, .unset] [(.int (0 : Int32))]))
        refine own_st (fun t k => XS.ifYes X272.here hx rfl (pc0 := 66) (pc' := 74) rfl (hb hby at_66) rfl ((if0 _ _).trans (teq (by decide : (0 : Int32) = (0 : Int32))).1) (by decide) (by decide) k) ?_
        show own_Run p e below s _ _ _ (T272.setTop (mkF m 74 #[.val (.int i0), .val (.int (0 : Int32)), .val (.int (0 : Int32)), .val (.int (0 : Int32)), .val (.ref b250), .val (.ref b267), .unset, .unset, .unset, .unset] []))
        refine own_st (fun t k => XS.iloadN X272.here hx rfl (hb hby at_74) rfl k) ?_
        show own_Run p e below s _ _ _ (T272.setTop (mkF m 75 #[.val (.int i0), .val (.int (0 : Int32)), .val (.int (0 : Int32)), .val (.int (0 : Int32)), .val (.ref b250), .val (.ref b267), .unset, .unset, .unset, .unset] [(.int (0 : Int32))]))
        refine own_st (fun t k => XS.ifYes X272.here hx rfl (pc0 := 75) (pc' := 83) rfl (hb hby at_75) rfl ((if0 _ _).trans (teq (by decide : (0 : Int32) = (0 : Int32))).1) (by decide) (by decide) k) ?_
        show own_Run p e below s _ _ _ (T272.setTop (mkF m 83 #[.val (.int i0), .val (.int (0 : Int32)), .val (.int (0 : Int32)), .val (.int (0 : Int32)), .val (.ref b250), .val (.ref b267), .unset, .unset, .unset, .unset] []))
        refine own_st (fun t k => XS.iloadN X272.here hx rfl (hb hby at_83) rfl k) ?_
        show own_Run p e below s _ _ _ (T272.setTop (mkF m 84 #[.val (.int i0), .val (.int (0 : Int32)), .val (.int (0 : Int32)), .val (.int (0 : Int32)), .val (.ref b250), .val (.ref b267), .unset, .unset, .unset, .unset] [(.int (0 : Int32))]))
        refine own_st (fun t k => XS.ifYes X272.here hx rfl (pc0 := 84) (pc' := 91) rfl (hb hby at_84) rfl ((if0 _ _).trans (teq (by decide : (0 : Int32) = (0 : Int32))).1) (by decide) (by decide) k) ?_
        show own_Run p e below s _ _ _ (T272.setTop (mkF m 91 #[.val (.int i0), .val (.int (0 : Int32)), .val (.int (0 : Int32)), .val (.int (0 : Int32)), .val (.ref b250), .val (.ref b267), .unset, .unset, .unset, .unset] []))
        refine own_st (fun t k => XS.iconst X272.here hx rfl (hb hby at_91) k) ?_
        show own_Run p e below s _ _ _ (T272.setTop (mkF m 92 #[.val (.int i0), .val (.int (0 : Int32)), .val (.int (0 : Int32)), .val (.int (0 : Int32)), .val (.ref b250), .val (.ref b267), .unset, .unset, .unset, .unset] [(.int (0 : Int32))]))
        refine own_st (fun t k => XS.iloadN X272.here hx rfl (hb hby at_92) rfl k) ?_
        show own_Run p e below s _ _ _ (T272.setTop (mkF m 93 #[.val (.int i0), .val (.int (0 : Int32)), .val (.int (0 : Int32)), .val (.int (0 : Int32)), .val (.ref b250), .val (.ref b267), .unset, .unset, .unset, .unset] [(.int (0 : Int32)), (.int (0 : Int32))]))
        refine own_st (fun t k => XS.ifYes X272.here hx rfl (pc0 := 93) (pc' := 100) rfl (hb hby at_93) rfl ((if0 _ _).trans (teq (by decide : (0 : Int32) = (0 : Int32))).1) (by decide) (by decide) k) ?_
        show own_Run p e below s _ _ _ (T272.setTop (mkF m 100 #[.val (.int i0), .val (.int (0 : Int32)), .val (.int (0 : Int32)), .val (.int (0 : Int32)), .val (.ref b250), .val (.ref b267), .unset, .unset, .unset, .unset] [(.int (0 : Int32))]))
        refine own_st (fun t k => XS.iconst X272.here hx rfl (hb hby at_100) k) ?_
        show own_Run p e below s _ _ _ (T272.setTop (mkF m 101 #[.val (.int i0), .val (.int (0 : Int32)), .val (.int (0 : Int32)), .val (.int (0 : Int32)), .val (.ref b250), .val (.ref b267), .unset, .unset, .unset, .unset] [(.int (0 : Int32)), (.int (0 : Int32))]))
        refine own_st (fun t k => XS.iadd X272.here hx rfl (hb hby at_101) rfl k) ?_
        show own_Run p e below s _ _ _ (T272.setTop (mkF m 102 #[.val (.int i0), .val (.int (0 : Int32)), .val (.int (0 : Int32)), .val (.int (0 : Int32)), .val (.ref b250), .val (.ref b267), .unset, .unset, .unset, .unset] [(.int ((0 : Int32) + (0 : Int32)))]))
        refine own_st (fun t k => XS.istore X272.here hx rfl (hb hby at_102) rfl (l' := #[.val (.int i0), .val (.int (0 : Int32)), .val (.int (0 : Int32)), .val (.int (0 : Int32)), .val (.ref b250), .val (.ref b267), .val (.int ((0 : Int32) + (0 : Int32))), .unset, .unset, .unset]) rfl k) ?_
        show own_Run p e below s _ _ _ (T272.setTop (mkF m 104 #[.val (.int i0), .val (.int (0 : Int32)), .val (.int (0 : Int32)), .val (.int (0 : Int32)), .val (.ref b250), .val (.ref b267), .val (.int ((0 : Int32) + (0 : Int32))), .unset, .unset, .unset] []))
        refine own_st (fun t k => XS.iload X272.here hx rfl (hb hby at_104) rfl k) ?_
        show own_Run p e below s _ _ _ (T272.setTop (mkF m 106 #[.val (.int i0), .val (.int (0 : Int32)), .val (.int (0 : Int32)), .val (.int (0 : Int32)), .val (.ref b250), .val (.ref b267), .val (.int ((0 : Int32) + (0 : Int32))), .unset, .unset, .unset] [(.int ((0 : Int32) + (0 : Int32)))]))
        refine own_st (fun t k => XS.iloadN X272.here hx rfl (hb hby at_106) rfl k) ?_
        show own_Run p e below s _ _ _ (T272.setTop (mkF m 107 #[.val (.int i0), .val (.int (0 : Int32)), .val (.int (0 : Int32)), .val (.int (0 : Int32)), .val (.ref b250), .val (.ref b267), .val (.int ((0 : Int32) + (0 : Int32))), .unset, .unset, .unset] [(.int (0 : Int32)), (.int ((0 : Int32) + (0 : Int32)))]))
        refine own_st (fun t k => XS.ifYes X272.here hx rfl (pc0 := 107) (pc' := 114) rfl (hb hby at_107) rfl ((if0 _ _).trans (teq (by decide : (0 : Int32) = (0 : Int32))).1) (by decide) (by decide) k) ?_
        show own_Run p e below s _ _ _ (T272.setTop (mkF m 114 #[.val (.int i0), .val (.int (0 : Int32)), .val (.int (0 : Int32)), .val (.int (0 : Int32)), .val (.ref b250), .val (.ref b267), .val (.int ((0 : Int32) + (0 : Int32))), .unset, .unset, .unset] [(.int ((0 : Int32) + (0 : Int32)))]))
        refine own_st (fun t k => XS.iconst X272.here hx rfl (hb hby at_114) k) ?_
        show own_Run p e below s _ _ _ (T272.setTop (mkF m 115 #[.val (.int i0), .val (.int (0 : Int32)), .val (.int (0 : Int32)), .val (.int (0 : Int32)), .val (.ref b250), .val (.ref b267), .val (.int ((0 : Int32) + (0 : Int32))), .unset, .unset, .unset] [(.int (0 : Int32)), (.int ((0 : Int32) + (0 : Int32)))]))
        refine own_st (fun t k => XS.iadd X272.here hx rfl (hb hby at_115) rfl k) ?_
        show own_Run p e below s _ _ _ (T272.setTop (mkF m 116 #[.val (.int i0), .val (.int (0 : Int32)), .val (.int (0 : Int32)), .val (.int (0 : Int32)), .val (.ref b250), .val (.ref b267), .val (.int ((0 : Int32) + (0 : Int32))), .unset, .unset, .unset] [(.int (((0 : Int32) + (0 : Int32)) + (0 : Int32)))]))
        refine own_st (fun t k => XS.istore X272.here hx rfl (hb hby at_116) rfl (l' := #[.val (.int i0), .val (.int (0 : Int32)), .val (.int (0 : Int32)), .val (.int (0 : Int32)), .val (.ref b250), .val (.ref b267), .val (.int ((0 : Int32) + (0 : Int32))), .val (.int (((0 : Int32) + (0 : Int32)) + (0 : Int32))), .unset, .unset]) rfl k) ?_
        show own_Run p e below s _ _ _ (T272.setTop (mkF m 118 #[.val (.int i0), .val (.int (0 : Int32)), .val (.int (0 : Int32)), .val (.int (0 : Int32)), .val (.ref b250), .val (.ref b267), .val (.int ((0 : Int32) + (0 : Int32))), .val (.int (((0 : Int32) + (0 : Int32)) + (0 : Int32))), .unset, .unset] []))
        have E284 := ((Q256.ext E267).keep K272q)
        have F285 := ((Q257.ext E267).keep K272q (ninS (Nat.ne_of_lt (Nat.lt_of_lt_of_le (Nat.lt_of_lt_of_le A250.lt K255q.1) (Nat.le_of_eq g267.symm))) nin0))
        have F286 := ((Q258.ext E267).keep K272q (ninS (Nat.ne_of_lt (Nat.lt_of_lt_of_le (Nat.lt_of_lt_of_le A250.lt K255q.1) (Nat.le_of_eq g267.symm))) nin0))
        have F287 := ((Q259.ext E267).keep K272q (ninS (Nat.ne_of_lt (Nat.lt_of_lt_of_le (Nat.lt_of_lt_of_le A250.lt K255q.1) (Nat.le_of_eq g267.symm))) nin0))
        have F288 := ((Q260.ext E267).keep K272q (ninS (Nat.ne_of_lt (Nat.lt_of_lt_of_le (Nat.lt_of_lt_of_le A250.lt K255q.1) (Nat.le_of_eq g267.symm))) nin0))
        have F289 := ((Q261.ext E267).keep K272q (ninS (Nat.ne_of_lt (Nat.lt_of_lt_of_le (Nat.lt_of_lt_of_le A250.lt K255q.1) (Nat.le_of_eq g267.symm))) nin0))
        have F290 := ((Q262.ext E267).keep K272q (ninS (Nat.ne_of_lt (Nat.lt_of_lt_of_le (Nat.lt_of_lt_of_le A250.lt K255q.1) (Nat.le_of_eq g267.symm))) nin0))
        have F291 := ((Q263.ext E267).keep K272q (ninS (Nat.ne_of_lt (Nat.lt_of_lt_of_le (Nat.lt_of_lt_of_le A250.lt K255q.1) (Nat.le_of_eq g267.symm))) nin0))
        have F292 := ((Q264.ext E267).keep K272q (ninS (Nat.ne_of_lt (Nat.lt_of_lt_of_le (Nat.lt_of_lt_of_le A250.lt K255q.1) (Nat.le_of_eq g267.symm))) nin0))
        exact own_tail l Z a0 hw T272 _ hx hby hml hZ hown hnm hret hlk te i0 (0 : Int32) (0 : Int32) (0 : Int32) b250 b267 ((0 : Int32) + (0 : Int32)) (((0 : Int32) + (0 : Int32)) + (0 : Int32)) (0 : Int32) (0 : Int32) h0 n0 Z0 _ (X272.more (by decide) (by decide)) rfl N272 K282 O283 S_E E284 ge252 sz251 F285 F286 F287 F288 F289 F290 F291 F292 Q273 ge269 sz268 Q274 Q275 Q276 Q277 Q278 Q279 Q280 Q281 (Ne.symm (Nat.ne_of_lt (Nat.lt_of_lt_of_le (Nat.lt_of_lt_of_le A250.lt K255q.1) (Nat.le_of_eq g267.symm)))) (by decide) (by decide)
      · skip
        refine own_st (fun t k => XS.ifNo X0.here hx rfl (hb hby at_27) rfl ((if0 _ _).trans (feq (hc249 : ¬ ((i0 &&& (4 : Int32)) = (0 : Int32)))).1) k) ?_
        show own_Run p e below s _ _ _ (s₁.setTop (mkF m 30 #[.val (.int i0), .val (.int (0 : Int32)), .val (.int (0 : Int32)), .unset, .unset, .unset, .unset, .unset, .unset, .unset] []))
        refine own_st (fun t k => XS.iconst X0.here hx rfl (hb hby at_30) k) ?_
        show own_Run p e below s _ _ _ (s₁.setTop (mkF m 31 #[.val (.int i0), .val (.int (0 : Int32)), .val (.int (0 : Int32)), .unset, .unset, .unset, .unset, .unset, .unset, .unset] [(.int (1 : Int32))]))
        refine own_st (fun t k => XS.goto X0.here hx rfl (pc0 := 31) (pc' := 35) rfl (hb hby at_31) (by decide) (by decide) k) ?_
        show own_Run p e below s _ _ _ (s₁.setTop (mkF m 35 #[.val (.int i0), .val (.int (0 : Int32)), .val (.int (0 : Int32)), .unset, .unset, .unset, .unset, .unset, .unset, .unset] [(.int (1 : Int32))]))
        refine own_st (fun t k => XS.istoreN X0.here hx rfl (hb hby at_35) rfl (l' := #[.val (.int i0), .val (.int (0 : Int32)), .val (.int (0 : Int32)), .val (.int (1 : Int32)), .unset, .unset, .unset, .unset, .unset, .unset]) rfl k) ?_
        show own_Run p e below s _ _ _ (s₁.setTop (mkF m 36 #[.val (.int i0), .val (.int (0 : Int32)), .val (.int (0 : Int32)), .val (.int (1 : Int32)), .unset, .unset, .unset, .unset, .unset, .unset] []))
        obtain ⟨T293, h293, X293, e293, E293, A293, D293, -, st293⟩ := newO X0 hx hZ hown (hw _ (List.mem_of_getElem? (i := 0) rfl)) (hw _ (List.mem_of_getElem? (i := 1) rfl)) (hw _ (List.mem_of_getElem? (i := 2) rfl)) e0 (g := (mkF m 36 #[.val (.int i0), .val (.int (0 : Int32)), .val (.int (0 : Int32)), .val (.int (1 : Int32)), .unset, .unset, .unset, .unset, .unset, .unset] [])) rfl (hb hby at_36) (by decide) (by decide)
        obtain ⟨b293, g293⟩ : ∃ z, z = h0.size := ⟨_, rfl⟩
        rw [← g293] at A293 D293 st293
        have sz294 : h0.size ≤ b293 := Nat.le_trans K0.1 (Nat.le_of_eq g293.symm)
        have ge295 : n0 ≤ b293 := Nat.le_trans Z0 sz294
        refine own_st st293 ?_
        have K296 : Keep h0 h293 [] := K0.ext E293
        have O297 := O0.ext E293
        show own_Run p e below s _ _ _ (T293.setTop (mkF m 39 #[.val (.int i0), .val (.int (0 : Int32)), .val (.int (0 : Int32)), .val (.int (1 : Int32)), .unset, .unset, .unset, .unset, .unset, .unset] [(.ref b293)]))
        refine own_st (fun t k => XS.dup X293.here hx rfl (hb hby at_39) rfl rfl k) ?_
        show own_Run p e below s _ _ _ (T293.setTop (mkF m 40 #[.val (.int i0), .val (.int (0 : Int32)), .val (.int (0 : Int32)), .val (.int (1 : Int32)), .unset, .unset, .unset, .unset, .unset, .unset] [(.ref b293), (.ref b293)]))
        refine own_callI X293 hx hZ (y := (⟨"com/example/kerb2d/kerb2d/engine/Tally", "<init>", "()V"⟩ : MethodName)) rfl hown (hw _ (List.mem_of_getElem? (i := 3) rfl)) (hw _ (List.mem_of_getElem? (i := 4) rfl)) (hw _ (List.mem_of_getElem? (i := 5) rfl)) (hw _ (List.mem_of_getElem? (i := 2) rfl)) (by decide) e293 (a := b293) (argsL := []) (rest := [(.ref b293)]) (W := 1) (own_rm1 l Z a0 hw [] b293 h293 n0 (Nat.le_trans Z0 K296.1) A293 D293 ge295) (by decide) (by decide) (by rw [hml]; rfl) (lenOf own_pd2 rfl) rfl (by exact Nat.le_of_eq rfl) (hb hby at_40) (by decide) (by decide) ?_
        intro T298 v298 L298 X298 hq298
        obtain ⟨rfl, N298q, K298q, Q299, Q300, Q301, Q302, Q303, Q304, Q305, Q306, Q307⟩ := hq298
        have K308 : Keep h0 T298.heap [] := K296.trans K298q (allS (Or.inr sz294) all0)
        have O309 := O297.keep K298q (allS ge295 all0)
        have N298 := Fr.app N0 N298q
        show own_Run p e below s _ _ _ (T298.setTop (mkF m 43 #[.val (.int i0), .val (.int (0 : Int32)), .val (.int (0 : Int32)), .val (.int (1 : Int32)), .unset, .unset, .unset, .unset, .unset, .unset] [(.ref b293)]))
        refine own_st (fun t k => XS.astore X298.here hx rfl (hb hby at_43) rfl rfl (l' := #[.val (.int i0), .val (.int (0 : Int32)), .val (.int (0 : Int32)), .val (.int (1 : Int32)), .val (.ref b293), .unset, .unset, .unset, .unset, .unset]) rfl k) ?_
        show own_Run p e below s _ _ _ (T298.setTop (mkF m 45 #[.val (.int i0), .val (.int (0 : Int32)), .val (.int (0 : Int32)), .val (.int (1 : Int32)), .val (.ref b293), .unset, .unset, .unset, .unset, .unset] []))
        obtain ⟨T310, h310, X310, e310, E310, A310, D310, -, st310⟩ := newO X298 hx hZ hown (hw _ (List.mem_of_getElem? (i := 0) rfl)) (hw _ (List.mem_of_getElem? (i := 1) rfl)) (hw _ (List.mem_of_getElem? (i := 2) rfl)) rfl (g := (mkF m 45 #[.val (.int i0), .val (.int (0 : Int32)), .val (.int (0 : Int32)), .val (.int (1 : Int32)), .val (.ref b293), .unset, .unset, .unset, .unset, .unset] [])) rfl (hb hby at_45) (by decide) (by decide)
        obtain ⟨b310, g310⟩ : ∃ z, z = T298.heap.size := ⟨_, rfl⟩
        rw [← g310] at A310 D310 st310
        have sz311 : h0.size ≤ b310 := Nat.le_trans K308.1 (Nat.le_of_eq g310.symm)
        have ge312 : n0 ≤ b310 := Nat.le_trans Z0 sz311
        refine own_st st310 ?_
        have K313 : Keep h0 h310 [] := K308.ext E310
        have O314 := O309.ext E310
        show own_Run p e below s _ _ _ (T310.setTop (mkF m 48 #[.val (.int i0), .val (.int (0 : Int32)), .val (.int (0 : Int32)), .val (.int (1 : Int32)), .val (.ref b293), .unset, .unset, .unset, .unset, .unset] [(.ref b310)]))
        refine own_st (fun t k => XS.dup X310.here hx rfl (hb hby at_48) rfl rfl k) ?_
        show own_Run p e below s _ _ _ (T310.setTop (mkF m 49 #[.val (.int i0), .val (.int (0 : Int32)), .val (.int (0 : Int32)), .val (.int (1 : Int32)), .val (.ref b293), .unset, .unset, .unset, .unset, .unset] [(.ref b310), (.ref b310)]))
        refine own_st (fun t k => XS.aload X310.here hx rfl (hb hby at_49) rfl rfl k) ?_
        show own_Run p e below s _ _ _ (T310.setTop (mkF m 51 #[.val (.int i0), .val (.int (0 : Int32)), .val (.int (0 : Int32)), .val (.int (1 : Int32)), .val (.ref b293), .unset, .unset, .unset, .unset, .unset] [(.ref b293), (.ref b310), (.ref b310)]))
        refine own_callI X310 hx hZ (y := (⟨"com/example/kerb2d/kerb2d/engine/Tally", "<init>", "(Lcom/example/kerb2d/kerb2d/engine/Tally;)V"⟩ : MethodName)) rfl hown (hw _ (List.mem_of_getElem? (i := 14) rfl)) (hw _ (List.mem_of_getElem? (i := 7) rfl)) (hw _ (List.mem_of_getElem? (i := 8) rfl)) (hw _ (List.mem_of_getElem? (i := 2) rfl)) (by decide) e310 (a := b310) (argsL := [(.ref b293)]) (rest := [(.ref b310)]) (W := 1) (own_rm2R l Z a0 hw [] b310 b293 h310 n0 (Nat.le_trans Z0 K313.1) A310 D310 ge312) (by decide) (by decide) (by rw [hml]; rfl) (lenOf own_pd1 rfl) rfl (by exact Nat.le_of_eq rfl) (hb hby at_51) (by decide) (by decide) ?_
        intro T315 v315 L315 X315 hq315
        obtain ⟨rfl, N315q, K315q, Q316, Q317, Q318, Q319, Q320, Q321, Q322, Q323, Q324⟩ := hq315
        have K325 : Keep h0 T315.heap [] := K313.trans K315q (allS (Or.inr sz311) all0)
        have O326 := O314.keep K315q (allS ge312 all0)
        have N315 := Fr.app N298 N315q
        show own_Run p e below s _ _ _ (T315.setTop (mkF m 54 #[.val (.int i0), .val (.int (0 : Int32)), .val (.int (0 : Int32)), .val (.int (1 : Int32)), .val (.ref b293), .unset, .unset, .unset, .unset, .unset] [(.ref b310)]))
        refine own_st (fun t k => XS.astore X315.here hx rfl (hb hby at_54) rfl rfl (l' := #[.val (.int i0), .val (.int (0 : Int32)), .val (.int (0 : Int32)), .val (.int (1 : Int32)), .val (.ref b293), .val (.ref b310), .unset, .unset, .unset, .unset]) rfl k) ?_
        show own_Run p e below s _ _ _ (T315.setTop (mkF m 56 #[.val (.int i0), .val (.int (0 : Int32)), .val (.int (0 : Int32)), .val (.int (1 : Int32)), .val (.ref b293), .val (.ref b310), .unset, .unset, .unset, .unset] []))
        refine own_st (fun t k => XS.iloadN X315.here hx rfl (hb hby at_56) rfl k) ?_
        show own_Run p e below s _ _ _ (T315.setTop (mkF m 57 #[.val (.int i0), .val (.int (0 : Int32)), .val (.int (0 : Int32)), .val (.int (1 : Int32)), .val (.ref b293), .val (.ref b310), .unset, .unset, .unset, .unset] [(.int (0 : Int32))]))
        refine own_st (fun t k => XS.ifYes X315.here hx rfl (pc0 := 57) (pc' := 65) rfl (hb hby at_57) rfl ((if0 _ _).trans (teq (by decide : (0 : Int32) = (0 : Int32))).1) (by decide) (by decide) k) ?_
        show own_Run p e below s _ _ _ (T315.setTop (mkF m 65 #[.val (.int i0), .val (.int (0 : Int32)), .val (.int (0 : Int32)), .val (.int (1 : Int32)), .val (.ref b293), .val (.ref b310), .unset, .unset, .unset, .unset] []))
        refine own_st (fun t k => XS.iloadN X315.here hx rfl (hb hby at_65) rfl k) ?_
        show own_Run p e below s _ _ _ (T315.setTop (mkF m 66 #[.val (.int i0), .val (.int (0 : Int32)), .val (.int (0 : Int32)), .val (.int (1 : Int32)), .val (.ref b293), .val (.ref b310), .unset, .unset, .unset, .unset] [(.int (0 : Int32))]))
        refine own_st (fun t k => XS.ifYes X315.here hx rfl (pc0 := 66) (pc' := 74) rfl (hb hby at_66) rfl ((if0 _ _).trans (teq (by decide : (0 : Int32) = (0 : Int32))).1) (by decide) (by decide) k) ?_
        show own_Run p e below s _ _ _ (T315.setTop (mkF m 74 #[.val (.int i0), .val (.int (0 : Int32)), .val (.int (0 : Int32)), .val (.int (1 : Int32)), .val (.ref b293), .val (.ref b310), .unset, .unset, .unset, .unset] []))
        refine own_st (fun t k => XS.iloadN X315.here hx rfl (hb hby at_74) rfl k) ?_
        show own_Run p e below s _ _ _ (T315.setTop (mkF m 75 #[.val (.int i0), .val (.int (0 : Int32)), .val (.int (0 : Int32)), .val (.int (1 : Int32)), .val (.ref b293), .val (.ref b310), .unset, .unset, .unset, .unset] [(.int (1 : Int32))]))
        refine own_st (fun t k => XS.ifNo X315.here hx rfl (hb hby at_75) rfl ((if0 _ _).trans (feq (by decide : ¬ ((1 : Int32) = (0 : Int32)))).1) k) ?_
        show own_Run p e below s _ _ _ (T315.setTop (mkF m 78 #[.val (.int i0), .val (.int (0 : Int32)), .val (.int (0 : Int32)), .val (.int (1 : Int32)), .val (.ref b293), .val (.ref b310), .unset, .unset, .unset, .unset] []))
        refine own_st (fun t k => XS.aload X315.here hx rfl (hb hby at_78) rfl rfl k) ?_
        show own_Run p e below s _ _ _ (T315.setTop (mkF m 80 #[.val (.int i0), .val (.int (0 : Int32)), .val (.int (0 : Int32)), .val (.int (1 : Int32)), .val (.ref b293), .val (.ref b310), .unset, .unset, .unset, .unset] [(.ref b310)]))
        have E327 := ((Q299.ext E310).keep K315q)
        have F328 := ((Q300.ext E310).keep K315q (ninS (Nat.ne_of_lt (Nat.lt_of_lt_of_le (Nat.lt_of_lt_of_le A293.lt K298q.1) (Nat.le_of_eq g310.symm))) nin0))
        have F329 := ((Q301.ext E310).keep K315q (ninS (Nat.ne_of_lt (Nat.lt_of_lt_of_le (Nat.lt_of_lt_of_le A293.lt K298q.1) (Nat.le_of_eq g310.symm))) nin0))
        have F330 := ((Q302.ext E310).keep K315q (ninS (Nat.ne_of_lt (Nat.lt_of_lt_of_le (Nat.lt_of_lt_of_le A293.lt K298q.1) (Nat.le_of_eq g310.symm))) nin0))
        have F331 := ((Q303.ext E310).keep K315q (ninS (Nat.ne_of_lt (Nat.lt_of_lt_of_le (Nat.lt_of_lt_of_le A293.lt K298q.1) (Nat.le_of_eq g310.symm))) nin0))
        have F332 := ((Q304.ext E310).keep K315q (ninS (Nat.ne_of_lt (Nat.lt_of_lt_of_le (Nat.lt_of_lt_of_le A293.lt K298q.1) (Nat.le_of_eq g310.symm))) nin0))
        have F333 := ((Q305.ext E310).keep K315q (ninS (Nat.ne_of_lt (Nat.lt_of_lt_of_le (Nat.lt_of_lt_of_le A293.lt K298q.1) (Nat.le_of_eq g310.symm))) nin0))
        have F334 := ((Q306.ext E310).keep K315q (ninS (Nat.ne_of_lt (Nat.lt_of_lt_of_le (Nat.lt_of_lt_of_le A293.lt K298q.1) (Nat.le_of_eq g310.symm))) nin0))
        have F335 := ((Q307.ext E310).keep K315q (ninS (Nat.ne_of_lt (Nat.lt_of_lt_of_le (Nat.lt_of_lt_of_le A293.lt K298q.1) (Nat.le_of_eq g310.symm))) nin0))
        refine own_callV X315 hx hZ (y := (⟨"com/example/kerb2d/kerb2d/engine/Tally", "enter", "()V"⟩ : MethodName)) (C := "com/example/kerb2d/kerb2d/engine/Tally") hown (hw _ (List.mem_of_getElem? (i := 87) rfl)) (hw _ (List.mem_of_getElem? (i := 88) rfl)) (hw _ (List.mem_of_getElem? (i := 90) rfl)) (hw _ (List.mem_of_getElem? (i := 89) rfl)) (hw _ (List.mem_of_getElem? (i := 91) rfl)) (hw _ (List.mem_of_getElem? (i := 2) rfl)) (by decide) rfl (a := b310) Q316 (argsL := []) (rest := []) (W := 0) (own_rm10P l Z a0 hw [] b310 b293 (0 : Int32) (0 : Int32) (0 : Int32) (0 : Int32) T315.heap n0 (Nat.le_trans Z0 K325.1) Q316 ge312 Q317 Q318 Q319 Q320 Q321 Q322 Q323 Q324 E327 ge295 F328 F329 F330 F331 F332 F333 F334 F335 (Ne.symm (Nat.ne_of_lt (Nat.lt_of_lt_of_le (Nat.lt_of_lt_of_le A293.lt K298q.1) (Nat.le_of_eq g310.symm))))) (by decide) (by decide) (by rw [hml]; rfl) (lenOf own_pd2 rfl) rfl (by exact Nat.le_of_eq rfl) (hb hby at_80) (by decide) (by decide) ?_
        intro T336 v336 L336 X336 hq336
        obtain ⟨rfl, N336q, K336q, Q337, Q338, Q339, Q340, Q341, Q342, Q343, Q344, Q345, Q346, Q347, Q348, Q349, Q350, Q351, Q352, Q353, Q354⟩ := hq336
        have K355 : Keep h0 T336.heap [] := K325.trans K336q (allS (Or.inr sz311) (allS (Or.inr sz294) all0))
        have O356 := O326.keep K336q (allS ge312 (allS ge295 all0))
        have N336 := Fr.app N315 N336q
        show own_Run p e below s _ _ _ (T336.setTop (mkF m 83 #[.val (.int i0), .val (.int (0 : Int32)), .val (.int (0 : Int32)), .val (.int (1 : Int32)), .val (.ref b293), .val (.ref b310), .unset, .unset, .unset, .unset] []))
        refine own_st (fun t k => XS.iloadN X336.here hx rfl (hb hby at_83) rfl k) ?_
        show own_Run p e below s _ _ _ (T336.setTop (mkF m 84 #[.val (.int i0), .val (.int (0 : Int32)), .val (.int (0 : Int32)), .val (.int (1 : Int32)), .val (.ref b293), .val (.ref b310), .unset, .unset, .unset, .unset] [(.int (0 : Int32))]))
        refine own_st (fun t k => XS.ifYes X336.here hx rfl (pc0 := 84) (pc' := 91) rfl (hb hby at_84) rfl ((if0 _ _).trans (teq (by decide : (0 : Int32) = (0 : Int32))).1) (by decide) (by decide) k) ?_
        show own_Run p e below s _ _ _ (T336.setTop (mkF m 91 #[.val (.int i0), .val (.int (0 : Int32)), .val (.int (0 : Int32)), .val (.int (1 : Int32)), .val (.ref b293), .val (.ref b310), .unset, .unset, .unset, .unset] []))
        refine own_st (fun t k => XS.iconst X336.here hx rfl (hb hby at_91) k) ?_
        show own_Run p e below s _ _ _ (T336.setTop (mkF m 92 #[.val (.int i0), .val (.int (0 : Int32)), .val (.int (0 : Int32)), .val (.int (1 : Int32)), .val (.ref b293), .val (.ref b310), .unset, .unset, .unset, .unset] [(.int (0 : Int32))]))
        refine own_st (fun t k => XS.iloadN X336.here hx rfl (hb hby at_92) rfl k) ?_
        show own_Run p e below s _ _ _ (T336.setTop (mkF m 93 #[.val (.int i0), .val (.int (0 : Int32)), .val (.int (0 : Int32)), .val (.int (1 : Int32)), .val (.ref b293), .val (.ref b310), .unset, .unset, .unset, .unset] [(.int (1 : Int32)), (.int (0 : Int32))]))
        refine own_st (fun t k => XS.ifNo X336.here hx rfl (hb hby at_93) rfl ((if0 _ _).trans (feq (by decide : ¬ ((1 : Int32) = (0 : Int32)))).1) k) ?_
        show own_Run p e below s _ _ _ (T336.setTop (mkF m 96 #[.val (.int i0), .val (.int (0 : Int32)), .val (.int (0 : Int32)), .val (.int (1 : Int32)), .val (.ref b293), .val (.ref b310), .unset, .unset, .unset, .unset] [(.int (0 : Int32))]))
        refine own_st (fun t k => XS.iconst X336.here hx rfl (hb hby at_96) k) ?_
        show own_Run p e below s _ _ _ (T336.setTop (mkF m 97 #[.val (.int i0), .val (.int (0 : Int32)), .val (.int (0 : Int32)), .val (.int (1 : Int32)), .val (.ref b293), .val (.ref b310), .unset, .unset, .unset, .unset] [(.int (1 : Int32)), (.int (0 : Int32))]))
        refine own_st (fun t k => XS.goto X336.here hx rfl (pc0 := 97) (pc' := 101) rfl (hb hby at_97) (by decide) (by decide) k) ?_
        show own_Run p e below s _ _ _ (T336.setTop (mkF m 101 #[.val (.int i0), .val (.int (0 : Int32)), .val (.int (0 : Int32)), .val (.int (1 : Int32)), .val (.ref b293), .val (.ref b310), .unset, .unset, .unset, .unset] [(.int (1 : Int32)), (.int (0 : Int32))]))
        refine own_st (fun t k => XS.iadd X336.here hx rfl (hb hby at_101) rfl k) ?_
        show own_Run p e below s _ _ _ (T336.setTop (mkF m 102 #[.val (.int i0), .val (.int (0 : Int32)), .val (.int (0 : Int32)), .val (.int (1 : Int32)), .val (.ref b293), .val (.ref b310), .unset, .unset, .unset, .unset] [(.int ((0 : Int32) + (1 : Int32)))]))
        refine own_st (fun t k => XS.istore X336.here hx rfl (hb hby at_102) rfl (l' := #[.val (.int i0), .val (.int (0 : Int32)), .val (.int (0 : Int32)), .val (.int (1 : Int32)), .val (.ref b293), .val (.ref b310), .val (.int ((0 : Int32) + (1 : Int32))), .unset, .unset, .unset]) rfl k) ?_
        show own_Run p e below s _ _ _ (T336.setTop (mkF m 104 #[.val (.int i0), .val (.int (0 : Int32)), .val (.int (0 : Int32)), .val (.int (1 : Int32)), .val (.ref b293), .val (.ref b310), .val (.int ((0 : Int32) + (1 : Int32))), .unset, .unset, .unset] []))
        refine own_st (fun t k => XS.iload X336.here hx rfl (hb hby at_104) rfl k) ?_
        show own_Run p e below s _ _ _ (T336.setTop (mkF m 106 #[.val (.int i0), .val (.int (0 : Int32)), .val (.int (0 : Int32)), .val (.int (1 : Int32)), .val (.ref b293), .val (.ref b310), .val (.int ((0 : Int32) + (1 : Int32))), .unset, .unset, .unset] [(.int ((0 : Int32) + (1 : Int32)))]))
        refine own_st (fun t k => XS.iloadN X336.here hx rfl (hb hby at_106) rfl k) ?_
        show own_Run p e below s _ _ _ (T336.setTop (mkF m 107 #[.val (.int i0), .val (.int (0 : Int32)), .val (.int (0 : Int32)), .val (.int (1 : Int32)), .val (.ref b293), .val (.ref b310), .val (.int ((0 : Int32) + (1 : Int32))), .unset, .unset, .unset] [(.int (0 : Int32)), (.int ((0 : Int32) + (1 : Int32)))]))
        refine own_st (fun t k => XS.ifYes X336.here hx rfl (pc0 := 107) (pc' := 114) rfl (hb hby at_107) rfl ((if0 _ _).trans (teq (by decide : (0 : Int32) = (0 : Int32))).1) (by decide) (by decide) k) ?_
        show own_Run p e below s _ _ _ (T336.setTop (mkF m 114 #[.val (.int i0), .val (.int (0 : Int32)), .val (.int (0 : Int32)), .val (.int (1 : Int32)), .val (.ref b293), .val (.ref b310), .val (.int ((0 : Int32) + (1 : Int32))), .unset, .unset, .unset] [(.int ((0 : Int32) + (1 : Int32)))]))
        refine own_st (fun t k => XS.iconst X336.here hx rfl (hb hby at_114) k) ?_
        show own_Run p e below s _ _ _ (T336.setTop (mkF m 115 #[.val (.int i0), .val (.int (0 : Int32)), .val (.int (0 : Int32)), .val (.int (1 : Int32)), .val (.ref b293), .val (.ref b310), .val (.int ((0 : Int32) + (1 : Int32))), .unset, .unset, .unset] [(.int (0 : Int32)), (.int ((0 : Int32) + (1 : Int32)))]))
        refine own_st (fun t k => XS.iadd X336.here hx rfl (hb hby at_115) rfl k) ?_
        show own_Run p e below s _ _ _ (T336.setTop (mkF m 116 #[.val (.int i0), .val (.int (0 : Int32)), .val (.int (0 : Int32)), .val (.int (1 : Int32)), .val (.ref b293), .val (.ref b310), .val (.int ((0 : Int32) + (1 : Int32))), .unset, .unset, .unset] [(.int (((0 : Int32) + (1 : Int32)) + (0 : Int32)))]))
        refine own_st (fun t k => XS.istore X336.here hx rfl (hb hby at_116) rfl (l' := #[.val (.int i0), .val (.int (0 : Int32)), .val (.int (0 : Int32)), .val (.int (1 : Int32)), .val (.ref b293), .val (.ref b310), .val (.int ((0 : Int32) + (1 : Int32))), .val (.int (((0 : Int32) + (1 : Int32)) + (0 : Int32))), .unset, .unset]) rfl k) ?_
        show own_Run p e below s _ _ _ (T336.setTop (mkF m 118 #[.val (.int i0), .val (.int (0 : Int32)), .val (.int (0 : Int32)), .val (.int (1 : Int32)), .val (.ref b293), .val (.ref b310), .val (.int ((0 : Int32) + (1 : Int32))), .val (.int (((0 : Int32) + (1 : Int32)) + (0 : Int32))), .unset, .unset] []))
        exact own_tail l Z a0 hw T336 _ hx hby hml hZ hown hnm hret hlk te i0 (0 : Int32) (0 : Int32) (1 : Int32) b293 b310 ((0 : Int32) + (1 : Int32)) (((0 : Int32) + (1 : Int32)) + (0 : Int32)) ((0 : Int32) + (1 : Int32)) ((0 : Int32) + (1 : Int32)) h0 n0 Z0 _ (X336.more (by decide) (by decide)) rfl N336 K355 O356 S_E Q346 ge295 sz294 Q347 Q348 Q349 Q350 Q351 Q352 Q353 Q354 Q337 ge312 sz311 Q338 Q339 Q340 Q341 Q342 Q343 Q344 Q345 (Ne.symm (Nat.ne_of_lt (Nat.lt_of_lt_of_le (Nat.lt_of_lt_of_le A293.lt K298q.1) (Nat.le_of_eq g310.symm)))) (by decide) (by decide)
    · skip
      refine own_st (fun t k => XS.ifNo X0.here hx rfl (hb hby at_15) rfl ((if0 _ _).trans (feq (hc248 : ¬ ((i0 &&& (2 : Int32)) = (0 : Int32)))).1) k) ?_
      show own_Run p e below s _ _ _ (s₁.setTop (mkF m 18 #[.val (.int i0), .val (.int (0 : Int32)), .unset, .unset, .unset, .unset, .unset, .unset, .unset, .unset] []))
      refine own_st (fun t k => XS.iconst X0.here hx rfl (hb hby at_18) k) ?_
      show own_Run p e below s _ _ _ (s₁.setTop (mkF m 19 #[.val (.int i0), .val (.int (0 : Int32)), .unset, .unset, .unset, .unset, .unset, .unset, .unset, .unset] [(.int (1 : Int32))]))
      refine own_st (fun t k => XS.goto X0.here hx rfl (pc0 := 19) (pc' := 23) rfl (hb hby at_19) (by decide) (by decide) k) ?_
      show own_Run p e below s _ _ _ (s₁.setTop (mkF m 23 #[.val (.int i0), .val (.int (0 : Int32)), .unset, .unset, .unset, .unset, .unset, .unset, .unset, .unset] [(.int (1 : Int32))]))
      refine own_st (fun t k => XS.istoreN X0.here hx rfl (hb hby at_23) rfl (l' := #[.val (.int i0), .val (.int (0 : Int32)), .val (.int (1 : Int32)), .unset, .unset, .unset, .unset, .unset, .unset, .unset]) rfl k) ?_
      show own_Run p e below s _ _ _ (s₁.setTop (mkF m 24 #[.val (.int i0), .val (.int (0 : Int32)), .val (.int (1 : Int32)), .unset, .unset, .unset, .unset, .unset, .unset, .unset] []))
      refine own_st (fun t k => XS.iloadN X0.here hx rfl (hb hby at_24) rfl k) ?_
      show own_Run p e below s _ _ _ (s₁.setTop (mkF m 25 #[.val (.int i0), .val (.int (0 : Int32)), .val (.int (1 : Int32)), .unset, .unset, .unset, .unset, .unset, .unset, .unset] [(.int i0)]))
      refine own_st (fun t k => XS.iconst X0.here hx rfl (hb hby at_25) k) ?_
      show own_Run p e below s _ _ _ (s₁.setTop (mkF m 26 #[.val (.int i0), .val (.int (0 : Int32)), .val (.int (1 : Int32)), .unset, .unset, .unset, .unset, .unset, .unset, .unset] [(.int (4 : Int32)), (.int i0)]))
      refine own_st (fun t k => XS.iand X0.here hx rfl (hb hby at_26) rfl k) ?_
      show own_Run p e below s _ _ _ (s₁.setTop (mkF m 27 #[.val (.int i0), .val (.int (0 : Int32)), .val (.int (1 : Int32)), .unset, .unset, .unset, .unset, .unset, .unset, .unset] [(.int (i0 &&& (4 : Int32)))]))
      by_cases hc357 : (i0 &&& (4 : Int32)) = (0 : Int32)
      · skip
        refine own_st (fun t k => XS.ifYes X0.here hx rfl (pc0 := 27) (pc' := 34) rfl (hb hby at_27) rfl ((if0 _ _).trans (teq (hc357 : (i0 &&& (4 : Int32)) = (0 : Int32))).1) (by decide) (by decide) k) ?_
        show own_Run p e below s _ _ _ (s₁.setTop (mkF m 34 #[.val (.int i0), .val (.int (0 : Int32)), .val (.int (1 : Int32)), .unset, .unset, .unset, .unset, .unset, .unset, .unset] []))
        refine own_st (fun t k => XS.iconst X0.here hx rfl (hb hby at_34) k) ?_
        show own_Run p e below s _ _ _ (s₁.setTop (mkF m 35 #[.val (.int i0), .val (.int (0 : Int32)), .val (.int (1 : Int32)), .unset, .unset, .unset, .unset, .unset, .unset, .unset] [(.int (0 : Int32))]))
        refine own_st (fun t k => XS.istoreN X0.here hx rfl (hb hby at_35) rfl (l' := #[.val (.int i0), .val (.int (0 : Int32)), .val (.int (1 : Int32)), .val (.int (0 : Int32)), .unset, .unset, .unset, .unset, .unset, .unset]) rfl k) ?_
        show own_Run p e below s _ _ _ (s₁.setTop (mkF m 36 #[.val (.int i0), .val (.int (0 : Int32)), .val (.int (1 : Int32)), .val (.int (0 : Int32)), .unset, .unset, .unset, .unset, .unset, .unset] []))
        obtain ⟨T358, h358, X358, e358, E358, A358, D358, -, st358⟩ := newO X0 hx hZ hown (hw _ (List.mem_of_getElem? (i := 0) rfl)) (hw _ (List.mem_of_getElem? (i := 1) rfl)) (hw _ (List.mem_of_getElem? (i := 2) rfl)) e0 (g := (mkF m 36 #[.val (.int i0), .val (.int (0 : Int32)), .val (.int (1 : Int32)), .val (.int (0 : Int32)), .unset, .unset, .unset, .unset, .unset, .unset] [])) rfl (hb hby at_36) (by decide) (by decide)
        obtain ⟨b358, g358⟩ : ∃ z, z = h0.size := ⟨_, rfl⟩
        rw [← g358] at A358 D358 st358
        have sz359 : h0.size ≤ b358 := Nat.le_trans K0.1 (Nat.le_of_eq g358.symm)
        have ge360 : n0 ≤ b358 := Nat.le_trans Z0 sz359
        refine own_st st358 ?_
        have K361 : Keep h0 h358 [] := K0.ext E358
        have O362 := O0.ext E358
        show own_Run p e below s _ _ _ (T358.setTop (mkF m 39 #[.val (.int i0), .val (.int (0 : Int32)), .val (.int (1 : Int32)), .val (.int (0 : Int32)), .unset, .unset, .unset, .unset, .unset, .unset] [(.ref b358)]))
        refine own_st (fun t k => XS.dup X358.here hx rfl (hb hby at_39) rfl rfl k) ?_
        show own_Run p e below s _ _ _ (T358.setTop (mkF m 40 #[.val (.int i0), .val (.int (0 : Int32)), .val (.int (1 : Int32)), .val (.int (0 : Int32)), .unset, .unset, .unset, .unset, .unset, .unset] [(.ref b358), (.ref b358)]))
        refine own_callI X358 hx hZ (y := (⟨"com/example/kerb2d/kerb2d/engine/Tally", "<init>", "()V"⟩ : MethodName)) rfl hown (hw _ (List.mem_of_getElem? (i := 3) rfl)) (hw _ (List.mem_of_getElem? (i := 4) rfl)) (hw _ (List.mem_of_getElem? (i := 5) rfl)) (hw _ (List.mem_of_getElem? (i := 2) rfl)) (by decide) e358 (a := b358) (argsL := []) (rest := [(.ref b358)]) (W := 1) (own_rm1 l Z a0 hw [] b358 h358 n0 (Nat.le_trans Z0 K361.1) A358 D358 ge360) (by decide) (by decide) (by rw [hml]; rfl) (lenOf own_pd2 rfl) rfl (by exact Nat.le_of_eq rfl) (hb hby at_40) (by decide) (by decide) ?_
        intro T363 v363 L363 X363 hq363
        obtain ⟨rfl, N363q, K363q, Q364, Q365, Q366, Q367, Q368, Q369, Q370, Q371, Q372⟩ := hq363
        have K373 : Keep h0 T363.heap [] := K361.trans K363q (allS (Or.inr sz359) all0)
        have O374 := O362.keep K363q (allS ge360 all0)
        have N363 := Fr.app N0 N363q
        show own_Run p e below s _ _ _ (T363.setTop (mkF m 43 #[.val (.int i0), .val (.int (0 : Int32)), .val (.int (1 : Int32)), .val (.int (0 : Int32)), .unset, .unset, .unset, .unset, .unset, .unset] [(.ref b358)]))
        refine own_st (fun t k => XS.astore X363.here hx rfl (hb hby at_43) rfl rfl (l' := #[.val (.int i0), .val (.int (0 : Int32)), .val (.int (1 : Int32)), .val (.int (0 : Int32)), .val (.ref b358), .unset, .unset, .unset, .unset, .unset]) rfl k) ?_
        show own_Run p e below s _ _ _ (T363.setTop (mkF m 45 #[.val (.int i0), .val (.int (0 : Int32)), .val (.int (1 : Int32)), .val (.int (0 : Int32)), .val (.ref b358), .unset, .unset, .unset, .unset, .unset] []))
        obtain ⟨T375, h375, X375, e375, E375, A375, D375, -, st375⟩ := newO X363 hx hZ hown (hw _ (List.mem_of_getElem? (i := 0) rfl)) (hw _ (List.mem_of_getElem? (i := 1) rfl)) (hw _ (List.mem_of_getElem? (i := 2) rfl)) rfl (g := (mkF m 45 #[.val (.int i0), .val (.int (0 : Int32)), .val (.int (1 : Int32)), .val (.int (0 : Int32)), .val (.ref b358), .unset, .unset, .unset, .unset, .unset] [])) rfl (hb hby at_45) (by decide) (by decide)
        obtain ⟨b375, g375⟩ : ∃ z, z = T363.heap.size := ⟨_, rfl⟩
        rw [← g375] at A375 D375 st375
        have sz376 : h0.size ≤ b375 := Nat.le_trans K373.1 (Nat.le_of_eq g375.symm)
        have ge377 : n0 ≤ b375 := Nat.le_trans Z0 sz376
        refine own_st st375 ?_
        have K378 : Keep h0 h375 [] := K373.ext E375
        have O379 := O374.ext E375
        show own_Run p e below s _ _ _ (T375.setTop (mkF m 48 #[.val (.int i0), .val (.int (0 : Int32)), .val (.int (1 : Int32)), .val (.int (0 : Int32)), .val (.ref b358), .unset, .unset, .unset, .unset, .unset] [(.ref b375)]))
        refine own_st (fun t k => XS.dup X375.here hx rfl (hb hby at_48) rfl rfl k) ?_
        show own_Run p e below s _ _ _ (T375.setTop (mkF m 49 #[.val (.int i0), .val (.int (0 : Int32)), .val (.int (1 : Int32)), .val (.int (0 : Int32)), .val (.ref b358), .unset, .unset, .unset, .unset, .unset] [(.ref b375), (.ref b375)]))
        refine own_st (fun t k => XS.aload X375.here hx rfl (hb hby at_49) rfl rfl k) ?_
        show own_Run p e below s _ _ _ (T375.setTop (mkF m 51 #[.val (.int i0), .val (.int (0 : Int32)), .val (.int (1 : Int32)), .val (.int (0 : Int32)), .val (.ref b358), .unset, .unset, .unset, .unset, .unset] [(.ref b358), (.ref b375), (.ref b375)]))
        refine own_callI X375 hx hZ (y := (⟨"com/example/kerb2d/kerb2d/engine/Tally", "<init>", "(Lcom/example/kerb2d/kerb2d/engine/Tally;)V"⟩ : MethodName)) rfl hown (hw _ (List.mem_of_getElem? (i := 14) rfl)) (hw _ (List.mem_of_getElem? (i := 7) rfl)) (hw _ (List.mem_of_getElem? (i := 8) rfl)) (hw _ (List.mem_of_getElem? (i := 2) rfl)) (by decide) e375 (a := b375) (argsL := [(.ref b358)]) (rest := [(.ref b375)]) (W := 1) (own_rm2R l Z a0 hw [] b375 b358 h375 n0 (Nat.le_trans Z0 K378.1) A375 D375 ge377) (by decide) (by decide) (by rw [hml]; rfl) (lenOf own_pd1 rfl) rfl (by exact Nat.le_of_eq rfl) (hb hby at_51) (by decide) (by decide) ?_
        intro T380 v380 L380 X380 hq380
        obtain ⟨rfl, N380q, K380q, Q381, Q382, Q383, Q384, Q385, Q386, Q387, Q388, Q389⟩ := hq380
        have K390 : Keep h0 T380.heap [] := K378.trans K380q (allS (Or.inr sz376) all0)
        have O391 := O379.keep K380q (allS ge377 all0)
        have N380 := Fr.app N363 N380q
        show own_Run p e below s _ _ _ (T380.setTop (mkF m 54 #[.val (.int i0), .val (.int (0 : Int32)), .val (.int (1 : Int32)), .val (.int (0 : Int32)), .val (.ref b358), .unset, .unset, .unset, .unset, .unset] [(.ref b375)]))
        refine own_st (fun t k => XS.astore X380.here hx rfl (hb hby at_54) rfl rfl (l' := #[.val (.int i0), .val (.int (0 : Int32)), .val (.int (1 : Int32)), .val (.int (0 : Int32)), .val (.ref b358), .val (.ref b375), .unset, .unset, .unset, .unset]) rfl k) ?_
        show own_Run p e below s _ _ _ (T380.setTop (mkF m 56 #[.val (.int i0), .val (.int (0 : Int32)), .val (.int (1 : Int32)), .val (.int (0 : Int32)), .val (.ref b358), .val (.ref b375), .unset, .unset, .unset, .unset] []))
        refine own_st (fun t k => XS.iloadN X380.here hx rfl (hb hby at_56) rfl k) ?_
        show own_Run p e below s _ _ _ (T380.setTop (mkF m 57 #[.val (.int i0), .val (.int (0 : Int32)), .val (.int (1 : Int32)), .val (.int (0 : Int32)), .val (.ref b358), .val (.ref b375), .unset, .unset, .unset, .unset] [(.int (0 : Int32))]))
        refine own_st (fun t k => XS.ifYes X380.here hx rfl (pc0 := 57) (pc' := 65) rfl (hb hby at_57) rfl ((if0 _ _).trans (teq (by decide : (0 : Int32) = (0 : Int32))).1) (by decide) (by decide) k) ?_
        show own_Run p e below s _ _ _ (T380.setTop (mkF m 65 #[.val (.int i0), .val (.int (0 : Int32)), .val (.int (1 : Int32)), .val (.int (0 : Int32)), .val (.ref b358), .val (.ref b375), .unset, .unset, .unset, .unset] []))
        refine own_st (fun t k => XS.iloadN X380.here hx rfl (hb hby at_65) rfl k) ?_
        show own_Run p e below s _ _ _ (T380.setTop (mkF m 66 #[.val (.int i0), .val (.int (0 : Int32)), .val (.int (1 : Int32)), .val (.int (0 : Int32)), .val (.ref b358), .val (.ref b375), .unset, .unset, .unset, .unset] [(.int (1 : Int32))]))
        refine own_st (fun t k => XS.ifNo X380.here hx rfl (hb hby at_66) rfl ((if0 _ _).trans (feq (by decide : ¬ ((1 : Int32) = (0 : Int32)))).1) k) ?_
        show own_Run p e below s _ _ _ (T380.setTop (mkF m 69 #[.val (.int i0), .val (.int (0 : Int32)), .val (.int (1 : Int32)), .val (.int (0 : Int32)), .val (.ref b358), .val (.ref b375), .unset, .unset, .unset, .unset] []))
        refine own_st (fun t k => XS.aload X380.here hx rfl (hb hby at_69) rfl rfl k) ?_
        show own_Run p e below s _ _ _ (T380.setTop (mkF m 71 #[.val (.int i0), .val (.int (0 : Int32)), .val (.int (1 : Int32)), .val (.int (0 : Int32)), .val (.ref b358), .val (.ref b375), .unset, .unset, .unset, .unset] [(.ref b358)]))
        have E392 := ((Q364.ext E375).keep K380q)
        have F393 := ((Q365.ext E375).keep K380q (ninS (Nat.ne_of_lt (Nat.lt_of_lt_of_le (Nat.lt_of_lt_of_le A358.lt K363q.1) (Nat.le_of_eq g375.symm))) nin0))
        have F394 := ((Q366.ext E375).keep K380q (ninS (Nat.ne_of_lt (Nat.lt_of_lt_of_le (Nat.lt_of_lt_of_le A358.lt K363q.1) (Nat.le_of_eq g375.symm))) nin0))
        have F395 := ((Q367.ext E375).keep K380q (ninS (Nat.ne_of_lt (Nat.lt_of_lt_of_le (Nat.lt_of_lt_of_le A358.lt K363q.1) (Nat.le_of_eq g375.symm))) nin0))
        have F396 := ((Q368.ext E375).keep K380q (ninS (Nat.ne_of_lt (Nat.lt_of_lt_of_le (Nat.lt_of_lt_of_le A358.lt K363q.1) (Nat.le_of_eq g375.symm))) nin0))
        have F397 := ((Q369.ext E375).keep K380q (ninS (Nat.ne_of_lt (Nat.lt_of_lt_of_le (Nat.lt_of_lt_of_le A358.lt K363q.1) (Nat.le_of_eq g375.symm))) nin0))
        have F398 := ((Q370.ext E375).keep K380q (ninS (Nat.ne_of_lt (Nat.lt_of_lt_of_le (Nat.lt_of_lt_of_le A358.lt K363q.1) (Nat.le_of_eq g375.symm))) nin0))
        have F399 := ((Q371.ext E375).keep K380q (ninS (Nat.ne_of_lt (Nat.lt_of_lt_of_le (Nat.lt_of_lt_of_le A358.lt K363q.1) (Nat.le_of_eq g375.symm))) nin0))
        have F400 := ((Q372.ext E375).keep K380q (ninS (Nat.ne_of_lt (Nat.lt_of_lt_of_le (Nat.lt_of_lt_of_le A358.lt K363q.1) (Nat.le_of_eq g375.symm))) nin0))
        refine own_callV X380 hx hZ (y := (⟨"com/example/kerb2d/kerb2d/engine/Tally", "enter", "()V"⟩ : MethodName)) (C := "com/example/kerb2d/kerb2d/engine/Tally") hown (hw _ (List.mem_of_getElem? (i := 87) rfl)) (hw _ (List.mem_of_getElem? (i := 88) rfl)) (hw _ (List.mem_of_getElem? (i := 90) rfl)) (hw _ (List.mem_of_getElem? (i := 89) rfl)) (hw _ (List.mem_of_getElem? (i := 91) rfl)) (hw _ (List.mem_of_getElem? (i := 2) rfl)) (by decide) rfl (a := b358) E392 (argsL := []) (rest := []) (W := 0) (own_rm10W l Z a0 hw [] b358 (0 : Int32) (0 : Int32) T380.heap n0 (Nat.le_trans Z0 K390.1) E392 ge360 F393 F394 F395 F396 F397 F398 F399 F400) (by decide) (by decide) (by rw [hml]; rfl) (lenOf own_pd2 rfl) rfl (by exact Nat.le_of_eq rfl) (hb hby at_71) (by decide) (by decide) ?_
        intro T401 v401 L401 X401 hq401
        obtain ⟨rfl, N401q, K401q, Q402, Q403, Q404, Q405, Q406, Q407, Q408, Q409, Q410⟩ := hq401
        have K411 : Keep h0 T401.heap [] := K390.trans K401q (allS (Or.inr sz359) all0)
        have O412 := O391.keep K401q (allS ge360 all0)
        have N401 := Fr.app N380 N401q
        show own_Run p e below s _ _ _ (T401.setTop (mkF m 74 #[.val (.int i0), .val (.int (0 : Int32)), .val (.int (1 : Int32)), .val (.int (0 : Int32)), .val (.ref b358), .val (.ref b375), .unset, .unset, .unset, .unset] []))
        refine own_st (fun t k => XS.iloadN X401.here hx rfl (hb hby at_74) rfl k) ?_
        show own_Run p e below s _ _ _ (T401.setTop (mkF m 75 #[.val (.int i0), .val (.int (0 : Int32)), .val (.int (1 : Int32)), .val (.int (0 : Int32)), .val (.ref b358), .val (.ref b375), .unset, .unset, .unset, .unset] [(.int (0 : Int32))]))
        refine own_st (fun t k => XS.ifYes X401.here hx rfl (pc0 := 75) (pc' := 83) rfl (hb hby at_75) rfl ((if0 _ _).trans (teq (by decide : (0 : Int32) = (0 : Int32))).1) (by decide) (by decide) k) ?_
        show own_Run p e below s _ _ _ (T401.setTop (mkF m 83 #[.val (.int i0), .val (.int (0 : Int32)), .val (.int (1 : Int32)), .val (.int (0 : Int32)), .val (.ref b358), .val (.ref b375), .unset, .unset, .unset, .unset] []))
        refine own_st (fun t k => XS.iloadN X401.here hx rfl (hb hby at_83) rfl k) ?_
        show own_Run p e below s _ _ _ (T401.setTop (mkF m 84 #[.val (.int i0), .val (.int (0 : Int32)), .val (.int (1 : Int32)), .val (.int (0 : Int32)), .val (.ref b358), .val (.ref b375), .unset, .unset, .unset, .unset] [(.int (0 : Int32))]))
        refine own_st (fun t k => XS.ifYes X401.here hx rfl (pc0 := 84) (pc' := 91) rfl (hb hby at_84) rfl ((if0 _ _).trans (teq (by decide : (0 : Int32) = (0 : Int32))).1) (by decide) (by decide) k) ?_
        show own_Run p e below s _ _ _ (T401.setTop (mkF m 91 #[.val (.int i0), .val (.int (0 : Int32)), .val (.int (1 : Int32)), .val (.int (0 : Int32)), .val (.ref b358), .val (.ref b375), .unset, .unset, .unset, .unset] []))
        refine own_st (fun t k => XS.iconst X401.here hx rfl (hb hby at_91) k) ?_
        show own_Run p e below s _ _ _ (T401.setTop (mkF m 92 #[.val (.int i0), .val (.int (0 : Int32)), .val (.int (1 : Int32)), .val (.int (0 : Int32)), .val (.ref b358), .val (.ref b375), .unset, .unset, .unset, .unset] [(.int (0 : Int32))]))
        refine own_st (fun t k => XS.iloadN X401.here hx rfl (hb hby at_92) rfl k) ?_
        show own_Run p e below s _ _ _ (T401.setTop (mkF m 93 #[.val (.int i0), .val (.int (0 : Int32)), .val (.int (1 : Int32)), .val (.int (0 : Int32)), .val (.ref b358), .val (.ref b375), .unset, .unset, .unset, .unset] [(.int (0 : Int32)), (.int (0 : Int32))]))
        refine own_st (fun t k => XS.ifYes X401.here hx rfl (pc0 := 93) (pc' := 100) rfl (hb hby at_93) rfl ((if0 _ _).trans (teq (by decide : (0 : Int32) = (0 : Int32))).1) (by decide) (by decide) k) ?_
        show own_Run p e below s _ _ _ (T401.setTop (mkF m 100 #[.val (.int i0), .val (.int (0 : Int32)), .val (.int (1 : Int32)), .val (.int (0 : Int32)), .val (.ref b358), .val (.ref b375), .unset, .unset, .unset, .unset] [(.int (0 : Int32))]))
        refine own_st (fun t k => XS.iconst X401.here hx rfl (hb hby at_100) k) ?_
        show own_Run p e below s _ _ _ (T401.setTop (mkF m 101 #[.val (.int i0), .val (.int (0 : Int32)), .val (.int (1 : Int32)), .val (.int (0 : Int32)), .val (.ref b358), .val (.ref b375), .unset, .unset, .unset, .unset] [(.int (0 : Int32)), (.int (0 : Int32))]))
        refine own_st (fun t k => XS.iadd X401.here hx rfl (hb hby at_101) rfl k) ?_
        show own_Run p e below s _ _ _ (T401.setTop (mkF m 102 #[.val (.int i0), .val (.int (0 : Int32)), .val (.int (1 : Int32)), .val (.int (0 : Int32)), .val (.ref b358), .val (.ref b375), .unset, .unset, .unset, .unset] [(.int ((0 : Int32) + (0 : Int32)))]))
        refine own_st (fun t k => XS.istore X401.here hx rfl (hb hby at_102) rfl (l' := #[.val (.int i0), .val (.int (0 : Int32)), .val (.int (1 : Int32)), .val (.int (0 : Int32)), .val (.ref b358), .val (.ref b375), .val (.int ((0 : Int32) + (0 : Int32))), .unset, .unset, .unset]) rfl k) ?_
        show own_Run p e below s _ _ _ (T401.setTop (mkF m 104 #[.val (.int i0), .val (.int (0 : Int32)), .val (.int (1 : Int32)), .val (.int (0 : Int32)), .val (.ref b358), .val (.ref b375), .val (.int ((0 : Int32) + (0 : Int32))), .unset, .unset, .unset] []))
        refine own_st (fun t k => XS.iload X401.here hx rfl (hb hby at_104) rfl k) ?_
        show own_Run p e below s _ _ _ (T401.setTop (mkF m 106 #[.val (.int i0), .val (.int (0 : Int32)), .val (.int (1 : Int32)), .val (.int (0 : Int32)), .val (.ref b358), .val (.ref b375), .val (.int ((0 : Int32) + (0 : Int32))), .unset, .unset, .unset] [(.int ((0 : Int32) + (0 : Int32)))]))
        refine own_st (fun t k => XS.iloadN X401.here hx rfl (hb hby at_106) rfl k) ?_
        show own_Run p e below s _ _ _ (T401.setTop (mkF m 107 #[.val (.int i0), .val (.int (0 : Int32)), .val (.int (1 : Int32)), .val (.int (0 : Int32)), .val (.ref b358), .val (.ref b375), .val (.int ((0 : Int32) + (0 : Int32))), .unset, .unset, .unset] [(.int (1 : Int32)), (.int ((0 : Int32) + (0 : Int32)))]))
        refine own_st (fun t k => XS.ifNo X401.here hx rfl (hb hby at_107) rfl ((if0 _ _).trans (feq (by decide : ¬ ((1 : Int32) = (0 : Int32)))).1) k) ?_
        show own_Run p e below s _ _ _ (T401.setTop (mkF m 110 #[.val (.int i0), .val (.int (0 : Int32)), .val (.int (1 : Int32)), .val (.int (0 : Int32)), .val (.ref b358), .val (.ref b375), .val (.int ((0 : Int32) + (0 : Int32))), .unset, .unset, .unset] [(.int ((0 : Int32) + (0 : Int32)))]))
        refine own_st (fun t k => XS.iconst X401.here hx rfl (hb hby at_110) k) ?_
        show own_Run p e below s _ _ _ (T401.setTop (mkF m 111 #[.val (.int i0), .val (.int (0 : Int32)), .val (.int (1 : Int32)), .val (.int (0 : Int32)), .val (.ref b358), .val (.ref b375), .val (.int ((0 : Int32) + (0 : Int32))), .unset, .unset, .unset] [(.int (1 : Int32)), (.int ((0 : Int32) + (0 : Int32)))]))
        refine own_st (fun t k => XS.goto X401.here hx rfl (pc0 := 111) (pc' := 115) rfl (hb hby at_111) (by decide) (by decide) k) ?_
        show own_Run p e below s _ _ _ (T401.setTop (mkF m 115 #[.val (.int i0), .val (.int (0 : Int32)), .val (.int (1 : Int32)), .val (.int (0 : Int32)), .val (.ref b358), .val (.ref b375), .val (.int ((0 : Int32) + (0 : Int32))), .unset, .unset, .unset] [(.int (1 : Int32)), (.int ((0 : Int32) + (0 : Int32)))]))
        refine own_st (fun t k => XS.iadd X401.here hx rfl (hb hby at_115) rfl k) ?_
        show own_Run p e below s _ _ _ (T401.setTop (mkF m 116 #[.val (.int i0), .val (.int (0 : Int32)), .val (.int (1 : Int32)), .val (.int (0 : Int32)), .val (.ref b358), .val (.ref b375), .val (.int ((0 : Int32) + (0 : Int32))), .unset, .unset, .unset] [(.int (((0 : Int32) + (0 : Int32)) + (1 : Int32)))]))
        refine own_st (fun t k => XS.istore X401.here hx rfl (hb hby at_116) rfl (l' := #[.val (.int i0), .val (.int (0 : Int32)), .val (.int (1 : Int32)), .val (.int (0 : Int32)), .val (.ref b358), .val (.ref b375), .val (.int ((0 : Int32) + (0 : Int32))), .val (.int (((0 : Int32) + (0 : Int32)) + (1 : Int32))), .unset, .unset]) rfl k) ?_
        show own_Run p e below s _ _ _ (T401.setTop (mkF m 118 #[.val (.int i0), .val (.int (0 : Int32)), .val (.int (1 : Int32)), .val (.int (0 : Int32)), .val (.ref b358), .val (.ref b375), .val (.int ((0 : Int32) + (0 : Int32))), .val (.int (((0 : Int32) + (0 : Int32)) + (1 : Int32))), .unset, .unset] []))
        have E413 := (Q381.keep K401q)
        have F414 := (Q382.keep K401q (ninS (Ne.symm (Nat.ne_of_lt (Nat.lt_of_lt_of_le (Nat.lt_of_lt_of_le A358.lt K363q.1) (Nat.le_of_eq g375.symm)))) nin0))
        have F415 := (Q383.keep K401q (ninS (Ne.symm (Nat.ne_of_lt (Nat.lt_of_lt_of_le (Nat.lt_of_lt_of_le A358.lt K363q.1) (Nat.le_of_eq g375.symm)))) nin0))
        have F416 := (Q384.keep K401q (ninS (Ne.symm (Nat.ne_of_lt (Nat.lt_of_lt_of_le (Nat.lt_of_lt_of_le A358.lt K363q.1) (Nat.le_of_eq g375.symm)))) nin0))
        have F417 := (Q385.keep K401q (ninS (Ne.symm (Nat.ne_of_lt (Nat.lt_of_lt_of_le (Nat.lt_of_lt_of_le A358.lt K363q.1) (Nat.le_of_eq g375.symm)))) nin0))
        have F418 := (Q386.keep K401q (ninS (Ne.symm (Nat.ne_of_lt (Nat.lt_of_lt_of_le (Nat.lt_of_lt_of_le A358.lt K363q.1) (Nat.le_of_eq g375.symm)))) nin0))
        have F419 := (Q387.keep K401q (ninS (Ne.symm (Nat.ne_of_lt (Nat.lt_of_lt_of_le (Nat.lt_of_lt_of_le A358.lt K363q.1) (Nat.le_of_eq g375.symm)))) nin0))
        have F420 := (Q388.keep K401q (ninS (Ne.symm (Nat.ne_of_lt (Nat.lt_of_lt_of_le (Nat.lt_of_lt_of_le A358.lt K363q.1) (Nat.le_of_eq g375.symm)))) nin0))
        have F421 := (Q389.keep K401q (ninS (Ne.symm (Nat.ne_of_lt (Nat.lt_of_lt_of_le (Nat.lt_of_lt_of_le A358.lt K363q.1) (Nat.le_of_eq g375.symm)))) nin0))
        exact own_tail l Z a0 hw T401 _ hx hby hml hZ hown hnm hret hlk te i0 (0 : Int32) (1 : Int32) (0 : Int32) b358 b375 ((0 : Int32) + (0 : Int32)) (((0 : Int32) + (0 : Int32)) + (1 : Int32)) ((0 : Int32) + (1 : Int32)) (0 : Int32) h0 n0 Z0 _ (X401.more (by decide) (by decide)) rfl N401 K411 O412 S_E Q402 ge360 sz359 Q403 Q404 Q405 Q406 Q407 Q408 Q409 Q410 E413 ge377 sz376 F414 F415 F416 F417 F418 F419 F420 F421 (Ne.symm (Nat.ne_of_lt (Nat.lt_of_lt_of_le (Nat.lt_of_lt_of_le A358.lt K363q.1) (Nat.le_of_eq g375.symm)))) (by decide) (by decide)
      · skip
        refine own_st (fun t k => XS.ifNo X0.here hx rfl (hb hby at_27) rfl ((if0 _ _).trans (feq (hc357 : ¬ ((i0 &&& (4 : Int32)) = (0 : Int32)))).1) k) ?_
        show own_Run p e below s _ _ _ (s₁.setTop (mkF m 30 #[.val (.int i0), .val (.int (0 : Int32)), .val (.int (1 : Int32)), .unset, .unset, .unset, .unset, .unset, .unset, .unset] []))
        refine own_st (fun t k => XS.iconst X0.here hx rfl (hb hby at_30) k) ?_
        show own_Run p e below s _ _ _ (s₁.setTop (mkF m 31 #[.val (.int i0), .val (.int (0 : Int32)), .val (.int (1 : Int32)), .unset, .unset, .unset, .unset, .unset, .unset, .unset] [(.int (1 : Int32))]))
        refine own_st (fun t k => XS.goto X0.here hx rfl (pc0 := 31) (pc' := 35) rfl (hb hby at_31) (by decide) (by decide) k) ?_
        show own_Run p e below s _ _ _ (s₁.setTop (mkF m 35 #[.val (.int i0), .val (.int (0 : Int32)), .val (.int (1 : Int32)), .unset, .unset, .unset, .unset, .unset, .unset, .unset] [(.int (1 : Int32))]))
        refine own_st (fun t k => XS.istoreN X0.here hx rfl (hb hby at_35) rfl (l' := #[.val (.int i0), .val (.int (0 : Int32)), .val (.int (1 : Int32)), .val (.int (1 : Int32)), .unset, .unset, .unset, .unset, .unset, .unset]) rfl k) ?_
        show own_Run p e below s _ _ _ (s₁.setTop (mkF m 36 #[.val (.int i0), .val (.int (0 : Int32)), .val (.int (1 : Int32)), .val (.int (1 : Int32)), .unset, .unset, .unset, .unset, .unset, .unset] []))
        obtain ⟨T422, h422, X422, e422, E422, A422, D422, -, st422⟩ := newO X0 hx hZ hown (hw _ (List.mem_of_getElem? (i := 0) rfl)) (hw _ (List.mem_of_getElem? (i := 1) rfl)) (hw _ (List.mem_of_getElem? (i := 2) rfl)) e0 (g := (mkF m 36 #[.val (.int i0), .val (.int (0 : Int32)), .val (.int (1 : Int32)), .val (.int (1 : Int32)), .unset, .unset, .unset, .unset, .unset, .unset] [])) rfl (hb hby at_36) (by decide) (by decide)
        obtain ⟨b422, g422⟩ : ∃ z, z = h0.size := ⟨_, rfl⟩
        rw [← g422] at A422 D422 st422
        have sz423 : h0.size ≤ b422 := Nat.le_trans K0.1 (Nat.le_of_eq g422.symm)
        have ge424 : n0 ≤ b422 := Nat.le_trans Z0 sz423
        refine own_st st422 ?_
        have K425 : Keep h0 h422 [] := K0.ext E422
        have O426 := O0.ext E422
        show own_Run p e below s _ _ _ (T422.setTop (mkF m 39 #[.val (.int i0), .val (.int (0 : Int32)), .val (.int (1 : Int32)), .val (.int (1 : Int32)), .unset, .unset, .unset, .unset, .unset, .unset] [(.ref b422)]))
        refine own_st (fun t k => XS.dup X422.here hx rfl (hb hby at_39) rfl rfl k) ?_
        show own_Run p e below s _ _ _ (T422.setTop (mkF m 40 #[.val (.int i0), .val (.int (0 : Int32)), .val (.int (1 : Int32)), .val (.int (1 : Int32)), .unset, .unset, .unset, .unset, .unset, .unset] [(.ref b422), (.ref b422)]))
        refine own_callI X422 hx hZ (y := (⟨"com/example/kerb2d/kerb2d/engine/Tally", "<init>", "()V"⟩ : MethodName)) rfl hown (hw _ (List.mem_of_getElem? (i := 3) rfl)) (hw _ (List.mem_of_getElem? (i := 4) rfl)) (hw _ (List.mem_of_getElem? (i := 5) rfl)) (hw _ (List.mem_of_getElem? (i := 2) rfl)) (by decide) e422 (a := b422) (argsL := []) (rest := [(.ref b422)]) (W := 1) (own_rm1 l Z a0 hw [] b422 h422 n0 (Nat.le_trans Z0 K425.1) A422 D422 ge424) (by decide) (by decide) (by rw [hml]; rfl) (lenOf own_pd2 rfl) rfl (by exact Nat.le_of_eq rfl) (hb hby at_40) (by decide) (by decide) ?_
        intro T427 v427 L427 X427 hq427
        obtain ⟨rfl, N427q, K427q, Q428, Q429, Q430, Q431, Q432, Q433, Q434, Q435, Q436⟩ := hq427
        have K437 : Keep h0 T427.heap [] := K425.trans K427q (allS (Or.inr sz423) all0)
        have O438 := O426.keep K427q (allS ge424 all0)
        have N427 := Fr.app N0 N427q
        show own_Run p e below s _ _ _ (T427.setTop (mkF m 43 #[.val (.int i0), .val (.int (0 : Int32)), .val (.int (1 : Int32)), .val (.int (1 : Int32)), .unset, .unset, .unset, .unset, .unset, .unset] [(.ref b422)]))
        refine own_st (fun t k => XS.astore X427.here hx rfl (hb hby at_43) rfl rfl (l' := #[.val (.int i0), .val (.int (0 : Int32)), .val (.int (1 : Int32)), .val (.int (1 : Int32)), .val (.ref b422), .unset, .unset, .unset, .unset, .unset]) rfl k) ?_
        show own_Run p e below s _ _ _ (T427.setTop (mkF m 45 #[.val (.int i0), .val (.int (0 : Int32)), .val (.int (1 : Int32)), .val (.int (1 : Int32)), .val (.ref b422), .unset, .unset, .unset, .unset, .unset] []))
        obtain ⟨T439, h439, X439, e439, E439, A439, D439, -, st439⟩ := newO X427 hx hZ hown (hw _ (List.mem_of_getElem? (i := 0) rfl)) (hw _ (List.mem_of_getElem? (i := 1) rfl)) (hw _ (List.mem_of_getElem? (i := 2) rfl)) rfl (g := (mkF m 45 #[.val (.int i0), .val (.int (0 : Int32)), .val (.int (1 : Int32)), .val (.int (1 : Int32)), .val (.ref b422), .unset, .unset, .unset, .unset, .unset] [])) rfl (hb hby at_45) (by decide) (by decide)
        obtain ⟨b439, g439⟩ : ∃ z, z = T427.heap.size := ⟨_, rfl⟩
        rw [← g439] at A439 D439 st439
        have sz440 : h0.size ≤ b439 := Nat.le_trans K437.1 (Nat.le_of_eq g439.symm)
        have ge441 : n0 ≤ b439 := Nat.le_trans Z0 sz440
        refine own_st st439 ?_
        have K442 : Keep h0 h439 [] := K437.ext E439
        have O443 := O438.ext E439
        show own_Run p e below s _ _ _ (T439.setTop (mkF m 48 #[.val (.int i0), .val (.int (0 : Int32)), .val (.int (1 : Int32)), .val (.int (1 : Int32)), .val (.ref b422), .unset, .unset, .unset, .unset, .unset] [(.ref b439)]))
        refine own_st (fun t k => XS.dup X439.here hx rfl (hb hby at_48) rfl rfl k) ?_
        show own_Run p e below s _ _ _ (T439.setTop (mkF m 49 #[.val (.int i0), .val (.int (0 : Int32)), .val (.int (1 : Int32)), .val (.int (1 : Int32)), .val (.ref b422), .unset, .unset, .unset, .unset, .unset] [(.ref b439), (.ref b439)]))
        refine own_st (fun t k => XS.aload X439.here hx rfl (hb hby at_49) rfl rfl k) ?_
        show own_Run p e below s _ _ _ (T439.setTop (mkF m 51 #[.val (.int i0), .val (.int (0 : Int32)), .val (.int (1 : Int32)), .val (.int (1 : Int32)), .val (.ref b422), .unset, .unset, .unset, .unset, .unset] [(.ref b422), (.ref b439), (.ref b439)]))
        refine own_callI X439 hx hZ (y := (⟨"com/example/kerb2d/kerb2d/engine/Tally", "<init>", "(Lcom/example/kerb2d/kerb2d/engine/Tally;)V"⟩ : MethodName)) rfl hown (hw _ (List.mem_of_getElem? (i := 14) rfl)) (hw _ (List.mem_of_getElem? (i := 7) rfl)) (hw _ (List.mem_of_getElem? (i := 8) rfl)) (hw _ (List.mem_of_getElem? (i := 2) rfl)) (by decide) e439 (a := b439) (argsL := [(.ref b422)]) (rest := [(.ref b439)]) (W := 1) (own_rm2R l Z a0 hw [] b439 b422 h439 n0 (Nat.le_trans Z0 K442.1) A439 D439 ge441) (by decide) (by decide) (by rw [hml]; rfl) (lenOf own_pd1 rfl) rfl (by exact Nat.le_of_eq rfl) (hb hby at_51) (by decide) (by decide) ?_
        intro T444 v444 L444 X444 hq444
        obtain ⟨rfl, N444q, K444q, Q445, Q446, Q447, Q448, Q449, Q450, Q451, Q452, Q453⟩ := hq444
        have K454 : Keep h0 T444.heap [] := K442.trans K444q (allS (Or.inr sz440) all0)
        have O455 := O443.keep K444q (allS ge441 all0)
        have N444 := Fr.app N427 N444q
        show own_Run p e below s _ _ _ (T444.setTop (mkF m 54 #[.val (.int i0), .val (.int (0 : Int32)), .val (.int (1 : Int32)), .val (.int (1 : Int32)), .val (.ref b422), .unset, .unset, .unset, .unset, .unset] [(.ref b439)]))
        refine own_st (fun t k => XS.astore X444.here hx rfl (hb hby at_54) rfl rfl (l' := #[.val (.int i0), .val (.int (0 : Int32)), .val (.int (1 : Int32)), .val (.int (1 : Int32)), .val (.ref b422), .val (.ref b439), .unset, .unset, .unset, .unset]) rfl k) ?_
        show own_Run p e below s _ _ _ (T444.setTop (mkF m 56 #[.val (.int i0), .val (.int (0 : Int32)), .val (.int (1 : Int32)), .val (.int (1 : Int32)), .val (.ref b422), .val (.ref b439), .unset, .unset, .unset, .unset] []))
        refine own_st (fun t k => XS.iloadN X444.here hx rfl (hb hby at_56) rfl k) ?_
        show own_Run p e below s _ _ _ (T444.setTop (mkF m 57 #[.val (.int i0), .val (.int (0 : Int32)), .val (.int (1 : Int32)), .val (.int (1 : Int32)), .val (.ref b422), .val (.ref b439), .unset, .unset, .unset, .unset] [(.int (0 : Int32))]))
        refine own_st (fun t k => XS.ifYes X444.here hx rfl (pc0 := 57) (pc' := 65) rfl (hb hby at_57) rfl ((if0 _ _).trans (teq (by decide : (0 : Int32) = (0 : Int32))).1) (by decide) (by decide) k) ?_
        show own_Run p e below s _ _ _ (T444.setTop (mkF m 65 #[.val (.int i0), .val (.int (0 : Int32)), .val (.int (1 : Int32)), .val (.int (1 : Int32)), .val (.ref b422), .val (.ref b439), .unset, .unset, .unset, .unset] []))
        refine own_st (fun t k => XS.iloadN X444.here hx rfl (hb hby at_65) rfl k) ?_
        show own_Run p e below s _ _ _ (T444.setTop (mkF m 66 #[.val (.int i0), .val (.int (0 : Int32)), .val (.int (1 : Int32)), .val (.int (1 : Int32)), .val (.ref b422), .val (.ref b439), .unset, .unset, .unset, .unset] [(.int (1 : Int32))]))
        refine own_st (fun t k => XS.ifNo X444.here hx rfl (hb hby at_66) rfl ((if0 _ _).trans (feq (by decide : ¬ ((1 : Int32) = (0 : Int32)))).1) k) ?_
        show own_Run p e below s _ _ _ (T444.setTop (mkF m 69 #[.val (.int i0), .val (.int (0 : Int32)), .val (.int (1 : Int32)), .val (.int (1 : Int32)), .val (.ref b422), .val (.ref b439), .unset, .unset, .unset, .unset] []))
        refine own_st (fun t k => XS.aload X444.here hx rfl (hb hby at_69) rfl rfl k) ?_
        show own_Run p e below s _ _ _ (T444.setTop (mkF m 71 #[.val (.int i0), .val (.int (0 : Int32)), .val (.int (1 : Int32)), .val (.int (1 : Int32)), .val (.ref b422), .val (.ref b439), .unset, .unset, .unset, .unset] [(.ref b422)]))
        have E456 := ((Q428.ext E439).keep K444q)
        have F457 := ((Q429.ext E439).keep K444q (ninS (Nat.ne_of_lt (Nat.lt_of_lt_of_le (Nat.lt_of_lt_of_le A422.lt K427q.1) (Nat.le_of_eq g439.symm))) nin0))
        have F458 := ((Q430.ext E439).keep K444q (ninS (Nat.ne_of_lt (Nat.lt_of_lt_of_le (Nat.lt_of_lt_of_le A422.lt K427q.1) (Nat.le_of_eq g439.symm))) nin0))
        have F459 := ((Q431.ext E439).keep K444q (ninS (Nat.ne_of_lt (Nat.lt_of_lt_of_le (Nat.lt_of_lt_of_le A422.lt K427q.1) (Nat.le_of_eq g439.symm))) nin0))
        have F460 := ((Q432.ext E439).keep K444q (ninS (Nat.ne_of_lt (Nat.lt_of_lt_of_le (Nat.lt_of_lt_of_le A422.lt K427q.1) (Nat.le_of_eq g439.symm))) nin0))
        have F461 := ((Q433.ext E439).keep K444q (ninS (Nat.ne_of_lt (Nat.lt_of_lt_of_le (Nat.lt_of_lt_of_le A422.lt K427q.1) (Nat.le_of_eq g439.symm))) nin0))
        have F462 := ((Q434.ext E439).keep K444q (ninS (Nat.ne_of_lt (Nat.lt_of_lt_of_le (Nat.lt_of_lt_of_le A422.lt K427q.1) (Nat.le_of_eq g439.symm))) nin0))
        have F463 := ((Q435.ext E439).keep K444q (ninS (Nat.ne_of_lt (Nat.lt_of_lt_of_le (Nat.lt_of_lt_of_le A422.lt K427q.1) (Nat.le_of_eq g439.symm))) nin0))
        have F464 := ((Q436.ext E439).keep K444q (ninS (Nat.ne_of_lt (Nat.lt_of_lt_of_le (Nat.lt_of_lt_of_le A422.lt K427q.1) (Nat.le_of_eq g439.symm))) nin0))
        refine own_callV X444 hx hZ (y := (⟨"com/example/kerb2d/kerb2d/engine/Tally", "enter", "()V"⟩ : MethodName)) (C := "com/example/kerb2d/kerb2d/engine/Tally") hown (hw _ (List.mem_of_getElem? (i := 87) rfl)) (hw _ (List.mem_of_getElem? (i := 88) rfl)) (hw _ (List.mem_of_getElem? (i := 90) rfl)) (hw _ (List.mem_of_getElem? (i := 89) rfl)) (hw _ (List.mem_of_getElem? (i := 91) rfl)) (hw _ (List.mem_of_getElem? (i := 2) rfl)) (by decide) rfl (a := b422) E456 (argsL := []) (rest := []) (W := 0) (own_rm10W l Z a0 hw [] b422 (0 : Int32) (0 : Int32) T444.heap n0 (Nat.le_trans Z0 K454.1) E456 ge424 F457 F458 F459 F460 F461 F462 F463 F464) (by decide) (by decide) (by rw [hml]; rfl) (lenOf own_pd2 rfl) rfl (by exact Nat.le_of_eq rfl) (hb hby at_71) (by decide) (by decide) ?_
        intro T465 v465 L465 X465 hq465
        obtain ⟨rfl, N465q, K465q, Q466, Q467, Q468, Q469, Q470, Q471, Q472, Q473, Q474⟩ := hq465
        have K475 : Keep h0 T465.heap [] := K454.trans K465q (allS (Or.inr sz423) all0)
        have O476 := O455.keep K465q (allS ge424 all0)
        have N465 := Fr.app N444 N465q
        show own_Run p e below s _ _ _ (T465.setTop (mkF m 74 #[.val (.int i0), .val (.int (0 : Int32)), .val (.int (1 : Int32)), .val (.int (1 : Int32)), .val (.ref b422), .val (.ref b439), .unset, .unset, .unset, .unset] []))
        refine own_st (fun t k => XS.iloadN X465.here hx rfl (hb hby at_74) rfl k) ?_
        show own_Run p e below s _ _ _ (T465.setTop (mkF m 75 #[.val (.int i0), .val (.int (0 : Int32)), .val (.int (1 : Int32)), .val (.int (1 : Int32)), .val (.ref b422), .val (.ref b439), .unset, .unset, .unset, .unset] [(.int (1 : Int32))]))
        refine own_st (fun t k => XS.ifNo X465.here hx rfl (hb hby at_75) rfl ((if0 _ _).trans (feq (by decide : ¬ ((1 : Int32) = (0 : Int32)))).1) k) ?_
        show own_Run p e below s _ _ _ (T465.setTop (mkF m 78 #[.val (.int i0), .val (.int (0 : Int32)), .val (.int (1 : Int32)), .val (.int (1 : Int32)), .val (.ref b422), .val (.ref b439), .unset, .unset, .unset, .unset] []))
        refine own_st (fun t k => XS.aload X465.here hx rfl (hb hby at_78) rfl rfl k) ?_
        show own_Run p e below s _ _ _ (T465.setTop (mkF m 80 #[.val (.int i0), .val (.int (0 : Int32)), .val (.int (1 : Int32)), .val (.int (1 : Int32)), .val (.ref b422), .val (.ref b439), .unset, .unset, .unset, .unset] [(.ref b439)]))
        have E477 := (Q445.keep K465q)
        have F478 := (Q446.keep K465q (ninS (Ne.symm (Nat.ne_of_lt (Nat.lt_of_lt_of_le (Nat.lt_of_lt_of_le A422.lt K427q.1) (Nat.le_of_eq g439.symm)))) nin0))
        have F479 := (Q447.keep K465q (ninS (Ne.symm (Nat.ne_of_lt (Nat.lt_of_lt_of_le (Nat.lt_of_lt_of_le A422.lt K427q.1) (Nat.le_of_eq g439.symm)))) nin0))
        have F480 := (Q448.keep K465q (ninS (Ne.symm (Nat.ne_of_lt (Nat.lt_of_lt_of_le (Nat.lt_of_lt_of_le A422.lt K427q.1) (Nat.le_of_eq g439.symm)))) nin0))
        have F481 := (Q449.keep K465q (ninS (Ne.symm (Nat.ne_of_lt (Nat.lt_of_lt_of_le (Nat.lt_of_lt_of_le A422.lt K427q.1) (Nat.le_of_eq g439.symm)))) nin0))
        have F482 := (Q450.keep K465q (ninS (Ne.symm (Nat.ne_of_lt (Nat.lt_of_lt_of_le (Nat.lt_of_lt_of_le A422.lt K427q.1) (Nat.le_of_eq g439.symm)))) nin0))
        have F483 := (Q451.keep K465q (ninS (Ne.symm (Nat.ne_of_lt (Nat.lt_of_lt_of_le (Nat.lt_of_lt_of_le A422.lt K427q.1) (Nat.le_of_eq g439.symm)))) nin0))
        have F484 := (Q452.keep K465q (ninS (Ne.symm (Nat.ne_of_lt (Nat.lt_of_lt_of_le (Nat.lt_of_lt_of_le A422.lt K427q.1) (Nat.le_of_eq g439.symm)))) nin0))
        have F485 := (Q453.keep K465q (ninS (Ne.symm (Nat.ne_of_lt (Nat.lt_of_lt_of_le (Nat.lt_of_lt_of_le A422.lt K427q.1) (Nat.le_of_eq g439.symm)))) nin0))
        refine own_callV X465 hx hZ (y := (⟨"com/example/kerb2d/kerb2d/engine/Tally", "enter", "()V"⟩ : MethodName)) (C := "com/example/kerb2d/kerb2d/engine/Tally") hown (hw _ (List.mem_of_getElem? (i := 87) rfl)) (hw _ (List.mem_of_getElem? (i := 88) rfl)) (hw _ (List.mem_of_getElem? (i := 90) rfl)) (hw _ (List.mem_of_getElem? (i := 89) rfl)) (hw _ (List.mem_of_getElem? (i := 91) rfl)) (hw _ (List.mem_of_getElem? (i := 2) rfl)) (by decide) rfl (a := b439) E477 (argsL := []) (rest := []) (W := 0) (own_rm10P l Z a0 hw [] b439 b422 (0 : Int32) (0 : Int32) (0 : Int32) ((0 : Int32) + (1 : Int32)) T465.heap n0 (Nat.le_trans Z0 K475.1) E477 ge441 F478 F479 F480 F481 F482 F483 F484 F485 Q466 ge424 Q467 Q468 Q469 Q470 Q471 Q472 Q473 Q474 (Ne.symm (Nat.ne_of_lt (Nat.lt_of_lt_of_le (Nat.lt_of_lt_of_le A422.lt K427q.1) (Nat.le_of_eq g439.symm))))) (by decide) (by decide) (by rw [hml]; rfl) (lenOf own_pd2 rfl) rfl (by exact Nat.le_of_eq rfl) (hb hby at_80) (by decide) (by decide) ?_
        intro T486 v486 L486 X486 hq486
        obtain ⟨rfl, N486q, K486q, Q487, Q488, Q489, Q490, Q491, Q492, Q493, Q494, Q495, Q496, Q497, Q498, Q499, Q500, Q501, Q502, Q503, Q504⟩ := hq486
        have K505 : Keep h0 T486.heap [] := K475.trans K486q (allS (Or.inr sz440) (allS (Or.inr sz423) all0))
        have O506 := O476.keep K486q (allS ge441 (allS ge424 all0))
        have N486 := Fr.app N465 N486q
        show own_Run p e below s _ _ _ (T486.setTop (mkF m 83 #[.val (.int i0), .val (.int (0 : Int32)), .val (.int (1 : Int32)), .val (.int (1 : Int32)), .val (.ref b422), .val (.ref b439), .unset, .unset, .unset, .unset] []))
        refine own_st (fun t k => XS.iloadN X486.here hx rfl (hb hby at_83) rfl k) ?_
        show own_Run p e below s _ _ _ (T486.setTop (mkF m 84 #[.val (.int i0), .val (.int (0 : Int32)), .val (.int (1 : Int32)), .val (.int (1 : Int32)), .val (.ref b422), .val (.ref b439), .unset, .unset, .unset, .unset] [(.int (0 : Int32))]))
        refine own_st (fun t k => XS.ifYes X486.here hx rfl (pc0 := 84) (pc' := 91) rfl (hb hby at_84) rfl ((if0 _ _).trans (teq (by decide : (0 : Int32) = (0 : Int32))).1) (by decide) (by decide) k) ?_
        show own_Run p e below s _ _ _ (T486.setTop (mkF m 91 #[.val (.int i0), .val (.int (0 : Int32)), .val (.int (1 : Int32)), .val (.int (1 : Int32)), .val (.ref b422), .val (.ref b439), .unset, .unset, .unset, .unset] []))
        refine own_st (fun t k => XS.iconst X486.here hx rfl (hb hby at_91) k) ?_
        show own_Run p e below s _ _ _ (T486.setTop (mkF m 92 #[.val (.int i0), .val (.int (0 : Int32)), .val (.int (1 : Int32)), .val (.int (1 : Int32)), .val (.ref b422), .val (.ref b439), .unset, .unset, .unset, .unset] [(.int (0 : Int32))]))
        refine own_st (fun t k => XS.iloadN X486.here hx rfl (hb hby at_92) rfl k) ?_
        show own_Run p e below s _ _ _ (T486.setTop (mkF m 93 #[.val (.int i0), .val (.int (0 : Int32)), .val (.int (1 : Int32)), .val (.int (1 : Int32)), .val (.ref b422), .val (.ref b439), .unset, .unset, .unset, .unset] [(.int (1 : Int32)), (.int (0 : Int32))]))
        refine own_st (fun t k => XS.ifNo X486.here hx rfl (hb hby at_93) rfl ((if0 _ _).trans (feq (by decide : ¬ ((1 : Int32) = (0 : Int32)))).1) k) ?_
        show own_Run p e below s _ _ _ (T486.setTop (mkF m 96 #[.val (.int i0), .val (.int (0 : Int32)), .val (.int (1 : Int32)), .val (.int (1 : Int32)), .val (.ref b422), .val (.ref b439), .unset, .unset, .unset, .unset] [(.int (0 : Int32))]))
        refine own_st (fun t k => XS.iconst X486.here hx rfl (hb hby at_96) k) ?_
        show own_Run p e below s _ _ _ (T486.setTop (mkF m 97 #[.val (.int i0), .val (.int (0 : Int32)), .val (.int (1 : Int32)), .val (.int (1 : Int32)), .val (.ref b422), .val (.ref b439), .unset, .unset, .unset, .unset] [(.int (1 : Int32)), (.int (0 : Int32))]))
        refine own_st (fun t k => XS.goto X486.here hx rfl (pc0 := 97) (pc' := 101) rfl (hb hby at_97) (by decide) (by decide) k) ?_
        show own_Run p e below s _ _ _ (T486.setTop (mkF m 101 #[.val (.int i0), .val (.int (0 : Int32)), .val (.int (1 : Int32)), .val (.int (1 : Int32)), .val (.ref b422), .val (.ref b439), .unset, .unset, .unset, .unset] [(.int (1 : Int32)), (.int (0 : Int32))]))
        refine own_st (fun t k => XS.iadd X486.here hx rfl (hb hby at_101) rfl k) ?_
        show own_Run p e below s _ _ _ (T486.setTop (mkF m 102 #[.val (.int i0), .val (.int (0 : Int32)), .val (.int (1 : Int32)), .val (.int (1 : Int32)), .val (.ref b422), .val (.ref b439), .unset, .unset, .unset, .unset] [(.int ((0 : Int32) + (1 : Int32)))]))
        refine own_st (fun t k => XS.istore X486.here hx rfl (hb hby at_102) rfl (l' := #[.val (.int i0), .val (.int (0 : Int32)), .val (.int (1 : Int32)), .val (.int (1 : Int32)), .val (.ref b422), .val (.ref b439), .val (.int ((0 : Int32) + (1 : Int32))), .unset, .unset, .unset]) rfl k) ?_
        show own_Run p e below s _ _ _ (T486.setTop (mkF m 104 #[.val (.int i0), .val (.int (0 : Int32)), .val (.int (1 : Int32)), .val (.int (1 : Int32)), .val (.ref b422), .val (.ref b439), .val (.int ((0 : Int32) + (1 : Int32))), .unset, .unset, .unset] []))
        refine own_st (fun t k => XS.iload X486.here hx rfl (hb hby at_104) rfl k) ?_
        show own_Run p e below s _ _ _ (T486.setTop (mkF m 106 #[.val (.int i0), .val (.int (0 : Int32)), .val (.int (1 : Int32)), .val (.int (1 : Int32)), .val (.ref b422), .val (.ref b439), .val (.int ((0 : Int32) + (1 : Int32))), .unset, .unset, .unset] [(.int ((0 : Int32) + (1 : Int32)))]))
        refine own_st (fun t k => XS.iloadN X486.here hx rfl (hb hby at_106) rfl k) ?_
        show own_Run p e below s _ _ _ (T486.setTop (mkF m 107 #[.val (.int i0), .val (.int (0 : Int32)), .val (.int (1 : Int32)), .val (.int (1 : Int32)), .val (.ref b422), .val (.ref b439), .val (.int ((0 : Int32) + (1 : Int32))), .unset, .unset, .unset] [(.int (1 : Int32)), (.int ((0 : Int32) + (1 : Int32)))]))
        refine own_st (fun t k => XS.ifNo X486.here hx rfl (hb hby at_107) rfl ((if0 _ _).trans (feq (by decide : ¬ ((1 : Int32) = (0 : Int32)))).1) k) ?_
        show own_Run p e below s _ _ _ (T486.setTop (mkF m 110 #[.val (.int i0), .val (.int (0 : Int32)), .val (.int (1 : Int32)), .val (.int (1 : Int32)), .val (.ref b422), .val (.ref b439), .val (.int ((0 : Int32) + (1 : Int32))), .unset, .unset, .unset] [(.int ((0 : Int32) + (1 : Int32)))]))
        refine own_st (fun t k => XS.iconst X486.here hx rfl (hb hby at_110) k) ?_
        show own_Run p e below s _ _ _ (T486.setTop (mkF m 111 #[.val (.int i0), .val (.int (0 : Int32)), .val (.int (1 : Int32)), .val (.int (1 : Int32)), .val (.ref b422), .val (.ref b439), .val (.int ((0 : Int32) + (1 : Int32))), .unset, .unset, .unset] [(.int (1 : Int32)), (.int ((0 : Int32) + (1 : Int32)))]))
        refine own_st (fun t k => XS.goto X486.here hx rfl (pc0 := 111) (pc' := 115) rfl (hb hby at_111) (by decide) (by decide) k) ?_
        show own_Run p e below s _ _ _ (T486.setTop (mkF m 115 #[.val (.int i0), .val (.int (0 : Int32)), .val (.int (1 : Int32)), .val (.int (1 : Int32)), .val (.ref b422), .val (.ref b439), .val (.int ((0 : Int32) + (1 : Int32))), .unset, .unset, .unset] [(.int (1 : Int32)), (.int ((0 : Int32) + (1 : Int32)))]))
        refine own_st (fun t k => XS.iadd X486.here hx rfl (hb hby at_115) rfl k) ?_
        show own_Run p e below s _ _ _ (T486.setTop (mkF m 116 #[.val (.int i0), .val (.int (0 : Int32)), .val (.int (1 : Int32)), .val (.int (1 : Int32)), .val (.ref b422), .val (.ref b439), .val (.int ((0 : Int32) + (1 : Int32))), .unset, .unset, .unset] [(.int (((0 : Int32) + (1 : Int32)) + (1 : Int32)))]))
        refine own_st (fun t k => XS.istore X486.here hx rfl (hb hby at_116) rfl (l' := #[.val (.int i0), .val (.int (0 : Int32)), .val (.int (1 : Int32)), .val (.int (1 : Int32)), .val (.ref b422), .val (.ref b439), .val (.int ((0 : Int32) + (1 : Int32))), .val (.int (((0 : Int32) + (1 : Int32)) + (1 : Int32))), .unset, .unset]) rfl k) ?_
        show own_Run p e below s _ _ _ (T486.setTop (mkF m 118 #[.val (.int i0), .val (.int (0 : Int32)), .val (.int (1 : Int32)), .val (.int (1 : Int32)), .val (.ref b422), .val (.ref b439), .val (.int ((0 : Int32) + (1 : Int32))), .val (.int (((0 : Int32) + (1 : Int32)) + (1 : Int32))), .unset, .unset] []))
        exact own_tail l Z a0 hw T486 _ hx hby hml hZ hown hnm hret hlk te i0 (0 : Int32) (1 : Int32) (1 : Int32) b422 b439 ((0 : Int32) + (1 : Int32)) (((0 : Int32) + (1 : Int32)) + (1 : Int32)) (((0 : Int32) + (1 : Int32)) + (1 : Int32)) ((0 : Int32) + (1 : Int32)) h0 n0 Z0 _ (X486.more (by decide) (by decide)) rfl N486 K505 O506 S_E Q496 ge424 sz423 Q497 Q498 Q499 Q500 Q501 Q502 Q503 Q504 Q487 ge441 sz440 Q488 Q489 Q490 Q491 Q492 Q493 Q494 Q495 (Ne.symm (Nat.ne_of_lt (Nat.lt_of_lt_of_le (Nat.lt_of_lt_of_le A422.lt K427q.1) (Nat.le_of_eq g439.symm)))) (by decide) (by decide)
  · skip
    refine own_st (fun t k => XS.ifNo X0.here hx rfl (hb hby at_3) rfl ((if0 _ _).trans (feq (hc247 : ¬ ((i0 &&& (1 : Int32)) = (0 : Int32)))).1) k) ?_
    show own_Run p e below s _ _ _ (s₁.setTop (mkF m 6 #[.val (.int i0), .unset, .unset, .unset, .unset, .unset, .unset, .unset, .unset, .unset] []))
    refine own_st (fun t k => XS.iconst X0.here hx rfl (hb hby at_6) k) ?_
    show own_Run p e below s _ _ _ (s₁.setTop (mkF m 7 #[.val (.int i0), .unset, .unset, .unset, .unset, .unset, .unset, .unset, .unset, .unset] [(.int (1 : Int32))]))
    refine own_st (fun t k => XS.goto X0.here hx rfl (pc0 := 7) (pc' := 11) rfl (hb hby at_7) (by decide) (by decide) k) ?_
    show own_Run p e below s _ _ _ (s₁.setTop (mkF m 11 #[.val (.int i0), .unset, .unset, .unset, .unset, .unset, .unset, .unset, .unset, .unset] [(.int (1 : Int32))]))
    refine own_st (fun t k => XS.istoreN X0.here hx rfl (hb hby at_11) rfl (l' := #[.val (.int i0), .val (.int (1 : Int32)), .unset, .unset, .unset, .unset, .unset, .unset, .unset, .unset]) rfl k) ?_
    show own_Run p e below s _ _ _ (s₁.setTop (mkF m 12 #[.val (.int i0), .val (.int (1 : Int32)), .unset, .unset, .unset, .unset, .unset, .unset, .unset, .unset] []))
    refine own_st (fun t k => XS.iloadN X0.here hx rfl (hb hby at_12) rfl k) ?_
    show own_Run p e below s _ _ _ (s₁.setTop (mkF m 13 #[.val (.int i0), .val (.int (1 : Int32)), .unset, .unset, .unset, .unset, .unset, .unset, .unset, .unset] [(.int i0)]))
    refine own_st (fun t k => XS.iconst X0.here hx rfl (hb hby at_13) k) ?_
    show own_Run p e below s _ _ _ (s₁.setTop (mkF m 14 #[.val (.int i0), .val (.int (1 : Int32)), .unset, .unset, .unset, .unset, .unset, .unset, .unset, .unset] [(.int (2 : Int32)), (.int i0)]))
    refine own_st (fun t k => XS.iand X0.here hx rfl (hb hby at_14) rfl k) ?_
    show own_Run p e below s _ _ _ (s₁.setTop (mkF m 15 #[.val (.int i0), .val (.int (1 : Int32)), .unset, .unset, .unset, .unset, .unset, .unset, .unset, .unset] [(.int (i0 &&& (2 : Int32)))]))
    by_cases hc507 : (i0 &&& (2 : Int32)) = (0 : Int32)
    · skip
      refine own_st (fun t k => XS.ifYes X0.here hx rfl (pc0 := 15) (pc' := 22) rfl (hb hby at_15) rfl ((if0 _ _).trans (teq (hc507 : (i0 &&& (2 : Int32)) = (0 : Int32))).1) (by decide) (by decide) k) ?_
      show own_Run p e below s _ _ _ (s₁.setTop (mkF m 22 #[.val (.int i0), .val (.int (1 : Int32)), .unset, .unset, .unset, .unset, .unset, .unset, .unset, .unset] []))
      refine own_st (fun t k => XS.iconst X0.here hx rfl (hb hby at_22) k) ?_
      show own_Run p e below s _ _ _ (s₁.setTop (mkF m 23 #[.val (.int i0), .val (.int (1 : Int32)), .unset, .unset, .unset, .unset, .unset, .unset, .unset, .unset] [(.int (0 : Int32))]))
      refine own_st (fun t k => XS.istoreN X0.here hx rfl (hb hby at_23) rfl (l' := #[.val (.int i0), .val (.int (1 : Int32)), .val (.int (0 : Int32)), .unset, .unset, .unset, .unset, .unset, .unset, .unset]) rfl k) ?_
      show own_Run p e below s _ _ _ (s₁.setTop (mkF m 24 #[.val (.int i0), .val (.int (1 : Int32)), .val (.int (0 : Int32)), .unset, .unset, .unset, .unset, .unset, .unset, .unset] []))
      refine own_st (fun t k => XS.iloadN X0.here hx rfl (hb hby at_24) rfl k) ?_
      show own_Run p e below s _ _ _ (s₁.setTop (mkF m 25 #[.val (.int i0), .val (.int (1 : Int32)), .val (.int (0 : Int32)), .unset, .unset, .unset, .unset, .unset, .unset, .unset] [(.int i0)]))
      refine own_st (fun t k => XS.iconst X0.here hx rfl (hb hby at_25) k) ?_
      show own_Run p e below s _ _ _ (s₁.setTop (mkF m 26 #[.val (.int i0), .val (.int (1 : Int32)), .val (.int (0 : Int32)), .unset, .unset, .unset, .unset, .unset, .unset, .unset] [(.int (4 : Int32)), (.int i0)]))
      refine own_st (fun t k => XS.iand X0.here hx rfl (hb hby at_26) rfl k) ?_
      show own_Run p e below s _ _ _ (s₁.setTop (mkF m 27 #[.val (.int i0), .val (.int (1 : Int32)), .val (.int (0 : Int32)), .unset, .unset, .unset, .unset, .unset, .unset, .unset] [(.int (i0 &&& (4 : Int32)))]))
      by_cases hc508 : (i0 &&& (4 : Int32)) = (0 : Int32)
      · skip
        refine own_st (fun t k => XS.ifYes X0.here hx rfl (pc0 := 27) (pc' := 34) rfl (hb hby at_27) rfl ((if0 _ _).trans (teq (hc508 : (i0 &&& (4 : Int32)) = (0 : Int32))).1) (by decide) (by decide) k) ?_
        show own_Run p e below s _ _ _ (s₁.setTop (mkF m 34 #[.val (.int i0), .val (.int (1 : Int32)), .val (.int (0 : Int32)), .unset, .unset, .unset, .unset, .unset, .unset, .unset] []))
        refine own_st (fun t k => XS.iconst X0.here hx rfl (hb hby at_34) k) ?_
        show own_Run p e below s _ _ _ (s₁.setTop (mkF m 35 #[.val (.int i0), .val (.int (1 : Int32)), .val (.int (0 : Int32)), .unset, .unset, .unset, .unset, .unset, .unset, .unset] [(.int (0 : Int32))]))
        refine own_st (fun t k => XS.istoreN X0.here hx rfl (hb hby at_35) rfl (l' := #[.val (.int i0), .val (.int (1 : Int32)), .val (.int (0 : Int32)), .val (.int (0 : Int32)), .unset, .unset, .unset, .unset, .unset, .unset]) rfl k) ?_
        show own_Run p e below s _ _ _ (s₁.setTop (mkF m 36 #[.val (.int i0), .val (.int (1 : Int32)), .val (.int (0 : Int32)), .val (.int (0 : Int32)), .unset, .unset, .unset, .unset, .unset, .unset] []))
        obtain ⟨T509, h509, X509, e509, E509, A509, D509, -, st509⟩ := newO X0 hx hZ hown (hw _ (List.mem_of_getElem? (i := 0) rfl)) (hw _ (List.mem_of_getElem? (i := 1) rfl)) (hw _ (List.mem_of_getElem? (i := 2) rfl)) e0 (g := (mkF m 36 #[.val (.int i0), .val (.int (1 : Int32)), .val (.int (0 : Int32)), .val (.int (0 : Int32)), .unset, .unset, .unset, .unset, .unset, .unset] [])) rfl (hb hby at_36) (by decide) (by decide)
        obtain ⟨b509, g509⟩ : ∃ z, z = h0.size := ⟨_, rfl⟩
        rw [← g509] at A509 D509 st509
        have sz510 : h0.size ≤ b509 := Nat.le_trans K0.1 (Nat.le_of_eq g509.symm)
        have ge511 : n0 ≤ b509 := Nat.le_trans Z0 sz510
        refine own_st st509 ?_
        have K512 : Keep h0 h509 [] := K0.ext E509
        have O513 := O0.ext E509
        show own_Run p e below s _ _ _ (T509.setTop (mkF m 39 #[.val (.int i0), .val (.int (1 : Int32)), .val (.int (0 : Int32)), .val (.int (0 : Int32)), .unset, .unset, .unset, .unset, .unset, .unset] [(.ref b509)]))
        refine own_st (fun t k => XS.dup X509.here hx rfl (hb hby at_39) rfl rfl k) ?_
        show own_Run p e below s _ _ _ (T509.setTop (mkF m 40 #[.val (.int i0), .val (.int (1 : Int32)), .val (.int (0 : Int32)), .val (.int (0 : Int32)), .unset, .unset, .unset, .unset, .unset, .unset] [(.ref b509), (.ref b509)]))
        refine own_callI X509 hx hZ (y := (⟨"com/example/kerb2d/kerb2d/engine/Tally", "<init>", "()V"⟩ : MethodName)) rfl hown (hw _ (List.mem_of_getElem? (i := 3) rfl)) (hw _ (List.mem_of_getElem? (i := 4) rfl)) (hw _ (List.mem_of_getElem? (i := 5) rfl)) (hw _ (List.mem_of_getElem? (i := 2) rfl)) (by decide) e509 (a := b509) (argsL := []) (rest := [(.ref b509)]) (W := 1) (own_rm1 l Z a0 hw [] b509 h509 n0 (Nat.le_trans Z0 K512.1) A509 D509 ge511) (by decide) (by decide) (by rw [hml]; rfl) (lenOf own_pd2 rfl) rfl (by exact Nat.le_of_eq rfl) (hb hby at_40) (by decide) (by decide) ?_
        intro T514 v514 L514 X514 hq514
        obtain ⟨rfl, N514q, K514q, Q515, Q516, Q517, Q518, Q519, Q520, Q521, Q522, Q523⟩ := hq514
        have K524 : Keep h0 T514.heap [] := K512.trans K514q (allS (Or.inr sz510) all0)
        have O525 := O513.keep K514q (allS ge511 all0)
        have N514 := Fr.app N0 N514q
        show own_Run p e below s _ _ _ (T514.setTop (mkF m 43 #[.val (.int i0), .val (.int (1 : Int32)), .val (.int (0 : Int32)), .val (.int (0 : Int32)), .unset, .unset, .unset, .unset, .unset, .unset] [(.ref b509)]))
        refine own_st (fun t k => XS.astore X514.here hx rfl (hb hby at_43) rfl rfl (l' := #[.val (.int i0), .val (.int (1 : Int32)), .val (.int (0 : Int32)), .val (.int (0 : Int32)), .val (.ref b509), .unset, .unset, .unset, .unset, .unset]) rfl k) ?_
        show own_Run p e below s _ _ _ (T514.setTop (mkF m 45 #[.val (.int i0), .val (.int (1 : Int32)), .val (.int (0 : Int32)), .val (.int (0 : Int32)), .val (.ref b509), .unset, .unset, .unset, .unset, .unset] []))
        obtain ⟨T526, h526, X526, e526, E526, A526, D526, -, st526⟩ := newO X514 hx hZ hown (hw _ (List.mem_of_getElem? (i := 0) rfl)) (hw _ (List.mem_of_getElem? (i := 1) rfl)) (hw _ (List.mem_of_getElem? (i := 2) rfl)) rfl (g := (mkF m 45 #[.val (.int i0), .val (.int (1 : Int32)), .val (.int (0 : Int32)), .val (.int (0 : Int32)), .val (.ref b509), .unset, .unset, .unset, .unset, .unset] [])) rfl (hb hby at_45) (by decide) (by decide)
        obtain ⟨b526, g526⟩ : ∃ z, z = T514.heap.size := ⟨_, rfl⟩
        rw [← g526] at A526 D526 st526
        have sz527 : h0.size ≤ b526 := Nat.le_trans K524.1 (Nat.le_of_eq g526.symm)
        have ge528 : n0 ≤ b526 := Nat.le_trans Z0 sz527
        refine own_st st526 ?_
        have K529 : Keep h0 h526 [] := K524.ext E526
        have O530 := O525.ext E526
        show own_Run p e below s _ _ _ (T526.setTop (mkF m 48 #[.val (.int i0), .val (.int (1 : Int32)), .val (.int (0 : Int32)), .val (.int (0 : Int32)), .val (.ref b509), .unset, .unset, .unset, .unset, .unset] [(.ref b526)]))
        refine own_st (fun t k => XS.dup X526.here hx rfl (hb hby at_48) rfl rfl k) ?_
        show own_Run p e below s _ _ _ (T526.setTop (mkF m 49 #[.val (.int i0), .val (.int (1 : Int32)), .val (.int (0 : Int32)), .val (.int (0 : Int32)), .val (.ref b509), .unset, .unset, .unset, .unset, .unset] [(.ref b526), (.ref b526)]))
        refine own_st (fun t k => XS.aload X526.here hx rfl (hb hby at_49) rfl rfl k) ?_
        show own_Run p e below s _ _ _ (T526.setTop (mkF m 51 #[.val (.int i0), .val (.int (1 : Int32)), .val (.int (0 : Int32)), .val (.int (0 : Int32)), .val (.ref b509), .unset, .unset, .unset, .unset, .unset] [(.ref b509), (.ref b526), (.ref b526)]))
        refine own_callI X526 hx hZ (y := (⟨"com/example/kerb2d/kerb2d/engine/Tally", "<init>", "(Lcom/example/kerb2d/kerb2d/engine/Tally;)V"⟩ : MethodName)) rfl hown (hw _ (List.mem_of_getElem? (i := 14) rfl)) (hw _ (List.mem_of_getElem? (i := 7) rfl)) (hw _ (List.mem_of_getElem? (i := 8) rfl)) (hw _ (List.mem_of_getElem? (i := 2) rfl)) (by decide) e526 (a := b526) (argsL := [(.ref b509)]) (rest := [(.ref b526)]) (W := 1) (own_rm2R l Z a0 hw [] b526 b509 h526 n0 (Nat.le_trans Z0 K529.1) A526 D526 ge528) (by decide) (by decide) (by rw [hml]; rfl) (lenOf own_pd1 rfl) rfl (by exact Nat.le_of_eq rfl) (hb hby at_51) (by decide) (by decide) ?_
        intro T531 v531 L531 X531 hq531
        obtain ⟨rfl, N531q, K531q, Q532, Q533, Q534, Q535, Q536, Q537, Q538, Q539, Q540⟩ := hq531
        have K541 : Keep h0 T531.heap [] := K529.trans K531q (allS (Or.inr sz527) all0)
        have O542 := O530.keep K531q (allS ge528 all0)
        have N531 := Fr.app N514 N531q
        show own_Run p e below s _ _ _ (T531.setTop (mkF m 54 #[.val (.int i0), .val (.int (1 : Int32)), .val (.int (0 : Int32)), .val (.int (0 : Int32)), .val (.ref b509), .unset, .unset, .unset, .unset, .unset] [(.ref b526)]))
        refine own_st (fun t k => XS.astore X531.here hx rfl (hb hby at_54) rfl rfl (l' := #[.val (.int i0), .val (.int (1 : Int32)), .val (.int (0 : Int32)), .val (.int (0 : Int32)), .val (.ref b509), .val (.ref b526), .unset, .unset, .unset, .unset]) rfl k) ?_
        show own_Run p e below s _ _ _ (T531.setTop (mkF m 56 #[.val (.int i0), .val (.int (1 : Int32)), .val (.int (0 : Int32)), .val (.int (0 : Int32)), .val (.ref b509), .val (.ref b526), .unset, .unset, .unset, .unset] []))
        refine own_st (fun t k => XS.iloadN X531.here hx rfl (hb hby at_56) rfl k) ?_
        show own_Run p e below s _ _ _ (T531.setTop (mkF m 57 #[.val (.int i0), .val (.int (1 : Int32)), .val (.int (0 : Int32)), .val (.int (0 : Int32)), .val (.ref b509), .val (.ref b526), .unset, .unset, .unset, .unset] [(.int (1 : Int32))]))
        refine own_st (fun t k => XS.ifNo X531.here hx rfl (hb hby at_57) rfl ((if0 _ _).trans (feq (by decide : ¬ ((1 : Int32) = (0 : Int32)))).1) k) ?_
        show own_Run p e below s _ _ _ (T531.setTop (mkF m 60 #[.val (.int i0), .val (.int (1 : Int32)), .val (.int (0 : Int32)), .val (.int (0 : Int32)), .val (.ref b509), .val (.ref b526), .unset, .unset, .unset, .unset] []))
        refine own_st (fun t k => XS.aload X531.here hx rfl (hb hby at_60) rfl rfl k) ?_
        show own_Run p e below s _ _ _ (T531.setTop (mkF m 62 #[.val (.int i0), .val (.int (1 : Int32)), .val (.int (0 : Int32)), .val (.int (0 : Int32)), .val (.ref b509), .val (.ref b526), .unset, .unset, .unset, .unset] [(.ref b526)]))
        have E543 := ((Q515.ext E526).keep K531q)
        have F544 := ((Q516.ext E526).keep K531q (ninS (Nat.ne_of_lt (Nat.lt_of_lt_of_le (Nat.lt_of_lt_of_le A509.lt K514q.1) (Nat.le_of_eq g526.symm))) nin0))
        have F545 := ((Q517.ext E526).keep K531q (ninS (Nat.ne_of_lt (Nat.lt_of_lt_of_le (Nat.lt_of_lt_of_le A509.lt K514q.1) (Nat.le_of_eq g526.symm))) nin0))
        have F546 := ((Q518.ext E526).keep K531q (ninS (Nat.ne_of_lt (Nat.lt_of_lt_of_le (Nat.lt_of_lt_of_le A509.lt K514q.1) (Nat.le_of_eq g526.symm))) nin0))
        have F547 := ((Q519.ext E526).keep K531q (ninS (Nat.ne_of_lt (Nat.lt_of_lt_of_le (Nat.lt_of_lt_of_le A509.lt K514q.1) (Nat.le_of_eq g526.symm))) nin0))
        have F548 := ((Q520.ext E526).keep K531q (ninS (Nat.ne_of_lt (Nat.lt_of_lt_of_le (Nat.lt_of_lt_of_le A509.lt K514q.1) (Nat.le_of_eq g526.symm))) nin0))
        have F549 := ((Q521.ext E526).keep K531q (ninS (Nat.ne_of_lt (Nat.lt_of_lt_of_le (Nat.lt_of_lt_of_le A509.lt K514q.1) (Nat.le_of_eq g526.symm))) nin0))
        have F550 := ((Q522.ext E526).keep K531q (ninS (Nat.ne_of_lt (Nat.lt_of_lt_of_le (Nat.lt_of_lt_of_le A509.lt K514q.1) (Nat.le_of_eq g526.symm))) nin0))
        have F551 := ((Q523.ext E526).keep K531q (ninS (Nat.ne_of_lt (Nat.lt_of_lt_of_le (Nat.lt_of_lt_of_le A509.lt K514q.1) (Nat.le_of_eq g526.symm))) nin0))
        refine own_callV X531 hx hZ (y := (⟨"com/example/kerb2d/kerb2d/engine/Tally", "enter", "()V"⟩ : MethodName)) (C := "com/example/kerb2d/kerb2d/engine/Tally") hown (hw _ (List.mem_of_getElem? (i := 87) rfl)) (hw _ (List.mem_of_getElem? (i := 88) rfl)) (hw _ (List.mem_of_getElem? (i := 90) rfl)) (hw _ (List.mem_of_getElem? (i := 89) rfl)) (hw _ (List.mem_of_getElem? (i := 91) rfl)) (hw _ (List.mem_of_getElem? (i := 2) rfl)) (by decide) rfl (a := b526) Q532 (argsL := []) (rest := []) (W := 0) (own_rm10P l Z a0 hw [] b526 b509 (0 : Int32) (0 : Int32) (0 : Int32) (0 : Int32) T531.heap n0 (Nat.le_trans Z0 K541.1) Q532 ge528 Q533 Q534 Q535 Q536 Q537 Q538 Q539 Q540 E543 ge511 F544 F545 F546 F547 F548 F549 F550 F551 (Ne.symm (Nat.ne_of_lt (Nat.lt_of_lt_of_le (Nat.lt_of_lt_of_le A509.lt K514q.1) (Nat.le_of_eq g526.symm))))) (by decide) (by decide) (by rw [hml]; rfl) (lenOf own_pd2 rfl) rfl (by exact Nat.le_of_eq rfl) (hb hby at_62) (by decide) (by decide) ?_
        intro T552 v552 L552 X552 hq552
        obtain ⟨rfl, N552q, K552q, Q553, Q554, Q555, Q556, Q557, Q558, Q559, Q560, Q561, Q562, Q563, Q564, Q565, Q566, Q567, Q568, Q569, Q570⟩ := hq552
        have K571 : Keep h0 T552.heap [] := K541.trans K552q (allS (Or.inr sz527) (allS (Or.inr sz510) all0))
        have O572 := O542.keep K552q (allS ge528 (allS ge511 all0))
        have N552 := Fr.app N531 N552q
        show own_Run p e below s _ _ _ (T552.setTop (mkF m 65 #[.val (.int i0), .val (.int (1 : Int32)), .val (.int (0 : Int32)), .val (.int (0 : Int32)), .val (.ref b509), .val (.ref b526), .unset, .unset, .unset, .unset] []))
        refine own_st (fun t k => XS.iloadN X552.here hx rfl (hb hby at_65) rfl k) ?_
        show own_Run p e below s _ _ _ (T552.setTop (mkF m 66 #[.val (.int i0), .val (.int (1 : Int32)), .val (.int (0 : Int32)), .val (.int (0 : Int32)), .val (.ref b509), .val (.ref b526), .unset, .unset, .unset, .unset] [(.int (0 : Int32))]))
        refine own_st (fun t k => XS.ifYes X552.here hx rfl (pc0 := 66) (pc' := 74) rfl (hb hby at_66) rfl ((if0 _ _).trans (teq (by decide : (0 : Int32) = (0 : Int32))).1) (by decide) (by decide) k) ?_
        show own_Run p e below s _ _ _ (T552.setTop (mkF m 74 #[.val (.int i0), .val (.int (1 : Int32)), .val (.int (0 : Int32)), .val (.int (0 : Int32)), .val (.ref b509), .val (.ref b526), .unset, .unset, .unset, .unset] []))
        refine own_st (fun t k => XS.iloadN X552.here hx rfl (hb hby at_74) rfl k) ?_
        show own_Run p e below s _ _ _ (T552.setTop (mkF m 75 #[.val (.int i0), .val (.int (1 : Int32)), .val (.int (0 : Int32)), .val (.int (0 : Int32)), .val (.ref b509), .val (.ref b526), .unset, .unset, .unset, .unset] [(.int (0 : Int32))]))
        refine own_st (fun t k => XS.ifYes X552.here hx rfl (pc0 := 75) (pc' := 83) rfl (hb hby at_75) rfl ((if0 _ _).trans (teq (by decide : (0 : Int32) = (0 : Int32))).1) (by decide) (by decide) k) ?_
        show own_Run p e below s _ _ _ (T552.setTop (mkF m 83 #[.val (.int i0), .val (.int (1 : Int32)), .val (.int (0 : Int32)), .val (.int (0 : Int32)), .val (.ref b509), .val (.ref b526), .unset, .unset, .unset, .unset] []))
        refine own_st (fun t k => XS.iloadN X552.here hx rfl (hb hby at_83) rfl k) ?_
        show own_Run p e below s _ _ _ (T552.setTop (mkF m 84 #[.val (.int i0), .val (.int (1 : Int32)), .val (.int (0 : Int32)), .val (.int (0 : Int32)), .val (.ref b509), .val (.ref b526), .unset, .unset, .unset, .unset] [(.int (1 : Int32))]))
        refine own_st (fun t k => XS.ifNo X552.here hx rfl (hb hby at_84) rfl ((if0 _ _).trans (feq (by decide : ¬ ((1 : Int32) = (0 : Int32)))).1) k) ?_
        show own_Run p e below s _ _ _ (T552.setTop (mkF m 87 #[.val (.int i0), .val (.int (1 : Int32)), .val (.int (0 : Int32)), .val (.int (0 : Int32)), .val (.ref b509), .val (.ref b526), .unset, .unset, .unset, .unset] []))
        refine own_st (fun t k => XS.iconst X552.here hx rfl (hb hby at_87) k) ?_
        show own_Run p e below s _ _ _ (T552.setTop (mkF m 88 #[.val (.int i0), .val (.int (1 : Int32)), .val (.int (0 : Int32)), .val (.int (0 : Int32)), .val (.ref b509), .val (.ref b526), .unset, .unset, .unset, .unset] [(.int (1 : Int32))]))
        refine own_st (fun t k => XS.goto X552.here hx rfl (pc0 := 88) (pc' := 92) rfl (hb hby at_88) (by decide) (by decide) k) ?_
        show own_Run p e below s _ _ _ (T552.setTop (mkF m 92 #[.val (.int i0), .val (.int (1 : Int32)), .val (.int (0 : Int32)), .val (.int (0 : Int32)), .val (.ref b509), .val (.ref b526), .unset, .unset, .unset, .unset] [(.int (1 : Int32))]))
        refine own_st (fun t k => XS.iloadN X552.here hx rfl (hb hby at_92) rfl k) ?_
        show own_Run p e below s _ _ _ (T552.setTop (mkF m 93 #[.val (.int i0), .val (.int (1 : Int32)), .val (.int (0 : Int32)), .val (.int (0 : Int32)), .val (.ref b509), .val (.ref b526), .unset, .unset, .unset, .unset] [(.int (0 : Int32)), (.int (1 : Int32))]))
        refine own_st (fun t k => XS.ifYes X552.here hx rfl (pc0 := 93) (pc' := 100) rfl (hb hby at_93) rfl ((if0 _ _).trans (teq (by decide : (0 : Int32) = (0 : Int32))).1) (by decide) (by decide) k) ?_
        show own_Run p e below s _ _ _ (T552.setTop (mkF m 100 #[.val (.int i0), .val (.int (1 : Int32)), .val (.int (0 : Int32)), .val (.int (0 : Int32)), .val (.ref b509), .val (.ref b526), .unset, .unset, .unset, .unset] [(.int (1 : Int32))]))
        refine own_st (fun t k => XS.iconst X552.here hx rfl (hb hby at_100) k) ?_
        show own_Run p e below s _ _ _ (T552.setTop (mkF m 101 #[.val (.int i0), .val (.int (1 : Int32)), .val (.int (0 : Int32)), .val (.int (0 : Int32)), .val (.ref b509), .val (.ref b526), .unset, .unset, .unset, .unset] [(.int (0 : Int32)), (.int (1 : Int32))]))
        refine own_st (fun t k => XS.iadd X552.here hx rfl (hb hby at_101) rfl k) ?_
        show own_Run p e below s _ _ _ (T552.setTop (mkF m 102 #[.val (.int i0), .val (.int (1 : Int32)), .val (.int (0 : Int32)), .val (.int (0 : Int32)), .val (.ref b509), .val (.ref b526), .unset, .unset, .unset, .unset] [(.int ((1 : Int32) + (0 : Int32)))]))
        refine own_st (fun t k => XS.istore X552.here hx rfl (hb hby at_102) rfl (l' := #[.val (.int i0), .val (.int (1 : Int32)), .val (.int (0 : Int32)), .val (.int (0 : Int32)), .val (.ref b509), .val (.ref b526), .val (.int ((1 : Int32) + (0 : Int32))), .unset, .unset, .unset]) rfl k) ?_
        show own_Run p e below s _ _ _ (T552.setTop (mkF m 104 #[.val (.int i0), .val (.int (1 : Int32)), .val (.int (0 : Int32)), .val (.int (0 : Int32)), .val (.ref b509), .val (.ref b526), .val (.int ((1 : Int32) + (0 : Int32))), .unset, .unset, .unset] []))
        refine own_st (fun t k => XS.iload X552.here hx rfl (hb hby at_104) rfl k) ?_
        show own_Run p e below s _ _ _ (T552.setTop (mkF m 106 #[.val (.int i0), .val (.int (1 : Int32)), .val (.int (0 : Int32)), .val (.int (0 : Int32)), .val (.ref b509), .val (.ref b526), .val (.int ((1 : Int32) + (0 : Int32))), .unset, .unset, .unset] [(.int ((1 : Int32) + (0 : Int32)))]))
        refine own_st (fun t k => XS.iloadN X552.here hx rfl (hb hby at_106) rfl k) ?_
        show own_Run p e below s _ _ _ (T552.setTop (mkF m 107 #[.val (.int i0), .val (.int (1 : Int32)), .val (.int (0 : Int32)), .val (.int (0 : Int32)), .val (.ref b509), .val (.ref b526), .val (.int ((1 : Int32) + (0 : Int32))), .unset, .unset, .unset] [(.int (0 : Int32)), (.int ((1 : Int32) + (0 : Int32)))]))
        refine own_st (fun t k => XS.ifYes X552.here hx rfl (pc0 := 107) (pc' := 114) rfl (hb hby at_107) rfl ((if0 _ _).trans (teq (by decide : (0 : Int32) = (0 : Int32))).1) (by decide) (by decide) k) ?_
        show own_Run p e below s _ _ _ (T552.setTop (mkF m 114 #[.val (.int i0), .val (.int (1 : Int32)), .val (.int (0 : Int32)), .val (.int (0 : Int32)), .val (.ref b509), .val (.ref b526), .val (.int ((1 : Int32) + (0 : Int32))), .unset, .unset, .unset] [(.int ((1 : Int32) + (0 : Int32)))]))
        refine own_st (fun t k => XS.iconst X552.here hx rfl (hb hby at_114) k) ?_
        show own_Run p e below s _ _ _ (T552.setTop (mkF m 115 #[.val (.int i0), .val (.int (1 : Int32)), .val (.int (0 : Int32)), .val (.int (0 : Int32)), .val (.ref b509), .val (.ref b526), .val (.int ((1 : Int32) + (0 : Int32))), .unset, .unset, .unset] [(.int (0 : Int32)), (.int ((1 : Int32) + (0 : Int32)))]))
        refine own_st (fun t k => XS.iadd X552.here hx rfl (hb hby at_115) rfl k) ?_
        show own_Run p e below s _ _ _ (T552.setTop (mkF m 116 #[.val (.int i0), .val (.int (1 : Int32)), .val (.int (0 : Int32)), .val (.int (0 : Int32)), .val (.ref b509), .val (.ref b526), .val (.int ((1 : Int32) + (0 : Int32))), .unset, .unset, .unset] [(.int (((1 : Int32) + (0 : Int32)) + (0 : Int32)))]))
        refine own_st (fun t k => XS.istore X552.here hx rfl (hb hby at_116) rfl (l' := #[.val (.int i0), .val (.int (1 : Int32)), .val (.int (0 : Int32)), .val (.int (0 : Int32)), .val (.ref b509), .val (.ref b526), .val (.int ((1 : Int32) + (0 : Int32))), .val (.int (((1 : Int32) + (0 : Int32)) + (0 : Int32))), .unset, .unset]) rfl k) ?_
        show own_Run p e below s _ _ _ (T552.setTop (mkF m 118 #[.val (.int i0), .val (.int (1 : Int32)), .val (.int (0 : Int32)), .val (.int (0 : Int32)), .val (.ref b509), .val (.ref b526), .val (.int ((1 : Int32) + (0 : Int32))), .val (.int (((1 : Int32) + (0 : Int32)) + (0 : Int32))), .unset, .unset] []))
        exact own_tail l Z a0 hw T552 _ hx hby hml hZ hown hnm hret hlk te i0 (1 : Int32) (0 : Int32) (0 : Int32) b509 b526 ((1 : Int32) + (0 : Int32)) (((1 : Int32) + (0 : Int32)) + (0 : Int32)) ((0 : Int32) + (1 : Int32)) ((0 : Int32) + (1 : Int32)) h0 n0 Z0 _ (X552.more (by decide) (by decide)) rfl N552 K571 O572 S_E Q562 ge511 sz510 Q563 Q564 Q565 Q566 Q567 Q568 Q569 Q570 Q553 ge528 sz527 Q554 Q555 Q556 Q557 Q558 Q559 Q560 Q561 (Ne.symm (Nat.ne_of_lt (Nat.lt_of_lt_of_le (Nat.lt_of_lt_of_le A509.lt K514q.1) (Nat.le_of_eq g526.symm)))) (by decide) (by decide)
      · skip
        refine own_st (fun t k => XS.ifNo X0.here hx rfl (hb hby at_27) rfl ((if0 _ _).trans (feq (hc508 : ¬ ((i0 &&& (4 : Int32)) = (0 : Int32)))).1) k) ?_
        show own_Run p e below s _ _ _ (s₁.setTop (mkF m 30 #[.val (.int i0), .val (.int (1 : Int32)), .val (.int (0 : Int32)), .unset, .unset, .unset, .unset, .unset, .unset, .unset] []))
        refine own_st (fun t k => XS.iconst X0.here hx rfl (hb hby at_30) k) ?_
        show own_Run p e below s _ _ _ (s₁.setTop (mkF m 31 #[.val (.int i0), .val (.int (1 : Int32)), .val (.int (0 : Int32)), .unset, .unset, .unset, .unset, .unset, .unset, .unset] [(.int (1 : Int32))]))
        refine own_st (fun t k => XS.goto X0.here hx rfl (pc0 := 31) (pc' := 35) rfl (hb hby at_31) (by decide) (by decide) k) ?_
        show own_Run p e below s _ _ _ (s₁.setTop (mkF m 35 #[.val (.int i0), .val (.int (1 : Int32)), .val (.int (0 : Int32)), .unset, .unset, .unset, .unset, .unset, .unset, .unset] [(.int (1 : Int32))]))
        refine own_st (fun t k => XS.istoreN X0.here hx rfl (hb hby at_35) rfl (l' := #[.val (.int i0), .val (.int (1 : Int32)), .val (.int (0 : Int32)), .val (.int (1 : Int32)), .unset, .unset, .unset, .unset, .unset, .unset]) rfl k) ?_
        show own_Run p e below s _ _ _ (s₁.setTop (mkF m 36 #[.val (.int i0), .val (.int (1 : Int32)), .val (.int (0 : Int32)), .val (.int (1 : Int32)), .unset, .unset, .unset, .unset, .unset, .unset] []))
        obtain ⟨T573, h573, X573, e573, E573, A573, D573, -, st573⟩ := newO X0 hx hZ hown (hw _ (List.mem_of_getElem? (i := 0) rfl)) (hw _ (List.mem_of_getElem? (i := 1) rfl)) (hw _ (List.mem_of_getElem? (i := 2) rfl)) e0 (g := (mkF m 36 #[.val (.int i0), .val (.int (1 : Int32)), .val (.int (0 : Int32)), .val (.int (1 : Int32)), .unset, .unset, .unset, .unset, .unset, .unset] [])) rfl (hb hby at_36) (by decide) (by decide)
        obtain ⟨b573, g573⟩ : ∃ z, z = h0.size := ⟨_, rfl⟩
        rw [← g573] at A573 D573 st573
        have sz574 : h0.size ≤ b573 := Nat.le_trans K0.1 (Nat.le_of_eq g573.symm)
        have ge575 : n0 ≤ b573 := Nat.le_trans Z0 sz574
        refine own_st st573 ?_
        have K576 : Keep h0 h573 [] := K0.ext E573
        have O577 := O0.ext E573
        show own_Run p e below s _ _ _ (T573.setTop (mkF m 39 #[.val (.int i0), .val (.int (1 : Int32)), .val (.int (0 : Int32)), .val (.int (1 : Int32)), .unset, .unset, .unset, .unset, .unset, .unset] [(.ref b573)]))
        refine own_st (fun t k => XS.dup X573.here hx rfl (hb hby at_39) rfl rfl k) ?_
        show own_Run p e below s _ _ _ (T573.setTop (mkF m 40 #[.val (.int i0), .val (.int (1 : Int32)), .val (.int (0 : Int32)), .val (.int (1 : Int32)), .unset, .unset, .unset, .unset, .unset, .unset] [(.ref b573), (.ref b573)]))
        refine own_callI X573 hx hZ (y := (⟨"com/example/kerb2d/kerb2d/engine/Tally", "<init>", "()V"⟩ : MethodName)) rfl hown (hw _ (List.mem_of_getElem? (i := 3) rfl)) (hw _ (List.mem_of_getElem? (i := 4) rfl)) (hw _ (List.mem_of_getElem? (i := 5) rfl)) (hw _ (List.mem_of_getElem? (i := 2) rfl)) (by decide) e573 (a := b573) (argsL := []) (rest := [(.ref b573)]) (W := 1) (own_rm1 l Z a0 hw [] b573 h573 n0 (Nat.le_trans Z0 K576.1) A573 D573 ge575) (by decide) (by decide) (by rw [hml]; rfl) (lenOf own_pd2 rfl) rfl (by exact Nat.le_of_eq rfl) (hb hby at_40) (by decide) (by decide) ?_
        intro T578 v578 L578 X578 hq578
        obtain ⟨rfl, N578q, K578q, Q579, Q580, Q581, Q582, Q583, Q584, Q585, Q586, Q587⟩ := hq578
        have K588 : Keep h0 T578.heap [] := K576.trans K578q (allS (Or.inr sz574) all0)
        have O589 := O577.keep K578q (allS ge575 all0)
        have N578 := Fr.app N0 N578q
        show own_Run p e below s _ _ _ (T578.setTop (mkF m 43 #[.val (.int i0), .val (.int (1 : Int32)), .val (.int (0 : Int32)), .val (.int (1 : Int32)), .unset, .unset, .unset, .unset, .unset, .unset] [(.ref b573)]))
        refine own_st (fun t k => XS.astore X578.here hx rfl (hb hby at_43) rfl rfl (l' := #[.val (.int i0), .val (.int (1 : Int32)), .val (.int (0 : Int32)), .val (.int (1 : Int32)), .val (.ref b573), .unset, .unset, .unset, .unset, .unset]) rfl k) ?_
        show own_Run p e below s _ _ _ (T578.setTop (mkF m 45 #[.val (.int i0), .val (.int (1 : Int32)), .val (.int (0 : Int32)), .val (.int (1 : Int32)), .val (.ref b573), .unset, .unset, .unset, .unset, .unset] []))
        obtain ⟨T590, h590, X590, e590, E590, A590, D590, -, st590⟩ := newO X578 hx hZ hown (hw _ (List.mem_of_getElem? (i := 0) rfl)) (hw _ (List.mem_of_getElem? (i := 1) rfl)) (hw _ (List.mem_of_getElem? (i := 2) rfl)) rfl (g := (mkF m 45 #[.val (.int i0), .val (.int (1 : Int32)), .val (.int (0 : Int32)), .val (.int (1 : Int32)), .val (.ref b573), .unset, .unset, .unset, .unset, .unset] [])) rfl (hb hby at_45) (by decide) (by decide)
        obtain ⟨b590, g590⟩ : ∃ z, z = T578.heap.size := ⟨_, rfl⟩
        rw [← g590] at A590 D590 st590
        have sz591 : h0.size ≤ b590 := Nat.le_trans K588.1 (Nat.le_of_eq g590.symm)
        have ge592 : n0 ≤ b590 := Nat.le_trans Z0 sz591
        refine own_st st590 ?_
        have K593 : Keep h0 h590 [] := K588.ext E590
        have O594 := O589.ext E590
        show own_Run p e below s _ _ _ (T590.setTop (mkF m 48 #[.val (.int i0), .val (.int (1 : Int32)), .val (.int (0 : Int32)), .val (.int (1 : Int32)), .val (.ref b573), .unset, .unset, .unset, .unset, .unset] [(.ref b590)]))
        refine own_st (fun t k => XS.dup X590.here hx rfl (hb hby at_48) rfl rfl k) ?_
        show own_Run p e below s _ _ _ (T590.setTop (mkF m 49 #[.val (.int i0), .val (.int (1 : Int32)), .val (.int (0 : Int32)), .val (.int (1 : Int32)), .val (.ref b573), .unset, .unset, .unset, .unset, .unset] [(.ref b590), (.ref b590)]))
        refine own_st (fun t k => XS.aload X590.here hx rfl (hb hby at_49) rfl rfl k) ?_
        show own_Run p e below s _ _ _ (T590.setTop (mkF m 51 #[.val (.int i0), .val (.int (1 : Int32)), .val (.int (0 : Int32)), .val (.int (1 : Int32)), .val (.ref b573), .unset, .unset, .unset, .unset, .unset] [(.ref b573), (.ref b590), (.ref b590)]))
        refine own_callI X590 hx hZ (y := (⟨"com/example/kerb2d/kerb2d/engine/Tally", "<init>", "(Lcom/example/kerb2d/kerb2d/engine/Tally;)V"⟩ : MethodName)) rfl hown (hw _ (List.mem_of_getElem? (i := 14) rfl)) (hw _ (List.mem_of_getElem? (i := 7) rfl)) (hw _ (List.mem_of_getElem? (i := 8) rfl)) (hw _ (List.mem_of_getElem? (i := 2) rfl)) (by decide) e590 (a := b590) (argsL := [(.ref b573)]) (rest := [(.ref b590)]) (W := 1) (own_rm2R l Z a0 hw [] b590 b573 h590 n0 (Nat.le_trans Z0 K593.1) A590 D590 ge592) (by decide) (by decide) (by rw [hml]; rfl) (lenOf own_pd1 rfl) rfl (by exact Nat.le_of_eq rfl) (hb hby at_51) (by decide) (by decide) ?_
        intro T595 v595 L595 X595 hq595
        obtain ⟨rfl, N595q, K595q, Q596, Q597, Q598, Q599, Q600, Q601, Q602, Q603, Q604⟩ := hq595
        have K605 : Keep h0 T595.heap [] := K593.trans K595q (allS (Or.inr sz591) all0)
        have O606 := O594.keep K595q (allS ge592 all0)
        have N595 := Fr.app N578 N595q
        show own_Run p e below s _ _ _ (T595.setTop (mkF m 54 #[.val (.int i0), .val (.int (1 : Int32)), .val (.int (0 : Int32)), .val (.int (1 : Int32)), .val (.ref b573), .unset, .unset, .unset, .unset, .unset] [(.ref b590)]))
        refine own_st (fun t k => XS.astore X595.here hx rfl (hb hby at_54) rfl rfl (l' := #[.val (.int i0), .val (.int (1 : Int32)), .val (.int (0 : Int32)), .val (.int (1 : Int32)), .val (.ref b573), .val (.ref b590), .unset, .unset, .unset, .unset]) rfl k) ?_
        show own_Run p e below s _ _ _ (T595.setTop (mkF m 56 #[.val (.int i0), .val (.int (1 : Int32)), .val (.int (0 : Int32)), .val (.int (1 : Int32)), .val (.ref b573), .val (.ref b590), .unset, .unset, .unset, .unset] []))
        refine own_st (fun t k => XS.iloadN X595.here hx rfl (hb hby at_56) rfl k) ?_
        show own_Run p e below s _ _ _ (T595.setTop (mkF m 57 #[.val (.int i0), .val (.int (1 : Int32)), .val (.int (0 : Int32)), .val (.int (1 : Int32)), .val (.ref b573), .val (.ref b590), .unset, .unset, .unset, .unset] [(.int (1 : Int32))]))
        refine own_st (fun t k => XS.ifNo X595.here hx rfl (hb hby at_57) rfl ((if0 _ _).trans (feq (by decide : ¬ ((1 : Int32) = (0 : Int32)))).1) k) ?_
        show own_Run p e below s _ _ _ (T595.setTop (mkF m 60 #[.val (.int i0), .val (.int (1 : Int32)), .val (.int (0 : Int32)), .val (.int (1 : Int32)), .val (.ref b573), .val (.ref b590), .unset, .unset, .unset, .unset] []))
        refine own_st (fun t k => XS.aload X595.here hx rfl (hb hby at_60) rfl rfl k) ?_
        show own_Run p e below s _ _ _ (T595.setTop (mkF m 62 #[.val (.int i0), .val (.int (1 : Int32)), .val (.int (0 : Int32)), .val (.int (1 : Int32)), .val (.ref b573), .val (.ref b590), .unset, .unset, .unset, .unset] [(.ref b590)]))
        have E607 := ((Q579.ext E590).keep K595q)
        have F608 := ((Q580.ext E590).keep K595q (ninS (Nat.ne_of_lt (Nat.lt_of_lt_of_le (Nat.lt_of_lt_of_le A573.lt K578q.1) (Nat.le_of_eq g590.symm))) nin0))
        have F609 := ((Q581.ext E590).keep K595q (ninS (Nat.ne_of_lt (Nat.lt_of_lt_of_le (Nat.lt_of_lt_of_le A573.lt K578q.1) (Nat.le_of_eq g590.symm))) nin0))
        have F610 := ((Q582.ext E590).keep K595q (ninS (Nat.ne_of_lt (Nat.lt_of_lt_of_le (Nat.lt_of_lt_of_le A573.lt K578q.1) (Nat.le_of_eq g590.symm))) nin0))
        have F611 := ((Q583.ext E590).keep K595q (ninS (Nat.ne_of_lt (Nat.lt_of_lt_of_le (Nat.lt_of_lt_of_le A573.lt K578q.1) (Nat.le_of_eq g590.symm))) nin0))
        have F612 := ((Q584.ext E590).keep K595q (ninS (Nat.ne_of_lt (Nat.lt_of_lt_of_le (Nat.lt_of_lt_of_le A573.lt K578q.1) (Nat.le_of_eq g590.symm))) nin0))
        have F613 := ((Q585.ext E590).keep K595q (ninS (Nat.ne_of_lt (Nat.lt_of_lt_of_le (Nat.lt_of_lt_of_le A573.lt K578q.1) (Nat.le_of_eq g590.symm))) nin0))
        have F614 := ((Q586.ext E590).keep K595q (ninS (Nat.ne_of_lt (Nat.lt_of_lt_of_le (Nat.lt_of_lt_of_le A573.lt K578q.1) (Nat.le_of_eq g590.symm))) nin0))
        have F615 := ((Q587.ext E590).keep K595q (ninS (Nat.ne_of_lt (Nat.lt_of_lt_of_le (Nat.lt_of_lt_of_le A573.lt K578q.1) (Nat.le_of_eq g590.symm))) nin0))
        refine own_callV X595 hx hZ (y := (⟨"com/example/kerb2d/kerb2d/engine/Tally", "enter", "()V"⟩ : MethodName)) (C := "com/example/kerb2d/kerb2d/engine/Tally") hown (hw _ (List.mem_of_getElem? (i := 87) rfl)) (hw _ (List.mem_of_getElem? (i := 88) rfl)) (hw _ (List.mem_of_getElem? (i := 90) rfl)) (hw _ (List.mem_of_getElem? (i := 89) rfl)) (hw _ (List.mem_of_getElem? (i := 91) rfl)) (hw _ (List.mem_of_getElem? (i := 2) rfl)) (by decide) rfl (a := b590) Q596 (argsL := []) (rest := []) (W := 0) (own_rm10P l Z a0 hw [] b590 b573 (0 : Int32) (0 : Int32) (0 : Int32) (0 : Int32) T595.heap n0 (Nat.le_trans Z0 K605.1) Q596 ge592 Q597 Q598 Q599 Q600 Q601 Q602 Q603 Q604 E607 ge575 F608 F609 F610 F611 F612 F613 F614 F615 (Ne.symm (Nat.ne_of_lt (Nat.lt_of_lt_of_le (Nat.lt_of_lt_of_le A573.lt K578q.1) (Nat.le_of_eq g590.symm))))) (by decide) (by decide) (by rw [hml]; rfl) (lenOf own_pd2 rfl) rfl (by exact Nat.le_of_eq rfl) (hb hby at_62) (by decide) (by decide) ?_
        intro T616 v616 L616 X616 hq616
        obtain ⟨rfl, N616q, K616q, Q617, Q618, Q619, Q620, Q621, Q622, Q623, Q624, Q625, Q626, Q627, Q628, Q629, Q630, Q631, Q632, Q633, Q634⟩ := hq616
        have K635 : Keep h0 T616.heap [] := K605.trans K616q (allS (Or.inr sz591) (allS (Or.inr sz574) all0))
        have O636 := O606.keep K616q (allS ge592 (allS ge575 all0))
        have N616 := Fr.app N595 N616q
        show own_Run p e below s _ _ _ (T616.setTop (mkF m 65 #[.val (.int i0), .val (.int (1 : Int32)), .val (.int (0 : Int32)), .val (.int (1 : Int32)), .val (.ref b573), .val (.ref b590), .unset, .unset, .unset, .unset] []))
        refine own_st (fun t k => XS.iloadN X616.here hx rfl (hb hby at_65) rfl k) ?_
        show own_Run p e below s _ _ _ (T616.setTop (mkF m 66 #[.val (.int i0), .val (.int (1 : Int32)), .val (.int (0 : Int32)), .val (.int (1 : Int32)), .val (.ref b573), .val (.ref b590), .unset, .unset, .unset, .unset] [(.int (0 : Int32))]))
        refine own_st (fun t k => XS.ifYes X616.here hx rfl (pc0 := 66) (pc' := 74) rfl (hb hby at_66) rfl ((if0 _ _).trans (teq (by decide : (0 : Int32) = (0 : Int32))).1) (by decide) (by decide) k) ?_
        show own_Run p e below s _ _ _ (T616.setTop (mkF m 74 #[.val (.int i0), .val (.int (1 : Int32)), .val (.int (0 : Int32)), .val (.int (1 : Int32)), .val (.ref b573), .val (.ref b590), .unset, .unset, .unset, .unset] []))
        refine own_st (fun t k => XS.iloadN X616.here hx rfl (hb hby at_74) rfl k) ?_
        show own_Run p e below s _ _ _ (T616.setTop (mkF m 75 #[.val (.int i0), .val (.int (1 : Int32)), .val (.int (0 : Int32)), .val (.int (1 : Int32)), .val (.ref b573), .val (.ref b590), .unset, .unset, .unset, .unset] [(.int (1 : Int32))]))
        refine own_st (fun t k => XS.ifNo X616.here hx rfl (hb hby at_75) rfl ((if0 _ _).trans (feq (by decide : ¬ ((1 : Int32) = (0 : Int32)))).1) k) ?_
        show own_Run p e below s _ _ _ (T616.setTop (mkF m 78 #[.val (.int i0), .val (.int (1 : Int32)), .val (.int (0 : Int32)), .val (.int (1 : Int32)), .val (.ref b573), .val (.ref b590), .unset, .unset, .unset, .unset] []))
        refine own_st (fun t k => XS.aload X616.here hx rfl (hb hby at_78) rfl rfl k) ?_
        show own_Run p e below s _ _ _ (T616.setTop (mkF m 80 #[.val (.int i0), .val (.int (1 : Int32)), .val (.int (0 : Int32)), .val (.int (1 : Int32)), .val (.ref b573), .val (.ref b590), .unset, .unset, .unset, .unset] [(.ref b590)]))
        refine own_callV X616 hx hZ (y := (⟨"com/example/kerb2d/kerb2d/engine/Tally", "enter", "()V"⟩ : MethodName)) (C := "com/example/kerb2d/kerb2d/engine/Tally") hown (hw _ (List.mem_of_getElem? (i := 87) rfl)) (hw _ (List.mem_of_getElem? (i := 88) rfl)) (hw _ (List.mem_of_getElem? (i := 90) rfl)) (hw _ (List.mem_of_getElem? (i := 89) rfl)) (hw _ (List.mem_of_getElem? (i := 91) rfl)) (hw _ (List.mem_of_getElem? (i := 2) rfl)) (by decide) rfl (a := b590) Q617 (argsL := []) (rest := []) (W := 0) (own_rm10P l Z a0 hw [] b590 b573 (0 : Int32) ((0 : Int32) + (1 : Int32)) (0 : Int32) ((0 : Int32) + (1 : Int32)) T616.heap n0 (Nat.le_trans Z0 K635.1) Q617 ge592 Q618 Q619 Q620 Q621 Q622 Q623 Q624 Q625 Q626 ge575 Q627 Q628 Q629 Q630 Q631 Q632 Q633 Q634 (Ne.symm (Nat.ne_of_lt (Nat.lt_of_lt_of_le (Nat.lt_of_lt_of_le A573.lt K578q.1) (Nat.le_of_eq g590.symm))))) (by decide) (by decide) (by rw [hml]; rfl) (lenOf own_pd2 rfl) rfl (by exact Nat.le_of_eq rfl) (hb hby at_80) (by decide) (by decide) ?_
        intro T637 v637 L637 X637 hq637
        obtain ⟨rfl, N637q, K637q, Q638, Q639, Q640, Q641, Q642, Q643, Q644, Q645, Q646, Q647, Q648, Q649, Q650, Q651, Q652, Q653, Q654, Q655⟩ := hq637
        have K656 : Keep h0 T637.heap [] := K635.trans K637q (allS (Or.inr sz591) (allS (Or.inr sz574) all0))
        have O657 := O636.keep K637q (allS ge592 (allS ge575 all0))
        have N637 := Fr.app N616 N637q
        show own_Run p e below s _ _ _ (T637.setTop (mkF m 83 #[.val (.int i0), .val (.int (1 : Int32)), .val (.int (0 : Int32)), .val (.int (1 : Int32)), .val (.ref b573), .val (.ref b590), .unset, .unset, .unset, .unset] []))
        refine own_st (fun t k => XS.iloadN X637.here hx rfl (hb hby at_83) rfl k) ?_
        show own_Run p e below s _ _ _ (T637.setTop (mkF m 84 #[.val (.int i0), .val (.int (1 : Int32)), .val (.int (0 : Int32)), .val (.int (1 : Int32)), .val (.ref b573), .val (.ref b590), .unset, .unset, .unset, .unset] [(.int (1 : Int32))]))
        refine own_st (fun t k => XS.ifNo X637.here hx rfl (hb hby at_84) rfl ((if0 _ _).trans (feq (by decide : ¬ ((1 : Int32) = (0 : Int32)))).1) k) ?_
        show own_Run p e below s _ _ _ (T637.setTop (mkF m 87 #[.val (.int i0), .val (.int (1 : Int32)), .val (.int (0 : Int32)), .val (.int (1 : Int32)), .val (.ref b573), .val (.ref b590), .unset, .unset, .unset, .unset] []))
        refine own_st (fun t k => XS.iconst X637.here hx rfl (hb hby at_87) k) ?_
        show own_Run p e below s _ _ _ (T637.setTop (mkF m 88 #[.val (.int i0), .val (.int (1 : Int32)), .val (.int (0 : Int32)), .val (.int (1 : Int32)), .val (.ref b573), .val (.ref b590), .unset, .unset, .unset, .unset] [(.int (1 : Int32))]))
        refine own_st (fun t k => XS.goto X637.here hx rfl (pc0 := 88) (pc' := 92) rfl (hb hby at_88) (by decide) (by decide) k) ?_
        show own_Run p e below s _ _ _ (T637.setTop (mkF m 92 #[.val (.int i0), .val (.int (1 : Int32)), .val (.int (0 : Int32)), .val (.int (1 : Int32)), .val (.ref b573), .val (.ref b590), .unset, .unset, .unset, .unset] [(.int (1 : Int32))]))
        refine own_st (fun t k => XS.iloadN X637.here hx rfl (hb hby at_92) rfl k) ?_
        show own_Run p e below s _ _ _ (T637.setTop (mkF m 93 #[.val (.int i0), .val (.int (1 : Int32)), .val (.int (0 : Int32)), .val (.int (1 : Int32)), .val (.ref b573), .val (.ref b590), .unset, .unset, .unset, .unset] [(.int (1 : Int32)), (.int (1 : Int32))]))
        refine own_st (fun t k => XS.ifNo X637.here hx rfl (hb hby at_93) rfl ((if0 _ _).trans (feq (by decide : ¬ ((1 : Int32) = (0 : Int32)))).1) k) ?_
        show own_Run p e below s _ _ _ (T637.setTop (mkF m 96 #[.val (.int i0), .val (.int (1 : Int32)), .val (.int (0 : Int32)), .val (.int (1 : Int32)), .val (.ref b573), .val (.ref b590), .unset, .unset, .unset, .unset] [(.int (1 : Int32))]))
        refine own_st (fun t k => XS.iconst X637.here hx rfl (hb hby at_96) k) ?_
        show own_Run p e below s _ _ _ (T637.setTop (mkF m 97 #[.val (.int i0), .val (.int (1 : Int32)), .val (.int (0 : Int32)), .val (.int (1 : Int32)), .val (.ref b573), .val (.ref b590), .unset, .unset, .unset, .unset] [(.int (1 : Int32)), (.int (1 : Int32))]))
        refine own_st (fun t k => XS.goto X637.here hx rfl (pc0 := 97) (pc' := 101) rfl (hb hby at_97) (by decide) (by decide) k) ?_
        show own_Run p e below s _ _ _ (T637.setTop (mkF m 101 #[.val (.int i0), .val (.int (1 : Int32)), .val (.int (0 : Int32)), .val (.int (1 : Int32)), .val (.ref b573), .val (.ref b590), .unset, .unset, .unset, .unset] [(.int (1 : Int32)), (.int (1 : Int32))]))
        refine own_st (fun t k => XS.iadd X637.here hx rfl (hb hby at_101) rfl k) ?_
        show own_Run p e below s _ _ _ (T637.setTop (mkF m 102 #[.val (.int i0), .val (.int (1 : Int32)), .val (.int (0 : Int32)), .val (.int (1 : Int32)), .val (.ref b573), .val (.ref b590), .unset, .unset, .unset, .unset] [(.int ((1 : Int32) + (1 : Int32)))]))
        refine own_st (fun t k => XS.istore X637.here hx rfl (hb hby at_102) rfl (l' := #[.val (.int i0), .val (.int (1 : Int32)), .val (.int (0 : Int32)), .val (.int (1 : Int32)), .val (.ref b573), .val (.ref b590), .val (.int ((1 : Int32) + (1 : Int32))), .unset, .unset, .unset]) rfl k) ?_
        show own_Run p e below s _ _ _ (T637.setTop (mkF m 104 #[.val (.int i0), .val (.int (1 : Int32)), .val (.int (0 : Int32)), .val (.int (1 : Int32)), .val (.ref b573), .val (.ref b590), .val (.int ((1 : Int32) + (1 : Int32))), .unset, .unset, .unset] []))
        refine own_st (fun t k => XS.iload X637.here hx rfl (hb hby at_104) rfl k) ?_
        show own_Run p e below s _ _ _ (T637.setTop (mkF m 106 #[.val (.int i0), .val (.int (1 : Int32)), .val (.int (0 : Int32)), .val (.int (1 : Int32)), .val (.ref b573), .val (.ref b590), .val (.int ((1 : Int32) + (1 : Int32))), .unset, .unset, .unset] [(.int ((1 : Int32) + (1 : Int32)))]))
        refine own_st (fun t k => XS.iloadN X637.here hx rfl (hb hby at_106) rfl k) ?_
        show own_Run p e below s _ _ _ (T637.setTop (mkF m 107 #[.val (.int i0), .val (.int (1 : Int32)), .val (.int (0 : Int32)), .val (.int (1 : Int32)), .val (.ref b573), .val (.ref b590), .val (.int ((1 : Int32) + (1 : Int32))), .unset, .unset, .unset] [(.int (0 : Int32)), (.int ((1 : Int32) + (1 : Int32)))]))
        refine own_st (fun t k => XS.ifYes X637.here hx rfl (pc0 := 107) (pc' := 114) rfl (hb hby at_107) rfl ((if0 _ _).trans (teq (by decide : (0 : Int32) = (0 : Int32))).1) (by decide) (by decide) k) ?_
        show own_Run p e below s _ _ _ (T637.setTop (mkF m 114 #[.val (.int i0), .val (.int (1 : Int32)), .val (.int (0 : Int32)), .val (.int (1 : Int32)), .val (.ref b573), .val (.ref b590), .val (.int ((1 : Int32) + (1 : Int32))), .unset, .unset, .unset] [(.int ((1 : Int32) + (1 : Int32)))]))
        refine own_st (fun t k => XS.iconst X637.here hx rfl (hb hby at_114) k) ?_
        show own_Run p e below s _ _ _ (T637.setTop (mkF m 115 #[.val (.int i0), .val (.int (1 : Int32)), .val (.int (0 : Int32)), .val (.int (1 : Int32)), .val (.ref b573), .val (.ref b590), .val (.int ((1 : Int32) + (1 : Int32))), .unset, .unset, .unset] [(.int (0 : Int32)), (.int ((1 : Int32) + (1 : Int32)))]))
        refine own_st (fun t k => XS.iadd X637.here hx rfl (hb hby at_115) rfl k) ?_
        show own_Run p e below s _ _ _ (T637.setTop (mkF m 116 #[.val (.int i0), .val (.int (1 : Int32)), .val (.int (0 : Int32)), .val (.int (1 : Int32)), .val (.ref b573), .val (.ref b590), .val (.int ((1 : Int32) + (1 : Int32))), .unset, .unset, .unset] [(.int (((1 : Int32) + (1 : Int32)) + (0 : Int32)))]))
        refine own_st (fun t k => XS.istore X637.here hx rfl (hb hby at_116) rfl (l' := #[.val (.int i0), .val (.int (1 : Int32)), .val (.int (0 : Int32)), .val (.int (1 : Int32)), .val (.ref b573), .val (.ref b590), .val (.int ((1 : Int32) + (1 : Int32))), .val (.int (((1 : Int32) + (1 : Int32)) + (0 : Int32))), .unset, .unset]) rfl k) ?_
        show own_Run p e below s _ _ _ (T637.setTop (mkF m 118 #[.val (.int i0), .val (.int (1 : Int32)), .val (.int (0 : Int32)), .val (.int (1 : Int32)), .val (.ref b573), .val (.ref b590), .val (.int ((1 : Int32) + (1 : Int32))), .val (.int (((1 : Int32) + (1 : Int32)) + (0 : Int32))), .unset, .unset] []))
        exact own_tail l Z a0 hw T637 _ hx hby hml hZ hown hnm hret hlk te i0 (1 : Int32) (0 : Int32) (1 : Int32) b573 b590 ((1 : Int32) + (1 : Int32)) (((1 : Int32) + (1 : Int32)) + (0 : Int32)) (((0 : Int32) + (1 : Int32)) + (1 : Int32)) (((0 : Int32) + (1 : Int32)) + (1 : Int32)) h0 n0 Z0 _ (X637.more (by decide) (by decide)) rfl N637 K656 O657 S_E Q647 ge575 sz574 Q648 Q649 Q650 Q651 Q652 Q653 Q654 Q655 Q638 ge592 sz591 Q639 Q640 Q641 Q642 Q643 Q644 Q645 Q646 (Ne.symm (Nat.ne_of_lt (Nat.lt_of_lt_of_le (Nat.lt_of_lt_of_le A573.lt K578q.1) (Nat.le_of_eq g590.symm)))) (by decide) (by decide)
    · skip
      refine own_st (fun t k => XS.ifNo X0.here hx rfl (hb hby at_15) rfl ((if0 _ _).trans (feq (hc507 : ¬ ((i0 &&& (2 : Int32)) = (0 : Int32)))).1) k) ?_
      show own_Run p e below s _ _ _ (s₁.setTop (mkF m 18 #[.val (.int i0), .val (.int (1 : Int32)), .unset, .unset, .unset, .unset, .unset, .unset, .unset, .unset] []))
      refine own_st (fun t k => XS.iconst X0.here hx rfl (hb hby at_18) k) ?_
      show own_Run p e below s _ _ _ (s₁.setTop (mkF m 19 #[.val (.int i0), .val (.int (1 : Int32)), .unset, .unset, .unset, .unset, .unset, .unset, .unset, .unset] [(.int (1 : Int32))]))
      refine own_st (fun t k => XS.goto X0.here hx rfl (pc0 := 19) (pc' := 23) rfl (hb hby at_19) (by decide) (by decide) k) ?_
      show own_Run p e below s _ _ _ (s₁.setTop (mkF m 23 #[.val (.int i0), .val (.int (1 : Int32)), .unset, .unset, .unset, .unset, .unset, .unset, .unset, .unset] [(.int (1 : Int32))]))
      refine own_st (fun t k => XS.istoreN X0.here hx rfl (hb hby at_23) rfl (l' := #[.val (.int i0), .val (.int (1 : Int32)), .val (.int (1 : Int32)), .unset, .unset, .unset, .unset, .unset, .unset, .unset]) rfl k) ?_
      show own_Run p e below s _ _ _ (s₁.setTop (mkF m 24 #[.val (.int i0), .val (.int (1 : Int32)), .val (.int (1 : Int32)), .unset, .unset, .unset, .unset, .unset, .unset, .unset] []))
      refine own_st (fun t k => XS.iloadN X0.here hx rfl (hb hby at_24) rfl k) ?_
      show own_Run p e below s _ _ _ (s₁.setTop (mkF m 25 #[.val (.int i0), .val (.int (1 : Int32)), .val (.int (1 : Int32)), .unset, .unset, .unset, .unset, .unset, .unset, .unset] [(.int i0)]))
      refine own_st (fun t k => XS.iconst X0.here hx rfl (hb hby at_25) k) ?_
      show own_Run p e below s _ _ _ (s₁.setTop (mkF m 26 #[.val (.int i0), .val (.int (1 : Int32)), .val (.int (1 : Int32)), .unset, .unset, .unset, .unset, .unset, .unset, .unset] [(.int (4 : Int32)), (.int i0)]))
      refine own_st (fun t k => XS.iand X0.here hx rfl (hb hby at_26) rfl k) ?_
      show own_Run p e below s _ _ _ (s₁.setTop (mkF m 27 #[.val (.int i0), .val (.int (1 : Int32)), .val (.int (1 : Int32)), .unset, .unset, .unset, .unset, .unset, .unset, .unset] [(.int (i0 &&& (4 : Int32)))]))
      by_cases hc658 : (i0 &&& (4 : Int32)) = (0 : Int32)
      · skip
        refine own_st (fun t k => XS.ifYes X0.here hx rfl (pc0 := 27) (pc' := 34) rfl (hb hby at_27) rfl ((if0 _ _).trans (teq (hc658 : (i0 &&& (4 : Int32)) = (0 : Int32))).1) (by decide) (by decide) k) ?_
        show own_Run p e below s _ _ _ (s₁.setTop (mkF m 34 #[.val (.int i0), .val (.int (1 : Int32)), .val (.int (1 : Int32)), .unset, .unset, .unset, .unset, .unset, .unset, .unset] []))
        refine own_st (fun t k => XS.iconst X0.here hx rfl (hb hby at_34) k) ?_
        show own_Run p e below s _ _ _ (s₁.setTop (mkF m 35 #[.val (.int i0), .val (.int (1 : Int32)), .val (.int (1 : Int32)), .unset, .unset, .unset, .unset, .unset, .unset, .unset] [(.int (0 : Int32))]))
        refine own_st (fun t k => XS.istoreN X0.here hx rfl (hb hby at_35) rfl (l' := #[.val (.int i0), .val (.int (1 : Int32)), .val (.int (1 : Int32)), .val (.int (0 : Int32)), .unset, .unset, .unset, .unset, .unset, .unset]) rfl k) ?_
        show own_Run p e below s _ _ _ (s₁.setTop (mkF m 36 #[.val (.int i0), .val (.int (1 : Int32)), .val (.int (1 : Int32)), .val (.int (0 : Int32)), .unset, .unset, .unset, .unset, .unset, .unset] []))
        obtain ⟨T659, h659, X659, e659, E659, A659, D659, -, st659⟩ := newO X0 hx hZ hown (hw _ (List.mem_of_getElem? (i := 0) rfl)) (hw _ (List.mem_of_getElem? (i := 1) rfl)) (hw _ (List.mem_of_getElem? (i := 2) rfl)) e0 (g := (mkF m 36 #[.val (.int i0), .val (.int (1 : Int32)), .val (.int (1 : Int32)), .val (.int (0 : Int32)), .unset, .unset, .unset, .unset, .unset, .unset] [])) rfl (hb hby at_36) (by decide) (by decide)
        obtain ⟨b659, g659⟩ : ∃ z, z = h0.size := ⟨_, rfl⟩
        rw [← g659] at A659 D659 st659
        have sz660 : h0.size ≤ b659 := Nat.le_trans K0.1 (Nat.le_of_eq g659.symm)
        have ge661 : n0 ≤ b659 := Nat.le_trans Z0 sz660
        refine own_st st659 ?_
        have K662 : Keep h0 h659 [] := K0.ext E659
        have O663 := O0.ext E659
        show own_Run p e below s _ _ _ (T659.setTop (mkF m 39 #[.val (.int i0), .val (.int (1 : Int32)), .val (.int (1 : Int32)), .val (.int (0 : Int32)), .unset, .unset, .unset, .unset, .unset, .unset] [(.ref b659)]))
        refine own_st (fun t k => XS.dup X659.here hx rfl (hb hby at_39) rfl rfl k) ?_
        show own_Run p e below s _ _ _ (T659.setTop (mkF m 40 #[.val (.int i0), .val (.int (1 : Int32)), .val (.int (1 : Int32)), .val (.int (0 : Int32)), .unset, .unset, .unset, .unset, .unset, .unset] [(.ref b659), (.ref b659)]))
        refine own_callI X659 hx hZ (y := (⟨"com/example/kerb2d/kerb2d/engine/Tally", "<init>", "()V"⟩ : MethodName)) rfl hown (hw _ (List.mem_of_getElem? (i := 3) rfl)) (hw _ (List.mem_of_getElem? (i := 4) rfl)) (hw _ (List.mem_of_getElem? (i := 5) rfl)) (hw _ (List.mem_of_getElem? (i := 2) rfl)) (by decide) e659 (a := b659) (argsL := []) (rest := [(.ref b659)]) (W := 1) (own_rm1 l Z a0 hw [] b659 h659 n0 (Nat.le_trans Z0 K662.1) A659 D659 ge661) (by decide) (by decide) (by rw [hml]; rfl) (lenOf own_pd2 rfl) rfl (by exact Nat.le_of_eq rfl) (hb hby at_40) (by decide) (by decide) ?_
        intro T664 v664 L664 X664 hq664
        obtain ⟨rfl, N664q, K664q, Q665, Q666, Q667, Q668, Q669, Q670, Q671, Q672, Q673⟩ := hq664
        have K674 : Keep h0 T664.heap [] := K662.trans K664q (allS (Or.inr sz660) all0)
        have O675 := O663.keep K664q (allS ge661 all0)
        have N664 := Fr.app N0 N664q
        show own_Run p e below s _ _ _ (T664.setTop (mkF m 43 #[.val (.int i0), .val (.int (1 : Int32)), .val (.int (1 : Int32)), .val (.int (0 : Int32)), .unset, .unset, .unset, .unset, .unset, .unset] [(.ref b659)]))
        refine own_st (fun t k => XS.astore X664.here hx rfl (hb hby at_43) rfl rfl (l' := #[.val (.int i0), .val (.int (1 : Int32)), .val (.int (1 : Int32)), .val (.int (0 : Int32)), .val (.ref b659), .unset, .unset, .unset, .unset, .unset]) rfl k) ?_
        show own_Run p e below s _ _ _ (T664.setTop (mkF m 45 #[.val (.int i0), .val (.int (1 : Int32)), .val (.int (1 : Int32)), .val (.int (0 : Int32)), .val (.ref b659), .unset, .unset, .unset, .unset, .unset] []))
        obtain ⟨T676, h676, X676, e676, E676, A676, D676, -, st676⟩ := newO X664 hx hZ hown (hw _ (List.mem_of_getElem? (i := 0) rfl)) (hw _ (List.mem_of_getElem? (i := 1) rfl)) (hw _ (List.mem_of_getElem? (i := 2) rfl)) rfl (g := (mkF m 45 #[.val (.int i0), .val (.int (1 : Int32)), .val (.int (1 : Int32)), .val (.int (0 : Int32)), .val (.ref b659), .unset, .unset, .unset, .unset, .unset] [])) rfl (hb hby at_45) (by decide) (by decide)
        obtain ⟨b676, g676⟩ : ∃ z, z = T664.heap.size := ⟨_, rfl⟩
        rw [← g676] at A676 D676 st676
        have sz677 : h0.size ≤ b676 := Nat.le_trans K674.1 (Nat.le_of_eq g676.symm)
        have ge678 : n0 ≤ b676 := Nat.le_trans Z0 sz677
        refine own_st st676 ?_
        have K679 : Keep h0 h676 [] := K674.ext E676
        have O680 := O675.ext E676
        show own_Run p e below s _ _ _ (T676.setTop (mkF m 48 #[.val (.int i0), .val (.int (1 : Int32)), .val (.int (1 : Int32)), .val (.int (0 : Int32)), .val (.ref b659), .unset, .unset, .unset, .unset, .unset] [(.ref b676)]))
        refine own_st (fun t k => XS.dup X676.here hx rfl (hb hby at_48) rfl rfl k) ?_
        show own_Run p e below s _ _ _ (T676.setTop (mkF m 49 #[.val (.int i0), .val (.int (1 : Int32)), .val (.int (1 : Int32)), .val (.int (0 : Int32)), .val (.ref b659), .unset, .unset, .unset, .unset, .unset] [(.ref b676), (.ref b676)]))
        refine own_st (fun t k => XS.aload X676.here hx rfl (hb hby at_49) rfl rfl k) ?_
        show own_Run p e below s _ _ _ (T676.setTop (mkF m 51 #[.val (.int i0), .val (.int (1 : Int32)), .val (.int (1 : Int32)), .val (.int (0 : Int32)), .val (.ref b659), .unset, .unset, .unset, .unset, .unset] [(.ref b659), (.ref b676), (.ref b676)]))
        refine own_callI X676 hx hZ (y := (⟨"com/example/kerb2d/kerb2d/engine/Tally", "<init>", "(Lcom/example/kerb2d/kerb2d/engine/Tally;)V"⟩ : MethodName)) rfl hown (hw _ (List.mem_of_getElem? (i := 14) rfl)) (hw _ (List.mem_of_getElem? (i := 7) rfl)) (hw _ (List.mem_of_getElem? (i := 8) rfl)) (hw _ (List.mem_of_getElem? (i := 2) rfl)) (by decide) e676 (a := b676) (argsL := [(.ref b659)]) (rest := [(.ref b676)]) (W := 1) (own_rm2R l Z a0 hw [] b676 b659 h676 n0 (Nat.le_trans Z0 K679.1) A676 D676 ge678) (by decide) (by decide) (by rw [hml]; rfl) (lenOf own_pd1 rfl) rfl (by exact Nat.le_of_eq rfl) (hb hby at_51) (by decide) (by decide) ?_
        intro T681 v681 L681 X681 hq681
        obtain ⟨rfl, N681q, K681q, Q682, Q683, Q684, Q685, Q686, Q687, Q688, Q689, Q690⟩ := hq681
        have K691 : Keep h0 T681.heap [] := K679.trans K681q (allS (Or.inr sz677) all0)
        have O692 := O680.keep K681q (allS ge678 all0)
        have N681 := Fr.app N664 N681q
        show own_Run p e below s _ _ _ (T681.setTop (mkF m 54 #[.val (.int i0), .val (.int (1 : Int32)), .val (.int (1 : Int32)), .val (.int (0 : Int32)), .val (.ref b659), .unset, .unset, .unset, .unset, .unset] [(.ref b676)]))
        refine own_st (fun t k => XS.astore X681.here hx rfl (hb hby at_54) rfl rfl (l' := #[.val (.int i0), .val (.int (1 : Int32)), .val (.int (1 : Int32)), .val (.int (0 : Int32)), .val (.ref b659), .val (.ref b676), .unset, .unset, .unset, .unset]) rfl k) ?_
        show own_Run p e below s _ _ _ (T681.setTop (mkF m 56 #[.val (.int i0), .val (.int (1 : Int32)), .val (.int (1 : Int32)), .val (.int (0 : Int32)), .val (.ref b659), .val (.ref b676), .unset, .unset, .unset, .unset] []))
        refine own_st (fun t k => XS.iloadN X681.here hx rfl (hb hby at_56) rfl k) ?_
        show own_Run p e below s _ _ _ (T681.setTop (mkF m 57 #[.val (.int i0), .val (.int (1 : Int32)), .val (.int (1 : Int32)), .val (.int (0 : Int32)), .val (.ref b659), .val (.ref b676), .unset, .unset, .unset, .unset] [(.int (1 : Int32))]))
        refine own_st (fun t k => XS.ifNo X681.here hx rfl (hb hby at_57) rfl ((if0 _ _).trans (feq (by decide : ¬ ((1 : Int32) = (0 : Int32)))).1) k) ?_
        show own_Run p e below s _ _ _ (T681.setTop (mkF m 60 #[.val (.int i0), .val (.int (1 : Int32)), .val (.int (1 : Int32)), .val (.int (0 : Int32)), .val (.ref b659), .val (.ref b676), .unset, .unset, .unset, .unset] []))
        refine own_st (fun t k => XS.aload X681.here hx rfl (hb hby at_60) rfl rfl k) ?_
        show own_Run p e below s _ _ _ (T681.setTop (mkF m 62 #[.val (.int i0), .val (.int (1 : Int32)), .val (.int (1 : Int32)), .val (.int (0 : Int32)), .val (.ref b659), .val (.ref b676), .unset, .unset, .unset, .unset] [(.ref b676)]))
        have E693 := ((Q665.ext E676).keep K681q)
        have F694 := ((Q666.ext E676).keep K681q (ninS (Nat.ne_of_lt (Nat.lt_of_lt_of_le (Nat.lt_of_lt_of_le A659.lt K664q.1) (Nat.le_of_eq g676.symm))) nin0))
        have F695 := ((Q667.ext E676).keep K681q (ninS (Nat.ne_of_lt (Nat.lt_of_lt_of_le (Nat.lt_of_lt_of_le A659.lt K664q.1) (Nat.le_of_eq g676.symm))) nin0))
        have F696 := ((Q668.ext E676).keep K681q (ninS (Nat.ne_of_lt (Nat.lt_of_lt_of_le (Nat.lt_of_lt_of_le A659.lt K664q.1) (Nat.le_of_eq g676.symm))) nin0))
        have F697 := ((Q669.ext E676).keep K681q (ninS (Nat.ne_of_lt (Nat.lt_of_lt_of_le (Nat.lt_of_lt_of_le A659.lt K664q.1) (Nat.le_of_eq g676.symm))) nin0))
        have F698 := ((Q670.ext E676).keep K681q (ninS (Nat.ne_of_lt (Nat.lt_of_lt_of_le (Nat.lt_of_lt_of_le A659.lt K664q.1) (Nat.le_of_eq g676.symm))) nin0))
        have F699 := ((Q671.ext E676).keep K681q (ninS (Nat.ne_of_lt (Nat.lt_of_lt_of_le (Nat.lt_of_lt_of_le A659.lt K664q.1) (Nat.le_of_eq g676.symm))) nin0))
        have F700 := ((Q672.ext E676).keep K681q (ninS (Nat.ne_of_lt (Nat.lt_of_lt_of_le (Nat.lt_of_lt_of_le A659.lt K664q.1) (Nat.le_of_eq g676.symm))) nin0))
        have F701 := ((Q673.ext E676).keep K681q (ninS (Nat.ne_of_lt (Nat.lt_of_lt_of_le (Nat.lt_of_lt_of_le A659.lt K664q.1) (Nat.le_of_eq g676.symm))) nin0))
        refine own_callV X681 hx hZ (y := (⟨"com/example/kerb2d/kerb2d/engine/Tally", "enter", "()V"⟩ : MethodName)) (C := "com/example/kerb2d/kerb2d/engine/Tally") hown (hw _ (List.mem_of_getElem? (i := 87) rfl)) (hw _ (List.mem_of_getElem? (i := 88) rfl)) (hw _ (List.mem_of_getElem? (i := 90) rfl)) (hw _ (List.mem_of_getElem? (i := 89) rfl)) (hw _ (List.mem_of_getElem? (i := 91) rfl)) (hw _ (List.mem_of_getElem? (i := 2) rfl)) (by decide) rfl (a := b676) Q682 (argsL := []) (rest := []) (W := 0) (own_rm10P l Z a0 hw [] b676 b659 (0 : Int32) (0 : Int32) (0 : Int32) (0 : Int32) T681.heap n0 (Nat.le_trans Z0 K691.1) Q682 ge678 Q683 Q684 Q685 Q686 Q687 Q688 Q689 Q690 E693 ge661 F694 F695 F696 F697 F698 F699 F700 F701 (Ne.symm (Nat.ne_of_lt (Nat.lt_of_lt_of_le (Nat.lt_of_lt_of_le A659.lt K664q.1) (Nat.le_of_eq g676.symm))))) (by decide) (by decide) (by rw [hml]; rfl) (lenOf own_pd2 rfl) rfl (by exact Nat.le_of_eq rfl) (hb hby at_62) (by decide) (by decide) ?_
        intro T702 v702 L702 X702 hq702
        obtain ⟨rfl, N702q, K702q, Q703, Q704, Q705, Q706, Q707, Q708, Q709, Q710, Q711, Q712, Q713, Q714, Q715, Q716, Q717, Q718, Q719, Q720⟩ := hq702
        have K721 : Keep h0 T702.heap [] := K691.trans K702q (allS (Or.inr sz677) (allS (Or.inr sz660) all0))
        have O722 := O692.keep K702q (allS ge678 (allS ge661 all0))
        have N702 := Fr.app N681 N702q
        show own_Run p e below s _ _ _ (T702.setTop (mkF m 65 #[.val (.int i0), .val (.int (1 : Int32)), .val (.int (1 : Int32)), .val (.int (0 : Int32)), .val (.ref b659), .val (.ref b676), .unset, .unset, .unset, .unset] []))
        refine own_st (fun t k => XS.iloadN X702.here hx rfl (hb hby at_65) rfl k) ?_
        show own_Run p e below s _ _ _ (T702.setTop (mkF m 66 #[.val (.int i0), .val (.int (1 : Int32)), .val (.int (1 : Int32)), .val (.int (0 : Int32)), .val (.ref b659), .val (.ref b676), .unset, .unset, .unset, .unset] [(.int (1 : Int32))]))
        refine own_st (fun t k => XS.ifNo X702.here hx rfl (hb hby at_66) rfl ((if0 _ _).trans (feq (by decide : ¬ ((1 : Int32) = (0 : Int32)))).1) k) ?_
        show own_Run p e below s _ _ _ (T702.setTop (mkF m 69 #[.val (.int i0), .val (.int (1 : Int32)), .val (.int (1 : Int32)), .val (.int (0 : Int32)), .val (.ref b659), .val (.ref b676), .unset, .unset, .unset, .unset] []))
        refine own_st (fun t k => XS.aload X702.here hx rfl (hb hby at_69) rfl rfl k) ?_
        show own_Run p e below s _ _ _ (T702.setTop (mkF m 71 #[.val (.int i0), .val (.int (1 : Int32)), .val (.int (1 : Int32)), .val (.int (0 : Int32)), .val (.ref b659), .val (.ref b676), .unset, .unset, .unset, .unset] [(.ref b659)]))
        refine own_callV X702 hx hZ (y := (⟨"com/example/kerb2d/kerb2d/engine/Tally", "enter", "()V"⟩ : MethodName)) (C := "com/example/kerb2d/kerb2d/engine/Tally") hown (hw _ (List.mem_of_getElem? (i := 87) rfl)) (hw _ (List.mem_of_getElem? (i := 88) rfl)) (hw _ (List.mem_of_getElem? (i := 90) rfl)) (hw _ (List.mem_of_getElem? (i := 89) rfl)) (hw _ (List.mem_of_getElem? (i := 91) rfl)) (hw _ (List.mem_of_getElem? (i := 2) rfl)) (by decide) rfl (a := b659) Q712 (argsL := []) (rest := []) (W := 0) (own_rm10W l Z a0 hw [] b659 (0 : Int32) ((0 : Int32) + (1 : Int32)) T702.heap n0 (Nat.le_trans Z0 K721.1) Q712 ge661 Q713 Q714 Q715 Q716 Q717 Q718 Q719 Q720) (by decide) (by decide) (by rw [hml]; rfl) (lenOf own_pd2 rfl) rfl (by exact Nat.le_of_eq rfl) (hb hby at_71) (by decide) (by decide) ?_
        intro T723 v723 L723 X723 hq723
        obtain ⟨rfl, N723q, K723q, Q724, Q725, Q726, Q727, Q728, Q729, Q730, Q731, Q732⟩ := hq723
        have K733 : Keep h0 T723.heap [] := K721.trans K723q (allS (Or.inr sz660) all0)
        have O734 := O722.keep K723q (allS ge661 all0)
        have N723 := Fr.app N702 N723q
        show own_Run p e below s _ _ _ (T723.setTop (mkF m 74 #[.val (.int i0), .val (.int (1 : Int32)), .val (.int (1 : Int32)), .val (.int (0 : Int32)), .val (.ref b659), .val (.ref b676), .unset, .unset, .unset, .unset] []))
        refine own_st (fun t k => XS.iloadN X723.here hx rfl (hb hby at_74) rfl k) ?_
        show own_Run p e below s _ _ _ (T723.setTop (mkF m 75 #[.val (.int i0), .val (.int (1 : Int32)), .val (.int (1 : Int32)), .val (.int (0 : Int32)), .val (.ref b659), .val (.ref b676), .unset, .unset, .unset, .unset] [(.int (0 : Int32))]))
        refine own_st (fun t k => XS.ifYes X723.here hx rfl (pc0 := 75) (pc' := 83) rfl (hb hby at_75) rfl ((if0 _ _).trans (teq (by decide : (0 : Int32) = (0 : Int32))).1) (by decide) (by decide) k) ?_
        show own_Run p e below s _ _ _ (T723.setTop (mkF m 83 #[.val (.int i0), .val (.int (1 : Int32)), .val (.int (1 : Int32)), .val (.int (0 : Int32)), .val (.ref b659), .val (.ref b676), .unset, .unset, .unset, .unset] []))
        refine own_st (fun t k => XS.iloadN X723.here hx rfl (hb hby at_83) rfl k) ?_
        show own_Run p e below s _ _ _ (T723.setTop (mkF m 84 #[.val (.int i0), .val (.int (1 : Int32)), .val (.int (1 : Int32)), .val (.int (0 : Int32)), .val (.ref b659), .val (.ref b676), .unset, .unset, .unset, .unset] [(.int (1 : Int32))]))
        refine own_st (fun t k => XS.ifNo X723.here hx rfl (hb hby at_84) rfl ((if0 _ _).trans (feq (by decide : ¬ ((1 : Int32) = (0 : Int32)))).1) k) ?_
        show own_Run p e below s _ _ _ (T723.setTop (mkF m 87 #[.val (.int i0), .val (.int (1 : Int32)), .val (.int (1 : Int32)), .val (.int (0 : Int32)), .val (.ref b659), .val (.ref b676), .unset, .unset, .unset, .unset] []))
        refine own_st (fun t k => XS.iconst X723.here hx rfl (hb hby at_87) k) ?_
        show own_Run p e below s _ _ _ (T723.setTop (mkF m 88 #[.val (.int i0), .val (.int (1 : Int32)), .val (.int (1 : Int32)), .val (.int (0 : Int32)), .val (.ref b659), .val (.ref b676), .unset, .unset, .unset, .unset] [(.int (1 : Int32))]))
        refine own_st (fun t k => XS.goto X723.here hx rfl (pc0 := 88) (pc' := 92) rfl (hb hby at_88) (by decide) (by decide) k) ?_
        show own_Run p e below s _ _ _ (T723.setTop (mkF m 92 #[.val (.int i0), .val (.int (1 : Int32)), .val (.int (1 : Int32)), .val (.int (0 : Int32)), .val (.ref b659), .val (.ref b676), .unset, .unset, .unset, .unset] [(.int (1 : Int32))]))
        refine own_st (fun t k => XS.iloadN X723.here hx rfl (hb hby at_92) rfl k) ?_
        show own_Run p e below s _ _ _ (T723.setTop (mkF m 93 #[.val (.int i0), .val (.int (1 : Int32)), .val (.int (1 : Int32)), .val (.int (0 : Int32)), .val (.ref b659), .val (.ref b676), .unset, .unset, .unset, .unset] [(.int (0 : Int32)), (.int (1 : Int32))]))
        refine own_st (fun t k => XS.ifYes X723.here hx rfl (pc0 := 93) (pc' := 100) rfl (hb hby at_93) rfl ((if0 _ _).trans (teq (by decide : (0 : Int32) = (0 : Int32))).1) (by decide) (by decide) k) ?_
        show own_Run p e below s _ _ _ (T723.setTop (mkF m 100 #[.val (.int i0), .val (.int (1 : Int32)), .val (.int (1 : Int32)), .val (.int (0 : Int32)), .val (.ref b659), .val (.ref b676), .unset, .unset, .unset, .unset] [(.int (1 : Int32))]))
        refine own_st (fun t k => XS.iconst X723.here hx rfl (hb hby at_100) k) ?_
        show own_Run p e below s _ _ _ (T723.setTop (mkF m 101 #[.val (.int i0), .val (.int (1 : Int32)), .val (.int (1 : Int32)), .val (.int (0 : Int32)), .val (.ref b659), .val (.ref b676), .unset, .unset, .unset, .unset] [(.int (0 : Int32)), (.int (1 : Int32))]))
        refine own_st (fun t k => XS.iadd X723.here hx rfl (hb hby at_101) rfl k) ?_
        show own_Run p e below s _ _ _ (T723.setTop (mkF m 102 #[.val (.int i0), .val (.int (1 : Int32)), .val (.int (1 : Int32)), .val (.int (0 : Int32)), .val (.ref b659), .val (.ref b676), .unset, .unset, .unset, .unset] [(.int ((1 : Int32) + (0 : Int32)))]))
        refine own_st (fun t k => XS.istore X723.here hx rfl (hb hby at_102) rfl (l' := #[.val (.int i0), .val (.int (1 : Int32)), .val (.int (1 : Int32)), .val (.int (0 : Int32)), .val (.ref b659), .val (.ref b676), .val (.int ((1 : Int32) + (0 : Int32))), .unset, .unset, .unset]) rfl k) ?_
        show own_Run p e below s _ _ _ (T723.setTop (mkF m 104 #[.val (.int i0), .val (.int (1 : Int32)), .val (.int (1 : Int32)), .val (.int (0 : Int32)), .val (.ref b659), .val (.ref b676), .val (.int ((1 : Int32) + (0 : Int32))), .unset, .unset, .unset] []))
        refine own_st (fun t k => XS.iload X723.here hx rfl (hb hby at_104) rfl k) ?_
        show own_Run p e below s _ _ _ (T723.setTop (mkF m 106 #[.val (.int i0), .val (.int (1 : Int32)), .val (.int (1 : Int32)), .val (.int (0 : Int32)), .val (.ref b659), .val (.ref b676), .val (.int ((1 : Int32) + (0 : Int32))), .unset, .unset, .unset] [(.int ((1 : Int32) + (0 : Int32)))]))
        refine own_st (fun t k => XS.iloadN X723.here hx rfl (hb hby at_106) rfl k) ?_
        show own_Run p e below s _ _ _ (T723.setTop (mkF m 107 #[.val (.int i0), .val (.int (1 : Int32)), .val (.int (1 : Int32)), .val (.int (0 : Int32)), .val (.ref b659), .val (.ref b676), .val (.int ((1 : Int32) + (0 : Int32))), .unset, .unset, .unset] [(.int (1 : Int32)), (.int ((1 : Int32) + (0 : Int32)))]))
        refine own_st (fun t k => XS.ifNo X723.here hx rfl (hb hby at_107) rfl ((if0 _ _).trans (feq (by decide : ¬ ((1 : Int32) = (0 : Int32)))).1) k) ?_
        show own_Run p e below s _ _ _ (T723.setTop (mkF m 110 #[.val (.int i0), .val (.int (1 : Int32)), .val (.int (1 : Int32)), .val (.int (0 : Int32)), .val (.ref b659), .val (.ref b676), .val (.int ((1 : Int32) + (0 : Int32))), .unset, .unset, .unset] [(.int ((1 : Int32) + (0 : Int32)))]))
        refine own_st (fun t k => XS.iconst X723.here hx rfl (hb hby at_110) k) ?_
        show own_Run p e below s _ _ _ (T723.setTop (mkF m 111 #[.val (.int i0), .val (.int (1 : Int32)), .val (.int (1 : Int32)), .val (.int (0 : Int32)), .val (.ref b659), .val (.ref b676), .val (.int ((1 : Int32) + (0 : Int32))), .unset, .unset, .unset] [(.int (1 : Int32)), (.int ((1 : Int32) + (0 : Int32)))]))
        refine own_st (fun t k => XS.goto X723.here hx rfl (pc0 := 111) (pc' := 115) rfl (hb hby at_111) (by decide) (by decide) k) ?_
        show own_Run p e below s _ _ _ (T723.setTop (mkF m 115 #[.val (.int i0), .val (.int (1 : Int32)), .val (.int (1 : Int32)), .val (.int (0 : Int32)), .val (.ref b659), .val (.ref b676), .val (.int ((1 : Int32) + (0 : Int32))), .unset, .unset, .unset] [(.int (1 : Int32)), (.int ((1 : Int32) + (0 : Int32)))]))
        refine own_st (fun t k => XS.iadd X723.here hx rfl (hb hby at_115) rfl k) ?_
        show own_Run p e below s _ _ _ (T723.setTop (mkF m 116 #[.val (.int i0), .val (.int (1 : Int32)), .val (.int (1 : Int32)), .val (.int (0 : Int32)), .val (.ref b659), .val (.ref b676), .val (.int ((1 : Int32) + (0 : Int32))), .unset, .unset, .unset] [(.int (((1 : Int32) + (0 : Int32)) + (1 : Int32)))]))
        refine own_st (fun t k => XS.istore X723.here hx rfl (hb hby at_116) rfl (l' := #[.val (.int i0), .val (.int (1 : Int32)), .val (.int (1 : Int32)), .val (.int (0 : Int32)), .val (.ref b659), .val (.ref b676), .val (.int ((1 : Int32) + (0 : Int32))), .val (.int (((1 : Int32) + (0 : Int32)) + (1 : Int32))), .unset, .unset]) rfl k) ?_
        show own_Run p e below s _ _ _ (T723.setTop (mkF m 118 #[.val (.int i0), .val (.int (1 : Int32)), .val (.int (1 : Int32)), .val (.int (0 : Int32)), .val (.ref b659), .val (.ref b676), .val (.int ((1 : Int32) + (0 : Int32))), .val (.int (((1 : Int32) + (0 : Int32)) + (1 : Int32))), .unset, .unset] []))
        have E735 := (Q703.keep K723q)
        have F736 := (Q704.keep K723q (ninS (Ne.symm (Nat.ne_of_lt (Nat.lt_of_lt_of_le (Nat.lt_of_lt_of_le A659.lt K664q.1) (Nat.le_of_eq g676.symm)))) nin0))
        have F737 := (Q705.keep K723q (ninS (Ne.symm (Nat.ne_of_lt (Nat.lt_of_lt_of_le (Nat.lt_of_lt_of_le A659.lt K664q.1) (Nat.le_of_eq g676.symm)))) nin0))
        have F738 := (Q706.keep K723q (ninS (Ne.symm (Nat.ne_of_lt (Nat.lt_of_lt_of_le (Nat.lt_of_lt_of_le A659.lt K664q.1) (Nat.le_of_eq g676.symm)))) nin0))
        have F739 := (Q707.keep K723q (ninS (Ne.symm (Nat.ne_of_lt (Nat.lt_of_lt_of_le (Nat.lt_of_lt_of_le A659.lt K664q.1) (Nat.le_of_eq g676.symm)))) nin0))
        have F740 := (Q708.keep K723q (ninS (Ne.symm (Nat.ne_of_lt (Nat.lt_of_lt_of_le (Nat.lt_of_lt_of_le A659.lt K664q.1) (Nat.le_of_eq g676.symm)))) nin0))
        have F741 := (Q709.keep K723q (ninS (Ne.symm (Nat.ne_of_lt (Nat.lt_of_lt_of_le (Nat.lt_of_lt_of_le A659.lt K664q.1) (Nat.le_of_eq g676.symm)))) nin0))
        have F742 := (Q710.keep K723q (ninS (Ne.symm (Nat.ne_of_lt (Nat.lt_of_lt_of_le (Nat.lt_of_lt_of_le A659.lt K664q.1) (Nat.le_of_eq g676.symm)))) nin0))
        have F743 := (Q711.keep K723q (ninS (Ne.symm (Nat.ne_of_lt (Nat.lt_of_lt_of_le (Nat.lt_of_lt_of_le A659.lt K664q.1) (Nat.le_of_eq g676.symm)))) nin0))
        exact own_tail l Z a0 hw T723 _ hx hby hml hZ hown hnm hret hlk te i0 (1 : Int32) (1 : Int32) (0 : Int32) b659 b676 ((1 : Int32) + (0 : Int32)) (((1 : Int32) + (0 : Int32)) + (1 : Int32)) (((0 : Int32) + (1 : Int32)) + (1 : Int32)) ((0 : Int32) + (1 : Int32)) h0 n0 Z0 _ (X723.more (by decide) (by decide)) rfl N723 K733 O734 S_E Q724 ge661 sz660 Q725 Q726 Q727 Q728 Q729 Q730 Q731 Q732 E735 ge678 sz677 F736 F737 F738 F739 F740 F741 F742 F743 (Ne.symm (Nat.ne_of_lt (Nat.lt_of_lt_of_le (Nat.lt_of_lt_of_le A659.lt K664q.1) (Nat.le_of_eq g676.symm)))) (by decide) (by decide)
      · skip
        refine own_st (fun t k => XS.ifNo X0.here hx rfl (hb hby at_27) rfl ((if0 _ _).trans (feq (hc658 : ¬ ((i0 &&& (4 : Int32)) = (0 : Int32)))).1) k) ?_
        show own_Run p e below s _ _ _ (s₁.setTop (mkF m 30 #[.val (.int i0), .val (.int (1 : Int32)), .val (.int (1 : Int32)), .unset, .unset, .unset, .unset, .unset, .unset, .unset] []))
        refine own_st (fun t k => XS.iconst X0.here hx rfl (hb hby at_30) k) ?_
        show own_Run p e below s _ _ _ (s₁.setTop (mkF m 31 #[.val (.int i0), .val (.int (1 : Int32)), .val (.int (1 : Int32)), .unset, .unset, .unset, .unset, .unset, .unset, .unset] [(.int (1 : Int32))]))
        refine own_st (fun t k => XS.goto X0.here hx rfl (pc0 := 31) (pc' := 35) rfl (hb hby at_31) (by decide) (by decide) k) ?_
        show own_Run p e below s _ _ _ (s₁.setTop (mkF m 35 #[.val (.int i0), .val (.int (1 : Int32)), .val (.int (1 : Int32)), .unset, .unset, .unset, .unset, .unset, .unset, .unset] [(.int (1 : Int32))]))
        refine own_st (fun t k => XS.istoreN X0.here hx rfl (hb hby at_35) rfl (l' := #[.val (.int i0), .val (.int (1 : Int32)), .val (.int (1 : Int32)), .val (.int (1 : Int32)), .unset, .unset, .unset, .unset, .unset, .unset]) rfl k) ?_
        show own_Run p e below s _ _ _ (s₁.setTop (mkF m 36 #[.val (.int i0), .val (.int (1 : Int32)), .val (.int (1 : Int32)), .val (.int (1 : Int32)), .unset, .unset, .unset, .unset, .unset, .unset] []))
        obtain ⟨T744, h744, X744, e744, E744, A744, D744, -, st744⟩ := newO X0 hx hZ hown (hw _ (List.mem_of_getElem? (i := 0) rfl)) (hw _ (List.mem_of_getElem? (i := 1) rfl)) (hw _ (List.mem_of_getElem? (i := 2) rfl)) e0 (g := (mkF m 36 #[.val (.int i0), .val (.int (1 : Int32)), .val (.int (1 : Int32)), .val (.int (1 : Int32)), .unset, .unset, .unset, .unset, .unset, .unset] [])) rfl (hb hby at_36) (by decide) (by decide)
        obtain ⟨b744, g744⟩ : ∃ z, z = h0.size := ⟨_, rfl⟩
        rw [← g744] at A744 D744 st744
        have sz745 : h0.size ≤ b744 := Nat.le_trans K0.1 (Nat.le_of_eq g744.symm)
        have ge746 : n0 ≤ b744 := Nat.le_trans Z0 sz745
        refine own_st st744 ?_
        have K747 : Keep h0 h744 [] := K0.ext E744
        have O748 := O0.ext E744
        show own_Run p e below s _ _ _ (T744.setTop (mkF m 39 #[.val (.int i0), .val (.int (1 : Int32)), .val (.int (1 : Int32)), .val (.int (1 : Int32)), .unset, .unset, .unset, .unset, .unset, .unset] [(.ref b744)]))
        refine own_st (fun t k => XS.dup X744.here hx rfl (hb hby at_39) rfl rfl k) ?_
        show own_Run p e below s _ _ _ (T744.setTop (mkF m 40 #[.val (.int i0), .val (.int (1 : Int32)), .val (.int (1 : Int32)), .val (.int (1 : Int32)), .unset, .unset, .unset, .unset, .unset, .unset] [(.ref b744), (.ref b744)]))
        refine own_callI X744 hx hZ (y := (⟨"com/example/kerb2d/kerb2d/engine/Tally", "<init>", "()V"⟩ : MethodName)) rfl hown (hw _ (List.mem_of_getElem? (i := 3) rfl)) (hw _ (List.mem_of_getElem? (i := 4) rfl)) (hw _ (List.mem_of_getElem? (i := 5) rfl)) (hw _ (List.mem_of_getElem? (i := 2) rfl)) (by decide) e744 (a := b744) (argsL := []) (rest := [(.ref b744)]) (W := 1) (own_rm1 l Z a0 hw [] b744 h744 n0 (Nat.le_trans Z0 K747.1) A744 D744 ge746) (by decide) (by decide) (by rw [hml]; rfl) (lenOf own_pd2 rfl) rfl (by exact Nat.le_of_eq rfl) (hb hby at_40) (by decide) (by decide) ?_
        intro T749 v749 L749 X749 hq749
        obtain ⟨rfl, N749q, K749q, Q750, Q751, Q752, Q753, Q754, Q755, Q756, Q757, Q758⟩ := hq749
        have K759 : Keep h0 T749.heap [] := K747.trans K749q (allS (Or.inr sz745) all0)
        have O760 := O748.keep K749q (allS ge746 all0)
        have N749 := Fr.app N0 N749q
        show own_Run p e below s _ _ _ (T749.setTop (mkF m 43 #[.val (.int i0), .val (.int (1 : Int32)), .val (.int (1 : Int32)), .val (.int (1 : Int32)), .unset, .unset, .unset, .unset, .unset, .unset] [(.ref b744)]))
        refine own_st (fun t k => XS.astore X749.here hx rfl (hb hby at_43) rfl rfl (l' := #[.val (.int i0), .val (.int (1 : Int32)), .val (.int (1 : Int32)), .val (.int (1 : Int32)), .val (.ref b744), .unset, .unset, .unset, .unset, .unset]) rfl k) ?_
        show own_Run p e below s _ _ _ (T749.setTop (mkF m 45 #[.val (.int i0), .val (.int (1 : Int32)), .val (.int (1 : Int32)), .val (.int (1 : Int32)), .val (.ref b744), .unset, .unset, .unset, .unset, .unset] []))
        obtain ⟨T761, h761, X761, e761, E761, A761, D761, -, st761⟩ := newO X749 hx hZ hown (hw _ (List.mem_of_getElem? (i := 0) rfl)) (hw _ (List.mem_of_getElem? (i := 1) rfl)) (hw _ (List.mem_of_getElem? (i := 2) rfl)) rfl (g := (mkF m 45 #[.val (.int i0), .val (.int (1 : Int32)), .val (.int (1 : Int32)), .val (.int (1 : Int32)), .val (.ref b744), .unset, .unset, .unset, .unset, .unset] [])) rfl (hb hby at_45) (by decide) (by decide)
        obtain ⟨b761, g761⟩ : ∃ z, z = T749.heap.size := ⟨_, rfl⟩
        rw [← g761] at A761 D761 st761
        have sz762 : h0.size ≤ b761 := Nat.le_trans K759.1 (Nat.le_of_eq g761.symm)
        have ge763 : n0 ≤ b761 := Nat.le_trans Z0 sz762
        refine own_st st761 ?_
        have K764 : Keep h0 h761 [] := K759.ext E761
        have O765 := O760.ext E761
        show own_Run p e below s _ _ _ (T761.setTop (mkF m 48 #[.val (.int i0), .val (.int (1 : Int32)), .val (.int (1 : Int32)), .val (.int (1 : Int32)), .val (.ref b744), .unset, .unset, .unset, .unset, .unset] [(.ref b761)]))
        refine own_st (fun t k => XS.dup X761.here hx rfl (hb hby at_48) rfl rfl k) ?_
        show own_Run p e below s _ _ _ (T761.setTop (mkF m 49 #[.val (.int i0), .val (.int (1 : Int32)), .val (.int (1 : Int32)), .val (.int (1 : Int32)), .val (.ref b744), .unset, .unset, .unset, .unset, .unset] [(.ref b761), (.ref b761)]))
        refine own_st (fun t k => XS.aload X761.here hx rfl (hb hby at_49) rfl rfl k) ?_
        show own_Run p e below s _ _ _ (T761.setTop (mkF m 51 #[.val (.int i0), .val (.int (1 : Int32)), .val (.int (1 : Int32)), .val (.int (1 : Int32)), .val (.ref b744), .unset, .unset, .unset, .unset, .unset] [(.ref b744), (.ref b761), (.ref b761)]))
        refine own_callI X761 hx hZ (y := (⟨"com/example/kerb2d/kerb2d/engine/Tally", "<init>", "(Lcom/example/kerb2d/kerb2d/engine/Tally;)V"⟩ : MethodName)) rfl hown (hw _ (List.mem_of_getElem? (i := 14) rfl)) (hw _ (List.mem_of_getElem? (i := 7) rfl)) (hw _ (List.mem_of_getElem? (i := 8) rfl)) (hw _ (List.mem_of_getElem? (i := 2) rfl)) (by decide) e761 (a := b761) (argsL := [(.ref b744)]) (rest := [(.ref b761)]) (W := 1) (own_rm2R l Z a0 hw [] b761 b744 h761 n0 (Nat.le_trans Z0 K764.1) A761 D761 ge763) (by decide) (by decide) (by rw [hml]; rfl) (lenOf own_pd1 rfl) rfl (by exact Nat.le_of_eq rfl) (hb hby at_51) (by decide) (by decide) ?_
        intro T766 v766 L766 X766 hq766
        obtain ⟨rfl, N766q, K766q, Q767, Q768, Q769, Q770, Q771, Q772, Q773, Q774, Q775⟩ := hq766
        have K776 : Keep h0 T766.heap [] := K764.trans K766q (allS (Or.inr sz762) all0)
        have O777 := O765.keep K766q (allS ge763 all0)
        have N766 := Fr.app N749 N766q
        show own_Run p e below s _ _ _ (T766.setTop (mkF m 54 #[.val (.int i0), .val (.int (1 : Int32)), .val (.int (1 : Int32)), .val (.int (1 : Int32)), .val (.ref b744), .unset, .unset, .unset, .unset, .unset] [(.ref b761)]))
        refine own_st (fun t k => XS.astore X766.here hx rfl (hb hby at_54) rfl rfl (l' := #[.val (.int i0), .val (.int (1 : Int32)), .val (.int (1 : Int32)), .val (.int (1 : Int32)), .val (.ref b744), .val (.ref b761), .unset, .unset, .unset, .unset]) rfl k) ?_
        show own_Run p e below s _ _ _ (T766.setTop (mkF m 56 #[.val (.int i0), .val (.int (1 : Int32)), .val (.int (1 : Int32)), .val (.int (1 : Int32)), .val (.ref b744), .val (.ref b761), .unset, .unset, .unset, .unset] []))
        refine own_st (fun t k => XS.iloadN X766.here hx rfl (hb hby at_56) rfl k) ?_
        show own_Run p e below s _ _ _ (T766.setTop (mkF m 57 #[.val (.int i0), .val (.int (1 : Int32)), .val (.int (1 : Int32)), .val (.int (1 : Int32)), .val (.ref b744), .val (.ref b761), .unset, .unset, .unset, .unset] [(.int (1 : Int32))]))
        refine own_st (fun t k => XS.ifNo X766.here hx rfl (hb hby at_57) rfl ((if0 _ _).trans (feq (by decide : ¬ ((1 : Int32) = (0 : Int32)))).1) k) ?_
        show own_Run p e below s _ _ _ (T766.setTop (mkF m 60 #[.val (.int i0), .val (.int (1 : Int32)), .val (.int (1 : Int32)), .val (.int (1 : Int32)), .val (.ref b744), .val (.ref b761), .unset, .unset, .unset, .unset] []))
        refine own_st (fun t k => XS.aload X766.here hx rfl (hb hby at_60) rfl rfl k) ?_
        show own_Run p e below s _ _ _ (T766.setTop (mkF m 62 #[.val (.int i0), .val (.int (1 : Int32)), .val (.int (1 : Int32)), .val (.int (1 : Int32)), .val (.ref b744), .val (.ref b761), .unset, .unset, .unset, .unset] [(.ref b761)]))
        have E778 := ((Q750.ext E761).keep K766q)
        have F779 := ((Q751.ext E761).keep K766q (ninS (Nat.ne_of_lt (Nat.lt_of_lt_of_le (Nat.lt_of_lt_of_le A744.lt K749q.1) (Nat.le_of_eq g761.symm))) nin0))
        have F780 := ((Q752.ext E761).keep K766q (ninS (Nat.ne_of_lt (Nat.lt_of_lt_of_le (Nat.lt_of_lt_of_le A744.lt K749q.1) (Nat.le_of_eq g761.symm))) nin0))
        have F781 := ((Q753.ext E761).keep K766q (ninS (Nat.ne_of_lt (Nat.lt_of_lt_of_le (Nat.lt_of_lt_of_le A744.lt K749q.1) (Nat.le_of_eq g761.symm))) nin0))
        have F782 := ((Q754.ext E761).keep K766q (ninS (Nat.ne_of_lt (Nat.lt_of_lt_of_le (Nat.lt_of_lt_of_le A744.lt K749q.1) (Nat.le_of_eq g761.symm))) nin0))
        have F783 := ((Q755.ext E761).keep K766q (ninS (Nat.ne_of_lt (Nat.lt_of_lt_of_le (Nat.lt_of_lt_of_le A744.lt K749q.1) (Nat.le_of_eq g761.symm))) nin0))
        have F784 := ((Q756.ext E761).keep K766q (ninS (Nat.ne_of_lt (Nat.lt_of_lt_of_le (Nat.lt_of_lt_of_le A744.lt K749q.1) (Nat.le_of_eq g761.symm))) nin0))
        have F785 := ((Q757.ext E761).keep K766q (ninS (Nat.ne_of_lt (Nat.lt_of_lt_of_le (Nat.lt_of_lt_of_le A744.lt K749q.1) (Nat.le_of_eq g761.symm))) nin0))
        have F786 := ((Q758.ext E761).keep K766q (ninS (Nat.ne_of_lt (Nat.lt_of_lt_of_le (Nat.lt_of_lt_of_le A744.lt K749q.1) (Nat.le_of_eq g761.symm))) nin0))
        refine own_callV X766 hx hZ (y := (⟨"com/example/kerb2d/kerb2d/engine/Tally", "enter", "()V"⟩ : MethodName)) (C := "com/example/kerb2d/kerb2d/engine/Tally") hown (hw _ (List.mem_of_getElem? (i := 87) rfl)) (hw _ (List.mem_of_getElem? (i := 88) rfl)) (hw _ (List.mem_of_getElem? (i := 90) rfl)) (hw _ (List.mem_of_getElem? (i := 89) rfl)) (hw _ (List.mem_of_getElem? (i := 91) rfl)) (hw _ (List.mem_of_getElem? (i := 2) rfl)) (by decide) rfl (a := b761) Q767 (argsL := []) (rest := []) (W := 0) (own_rm10P l Z a0 hw [] b761 b744 (0 : Int32) (0 : Int32) (0 : Int32) (0 : Int32) T766.heap n0 (Nat.le_trans Z0 K776.1) Q767 ge763 Q768 Q769 Q770 Q771 Q772 Q773 Q774 Q775 E778 ge746 F779 F780 F781 F782 F783 F784 F785 F786 (Ne.symm (Nat.ne_of_lt (Nat.lt_of_lt_of_le (Nat.lt_of_lt_of_le A744.lt K749q.1) (Nat.le_of_eq g761.symm))))) (by decide) (by decide) (by rw [hml]; rfl) (lenOf own_pd2 rfl) rfl (by exact Nat.le_of_eq rfl) (hb hby at_62) (by decide) (by decide) ?_
        intro T787 v787 L787 X787 hq787
        obtain ⟨rfl, N787q, K787q, Q788, Q789, Q790, Q791, Q792, Q793, Q794, Q795, Q796, Q797, Q798, Q799, Q800, Q801, Q802, Q803, Q804, Q805⟩ := hq787
        have K806 : Keep h0 T787.heap [] := K776.trans K787q (allS (Or.inr sz762) (allS (Or.inr sz745) all0))
        have O807 := O777.keep K787q (allS ge763 (allS ge746 all0))
        have N787 := Fr.app N766 N787q
        show own_Run p e below s _ _ _ (T787.setTop (mkF m 65 #[.val (.int i0), .val (.int (1 : Int32)), .val (.int (1 : Int32)), .val (.int (1 : Int32)), .val (.ref b744), .val (.ref b761), .unset, .unset, .unset, .unset] []))
        refine own_st (fun t k => XS.iloadN X787.here hx rfl (hb hby at_65) rfl k) ?_
        show own_Run p e below s _ _ _ (T787.setTop (mkF m 66 #[.val (.int i0), .val (.int (1 : Int32)), .val (.int (1 : Int32)), .val (.int (1 : Int32)), .val (.ref b744), .val (.ref b761), .unset, .unset, .unset, .unset] [(.int (1 : Int32))]))
        refine own_st (fun t k => XS.ifNo X787.here hx rfl (hb hby at_66) rfl ((if0 _ _).trans (feq (by decide : ¬ ((1 : Int32) = (0 : Int32)))).1) k) ?_
        show own_Run p e below s _ _ _ (T787.setTop (mkF m 69 #[.val (.int i0), .val (.int (1 : Int32)), .val (.int (1 : Int32)), .val (.int (1 : Int32)), .val (.ref b744), .val (.ref b761), .unset, .unset, .unset, .unset] []))
        refine own_st (fun t k => XS.aload X787.here hx rfl (hb hby at_69) rfl rfl k) ?_
        show own_Run p e below s _ _ _ (T787.setTop (mkF m 71 #[.val (.int i0), .val (.int (1 : Int32)), .val (.int (1 : Int32)), .val (.int (1 : Int32)), .val (.ref b744), .val (.ref b761), .unset, .unset, .unset, .unset] [(.ref b744)]))
        refine own_callV X787 hx hZ (y := (⟨"com/example/kerb2d/kerb2d/engine/Tally", "enter", "()V"⟩ : MethodName)) (C := "com/example/kerb2d/kerb2d/engine/Tally") hown (hw _ (List.mem_of_getElem? (i := 87) rfl)) (hw _ (List.mem_of_getElem? (i := 88) rfl)) (hw _ (List.mem_of_getElem? (i := 90) rfl)) (hw _ (List.mem_of_getElem? (i := 89) rfl)) (hw _ (List.mem_of_getElem? (i := 91) rfl)) (hw _ (List.mem_of_getElem? (i := 2) rfl)) (by decide) rfl (a := b744) Q797 (argsL := []) (rest := []) (W := 0) (own_rm10W l Z a0 hw [] b744 (0 : Int32) ((0 : Int32) + (1 : Int32)) T787.heap n0 (Nat.le_trans Z0 K806.1) Q797 ge746 Q798 Q799 Q800 Q801 Q802 Q803 Q804 Q805) (by decide) (by decide) (by rw [hml]; rfl) (lenOf own_pd2 rfl) rfl (by exact Nat.le_of_eq rfl) (hb hby at_71) (by decide) (by decide) ?_
        intro T808 v808 L808 X808 hq808
        obtain ⟨rfl, N808q, K808q, Q809, Q810, Q811, Q812, Q813, Q814, Q815, Q816, Q817⟩ := hq808
        have K818 : Keep h0 T808.heap [] := K806.trans K808q (allS (Or.inr sz745) all0)
        have O819 := O807.keep K808q (allS ge746 all0)
        have N808 := Fr.app N787 N808q
        show own_Run p e below s _ _ _ (T808.setTop (mkF m 74 #[.val (.int i0), .val (.int (1 : Int32)), .val (.int (1 : Int32)), .val (.int (1 : Int32)), .val (.ref b744), .val (.ref b761), .unset, .unset, .unset, .unset] []))
        refine own_st (fun t k => XS.iloadN X808.here hx rfl (hb hby at_74) rfl k) ?_
        show own_Run p e below s _ _ _ (T808.setTop (mkF m 75 #[.val (.int i0), .val (.int (1 : Int32)), .val (.int (1 : Int32)), .val (.int (1 : Int32)), .val (.ref b744), .val (.ref b761), .unset, .unset, .unset, .unset] [(.int (1 : Int32))]))
        refine own_st (fun t k => XS.ifNo X808.here hx rfl (hb hby at_75) rfl ((if0 _ _).trans (feq (by decide : ¬ ((1 : Int32) = (0 : Int32)))).1) k) ?_
        show own_Run p e below s _ _ _ (T808.setTop (mkF m 78 #[.val (.int i0), .val (.int (1 : Int32)), .val (.int (1 : Int32)), .val (.int (1 : Int32)), .val (.ref b744), .val (.ref b761), .unset, .unset, .unset, .unset] []))
        refine own_st (fun t k => XS.aload X808.here hx rfl (hb hby at_78) rfl rfl k) ?_
        show own_Run p e below s _ _ _ (T808.setTop (mkF m 80 #[.val (.int i0), .val (.int (1 : Int32)), .val (.int (1 : Int32)), .val (.int (1 : Int32)), .val (.ref b744), .val (.ref b761), .unset, .unset, .unset, .unset] [(.ref b761)]))
        have E820 := (Q788.keep K808q)
        have F821 := (Q789.keep K808q (ninS (Ne.symm (Nat.ne_of_lt (Nat.lt_of_lt_of_le (Nat.lt_of_lt_of_le A744.lt K749q.1) (Nat.le_of_eq g761.symm)))) nin0))
        have F822 := (Q790.keep K808q (ninS (Ne.symm (Nat.ne_of_lt (Nat.lt_of_lt_of_le (Nat.lt_of_lt_of_le A744.lt K749q.1) (Nat.le_of_eq g761.symm)))) nin0))
        have F823 := (Q791.keep K808q (ninS (Ne.symm (Nat.ne_of_lt (Nat.lt_of_lt_of_le (Nat.lt_of_lt_of_le A744.lt K749q.1) (Nat.le_of_eq g761.symm)))) nin0))
        have F824 := (Q792.keep K808q (ninS (Ne.symm (Nat.ne_of_lt (Nat.lt_of_lt_of_le (Nat.lt_of_lt_of_le A744.lt K749q.1) (Nat.le_of_eq g761.symm)))) nin0))
        have F825 := (Q793.keep K808q (ninS (Ne.symm (Nat.ne_of_lt (Nat.lt_of_lt_of_le (Nat.lt_of_lt_of_le A744.lt K749q.1) (Nat.le_of_eq g761.symm)))) nin0))
        have F826 := (Q794.keep K808q (ninS (Ne.symm (Nat.ne_of_lt (Nat.lt_of_lt_of_le (Nat.lt_of_lt_of_le A744.lt K749q.1) (Nat.le_of_eq g761.symm)))) nin0))
        have F827 := (Q795.keep K808q (ninS (Ne.symm (Nat.ne_of_lt (Nat.lt_of_lt_of_le (Nat.lt_of_lt_of_le A744.lt K749q.1) (Nat.le_of_eq g761.symm)))) nin0))
        have F828 := (Q796.keep K808q (ninS (Ne.symm (Nat.ne_of_lt (Nat.lt_of_lt_of_le (Nat.lt_of_lt_of_le A744.lt K749q.1) (Nat.le_of_eq g761.symm)))) nin0))
        refine own_callV X808 hx hZ (y := (⟨"com/example/kerb2d/kerb2d/engine/Tally", "enter", "()V"⟩ : MethodName)) (C := "com/example/kerb2d/kerb2d/engine/Tally") hown (hw _ (List.mem_of_getElem? (i := 87) rfl)) (hw _ (List.mem_of_getElem? (i := 88) rfl)) (hw _ (List.mem_of_getElem? (i := 90) rfl)) (hw _ (List.mem_of_getElem? (i := 89) rfl)) (hw _ (List.mem_of_getElem? (i := 91) rfl)) (hw _ (List.mem_of_getElem? (i := 2) rfl)) (by decide) rfl (a := b761) E820 (argsL := []) (rest := []) (W := 0) (own_rm10P l Z a0 hw [] b761 b744 (0 : Int32) ((0 : Int32) + (1 : Int32)) (0 : Int32) (((0 : Int32) + (1 : Int32)) + (1 : Int32)) T808.heap n0 (Nat.le_trans Z0 K818.1) E820 ge763 F821 F822 F823 F824 F825 F826 F827 F828 Q809 ge746 Q810 Q811 Q812 Q813 Q814 Q815 Q816 Q817 (Ne.symm (Nat.ne_of_lt (Nat.lt_of_lt_of_le (Nat.lt_of_lt_of_le A744.lt K749q.1) (Nat.le_of_eq g761.symm))))) (by decide) (by decide) (by rw [hml]; rfl) (lenOf own_pd2 rfl) rfl (by exact Nat.le_of_eq rfl) (hb hby at_80) (by decide) (by decide) ?_
        intro T829 v829 L829 X829 hq829
        obtain ⟨rfl, N829q, K829q, Q830, Q831, Q832, Q833, Q834, Q835, Q836, Q837, Q838, Q839, Q840, Q841, Q842, Q843, Q844, Q845, Q846, Q847⟩ := hq829
        have K848 : Keep h0 T829.heap [] := K818.trans K829q (allS (Or.inr sz762) (allS (Or.inr sz745) all0))
        have O849 := O819.keep K829q (allS ge763 (allS ge746 all0))
        have N829 := Fr.app N808 N829q
        show own_Run p e below s _ _ _ (T829.setTop (mkF m 83 #[.val (.int i0), .val (.int (1 : Int32)), .val (.int (1 : Int32)), .val (.int (1 : Int32)), .val (.ref b744), .val (.ref b761), .unset, .unset, .unset, .unset] []))
        refine own_st (fun t k => XS.iloadN X829.here hx rfl (hb hby at_83) rfl k) ?_
        show own_Run p e below s _ _ _ (T829.setTop (mkF m 84 #[.val (.int i0), .val (.int (1 : Int32)), .val (.int (1 : Int32)), .val (.int (1 : Int32)), .val (.ref b744), .val (.ref b761), .unset, .unset, .unset, .unset] [(.int (1 : Int32))]))
        refine own_st (fun t k => XS.ifNo X829.here hx rfl (hb hby at_84) rfl ((if0 _ _).trans (feq (by decide : ¬ ((1 : Int32) = (0 : Int32)))).1) k) ?_
        show own_Run p e below s _ _ _ (T829.setTop (mkF m 87 #[.val (.int i0), .val (.int (1 : Int32)), .val (.int (1 : Int32)), .val (.int (1 : Int32)), .val (.ref b744), .val (.ref b761), .unset, .unset, .unset, .unset] []))
        refine own_st (fun t k => XS.iconst X829.here hx rfl (hb hby at_87) k) ?_
        show own_Run p e below s _ _ _ (T829.setTop (mkF m 88 #[.val (.int i0), .val (.int (1 : Int32)), .val (.int (1 : Int32)), .val (.int (1 : Int32)), .val (.ref b744), .val (.ref b761), .unset, .unset, .unset, .unset] [(.int (1 : Int32))]))
        refine own_st (fun t k => XS.goto X829.here hx rfl (pc0 := 88) (pc' := 92) rfl (hb hby at_88) (by decide) (by decide) k) ?_
        show own_Run p e below s _ _ _ (T829.setTop (mkF m 92 #[.val (.int i0), .val (.int (1 : Int32)), .val (.int (1 : Int32)), .val (.int (1 : Int32)), .val (.ref b744), .val (.ref b761), .unset, .unset, .unset, .unset] [(.int (1 : Int32))]))
        refine own_st (fun t k => XS.iloadN X829.here hx rfl (hb hby at_92) rfl k) ?_
        show own_Run p e below s _ _ _ (T829.setTop (mkF m 93 #[.val (.int i0), .val (.int (1 : Int32)), .val (.int (1 : Int32)), .val (.int (1 : Int32)), .val (.ref b744), .val (.ref b761), .unset, .unset, .unset, .unset] [(.int (1 : Int32)), (.int (1 : Int32))]))
        refine own_st (fun t k => XS.ifNo X829.here hx rfl (hb hby at_93) rfl ((if0 _ _).trans (feq (by decide : ¬ ((1 : Int32) = (0 : Int32)))).1) k) ?_
        show own_Run p e below s _ _ _ (T829.setTop (mkF m 96 #[.val (.int i0), .val (.int (1 : Int32)), .val (.int (1 : Int32)), .val (.int (1 : Int32)), .val (.ref b744), .val (.ref b761), .unset, .unset, .unset, .unset] [(.int (1 : Int32))]))
        refine own_st (fun t k => XS.iconst X829.here hx rfl (hb hby at_96) k) ?_
        show own_Run p e below s _ _ _ (T829.setTop (mkF m 97 #[.val (.int i0), .val (.int (1 : Int32)), .val (.int (1 : Int32)), .val (.int (1 : Int32)), .val (.ref b744), .val (.ref b761), .unset, .unset, .unset, .unset] [(.int (1 : Int32)), (.int (1 : Int32))]))
        refine own_st (fun t k => XS.goto X829.here hx rfl (pc0 := 97) (pc' := 101) rfl (hb hby at_97) (by decide) (by decide) k) ?_
        show own_Run p e below s _ _ _ (T829.setTop (mkF m 101 #[.val (.int i0), .val (.int (1 : Int32)), .val (.int (1 : Int32)), .val (.int (1 : Int32)), .val (.ref b744), .val (.ref b761), .unset, .unset, .unset, .unset] [(.int (1 : Int32)), (.int (1 : Int32))]))
        refine own_st (fun t k => XS.iadd X829.here hx rfl (hb hby at_101) rfl k) ?_
        show own_Run p e below s _ _ _ (T829.setTop (mkF m 102 #[.val (.int i0), .val (.int (1 : Int32)), .val (.int (1 : Int32)), .val (.int (1 : Int32)), .val (.ref b744), .val (.ref b761), .unset, .unset, .unset, .unset] [(.int ((1 : Int32) + (1 : Int32)))]))
        refine own_st (fun t k => XS.istore X829.here hx rfl (hb hby at_102) rfl (l' := #[.val (.int i0), .val (.int (1 : Int32)), .val (.int (1 : Int32)), .val (.int (1 : Int32)), .val (.ref b744), .val (.ref b761), .val (.int ((1 : Int32) + (1 : Int32))), .unset, .unset, .unset]) rfl k) ?_
        show own_Run p e below s _ _ _ (T829.setTop (mkF m 104 #[.val (.int i0), .val (.int (1 : Int32)), .val (.int (1 : Int32)), .val (.int (1 : Int32)), .val (.ref b744), .val (.ref b761), .val (.int ((1 : Int32) + (1 : Int32))), .unset, .unset, .unset] []))
        refine own_st (fun t k => XS.iload X829.here hx rfl (hb hby at_104) rfl k) ?_
        show own_Run p e below s _ _ _ (T829.setTop (mkF m 106 #[.val (.int i0), .val (.int (1 : Int32)), .val (.int (1 : Int32)), .val (.int (1 : Int32)), .val (.ref b744), .val (.ref b761), .val (.int ((1 : Int32) + (1 : Int32))), .unset, .unset, .unset] [(.int ((1 : Int32) + (1 : Int32)))]))
        refine own_st (fun t k => XS.iloadN X829.here hx rfl (hb hby at_106) rfl k) ?_
        show own_Run p e below s _ _ _ (T829.setTop (mkF m 107 #[.val (.int i0), .val (.int (1 : Int32)), .val (.int (1 : Int32)), .val (.int (1 : Int32)), .val (.ref b744), .val (.ref b761), .val (.int ((1 : Int32) + (1 : Int32))), .unset, .unset, .unset] [(.int (1 : Int32)), (.int ((1 : Int32) + (1 : Int32)))]))
        refine own_st (fun t k => XS.ifNo X829.here hx rfl (hb hby at_107) rfl ((if0 _ _).trans (feq (by decide : ¬ ((1 : Int32) = (0 : Int32)))).1) k) ?_
        show own_Run p e below s _ _ _ (T829.setTop (mkF m 110 #[.val (.int i0), .val (.int (1 : Int32)), .val (.int (1 : Int32)), .val (.int (1 : Int32)), .val (.ref b744), .val (.ref b761), .val (.int ((1 : Int32) + (1 : Int32))), .unset, .unset, .unset] [(.int ((1 : Int32) + (1 : Int32)))]))
        refine own_st (fun t k => XS.iconst X829.here hx rfl (hb hby at_110) k) ?_
        show own_Run p e below s _ _ _ (T829.setTop (mkF m 111 #[.val (.int i0), .val (.int (1 : Int32)), .val (.int (1 : Int32)), .val (.int (1 : Int32)), .val (.ref b744), .val (.ref b761), .val (.int ((1 : Int32) + (1 : Int32))), .unset, .unset, .unset] [(.int (1 : Int32)), (.int ((1 : Int32) + (1 : Int32)))]))
        refine own_st (fun t k => XS.goto X829.here hx rfl (pc0 := 111) (pc' := 115) rfl (hb hby at_111) (by decide) (by decide) k) ?_
        show own_Run p e below s _ _ _ (T829.setTop (mkF m 115 #[.val (.int i0), .val (.int (1 : Int32)), .val (.int (1 : Int32)), .val (.int (1 : Int32)), .val (.ref b744), .val (.ref b761), .val (.int ((1 : Int32) + (1 : Int32))), .unset, .unset, .unset] [(.int (1 : Int32)), (.int ((1 : Int32) + (1 : Int32)))]))
        refine own_st (fun t k => XS.iadd X829.here hx rfl (hb hby at_115) rfl k) ?_
        show own_Run p e below s _ _ _ (T829.setTop (mkF m 116 #[.val (.int i0), .val (.int (1 : Int32)), .val (.int (1 : Int32)), .val (.int (1 : Int32)), .val (.ref b744), .val (.ref b761), .val (.int ((1 : Int32) + (1 : Int32))), .unset, .unset, .unset] [(.int (((1 : Int32) + (1 : Int32)) + (1 : Int32)))]))
        refine own_st (fun t k => XS.istore X829.here hx rfl (hb hby at_116) rfl (l' := #[.val (.int i0), .val (.int (1 : Int32)), .val (.int (1 : Int32)), .val (.int (1 : Int32)), .val (.ref b744), .val (.ref b761), .val (.int ((1 : Int32) + (1 : Int32))), .val (.int (((1 : Int32) + (1 : Int32)) + (1 : Int32))), .unset, .unset]) rfl k) ?_
        show own_Run p e below s _ _ _ (T829.setTop (mkF m 118 #[.val (.int i0), .val (.int (1 : Int32)), .val (.int (1 : Int32)), .val (.int (1 : Int32)), .val (.ref b744), .val (.ref b761), .val (.int ((1 : Int32) + (1 : Int32))), .val (.int (((1 : Int32) + (1 : Int32)) + (1 : Int32))), .unset, .unset] []))
        exact own_tail l Z a0 hw T829 _ hx hby hml hZ hown hnm hret hlk te i0 (1 : Int32) (1 : Int32) (1 : Int32) b744 b761 ((1 : Int32) + (1 : Int32)) (((1 : Int32) + (1 : Int32)) + (1 : Int32)) ((((0 : Int32) + (1 : Int32)) + (1 : Int32)) + (1 : Int32)) (((0 : Int32) + (1 : Int32)) + (1 : Int32)) h0 n0 Z0 _ (X829.more (by decide) (by decide)) rfl N829 K848 O849 S_E Q839 ge746 sz745 Q840 Q841 Q842 Q843 Q844 Q845 Q846 Q847 Q830 ge763 sz762 Q831 Q832 Q833 Q834 Q835 Q836 Q837 Q838 (Ne.symm (Nat.ne_of_lt (Nat.lt_of_lt_of_le (Nat.lt_of_lt_of_le A744.lt K749q.1) (Nat.le_of_eq g761.symm)))) (by decide) (by decide)
set_option maxRecDepth 65536 in
set_option maxHeartbeats 40000000 in
theorem own_comes_1 {Post : Tables → Env → Array Value → State → Outcome → State → Prop} (hpost : ∀ tb e args s v u, (limb_1_1.after args s (.returned v) u = true ∧ limb_1_2.after args s (.returned v) u = true ∧ True) → FrameEnd s (.returned v) u (Jvm.fieldLocs frame_1_writes args s ++ Jvm.arrayLocs frame_1_arrays args s ++ Jvm.staticLocs frame_1_statics s) 16 192 → Post tb e args s (.returned v) u) :
    ArmFor flags0 classFile x code maxLocals ret World_1 tables_1 room_1 Calls_1 rest_1 Pre_1 Post := by
  intro l hfl _ _ p e ha hc hk s m args below hf hA hF happ hP
  obtain ⟨hcalls, hrest, hpre⟩ := hP
  obtain ⟨-, -, -, hnamed, -, -, -, hat⟩ := (Spec.applies_iff hf).mp happ
  obtain ⟨hg, hn⟩ := and_e (Cond.before_iff.mp (show (Jvm.Cond.and given_1 narrow_1).before args s = true from hpre))
  obtain ⟨gv1, gv2⟩ := and_e hg
  obtain ⟨w0, rfl⟩ : ∃ w0 : Value, args = #[w0] := by
    have hs : args.size = 1 := by simpa [Cond.value, given_1] using gv1
    obtain ⟨L⟩ := args
    match L, hs with
    | [w0], _ => exact ⟨w0, rfl⟩
  have hw := fun d (hd : d ∈ tables_1) => atoms_spec (ws := Jvm.Cond.code x code maxLocals ret :: tables_1) hat d (List.mem_cons_of_mem _ hd)
  have hfit : Fit s := fun {y c} hc i hi => by
    obtain ⟨ha, rfl⟩ := Array.getElem?_eq_some_iff.mp hc
    have q := List.all_eq_true.mp ((Array.all_eq_true_iff_forall_mem.mp hF) _ (Array.getElem_mem ha)) i (List.mem_range.mpr hi)
    simpa [Array.getElem?_eq_getElem hi] using q
  obtain ⟨hsets, hown0⟩ := atoms_of _ (rest_1_c_eq ▸ (show rest_1_c.before _ s = true from hrest))
  obtain ⟨i0, ei0⟩ := is_v gv2
  obtain rfl : w0 = (.int i0) := Option.some.inj ei0
  obtain ⟨te, ete⟩ := exa_v (Cond.before_iff.mp (hsets _ (List.mem_of_getElem? (i := 2) rfl)))
  have SE := Sta.start ete (Or.inl (hsets _ (List.mem_of_getElem? (i := 1) rfl)))
  obtain ⟨n, o, h1, h2, h3, _, L, rfl, ⟨rfl, N⟩, hq⟩ := own_rm0 l s _ hw tables_1 i0 te s.heap s.heap.size (Nat.le_refl _) (Old.start s) SE p e ha hc hk s m _ below hf ((Spec.applies_iff_loose hf).mp happ).1 ⟨rfl, State.Warmed39.refl s, rfl⟩ trivial
  refine ⟨n, _, h1, h2, h3, hpost _ _ _ _ _ _ ⟨Cond.after_iff.mpr rfl, Cond.after_iff.mpr (eq_i res_at (Term.int_eval (1)) rfl), trivial⟩ ⟨hq.1, hq.2.1, (hq.2.2.sift fun y hy => Or.inr (N y hy)).mono (by decide) (by decide)⟩⟩
theorem main_1_1 : Claimed_1_1 := own_comes_1 fun _ _ _ _ _ _ h hF => ⟨h.1, hF⟩
theorem main_1_2 : Claimed_1_2 := own_comes_1 fun _ _ _ _ _ _ h hF => ⟨h.2.1, hF⟩
end Jvm.Pilot.@@N@@
namespace Jvm.Pilot.@@N@@
open Jvm Jvm.ClassFile Sem Op Lib Jvm.Free Jvm.Stand Jvm.Pilot.@@N@@.Jvm.D
/-! MADE BY PROGRAM (witnessworld.py) out of the Statement's table words and the real class files: 12 classes; the members and pool entries that the words name. The judged class is class 1, her method 1. -/
namespace start1
open Jvm.ClassFile
def u (s : String) : CpInfo := .utf8 (stringToUtf16 s)
/-- a pool by its gaps: so many unusable entries, then the entry; so many at the end -/
def gap : Nat → List CpInfo → List CpInfo
  | 0, r => r
  | n + 1, r => .unusable :: gap n r
def poolList (es : List (Nat × CpInfo)) (last : Nat) : List CpInfo := es.foldr (fun e r => gap e.1 (e.2 :: r)) (gap last [])
def pool (es : List (Nat × CpInfo)) (last : Nat) : Array CpInfo := ⟨poolList es last⟩
def fileOf (pool : Array CpInfo) (this : Nat) (attrs : Array Attribute := #[]) (ms : Array MethodInfo := #[]) (fl : Nat := 33) (sup : Nat := 0) (ifs : Array Nat := #[]) (fds : Array FieldInfo := #[]) : ClassFile where
  minorVersion := 0
  majorVersion := 65
  constantPool := pool
  accessFlags := fl
  thisClass := this
  superClass := sup
  interfaces := ifs
  fields := fds
  methods := ms
  attributes := attrs
def plain (name : String) (sup : Option ClassId) : Class where
  name := name
  kind := .ordinary
  loader := none
  accessFlags := 33
  super := sup
  interfaces := #[]
  cf := none
  fields := #[]
  methods := #[]
  instanceTypes := #[]
  staticTypes := #[]
  resolved := #[]
  callSites := []
  init := .initialized
  statics := none
  mirror := none

def pool0 : Array CpInfo := pool [(5, u "<init>"), (0, u "()V"), (1, .class_ 10), (1, u "java/lang/Object")] 113

def k0c0 : Code := { maxStack := 0, maxLocals := 1, code := object_method_1_code, exceptionTable := #[], attributes := #[] }
def k0m0 : Method := { name := "<init>", desc := "()V", sig := { parameters := [], returnType := none }, accessFlags := 1, code := some k0c0 }
/-- java/lang/Object -/
def k0 : Class := { plain "java/lang/Object" none with
  accessFlags := 33
  interfaces := #[]
  cf := some (fileOf pool0 8 #[] #[{ accessFlags := 1, nameIndex := 5, descriptorIndex := 6, attributes := #[] }] 33 0 #[] #[])
  fields := #[]
  methods := #[k0m0]
  instanceTypes := #[]
  staticTypes := #[]
  resolved := Array.replicate 124 none
  statics := none }

def pool1 : Array CpInfo := pool [(2, .class_ 4), (0, .nameAndType 5 6), (0, u "java/lang/Object"), (0, u "<init>"), (0, u "()V"), (0, .class_ 8), (0, u "com/example/kerb2d/kerb2d/engine/Tally"), (0, .methodref 7 3), (0, .methodref 7 11), (0, .nameAndType 5 12), (0, u "(Lcom/example/kerb2d/kerb2d/engine/Tally;)V"), (0, .methodref 7 14), (0, .nameAndType 15 6), (0, u "enter"), (0, .methodref 7 17), (0, .nameAndType 18 19), (0, u "measures"), (0, u "(DIDID)Lcom/example/kerb2d/kerb2d/engine/Measures;"), (0, .methodref 21 22), (0, .class_ 23), (0, .nameAndType 24 25), (0, u "com/example/kerb2d/kerb2d/engine/Measures"), (0, u "entered"), (0, u "()I"), (0, .methodref 21 27), (0, .nameAndType 28 25), (0, u "waiting"), (0, .class_ 30), (0, u "com/example/kerb2d/kerb2d/engine/TallyEnterPinLaw"), (2, u "law"), (0, u "(I)Z")] 3

def k1m0 : Method := { name := "<init>", desc := "()V", sig := { parameters := [], returnType := none }, accessFlags := 1, code := none }
def k1c1 : Code := { maxStack := 9, maxLocals := 10, code := code, exceptionTable := #[], attributes := #[] }
def k1m1 : Method := { name := "law", desc := "(I)Z", sig := { parameters := [.int], returnType := some .boolean }, accessFlags := 9, code := some k1c1 }
/-- com/example/kerb2d/kerb2d/engine/TallyEnterPinLaw -/
def k1 : Class := { plain "com/example/kerb2d/kerb2d/engine/TallyEnterPinLaw" (some 0) with
  accessFlags := 49
  interfaces := #[]
  cf := some (fileOf pool1 29 #[] #[{ accessFlags := 1, nameIndex := 5, descriptorIndex := 6, attributes := #[] }, { accessFlags := 9, nameIndex := 33, descriptorIndex := 34, attributes := #[] }] 49 2 #[] #[])
  fields := #[]
  methods := #[k1m0, k1m1]
  instanceTypes := #[]
  staticTypes := #[]
  resolved := Array.replicate 38 none
  statics := none }

def pool2 : Array CpInfo := pool [(1, .methodref 2 3), (0, .class_ 4), (0, .nameAndType 5 6), (0, u "com/example/kerb2d/kerb2d/engine/Tally"), (0, u "<init>"), (0, u "(Lcom/example/kerb2d/kerb2d/engine/Tally;)V"), (0, .methodref 8 9), (0, .class_ 10), (0, .nameAndType 5 11), (0, u "java/lang/Object"), (0, u "()V"), (0, .fieldref 2 13), (0, .nameAndType 14 15), (0, u "whole"), (0, u "Lcom/example/kerb2d/kerb2d/engine/Tally;"), (0, .fieldref 2 17), (0, .nameAndType 18 19), (0, u "arrived"), (0, u "I"), (3, .fieldref 2 24), (0, .nameAndType 25 19), (0, u "entered"), (0, .methodref 2 27), (0, .nameAndType 28 11), (0, u "enter"), (7, .fieldref 2 37), (0, .nameAndType 38 19), (0, u "left"), (0, .fieldref 2 40), (0, .nameAndType 41 19), (0, u "boarded"), (15, .fieldref 2 58), (0, .nameAndType 59 19), (0, u "finished"), (0, .fieldref 2 61), (0, .nameAndType 62 63), (0, u "conflictSum"), (0, u "J"), (7, u "()Ljava/util/OptionalDouble;"), (1, .class_ 75), (1, u "java/util/OptionalDouble"), (1, .fieldref 2 78), (0, .nameAndType 79 19), (0, u "delayed"), (0, .fieldref 2 81), (0, .nameAndType 82 83), (0, u "delaySum"), (0, u "D"), (4, .class_ 89), (0, u "com/example/kerb2d/kerb2d/engine/Measures"), (4, .methodref 73 95), (0, .nameAndType 96 71), (0, u "empty"), (0, .methodref 88 98), (0, .nameAndType 5 99), (0, u "(DIIIIIDDLjava/util/OptionalDouble;JLjava/util/OptionalDouble;II)V"), (3, u "measures"), (0, u "(DIDID)Lcom/example/kerb2d/kerb2d/engine/Measures;")] 4

def k2c0 : Code := { maxStack := 2, maxLocals := 1, code := prog_18_method_1_code, exceptionTable := #[], attributes := #[] }
def k2m0 : Method := { name := "<init>", desc := "()V", sig := { parameters := [], returnType := none }, accessFlags := 0, code := some k2c0 }
def k2c1 : Code := { maxStack := 2, maxLocals := 2, code := prog_18_method_2_code, exceptionTable := #[], attributes := #[] }
def k2m1 : Method := { name := "<init>", desc := "(Lcom/example/kerb2d/kerb2d/engine/Tally;)V", sig := { parameters := [(.object "com/example/kerb2d/kerb2d/engine/Tally")], returnType := none }, accessFlags := 0, code := some k2c1 }
def k2c2 : Code := { maxStack := 3, maxLocals := 1, code := prog_18_method_4_code, exceptionTable := #[], attributes := #[] }
def k2m2 : Method := { name := "enter", desc := "()V", sig := { parameters := [], returnType := none }, accessFlags := 0, code := some k2c2 }
def k2c3 : Code := { maxStack := 20, maxLocals := 9, code := prog_18_method_7_code, exceptionTable := #[], attributes := #[] }
def k2m3 : Method := { name := "measures", desc := "(DIDID)Lcom/example/kerb2d/kerb2d/engine/Measures;", sig := { parameters := [.double, .int, .double, .int, .double], returnType := some (.object "com/example/kerb2d/kerb2d/engine/Measures") }, accessFlags := 0, code := some k2c3 }
/-- com/example/kerb2d/kerb2d/engine/Tally -/
def k2 : Class := { plain "com/example/kerb2d/kerb2d/engine/Tally" (some 0) with
  accessFlags := 48
  interfaces := #[]
  cf := some (fileOf pool2 2 #[] #[{ accessFlags := 0, nameIndex := 5, descriptorIndex := 11, attributes := #[] }, { accessFlags := 0, nameIndex := 5, descriptorIndex := 6, attributes := #[] }, { accessFlags := 0, nameIndex := 28, descriptorIndex := 11, attributes := #[] }, { accessFlags := 0, nameIndex := 103, descriptorIndex := 104, attributes := #[] }] 48 8 #[] #[{ accessFlags := 18, nameIndex := 14, descriptorIndex := 15, attributes := #[] }, { accessFlags := 2, nameIndex := 18, descriptorIndex := 19, attributes := #[] }, { accessFlags := 2, nameIndex := 25, descriptorIndex := 19, attributes := #[] }, { accessFlags := 2, nameIndex := 38, descriptorIndex := 19, attributes := #[] }, { accessFlags := 2, nameIndex := 41, descriptorIndex := 19, attributes := #[] }, { accessFlags := 2, nameIndex := 79, descriptorIndex := 19, attributes := #[] }, { accessFlags := 2, nameIndex := 82, descriptorIndex := 83, attributes := #[] }, { accessFlags := 2, nameIndex := 59, descriptorIndex := 19, attributes := #[] }, { accessFlags := 2, nameIndex := 62, descriptorIndex := 63, attributes := #[] }])
  fields := #[{ name := "whole", type := (.object "com/example/kerb2d/kerb2d/engine/Tally"), accessFlags := 18, slot := 0, constantValue := 0 }, { name := "arrived", type := .int, accessFlags := 2, slot := 1, constantValue := 0 }, { name := "entered", type := .int, accessFlags := 2, slot := 2, constantValue := 0 }, { name := "left", type := .int, accessFlags := 2, slot := 3, constantValue := 0 }, { name := "boarded", type := .int, accessFlags := 2, slot := 4, constantValue := 0 }, { name := "delayed", type := .int, accessFlags := 2, slot := 5, constantValue := 0 }, { name := "delaySum", type := .double, accessFlags := 2, slot := 6, constantValue := 0 }, { name := "finished", type := .int, accessFlags := 2, slot := 7, constantValue := 0 }, { name := "conflictSum", type := .long, accessFlags := 2, slot := 8, constantValue := 0 }]
  methods := #[k2m0, k2m1, k2m2, k2m3]
  instanceTypes := #[(.object "com/example/kerb2d/kerb2d/engine/Tally"), .int, .int, .int, .int, .int, .double, .int, .long]
  staticTypes := #[]
  resolved := Array.replicate 109 none
  statics := none }

def pool3 : Array CpInfo := pool [(1, .methodref 2 3), (0, .class_ 4), (0, .nameAndType 5 6), (0, u "java/lang/Object"), (0, u "<init>"), (0, u "()V"), (0, .class_ 8), (0, u "java/lang/Record")] 13

def k3c0 : Code := { maxStack := 1, maxLocals := 1, code := jdk_30_method_1_code, exceptionTable := #[], attributes := #[] }
def k3m0 : Method := { name := "<init>", desc := "()V", sig := { parameters := [], returnType := none }, accessFlags := 4, code := some k3c0 }
/-- java/lang/Record -/
def k3 : Class := { plain "java/lang/Record" (some 0) with
  accessFlags := 1057
  interfaces := #[]
  cf := some (fileOf pool3 7 #[] #[{ accessFlags := 4, nameIndex := 5, descriptorIndex := 6, attributes := #[] }] 1057 2 #[] #[])
  fields := #[]
  methods := #[k3m0]
  instanceTypes := #[]
  staticTypes := #[]
  resolved := Array.replicate 22 none
  statics := none }

def pool4 : Array CpInfo := pool [(1, .methodref 2 3), (0, .class_ 4), (0, .nameAndType 5 6), (0, u "java/lang/Record"), (0, u "<init>"), (0, u "()V"), (0, .fieldref 8 9), (0, .class_ 10), (0, .nameAndType 11 12), (0, u "com/example/kerb2d/kerb2d/engine/Measures"), (0, u "time"), (0, u "D"), (0, .fieldref 8 14), (0, .nameAndType 15 16), (0, u "arrived"), (0, u "I"), (0, .fieldref 8 18), (0, .nameAndType 19 16), (0, u "entered"), (0, .fieldref 8 21), (0, .nameAndType 22 16), (0, u "waiting"), (0, .fieldref 8 24), (0, .nameAndType 25 16), (0, u "left"), (0, .fieldref 8 27), (0, .nameAndType 28 16), (0, u "present"), (0, .fieldref 8 30), (0, .nameAndType 31 12), (0, u "meanSpeed"), (0, .fieldref 8 33), (0, .nameAndType 34 12), (0, u "density"), (0, .fieldref 8 36), (0, .nameAndType 37 38), (0, u "meanDelay"), (0, u "Ljava/util/OptionalDouble;"), (0, .fieldref 8 40), (0, .nameAndType 41 42), (0, u "totalConflicts"), (0, u "J"), (0, .fieldref 8 44), (0, .nameAndType 45 38), (0, u "meanConflicts"), (0, .fieldref 8 47), (0, .nameAndType 48 16), (0, u "boarded"), (0, .fieldref 8 50), (0, .nameAndType 51 16), (0, u "waitingForBus"), (12, u "(DIIIIIDDLjava/util/OptionalDouble;JLjava/util/OptionalDouble;II)V"), (4, u "()I")] 36

def k4c0 : Code := { maxStack := 3, maxLocals := 18, code := prog_10_method_1_code, exceptionTable := #[], attributes := #[] }
def k4m0 : Method := { name := "<init>", desc := "(DIIIIIDDLjava/util/OptionalDouble;JLjava/util/OptionalDouble;II)V", sig := { parameters := [.double, .int, .int, .int, .int, .int, .double, .double, (.object "java/util/OptionalDouble"), .long, (.object "java/util/OptionalDouble"), .int, .int], returnType := none }, accessFlags := 1, code := some k4c0 }
def k4c1 : Code := { maxStack := 1, maxLocals := 1, code := prog_10_method_7_code, exceptionTable := #[], attributes := #[] }
def k4m1 : Method := { name := "entered", desc := "()I", sig := { parameters := [], returnType := some .int }, accessFlags := 1, code := some k4c1 }
def k4c2 : Code := { maxStack := 1, maxLocals := 1, code := prog_10_method_8_code, exceptionTable := #[], attributes := #[] }
def k4m2 : Method := { name := "waiting", desc := "()I", sig := { parameters := [], returnType := some .int }, accessFlags := 1, code := some k4c2 }
/-- com/example/kerb2d/kerb2d/engine/Measures -/
def k4 : Class := { plain "com/example/kerb2d/kerb2d/engine/Measures" (some 3) with
  accessFlags := 49
  interfaces := #[]
  cf := some (fileOf pool4 8 #[] #[{ accessFlags := 1, nameIndex := 5, descriptorIndex := 64, attributes := #[] }, { accessFlags := 1, nameIndex := 19, descriptorIndex := 69, attributes := #[] }, { accessFlags := 1, nameIndex := 22, descriptorIndex := 69, attributes := #[] }] 49 2 #[] #[{ accessFlags := 18, nameIndex := 11, descriptorIndex := 12, attributes := #[] }, { accessFlags := 18, nameIndex := 15, descriptorIndex := 16, attributes := #[] }, { accessFlags := 18, nameIndex := 19, descriptorIndex := 16, attributes := #[] }, { accessFlags := 18, nameIndex := 22, descriptorIndex := 16, attributes := #[] }, { accessFlags := 18, nameIndex := 25, descriptorIndex := 16, attributes := #[] }, { accessFlags := 18, nameIndex := 28, descriptorIndex := 16, attributes := #[] }, { accessFlags := 18, nameIndex := 31, descriptorIndex := 12, attributes := #[] }, { accessFlags := 18, nameIndex := 34, descriptorIndex := 12, attributes := #[] }, { accessFlags := 18, nameIndex := 37, descriptorIndex := 38, attributes := #[] }, { accessFlags := 18, nameIndex := 41, descriptorIndex := 42, attributes := #[] }, { accessFlags := 18, nameIndex := 45, descriptorIndex := 38, attributes := #[] }, { accessFlags := 18, nameIndex := 48, descriptorIndex := 16, attributes := #[] }, { accessFlags := 18, nameIndex := 51, descriptorIndex := 16, attributes := #[] }])
  fields := #[{ name := "time", type := .double, accessFlags := 18, slot := 0, constantValue := 0 }, { name := "arrived", type := .int, accessFlags := 18, slot := 1, constantValue := 0 }, { name := "entered", type := .int, accessFlags := 18, slot := 2, constantValue := 0 }, { name := "waiting", type := .int, accessFlags := 18, slot := 3, constantValue := 0 }, { name := "left", type := .int, accessFlags := 18, slot := 4, constantValue := 0 }, { name := "present", type := .int, accessFlags := 18, slot := 5, constantValue := 0 }, { name := "meanSpeed", type := .double, accessFlags := 18, slot := 6, constantValue := 0 }, { name := "density", type := .double, accessFlags := 18, slot := 7, constantValue := 0 }, { name := "meanDelay", type := (.object "java/util/OptionalDouble"), accessFlags := 18, slot := 8, constantValue := 0 }, { name := "totalConflicts", type := .long, accessFlags := 18, slot := 9, constantValue := 0 }, { name := "meanConflicts", type := (.object "java/util/OptionalDouble"), accessFlags := 18, slot := 10, constantValue := 0 }, { name := "boarded", type := .int, accessFlags := 18, slot := 11, constantValue := 0 }, { name := "waitingForBus", type := .int, accessFlags := 18, slot := 12, constantValue := 0 }]
  methods := #[k4m0, k4m1, k4m2]
  instanceTypes := #[.double, .int, .int, .int, .int, .int, .double, .double, (.object "java/util/OptionalDouble"), .long, (.object "java/util/OptionalDouble"), .int, .int]
  staticTypes := #[]
  resolved := Array.replicate 106 none
  statics := none }

def pool5 : Array CpInfo := pool [(2, .class_ 4), (1, u "java/lang/Object"), (0, u "<init>"), (0, u "()V"), (1, .class_ 10), (1, u "java/util/OptionalDouble"), (0, u "isPresent"), (0, u "Z"), (6, u "value"), (0, u "D"), (0, .fieldref 8 22), (0, .nameAndType 23 24), (0, u "EMPTY"), (0, u "Ljava/util/OptionalDouble;"), (28, u "empty"), (48, u "()Ljava/util/OptionalDouble;")] 41

def k5m0 : Method := { name := "<init>", desc := "()V", sig := { parameters := [], returnType := none }, accessFlags := 2, code := none }
def k5c1 : Code := { maxStack := 1, maxLocals := 0, code := jdk_2648_method_2_code, exceptionTable := #[], attributes := #[] }
def k5m1 : Method := { name := "empty", desc := "()Ljava/util/OptionalDouble;", sig := { parameters := [], returnType := some (.object "java/util/OptionalDouble") }, accessFlags := 9, code := some k5c1 }
/-- java/util/OptionalDouble -/
def k5 : Class := { plain "java/util/OptionalDouble" (some 0) with
  accessFlags := 49
  interfaces := #[]
  cf := some (fileOf pool5 8 #[] #[{ accessFlags := 2, nameIndex := 5, descriptorIndex := 6, attributes := #[] }, { accessFlags := 9, nameIndex := 53, descriptorIndex := 102, attributes := #[] }] 49 2 #[] #[{ accessFlags := 26, nameIndex := 23, descriptorIndex := 24, attributes := #[] }, { accessFlags := 18, nameIndex := 11, descriptorIndex := 12, attributes := #[] }, { accessFlags := 18, nameIndex := 19, descriptorIndex := 20, attributes := #[] }])
  fields := #[{ name := "EMPTY", type := (.object "java/util/OptionalDouble"), accessFlags := 26, slot := 0, constantValue := 0 }, { name := "isPresent", type := .boolean, accessFlags := 18, slot := 0, constantValue := 0 }, { name := "value", type := .double, accessFlags := 18, slot := 1, constantValue := 0 }]
  methods := #[k5m0, k5m1]
  instanceTypes := #[.boolean, .double]
  staticTypes := #[(.object "java/util/OptionalDouble")]
  resolved := Array.replicate 144 none
  statics := some 0 }

def pool6 : Array CpInfo := pool [(1, u "java/lang/Cloneable"), (0, .class_ 1), (0, u "java/lang/Object"), (0, .class_ 3)] 3

/-- java/lang/Cloneable -/
def k6 : Class := { plain "java/lang/Cloneable" (some 0) with
  accessFlags := 1537
  interfaces := #[]
  cf := some (fileOf pool6 2 #[] #[] 1537 4 #[] #[])
  fields := #[]
  methods := #[]
  instanceTypes := #[]
  staticTypes := #[]
  resolved := Array.replicate 8 none
  statics := none }

def pool7 : Array CpInfo := pool [(1, u "java/io/Serializable"), (0, .class_ 1), (0, u "java/lang/Object"), (0, .class_ 3)] 3

/-- java/io/Serializable -/
def k7 : Class := { plain "java/io/Serializable" (some 0) with
  accessFlags := 1537
  interfaces := #[]
  cf := some (fileOf pool7 2 #[] #[] 1537 4 #[] #[])
  fields := #[]
  methods := #[]
  instanceTypes := #[]
  staticTypes := #[]
  resolved := Array.replicate 8 none
  statics := none }

/-- the primitive byte -/
def k8 : Class := { plain "byte" none with kind := .primitive 'B', accessFlags := 0x411 }
/-- [B -/
def k9 : Class := { plain "[B" (some 0) with kind := .array 8 .byte, interfaces := #[6, 7], accessFlags := 1041 }

/-- the primitive int -/
def k10 : Class := { plain "int" none with kind := .primitive 'I', accessFlags := 0x411 }
/-- [I -/
def k11 : Class := { plain "[I" (some 0) with kind := .array 10 .int, interfaces := #[6, 7], accessFlags := 1041 }

def heap : Heap := #[{ cls := 5, slots := #[.ref 1], vm := .statics 5 },
  { cls := 5, slots := #[.int 0, .double 0], vm := .none }]
def classes : Array Class := #[k0, k1, k2, k3, k4, k5, k6, k7, k8, k9, k10, k11]
def interned : List (Array UInt16 × Addr) := []
def slotsUsed : Nat := 3
def theMethod : MethodId := ⟨1, 1⟩
def args0 : Array Value := #[.int 3]
def aboutOver (below : List Frame) : State where
  vm := { classes := classes, interned := interned.toArray }
  heap := heap
  slotsUsed := slotsUsed
  threads := #[{ frames := .invoking theMethod args0 :: below }]
def below0 : List Frame := [.native { method := ⟨0, 0⟩, args := #[] }]
def about1 : State := aboutOver below0
def p0 : Program := .bare "" "" ""
def e0 : Env := launch0.env 0 0 0
theorem w_frames : about1.frames = Frame.invoking theMethod args0 :: below0 := rfl
set_option maxRecDepth 65536 in
theorem w_args : argsFit about1.vm theMethod args0 = true := by decide +kernel
set_option maxRecDepth 65536 in
theorem w_heap : heapFits about1 = true := by decide +kernel
set_option maxRecDepth 65536 in
theorem w_runnable : about1.curStatus? = some .runnable := by decide +kernel
set_option maxRecDepth 65536 in
theorem w_alone : about1.alone = true := by decide +kernel
set_option maxRecDepth 65536 in
theorem w_named : about1.methodNamed? x = some theMethod := by decide +kernel
set_option maxRecDepth 65536 in
theorem w_hears : about1.hears theMethod below0 = true := by decide +kernel
set_option maxRecDepth 65536 in
theorem w_ripe : about1.ripe theMethod args0 below0 = true := by decide +kernel
theorem w_running : about1.status = .running := rfl
set_option maxRecDepth 65536 in
theorem w_room : about1.hasRoom e0.platform room_1 = true :=
  launch0.hasRoom_least _ room_1 (by decide +kernel) (by decide +kernel) (by decide +kernel) (by decide +kernel) (by decide +kernel) (by decide +kernel)
theorem allAtoms_all (ts : List Jvm.Cond) (a : Array Jvm.Value) (st : Jvm.State) : (allAtoms ts).before a st = ts.all (fun c => c.before a st) := by
  induction ts with
  | nil => rfl
  | cons c t ih =>
    show (Jvm.Cond.and c (allAtoms t)).before a st = _
    rw [Jvm.Cond.before_and, ih, List.all_cons]
def words1 : List Jvm.Cond := Jvm.Cond.code x code maxLocals ret :: tables_1
/-- a 'code' word, met by the world's own term for the bytes: nothing is compared byte by byte -/
theorem code_word {y : MethodName} {bytes : ByteArray} {mx : Nat} {rt : Option FieldType} {a : Array Value} {s : State} {m : MethodId} {meth : Method} {c : Code} (h1 : s.methodNamed? y = some m) (h2 : s.vm.method? m = some meth) (h3 : meth.code = some c) (h4 : c.code = bytes)
    (h5 : (c.maxLocals == mx && c.exceptionTable.isEmpty && decide (c.maxStack ≤ mostOperands) && decide (meth.sig.returnType = rt) && !meth.locks && decide (parseMethodDescriptor y.desc = some meth.sig)) = true) : (Jvm.Cond.code y bytes mx rt).before a s = true := by
  simp only [Bool.and_eq_true, beq_iff_eq, Bool.not_eq_true', decide_eq_true_eq] at h5
  obtain ⟨⟨⟨⟨⟨g1, g2⟩, g3⟩, g4⟩, g5⟩, g6⟩ := h5
  simp [Cond.before, Cond.holds, Cond.value, h1, h2, h3, h4, g1, g2, g3, g4, g5, g6]
def isCode : Jvm.Cond → Bool
  | .code _ _ _ _ => true
  | _ => false
theorem all_split {L : List Jvm.Cond} {P : Jvm.Cond → Bool} (h1 : L.all (fun c => isCode c || P c) = true) (h2 : ∀ c ∈ L.filter isCode, P c = true) : L.all P = true := by
  refine List.all_eq_true.mpr fun c hc => ?_
  have h := List.all_eq_true.mp h1 c hc
  rcases Bool.eq_false_or_eq_true (isCode c) with hi | hi
  · exact h2 c (List.mem_filter.mpr ⟨hc, hi⟩)
  · simpa [hi] using h
set_option maxRecDepth 65536 in
theorem w_c0 : (Jvm.Cond.code x code maxLocals ret).before args0 about1 = true := code_word (m := ⟨1, 1⟩) (meth := k1m1) (c := k1c1) (by decide +kernel) rfl rfl rfl (by decide +kernel)
set_option maxRecDepth 65536 in
theorem w_c1 : (Jvm.Cond.code ({ cls := "com/example/kerb2d/kerb2d/engine/Tally", name := "<init>", desc := "()V" } : Jvm.MethodName) prog_18_method_1_code (1 : Nat) (Option.none : Option Jvm.ClassFile.FieldType)).before args0 about1 = true := code_word (m := ⟨2, 0⟩) (meth := k2m0) (c := k2c0) (by decide +kernel) rfl rfl rfl (by decide +kernel)
set_option maxRecDepth 65536 in
theorem w_c2 : (Jvm.Cond.code ({ cls := "com/example/kerb2d/kerb2d/engine/Tally", name := "<init>", desc := "(Lcom/example/kerb2d/kerb2d/engine/Tally;)V" } : Jvm.MethodName) prog_18_method_2_code (2 : Nat) (Option.none : Option Jvm.ClassFile.FieldType)).before args0 about1 = true := code_word (m := ⟨2, 1⟩) (meth := k2m1) (c := k2c1) (by decide +kernel) rfl rfl rfl (by decide +kernel)
set_option maxRecDepth 65536 in
theorem w_c3 : (Jvm.Cond.code ({ cls := "java/lang/Object", name := "<init>", desc := "()V" } : Jvm.MethodName) object_method_1_code (1 : Nat) (Option.none : Option Jvm.ClassFile.FieldType)).before args0 about1 = true := code_word (m := ⟨0, 0⟩) (meth := k0m0) (c := k0c0) (by decide +kernel) rfl rfl rfl (by decide +kernel)
set_option maxRecDepth 65536 in
theorem w_c4 : (Jvm.Cond.code ({ cls := "com/example/kerb2d/kerb2d/engine/Tally", name := "measures", desc := "(DIDID)Lcom/example/kerb2d/kerb2d/engine/Measures;" } : Jvm.MethodName) prog_18_method_7_code (9 : Nat) (Option.some (Jvm.ClassFile.FieldType.object "com/example/kerb2d/kerb2d/engine/Measures"))).before args0 about1 = true := code_word (m := ⟨2, 3⟩) (meth := k2m3) (c := k2c3) (by decide +kernel) rfl rfl rfl (by decide +kernel)
set_option maxRecDepth 65536 in
theorem w_c5 : (Jvm.Cond.code ({ cls := "java/util/OptionalDouble", name := "empty", desc := "()Ljava/util/OptionalDouble;" } : Jvm.MethodName) jdk_2648_method_2_code (0 : Nat) (Option.some (Jvm.ClassFile.FieldType.object "java/util/OptionalDouble"))).before args0 about1 = true := code_word (m := ⟨5, 1⟩) (meth := k5m1) (c := k5c1) (by decide +kernel) rfl rfl rfl (by decide +kernel)
set_option maxRecDepth 65536 in
theorem w_c6 : (Jvm.Cond.code ({ cls := "com/example/kerb2d/kerb2d/engine/Measures", name := "<init>", desc := "(DIIIIIDDLjava/util/OptionalDouble;JLjava/util/OptionalDouble;II)V" } : Jvm.MethodName) prog_10_method_1_code (18 : Nat) (Option.none : Option Jvm.ClassFile.FieldType)).before args0 about1 = true := code_word (m := ⟨4, 0⟩) (meth := k4m0) (c := k4c0) (by decide +kernel) rfl rfl rfl (by decide +kernel)
set_option maxRecDepth 65536 in
theorem w_c7 : (Jvm.Cond.code ({ cls := "java/lang/Record", name := "<init>", desc := "()V" } : Jvm.MethodName) jdk_30_method_1_code (1 : Nat) (Option.none : Option Jvm.ClassFile.FieldType)).before args0 about1 = true := code_word (m := ⟨3, 0⟩) (meth := k3m0) (c := k3c0) (by decide +kernel) rfl rfl rfl (by decide +kernel)
set_option maxRecDepth 65536 in
theorem w_c8 : (Jvm.Cond.code ({ cls := "com/example/kerb2d/kerb2d/engine/Measures", name := "entered", desc := "()I" } : Jvm.MethodName) prog_10_method_7_code (1 : Nat) (Option.some Jvm.ClassFile.FieldType.int)).before args0 about1 = true := code_word (m := ⟨4, 1⟩) (meth := k4m1) (c := k4c1) (by decide +kernel) rfl rfl rfl (by decide +kernel)
set_option maxRecDepth 65536 in
theorem w_c9 : (Jvm.Cond.code ({ cls := "com/example/kerb2d/kerb2d/engine/Measures", name := "waiting", desc := "()I" } : Jvm.MethodName) prog_10_method_8_code (1 : Nat) (Option.some Jvm.ClassFile.FieldType.int)).before args0 about1 = true := code_word (m := ⟨4, 2⟩) (meth := k4m2) (c := k4c2) (by decide +kernel) rfl rfl rfl (by decide +kernel)
set_option maxRecDepth 65536 in
theorem w_c10 : (Jvm.Cond.code ({ cls := "com/example/kerb2d/kerb2d/engine/Tally", name := "enter", desc := "()V" } : Jvm.MethodName) prog_18_method_4_code (1 : Nat) (Option.none : Option Jvm.ClassFile.FieldType)).before args0 about1 = true := code_word (m := ⟨2, 2⟩) (meth := k2m2) (c := k2c2) (by decide +kernel) rfl rfl rfl (by decide +kernel)
def codes1 : List Jvm.Cond := [Jvm.Cond.code x code maxLocals ret, Jvm.Cond.code ({ cls := "com/example/kerb2d/kerb2d/engine/Tally", name := "<init>", desc := "()V" } : Jvm.MethodName) prog_18_method_1_code (1 : Nat) (Option.none : Option Jvm.ClassFile.FieldType), Jvm.Cond.code ({ cls := "com/example/kerb2d/kerb2d/engine/Tally", name := "<init>", desc := "(Lcom/example/kerb2d/kerb2d/engine/Tally;)V" } : Jvm.MethodName) prog_18_method_2_code (2 : Nat) (Option.none : Option Jvm.ClassFile.FieldType), Jvm.Cond.code ({ cls := "java/lang/Object", name := "<init>", desc := "()V" } : Jvm.MethodName) object_method_1_code (1 : Nat) (Option.none : Option Jvm.ClassFile.FieldType), Jvm.Cond.code ({ cls := "com/example/kerb2d/kerb2d/engine/Tally", name := "measures", desc := "(DIDID)Lcom/example/kerb2d/kerb2d/engine/Measures;" } : Jvm.MethodName) prog_18_method_7_code (9 : Nat) (Option.some (Jvm.ClassFile.FieldType.object "com/example/kerb2d/kerb2d/engine/Measures")), Jvm.Cond.code ({ cls := "java/util/OptionalDouble", name := "empty", desc := "()Ljava/util/OptionalDouble;" } : Jvm.MethodName) jdk_2648_method_2_code (0 : Nat) (Option.some (Jvm.ClassFile.FieldType.object "java/util/OptionalDouble")), Jvm.Cond.code ({ cls := "com/example/kerb2d/kerb2d/engine/Measures", name := "<init>", desc := "(DIIIIIDDLjava/util/OptionalDouble;JLjava/util/OptionalDouble;II)V" } : Jvm.MethodName) prog_10_method_1_code (18 : Nat) (Option.none : Option Jvm.ClassFile.FieldType), Jvm.Cond.code ({ cls := "java/lang/Record", name := "<init>", desc := "()V" } : Jvm.MethodName) jdk_30_method_1_code (1 : Nat) (Option.none : Option Jvm.ClassFile.FieldType), Jvm.Cond.code ({ cls := "com/example/kerb2d/kerb2d/engine/Measures", name := "entered", desc := "()I" } : Jvm.MethodName) prog_10_method_7_code (1 : Nat) (Option.some Jvm.ClassFile.FieldType.int), Jvm.Cond.code ({ cls := "com/example/kerb2d/kerb2d/engine/Measures", name := "waiting", desc := "()I" } : Jvm.MethodName) prog_10_method_8_code (1 : Nat) (Option.some Jvm.ClassFile.FieldType.int), Jvm.Cond.code ({ cls := "com/example/kerb2d/kerb2d/engine/Tally", name := "enter", desc := "()V" } : Jvm.MethodName) prog_18_method_4_code (1 : Nat) (Option.none : Option Jvm.ClassFile.FieldType)]
set_option maxRecDepth 65536 in
theorem codes_eq : words1.filter isCode = codes1 := rfl
theorem w_codes : ∀ c ∈ words1.filter isCode, c.before args0 about1 = true := by
  rw [codes_eq]
  intro c hc
  simp only [codes1, List.mem_cons, List.not_mem_nil, or_false] at hc
  rcases hc with rfl | rfl | rfl | rfl | rfl | rfl | rfl | rfl | rfl | rfl | rfl
  · exact w_c0
  · exact w_c1
  · exact w_c2
  · exact w_c3
  · exact w_c4
  · exact w_c5
  · exact w_c6
  · exact w_c7
  · exact w_c8
  · exact w_c9
  · exact w_c10
set_option maxRecDepth 65536 in
theorem w_t1 : (words1.take 24).all (fun c => isCode c || c.before args0 about1) = true := by decide +kernel
set_option maxRecDepth 65536 in
theorem w_t2 : ((words1.drop 24).take 24).all (fun c => isCode c || c.before args0 about1) = true := by decide +kernel
set_option maxRecDepth 65536 in
theorem w_t3 : (((words1.drop 24).drop 24).take 24).all (fun c => isCode c || c.before args0 about1) = true := by decide +kernel
set_option maxRecDepth 65536 in
theorem w_t4 : (((words1.drop 24).drop 24).drop 24).all (fun c => isCode c || c.before args0 about1) = true := by decide +kernel
theorem w_tables : (allAtoms (Jvm.Cond.code x code maxLocals ret :: tables_1)).before args0 about1 = true := by
  rw [allAtoms_all]
  show words1.all (fun c => c.before args0 about1) = true
  refine all_split ?_ w_codes
  rw [← List.take_append_drop 24 words1, List.all_append, w_t1, ← List.take_append_drop 24 (words1.drop 24), List.all_append, w_t2, ← List.take_append_drop 24 ((words1.drop 24).drop 24), List.all_append, w_t3, w_t4]
  rfl
set_option maxRecDepth 65536 in
theorem w_rest : rest_1_c.before args0 about1 = true := by decide +kernel
set_option maxRecDepth 65536 in
theorem w_case : (Jvm.Cond.and given_1 narrow_1).before args0 about1 = true := by decide +kernel
theorem w_applies : (headSpec (Jvm.Cond.code x code maxLocals ret :: tables_1) room_1).applies x e0.platform about1 = true :=
  (Spec.applies_iff w_frames).mpr ⟨w_running, w_runnable, w_alone, w_named, w_hears, w_ripe, w_room, w_tables⟩
theorem atStart : AtStart classFile x code maxLocals ret World_1 tables_1 room_1 Calls_1 rest_1 Pre_1 launch0 p0 e0 about1 theMethod args0 below0 :=
  ⟨lists_1, trivial, launch0.admits_env _ _ _, launch0.least_env, fairChoices_fair.cas, fairChoices_fair.clock, w_frames, w_args, w_heap, w_applies, trivial, w_rest, w_case⟩
end start1
theorem witness_1 : WitnessClaimed_1 := ⟨start1.p0, start1.e0, start1.about1, start1.theMethod, start1.args0, start1.below0, start1.atStart⟩
end Jvm.Pilot.@@N@@
