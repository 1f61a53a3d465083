import JvmDerived
import JvmDerived.Pilot.@@N@@Statement
import JvmDerived.Pilot.@@N@@Code
set_option linter.unusedVariables false
set_option linter.unusedSimpArgs false
namespace Jvm.Pilot.@@N@@
open Jvm Jvm.ClassFile Sem Op Lib Jvm.Free Jvm.Stand Jvm.LawKit Jvm.RoadKit Bundle Jvm.Pilot.@@N@@.Jvm.D
def own_Run (p : Program) (e : Env) (below : List Frame) (s : State) (Q : Option Value → Heap → List Loc → Prop) (ck sk : Nat) (U : State) : Prop :=
  ∃ s₂ o, Steps p.tables e below U s₂ ∧ s₂.status = .running ∧ Ended s₂ below o ∧ ∃ v L, o = .returned v ∧ Q v s₂.heap L ∧ FrameEnd s o s₂ L ck sk
section OwnLayer
variable {p : Program} {l : Launch} {e : Env} {R : Room} {s : State} {m : MethodId} {args : Array Value} {below : List Frame} {meth : Method} {c : Code} {T : State} {locs : List Loc} {cells slots : Nat} {Z : State} {a0 : Array Value} {h : Heap} {Q : Option Value → Heap → List Loc → Prop} {ck sk : Nat}
theorem own_st {U U' : State} (hh : ∀ t, Steps p.tables e below U' t → Steps p.tables e below U t) (K : own_Run p e below s Q ck sk U') : own_Run p e below s Q ck sk U := by
  obtain ⟨s2, o, h1, r⟩ := K
  exact ⟨s2, o, hh _ h1, r⟩
theorem own_topI {pc : Nat} {Ls : Array Slot} {st : List Value} {v v' : Int32} (hv : v = v') (K : own_Run p e below s Q ck sk (T.setTop (mkF m pc Ls (.int v' :: st)))) : own_Run p e below s Q ck sk (T.setTop (mkF m pc Ls (.int v :: st))) := hv ▸ K
theorem own_topJ {pc : Nat} {Ls : Array Slot} {st : List Value} {v v' : Int64} (hv : v = v') (K : own_Run p e below s Q ck sk (T.setTop (mkF m pc Ls (.long v' :: st)))) : own_Run p e below s Q ck sk (T.setTop (mkF m pc Ls (.long v :: st))) := hv ▸ K
theorem own_topD {pc : Nat} {Ls : Array Slot} {st : List Value} {v v' : UInt64} (hv : v = v') (K : own_Run p e below s Q ck sk (T.setTop (mkF m pc Ls (.double v' :: st)))) : own_Run p e below s Q ck sk (T.setTop (mkF m pc Ls (.double v :: st))) := hv ▸ K
theorem own_ret (X : Stand p l e R s m args below meth c T locs cells slots) (hx : p.tables.exec = Jvm.exec) (hlk : meth.locks = false) {pc : Nat} {Ls : Array Slot} {w : Value} {t : FieldType} {i : Instr} {rest : List Value} (hret : meth.sig.returnType = some t) (hn : narrow t w = w)
    (hi : (i = .ireturn ∧ (t = .int ∨ t = .boolean ∨ t = .byte ∨ t = .char ∨ t = .short) ∧ ∃ z, w = .int z) ∨ (i = .lreturn ∧ t = .long ∧ ∃ z, w = .long z) ∨ (i = .dreturn ∧ t = .double ∧ ∃ z, w = .double z) ∨ (i = .freturn ∧ t = .float ∧ ∃ z, w = .float z) ∨ (i = .areturn ∧ t.isReference = true ∧ w.isRef = true))
    (hd : decode c.code pc = .ok (i, 1)) (hc : cells ≤ ck) (hs : slots ≤ sk) (hq : Q (some w) T.heap locs) : own_Run p e below s Q ck sk (T.setTop (mkF m pc Ls (w :: rest))) := by
  obtain ⟨fs, hr, hrun, hended, hW, hsame⟩ := X.leave (v := some w) (fun q => by rw [hret] at q; cases q) hlk
  exact ⟨_, _, retOut X hx hret hn hi hd hr, hrun, hended, _, _, rfl, hq, ⟨_, rfl⟩, hW, hsame.mono hc hs⟩
theorem own_retV (X : Stand p l e R s m args below meth c T locs cells slots) (hx : p.tables.exec = Jvm.exec) (hlk : meth.locks = false) {pc : Nat} {Ls : Array Slot} (hret : meth.sig.returnType = none)
    (hd : decode c.code pc = .ok (.return_, 1)) (hc : cells ≤ ck) (hs : slots ≤ sk) (hq : Q none T.heap locs) : own_Run p e below s Q ck sk (T.setTop (mkF m pc Ls [])) := by
  obtain ⟨fs, hr, hrun, hended, hW, hsame⟩ := X.leave (v := none) (fun _ => rfl) hlk
  exact ⟨_, _, X.returnOut hx hret hd hr, hrun, hended, _, _, rfl, hq, ⟨_, rfl⟩, hW, hsame.mono hc hs⟩
theorem own_body {y : MethodName} {bytes : ByteArray} {maxL : Nat} {ret : Option FieldType} {ws : List Jvm.Cond} {rm : Room} {as' : Array Value} {h0 : Heap} (hpl : plainFor y = true)
    (hbody : ∀ (p : Program) (e : Env) (s : State) (m : MethodId) (below : List Frame) (meth : Method) (c : Code) (s₁ : State), p.tables.exec = Jvm.exec → c.code = bytes → c.maxLocals = maxL → Z.Warmed39 s.vm → s.vm.findClass y.cls = some m.cls → meth.name = y.name → meth.sig.returnType = ret → meth.locks = false → Stand p l e rm s m as' below meth c s₁ [] 0 0 → s₁.heap = h0 → own_Run p e below s Q rm.cells rm.slots (s₁.setTop (entryFrame m as' maxL))) :
    MetFree l y (head1 (Jvm.Cond.code y bytes maxL ret :: ws) rm) (fun a U => a = as' ∧ Z.Warmed39 U.vm ∧ U.heap = h0) (fun _ _ _ _ _ => True) (fun _ U o U' => ∃ v L, o = .returned v ∧ Q v U'.heap L ∧ FrameEnd U o U' L rm.cells rm.slots) := by
  refine MetFree.of_bodySF hpl hisR ?_
  intro p e s m args below meth c s₁ Bd hml0 hP hK
  obtain ⟨rfl, hZ, hh⟩ := hP
  exact hbody p e s m below meth c s₁ Bd.exec Bd.bytes hml0 hZ (findClass_of_methodNamed Bd.named) (name_of_methodNamed Bd.named Bd.method).1 Bd.returns Bd.notSynchronized (Stand.of_body Bd) (by rw [← hh, Bd.state]; rfl)
theorem own_callI (X : Stand p l e R s m args below meth c T locs cells slots) (hx : p.tables.exec = Jvm.exec) (hZ : Z.Warmed39 s.vm) {own : String} {idx : Nat} {y : MethodName} (hy1 : y.name = "<init>") (hown : s.vm.findClass own = some m.cls) (w1 : (Jvm.Cond.methodLink own idx y).before a0 Z = true) (w2 : (Jvm.Cond.instanceMethod y).before a0 Z = true)
    {bytes : ByteArray} {maxL : Nat} (w3 : (Jvm.Cond.code y bytes maxL none).before a0 Z = true) (wz : (Jvm.Cond.initialized y.cls).before a0 Z = true) (hy : y.cls ≠ "java/lang/invoke/MethodHandle" ∧ y.cls ≠ "java/lang/invoke/VarHandle") (eT : T.heap = h) {rm : Room} {Qc : Option Value → Heap → List Loc → Prop} {a : Addr} {argsL rest : List Value}
    (hM : MetFree l y (head1 [Jvm.Cond.code y bytes maxL none] rm) (fun b U => b = (Value.ref a :: argsL).toArray ∧ Z.Warmed39 U.vm ∧ U.heap = h) (fun _ _ _ _ _ => True) (fun _ U o U' => ∃ v L, o = .returned v ∧ Qc v U'.heap L ∧ FrameEnd U o U' L rm.cells rm.slots))
    {W : Nat} (hf : rm.frames + 1 ≤ R.frames) (hl : W + (maxL + 11) + rm.locals ≤ R.locals) {pc : Nat} {Ls : Array Slot} {st : List Value} (hsize : Ls.size = c.maxLocals) (hlen : ∀ sig, parseMethodDescriptor y.desc = some sig → argsL.length = sig.parameters.length) (hst : st = argsL.reverse ++ .ref a :: rest) (hW : (rest.map fun v => v.category).sum ≤ W) (hd : decode c.code pc = .ok (.invokespecial idx, 3)) (hc : cells + rm.cells ≤ R.cells) (hs : slots + rm.slots ≤ R.slots)
    (K : ∀ (T' : State) (v : Option Value) (L : List Loc), Stand p l e R s m args below meth c T' (locs ++ L) (cells + rm.cells) (slots + rm.slots) → Qc v T'.heap L → own_Run p e below s Q ck sk (T'.setTop (mkF m (pc + 3) Ls (v.toList ++ rest)))) :
    own_Run p e below s Q ck sk (T.setTop (mkF m pc Ls st)) := by
  obtain ⟨v, _, ⟨T', L', k', n'⟩, -, X', ⟨Lc, hQ, hl', hk', hn'⟩, st'⟩ := X.specialBack hx (y := y) hy1 hown (mvT hZ w1) (mvT hZ w2) (mvT hZ w3) hy (backOf (W := W) hM hZ w3 wz hf hl) (g := mkF m pc Ls st) rfl hsize (Steps.refl _) (a := a) (argsL := argsL) (rest := rest) hlen hst (by show 2 * 0 + _ ≤ _; omega) hd (fun _ _ => ⟨rfl, eT, hc, hs⟩)
  dsimp only [Pt.U, Pt.locs, Pt.cells, Pt.slots] at X' hl' hk' hn' st' hQ
  subst hl' hk' hn'
  exact own_st (fun t k => st'.trans k) (K T' v Lc X' hQ)
theorem own_callV (X : Stand p l e R s m args below meth c T locs cells slots) (hx : p.tables.exec = Jvm.exec) (hZ : Z.Warmed39 s.vm) {own C : String} {idx : Nat} {y : MethodName} (hown : s.vm.findClass own = some m.cls) (w1 : (Jvm.Cond.methodLink own idx y).before a0 Z = true) (w2 : (Jvm.Cond.declares y).before a0 Z = true) (w3 : (Jvm.Cond.selects C y y).before a0 Z = true) (w4 : (Jvm.Cond.instanceMethod y).before a0 Z = true)
    {bytes : ByteArray} {maxL : Nat} {ret : Option FieldType} (w5 : (Jvm.Cond.code y bytes maxL ret).before a0 Z = true) (wz : (Jvm.Cond.initialized y.cls).before a0 Z = true) (hy : y.cls ≠ "java/lang/invoke/MethodHandle" ∧ y.cls ≠ "java/lang/invoke/VarHandle") (eT : T.heap = h) {a : Addr} (E : Exa Z h a C) {rm : Room} {Qc : Option Value → Heap → List Loc → Prop} {argsL rest : List Value}
    (hM : MetFree l y (head1 [Jvm.Cond.code y bytes maxL ret] rm) (fun b U => b = (Value.ref a :: argsL).toArray ∧ Z.Warmed39 U.vm ∧ U.heap = h) (fun _ _ _ _ _ => True) (fun _ U o U' => ∃ v L, o = .returned v ∧ Qc v U'.heap L ∧ FrameEnd U o U' L rm.cells rm.slots))
    {W : Nat} (hf : rm.frames + 1 ≤ R.frames) (hl : W + (maxL + 11) + rm.locals ≤ R.locals) {pc : Nat} {Ls : Array Slot} {st : List Value} (hsize : Ls.size = c.maxLocals) (hlen : ∀ sig, parseMethodDescriptor y.desc = some sig → argsL.length = sig.parameters.length) (hst : st = argsL.reverse ++ .ref a :: rest) (hW : (rest.map fun v => v.category).sum ≤ W) (hd : decode c.code pc = .ok (.invokevirtual idx, 3)) (hc : cells + rm.cells ≤ R.cells) (hs : slots + rm.slots ≤ R.slots)
    (K : ∀ (T' : State) (v : Option Value) (L : List Loc), Stand p l e R s m args below meth c T' (locs ++ L) (cells + rm.cells) (slots + rm.slots) → Qc v T'.heap L → own_Run p e below s Q ck sk (T'.setTop (mkF m (pc + 3) Ls (v.toList ++ rest)))) :
    own_Run p e below s Q ck sk (T.setTop (mkF m pc Ls st)) := by
  obtain ⟨cq, kq, qa, qb, qc⟩ := isOf hZ eT E
  obtain ⟨v, _, ⟨T', L', k', n'⟩, -, X', ⟨Lc, hQ, hl', hk', hn'⟩, st'⟩ := X.virtualBack hx (y := y) (z := y) hown (mvT hZ w1) (mvT hZ w2) (notFace_of_selects (args := #[]) (mvT hZ w3)) (mvT hZ w3) (mvT hZ w4) hy (backOf (W := W) hM hZ w5 wz hf hl) qa qc (g := mkF m pc Ls st) rfl hsize (Steps.refl _) (argsL := argsL) (rest := rest) hlen hst (by show 2 * 0 + _ ≤ _; omega) hd (fun _ _ => ⟨rfl, eT, hc, hs⟩)
  dsimp only [Pt.U, Pt.locs, Pt.cells, Pt.slots] at X' hl' hk' hn' st' hQ
  subst hl' hk' hn'
  exact own_st (fun t k => st'.trans k) (K T' v Lc X' hQ)
theorem own_callS (X : Stand p l e R s m args below meth c T locs cells slots) (hx : p.tables.exec = Jvm.exec) (hZ : Z.Warmed39 s.vm) {own : String} {idx : Nat} {y : MethodName} (hown : s.vm.findClass own = some m.cls) (w1 : (Jvm.Cond.methodLink own idx y).before a0 Z = true) (w2 : (Jvm.Cond.static y).before a0 Z = true)
    {bytes : ByteArray} {maxL : Nat} {ret : Option FieldType} (w5 : (Jvm.Cond.code y bytes maxL ret).before a0 Z = true) (wz : (Jvm.Cond.initialized y.cls).before a0 Z = true) (hy : y.cls ≠ "java/lang/invoke/MethodHandle" ∧ y.cls ≠ "java/lang/invoke/VarHandle") (eT : T.heap = h) {rm : Room} {Qc : Option Value → Heap → List Loc → Prop} {argsL rest : List Value}
    (hM : MetFree l y (head1 [Jvm.Cond.code y bytes maxL ret] rm) (fun b U => b = argsL.toArray ∧ Z.Warmed39 U.vm ∧ U.heap = h) (fun _ _ _ _ _ => True) (fun _ U o U' => ∃ v L, o = .returned v ∧ Qc v U'.heap L ∧ FrameEnd U o U' L rm.cells rm.slots))
    {W : Nat} (hf : rm.frames + 1 ≤ R.frames) (hl : W + (maxL + 11) + rm.locals ≤ R.locals) {pc : Nat} {Ls : Array Slot} {st : List Value} (hsize : Ls.size = c.maxLocals) (hlen : ∀ sig, parseMethodDescriptor y.desc = some sig → argsL.length = sig.parameters.length) (hst : st = argsL.reverse ++ rest) (hW : (rest.map fun v => v.category).sum ≤ W) (hd : decode c.code pc = .ok (.invokestatic idx, 3)) (hc : cells + rm.cells ≤ R.cells) (hs : slots + rm.slots ≤ R.slots)
    (K : ∀ (T' : State) (v : Option Value) (L : List Loc), Stand p l e R s m args below meth c T' (locs ++ L) (cells + rm.cells) (slots + rm.slots) → Qc v T'.heap L → own_Run p e below s Q ck sk (T'.setTop (mkF m (pc + 3) Ls (v.toList ++ rest)))) :
    own_Run p e below s Q ck sk (T.setTop (mkF m pc Ls st)) := by
  obtain ⟨v, _, ⟨T', L', k', n'⟩, -, X', ⟨Lc, hQ, hl', hk', hn'⟩, st'⟩ := Jvm.LawKit.callS X hx (y := y) hown (mvT hZ w1) (mvT hZ w2) (mvT hZ wz) (mvT hZ w5) hy (backOf (W := W) hM hZ w5 wz hf hl) (g := mkF m pc Ls st) rfl hsize (argsL := argsL) (rest := rest) hlen hst (by show 2 * 0 + _ ≤ _; omega) hd (fun _ _ => ⟨rfl, eT, hc, hs⟩)
  dsimp only [Pt.U, Pt.locs, Pt.cells, Pt.slots] at X' hl' hk' hn' st' hQ
  subst hl' hk' hn'
  exact own_st st' (K T' v Lc X' hQ)
end OwnLayer
section OwnNums
open Jvm.FP Jvm.Free.Fl
theorem own_b53 (x : Int32) : B53 x.toInt64 := by
  have := x.le_toInt; have := x.toInt_lt
  unfold B53; rw [Int32.toInt_toInt64]; omega
theorem own_i64lt (x y : Int32) : x.toInt64 < y.toInt64 ↔ x < y := by
  rw [Int64.lt_iff_toInt_lt, Int32.lt_iff_toInt_lt, Int32.toInt_toInt64, Int32.toInt_toInt64]
theorem own_i64eq (x y : Int32) : x.toInt64 = y.toInt64 ↔ x = y := by
  rw [← Int64.toInt_inj, ← Int32.toInt_inj, Int32.toInt_toInt64, Int32.toInt_toInt64]
theorem own_dcmp_lt (x y : Int32) (o : CmpOp) : cmpValue (FP.dcmp (FP.i2d x) (FP.i2d y)) o < 0 ↔ x < y := by
  rw [i2d_w, i2d_w, dcmpV_w (own_b53 x) (own_b53 y), lw_lt, own_i64lt]
theorem own_dcmp_gt (x y : Int32) (o : CmpOp) : 0 < cmpValue (FP.dcmp (FP.i2d x) (FP.i2d y)) o ↔ y < x := by
  rw [i2d_w, i2d_w, dcmpV_w (own_b53 x) (own_b53 y), lw_gt, own_i64lt]
theorem own_dcmp_eq (x y : Int32) (o : CmpOp) : cmpValue (FP.dcmp (FP.i2d x) (FP.i2d y)) o = 0 ↔ x = y := by
  rw [i2d_w, i2d_w, dcmpV_w (own_b53 x) (own_b53 y), lw_eq, own_i64eq]
theorem own_sub_lt (x y : Int32) : lcmpW (x.toInt64 - y.toInt64) 0 < 0 ↔ x < y := by
  have h := sub64 (own_b53 x) (own_b53 y)
  rw [lw_lt, Int64.lt_iff_toInt_lt, Int32.lt_iff_toInt_lt, h, Int32.toInt_toInt64, Int32.toInt_toInt64]
  have : (0 : Int64).toInt = 0 := rfl
  omega
end OwnNums
section OwnWords
theorem own_eqint {args : Array Value} {first s : State} {o : Option Outcome} {idx : List Nat} {t : Term} {k : Int32} (h : (Jvm.Cond.eq t (.int k)).value args first o s idx = some true) : t.eval args first o idx s = some (.int k) := by
  simp only [Cond.value, Term.eval] at h
  cases ht : t.eval args first o idx s with
  | none => simp [ht] at h
  | some x => cases x <;> simp [ht] at h ⊢; exact h
end OwnWords
section OwnInts
theorem own_prod {a b : Int} {A B : Nat} (ha : a.natAbs ≤ A) (hb : b.natAbs ≤ B) : (a * b).natAbs ≤ A * B := by
  rw [Int.natAbs_mul]; exact Nat.mul_le_mul ha hb
theorem own_shr (x : Int32) : (x >>> ((11 : Int32) &&& 31)).toInt.natAbs ≤ 1048576 := by
  rw [c_ishr x 11 11 (by decide)]
  have := x.le_toInt; have := x.toInt_lt
  show (x.toInt / (2048 : Nat)).natAbs ≤ _
  omega
end OwnInts
section OwnPick
open Jvm.FP Jvm.Free.Fl Jvm.Native.java_lang_Math.nans
theorem own_nninf : NoNaN64 9218868437227405312 := by unfold NoNaN64; decide +kernel
theorem own_nnninf : NoNaN64 18442240474082181120 := by unfold NoNaN64; decide +kernel
theorem own_minI {x : UInt64} (h : Fin64 x) : pick64 false 9218868437227405312 x = x := by
  have q : FP.dcmp 9218868437227405312 x = some .gt := (Core.fin_lt_inf (fin64_core.mp h)).2.2.1
  simp [pick64, q]
theorem own_minI' {x : UInt64} (h : Fin64 x) : pick64 false x 9218868437227405312 = x := by
  have q : FP.dcmp x 9218868437227405312 = some .lt := (Core.fin_lt_inf (fin64_core.mp h)).1
  simp [pick64, q]
theorem own_maxI {x : UInt64} (h : Fin64 x) : pick64 true 18442240474082181120 x = x := by
  have q : FP.dcmp 18442240474082181120 x = some .lt := (Core.fin_lt_inf (fin64_core.mp h)).2.2.2
  simp [pick64, q]
theorem own_maxI' {x : UInt64} (h : Fin64 x) : pick64 true x 18442240474082181120 = x := by
  have q : FP.dcmp x 18442240474082181120 = some .gt := (Core.fin_lt_inf (fin64_core.mp h)).2.1
  simp [pick64, q]
end OwnPick
theorem own_d1_0 : decode prog_19_method_5_code 0 = .ok (.aload_n 0, 1) := by decide +kernel
theorem own_d1_1 : decode prog_19_method_5_code 1 = .ok (.getstatic 3, 3) := by decide +kernel
theorem own_d1_4 : decode prog_19_method_5_code 4 = .ok (.if_acmp .ne 9, 3) := by decide +kernel
theorem own_d1_7 : decode prog_19_method_5_code 7 = .ok (.ldc2_w 40, 3) := by decide +kernel
theorem own_d1_10 : decode prog_19_method_5_code 10 = .ok (.goto 6, 3) := by decide +kernel
theorem own_d1_16 : decode prog_19_method_5_code 16 = .ok (.dreturn, 1) := by decide +kernel
set_option maxHeartbeats 4000000 in
theorem own_ef1N (m : MethodId) (x0 : Addr) : entryFrame m #[(.ref x0)] 1 = mkF m 0 #[.val (.ref x0)] [] := by first | (simp [entryFrame, mkF, argsToLocals, Value.category]; done) | rfl
theorem own_pn0 : plainName "com/example/intervallum/intervallum/property/Optimum" = true := by first | (simp [plainName, overriddenIn]; done) | decide +kernel
def own_Q1N (Z : State) (a0 : Array Value) (o0 : Addr) (h0 : Heap) (n0 : Nat) (v : Option Value) (h : Heap) (L : List Loc) : Prop := v = some (.double (9218868437227405312 : UInt64)) ∧ Fr n0 L ∧ h = h0
set_option maxRecDepth 65536 in
set_option maxHeartbeats 40000000 in
theorem own_rm1N (l : Launch) (Z : State) (a0 : Array Value) (hw : ∀ d ∈ tables_1, d.before a0 Z = true) (ws : List Jvm.Cond) (o0 : Addr) (h0 : Heap) (n0 : Nat) (Z0 : n0 ≤ h0.size) (O0 : Old Z n0 h0) (S_M : Sta Z Z.heap "com/example/intervallum/intervallum/property/Optimum" "MIN" "Lcom/example/intervallum/intervallum/property/Optimum;" (.ref o0)) :
    MetFree l (⟨"com/example/intervallum/intervallum/property/Optimum", "worst", "()D"⟩ : MethodName) (head1 (Jvm.Cond.code (⟨"com/example/intervallum/intervallum/property/Optimum", "worst", "()D"⟩ : MethodName) prog_19_method_5_code 1 (some .double) :: ws) ({ frames := 0, cells := 0, slots := 0, locals := 0 } : Room)) (fun a U => a = #[(.ref o0)] ∧ Z.Warmed39 U.vm ∧ U.heap = h0) (fun _ _ _ _ _ => True) (fun _ U o U' => ∃ v L, o = .returned v ∧ own_Q1N Z a0 o0 h0 n0 v U'.heap L ∧ FrameEnd U o U' L ({ frames := 0, cells := 0, slots := 0, locals := 0 } : Room).cells ({ frames := 0, cells := 0, slots := 0, locals := 0 } : Room).slots) := by
  refine own_body (Q := fun v h L => own_Q1N Z a0 o0 h0 n0 v h L) (plainFor_of_name own_pn0) ?_
  intro p e s m below meth c s₁ hx hby hml hZ hown hnm hret hlk X0 e0
  replace hml : c.maxLocals = 1 := hml
  have N0 := Fr.nil n0
  have K0 : Keep h0 h0 [] := Keep.refl _ _
  refine own_st (fun t k => castTop (own_ef1N m o0) k) ?_
  show own_Run p e below s _ _ _ (s₁.setTop (mkF m 0 #[.val (.ref o0)] []))
  refine own_st (fun t k => XS.aloadN X0.here hx rfl (hb hby own_d1_0) rfl rfl k) ?_
  show own_Run p e below s _ _ _ (s₁.setTop (mkF m 1 #[.val (.ref o0)] [(.ref o0)]))
  obtain ⟨T1, X1, e1, st1⟩ := getS2 X0 hx hZ hown (host := "") (Or.inl (hw _ (List.mem_of_getElem? (i := 8) rfl))) Via.refl e0 (S_M.ext O0.2) (g := (mkF m 1 #[.val (.ref o0)] [(.ref o0)])) rfl (hb hby own_d1_1)
  refine own_st st1 ?_
  show own_Run p e below s _ _ _ (T1.setTop (mkF m 4 #[.val (.ref o0)] [(.ref o0), (.ref o0)]))
  refine own_st (fun t k => Jvm.RoadKit.acmp (g := (mkF m 4 #[.val (.ref o0)] [(.ref o0), (.ref o0)])) X1 hx rfl rfl rfl (pc0 := 4) (pc' := 7) (same := true) rfl (hb hby own_d1_4) rfl (decide_eq_true rfl) (by decide) (by decide) k) ?_
  show own_Run p e below s _ _ _ (T1.setTop (mkF m 7 #[.val (.ref o0)] []))
  refine own_st (X1.ldc2DoubleC hx hown (mvT hZ (hw _ (List.mem_of_getElem? (i := 9) rfl))) (g := (mkF m 7 #[.val (.ref o0)] [])) rfl (hb hby own_d1_7)) ?_
  show own_Run p e below s _ _ _ (T1.setTop (mkF m 10 #[.val (.ref o0)] [(.double (9218868437227405312 : UInt64))]))
  refine own_st (fun t k => XS.goto X1.here hx rfl (pc0 := 10) (pc' := 16) rfl (hb hby own_d1_10) (by decide) (by decide) k) ?_
  show own_Run p e below s _ _ _ (T1.setTop (mkF m 16 #[.val (.ref o0)] [(.double (9218868437227405312 : UInt64))]))
  exact own_ret X1 hx hlk (t := .double) hret rfl (Or.inr (Or.inr (Or.inl ⟨rfl, rfl, _, rfl⟩))) (hb hby own_d1_16) (by decide) (by decide) ⟨rfl, N0, e1⟩
theorem own_d1_13 : decode prog_19_method_5_code 13 = .ok (.ldc2_w 42, 3) := by decide +kernel
set_option maxHeartbeats 4000000 in
theorem own_ef1X (m : MethodId) (x0 : Addr) : entryFrame m #[(.ref x0)] 1 = mkF m 0 #[.val (.ref x0)] [] := by first | (simp [entryFrame, mkF, argsToLocals, Value.category]; done) | rfl
def own_Q1X (Z : State) (a0 : Array Value) (o0 : Addr) (tm : Addr) (h0 : Heap) (n0 : Nat) (v : Option Value) (h : Heap) (L : List Loc) : Prop := v = some (.double (18442240474082181120 : UInt64)) ∧ Fr n0 L ∧ h = h0
set_option maxRecDepth 65536 in
set_option maxHeartbeats 40000000 in
theorem own_rm1X (l : Launch) (Z : State) (a0 : Array Value) (hw : ∀ d ∈ tables_1, d.before a0 Z = true) (ws : List Jvm.Cond) (o0 : Addr) (tm : Addr) (h0 : Heap) (n0 : Nat) (Z0 : n0 ≤ h0.size) (O0 : Old Z n0 h0) (S_M : Sta Z Z.heap "com/example/intervallum/intervallum/property/Optimum" "MIN" "Lcom/example/intervallum/intervallum/property/Optimum;" (.ref tm)) (ne1 : o0 ≠ tm) :
    MetFree l (⟨"com/example/intervallum/intervallum/property/Optimum", "worst", "()D"⟩ : MethodName) (head1 (Jvm.Cond.code (⟨"com/example/intervallum/intervallum/property/Optimum", "worst", "()D"⟩ : MethodName) prog_19_method_5_code 1 (some .double) :: ws) ({ frames := 0, cells := 0, slots := 0, locals := 0 } : Room)) (fun a U => a = #[(.ref o0)] ∧ Z.Warmed39 U.vm ∧ U.heap = h0) (fun _ _ _ _ _ => True) (fun _ U o U' => ∃ v L, o = .returned v ∧ own_Q1X Z a0 o0 tm h0 n0 v U'.heap L ∧ FrameEnd U o U' L ({ frames := 0, cells := 0, slots := 0, locals := 0 } : Room).cells ({ frames := 0, cells := 0, slots := 0, locals := 0 } : Room).slots) := by
  refine own_body (Q := fun v h L => own_Q1X Z a0 o0 tm h0 n0 v h L) (plainFor_of_name own_pn0) ?_
  intro p e s m below meth c s₁ hx hby hml hZ hown hnm hret hlk X0 e0
  replace hml : c.maxLocals = 1 := hml
  have N0 := Fr.nil n0
  have K0 : Keep h0 h0 [] := Keep.refl _ _
  refine own_st (fun t k => castTop (own_ef1X m o0) k) ?_
  show own_Run p e below s _ _ _ (s₁.setTop (mkF m 0 #[.val (.ref o0)] []))
  refine own_st (fun t k => XS.aloadN X0.here hx rfl (hb hby own_d1_0) rfl rfl k) ?_
  show own_Run p e below s _ _ _ (s₁.setTop (mkF m 1 #[.val (.ref o0)] [(.ref o0)]))
  obtain ⟨T2, X2, e2, st2⟩ := getS2 X0 hx hZ hown (host := "") (Or.inl (hw _ (List.mem_of_getElem? (i := 8) rfl))) Via.refl e0 (S_M.ext O0.2) (g := (mkF m 1 #[.val (.ref o0)] [(.ref o0)])) rfl (hb hby own_d1_1)
  refine own_st st2 ?_
  show own_Run p e below s _ _ _ (T2.setTop (mkF m 4 #[.val (.ref o0)] [(.ref tm), (.ref o0)]))
  refine own_st (fun t k => Jvm.RoadKit.acmp (g := (mkF m 4 #[.val (.ref o0)] [(.ref tm), (.ref o0)])) X2 hx rfl rfl rfl (pc0 := 4) (pc' := 13) (same := false) rfl (hb hby own_d1_4) rfl (decide_eq_false fun q => ne1 (Value.ref.inj q)) (by decide) (by decide) k) ?_
  show own_Run p e below s _ _ _ (T2.setTop (mkF m 13 #[.val (.ref o0)] []))
  refine own_st (X2.ldc2DoubleC hx hown (mvT hZ (hw _ (List.mem_of_getElem? (i := 22) rfl))) (g := (mkF m 13 #[.val (.ref o0)] [])) rfl (hb hby own_d1_13)) ?_
  show own_Run p e below s _ _ _ (T2.setTop (mkF m 16 #[.val (.ref o0)] [(.double (18442240474082181120 : UInt64))]))
  exact own_ret X2 hx hlk (t := .double) hret rfl (Or.inr (Or.inr (Or.inl ⟨rfl, rfl, _, rfl⟩))) (hb hby own_d1_16) (by decide) (by decide) ⟨rfl, N0, e2⟩
theorem own_d2_0 : decode prog_19_method_4_code 0 = .ok (.aload_n 0, 1) := by decide +kernel
theorem own_d2_1 : decode prog_19_method_4_code 1 = .ok (.getstatic 3, 3) := by decide +kernel
theorem own_d2_4 : decode prog_19_method_4_code 4 = .ok (.if_acmp .ne 11, 3) := by decide +kernel
theorem own_d2_7 : decode prog_19_method_4_code 7 = .ok (.dload_n 1, 1) := by decide +kernel
theorem own_d2_8 : decode prog_19_method_4_code 8 = .ok (.dload_n 3, 1) := by decide +kernel
theorem own_d2_9 : decode prog_19_method_4_code 9 = .ok (.invokestatic 29, 3) := by decide +kernel
theorem own_pd1 : parseMethodDescriptor "(DD)D" = some ⟨[.double, .double], some .double⟩ := by decide +kernel
theorem own_d2_12 : decode prog_19_method_4_code 12 = .ok (.goto 8, 3) := by decide +kernel
theorem own_d2_20 : decode prog_19_method_4_code 20 = .ok (.dreturn, 1) := by decide +kernel
set_option maxHeartbeats 4000000 in
theorem own_ef2N (m : MethodId) (x0 : Addr) (x1 : UInt64) (x2 : UInt64) : entryFrame m #[(.ref x0), (.double x1), (.double x2)] 5 = mkF m 0 #[.val (.ref x0), .val (.double x1), .second, .val (.double x2), .second] [] := by first | (simp [entryFrame, mkF, argsToLocals, Value.category]; done) | rfl
def own_Q2N (Z : State) (a0 : Array Value) (o0 : Addr) (d1 : UInt64) (d2 : UInt64) (r : UInt64) (h0 : Heap) (n0 : Nat) (v : Option Value) (h : Heap) (L : List Loc) : Prop := v = some (.double r) ∧ Fr n0 L ∧ h = h0
set_option maxRecDepth 65536 in
set_option maxHeartbeats 40000000 in
theorem own_rm2N (l : Launch) (Z : State) (a0 : Array Value) (hw : ∀ d ∈ tables_1, d.before a0 Z = true) (ws : List Jvm.Cond) (o0 : Addr) (d1 : UInt64) (d2 : UInt64) (r : UInt64) (h0 : Heap) (n0 : Nat) (Z0 : n0 ≤ h0.size) (O0 : Old Z n0 h0) (S_M : Sta Z Z.heap "com/example/intervallum/intervallum/property/Optimum" "MIN" "Lcom/example/intervallum/intervallum/property/Optimum;" (.ref o0)) (nn1 : Jvm.Free.Fl.NoNaN64 d1) (nn2 : Jvm.Free.Fl.NoNaN64 d2) (hr : Jvm.Native.java_lang_Math.nans.pick64 false d1 d2 = r) :
    MetFree l (⟨"com/example/intervallum/intervallum/property/Optimum", "better", "(DD)D"⟩ : MethodName) (head1 (Jvm.Cond.code (⟨"com/example/intervallum/intervallum/property/Optimum", "better", "(DD)D"⟩ : MethodName) prog_19_method_4_code 5 (some .double) :: ws) ({ frames := 1, cells := 0, slots := 0, locals := 15 } : Room)) (fun a U => a = #[(.ref o0), (.double d1), (.double d2)] ∧ Z.Warmed39 U.vm ∧ U.heap = h0) (fun _ _ _ _ _ => True) (fun _ U o U' => ∃ v L, o = .returned v ∧ own_Q2N Z a0 o0 d1 d2 r h0 n0 v U'.heap L ∧ FrameEnd U o U' L ({ frames := 1, cells := 0, slots := 0, locals := 15 } : Room).cells ({ frames := 1, cells := 0, slots := 0, locals := 15 } : Room).slots) := by
  refine own_body (Q := fun v h L => own_Q2N Z a0 o0 d1 d2 r h0 n0 v h L) (plainFor_of_name own_pn0) ?_
  intro p e s m below meth c s₁ hx hby hml hZ hown hnm hret hlk X0 e0
  replace hml : c.maxLocals = 5 := hml
  have N0 := Fr.nil n0
  have K0 : Keep h0 h0 [] := Keep.refl _ _
  refine own_st (fun t k => castTop (own_ef2N m o0 d1 d2) k) ?_
  show own_Run p e below s _ _ _ (s₁.setTop (mkF m 0 #[.val (.ref o0), .val (.double d1), .second, .val (.double d2), .second] []))
  refine own_st (fun t k => XS.aloadN X0.here hx rfl (hb hby own_d2_0) rfl rfl k) ?_
  show own_Run p e below s _ _ _ (s₁.setTop (mkF m 1 #[.val (.ref o0), .val (.double d1), .second, .val (.double d2), .second] [(.ref o0)]))
  obtain ⟨T3, X3, e3, st3⟩ := getS2 X0 hx hZ hown (host := "") (Or.inl (hw _ (List.mem_of_getElem? (i := 8) rfl))) Via.refl e0 (S_M.ext O0.2) (g := (mkF m 1 #[.val (.ref o0), .val (.double d1), .second, .val (.double d2), .second] [(.ref o0)])) rfl (hb hby own_d2_1)
  refine own_st st3 ?_
  show own_Run p e below s _ _ _ (T3.setTop (mkF m 4 #[.val (.ref o0), .val (.double d1), .second, .val (.double d2), .second] [(.ref o0), (.ref o0)]))
  refine own_st (fun t k => Jvm.RoadKit.acmp (g := (mkF m 4 #[.val (.ref o0), .val (.double d1), .second, .val (.double d2), .second] [(.ref o0), (.ref o0)])) X3 hx rfl rfl rfl (pc0 := 4) (pc' := 7) (same := true) rfl (hb hby own_d2_4) rfl (decide_eq_true rfl) (by decide) (by decide) k) ?_
  show own_Run p e below s _ _ _ (T3.setTop (mkF m 7 #[.val (.ref o0), .val (.double d1), .second, .val (.double d2), .second] []))
  refine own_st (fun t k => XS.dloadN X3.here hx rfl (hb hby own_d2_7) rfl k) ?_
  show own_Run p e below s _ _ _ (T3.setTop (mkF m 8 #[.val (.ref o0), .val (.double d1), .second, .val (.double d2), .second] [(.double d1)]))
  refine own_st (fun t k => XS.dloadN X3.here hx rfl (hb hby own_d2_8) rfl k) ?_
  show own_Run p e below s _ _ _ (T3.setTop (mkF m 9 #[.val (.ref o0), .val (.double d1), .second, .val (.double d2), .second] [(.double d2), (.double d1)]))
  obtain ⟨T4, X4, e4, st4⟩ := natS X3 hx hZ (y := (⟨"java/lang/Math", "min", "(DD)D"⟩ : MethodName)) hown (hw _ (List.mem_of_getElem? (i := 16) rfl)) (hw _ (List.mem_of_getElem? (i := 17) rfl)) (hw _ (List.mem_of_getElem? (i := 18) rfl)) (by0 := jdk_29_method_72_code) (ml := 4) (rt := some .double) (hw _ (List.mem_of_getElem? (i := 19) rfl)) (by decide) e3 (W := 0) (F := fun a' => a' = #[(.double d1), (.double d2)] ∧ Jvm.Free.Fl.NoNaN64 d1 ∧ Jvm.Free.Fl.NoNaN64 d2) (val := .double (Jvm.Native.java_lang_Math.nans.pick64 false d1 d2)) (val' := .double r) (fun hc => Jvm.Free.Fl.Abs.minD_pays d1 d2 hc (by decide) (by decide)) (g := (mkF m 9 #[.val (.ref o0), .val (.double d1), .second, .val (.double d2), .second] [(.double d2), (.double d1)])) rfl (by rw [hml]; rfl) (argsL := [(.double d1), (.double d2)]) (rest := []) (lenOf own_pd1 rfl) rfl (by show 2 * 0 + _ ≤ _; exact Nat.le_of_eq rfl) (hb hby own_d2_9) (by decide) (by decide) ⟨rfl, nn1, nn2⟩ (congrArg Value.double (hr))
  refine own_st st4 ?_
  show own_Run p e below s _ _ _ (T4.setTop (mkF m 12 #[.val (.ref o0), .val (.double d1), .second, .val (.double d2), .second] [(.double r)]))
  refine own_st (fun t k => XS.goto X4.here hx rfl (pc0 := 12) (pc' := 20) rfl (hb hby own_d2_12) (by decide) (by decide) k) ?_
  show own_Run p e below s _ _ _ (T4.setTop (mkF m 20 #[.val (.ref o0), .val (.double d1), .second, .val (.double d2), .second] [(.double r)]))
  exact own_ret X4 hx hlk (t := .double) hret rfl (Or.inr (Or.inr (Or.inl ⟨rfl, rfl, _, rfl⟩))) (hb hby own_d2_20) (by decide) (by decide) ⟨rfl, N0, e4⟩
theorem own_d2_15 : decode prog_19_method_4_code 15 = .ok (.dload_n 1, 1) := by decide +kernel
theorem own_d2_16 : decode prog_19_method_4_code 16 = .ok (.dload_n 3, 1) := by decide +kernel
theorem own_d2_17 : decode prog_19_method_4_code 17 = .ok (.invokestatic 35, 3) := by decide +kernel
set_option maxHeartbeats 4000000 in
theorem own_ef2X (m : MethodId) (x0 : Addr) (x1 : UInt64) (x2 : UInt64) : entryFrame m #[(.ref x0), (.double x1), (.double x2)] 5 = mkF m 0 #[.val (.ref x0), .val (.double x1), .second, .val (.double x2), .second] [] := by first | (simp [entryFrame, mkF, argsToLocals, Value.category]; done) | rfl
def own_Q2X (Z : State) (a0 : Array Value) (o0 : Addr) (d1 : UInt64) (d2 : UInt64) (tm : Addr) (r : UInt64) (h0 : Heap) (n0 : Nat) (v : Option Value) (h : Heap) (L : List Loc) : Prop := v = some (.double r) ∧ Fr n0 L ∧ h = h0
set_option maxRecDepth 65536 in
set_option maxHeartbeats 40000000 in
theorem own_rm2X (l : Launch) (Z : State) (a0 : Array Value) (hw : ∀ d ∈ tables_1, d.before a0 Z = true) (ws : List Jvm.Cond) (o0 : Addr) (d1 : UInt64) (d2 : UInt64) (tm : Addr) (r : UInt64) (h0 : Heap) (n0 : Nat) (Z0 : n0 ≤ h0.size) (O0 : Old Z n0 h0) (S_M : Sta Z Z.heap "com/example/intervallum/intervallum/property/Optimum" "MIN" "Lcom/example/intervallum/intervallum/property/Optimum;" (.ref tm)) (ne1 : o0 ≠ tm) (nn1 : Jvm.Free.Fl.NoNaN64 d1) (nn2 : Jvm.Free.Fl.NoNaN64 d2) (hr : Jvm.Native.java_lang_Math.nans.pick64 true d1 d2 = r) :
    MetFree l (⟨"com/example/intervallum/intervallum/property/Optimum", "better", "(DD)D"⟩ : MethodName) (head1 (Jvm.Cond.code (⟨"com/example/intervallum/intervallum/property/Optimum", "better", "(DD)D"⟩ : MethodName) prog_19_method_4_code 5 (some .double) :: ws) ({ frames := 1, cells := 0, slots := 0, locals := 15 } : Room)) (fun a U => a = #[(.ref o0), (.double d1), (.double d2)] ∧ Z.Warmed39 U.vm ∧ U.heap = h0) (fun _ _ _ _ _ => True) (fun _ U o U' => ∃ v L, o = .returned v ∧ own_Q2X Z a0 o0 d1 d2 tm r h0 n0 v U'.heap L ∧ FrameEnd U o U' L ({ frames := 1, cells := 0, slots := 0, locals := 15 } : Room).cells ({ frames := 1, cells := 0, slots := 0, locals := 15 } : Room).slots) := by
  refine own_body (Q := fun v h L => own_Q2X Z a0 o0 d1 d2 tm r h0 n0 v h L) (plainFor_of_name own_pn0) ?_
  intro p e s m below meth c s₁ hx hby hml hZ hown hnm hret hlk X0 e0
  replace hml : c.maxLocals = 5 := hml
  have N0 := Fr.nil n0
  have K0 : Keep h0 h0 [] := Keep.refl _ _
  refine own_st (fun t k => castTop (own_ef2X m o0 d1 d2) k) ?_
  show own_Run p e below s _ _ _ (s₁.setTop (mkF m 0 #[.val (.ref o0), .val (.double d1), .second, .val (.double d2), .second] []))
  refine own_st (fun t k => XS.aloadN X0.here hx rfl (hb hby own_d2_0) rfl rfl k) ?_
  show own_Run p e below s _ _ _ (s₁.setTop (mkF m 1 #[.val (.ref o0), .val (.double d1), .second, .val (.double d2), .second] [(.ref o0)]))
  obtain ⟨T5, X5, e5, st5⟩ := getS2 X0 hx hZ hown (host := "") (Or.inl (hw _ (List.mem_of_getElem? (i := 8) rfl))) Via.refl e0 (S_M.ext O0.2) (g := (mkF m 1 #[.val (.ref o0), .val (.double d1), .second, .val (.double d2), .second] [(.ref o0)])) rfl (hb hby own_d2_1)
  refine own_st st5 ?_
  show own_Run p e below s _ _ _ (T5.setTop (mkF m 4 #[.val (.ref o0), .val (.double d1), .second, .val (.double d2), .second] [(.ref tm), (.ref o0)]))
  refine own_st (fun t k => Jvm.RoadKit.acmp (g := (mkF m 4 #[.val (.ref o0), .val (.double d1), .second, .val (.double d2), .second] [(.ref tm), (.ref o0)])) X5 hx rfl rfl rfl (pc0 := 4) (pc' := 15) (same := false) rfl (hb hby own_d2_4) rfl (decide_eq_false fun q => ne1 (Value.ref.inj q)) (by decide) (by decide) k) ?_
  show own_Run p e below s _ _ _ (T5.setTop (mkF m 15 #[.val (.ref o0), .val (.double d1), .second, .val (.double d2), .second] []))
  refine own_st (fun t k => XS.dloadN X5.here hx rfl (hb hby own_d2_15) rfl k) ?_
  show own_Run p e below s _ _ _ (T5.setTop (mkF m 16 #[.val (.ref o0), .val (.double d1), .second, .val (.double d2), .second] [(.double d1)]))
  refine own_st (fun t k => XS.dloadN X5.here hx rfl (hb hby own_d2_16) rfl k) ?_
  show own_Run p e below s _ _ _ (T5.setTop (mkF m 17 #[.val (.ref o0), .val (.double d1), .second, .val (.double d2), .second] [(.double d2), (.double d1)]))
  obtain ⟨T6, X6, e6, st6⟩ := natS X5 hx hZ (y := (⟨"java/lang/Math", "max", "(DD)D"⟩ : MethodName)) hown (hw _ (List.mem_of_getElem? (i := 23) rfl)) (hw _ (List.mem_of_getElem? (i := 24) rfl)) (hw _ (List.mem_of_getElem? (i := 18) rfl)) (by0 := jdk_29_method_68_code) (ml := 4) (rt := some .double) (hw _ (List.mem_of_getElem? (i := 25) rfl)) (by decide) e5 (W := 0) (F := fun a' => a' = #[(.double d1), (.double d2)] ∧ Jvm.Free.Fl.NoNaN64 d1 ∧ Jvm.Free.Fl.NoNaN64 d2) (val := .double (Jvm.Native.java_lang_Math.nans.pick64 true d1 d2)) (val' := .double r) (fun hc => Jvm.Free.Fl.Abs.maxD_pays d1 d2 hc (by decide) (by decide)) (g := (mkF m 17 #[.val (.ref o0), .val (.double d1), .second, .val (.double d2), .second] [(.double d2), (.double d1)])) rfl (by rw [hml]; rfl) (argsL := [(.double d1), (.double d2)]) (rest := []) (lenOf own_pd1 rfl) rfl (by show 2 * 0 + _ ≤ _; exact Nat.le_of_eq rfl) (hb hby own_d2_17) (by decide) (by decide) ⟨rfl, nn1, nn2⟩ (congrArg Value.double (hr))
  refine own_st st6 ?_
  show own_Run p e below s _ _ _ (T6.setTop (mkF m 20 #[.val (.ref o0), .val (.double d1), .second, .val (.double d2), .second] [(.double r)]))
  exact own_ret X6 hx hlk (t := .double) hret rfl (Or.inr (Or.inr (Or.inl ⟨rfl, rfl, _, rfl⟩))) (hb hby own_d2_20) (by decide) (by decide) ⟨rfl, N0, e6⟩
theorem own_pd2 : parseMethodDescriptor "()D" = some ⟨[], some .double⟩ := by decide +kernel
set_option maxHeartbeats 4000000 in
theorem own_ef0 (m : MethodId) (x0 : Int32) (x1 : Int32) : entryFrame m #[(.int x0), (.int x1)] maxLocals = mkF m 0 #[.val (.int x0), .val (.int x1), .unset, .unset, .unset, .unset, .unset, .unset, .unset, .unset, .unset] [] := by first | (simp [entryFrame, mkF, argsToLocals, Value.category, maxLocals]; done) | rfl
theorem own_pn3 : plainName "com/example/intervallum/intervallum/property/OptimumWorstPinLaw" = true := by first | (simp [plainName, overriddenIn]; done) | decide +kernel
def own_Q0 (Z : State) (a0 : Array Value) (i0 : Int32) (i1 : Int32) (tm : Addr) (tx : Addr) (h0 : Heap) (n0 : Nat) (v : Option Value) (h : Heap) (L : List Loc) : Prop := v = some (.int 1) ∧ Fr n0 L
set_option maxRecDepth 65536 in
set_option maxHeartbeats 40000000 in
theorem own_rm0 (l : Launch) (Z : State) (a0 : Array Value) (hw : ∀ d ∈ tables_1, d.before a0 Z = true) (ws : List Jvm.Cond) (i0 : Int32) (i1 : Int32) (tm : Addr) (tx : Addr) (h0 : Heap) (n0 : Nat) (Z0 : n0 ≤ h0.size) (O0 : Old Z n0 h0) (S_M : Sta Z Z.heap "com/example/intervallum/intervallum/property/Optimum" "MIN" "Lcom/example/intervallum/intervallum/property/Optimum;" (.ref tm)) (S_X : Sta Z Z.heap "com/example/intervallum/intervallum/property/Optimum" "MAX" "Lcom/example/intervallum/intervallum/property/Optimum;" (.ref tx)) (E_tm : Exa Z h0 tm "com/example/intervallum/intervallum/property/Optimum") (E_tx : Exa Z h0 tx "com/example/intervallum/intervallum/property/Optimum") (ne0 : tx ≠ tm) :
    MetFree l x (head1 (Jvm.Cond.code x code maxLocals ret :: ws) room_1) (fun a U => a = #[(.int i0), (.int i1)] ∧ Z.Warmed39 U.vm ∧ U.heap = h0) (fun _ _ _ _ _ => True) (fun _ U o U' => ∃ v L, o = .returned v ∧ own_Q0 Z a0 i0 i1 tm tx h0 n0 v U'.heap L ∧ FrameEnd U o U' L room_1.cells room_1.slots) := by
  refine own_body (Q := fun v h L => own_Q0 Z a0 i0 i1 tm tx h0 n0 v h L) (plainFor_of_name own_pn3) ?_
  intro p e s m below meth c s₁ hx hby hml hZ hown hnm hret hlk X0 e0
  replace hml : c.maxLocals = 11 := hml
  replace hown : s.vm.findClass "com/example/intervallum/intervallum/property/OptimumWorstPinLaw" = some m.cls := hown
  have N0 := Fr.nil n0
  have K0 : Keep h0 h0 [] := Keep.refl _ _
  refine own_st (fun t k => castTop (own_ef0 m i0 i1) k) ?_
  show own_Run p e below s _ _ _ (s₁.setTop (mkF m 0 #[.val (.int i0), .val (.int i1), .unset, .unset, .unset, .unset, .unset, .unset, .unset, .unset, .unset] []))
  refine own_st (fun t k => XS.iloadN X0.here hx rfl (hb hby at_0) rfl k) ?_
  show own_Run p e below s _ _ _ (s₁.setTop (mkF m 1 #[.val (.int i0), .val (.int i1), .unset, .unset, .unset, .unset, .unset, .unset, .unset, .unset, .unset] [(.int i0)]))
  refine own_st (fun t k => XS.iconst X0.here hx rfl (hb hby at_1) k) ?_
  show own_Run p e below s _ _ _ (s₁.setTop (mkF m 2 #[.val (.int i0), .val (.int i1), .unset, .unset, .unset, .unset, .unset, .unset, .unset, .unset, .unset] [(.int (1 : Int32)), (.int i0)]))
  refine own_st (fun t k => XS.iand X0.here hx rfl (hb hby at_2) rfl k) ?_
  show own_Run p e below s _ _ _ (s₁.setTop (mkF m 3 #[.val (.int i0), .val (.int i1), .unset, .unset, .unset, .unset, .unset, .unset, .unset, .unset, .unset] [(.int (i0 &&& (1 : Int32)))]))
  by_cases hc7 : (i0 &&& (1 : Int32)) = (0 : Int32)
  · skip
    refine own_st (fun t k => XS.ifYes X0.here hx rfl (pc0 := 3) (pc' := 10) rfl (hb hby at_3) rfl ((if0 _ _).trans (teq (hc7 : (i0 &&& (1 : Int32)) = (0 : Int32))).1) (by decide) (by decide) k) ?_
    show own_Run p e below s _ _ _ (s₁.setTop (mkF m 10 #[.val (.int i0), .val (.int i1), .unset, .unset, .unset, .unset, .unset, .unset, .unset, .unset, .unset] []))
    refine own_st (fun t k => XS.iconst X0.here hx rfl (hb hby at_10) k) ?_
    show own_Run p e below s _ _ _ (s₁.setTop (mkF m 11 #[.val (.int i0), .val (.int i1), .unset, .unset, .unset, .unset, .unset, .unset, .unset, .unset, .unset] [(.int (0 : Int32))]))
    refine own_st (fun t k => XS.istoreN X0.here hx rfl (hb hby at_11) rfl (l' := #[.val (.int i0), .val (.int i1), .val (.int (0 : Int32)), .unset, .unset, .unset, .unset, .unset, .unset, .unset, .unset]) rfl k) ?_
    show own_Run p e below s _ _ _ (s₁.setTop (mkF m 12 #[.val (.int i0), .val (.int i1), .val (.int (0 : Int32)), .unset, .unset, .unset, .unset, .unset, .unset, .unset, .unset] []))
    refine own_st (fun t k => XS.iloadN X0.here hx rfl (hb hby at_12) rfl k) ?_
    show own_Run p e below s _ _ _ (s₁.setTop (mkF m 13 #[.val (.int i0), .val (.int i1), .val (.int (0 : Int32)), .unset, .unset, .unset, .unset, .unset, .unset, .unset, .unset] [(.int (0 : Int32))]))
    refine own_st (fun t k => XS.ifYes X0.here hx rfl (pc0 := 13) (pc' := 22) rfl (hb hby at_13) rfl ((if0 _ _).trans (teq (by decide : (0 : Int32) = (0 : Int32))).1) (by decide) (by decide) k) ?_
    show own_Run p e below s _ _ _ (s₁.setTop (mkF m 22 #[.val (.int i0), .val (.int i1), .val (.int (0 : Int32)), .unset, .unset, .unset, .unset, .unset, .unset, .unset, .unset] []))
    obtain ⟨T8, X8, e8, st8⟩ := getS2 X0 hx hZ hown (host := "") (Or.inl (hw _ (List.mem_of_getElem? (i := 0) rfl))) Via.refl e0 (S_M.ext O0.2) (g := (mkF m 22 #[.val (.int i0), .val (.int i1), .val (.int (0 : Int32)), .unset, .unset, .unset, .unset, .unset, .unset, .unset, .unset] [])) rfl (hb hby at_22)
    refine own_st st8 ?_
    show own_Run p e below s _ _ _ (T8.setTop (mkF m 25 #[.val (.int i0), .val (.int i1), .val (.int (0 : Int32)), .unset, .unset, .unset, .unset, .unset, .unset, .unset, .unset] [(.ref tm)]))
    refine own_st (fun t k => XS.astoreN X8.here hx rfl (hb hby at_25) rfl rfl (l' := #[.val (.int i0), .val (.int i1), .val (.int (0 : Int32)), .val (.ref tm), .unset, .unset, .unset, .unset, .unset, .unset, .unset]) rfl k) ?_
    show own_Run p e below s _ _ _ (T8.setTop (mkF m 26 #[.val (.int i0), .val (.int i1), .val (.int (0 : Int32)), .val (.ref tm), .unset, .unset, .unset, .unset, .unset, .unset, .unset] []))
    refine own_st (fun t k => XS.aloadN X8.here hx rfl (hb hby at_26) rfl rfl k) ?_
    show own_Run p e below s _ _ _ (T8.setTop (mkF m 27 #[.val (.int i0), .val (.int i1), .val (.int (0 : Int32)), .val (.ref tm), .unset, .unset, .unset, .unset, .unset, .unset, .unset] [(.ref tm)]))
    refine own_callV X8 hx hZ (y := (⟨"com/example/intervallum/intervallum/property/Optimum", "worst", "()D"⟩ : MethodName)) (C := "com/example/intervallum/intervallum/property/Optimum") hown (hw _ (List.mem_of_getElem? (i := 3) rfl)) (hw _ (List.mem_of_getElem? (i := 4) rfl)) (hw _ (List.mem_of_getElem? (i := 6) rfl)) (hw _ (List.mem_of_getElem? (i := 5) rfl)) (hw _ (List.mem_of_getElem? (i := 7) rfl)) (hw _ (List.mem_of_getElem? (i := 1) rfl)) (by decide) e8 (a := tm) E_tm (argsL := []) (rest := []) (W := 0) (own_rm1N l Z a0 hw [] tm h0 n0 (Nat.le_trans Z0 K0.1) O0 S_M) (by decide) (by decide) (by rw [hml]; rfl) (lenOf own_pd2 rfl) rfl (by exact Nat.le_of_eq rfl) (hb hby at_27) (by decide) (by decide) ?_
    intro T9 v9 L9 X9 hq9
    obtain ⟨rfl, N9q, hh9⟩ := hq9
    have N9 := Fr.app N0 N9q
    show own_Run p e below s _ _ _ (T9.setTop (mkF m 30 #[.val (.int i0), .val (.int i1), .val (.int (0 : Int32)), .val (.ref tm), .unset, .unset, .unset, .unset, .unset, .unset, .unset] [(.double (9218868437227405312 : UInt64))]))
    refine own_st (fun t k => XS.dstore X9.here hx rfl (hb hby at_30) rfl (l' := #[.val (.int i0), .val (.int i1), .val (.int (0 : Int32)), .val (.ref tm), .val (.double (9218868437227405312 : UInt64)), .second, .unset, .unset, .unset, .unset, .unset]) rfl k) ?_
    show own_Run p e below s _ _ _ (T9.setTop (mkF m 32 #[.val (.int i0), .val (.int i1), .val (.int (0 : Int32)), .val (.ref tm), .val (.double (9218868437227405312 : UInt64)), .second, .unset, .unset, .unset, .unset, .unset] []))
    refine own_st (fun t k => XS.iloadN X9.here hx rfl (hb hby at_32) rfl k) ?_
    show own_Run p e below s _ _ _ (T9.setTop (mkF m 33 #[.val (.int i0), .val (.int i1), .val (.int (0 : Int32)), .val (.ref tm), .val (.double (9218868437227405312 : UInt64)), .second, .unset, .unset, .unset, .unset, .unset] [(.int i1)]))
    refine own_st (fun t k => XS.i2dS X9.here hx rfl (hb hby at_33) rfl (v := (FP.i2d i1)) (rfl) k) ?_
    show own_Run p e below s _ _ _ (T9.setTop (mkF m 34 #[.val (.int i0), .val (.int i1), .val (.int (0 : Int32)), .val (.ref tm), .val (.double (9218868437227405312 : UInt64)), .second, .unset, .unset, .unset, .unset, .unset] [(.double (FP.i2d i1))]))
    refine own_st (fun t k => XS.dstore X9.here hx rfl (hb hby at_34) rfl (l' := #[.val (.int i0), .val (.int i1), .val (.int (0 : Int32)), .val (.ref tm), .val (.double (9218868437227405312 : UInt64)), .second, .val (.double (FP.i2d i1)), .second, .unset, .unset, .unset]) rfl k) ?_
    show own_Run p e below s _ _ _ (T9.setTop (mkF m 36 #[.val (.int i0), .val (.int i1), .val (.int (0 : Int32)), .val (.ref tm), .val (.double (9218868437227405312 : UInt64)), .second, .val (.double (FP.i2d i1)), .second, .unset, .unset, .unset] []))
    refine own_st (fun t k => XS.dload X9.here hx rfl (hb hby at_36) rfl k) ?_
    show own_Run p e below s _ _ _ (T9.setTop (mkF m 38 #[.val (.int i0), .val (.int i1), .val (.int (0 : Int32)), .val (.ref tm), .val (.double (9218868437227405312 : UInt64)), .second, .val (.double (FP.i2d i1)), .second, .unset, .unset, .unset] [(.double (9218868437227405312 : UInt64))]))
    refine own_st (X9.ldc2DoubleC hx hown (mvT hZ (hw _ (List.mem_of_getElem? (i := 10) rfl))) (g := (mkF m 38 #[.val (.int i0), .val (.int i1), .val (.int (0 : Int32)), .val (.ref tm), .val (.double (9218868437227405312 : UInt64)), .second, .val (.double (FP.i2d i1)), .second, .unset, .unset, .unset] [(.double (9218868437227405312 : UInt64))])) rfl (hb hby at_38)) ?_
    show own_Run p e below s _ _ _ (T9.setTop (mkF m 41 #[.val (.int i0), .val (.int i1), .val (.int (0 : Int32)), .val (.ref tm), .val (.double (9218868437227405312 : UInt64)), .second, .val (.double (FP.i2d i1)), .second, .unset, .unset, .unset] [(.double (4611686018427387904 : UInt64)), (.double (9218868437227405312 : UInt64))]))
    refine own_st (fun t k => XS.dmulS X9.here hx rfl (hb hby at_41) rfl (by unfold Jvm.Free.Fl.NoNaN64; decide +kernel) (v := (9218868437227405312 : UInt64)) (by decide +kernel) k) ?_
    show own_Run p e below s _ _ _ (T9.setTop (mkF m 42 #[.val (.int i0), .val (.int i1), .val (.int (0 : Int32)), .val (.ref tm), .val (.double (9218868437227405312 : UInt64)), .second, .val (.double (FP.i2d i1)), .second, .unset, .unset, .unset] [(.double (9218868437227405312 : UInt64))]))
    refine own_st (fun t k => XS.dload X9.here hx rfl (hb hby at_42) rfl k) ?_
    show own_Run p e below s _ _ _ (T9.setTop (mkF m 44 #[.val (.int i0), .val (.int i1), .val (.int (0 : Int32)), .val (.ref tm), .val (.double (9218868437227405312 : UInt64)), .second, .val (.double (FP.i2d i1)), .second, .unset, .unset, .unset] [(.double (9218868437227405312 : UInt64)), (.double (9218868437227405312 : UInt64))]))
    refine own_st (fun t k => XS.dcmpS X9.here hx rfl (hb hby at_44) rfl (v := (0 : Int32)) (by decide +kernel) k) ?_
    show own_Run p e below s _ _ _ (T9.setTop (mkF m 45 #[.val (.int i0), .val (.int i1), .val (.int (0 : Int32)), .val (.ref tm), .val (.double (9218868437227405312 : UInt64)), .second, .val (.double (FP.i2d i1)), .second, .unset, .unset, .unset] [(.int (0 : Int32))]))
    refine own_st (fun t k => XS.ifNo X9.here hx rfl (hb hby at_45) rfl ((if0 _ _).trans (teq (by decide : (0 : Int32) = (0 : Int32))).2) k) ?_
    show own_Run p e below s _ _ _ (T9.setTop (mkF m 48 #[.val (.int i0), .val (.int i1), .val (.int (0 : Int32)), .val (.ref tm), .val (.double (9218868437227405312 : UInt64)), .second, .val (.double (FP.i2d i1)), .second, .unset, .unset, .unset] []))
    refine own_st (fun t k => XS.dload X9.here hx rfl (hb hby at_48) rfl k) ?_
    show own_Run p e below s _ _ _ (T9.setTop (mkF m 50 #[.val (.int i0), .val (.int i1), .val (.int (0 : Int32)), .val (.ref tm), .val (.double (9218868437227405312 : UInt64)), .second, .val (.double (FP.i2d i1)), .second, .unset, .unset, .unset] [(.double (9218868437227405312 : UInt64))]))
    refine own_st (fun t k => XS.dconst0 X9.here hx rfl (hb hby at_50) (v := 0) rfl k) ?_
    show own_Run p e below s _ _ _ (T9.setTop (mkF m 51 #[.val (.int i0), .val (.int i1), .val (.int (0 : Int32)), .val (.ref tm), .val (.double (9218868437227405312 : UInt64)), .second, .val (.double (FP.i2d i1)), .second, .unset, .unset, .unset] [(.double (0 : UInt64)), (.double (9218868437227405312 : UInt64))]))
    refine own_st (fun t k => XS.dcmpS X9.here hx rfl (hb hby at_51) rfl (v := (1 : Int32)) (by decide +kernel) k) ?_
    show own_Run p e below s _ _ _ (T9.setTop (mkF m 52 #[.val (.int i0), .val (.int i1), .val (.int (0 : Int32)), .val (.ref tm), .val (.double (9218868437227405312 : UInt64)), .second, .val (.double (FP.i2d i1)), .second, .unset, .unset, .unset] [(.int (1 : Int32))]))
    refine own_st (fun t k => XS.ifNo X9.here hx rfl (hb hby at_52) rfl ((if0 _ _).trans (feq (by decide : ¬ ((1 : Int32) = (0 : Int32)))).1) k) ?_
    show own_Run p e below s _ _ _ (T9.setTop (mkF m 55 #[.val (.int i0), .val (.int i1), .val (.int (0 : Int32)), .val (.ref tm), .val (.double (9218868437227405312 : UInt64)), .second, .val (.double (FP.i2d i1)), .second, .unset, .unset, .unset] []))
    refine own_st (fun t k => XS.iconst X9.here hx rfl (hb hby at_55) k) ?_
    show own_Run p e below s _ _ _ (T9.setTop (mkF m 56 #[.val (.int i0), .val (.int i1), .val (.int (0 : Int32)), .val (.ref tm), .val (.double (9218868437227405312 : UInt64)), .second, .val (.double (FP.i2d i1)), .second, .unset, .unset, .unset] [(.int (1 : Int32))]))
    refine own_st (fun t k => XS.goto X9.here hx rfl (pc0 := 56) (pc' := 60) rfl (hb hby at_56) (by decide) (by decide) k) ?_
    show own_Run p e below s _ _ _ (T9.setTop (mkF m 60 #[.val (.int i0), .val (.int i1), .val (.int (0 : Int32)), .val (.ref tm), .val (.double (9218868437227405312 : UInt64)), .second, .val (.double (FP.i2d i1)), .second, .unset, .unset, .unset] [(.int (1 : Int32))]))
    refine own_st (fun t k => XS.istore X9.here hx rfl (hb hby at_60) rfl (l' := #[.val (.int i0), .val (.int i1), .val (.int (0 : Int32)), .val (.ref tm), .val (.double (9218868437227405312 : UInt64)), .second, .val (.double (FP.i2d i1)), .second, .val (.int (1 : Int32)), .unset, .unset]) rfl k) ?_
    show own_Run p e below s _ _ _ (T9.setTop (mkF m 62 #[.val (.int i0), .val (.int i1), .val (.int (0 : Int32)), .val (.ref tm), .val (.double (9218868437227405312 : UInt64)), .second, .val (.double (FP.i2d i1)), .second, .val (.int (1 : Int32)), .unset, .unset] []))
    refine own_st (fun t k => XS.iloadN X9.here hx rfl (hb hby at_62) rfl k) ?_
    show own_Run p e below s _ _ _ (T9.setTop (mkF m 63 #[.val (.int i0), .val (.int i1), .val (.int (0 : Int32)), .val (.ref tm), .val (.double (9218868437227405312 : UInt64)), .second, .val (.double (FP.i2d i1)), .second, .val (.int (1 : Int32)), .unset, .unset] [(.int (0 : Int32))]))
    refine own_st (fun t k => XS.ifYes X9.here hx rfl (pc0 := 63) (pc' := 81) rfl (hb hby at_63) rfl ((if0 _ _).trans (teq (by decide : (0 : Int32) = (0 : Int32))).1) (by decide) (by decide) k) ?_
    show own_Run p e below s _ _ _ (T9.setTop (mkF m 81 #[.val (.int i0), .val (.int i1), .val (.int (0 : Int32)), .val (.ref tm), .val (.double (9218868437227405312 : UInt64)), .second, .val (.double (FP.i2d i1)), .second, .val (.int (1 : Int32)), .unset, .unset] []))
    refine own_st (fun t k => XS.dload X9.here hx rfl (hb hby at_81) rfl k) ?_
    show own_Run p e below s _ _ _ (T9.setTop (mkF m 83 #[.val (.int i0), .val (.int i1), .val (.int (0 : Int32)), .val (.ref tm), .val (.double (9218868437227405312 : UInt64)), .second, .val (.double (FP.i2d i1)), .second, .val (.int (1 : Int32)), .unset, .unset] [(.double (9218868437227405312 : UInt64))]))
    refine own_st (fun t k => XS.dconst0 X9.here hx rfl (hb hby at_83) (v := 0) rfl k) ?_
    show own_Run p e below s _ _ _ (T9.setTop (mkF m 84 #[.val (.int i0), .val (.int i1), .val (.int (0 : Int32)), .val (.ref tm), .val (.double (9218868437227405312 : UInt64)), .second, .val (.double (FP.i2d i1)), .second, .val (.int (1 : Int32)), .unset, .unset] [(.double (0 : UInt64)), (.double (9218868437227405312 : UInt64))]))
    refine own_st (fun t k => XS.dcmpS X9.here hx rfl (hb hby at_84) rfl (v := (1 : Int32)) (by decide +kernel) k) ?_
    show own_Run p e below s _ _ _ (T9.setTop (mkF m 85 #[.val (.int i0), .val (.int i1), .val (.int (0 : Int32)), .val (.ref tm), .val (.double (9218868437227405312 : UInt64)), .second, .val (.double (FP.i2d i1)), .second, .val (.int (1 : Int32)), .unset, .unset] [(.int (1 : Int32))]))
    refine own_st (fun t k => XS.ifNo X9.here hx rfl (hb hby at_85) rfl ((if0 _ _).trans (tlt (by decide : (0 : Int32) < (1 : Int32))).2.2.2) k) ?_
    show own_Run p e below s _ _ _ (T9.setTop (mkF m 88 #[.val (.int i0), .val (.int i1), .val (.int (0 : Int32)), .val (.ref tm), .val (.double (9218868437227405312 : UInt64)), .second, .val (.double (FP.i2d i1)), .second, .val (.int (1 : Int32)), .unset, .unset] []))
    refine own_st (fun t k => XS.iconst X9.here hx rfl (hb hby at_88) k) ?_
    show own_Run p e below s _ _ _ (T9.setTop (mkF m 89 #[.val (.int i0), .val (.int i1), .val (.int (0 : Int32)), .val (.ref tm), .val (.double (9218868437227405312 : UInt64)), .second, .val (.double (FP.i2d i1)), .second, .val (.int (1 : Int32)), .unset, .unset] [(.int (1 : Int32))]))
    refine own_st (fun t k => XS.goto X9.here hx rfl (pc0 := 89) (pc' := 93) rfl (hb hby at_89) (by decide) (by decide) k) ?_
    show own_Run p e below s _ _ _ (T9.setTop (mkF m 93 #[.val (.int i0), .val (.int i1), .val (.int (0 : Int32)), .val (.ref tm), .val (.double (9218868437227405312 : UInt64)), .second, .val (.double (FP.i2d i1)), .second, .val (.int (1 : Int32)), .unset, .unset] [(.int (1 : Int32))]))
    refine own_st (fun t k => XS.istore X9.here hx rfl (hb hby at_93) rfl (l' := #[.val (.int i0), .val (.int i1), .val (.int (0 : Int32)), .val (.ref tm), .val (.double (9218868437227405312 : UInt64)), .second, .val (.double (FP.i2d i1)), .second, .val (.int (1 : Int32)), .val (.int (1 : Int32)), .unset]) rfl k) ?_
    show own_Run p e below s _ _ _ (T9.setTop (mkF m 95 #[.val (.int i0), .val (.int i1), .val (.int (0 : Int32)), .val (.ref tm), .val (.double (9218868437227405312 : UInt64)), .second, .val (.double (FP.i2d i1)), .second, .val (.int (1 : Int32)), .val (.int (1 : Int32)), .unset] []))
    refine own_st (fun t k => XS.aloadN X9.here hx rfl (hb hby at_95) rfl rfl k) ?_
    show own_Run p e below s _ _ _ (T9.setTop (mkF m 96 #[.val (.int i0), .val (.int i1), .val (.int (0 : Int32)), .val (.ref tm), .val (.double (9218868437227405312 : UInt64)), .second, .val (.double (FP.i2d i1)), .second, .val (.int (1 : Int32)), .val (.int (1 : Int32)), .unset] [(.ref tm)]))
    refine own_st (fun t k => XS.dload X9.here hx rfl (hb hby at_96) rfl k) ?_
    show own_Run p e below s _ _ _ (T9.setTop (mkF m 98 #[.val (.int i0), .val (.int i1), .val (.int (0 : Int32)), .val (.ref tm), .val (.double (9218868437227405312 : UInt64)), .second, .val (.double (FP.i2d i1)), .second, .val (.int (1 : Int32)), .val (.int (1 : Int32)), .unset] [(.double (9218868437227405312 : UInt64)), (.ref tm)]))
    refine own_st (fun t k => XS.dload X9.here hx rfl (hb hby at_98) rfl k) ?_
    show own_Run p e below s _ _ _ (T9.setTop (mkF m 100 #[.val (.int i0), .val (.int i1), .val (.int (0 : Int32)), .val (.ref tm), .val (.double (9218868437227405312 : UInt64)), .second, .val (.double (FP.i2d i1)), .second, .val (.int (1 : Int32)), .val (.int (1 : Int32)), .unset] [(.double (FP.i2d i1)), (.double (9218868437227405312 : UInt64)), (.ref tm)]))
    refine own_callV X9 hx hZ (y := (⟨"com/example/intervallum/intervallum/property/Optimum", "better", "(DD)D"⟩ : MethodName)) (C := "com/example/intervallum/intervallum/property/Optimum") hown (hw _ (List.mem_of_getElem? (i := 11) rfl)) (hw _ (List.mem_of_getElem? (i := 12) rfl)) (hw _ (List.mem_of_getElem? (i := 14) rfl)) (hw _ (List.mem_of_getElem? (i := 13) rfl)) (hw _ (List.mem_of_getElem? (i := 15) rfl)) (hw _ (List.mem_of_getElem? (i := 1) rfl)) (by decide) hh9 (a := tm) E_tm (argsL := [(.double (9218868437227405312 : UInt64)), (.double (FP.i2d i1))]) (rest := []) (W := 0) (own_rm2N l Z a0 hw [] tm (9218868437227405312 : UInt64) (FP.i2d i1) (FP.i2d i1) h0 n0 (Nat.le_trans Z0 K0.1) O0 S_M (own_nninf) ((Jvm.Free.Fl.i2d_fin i1).noNaN) (own_minI (Jvm.Free.Fl.i2d_fin i1))) (by decide) (by decide) (by rw [hml]; rfl) (lenOf own_pd1 rfl) rfl (by exact Nat.le_of_eq rfl) (hb hby at_100) (by decide) (by decide) ?_
    intro T10 v10 L10 X10 hq10
    obtain ⟨rfl, N10q, hh10⟩ := hq10
    have N10 := Fr.app N9 N10q
    show own_Run p e below s _ _ _ (T10.setTop (mkF m 103 #[.val (.int i0), .val (.int i1), .val (.int (0 : Int32)), .val (.ref tm), .val (.double (9218868437227405312 : UInt64)), .second, .val (.double (FP.i2d i1)), .second, .val (.int (1 : Int32)), .val (.int (1 : Int32)), .unset] [(.double (FP.i2d i1))]))
    refine own_st (fun t k => XS.dload X10.here hx rfl (hb hby at_103) rfl k) ?_
    show own_Run p e below s _ _ _ (T10.setTop (mkF m 105 #[.val (.int i0), .val (.int i1), .val (.int (0 : Int32)), .val (.ref tm), .val (.double (9218868437227405312 : UInt64)), .second, .val (.double (FP.i2d i1)), .second, .val (.int (1 : Int32)), .val (.int (1 : Int32)), .unset] [(.double (FP.i2d i1)), (.double (FP.i2d i1))]))
    refine own_st (fun t k => XS.dcmpS X10.here hx rfl (hb hby at_105) rfl (v := (0 : Int32)) (dcmpV_self (Jvm.Free.Fl.i2d_fin i1).noNaN _) k) ?_
    show own_Run p e below s _ _ _ (T10.setTop (mkF m 106 #[.val (.int i0), .val (.int i1), .val (.int (0 : Int32)), .val (.ref tm), .val (.double (9218868437227405312 : UInt64)), .second, .val (.double (FP.i2d i1)), .second, .val (.int (1 : Int32)), .val (.int (1 : Int32)), .unset] [(.int (0 : Int32))]))
    refine own_st (fun t k => XS.ifNo X10.here hx rfl (hb hby at_106) rfl ((if0 _ _).trans (teq (by decide : (0 : Int32) = (0 : Int32))).2) k) ?_
    show own_Run p e below s _ _ _ (T10.setTop (mkF m 109 #[.val (.int i0), .val (.int i1), .val (.int (0 : Int32)), .val (.ref tm), .val (.double (9218868437227405312 : UInt64)), .second, .val (.double (FP.i2d i1)), .second, .val (.int (1 : Int32)), .val (.int (1 : Int32)), .unset] []))
    refine own_st (fun t k => XS.aloadN X10.here hx rfl (hb hby at_109) rfl rfl k) ?_
    show own_Run p e below s _ _ _ (T10.setTop (mkF m 110 #[.val (.int i0), .val (.int i1), .val (.int (0 : Int32)), .val (.ref tm), .val (.double (9218868437227405312 : UInt64)), .second, .val (.double (FP.i2d i1)), .second, .val (.int (1 : Int32)), .val (.int (1 : Int32)), .unset] [(.ref tm)]))
    refine own_st (fun t k => XS.dload X10.here hx rfl (hb hby at_110) rfl k) ?_
    show own_Run p e below s _ _ _ (T10.setTop (mkF m 112 #[.val (.int i0), .val (.int i1), .val (.int (0 : Int32)), .val (.ref tm), .val (.double (9218868437227405312 : UInt64)), .second, .val (.double (FP.i2d i1)), .second, .val (.int (1 : Int32)), .val (.int (1 : Int32)), .unset] [(.double (FP.i2d i1)), (.ref tm)]))
    refine own_st (fun t k => XS.dload X10.here hx rfl (hb hby at_112) rfl k) ?_
    show own_Run p e below s _ _ _ (T10.setTop (mkF m 114 #[.val (.int i0), .val (.int i1), .val (.int (0 : Int32)), .val (.ref tm), .val (.double (9218868437227405312 : UInt64)), .second, .val (.double (FP.i2d i1)), .second, .val (.int (1 : Int32)), .val (.int (1 : Int32)), .unset] [(.double (9218868437227405312 : UInt64)), (.double (FP.i2d i1)), (.ref tm)]))
    refine own_callV X10 hx hZ (y := (⟨"com/example/intervallum/intervallum/property/Optimum", "better", "(DD)D"⟩ : MethodName)) (C := "com/example/intervallum/intervallum/property/Optimum") hown (hw _ (List.mem_of_getElem? (i := 11) rfl)) (hw _ (List.mem_of_getElem? (i := 12) rfl)) (hw _ (List.mem_of_getElem? (i := 14) rfl)) (hw _ (List.mem_of_getElem? (i := 13) rfl)) (hw _ (List.mem_of_getElem? (i := 15) rfl)) (hw _ (List.mem_of_getElem? (i := 1) rfl)) (by decide) hh10 (a := tm) E_tm (argsL := [(.double (FP.i2d i1)), (.double (9218868437227405312 : UInt64))]) (rest := []) (W := 0) (own_rm2N l Z a0 hw [] tm (FP.i2d i1) (9218868437227405312 : UInt64) (FP.i2d i1) h0 n0 (Nat.le_trans Z0 K0.1) O0 S_M ((Jvm.Free.Fl.i2d_fin i1).noNaN) (own_nninf) (own_minI' (Jvm.Free.Fl.i2d_fin i1))) (by decide) (by decide) (by rw [hml]; rfl) (lenOf own_pd1 rfl) rfl (by exact Nat.le_of_eq rfl) (hb hby at_114) (by decide) (by decide) ?_
    intro T11 v11 L11 X11 hq11
    obtain ⟨rfl, N11q, hh11⟩ := hq11
    have N11 := Fr.app N10 N11q
    show own_Run p e below s _ _ _ (T11.setTop (mkF m 117 #[.val (.int i0), .val (.int i1), .val (.int (0 : Int32)), .val (.ref tm), .val (.double (9218868437227405312 : UInt64)), .second, .val (.double (FP.i2d i1)), .second, .val (.int (1 : Int32)), .val (.int (1 : Int32)), .unset] [(.double (FP.i2d i1))]))
    refine own_st (fun t k => XS.dload X11.here hx rfl (hb hby at_117) rfl k) ?_
    show own_Run p e below s _ _ _ (T11.setTop (mkF m 119 #[.val (.int i0), .val (.int i1), .val (.int (0 : Int32)), .val (.ref tm), .val (.double (9218868437227405312 : UInt64)), .second, .val (.double (FP.i2d i1)), .second, .val (.int (1 : Int32)), .val (.int (1 : Int32)), .unset] [(.double (FP.i2d i1)), (.double (FP.i2d i1))]))
    refine own_st (fun t k => XS.dcmpS X11.here hx rfl (hb hby at_119) rfl (v := (0 : Int32)) (dcmpV_self (Jvm.Free.Fl.i2d_fin i1).noNaN _) k) ?_
    show own_Run p e below s _ _ _ (T11.setTop (mkF m 120 #[.val (.int i0), .val (.int i1), .val (.int (0 : Int32)), .val (.ref tm), .val (.double (9218868437227405312 : UInt64)), .second, .val (.double (FP.i2d i1)), .second, .val (.int (1 : Int32)), .val (.int (1 : Int32)), .unset] [(.int (0 : Int32))]))
    refine own_st (fun t k => XS.ifNo X11.here hx rfl (hb hby at_120) rfl ((if0 _ _).trans (teq (by decide : (0 : Int32) = (0 : Int32))).2) k) ?_
    show own_Run p e below s _ _ _ (T11.setTop (mkF m 123 #[.val (.int i0), .val (.int i1), .val (.int (0 : Int32)), .val (.ref tm), .val (.double (9218868437227405312 : UInt64)), .second, .val (.double (FP.i2d i1)), .second, .val (.int (1 : Int32)), .val (.int (1 : Int32)), .unset] []))
    refine own_st (fun t k => XS.iconst X11.here hx rfl (hb hby at_123) k) ?_
    show own_Run p e below s _ _ _ (T11.setTop (mkF m 124 #[.val (.int i0), .val (.int i1), .val (.int (0 : Int32)), .val (.ref tm), .val (.double (9218868437227405312 : UInt64)), .second, .val (.double (FP.i2d i1)), .second, .val (.int (1 : Int32)), .val (.int (1 : Int32)), .unset] [(.int (1 : Int32))]))
    refine own_st (fun t k => XS.goto X11.here hx rfl (pc0 := 124) (pc' := 128) rfl (hb hby at_124) (by decide) (by decide) k) ?_
    show own_Run p e below s _ _ _ (T11.setTop (mkF m 128 #[.val (.int i0), .val (.int i1), .val (.int (0 : Int32)), .val (.ref tm), .val (.double (9218868437227405312 : UInt64)), .second, .val (.double (FP.i2d i1)), .second, .val (.int (1 : Int32)), .val (.int (1 : Int32)), .unset] [(.int (1 : Int32))]))
    refine own_st (fun t k => XS.istore X11.here hx rfl (hb hby at_128) rfl (l' := #[.val (.int i0), .val (.int i1), .val (.int (0 : Int32)), .val (.ref tm), .val (.double (9218868437227405312 : UInt64)), .second, .val (.double (FP.i2d i1)), .second, .val (.int (1 : Int32)), .val (.int (1 : Int32)), .val (.int (1 : Int32))]) rfl k) ?_
    show own_Run p e below s _ _ _ (T11.setTop (mkF m 130 #[.val (.int i0), .val (.int i1), .val (.int (0 : Int32)), .val (.ref tm), .val (.double (9218868437227405312 : UInt64)), .second, .val (.double (FP.i2d i1)), .second, .val (.int (1 : Int32)), .val (.int (1 : Int32)), .val (.int (1 : Int32))] []))
    refine own_st (fun t k => XS.iload X11.here hx rfl (hb hby at_130) rfl k) ?_
    show own_Run p e below s _ _ _ (T11.setTop (mkF m 132 #[.val (.int i0), .val (.int i1), .val (.int (0 : Int32)), .val (.ref tm), .val (.double (9218868437227405312 : UInt64)), .second, .val (.double (FP.i2d i1)), .second, .val (.int (1 : Int32)), .val (.int (1 : Int32)), .val (.int (1 : Int32))] [(.int (1 : Int32))]))
    refine own_st (fun t k => XS.ifNo X11.here hx rfl (hb hby at_132) rfl ((if0 _ _).trans (feq (by decide : ¬ ((1 : Int32) = (0 : Int32)))).1) k) ?_
    show own_Run p e below s _ _ _ (T11.setTop (mkF m 135 #[.val (.int i0), .val (.int i1), .val (.int (0 : Int32)), .val (.ref tm), .val (.double (9218868437227405312 : UInt64)), .second, .val (.double (FP.i2d i1)), .second, .val (.int (1 : Int32)), .val (.int (1 : Int32)), .val (.int (1 : Int32))] []))
    refine own_st (fun t k => XS.iload X11.here hx rfl (hb hby at_135) rfl k) ?_
    show own_Run p e below s _ _ _ (T11.setTop (mkF m 137 #[.val (.int i0), .val (.int i1), .val (.int (0 : Int32)), .val (.ref tm), .val (.double (9218868437227405312 : UInt64)), .second, .val (.double (FP.i2d i1)), .second, .val (.int (1 : Int32)), .val (.int (1 : Int32)), .val (.int (1 : Int32))] [(.int (1 : Int32))]))
    refine own_st (fun t k => XS.ifNo X11.here hx rfl (hb hby at_137) rfl ((if0 _ _).trans (feq (by decide : ¬ ((1 : Int32) = (0 : Int32)))).1) k) ?_
    show own_Run p e below s _ _ _ (T11.setTop (mkF m 140 #[.val (.int i0), .val (.int i1), .val (.int (0 : Int32)), .val (.ref tm), .val (.double (9218868437227405312 : UInt64)), .second, .val (.double (FP.i2d i1)), .second, .val (.int (1 : Int32)), .val (.int (1 : Int32)), .val (.int (1 : Int32))] []))
    refine own_st (fun t k => XS.iload X11.here hx rfl (hb hby at_140) rfl k) ?_
    show own_Run p e below s _ _ _ (T11.setTop (mkF m 142 #[.val (.int i0), .val (.int i1), .val (.int (0 : Int32)), .val (.ref tm), .val (.double (9218868437227405312 : UInt64)), .second, .val (.double (FP.i2d i1)), .second, .val (.int (1 : Int32)), .val (.int (1 : Int32)), .val (.int (1 : Int32))] [(.int (1 : Int32))]))
    refine own_st (fun t k => XS.ifNo X11.here hx rfl (hb hby at_142) rfl ((if0 _ _).trans (feq (by decide : ¬ ((1 : Int32) = (0 : Int32)))).1) k) ?_
    show own_Run p e below s _ _ _ (T11.setTop (mkF m 145 #[.val (.int i0), .val (.int i1), .val (.int (0 : Int32)), .val (.ref tm), .val (.double (9218868437227405312 : UInt64)), .second, .val (.double (FP.i2d i1)), .second, .val (.int (1 : Int32)), .val (.int (1 : Int32)), .val (.int (1 : Int32))] []))
    refine own_st (fun t k => XS.iconst X11.here hx rfl (hb hby at_145) k) ?_
    show own_Run p e below s _ _ _ (T11.setTop (mkF m 146 #[.val (.int i0), .val (.int i1), .val (.int (0 : Int32)), .val (.ref tm), .val (.double (9218868437227405312 : UInt64)), .second, .val (.double (FP.i2d i1)), .second, .val (.int (1 : Int32)), .val (.int (1 : Int32)), .val (.int (1 : Int32))] [(.int (1 : Int32))]))
    refine own_st (fun t k => XS.goto X11.here hx rfl (pc0 := 146) (pc' := 150) rfl (hb hby at_146) (by decide) (by decide) k) ?_
    show own_Run p e below s _ _ _ (T11.setTop (mkF m 150 #[.val (.int i0), .val (.int i1), .val (.int (0 : Int32)), .val (.ref tm), .val (.double (9218868437227405312 : UInt64)), .second, .val (.double (FP.i2d i1)), .second, .val (.int (1 : Int32)), .val (.int (1 : Int32)), .val (.int (1 : Int32))] [(.int (1 : Int32))]))
    exact own_ret X11 hx hlk (t := .boolean) hret rfl (Or.inl ⟨rfl, by simp, _, rfl⟩) (hb hby at_150) (by decide) (by decide) ⟨rfl, N11⟩
  · skip
    refine own_st (fun t k => XS.ifNo X0.here hx rfl (hb hby at_3) rfl ((if0 _ _).trans (feq (hc7 : ¬ ((i0 &&& (1 : Int32)) = (0 : Int32)))).1) k) ?_
    show own_Run p e below s _ _ _ (s₁.setTop (mkF m 6 #[.val (.int i0), .val (.int i1), .unset, .unset, .unset, .unset, .unset, .unset, .unset, .unset, .unset] []))
    refine own_st (fun t k => XS.iconst X0.here hx rfl (hb hby at_6) k) ?_
    show own_Run p e below s _ _ _ (s₁.setTop (mkF m 7 #[.val (.int i0), .val (.int i1), .unset, .unset, .unset, .unset, .unset, .unset, .unset, .unset, .unset] [(.int (1 : Int32))]))
    refine own_st (fun t k => XS.goto X0.here hx rfl (pc0 := 7) (pc' := 11) rfl (hb hby at_7) (by decide) (by decide) k) ?_
    show own_Run p e below s _ _ _ (s₁.setTop (mkF m 11 #[.val (.int i0), .val (.int i1), .unset, .unset, .unset, .unset, .unset, .unset, .unset, .unset, .unset] [(.int (1 : Int32))]))
    refine own_st (fun t k => XS.istoreN X0.here hx rfl (hb hby at_11) rfl (l' := #[.val (.int i0), .val (.int i1), .val (.int (1 : Int32)), .unset, .unset, .unset, .unset, .unset, .unset, .unset, .unset]) rfl k) ?_
    show own_Run p e below s _ _ _ (s₁.setTop (mkF m 12 #[.val (.int i0), .val (.int i1), .val (.int (1 : Int32)), .unset, .unset, .unset, .unset, .unset, .unset, .unset, .unset] []))
    refine own_st (fun t k => XS.iloadN X0.here hx rfl (hb hby at_12) rfl k) ?_
    show own_Run p e below s _ _ _ (s₁.setTop (mkF m 13 #[.val (.int i0), .val (.int i1), .val (.int (1 : Int32)), .unset, .unset, .unset, .unset, .unset, .unset, .unset, .unset] [(.int (1 : Int32))]))
    refine own_st (fun t k => XS.ifNo X0.here hx rfl (hb hby at_13) rfl ((if0 _ _).trans (feq (by decide : ¬ ((1 : Int32) = (0 : Int32)))).1) k) ?_
    show own_Run p e below s _ _ _ (s₁.setTop (mkF m 16 #[.val (.int i0), .val (.int i1), .val (.int (1 : Int32)), .unset, .unset, .unset, .unset, .unset, .unset, .unset, .unset] []))
    obtain ⟨T12, X12, e12, st12⟩ := getS2 X0 hx hZ hown (host := "") (Or.inl (hw _ (List.mem_of_getElem? (i := 20) rfl))) Via.refl e0 (S_X.ext O0.2) (g := (mkF m 16 #[.val (.int i0), .val (.int i1), .val (.int (1 : Int32)), .unset, .unset, .unset, .unset, .unset, .unset, .unset, .unset] [])) rfl (hb hby at_16)
    refine own_st st12 ?_
    show own_Run p e below s _ _ _ (T12.setTop (mkF m 19 #[.val (.int i0), .val (.int i1), .val (.int (1 : Int32)), .unset, .unset, .unset, .unset, .unset, .unset, .unset, .unset] [(.ref tx)]))
    refine own_st (fun t k => XS.goto X12.here hx rfl (pc0 := 19) (pc' := 25) rfl (hb hby at_19) (by decide) (by decide) k) ?_
    show own_Run p e below s _ _ _ (T12.setTop (mkF m 25 #[.val (.int i0), .val (.int i1), .val (.int (1 : Int32)), .unset, .unset, .unset, .unset, .unset, .unset, .unset, .unset] [(.ref tx)]))
    refine own_st (fun t k => XS.astoreN X12.here hx rfl (hb hby at_25) rfl rfl (l' := #[.val (.int i0), .val (.int i1), .val (.int (1 : Int32)), .val (.ref tx), .unset, .unset, .unset, .unset, .unset, .unset, .unset]) rfl k) ?_
    show own_Run p e below s _ _ _ (T12.setTop (mkF m 26 #[.val (.int i0), .val (.int i1), .val (.int (1 : Int32)), .val (.ref tx), .unset, .unset, .unset, .unset, .unset, .unset, .unset] []))
    refine own_st (fun t k => XS.aloadN X12.here hx rfl (hb hby at_26) rfl rfl k) ?_
    show own_Run p e below s _ _ _ (T12.setTop (mkF m 27 #[.val (.int i0), .val (.int i1), .val (.int (1 : Int32)), .val (.ref tx), .unset, .unset, .unset, .unset, .unset, .unset, .unset] [(.ref tx)]))
    refine own_callV X12 hx hZ (y := (⟨"com/example/intervallum/intervallum/property/Optimum", "worst", "()D"⟩ : MethodName)) (C := "com/example/intervallum/intervallum/property/Optimum") hown (hw _ (List.mem_of_getElem? (i := 3) rfl)) (hw _ (List.mem_of_getElem? (i := 4) rfl)) (hw _ (List.mem_of_getElem? (i := 6) rfl)) (hw _ (List.mem_of_getElem? (i := 5) rfl)) (hw _ (List.mem_of_getElem? (i := 7) rfl)) (hw _ (List.mem_of_getElem? (i := 1) rfl)) (by decide) e12 (a := tx) E_tx (argsL := []) (rest := []) (W := 0) (own_rm1X l Z a0 hw [] tx tm h0 n0 (Nat.le_trans Z0 K0.1) O0 S_M ne0) (by decide) (by decide) (by rw [hml]; rfl) (lenOf own_pd2 rfl) rfl (by exact Nat.le_of_eq rfl) (hb hby at_27) (by decide) (by decide) ?_
    intro T13 v13 L13 X13 hq13
    obtain ⟨rfl, N13q, hh13⟩ := hq13
    have N13 := Fr.app N0 N13q
    show own_Run p e below s _ _ _ (T13.setTop (mkF m 30 #[.val (.int i0), .val (.int i1), .val (.int (1 : Int32)), .val (.ref tx), .unset, .unset, .unset, .unset, .unset, .unset, .unset] [(.double (18442240474082181120 : UInt64))]))
    refine own_st (fun t k => XS.dstore X13.here hx rfl (hb hby at_30) rfl (l' := #[.val (.int i0), .val (.int i1), .val (.int (1 : Int32)), .val (.ref tx), .val (.double (18442240474082181120 : UInt64)), .second, .unset, .unset, .unset, .unset, .unset]) rfl k) ?_
    show own_Run p e below s _ _ _ (T13.setTop (mkF m 32 #[.val (.int i0), .val (.int i1), .val (.int (1 : Int32)), .val (.ref tx), .val (.double (18442240474082181120 : UInt64)), .second, .unset, .unset, .unset, .unset, .unset] []))
    refine own_st (fun t k => XS.iloadN X13.here hx rfl (hb hby at_32) rfl k) ?_
    show own_Run p e below s _ _ _ (T13.setTop (mkF m 33 #[.val (.int i0), .val (.int i1), .val (.int (1 : Int32)), .val (.ref tx), .val (.double (18442240474082181120 : UInt64)), .second, .unset, .unset, .unset, .unset, .unset] [(.int i1)]))
    refine own_st (fun t k => XS.i2dS X13.here hx rfl (hb hby at_33) rfl (v := (FP.i2d i1)) (rfl) k) ?_
    show own_Run p e below s _ _ _ (T13.setTop (mkF m 34 #[.val (.int i0), .val (.int i1), .val (.int (1 : Int32)), .val (.ref tx), .val (.double (18442240474082181120 : UInt64)), .second, .unset, .unset, .unset, .unset, .unset] [(.double (FP.i2d i1))]))
    refine own_st (fun t k => XS.dstore X13.here hx rfl (hb hby at_34) rfl (l' := #[.val (.int i0), .val (.int i1), .val (.int (1 : Int32)), .val (.ref tx), .val (.double (18442240474082181120 : UInt64)), .second, .val (.double (FP.i2d i1)), .second, .unset, .unset, .unset]) rfl k) ?_
    show own_Run p e below s _ _ _ (T13.setTop (mkF m 36 #[.val (.int i0), .val (.int i1), .val (.int (1 : Int32)), .val (.ref tx), .val (.double (18442240474082181120 : UInt64)), .second, .val (.double (FP.i2d i1)), .second, .unset, .unset, .unset] []))
    refine own_st (fun t k => XS.dload X13.here hx rfl (hb hby at_36) rfl k) ?_
    show own_Run p e below s _ _ _ (T13.setTop (mkF m 38 #[.val (.int i0), .val (.int i1), .val (.int (1 : Int32)), .val (.ref tx), .val (.double (18442240474082181120 : UInt64)), .second, .val (.double (FP.i2d i1)), .second, .unset, .unset, .unset] [(.double (18442240474082181120 : UInt64))]))
    refine own_st (X13.ldc2DoubleC hx hown (mvT hZ (hw _ (List.mem_of_getElem? (i := 10) rfl))) (g := (mkF m 38 #[.val (.int i0), .val (.int i1), .val (.int (1 : Int32)), .val (.ref tx), .val (.double (18442240474082181120 : UInt64)), .second, .val (.double (FP.i2d i1)), .second, .unset, .unset, .unset] [(.double (18442240474082181120 : UInt64))])) rfl (hb hby at_38)) ?_
    show own_Run p e below s _ _ _ (T13.setTop (mkF m 41 #[.val (.int i0), .val (.int i1), .val (.int (1 : Int32)), .val (.ref tx), .val (.double (18442240474082181120 : UInt64)), .second, .val (.double (FP.i2d i1)), .second, .unset, .unset, .unset] [(.double (4611686018427387904 : UInt64)), (.double (18442240474082181120 : UInt64))]))
    refine own_st (fun t k => XS.dmulS X13.here hx rfl (hb hby at_41) rfl (by unfold Jvm.Free.Fl.NoNaN64; decide +kernel) (v := (18442240474082181120 : UInt64)) (by decide +kernel) k) ?_
    show own_Run p e below s _ _ _ (T13.setTop (mkF m 42 #[.val (.int i0), .val (.int i1), .val (.int (1 : Int32)), .val (.ref tx), .val (.double (18442240474082181120 : UInt64)), .second, .val (.double (FP.i2d i1)), .second, .unset, .unset, .unset] [(.double (18442240474082181120 : UInt64))]))
    refine own_st (fun t k => XS.dload X13.here hx rfl (hb hby at_42) rfl k) ?_
    show own_Run p e below s _ _ _ (T13.setTop (mkF m 44 #[.val (.int i0), .val (.int i1), .val (.int (1 : Int32)), .val (.ref tx), .val (.double (18442240474082181120 : UInt64)), .second, .val (.double (FP.i2d i1)), .second, .unset, .unset, .unset] [(.double (18442240474082181120 : UInt64)), (.double (18442240474082181120 : UInt64))]))
    refine own_st (fun t k => XS.dcmpS X13.here hx rfl (hb hby at_44) rfl (v := (0 : Int32)) (by decide +kernel) k) ?_
    show own_Run p e below s _ _ _ (T13.setTop (mkF m 45 #[.val (.int i0), .val (.int i1), .val (.int (1 : Int32)), .val (.ref tx), .val (.double (18442240474082181120 : UInt64)), .second, .val (.double (FP.i2d i1)), .second, .unset, .unset, .unset] [(.int (0 : Int32))]))
    refine own_st (fun t k => XS.ifNo X13.here hx rfl (hb hby at_45) rfl ((if0 _ _).trans (teq (by decide : (0 : Int32) = (0 : Int32))).2) k) ?_
    show own_Run p e below s _ _ _ (T13.setTop (mkF m 48 #[.val (.int i0), .val (.int i1), .val (.int (1 : Int32)), .val (.ref tx), .val (.double (18442240474082181120 : UInt64)), .second, .val (.double (FP.i2d i1)), .second, .unset, .unset, .unset] []))
    refine own_st (fun t k => XS.dload X13.here hx rfl (hb hby at_48) rfl k) ?_
    show own_Run p e below s _ _ _ (T13.setTop (mkF m 50 #[.val (.int i0), .val (.int i1), .val (.int (1 : Int32)), .val (.ref tx), .val (.double (18442240474082181120 : UInt64)), .second, .val (.double (FP.i2d i1)), .second, .unset, .unset, .unset] [(.double (18442240474082181120 : UInt64))]))
    refine own_st (fun t k => XS.dconst0 X13.here hx rfl (hb hby at_50) (v := 0) rfl k) ?_
    show own_Run p e below s _ _ _ (T13.setTop (mkF m 51 #[.val (.int i0), .val (.int i1), .val (.int (1 : Int32)), .val (.ref tx), .val (.double (18442240474082181120 : UInt64)), .second, .val (.double (FP.i2d i1)), .second, .unset, .unset, .unset] [(.double (0 : UInt64)), (.double (18442240474082181120 : UInt64))]))
    refine own_st (fun t k => XS.dcmpS X13.here hx rfl (hb hby at_51) rfl (v := (-1 : Int32)) (by decide +kernel) k) ?_
    show own_Run p e below s _ _ _ (T13.setTop (mkF m 52 #[.val (.int i0), .val (.int i1), .val (.int (1 : Int32)), .val (.ref tx), .val (.double (18442240474082181120 : UInt64)), .second, .val (.double (FP.i2d i1)), .second, .unset, .unset, .unset] [(.int (-1 : Int32))]))
    refine own_st (fun t k => XS.ifNo X13.here hx rfl (hb hby at_52) rfl ((if0 _ _).trans (feq (by decide : ¬ ((-1 : Int32) = (0 : Int32)))).1) k) ?_
    show own_Run p e below s _ _ _ (T13.setTop (mkF m 55 #[.val (.int i0), .val (.int i1), .val (.int (1 : Int32)), .val (.ref tx), .val (.double (18442240474082181120 : UInt64)), .second, .val (.double (FP.i2d i1)), .second, .unset, .unset, .unset] []))
    refine own_st (fun t k => XS.iconst X13.here hx rfl (hb hby at_55) k) ?_
    show own_Run p e below s _ _ _ (T13.setTop (mkF m 56 #[.val (.int i0), .val (.int i1), .val (.int (1 : Int32)), .val (.ref tx), .val (.double (18442240474082181120 : UInt64)), .second, .val (.double (FP.i2d i1)), .second, .unset, .unset, .unset] [(.int (1 : Int32))]))
    refine own_st (fun t k => XS.goto X13.here hx rfl (pc0 := 56) (pc' := 60) rfl (hb hby at_56) (by decide) (by decide) k) ?_
    show own_Run p e below s _ _ _ (T13.setTop (mkF m 60 #[.val (.int i0), .val (.int i1), .val (.int (1 : Int32)), .val (.ref tx), .val (.double (18442240474082181120 : UInt64)), .second, .val (.double (FP.i2d i1)), .second, .unset, .unset, .unset] [(.int (1 : Int32))]))
    refine own_st (fun t k => XS.istore X13.here hx rfl (hb hby at_60) rfl (l' := #[.val (.int i0), .val (.int i1), .val (.int (1 : Int32)), .val (.ref tx), .val (.double (18442240474082181120 : UInt64)), .second, .val (.double (FP.i2d i1)), .second, .val (.int (1 : Int32)), .unset, .unset]) rfl k) ?_
    show own_Run p e below s _ _ _ (T13.setTop (mkF m 62 #[.val (.int i0), .val (.int i1), .val (.int (1 : Int32)), .val (.ref tx), .val (.double (18442240474082181120 : UInt64)), .second, .val (.double (FP.i2d i1)), .second, .val (.int (1 : Int32)), .unset, .unset] []))
    refine own_st (fun t k => XS.iloadN X13.here hx rfl (hb hby at_62) rfl k) ?_
    show own_Run p e below s _ _ _ (T13.setTop (mkF m 63 #[.val (.int i0), .val (.int i1), .val (.int (1 : Int32)), .val (.ref tx), .val (.double (18442240474082181120 : UInt64)), .second, .val (.double (FP.i2d i1)), .second, .val (.int (1 : Int32)), .unset, .unset] [(.int (1 : Int32))]))
    refine own_st (fun t k => XS.ifNo X13.here hx rfl (hb hby at_63) rfl ((if0 _ _).trans (feq (by decide : ¬ ((1 : Int32) = (0 : Int32)))).1) k) ?_
    show own_Run p e below s _ _ _ (T13.setTop (mkF m 66 #[.val (.int i0), .val (.int i1), .val (.int (1 : Int32)), .val (.ref tx), .val (.double (18442240474082181120 : UInt64)), .second, .val (.double (FP.i2d i1)), .second, .val (.int (1 : Int32)), .unset, .unset] []))
    refine own_st (fun t k => XS.dload X13.here hx rfl (hb hby at_66) rfl k) ?_
    show own_Run p e below s _ _ _ (T13.setTop (mkF m 68 #[.val (.int i0), .val (.int i1), .val (.int (1 : Int32)), .val (.ref tx), .val (.double (18442240474082181120 : UInt64)), .second, .val (.double (FP.i2d i1)), .second, .val (.int (1 : Int32)), .unset, .unset] [(.double (18442240474082181120 : UInt64))]))
    refine own_st (fun t k => XS.dconst0 X13.here hx rfl (hb hby at_68) (v := 0) rfl k) ?_
    show own_Run p e below s _ _ _ (T13.setTop (mkF m 69 #[.val (.int i0), .val (.int i1), .val (.int (1 : Int32)), .val (.ref tx), .val (.double (18442240474082181120 : UInt64)), .second, .val (.double (FP.i2d i1)), .second, .val (.int (1 : Int32)), .unset, .unset] [(.double (0 : UInt64)), (.double (18442240474082181120 : UInt64))]))
    refine own_st (fun t k => XS.dcmpS X13.here hx rfl (hb hby at_69) rfl (v := (-1 : Int32)) (by decide +kernel) k) ?_
    show own_Run p e below s _ _ _ (T13.setTop (mkF m 70 #[.val (.int i0), .val (.int i1), .val (.int (1 : Int32)), .val (.ref tx), .val (.double (18442240474082181120 : UInt64)), .second, .val (.double (FP.i2d i1)), .second, .val (.int (1 : Int32)), .unset, .unset] [(.int (-1 : Int32))]))
    refine own_st (fun t k => XS.ifNo X13.here hx rfl (hb hby at_70) rfl ((if0 _ _).trans (tlt (by decide : (-1 : Int32) < (0 : Int32))).2.1) k) ?_
    show own_Run p e below s _ _ _ (T13.setTop (mkF m 73 #[.val (.int i0), .val (.int i1), .val (.int (1 : Int32)), .val (.ref tx), .val (.double (18442240474082181120 : UInt64)), .second, .val (.double (FP.i2d i1)), .second, .val (.int (1 : Int32)), .unset, .unset] []))
    refine own_st (fun t k => XS.iconst X13.here hx rfl (hb hby at_73) k) ?_
    show own_Run p e below s _ _ _ (T13.setTop (mkF m 74 #[.val (.int i0), .val (.int i1), .val (.int (1 : Int32)), .val (.ref tx), .val (.double (18442240474082181120 : UInt64)), .second, .val (.double (FP.i2d i1)), .second, .val (.int (1 : Int32)), .unset, .unset] [(.int (1 : Int32))]))
    refine own_st (fun t k => XS.goto X13.here hx rfl (pc0 := 74) (pc' := 93) rfl (hb hby at_74) (by decide) (by decide) k) ?_
    show own_Run p e below s _ _ _ (T13.setTop (mkF m 93 #[.val (.int i0), .val (.int i1), .val (.int (1 : Int32)), .val (.ref tx), .val (.double (18442240474082181120 : UInt64)), .second, .val (.double (FP.i2d i1)), .second, .val (.int (1 : Int32)), .unset, .unset] [(.int (1 : Int32))]))
    refine own_st (fun t k => XS.istore X13.here hx rfl (hb hby at_93) rfl (l' := #[.val (.int i0), .val (.int i1), .val (.int (1 : Int32)), .val (.ref tx), .val (.double (18442240474082181120 : UInt64)), .second, .val (.double (FP.i2d i1)), .second, .val (.int (1 : Int32)), .val (.int (1 : Int32)), .unset]) rfl k) ?_
    show own_Run p e below s _ _ _ (T13.setTop (mkF m 95 #[.val (.int i0), .val (.int i1), .val (.int (1 : Int32)), .val (.ref tx), .val (.double (18442240474082181120 : UInt64)), .second, .val (.double (FP.i2d i1)), .second, .val (.int (1 : Int32)), .val (.int (1 : Int32)), .unset] []))
    refine own_st (fun t k => XS.aloadN X13.here hx rfl (hb hby at_95) rfl rfl k) ?_
    show own_Run p e below s _ _ _ (T13.setTop (mkF m 96 #[.val (.int i0), .val (.int i1), .val (.int (1 : Int32)), .val (.ref tx), .val (.double (18442240474082181120 : UInt64)), .second, .val (.double (FP.i2d i1)), .second, .val (.int (1 : Int32)), .val (.int (1 : Int32)), .unset] [(.ref tx)]))
    refine own_st (fun t k => XS.dload X13.here hx rfl (hb hby at_96) rfl k) ?_
    show own_Run p e below s _ _ _ (T13.setTop (mkF m 98 #[.val (.int i0), .val (.int i1), .val (.int (1 : Int32)), .val (.ref tx), .val (.double (18442240474082181120 : UInt64)), .second, .val (.double (FP.i2d i1)), .second, .val (.int (1 : Int32)), .val (.int (1 : Int32)), .unset] [(.double (18442240474082181120 : UInt64)), (.ref tx)]))
    refine own_st (fun t k => XS.dload X13.here hx rfl (hb hby at_98) rfl k) ?_
    show own_Run p e below s _ _ _ (T13.setTop (mkF m 100 #[.val (.int i0), .val (.int i1), .val (.int (1 : Int32)), .val (.ref tx), .val (.double (18442240474082181120 : UInt64)), .second, .val (.double (FP.i2d i1)), .second, .val (.int (1 : Int32)), .val (.int (1 : Int32)), .unset] [(.double (FP.i2d i1)), (.double (18442240474082181120 : UInt64)), (.ref tx)]))
    refine own_callV X13 hx hZ (y := (⟨"com/example/intervallum/intervallum/property/Optimum", "better", "(DD)D"⟩ : MethodName)) (C := "com/example/intervallum/intervallum/property/Optimum") hown (hw _ (List.mem_of_getElem? (i := 11) rfl)) (hw _ (List.mem_of_getElem? (i := 12) rfl)) (hw _ (List.mem_of_getElem? (i := 14) rfl)) (hw _ (List.mem_of_getElem? (i := 13) rfl)) (hw _ (List.mem_of_getElem? (i := 15) rfl)) (hw _ (List.mem_of_getElem? (i := 1) rfl)) (by decide) hh13 (a := tx) E_tx (argsL := [(.double (18442240474082181120 : UInt64)), (.double (FP.i2d i1))]) (rest := []) (W := 0) (own_rm2X l Z a0 hw [] tx (18442240474082181120 : UInt64) (FP.i2d i1) tm (FP.i2d i1) h0 n0 (Nat.le_trans Z0 K0.1) O0 S_M ne0 (own_nnninf) ((Jvm.Free.Fl.i2d_fin i1).noNaN) (own_maxI (Jvm.Free.Fl.i2d_fin i1))) (by decide) (by decide) (by rw [hml]; rfl) (lenOf own_pd1 rfl) rfl (by exact Nat.le_of_eq rfl) (hb hby at_100) (by decide) (by decide) ?_
    intro T14 v14 L14 X14 hq14
    obtain ⟨rfl, N14q, hh14⟩ := hq14
    have N14 := Fr.app N13 N14q
    show own_Run p e below s _ _ _ (T14.setTop (mkF m 103 #[.val (.int i0), .val (.int i1), .val (.int (1 : Int32)), .val (.ref tx), .val (.double (18442240474082181120 : UInt64)), .second, .val (.double (FP.i2d i1)), .second, .val (.int (1 : Int32)), .val (.int (1 : Int32)), .unset] [(.double (FP.i2d i1))]))
    refine own_st (fun t k => XS.dload X14.here hx rfl (hb hby at_103) rfl k) ?_
    show own_Run p e below s _ _ _ (T14.setTop (mkF m 105 #[.val (.int i0), .val (.int i1), .val (.int (1 : Int32)), .val (.ref tx), .val (.double (18442240474082181120 : UInt64)), .second, .val (.double (FP.i2d i1)), .second, .val (.int (1 : Int32)), .val (.int (1 : Int32)), .unset] [(.double (FP.i2d i1)), (.double (FP.i2d i1))]))
    refine own_st (fun t k => XS.dcmpS X14.here hx rfl (hb hby at_105) rfl (v := (0 : Int32)) (dcmpV_self (Jvm.Free.Fl.i2d_fin i1).noNaN _) k) ?_
    show own_Run p e below s _ _ _ (T14.setTop (mkF m 106 #[.val (.int i0), .val (.int i1), .val (.int (1 : Int32)), .val (.ref tx), .val (.double (18442240474082181120 : UInt64)), .second, .val (.double (FP.i2d i1)), .second, .val (.int (1 : Int32)), .val (.int (1 : Int32)), .unset] [(.int (0 : Int32))]))
    refine own_st (fun t k => XS.ifNo X14.here hx rfl (hb hby at_106) rfl ((if0 _ _).trans (teq (by decide : (0 : Int32) = (0 : Int32))).2) k) ?_
    show own_Run p e below s _ _ _ (T14.setTop (mkF m 109 #[.val (.int i0), .val (.int i1), .val (.int (1 : Int32)), .val (.ref tx), .val (.double (18442240474082181120 : UInt64)), .second, .val (.double (FP.i2d i1)), .second, .val (.int (1 : Int32)), .val (.int (1 : Int32)), .unset] []))
    refine own_st (fun t k => XS.aloadN X14.here hx rfl (hb hby at_109) rfl rfl k) ?_
    show own_Run p e below s _ _ _ (T14.setTop (mkF m 110 #[.val (.int i0), .val (.int i1), .val (.int (1 : Int32)), .val (.ref tx), .val (.double (18442240474082181120 : UInt64)), .second, .val (.double (FP.i2d i1)), .second, .val (.int (1 : Int32)), .val (.int (1 : Int32)), .unset] [(.ref tx)]))
    refine own_st (fun t k => XS.dload X14.here hx rfl (hb hby at_110) rfl k) ?_
    show own_Run p e below s _ _ _ (T14.setTop (mkF m 112 #[.val (.int i0), .val (.int i1), .val (.int (1 : Int32)), .val (.ref tx), .val (.double (18442240474082181120 : UInt64)), .second, .val (.double (FP.i2d i1)), .second, .val (.int (1 : Int32)), .val (.int (1 : Int32)), .unset] [(.double (FP.i2d i1)), (.ref tx)]))
    refine own_st (fun t k => XS.dload X14.here hx rfl (hb hby at_112) rfl k) ?_
    show own_Run p e below s _ _ _ (T14.setTop (mkF m 114 #[.val (.int i0), .val (.int i1), .val (.int (1 : Int32)), .val (.ref tx), .val (.double (18442240474082181120 : UInt64)), .second, .val (.double (FP.i2d i1)), .second, .val (.int (1 : Int32)), .val (.int (1 : Int32)), .unset] [(.double (18442240474082181120 : UInt64)), (.double (FP.i2d i1)), (.ref tx)]))
    refine own_callV X14 hx hZ (y := (⟨"com/example/intervallum/intervallum/property/Optimum", "better", "(DD)D"⟩ : MethodName)) (C := "com/example/intervallum/intervallum/property/Optimum") hown (hw _ (List.mem_of_getElem? (i := 11) rfl)) (hw _ (List.mem_of_getElem? (i := 12) rfl)) (hw _ (List.mem_of_getElem? (i := 14) rfl)) (hw _ (List.mem_of_getElem? (i := 13) rfl)) (hw _ (List.mem_of_getElem? (i := 15) rfl)) (hw _ (List.mem_of_getElem? (i := 1) rfl)) (by decide) hh14 (a := tx) E_tx (argsL := [(.double (FP.i2d i1)), (.double (18442240474082181120 : UInt64))]) (rest := []) (W := 0) (own_rm2X l Z a0 hw [] tx (FP.i2d i1) (18442240474082181120 : UInt64) tm (FP.i2d i1) h0 n0 (Nat.le_trans Z0 K0.1) O0 S_M ne0 ((Jvm.Free.Fl.i2d_fin i1).noNaN) (own_nnninf) (own_maxI' (Jvm.Free.Fl.i2d_fin i1))) (by decide) (by decide) (by rw [hml]; rfl) (lenOf own_pd1 rfl) rfl (by exact Nat.le_of_eq rfl) (hb hby at_114) (by decide) (by decide) ?_
    intro T15 v15 L15 X15 hq15
    obtain ⟨rfl, N15q, hh15⟩ := hq15
    have N15 := Fr.app N14 N15q
    show own_Run p e below s _ _ _ (T15.setTop (mkF m 117 #[.val (.int i0), .val (.int i1), .val (.int (1 : Int32)), .val (.ref tx), .val (.double (18442240474082181120 : UInt64)), .second, .val (.double (FP.i2d i1)), .second, .val (.int (1 : Int32)), .val (.int (1 : Int32)), .unset] [(.double (FP.i2d i1))]))
    refine own_st (fun t k => XS.dload X15.here hx rfl (hb hby at_117) rfl k) ?_
    show own_Run p e below s _ _ _ (T15.setTop (mkF m 119 #[.val (.int i0), .val (.int i1), .val (.int (1 : Int32)), .val (.ref tx), .val (.double (18442240474082181120 : UInt64)), .second, .val (.double (FP.i2d i1)), .second, .val (.int (1 : Int32)), .val (.int (1 : Int32)), .unset] [(.double (FP.i2d i1)), (.double (FP.i2d i1))]))
    refine own_st (fun t k => XS.dcmpS X15.here hx rfl (hb hby at_119) rfl (v := (0 : Int32)) (dcmpV_self (Jvm.Free.Fl.i2d_fin i1).noNaN _) k) ?_
    show own_Run p e below s _ _ _ (T15.setTop (mkF m 120 #[.val (.int i0), .val (.int i1), .val (.int (1 : Int32)), .val (.ref tx), .val (.double (18442240474082181120 : UInt64)), .second, .val (.double (FP.i2d i1)), .second, .val (.int (1 : Int32)), .val (.int (1 : Int32)), .unset] [(.int (0 : Int32))]))
    refine own_st (fun t k => XS.ifNo X15.here hx rfl (hb hby at_120) rfl ((if0 _ _).trans (teq (by decide : (0 : Int32) = (0 : Int32))).2) k) ?_
    show own_Run p e below s _ _ _ (T15.setTop (mkF m 123 #[.val (.int i0), .val (.int i1), .val (.int (1 : Int32)), .val (.ref tx), .val (.double (18442240474082181120 : UInt64)), .second, .val (.double (FP.i2d i1)), .second, .val (.int (1 : Int32)), .val (.int (1 : Int32)), .unset] []))
    refine own_st (fun t k => XS.iconst X15.here hx rfl (hb hby at_123) k) ?_
    show own_Run p e below s _ _ _ (T15.setTop (mkF m 124 #[.val (.int i0), .val (.int i1), .val (.int (1 : Int32)), .val (.ref tx), .val (.double (18442240474082181120 : UInt64)), .second, .val (.double (FP.i2d i1)), .second, .val (.int (1 : Int32)), .val (.int (1 : Int32)), .unset] [(.int (1 : Int32))]))
    refine own_st (fun t k => XS.goto X15.here hx rfl (pc0 := 124) (pc' := 128) rfl (hb hby at_124) (by decide) (by decide) k) ?_
    show own_Run p e below s _ _ _ (T15.setTop (mkF m 128 #[.val (.int i0), .val (.int i1), .val (.int (1 : Int32)), .val (.ref tx), .val (.double (18442240474082181120 : UInt64)), .second, .val (.double (FP.i2d i1)), .second, .val (.int (1 : Int32)), .val (.int (1 : Int32)), .unset] [(.int (1 : Int32))]))
    refine own_st (fun t k => XS.istore X15.here hx rfl (hb hby at_128) rfl (l' := #[.val (.int i0), .val (.int i1), .val (.int (1 : Int32)), .val (.ref tx), .val (.double (18442240474082181120 : UInt64)), .second, .val (.double (FP.i2d i1)), .second, .val (.int (1 : Int32)), .val (.int (1 : Int32)), .val (.int (1 : Int32))]) rfl k) ?_
    show own_Run p e below s _ _ _ (T15.setTop (mkF m 130 #[.val (.int i0), .val (.int i1), .val (.int (1 : Int32)), .val (.ref tx), .val (.double (18442240474082181120 : UInt64)), .second, .val (.double (FP.i2d i1)), .second, .val (.int (1 : Int32)), .val (.int (1 : Int32)), .val (.int (1 : Int32))] []))
    refine own_st (fun t k => XS.iload X15.here hx rfl (hb hby at_130) rfl k) ?_
    show own_Run p e below s _ _ _ (T15.setTop (mkF m 132 #[.val (.int i0), .val (.int i1), .val (.int (1 : Int32)), .val (.ref tx), .val (.double (18442240474082181120 : UInt64)), .second, .val (.double (FP.i2d i1)), .second, .val (.int (1 : Int32)), .val (.int (1 : Int32)), .val (.int (1 : Int32))] [(.int (1 : Int32))]))
    refine own_st (fun t k => XS.ifNo X15.here hx rfl (hb hby at_132) rfl ((if0 _ _).trans (feq (by decide : ¬ ((1 : Int32) = (0 : Int32)))).1) k) ?_
    show own_Run p e below s _ _ _ (T15.setTop (mkF m 135 #[.val (.int i0), .val (.int i1), .val (.int (1 : Int32)), .val (.ref tx), .val (.double (18442240474082181120 : UInt64)), .second, .val (.double (FP.i2d i1)), .second, .val (.int (1 : Int32)), .val (.int (1 : Int32)), .val (.int (1 : Int32))] []))
    refine own_st (fun t k => XS.iload X15.here hx rfl (hb hby at_135) rfl k) ?_
    show own_Run p e below s _ _ _ (T15.setTop (mkF m 137 #[.val (.int i0), .val (.int i1), .val (.int (1 : Int32)), .val (.ref tx), .val (.double (18442240474082181120 : UInt64)), .second, .val (.double (FP.i2d i1)), .second, .val (.int (1 : Int32)), .val (.int (1 : Int32)), .val (.int (1 : Int32))] [(.int (1 : Int32))]))
    refine own_st (fun t k => XS.ifNo X15.here hx rfl (hb hby at_137) rfl ((if0 _ _).trans (feq (by decide : ¬ ((1 : Int32) = (0 : Int32)))).1) k) ?_
    show own_Run p e below s _ _ _ (T15.setTop (mkF m 140 #[.val (.int i0), .val (.int i1), .val (.int (1 : Int32)), .val (.ref tx), .val (.double (18442240474082181120 : UInt64)), .second, .val (.double (FP.i2d i1)), .second, .val (.int (1 : Int32)), .val (.int (1 : Int32)), .val (.int (1 : Int32))] []))
    refine own_st (fun t k => XS.iload X15.here hx rfl (hb hby at_140) rfl k) ?_
    show own_Run p e below s _ _ _ (T15.setTop (mkF m 142 #[.val (.int i0), .val (.int i1), .val (.int (1 : Int32)), .val (.ref tx), .val (.double (18442240474082181120 : UInt64)), .second, .val (.double (FP.i2d i1)), .second, .val (.int (1 : Int32)), .val (.int (1 : Int32)), .val (.int (1 : Int32))] [(.int (1 : Int32))]))
    refine own_st (fun t k => XS.ifNo X15.here hx rfl (hb hby at_142) rfl ((if0 _ _).trans (feq (by decide : ¬ ((1 : Int32) = (0 : Int32)))).1) k) ?_
    show own_Run p e below s _ _ _ (T15.setTop (mkF m 145 #[.val (.int i0), .val (.int i1), .val (.int (1 : Int32)), .val (.ref tx), .val (.double (18442240474082181120 : UInt64)), .second, .val (.double (FP.i2d i1)), .second, .val (.int (1 : Int32)), .val (.int (1 : Int32)), .val (.int (1 : Int32))] []))
    refine own_st (fun t k => XS.iconst X15.here hx rfl (hb hby at_145) k) ?_
    show own_Run p e below s _ _ _ (T15.setTop (mkF m 146 #[.val (.int i0), .val (.int i1), .val (.int (1 : Int32)), .val (.ref tx), .val (.double (18442240474082181120 : UInt64)), .second, .val (.double (FP.i2d i1)), .second, .val (.int (1 : Int32)), .val (.int (1 : Int32)), .val (.int (1 : Int32))] [(.int (1 : Int32))]))
    refine own_st (fun t k => XS.goto X15.here hx rfl (pc0 := 146) (pc' := 150) rfl (hb hby at_146) (by decide) (by decide) k) ?_
    show own_Run p e below s _ _ _ (T15.setTop (mkF m 150 #[.val (.int i0), .val (.int i1), .val (.int (1 : Int32)), .val (.ref tx), .val (.double (18442240474082181120 : UInt64)), .second, .val (.double (FP.i2d i1)), .second, .val (.int (1 : Int32)), .val (.int (1 : Int32)), .val (.int (1 : Int32))] [(.int (1 : Int32))]))
    exact own_ret X15 hx hlk (t := .boolean) hret rfl (Or.inl ⟨rfl, by simp, _, rfl⟩) (hb hby at_150) (by decide) (by decide) ⟨rfl, N15⟩
set_option maxRecDepth 65536 in
set_option maxHeartbeats 40000000 in
theorem own_comes_1 {Post : Tables → Env → Array Value → State → Outcome → State → Prop} (hpost : ∀ tb e args s v u, (limb_1_1.after args s (.returned v) u = true ∧ limb_1_2.after args s (.returned v) u = true ∧ True) → FrameEnd s (.returned v) u (Jvm.fieldLocs frame_1_writes args s ++ Jvm.arrayLocs frame_1_arrays args s ++ Jvm.staticLocs frame_1_statics s) 0 0 → Post tb e args s (.returned v) u) :
    ArmFor flags0 classFile x code maxLocals ret World_1 tables_1 room_1 Calls_1 rest_1 Pre_1 Post := by
  intro l hfl _ _ p e ha hc hk s m args below hf hA hF happ hP
  obtain ⟨hcalls, hrest, hpre⟩ := hP
  obtain ⟨-, -, -, hnamed, -, -, -, hat⟩ := (Spec.applies_iff hf).mp happ
  obtain ⟨hg, hn⟩ := and_e (Cond.before_iff.mp (show (Jvm.Cond.and given_1 narrow_1).before args s = true from hpre))
  obtain ⟨gv1, gv2⟩ := and_e hg
  obtain ⟨gv3, gv4⟩ := and_e gv2
  obtain ⟨w0, w1, rfl⟩ : ∃ w0 w1 : Value, args = #[w0, w1] := by
    have hs : args.size = 2 := by simpa [Cond.value, given_1] using gv1
    obtain ⟨L⟩ := args
    match L, hs with
    | [w0, w1], _ => exact ⟨w0, w1, rfl⟩
  have hw := fun d (hd : d ∈ tables_1) => atoms_spec (ws := Jvm.Cond.code x code maxLocals ret :: tables_1) hat d (List.mem_cons_of_mem _ hd)
  have hfit : Fit s := fun {y c} hc i hi => by
    obtain ⟨ha, rfl⟩ := Array.getElem?_eq_some_iff.mp hc
    have q := List.all_eq_true.mp ((Array.all_eq_true_iff_forall_mem.mp hF) _ (Array.getElem_mem ha)) i (List.mem_range.mpr hi)
    simpa [Array.getElem?_eq_getElem hi] using q
  obtain ⟨i0, ei0⟩ := is_v gv3
  obtain rfl : w0 = (.int i0) := Option.some.inj ei0
  obtain ⟨i1, ei1⟩ := is_v gv4
  obtain rfl : w1 = (.int i1) := Option.some.inj ei1
  obtain ⟨hn1, hn2⟩ := and_e hn
  obtain ⟨hn3, hn4⟩ := and_e hn2
  obtain ⟨hn5, hn6⟩ := and_e hn4
  obtain ⟨tm, etm⟩ := exa_v hn1
  obtain ⟨tx, etx⟩ := exa_v hn3
  have SM := Sta.start etm (Or.inr ⟨(hw _ (List.mem_of_getElem? (i := 1) rfl)), (hw _ (List.mem_of_getElem? (i := 2) rfl))⟩)
  have SX := Sta.start etx (Or.inr ⟨(hw _ (List.mem_of_getElem? (i := 1) rfl)), (hw _ (List.mem_of_getElem? (i := 21) rfl))⟩)
  have EM := Exa.start etm hn1
  have EX := Exa.start etx hn3
  have fx := own_eqint hn5
  have fm := own_eqint hn6
  rw [fld_at etx] at fx
  rw [fld_at etm] at fm
  have ne0 : tx ≠ tm := fun q => by rw [q, fm] at fx; exact absurd (Value.int.inj (Option.some.inj fx)) (by decide)
  obtain ⟨n, o, h1, h2, h3, _, L, rfl, ⟨rfl, N⟩, hq⟩ := own_rm0 l s _ hw tables_1 i0 i1 tm tx s.heap s.heap.size (Nat.le_refl _) (Old.start s) SM SX EM EX ne0 p e ha hc hk s m _ below hf ((Spec.applies_iff_loose hf).mp happ).1 ⟨rfl, State.Warmed39.refl s, rfl⟩ trivial
  refine ⟨n, _, h1, h2, h3, hpost _ _ _ _ _ _ ⟨Cond.after_iff.mpr rfl, Cond.after_iff.mpr (eq_i res_at (Term.int_eval (1)) rfl), trivial⟩ ⟨hq.1, hq.2.1, (hq.2.2.sift fun y hy => Or.inr (N y hy)).mono (by decide) (by decide)⟩⟩
theorem main_1_1 : Claimed_1_1 := own_comes_1 fun _ _ _ _ _ _ h hF => ⟨h.1, hF⟩
theorem main_1_2 : Claimed_1_2 := own_comes_1 fun _ _ _ _ _ _ h hF => ⟨h.2.1, hF⟩
end Jvm.Pilot.@@N@@
namespace Jvm.Pilot.@@N@@
open Jvm Jvm.ClassFile Sem Op Lib Jvm.Free Jvm.Stand Jvm.Pilot.@@N@@.Jvm.D
/-! MADE BY PROGRAM (witnessworld.py) out of the Statement's table words and the real class files: 13 classes; the members and pool entries that the words name. The judged class is class 1, her method 1. -/
namespace start1
open Jvm.ClassFile
def u (s : String) : CpInfo := .utf8 (stringToUtf16 s)
/-- a pool by its gaps: so many unusable entries, then the entry; so many at the end -/
def gap : Nat → List CpInfo → List CpInfo
  | 0, r => r
  | n + 1, r => .unusable :: gap n r
def poolList (es : List (Nat × CpInfo)) (last : Nat) : List CpInfo := es.foldr (fun e r => gap e.1 (e.2 :: r)) (gap last [])
def pool (es : List (Nat × CpInfo)) (last : Nat) : Array CpInfo := ⟨poolList es last⟩
def fileOf (pool : Array CpInfo) (this : Nat) (attrs : Array Attribute := #[]) (ms : Array MethodInfo := #[]) (fl : Nat := 33) (sup : Nat := 0) (ifs : Array Nat := #[]) (fds : Array FieldInfo := #[]) : ClassFile where
  minorVersion := 0
  majorVersion := 65
  constantPool := pool
  accessFlags := fl
  thisClass := this
  superClass := sup
  interfaces := ifs
  fields := fds
  methods := ms
  attributes := attrs
def plain (name : String) (sup : Option ClassId) : Class where
  name := name
  kind := .ordinary
  loader := none
  accessFlags := 33
  super := sup
  interfaces := #[]
  cf := none
  fields := #[]
  methods := #[]
  instanceTypes := #[]
  staticTypes := #[]
  resolved := #[]
  callSites := []
  init := .initialized
  statics := none
  mirror := none

def pool0 : Array CpInfo := pool [(5, u "<init>"), (0, u "()V"), (1, .class_ 10), (1, u "java/lang/Object")] 113

def k0m0 : Method := { name := "<init>", desc := "()V", sig := { parameters := [], returnType := none }, accessFlags := 1, code := none }
/-- java/lang/Object -/
def k0 : Class := { plain "java/lang/Object" none with
  accessFlags := 33
  interfaces := #[]
  cf := some (fileOf pool0 8 #[] #[{ accessFlags := 1, nameIndex := 5, descriptorIndex := 6, attributes := #[] }] 33 0 #[] #[])
  fields := #[]
  methods := #[k0m0]
  instanceTypes := #[]
  staticTypes := #[]
  resolved := Array.replicate 124 none
  statics := none }

def pool1 : Array CpInfo := pool [(2, .class_ 4), (1, u "java/lang/Object"), (0, u "<init>"), (0, u "()V"), (0, .fieldref 8 9), (0, .class_ 10), (0, .nameAndType 11 12), (0, u "com/example/intervallum/intervallum/property/Optimum"), (0, u "MAX"), (0, u "Lcom/example/intervallum/intervallum/property/Optimum;"), (0, .fieldref 8 14), (0, .nameAndType 15 12), (0, u "MIN"), (0, .methodref 8 17), (0, .nameAndType 18 19), (0, u "worst"), (0, u "()D"), (0, .double 4611686018427387904), (1, .methodref 8 23), (0, .nameAndType 24 25), (0, u "better"), (0, u "(DD)D"), (0, .class_ 27), (0, u "com/example/intervallum/intervallum/property/OptimumWorstPinLaw"), (2, u "law"), (0, u "(II)Z")] 3

def k1m0 : Method := { name := "<init>", desc := "()V", sig := { parameters := [], returnType := none }, accessFlags := 1, code := none }
def k1c1 : Code := { maxStack := 5, maxLocals := 11, code := code, exceptionTable := #[], attributes := #[] }
def k1m1 : Method := { name := "law", desc := "(II)Z", sig := { parameters := [.int, .int], returnType := some .boolean }, accessFlags := 9, code := some k1c1 }
/-- com/example/intervallum/intervallum/property/OptimumWorstPinLaw -/
def k1 : Class := { plain "com/example/intervallum/intervallum/property/OptimumWorstPinLaw" (some 0) with
  accessFlags := 49
  interfaces := #[]
  cf := some (fileOf pool1 26 #[] #[{ accessFlags := 1, nameIndex := 5, descriptorIndex := 6, attributes := #[] }, { accessFlags := 9, nameIndex := 30, descriptorIndex := 31, attributes := #[] }] 49 2 #[] #[])
  fields := #[]
  methods := #[k1m0, k1m1]
  instanceTypes := #[]
  staticTypes := #[]
  resolved := Array.replicate 35 none
  statics := none }

def pool2 : Array CpInfo := pool [(1, .class_ 2), (0, u "java/lang/constant/Constable"), (0, .class_ 4), (0, u "java/lang/Object")] 6

/-- java/lang/constant/Constable -/
def k2 : Class := { plain "java/lang/constant/Constable" (some 0) with
  accessFlags := 1537
  interfaces := #[]
  cf := some (fileOf pool2 1 #[] #[] 1537 3 #[] #[])
  fields := #[]
  methods := #[]
  instanceTypes := #[]
  staticTypes := #[]
  resolved := Array.replicate 11 none
  statics := none }

def pool3 : Array CpInfo := pool [(1, .class_ 2), (0, u "java/lang/Comparable"), (0, .class_ 4), (0, u "java/lang/Object")] 7

/-- java/lang/Comparable -/
def k3 : Class := { plain "java/lang/Comparable" (some 0) with
  accessFlags := 1537
  interfaces := #[]
  cf := some (fileOf pool3 1 #[] #[] 1537 3 #[] #[])
  fields := #[]
  methods := #[]
  instanceTypes := #[]
  staticTypes := #[]
  resolved := Array.replicate 12 none
  statics := none }

def pool4 : Array CpInfo := pool [(1, .class_ 2), (0, u "java/io/Serializable"), (0, .class_ 4), (0, u "java/lang/Object")] 2

/-- java/io/Serializable -/
def k4 : Class := { plain "java/io/Serializable" (some 0) with
  accessFlags := 1537
  interfaces := #[]
  cf := some (fileOf pool4 1 #[] #[] 1537 3 #[] #[])
  fields := #[]
  methods := #[]
  instanceTypes := #[]
  staticTypes := #[]
  resolved := Array.replicate 7 none
  statics := none }

def pool5 : Array CpInfo := pool [(2, .class_ 4), (1, u "java/lang/Enum"), (0, u "name"), (0, u "Ljava/lang/String;"), (2, u "ordinal"), (0, u "I"), (1, .class_ 14), (1, u "java/lang/Object"), (4, u "hash"), (86, .class_ 108), (1, u "java/lang/Enum$EnumDesc"), (2, .class_ 112), (0, u "java/lang/constant/Constable"), (0, .class_ 114), (0, u "java/lang/Comparable"), (0, .class_ 116), (0, u "java/io/Serializable")] 87

/-- java/lang/Enum -/
def k5 : Class := { plain "java/lang/Enum" (some 0) with
  accessFlags := 1057
  interfaces := #[2, 3, 4]
  cf := some (fileOf pool5 2 #[.nestMembers #[106]] #[] 1057 12 #[111, 113, 115] #[{ accessFlags := 18, nameIndex := 5, descriptorIndex := 6, attributes := #[] }, { accessFlags := 18, nameIndex := 9, descriptorIndex := 10, attributes := #[] }, { accessFlags := 2, nameIndex := 19, descriptorIndex := 10, attributes := #[] }])
  fields := #[{ name := "name", type := (.object "java/lang/String"), accessFlags := 18, slot := 0, constantValue := 0 }, { name := "ordinal", type := .int, accessFlags := 18, slot := 1, constantValue := 0 }, { name := "hash", type := .int, accessFlags := 2, slot := 2, constantValue := 0 }]
  methods := #[]
  instanceTypes := #[(.object "java/lang/String"), .int, .int]
  staticTypes := #[]
  resolved := Array.replicate 204 none
  statics := none }

def pool6 : Array CpInfo := pool [(1, .class_ 2), (0, u "com/example/intervallum/intervallum/property/Optimum"), (0, .fieldref 1 4), (0, .nameAndType 5 6), (0, u "MIN"), (0, u "Lcom/example/intervallum/intervallum/property/Optimum;"), (2, u "MAX"), (2, u "$VALUES"), (0, u "[Lcom/example/intervallum/intervallum/property/Optimum;"), (6, .class_ 22), (1, u "java/lang/Enum"), (6, .methodref 30 31), (0, .class_ 32), (0, .nameAndType 33 34), (0, u "java/lang/Math"), (0, u "min"), (0, u "(DD)D"), (0, .methodref 30 36), (0, .nameAndType 37 34), (0, u "max"), (2, .double 9218868437227405312), (1, .double 18442240474082181120), (15, u "better"), (1, u "worst"), (0, u "()D")] 4

def k6c0 : Code := { maxStack := 4, maxLocals := 5, code := prog_19_method_4_code, exceptionTable := #[], attributes := #[] }
def k6m0 : Method := { name := "better", desc := "(DD)D", sig := { parameters := [.double, .double], returnType := some .double }, accessFlags := 1, code := some k6c0 }
def k6c1 : Code := { maxStack := 2, maxLocals := 1, code := prog_19_method_5_code, exceptionTable := #[], attributes := #[] }
def k6m1 : Method := { name := "worst", desc := "()D", sig := { parameters := [], returnType := some .double }, accessFlags := 1, code := some k6c1 }
/-- com/example/intervallum/intervallum/property/Optimum -/
def k6 : Class := { plain "com/example/intervallum/intervallum/property/Optimum" (some 5) with
  accessFlags := 16433
  interfaces := #[]
  cf := some (fileOf pool6 1 #[] #[{ accessFlags := 1, nameIndex := 58, descriptorIndex := 34, attributes := #[] }, { accessFlags := 1, nameIndex := 60, descriptorIndex := 61, attributes := #[] }] 16433 20 #[] #[{ accessFlags := 16409, nameIndex := 5, descriptorIndex := 6, attributes := #[] }, { accessFlags := 16409, nameIndex := 9, descriptorIndex := 6, attributes := #[] }, { accessFlags := 4122, nameIndex := 12, descriptorIndex := 13, attributes := #[] }])
  fields := #[{ name := "MIN", type := (.object "com/example/intervallum/intervallum/property/Optimum"), accessFlags := 16409, slot := 0, constantValue := 0 }, { name := "MAX", type := (.object "com/example/intervallum/intervallum/property/Optimum"), accessFlags := 16409, slot := 1, constantValue := 0 }, { name := "$VALUES", type := (.array (.object "com/example/intervallum/intervallum/property/Optimum")), accessFlags := 4122, slot := 2, constantValue := 0 }]
  methods := #[k6m0, k6m1]
  instanceTypes := #[(.object "java/lang/String"), .int, .int]
  staticTypes := #[(.object "com/example/intervallum/intervallum/property/Optimum"), (.object "com/example/intervallum/intervallum/property/Optimum"), (.array (.object "com/example/intervallum/intervallum/property/Optimum"))]
  resolved := Array.replicate 66 none
  statics := some 0 }

def pool7 : Array CpInfo := pool [(1, .class_ 2), (0, u "java/lang/Math"), (1, .class_ 6), (1, u "java/lang/Object"), (0, u "<init>"), (0, u "()V"), (43, u "(DD)D"), (45, .class_ 100), (1, u "java/lang/Math$RandomNumberGeneratorHolder"), (71, u "negativeZeroFloatBits"), (0, u "J"), (2, u "negativeZeroDoubleBits"), (21, u "max"), (2, u "min"), (43, u "$assertionsDisabled"), (0, u "Z"), (91, u "twoToTheDoubleScaleDown"), (0, u "D"), (4, u "twoToTheDoubleScaleUp"), (9, u "E"), (3, u "PI"), (2, u "TAU"), (2, u "DEGREES_TO_RADIANS"), (0, u "RADIANS_TO_DEGREES")] 94

def k7m0 : Method := { name := "<init>", desc := "()V", sig := { parameters := [], returnType := none }, accessFlags := 2, code := none }
def k7c1 : Code := { maxStack := 4, maxLocals := 4, code := jdk_29_method_68_code, exceptionTable := #[], attributes := #[] }
def k7m1 : Method := { name := "max", desc := "(DD)D", sig := { parameters := [.double, .double], returnType := some .double }, accessFlags := 9, code := some k7c1 }
def k7c2 : Code := { maxStack := 4, maxLocals := 4, code := jdk_29_method_72_code, exceptionTable := #[], attributes := #[] }
def k7m2 : Method := { name := "min", desc := "(DD)D", sig := { parameters := [.double, .double], returnType := some .double }, accessFlags := 9, code := some k7c2 }
/-- java/lang/Math -/
def k7 : Class := { plain "java/lang/Math" (some 0) with
  accessFlags := 49
  interfaces := #[]
  cf := some (fileOf pool7 1 #[.nestMembers #[98]] #[{ accessFlags := 2, nameIndex := 7, descriptorIndex := 8, attributes := #[] }, { accessFlags := 9, nameIndex := 198, descriptorIndex := 52, attributes := #[] }, { accessFlags := 9, nameIndex := 201, descriptorIndex := 52, attributes := #[] }] 49 4 #[] #[{ accessFlags := 25, nameIndex := 354, descriptorIndex := 339, attributes := #[] }, { accessFlags := 25, nameIndex := 358, descriptorIndex := 339, attributes := #[] }, { accessFlags := 25, nameIndex := 361, descriptorIndex := 339, attributes := #[] }, { accessFlags := 26, nameIndex := 364, descriptorIndex := 339, attributes := #[] }, { accessFlags := 26, nameIndex := 365, descriptorIndex := 339, attributes := #[] }, { accessFlags := 26, nameIndex := 172, descriptorIndex := 173, attributes := #[] }, { accessFlags := 26, nameIndex := 176, descriptorIndex := 173, attributes := #[] }, { accessFlags := 8, nameIndex := 344, descriptorIndex := 339, attributes := #[] }, { accessFlags := 8, nameIndex := 338, descriptorIndex := 339, attributes := #[] }, { accessFlags := 4120, nameIndex := 245, descriptorIndex := 246, attributes := #[] }])
  fields := #[{ name := "E", type := .double, accessFlags := 25, slot := 0, constantValue := 0 }, { name := "PI", type := .double, accessFlags := 25, slot := 1, constantValue := 0 }, { name := "TAU", type := .double, accessFlags := 25, slot := 2, constantValue := 0 }, { name := "DEGREES_TO_RADIANS", type := .double, accessFlags := 26, slot := 3, constantValue := 0 }, { name := "RADIANS_TO_DEGREES", type := .double, accessFlags := 26, slot := 4, constantValue := 0 }, { name := "negativeZeroFloatBits", type := .long, accessFlags := 26, slot := 5, constantValue := 0 }, { name := "negativeZeroDoubleBits", type := .long, accessFlags := 26, slot := 6, constantValue := 0 }, { name := "twoToTheDoubleScaleUp", type := .double, accessFlags := 8, slot := 7, constantValue := 0 }, { name := "twoToTheDoubleScaleDown", type := .double, accessFlags := 8, slot := 8, constantValue := 0 }, { name := "$assertionsDisabled", type := .boolean, accessFlags := 4120, slot := 9, constantValue := 0 }]
  methods := #[k7m0, k7m1, k7m2]
  instanceTypes := #[]
  staticTypes := #[.double, .double, .double, .double, .double, .long, .long, .double, .double, .boolean]
  resolved := Array.replicate 460 none
  statics := none }

def pool8 : Array CpInfo := pool [(1, u "java/lang/Cloneable"), (0, .class_ 1), (0, u "java/lang/Object"), (0, .class_ 3)] 3

/-- java/lang/Cloneable -/
def k8 : Class := { plain "java/lang/Cloneable" (some 0) with
  accessFlags := 1537
  interfaces := #[]
  cf := some (fileOf pool8 2 #[] #[] 1537 4 #[] #[])
  fields := #[]
  methods := #[]
  instanceTypes := #[]
  staticTypes := #[]
  resolved := Array.replicate 8 none
  statics := none }

/-- the primitive byte -/
def k9 : Class := { plain "byte" none with kind := .primitive 'B', accessFlags := 0x411 }
/-- [B -/
def k10 : Class := { plain "[B" (some 0) with kind := .array 9 .byte, interfaces := #[8, 4], accessFlags := 1041 }

/-- the primitive int -/
def k11 : Class := { plain "int" none with kind := .primitive 'I', accessFlags := 0x411 }
/-- [I -/
def k12 : Class := { plain "[I" (some 0) with kind := .array 11 .int, interfaces := #[8, 4], accessFlags := 1041 }

def heap : Heap := #[{ cls := 6, slots := #[.ref 1, .ref 2, .null], vm := .statics 6 },
  { cls := 6, slots := #[.null, .int 0, .int 0], vm := .none },
  { cls := 6, slots := #[.null, .int 1, .int 0], vm := .none }]
def classes : Array Class := #[k0, k1, k2, k3, k4, k5, k6, k7, k8, k9, k10, k11, k12]
def interned : List (Array UInt16 × Addr) := []
def slotsUsed : Nat := 9
def theMethod : MethodId := ⟨1, 1⟩
def args0 : Array Value := #[.int 1, .int 2]
def aboutOver (below : List Frame) : State where
  vm := { classes := classes, interned := interned.toArray }
  heap := heap
  slotsUsed := slotsUsed
  threads := #[{ frames := .invoking theMethod args0 :: below }]
def below0 : List Frame := [.native { method := ⟨0, 0⟩, args := #[] }]
def about1 : State := aboutOver below0
def p0 : Program := .bare "" "" ""
def e0 : Env := launch0.env 0 0 0
theorem w_frames : about1.frames = Frame.invoking theMethod args0 :: below0 := rfl
set_option maxRecDepth 65536 in
theorem w_args : argsFit about1.vm theMethod args0 = true := by decide +kernel
set_option maxRecDepth 65536 in
theorem w_heap : heapFits about1 = true := by decide +kernel
set_option maxRecDepth 65536 in
theorem w_runnable : about1.curStatus? = some .runnable := by decide +kernel
set_option maxRecDepth 65536 in
theorem w_alone : about1.alone = true := by decide +kernel
set_option maxRecDepth 65536 in
theorem w_named : about1.methodNamed? x = some theMethod := by decide +kernel
set_option maxRecDepth 65536 in
theorem w_hears : about1.hears theMethod below0 = true := by decide +kernel
set_option maxRecDepth 65536 in
theorem w_ripe : about1.ripe theMethod args0 below0 = true := by decide +kernel
theorem w_running : about1.status = .running := rfl
set_option maxRecDepth 65536 in
theorem w_room : about1.hasRoom e0.platform room_1 = true :=
  launch0.hasRoom_least _ room_1 (by decide +kernel) (by decide +kernel) (by decide +kernel) (by decide +kernel) (by decide +kernel) (by decide +kernel)
theorem allAtoms_all (ts : List Jvm.Cond) (a : Array Jvm.Value) (st : Jvm.State) : (allAtoms ts).before a st = ts.all (fun c => c.before a st) := by
  induction ts with
  | nil => rfl
  | cons c t ih =>
    show (Jvm.Cond.and c (allAtoms t)).before a st = _
    rw [Jvm.Cond.before_and, ih, List.all_cons]
def words1 : List Jvm.Cond := Jvm.Cond.code x code maxLocals ret :: tables_1
/-- a 'code' word, met by the world's own term for the bytes: nothing is compared byte by byte -/
theorem code_word {y : MethodName} {bytes : ByteArray} {mx : Nat} {rt : Option FieldType} {a : Array Value} {s : State} {m : MethodId} {meth : Method} {c : Code} (h1 : s.methodNamed? y = some m) (h2 : s.vm.method? m = some meth) (h3 : meth.code = some c) (h4 : c.code = bytes)
    (h5 : (c.maxLocals == mx && c.exceptionTable.isEmpty && decide (c.maxStack ≤ mostOperands) && decide (meth.sig.returnType = rt) && !meth.locks && decide (parseMethodDescriptor y.desc = some meth.sig)) = true) : (Jvm.Cond.code y bytes mx rt).before a s = true := by
  simp only [Bool.and_eq_true, beq_iff_eq, Bool.not_eq_true', decide_eq_true_eq] at h5
  obtain ⟨⟨⟨⟨⟨g1, g2⟩, g3⟩, g4⟩, g5⟩, g6⟩ := h5
  simp [Cond.before, Cond.holds, Cond.value, h1, h2, h3, h4, g1, g2, g3, g4, g5, g6]
def isCode : Jvm.Cond → Bool
  | .code _ _ _ _ => true
  | _ => false
theorem all_split {L : List Jvm.Cond} {P : Jvm.Cond → Bool} (h1 : L.all (fun c => isCode c || P c) = true) (h2 : ∀ c ∈ L.filter isCode, P c = true) : L.all P = true := by
  refine List.all_eq_true.mpr fun c hc => ?_
  have h := List.all_eq_true.mp h1 c hc
  rcases Bool.eq_false_or_eq_true (isCode c) with hi | hi
  · exact h2 c (List.mem_filter.mpr ⟨hc, hi⟩)
  · simpa [hi] using h
set_option maxRecDepth 65536 in
theorem w_c0 : (Jvm.Cond.code x code maxLocals ret).before args0 about1 = true := code_word (m := ⟨1, 1⟩) (meth := k1m1) (c := k1c1) (by decide +kernel) rfl rfl rfl (by decide +kernel)
set_option maxRecDepth 65536 in
theorem w_c1 : (Jvm.Cond.code ({ cls := "com/example/intervallum/intervallum/property/Optimum", name := "worst", desc := "()D" } : Jvm.MethodName) prog_19_method_5_code (1 : Nat) (Option.some Jvm.ClassFile.FieldType.double)).before args0 about1 = true := code_word (m := ⟨6, 1⟩) (meth := k6m1) (c := k6c1) (by decide +kernel) rfl rfl rfl (by decide +kernel)
set_option maxRecDepth 65536 in
theorem w_c2 : (Jvm.Cond.code ({ cls := "com/example/intervallum/intervallum/property/Optimum", name := "better", desc := "(DD)D" } : Jvm.MethodName) prog_19_method_4_code (5 : Nat) (Option.some Jvm.ClassFile.FieldType.double)).before args0 about1 = true := code_word (m := ⟨6, 0⟩) (meth := k6m0) (c := k6c0) (by decide +kernel) rfl rfl rfl (by decide +kernel)
set_option maxRecDepth 65536 in
theorem w_c3 : (Jvm.Cond.code ({ cls := "java/lang/Math", name := "min", desc := "(DD)D" } : Jvm.MethodName) jdk_29_method_72_code (4 : Nat) (Option.some Jvm.ClassFile.FieldType.double)).before args0 about1 = true := code_word (m := ⟨7, 2⟩) (meth := k7m2) (c := k7c2) (by decide +kernel) rfl rfl rfl (by decide +kernel)
set_option maxRecDepth 65536 in
theorem w_c4 : (Jvm.Cond.code ({ cls := "java/lang/Math", name := "max", desc := "(DD)D" } : Jvm.MethodName) jdk_29_method_68_code (4 : Nat) (Option.some Jvm.ClassFile.FieldType.double)).before args0 about1 = true := code_word (m := ⟨7, 1⟩) (meth := k7m1) (c := k7c1) (by decide +kernel) rfl rfl rfl (by decide +kernel)
def codes1 : List Jvm.Cond := [Jvm.Cond.code x code maxLocals ret, Jvm.Cond.code ({ cls := "com/example/intervallum/intervallum/property/Optimum", name := "worst", desc := "()D" } : Jvm.MethodName) prog_19_method_5_code (1 : Nat) (Option.some Jvm.ClassFile.FieldType.double), Jvm.Cond.code ({ cls := "com/example/intervallum/intervallum/property/Optimum", name := "better", desc := "(DD)D" } : Jvm.MethodName) prog_19_method_4_code (5 : Nat) (Option.some Jvm.ClassFile.FieldType.double), Jvm.Cond.code ({ cls := "java/lang/Math", name := "min", desc := "(DD)D" } : Jvm.MethodName) jdk_29_method_72_code (4 : Nat) (Option.some Jvm.ClassFile.FieldType.double), Jvm.Cond.code ({ cls := "java/lang/Math", name := "max", desc := "(DD)D" } : Jvm.MethodName) jdk_29_method_68_code (4 : Nat) (Option.some Jvm.ClassFile.FieldType.double)]
set_option maxRecDepth 65536 in
theorem codes_eq : words1.filter isCode = codes1 := rfl
theorem w_codes : ∀ c ∈ words1.filter isCode, c.before args0 about1 = true := by
  rw [codes_eq]
  intro c hc
  simp only [codes1, List.mem_cons, List.not_mem_nil, or_false] at hc
  rcases hc with rfl | rfl | rfl | rfl | rfl
  · exact w_c0
  · exact w_c1
  · exact w_c2
  · exact w_c3
  · exact w_c4
set_option maxRecDepth 65536 in
theorem w_t1 : (words1.take 24).all (fun c => isCode c || c.before args0 about1) = true := by decide +kernel
set_option maxRecDepth 65536 in
theorem w_t2 : (words1.drop 24).all (fun c => isCode c || c.before args0 about1) = true := by decide +kernel
theorem w_tables : (allAtoms (Jvm.Cond.code x code maxLocals ret :: tables_1)).before args0 about1 = true := by
  rw [allAtoms_all]
  show words1.all (fun c => c.before args0 about1) = true
  refine all_split ?_ w_codes
  rw [← List.take_append_drop 24 words1, List.all_append, w_t1, w_t2]
  rfl
set_option maxRecDepth 65536 in
theorem w_case : (Jvm.Cond.and given_1 narrow_1).before args0 about1 = true := by decide +kernel
theorem w_applies : (headSpec (Jvm.Cond.code x code maxLocals ret :: tables_1) room_1).applies x e0.platform about1 = true :=
  (Spec.applies_iff w_frames).mpr ⟨w_running, w_runnable, w_alone, w_named, w_hears, w_ripe, w_room, w_tables⟩
theorem atStart : AtStart classFile x code maxLocals ret World_1 tables_1 room_1 Calls_1 rest_1 Pre_1 launch0 p0 e0 about1 theMethod args0 below0 :=
  ⟨lists_1, trivial, launch0.admits_env _ _ _, launch0.least_env, fairChoices_fair.cas, fairChoices_fair.clock, w_frames, w_args, w_heap, w_applies, trivial, trivial, w_case⟩
end start1
theorem witness_1 : WitnessClaimed_1 := ⟨start1.p0, start1.e0, start1.about1, start1.theMethod, start1.args0, start1.below0, start1.atStart⟩
end Jvm.Pilot.@@N@@
