import JvmDerived
import JvmDerived.Pilot.@@N@@Statement
import JvmDerived.Pilot.@@N@@Code
set_option linter.unusedVariables false
set_option linter.unusedSimpArgs false
namespace Jvm.Pilot.@@N@@
open Jvm Jvm.ClassFile Sem Op Lib Jvm.Free Jvm.Stand Jvm.LawKit Jvm.RoadKit Bundle Jvm.Pilot.@@N@@.Jvm.D
def own_Run (p : Program) (e : Env) (below : List Frame) (s : State) (Q : Option Value → Heap → List Loc → Prop) (ck sk : Nat) (U : State) : Prop :=
  ∃ s₂ o, Steps p.tables e below U s₂ ∧ s₂.status = .running ∧ Ended s₂ below o ∧ ∃ v L, o = .returned v ∧ Q v s₂.heap L ∧ FrameEnd s o s₂ L ck sk
section OwnLayer
variable {p : Program} {l : Launch} {e : Env} {R : Room} {s : State} {m : MethodId} {args : Array Value} {below : List Frame} {meth : Method} {c : Code} {T : State} {locs : List Loc} {cells slots : Nat} {Z : State} {a0 : Array Value} {h : Heap} {Q : Option Value → Heap → List Loc → Prop} {ck sk : Nat}
theorem own_st {U U' : State} (hh : ∀ t, Steps p.tables e below U' t → Steps p.tables e below U t) (K : own_Run p e below s Q ck sk U') : own_Run p e below s Q ck sk U := by
  obtain ⟨s2, o, h1, r⟩ := K
  exact ⟨s2, o, hh _ h1, r⟩
theorem own_topI {pc : Nat} {Ls : Array Slot} {st : List Value} {v v' : Int32} (hv : v = v') (K : own_Run p e below s Q ck sk (T.setTop (mkF m pc Ls (.int v' :: st)))) : own_Run p e below s Q ck sk (T.setTop (mkF m pc Ls (.int v :: st))) := hv ▸ K
theorem own_topJ {pc : Nat} {Ls : Array Slot} {st : List Value} {v v' : Int64} (hv : v = v') (K : own_Run p e below s Q ck sk (T.setTop (mkF m pc Ls (.long v' :: st)))) : own_Run p e below s Q ck sk (T.setTop (mkF m pc Ls (.long v :: st))) := hv ▸ K
theorem own_topD {pc : Nat} {Ls : Array Slot} {st : List Value} {v v' : UInt64} (hv : v = v') (K : own_Run p e below s Q ck sk (T.setTop (mkF m pc Ls (.double v' :: st)))) : own_Run p e below s Q ck sk (T.setTop (mkF m pc Ls (.double v :: st))) := hv ▸ K
theorem own_ret (X : Stand p l e R s m args below meth c T locs cells slots) (hx : p.tables.exec = Jvm.exec) (hlk : meth.locks = false) {pc : Nat} {Ls : Array Slot} {w : Value} {t : FieldType} {i : Instr} {rest : List Value} (hret : meth.sig.returnType = some t) (hn : narrow t w = w)
    (hi : (i = .ireturn ∧ (t = .int ∨ t = .boolean ∨ t = .byte ∨ t = .char ∨ t = .short) ∧ ∃ z, w = .int z) ∨ (i = .lreturn ∧ t = .long ∧ ∃ z, w = .long z) ∨ (i = .dreturn ∧ t = .double ∧ ∃ z, w = .double z) ∨ (i = .freturn ∧ t = .float ∧ ∃ z, w = .float z) ∨ (i = .areturn ∧ t.isReference = true ∧ w.isRef = true))
    (hd : decode c.code pc = .ok (i, 1)) (hc : cells ≤ ck) (hs : slots ≤ sk) (hq : Q (some w) T.heap locs) : own_Run p e below s Q ck sk (T.setTop (mkF m pc Ls (w :: rest))) := by
  obtain ⟨fs, hr, hrun, hended, hW, hsame⟩ := X.leave (v := some w) (fun q => by rw [hret] at q; cases q) hlk
  exact ⟨_, _, retOut X hx hret hn hi hd hr, hrun, hended, _, _, rfl, hq, ⟨_, rfl⟩, hW, hsame.mono hc hs⟩
theorem own_retV (X : Stand p l e R s m args below meth c T locs cells slots) (hx : p.tables.exec = Jvm.exec) (hlk : meth.locks = false) {pc : Nat} {Ls : Array Slot} (hret : meth.sig.returnType = none)
    (hd : decode c.code pc = .ok (.return_, 1)) (hc : cells ≤ ck) (hs : slots ≤ sk) (hq : Q none T.heap locs) : own_Run p e below s Q ck sk (T.setTop (mkF m pc Ls [])) := by
  obtain ⟨fs, hr, hrun, hended, hW, hsame⟩ := X.leave (v := none) (fun _ => rfl) hlk
  exact ⟨_, _, X.returnOut hx hret hd hr, hrun, hended, _, _, rfl, hq, ⟨_, rfl⟩, hW, hsame.mono hc hs⟩
theorem own_body {y : MethodName} {bytes : ByteArray} {maxL : Nat} {ret : Option FieldType} {ws : List Jvm.Cond} {rm : Room} {as' : Array Value} {h0 : Heap} (hpl : plainFor y = true)
    (hbody : ∀ (p : Program) (e : Env) (s : State) (m : MethodId) (below : List Frame) (meth : Method) (c : Code) (s₁ : State), p.tables.exec = Jvm.exec → c.code = bytes → c.maxLocals = maxL → Z.Warmed39 s.vm → s.vm.findClass y.cls = some m.cls → meth.name = y.name → meth.sig.returnType = ret → meth.locks = false → Stand p l e rm s m as' below meth c s₁ [] 0 0 → s₁.heap = h0 → own_Run p e below s Q rm.cells rm.slots (s₁.setTop (entryFrame m as' maxL))) :
    MetFree l y (head1 (Jvm.Cond.code y bytes maxL ret :: ws) rm) (fun a U => a = as' ∧ Z.Warmed39 U.vm ∧ U.heap = h0) (fun _ _ _ _ _ => True) (fun _ U o U' => ∃ v L, o = .returned v ∧ Q v U'.heap L ∧ FrameEnd U o U' L rm.cells rm.slots) := by
  refine MetFree.of_bodySF hpl hisR ?_
  intro p e s m args below meth c s₁ Bd hml0 hP hK
  obtain ⟨rfl, hZ, hh⟩ := hP
  exact hbody p e s m below meth c s₁ Bd.exec Bd.bytes hml0 hZ (findClass_of_methodNamed Bd.named) (name_of_methodNamed Bd.named Bd.method).1 Bd.returns Bd.notSynchronized (Stand.of_body Bd) (by rw [← hh, Bd.state]; rfl)
theorem own_callI (X : Stand p l e R s m args below meth c T locs cells slots) (hx : p.tables.exec = Jvm.exec) (hZ : Z.Warmed39 s.vm) {own : String} {idx : Nat} {y : MethodName} (hy1 : y.name = "<init>") (hown : s.vm.findClass own = some m.cls) (w1 : (Jvm.Cond.methodLink own idx y).before a0 Z = true) (w2 : (Jvm.Cond.instanceMethod y).before a0 Z = true)
    {bytes : ByteArray} {maxL : Nat} (w3 : (Jvm.Cond.code y bytes maxL none).before a0 Z = true) (wz : (Jvm.Cond.initialized y.cls).before a0 Z = true) (hy : y.cls ≠ "java/lang/invoke/MethodHandle" ∧ y.cls ≠ "java/lang/invoke/VarHandle") (eT : T.heap = h) {rm : Room} {Qc : Option Value → Heap → List Loc → Prop} {a : Addr} {argsL rest : List Value}
    (hM : MetFree l y (head1 [Jvm.Cond.code y bytes maxL none] rm) (fun b U => b = (Value.ref a :: argsL).toArray ∧ Z.Warmed39 U.vm ∧ U.heap = h) (fun _ _ _ _ _ => True) (fun _ U o U' => ∃ v L, o = .returned v ∧ Qc v U'.heap L ∧ FrameEnd U o U' L rm.cells rm.slots))
    {W : Nat} (hf : rm.frames + 1 ≤ R.frames) (hl : W + (maxL + 11) + rm.locals ≤ R.locals) {pc : Nat} {Ls : Array Slot} {st : List Value} (hsize : Ls.size = c.maxLocals) (hlen : ∀ sig, parseMethodDescriptor y.desc = some sig → argsL.length = sig.parameters.length) (hst : st = argsL.reverse ++ .ref a :: rest) (hW : (rest.map fun v => v.category).sum ≤ W) (hd : decode c.code pc = .ok (.invokespecial idx, 3)) (hc : cells + rm.cells ≤ R.cells) (hs : slots + rm.slots ≤ R.slots)
    (K : ∀ (T' : State) (v : Option Value) (L : List Loc), Stand p l e R s m args below meth c T' (locs ++ L) (cells + rm.cells) (slots + rm.slots) → Qc v T'.heap L → own_Run p e below s Q ck sk (T'.setTop (mkF m (pc + 3) Ls (v.toList ++ rest)))) :
    own_Run p e below s Q ck sk (T.setTop (mkF m pc Ls st)) := by
  obtain ⟨v, _, ⟨T', L', k', n'⟩, -, X', ⟨Lc, hQ, hl', hk', hn'⟩, st'⟩ := X.specialBack hx (y := y) hy1 hown (mvT hZ w1) (mvT hZ w2) (mvT hZ w3) hy (backOf (W := W) hM hZ w3 wz hf hl) (g := mkF m pc Ls st) rfl hsize (Steps.refl _) (a := a) (argsL := argsL) (rest := rest) hlen hst (by show 2 * 0 + _ ≤ _; omega) hd (fun _ _ => ⟨rfl, eT, hc, hs⟩)
  dsimp only [Pt.U, Pt.locs, Pt.cells, Pt.slots] at X' hl' hk' hn' st' hQ
  subst hl' hk' hn'
  exact own_st (fun t k => st'.trans k) (K T' v Lc X' hQ)
theorem own_callV (X : Stand p l e R s m args below meth c T locs cells slots) (hx : p.tables.exec = Jvm.exec) (hZ : Z.Warmed39 s.vm) {own C : String} {idx : Nat} {y : MethodName} (hown : s.vm.findClass own = some m.cls) (w1 : (Jvm.Cond.methodLink own idx y).before a0 Z = true) (w2 : (Jvm.Cond.declares y).before a0 Z = true) (w3 : (Jvm.Cond.selects C y y).before a0 Z = true) (w4 : (Jvm.Cond.instanceMethod y).before a0 Z = true)
    {bytes : ByteArray} {maxL : Nat} {ret : Option FieldType} (w5 : (Jvm.Cond.code y bytes maxL ret).before a0 Z = true) (wz : (Jvm.Cond.initialized y.cls).before a0 Z = true) (hy : y.cls ≠ "java/lang/invoke/MethodHandle" ∧ y.cls ≠ "java/lang/invoke/VarHandle") (eT : T.heap = h) {a : Addr} (E : Exa Z h a C) {rm : Room} {Qc : Option Value → Heap → List Loc → Prop} {argsL rest : List Value}
    (hM : MetFree l y (head1 [Jvm.Cond.code y bytes maxL ret] rm) (fun b U => b = (Value.ref a :: argsL).toArray ∧ Z.Warmed39 U.vm ∧ U.heap = h) (fun _ _ _ _ _ => True) (fun _ U o U' => ∃ v L, o = .returned v ∧ Qc v U'.heap L ∧ FrameEnd U o U' L rm.cells rm.slots))
    {W : Nat} (hf : rm.frames + 1 ≤ R.frames) (hl : W + (maxL + 11) + rm.locals ≤ R.locals) {pc : Nat} {Ls : Array Slot} {st : List Value} (hsize : Ls.size = c.maxLocals) (hlen : ∀ sig, parseMethodDescriptor y.desc = some sig → argsL.length = sig.parameters.length) (hst : st = argsL.reverse ++ .ref a :: rest) (hW : (rest.map fun v => v.category).sum ≤ W) (hd : decode c.code pc = .ok (.invokevirtual idx, 3)) (hc : cells + rm.cells ≤ R.cells) (hs : slots + rm.slots ≤ R.slots)
    (K : ∀ (T' : State) (v : Option Value) (L : List Loc), Stand p l e R s m args below meth c T' (locs ++ L) (cells + rm.cells) (slots + rm.slots) → Qc v T'.heap L → own_Run p e below s Q ck sk (T'.setTop (mkF m (pc + 3) Ls (v.toList ++ rest)))) :
    own_Run p e below s Q ck sk (T.setTop (mkF m pc Ls st)) := by
  obtain ⟨cq, kq, qa, qb, qc⟩ := isOf hZ eT E
  obtain ⟨v, _, ⟨T', L', k', n'⟩, -, X', ⟨Lc, hQ, hl', hk', hn'⟩, st'⟩ := X.virtualBack hx (y := y) (z := y) hown (mvT hZ w1) (mvT hZ w2) (notFace_of_selects (args := #[]) (mvT hZ w3)) (mvT hZ w3) (mvT hZ w4) hy (backOf (W := W) hM hZ w5 wz hf hl) qa qc (g := mkF m pc Ls st) rfl hsize (Steps.refl _) (argsL := argsL) (rest := rest) hlen hst (by show 2 * 0 + _ ≤ _; omega) hd (fun _ _ => ⟨rfl, eT, hc, hs⟩)
  dsimp only [Pt.U, Pt.locs, Pt.cells, Pt.slots] at X' hl' hk' hn' st' hQ
  subst hl' hk' hn'
  exact own_st (fun t k => st'.trans k) (K T' v Lc X' hQ)
theorem own_callS (X : Stand p l e R s m args below meth c T locs cells slots) (hx : p.tables.exec = Jvm.exec) (hZ : Z.Warmed39 s.vm) {own : String} {idx : Nat} {y : MethodName} (hown : s.vm.findClass own = some m.cls) (w1 : (Jvm.Cond.methodLink own idx y).before a0 Z = true) (w2 : (Jvm.Cond.static y).before a0 Z = true)
    {bytes : ByteArray} {maxL : Nat} {ret : Option FieldType} (w5 : (Jvm.Cond.code y bytes maxL ret).before a0 Z = true) (wz : (Jvm.Cond.initialized y.cls).before a0 Z = true) (hy : y.cls ≠ "java/lang/invoke/MethodHandle" ∧ y.cls ≠ "java/lang/invoke/VarHandle") (eT : T.heap = h) {rm : Room} {Qc : Option Value → Heap → List Loc → Prop} {argsL rest : List Value}
    (hM : MetFree l y (head1 [Jvm.Cond.code y bytes maxL ret] rm) (fun b U => b = argsL.toArray ∧ Z.Warmed39 U.vm ∧ U.heap = h) (fun _ _ _ _ _ => True) (fun _ U o U' => ∃ v L, o = .returned v ∧ Qc v U'.heap L ∧ FrameEnd U o U' L rm.cells rm.slots))
    {W : Nat} (hf : rm.frames + 1 ≤ R.frames) (hl : W + (maxL + 11) + rm.locals ≤ R.locals) {pc : Nat} {Ls : Array Slot} {st : List Value} (hsize : Ls.size = c.maxLocals) (hlen : ∀ sig, parseMethodDescriptor y.desc = some sig → argsL.length = sig.parameters.length) (hst : st = argsL.reverse ++ rest) (hW : (rest.map fun v => v.category).sum ≤ W) (hd : decode c.code pc = .ok (.invokestatic idx, 3)) (hc : cells + rm.cells ≤ R.cells) (hs : slots + rm.slots ≤ R.slots)
    (K : ∀ (T' : State) (v : Option Value) (L : List Loc), Stand p l e R s m args below meth c T' (locs ++ L) (cells + rm.cells) (slots + rm.slots) → Qc v T'.heap L → own_Run p e below s Q ck sk (T'.setTop (mkF m (pc + 3) Ls (v.toList ++ rest)))) :
    own_Run p e below s Q ck sk (T.setTop (mkF m pc Ls st)) := by
  obtain ⟨v, _, ⟨T', L', k', n'⟩, -, X', ⟨Lc, hQ, hl', hk', hn'⟩, st'⟩ := Jvm.LawKit.callS X hx (y := y) hown (mvT hZ w1) (mvT hZ w2) (mvT hZ wz) (mvT hZ w5) hy (backOf (W := W) hM hZ w5 wz hf hl) (g := mkF m pc Ls st) rfl hsize (argsL := argsL) (rest := rest) hlen hst (by show 2 * 0 + _ ≤ _; omega) hd (fun _ _ => ⟨rfl, eT, hc, hs⟩)
  dsimp only [Pt.U, Pt.locs, Pt.cells, Pt.slots] at X' hl' hk' hn' st' hQ
  subst hl' hk' hn'
  exact own_st st' (K T' v Lc X' hQ)
end OwnLayer
section OwnNums
open Jvm.FP Jvm.Free.Fl
theorem own_b53 (x : Int32) : B53 x.toInt64 := by
  have := x.le_toInt; have := x.toInt_lt
  unfold B53; rw [Int32.toInt_toInt64]; omega
theorem own_i64lt (x y : Int32) : x.toInt64 < y.toInt64 ↔ x < y := by
  rw [Int64.lt_iff_toInt_lt, Int32.lt_iff_toInt_lt, Int32.toInt_toInt64, Int32.toInt_toInt64]
theorem own_i64eq (x y : Int32) : x.toInt64 = y.toInt64 ↔ x = y := by
  rw [← Int64.toInt_inj, ← Int32.toInt_inj, Int32.toInt_toInt64, Int32.toInt_toInt64]
theorem own_dcmp_lt (x y : Int32) (o : CmpOp) : cmpValue (FP.dcmp (FP.i2d x) (FP.i2d y)) o < 0 ↔ x < y := by
  rw [i2d_w, i2d_w, dcmpV_w (own_b53 x) (own_b53 y), lw_lt, own_i64lt]
theorem own_dcmp_gt (x y : Int32) (o : CmpOp) : 0 < cmpValue (FP.dcmp (FP.i2d x) (FP.i2d y)) o ↔ y < x := by
  rw [i2d_w, i2d_w, dcmpV_w (own_b53 x) (own_b53 y), lw_gt, own_i64lt]
theorem own_dcmp_eq (x y : Int32) (o : CmpOp) : cmpValue (FP.dcmp (FP.i2d x) (FP.i2d y)) o = 0 ↔ x = y := by
  rw [i2d_w, i2d_w, dcmpV_w (own_b53 x) (own_b53 y), lw_eq, own_i64eq]
theorem own_sub_lt (x y : Int32) : lcmpW (x.toInt64 - y.toInt64) 0 < 0 ↔ x < y := by
  have h := sub64 (own_b53 x) (own_b53 y)
  rw [lw_lt, Int64.lt_iff_toInt_lt, Int32.lt_iff_toInt_lt, h, Int32.toInt_toInt64, Int32.toInt_toInt64]
  have : (0 : Int64).toInt = 0 := rfl
  omega
end OwnNums
section OwnWords
theorem own_eqint {args : Array Value} {first s : State} {o : Option Outcome} {idx : List Nat} {t : Term} {k : Int32} (h : (Jvm.Cond.eq t (.int k)).value args first o s idx = some true) : t.eval args first o idx s = some (.int k) := by
  simp only [Cond.value, Term.eval] at h
  cases ht : t.eval args first o idx s with
  | none => simp [ht] at h
  | some x => cases x <;> simp [ht] at h ⊢; exact h
end OwnWords
section OwnInts
theorem own_prod {a b : Int} {A B : Nat} (ha : a.natAbs ≤ A) (hb : b.natAbs ≤ B) : (a * b).natAbs ≤ A * B := by
  rw [Int.natAbs_mul]; exact Nat.mul_le_mul ha hb
theorem own_shr (x : Int32) : (x >>> ((11 : Int32) &&& 31)).toInt.natAbs ≤ 1048576 := by
  rw [c_ishr x 11 11 (by decide)]
  have := x.le_toInt; have := x.toInt_lt
  show (x.toInt / (2048 : Nat)).natAbs ≤ _
  omega
end OwnInts
theorem own_d2_0 : decode jdk_30_method_1_code 0 = .ok (.aload_n 0, 1) := by decide +kernel
theorem own_d2_1 : decode jdk_30_method_1_code 1 = .ok (.invokespecial 1, 3) := by decide +kernel
theorem own_d2_4 : decode jdk_30_method_1_code 4 = .ok (.return_, 1) := by decide +kernel
theorem own_ef2 (m : MethodId) (x0 : Addr) : entryFrame m #[(.ref x0)] 1 = mkF m 0 #[.val (.ref x0)] [] := by first | rfl | (simp [entryFrame, mkF, argsToLocals, Value.category]; done)
theorem own_pn0 : plainName "java/lang/Record" = true := by first | (simp [plainName, overriddenIn]; done) | decide +kernel
def own_Q2 (Z : State) (a0 : Array Value) (o0 : Addr) (h0 : Heap) (n0 : Nat) (v : Option Value) (h : Heap) (L : List Loc) : Prop := v = none ∧ Fr n0 L ∧ h = h0
set_option maxRecDepth 65536 in
set_option maxHeartbeats 40000000 in
theorem own_rm2 (l : Launch) (Z : State) (a0 : Array Value) (hw : ∀ d ∈ tables_1, d.before a0 Z = true) (ws : List Jvm.Cond) (o0 : Addr) (h0 : Heap) (n0 : Nat) (Z0 : n0 ≤ h0.size) :
    MetFree l (⟨"java/lang/Record", "<init>", "()V"⟩ : MethodName) (head1 (Jvm.Cond.code (⟨"java/lang/Record", "<init>", "()V"⟩ : MethodName) jdk_30_method_1_code 1 none :: ws) ({ frames := 1, cells := 0, slots := 0, locals := 12 } : Room)) (fun a U => a = #[(.ref o0)] ∧ Z.Warmed39 U.vm ∧ U.heap = h0) (fun _ _ _ _ _ => True) (fun _ U o U' => ∃ v L, o = .returned v ∧ own_Q2 Z a0 o0 h0 n0 v U'.heap L ∧ FrameEnd U o U' L ({ frames := 1, cells := 0, slots := 0, locals := 12 } : Room).cells ({ frames := 1, cells := 0, slots := 0, locals := 12 } : Room).slots) := by
  refine own_body (Q := fun v h L => own_Q2 Z a0 o0 h0 n0 v h L) (plainFor_of_name own_pn0) ?_
  intro p e s m below meth c s₁ hx hby hml hZ hown hnm hret hlk X0 e0
  replace hml : c.maxLocals = 1 := hml
  have N0 := Fr.nil n0
  have K0 : Keep h0 h0 [] := Keep.refl _ _
  refine own_st (fun t k => castTop (own_ef2 m o0) k) ?_
  show own_Run p e below s _ _ _ (s₁.setTop (mkF m 0 #[.val (.ref o0)] []))
  refine own_st (fun t k => XS.aloadN X0.here hx rfl (hb hby own_d2_0) rfl rfl k) ?_
  show own_Run p e below s _ _ _ (s₁.setTop (mkF m 1 #[.val (.ref o0)] [(.ref o0)]))
  obtain ⟨T1, X1, e1, st1⟩ := initO X0 hx hZ hown (hw _ (List.mem_of_getElem? (i := 11) rfl)) (hw _ (List.mem_of_getElem? (i := 12) rfl)) (hw _ (List.mem_of_getElem? (i := 13) rfl)) e0 (g := (mkF m 1 #[.val (.ref o0)] [(.ref o0)])) rfl (by rw [hml]; rfl) rfl (hb hby own_d2_1) (by decide) (W := 0) (by show 2 * 0 + _ ≤ _; exact Nat.le_of_eq rfl) (by decide)
  refine own_st st1 ?_
  show own_Run p e below s _ _ _ (T1.setTop (mkF m 4 #[.val (.ref o0)] []))
  exact own_retV X1 hx hlk hret (hb hby own_d2_4) (by decide) (by decide) ⟨rfl, N0, e1⟩
theorem own_d1_0 : decode prog_28_method_1_code 0 = .ok (.aload_n 0, 1) := by decide +kernel
theorem own_d1_1 : decode prog_28_method_1_code 1 = .ok (.invokespecial 1, 3) := by decide +kernel
theorem own_pd1 : parseMethodDescriptor "()V" = some ⟨[], none⟩ := by decide +kernel
theorem own_d1_4 : decode prog_28_method_1_code 4 = .ok (.aload_n 0, 1) := by decide +kernel
theorem own_d1_5 : decode prog_28_method_1_code 5 = .ok (.dload_n 1, 1) := by decide +kernel
theorem own_d1_6 : decode prog_28_method_1_code 6 = .ok (.putfield 7, 3) := by decide +kernel
theorem own_d1_9 : decode prog_28_method_1_code 9 = .ok (.aload_n 0, 1) := by decide +kernel
theorem own_d1_10 : decode prog_28_method_1_code 10 = .ok (.dload_n 3, 1) := by decide +kernel
theorem own_d1_11 : decode prog_28_method_1_code 11 = .ok (.putfield 13, 3) := by decide +kernel
theorem own_d1_14 : decode prog_28_method_1_code 14 = .ok (.aload_n 0, 1) := by decide +kernel
theorem own_d1_15 : decode prog_28_method_1_code 15 = .ok (.dload 5, 2) := by decide +kernel
theorem own_d1_17 : decode prog_28_method_1_code 17 = .ok (.putfield 16, 3) := by decide +kernel
theorem own_d1_20 : decode prog_28_method_1_code 20 = .ok (.aload_n 0, 1) := by decide +kernel
theorem own_d1_21 : decode prog_28_method_1_code 21 = .ok (.dload 7, 2) := by decide +kernel
theorem own_d1_23 : decode prog_28_method_1_code 23 = .ok (.putfield 19, 3) := by decide +kernel
theorem own_d1_26 : decode prog_28_method_1_code 26 = .ok (.return_, 1) := by decide +kernel
theorem own_ef1 (m : MethodId) (x0 : Addr) (x1 : UInt64) (x2 : UInt64) (x3 : UInt64) (x4 : UInt64) : entryFrame m #[(.ref x0), (.double x1), (.double x2), (.double x3), (.double x4)] 9 = mkF m 0 #[.val (.ref x0), .val (.double x1), .second, .val (.double x2), .second, .val (.double x3), .second, .val (.double x4), .second] [] := by first | rfl | (simp [entryFrame, mkF, argsToLocals, Value.category]; done)
theorem own_pn2 : plainName "com/example/kerb2d/kerb2d/geometry/Bounds" = true := by first | (simp [plainName, overriddenIn]; done) | decide +kernel
def own_Q1 (Z : State) (a0 : Array Value) (a0_ : Addr) (d1 : UInt64) (d2 : UInt64) (d3 : UInt64) (d4 : UInt64) (h0 : Heap) (n0 : Nat) (v : Option Value) (h : Heap) (L : List Loc) : Prop := v = none ∧ Fr n0 L ∧ Keep h0 h [a0_] ∧ Exa Z h a0_ "com/example/kerb2d/kerb2d/geometry/Bounds" ∧ Fld Z h a0_ "com/example/kerb2d/kerb2d/geometry/Bounds" "minX" "D" (.double d1) ∧ Fld Z h a0_ "com/example/kerb2d/kerb2d/geometry/Bounds" "minY" "D" (.double d2) ∧ Fld Z h a0_ "com/example/kerb2d/kerb2d/geometry/Bounds" "maxX" "D" (.double d3) ∧ Fld Z h a0_ "com/example/kerb2d/kerb2d/geometry/Bounds" "maxY" "D" (.double d4)
set_option maxRecDepth 65536 in
set_option maxHeartbeats 40000000 in
theorem own_rm1 (l : Launch) (Z : State) (a0 : Array Value) (hw : ∀ d ∈ tables_1, d.before a0 Z = true) (ws : List Jvm.Cond) (a0_ : Addr) (d1 : UInt64) (d2 : UInt64) (d3 : UInt64) (d4 : UInt64) (h0 : Heap) (n0 : Nat) (Z0 : n0 ≤ h0.size) (E0 : Exa Z h0 a0_ "com/example/kerb2d/kerb2d/geometry/Bounds") (D0 : ∀ {O nm d : String} {ty : FieldType}, Laid Z a0 "com/example/kerb2d/kerb2d/geometry/Bounds" O nm d → parseFieldDescriptor d = some ty → Fld Z h0 a0_ O nm d (defaultValue ty)) (G0 : n0 ≤ a0_) :
    MetFree l (⟨"com/example/kerb2d/kerb2d/geometry/Bounds", "<init>", "(DDDD)V"⟩ : MethodName) (head1 (Jvm.Cond.code (⟨"com/example/kerb2d/kerb2d/geometry/Bounds", "<init>", "(DDDD)V"⟩ : MethodName) prog_28_method_1_code 9 none :: ws) ({ frames := 2, cells := 0, slots := 0, locals := 24 } : Room)) (fun a U => a = #[(.ref a0_), (.double d1), (.double d2), (.double d3), (.double d4)] ∧ Z.Warmed39 U.vm ∧ U.heap = h0) (fun _ _ _ _ _ => True) (fun _ U o U' => ∃ v L, o = .returned v ∧ own_Q1 Z a0 a0_ d1 d2 d3 d4 h0 n0 v U'.heap L ∧ FrameEnd U o U' L ({ frames := 2, cells := 0, slots := 0, locals := 24 } : Room).cells ({ frames := 2, cells := 0, slots := 0, locals := 24 } : Room).slots) := by
  refine own_body (Q := fun v h L => own_Q1 Z a0 a0_ d1 d2 d3 d4 h0 n0 v h L) (plainFor_of_name own_pn2) ?_
  intro p e s m below meth c s₁ hx hby hml hZ hown hnm hret hlk X0 e0
  replace hml : c.maxLocals = 9 := hml
  have N0 := Fr.nil n0
  have K0 : Keep h0 h0 [a0_] := Keep.refl _ _
  refine own_st (fun t k => castTop (own_ef1 m a0_ d1 d2 d3 d4) k) ?_
  show own_Run p e below s _ _ _ (s₁.setTop (mkF m 0 #[.val (.ref a0_), .val (.double d1), .second, .val (.double d2), .second, .val (.double d3), .second, .val (.double d4), .second] []))
  refine own_st (fun t k => XS.aloadN X0.here hx rfl (hb hby own_d1_0) rfl rfl k) ?_
  show own_Run p e below s _ _ _ (s₁.setTop (mkF m 1 #[.val (.ref a0_), .val (.double d1), .second, .val (.double d2), .second, .val (.double d3), .second, .val (.double d4), .second] [(.ref a0_)]))
  refine own_callI X0 hx hZ (y := (⟨"java/lang/Record", "<init>", "()V"⟩ : MethodName)) rfl hown (hw _ (List.mem_of_getElem? (i := 6) rfl)) (hw _ (List.mem_of_getElem? (i := 7) rfl)) (hw _ (List.mem_of_getElem? (i := 10) rfl)) (hw _ (List.mem_of_getElem? (i := 9) rfl)) (by decide) e0 (a := a0_) (argsL := []) (rest := []) (W := 0) (own_rm2 l Z a0 hw [] a0_ h0 n0 (Nat.le_trans Z0 K0.1) ) (by decide) (by decide) (by rw [hml]; rfl) (lenOf own_pd1 rfl) rfl (by exact Nat.le_of_eq rfl) (hb hby own_d1_1) (by decide) (by decide) ?_
  intro T2 v2 L2 X2 hq2
  obtain ⟨rfl, N2q, hh2⟩ := hq2
  have N2 := Fr.app N0 N2q
  show own_Run p e below s _ _ _ (T2.setTop (mkF m 4 #[.val (.ref a0_), .val (.double d1), .second, .val (.double d2), .second, .val (.double d3), .second, .val (.double d4), .second] []))
  refine own_st (fun t k => XS.aloadN X2.here hx rfl (hb hby own_d1_4) rfl rfl k) ?_
  show own_Run p e below s _ _ _ (T2.setTop (mkF m 5 #[.val (.ref a0_), .val (.double d1), .second, .val (.double d2), .second, .val (.double d3), .second, .val (.double d4), .second] [(.ref a0_)]))
  refine own_st (fun t k => XS.dloadN X2.here hx rfl (hb hby own_d1_5) rfl k) ?_
  show own_Run p e below s _ _ _ (T2.setTop (mkF m 6 #[.val (.ref a0_), .val (.double d1), .second, .val (.double d2), .second, .val (.double d3), .second, .val (.double d4), .second] [(.double d1), (.ref a0_)]))
  have F3 : Fld Z _ a0_ "com/example/kerb2d/kerb2d/geometry/Bounds" "minX" "D" (.double (0 : UInt64)) := D0 (Or.inr (hw _ (List.mem_of_getElem? (i := 15) rfl))) (ty := .double) (by decide)
  obtain ⟨T4, h4, X4, e4, W4, st4⟩ := putF X2 hx hZ hown (host := "") (Or.inl (hw _ (List.mem_of_getElem? (i := 14) rfl))) Via.refl hh2 F3 E0 (Or.inr ⟨(hw _ (List.mem_of_getElem? (i := 15) rfl)), rfl, hnm⟩) (hw _ (List.mem_of_getElem? (i := 1) rfl)) (ty := .double) (by decide) rfl rfl (g := (mkF m 6 #[.val (.ref a0_), .val (.double d1), .second, .val (.double d2), .second, .val (.double d3), .second, .val (.double d4), .second] [(.double d1), (.ref a0_)])) rfl rfl (hb hby own_d1_6)
  refine own_st st4 ?_
  have Fw4 := F3.same W4
  have N4 := Fr.snoc X4 N2 G0
  have K5 : Keep h0 h4 [a0_] := K0.wr W4 (Or.inl (List.mem_of_getElem? (i := 0) rfl))
  show own_Run p e below s _ _ _ (T4.setTop (mkF m 9 #[.val (.ref a0_), .val (.double d1), .second, .val (.double d2), .second, .val (.double d3), .second, .val (.double d4), .second] []))
  refine own_st (fun t k => XS.aloadN X4.here hx rfl (hb hby own_d1_9) rfl rfl k) ?_
  show own_Run p e below s _ _ _ (T4.setTop (mkF m 10 #[.val (.ref a0_), .val (.double d1), .second, .val (.double d2), .second, .val (.double d3), .second, .val (.double d4), .second] [(.ref a0_)]))
  refine own_st (fun t k => XS.dloadN X4.here hx rfl (hb hby own_d1_10) rfl k) ?_
  show own_Run p e below s _ _ _ (T4.setTop (mkF m 11 #[.val (.ref a0_), .val (.double d1), .second, .val (.double d2), .second, .val (.double d3), .second, .val (.double d4), .second] [(.double d2), (.ref a0_)]))
  have E7 := (E0.wr W4)
  have F8 : Fld Z _ a0_ "com/example/kerb2d/kerb2d/geometry/Bounds" "minY" "D" (.double (0 : UInt64)) := D0 (Or.inr (hw _ (List.mem_of_getElem? (i := 17) rfl))) (ty := .double) (by decide)
  have F9 := (F8.other W4 (Or.inr (slot_ne (Or.inr (hw _ (List.mem_of_getElem? (i := 17) rfl))) (Or.inr (hw _ (List.mem_of_getElem? (i := 15) rfl))) (by decide) (t := .double) (t' := .double) (by decide) (by decide))))
  obtain ⟨T10, h10, X10, e10, W10, st10⟩ := putF X4 hx hZ hown (host := "") (Or.inl (hw _ (List.mem_of_getElem? (i := 16) rfl))) Via.refl e4 F9 E7 (Or.inr ⟨(hw _ (List.mem_of_getElem? (i := 17) rfl)), rfl, hnm⟩) (hw _ (List.mem_of_getElem? (i := 1) rfl)) (ty := .double) (by decide) rfl rfl (g := (mkF m 11 #[.val (.ref a0_), .val (.double d1), .second, .val (.double d2), .second, .val (.double d3), .second, .val (.double d4), .second] [(.double d2), (.ref a0_)])) rfl rfl (hb hby own_d1_11)
  refine own_st st10 ?_
  have Fw10 := F9.same W10
  have N10 := Fr.snoc X10 N4 G0
  have K11 : Keep h0 h10 [a0_] := K5.wr W10 (Or.inl (List.mem_of_getElem? (i := 0) rfl))
  show own_Run p e below s _ _ _ (T10.setTop (mkF m 14 #[.val (.ref a0_), .val (.double d1), .second, .val (.double d2), .second, .val (.double d3), .second, .val (.double d4), .second] []))
  refine own_st (fun t k => XS.aloadN X10.here hx rfl (hb hby own_d1_14) rfl rfl k) ?_
  show own_Run p e below s _ _ _ (T10.setTop (mkF m 15 #[.val (.ref a0_), .val (.double d1), .second, .val (.double d2), .second, .val (.double d3), .second, .val (.double d4), .second] [(.ref a0_)]))
  refine own_st (fun t k => XS.dload X10.here hx rfl (hb hby own_d1_15) rfl k) ?_
  show own_Run p e below s _ _ _ (T10.setTop (mkF m 17 #[.val (.ref a0_), .val (.double d1), .second, .val (.double d2), .second, .val (.double d3), .second, .val (.double d4), .second] [(.double d3), (.ref a0_)]))
  have E13 := (E7.wr W10)
  have F14 : Fld Z _ a0_ "com/example/kerb2d/kerb2d/geometry/Bounds" "maxX" "D" (.double (0 : UInt64)) := D0 (Or.inr (hw _ (List.mem_of_getElem? (i := 19) rfl))) (ty := .double) (by decide)
  have F15 := ((F14.other W4 (Or.inr (slot_ne (Or.inr (hw _ (List.mem_of_getElem? (i := 19) rfl))) (Or.inr (hw _ (List.mem_of_getElem? (i := 15) rfl))) (by decide) (t := .double) (t' := .double) (by decide) (by decide)))).other W10 (Or.inr (slot_ne (Or.inr (hw _ (List.mem_of_getElem? (i := 19) rfl))) (Or.inr (hw _ (List.mem_of_getElem? (i := 17) rfl))) (by decide) (t := .double) (t' := .double) (by decide) (by decide))))
  obtain ⟨T16, h16, X16, e16, W16, st16⟩ := putF X10 hx hZ hown (host := "") (Or.inl (hw _ (List.mem_of_getElem? (i := 18) rfl))) Via.refl e10 F15 E13 (Or.inr ⟨(hw _ (List.mem_of_getElem? (i := 19) rfl)), rfl, hnm⟩) (hw _ (List.mem_of_getElem? (i := 1) rfl)) (ty := .double) (by decide) rfl rfl (g := (mkF m 17 #[.val (.ref a0_), .val (.double d1), .second, .val (.double d2), .second, .val (.double d3), .second, .val (.double d4), .second] [(.double d3), (.ref a0_)])) rfl rfl (hb hby own_d1_17)
  refine own_st st16 ?_
  have Fw16 := F15.same W16
  have N16 := Fr.snoc X16 N10 G0
  have K17 : Keep h0 h16 [a0_] := K11.wr W16 (Or.inl (List.mem_of_getElem? (i := 0) rfl))
  show own_Run p e below s _ _ _ (T16.setTop (mkF m 20 #[.val (.ref a0_), .val (.double d1), .second, .val (.double d2), .second, .val (.double d3), .second, .val (.double d4), .second] []))
  refine own_st (fun t k => XS.aloadN X16.here hx rfl (hb hby own_d1_20) rfl rfl k) ?_
  show own_Run p e below s _ _ _ (T16.setTop (mkF m 21 #[.val (.ref a0_), .val (.double d1), .second, .val (.double d2), .second, .val (.double d3), .second, .val (.double d4), .second] [(.ref a0_)]))
  refine own_st (fun t k => XS.dload X16.here hx rfl (hb hby own_d1_21) rfl k) ?_
  show own_Run p e below s _ _ _ (T16.setTop (mkF m 23 #[.val (.ref a0_), .val (.double d1), .second, .val (.double d2), .second, .val (.double d3), .second, .val (.double d4), .second] [(.double d4), (.ref a0_)]))
  have E19 := (E13.wr W16)
  have F20 : Fld Z _ a0_ "com/example/kerb2d/kerb2d/geometry/Bounds" "maxY" "D" (.double (0 : UInt64)) := D0 (Or.inr (hw _ (List.mem_of_getElem? (i := 21) rfl))) (ty := .double) (by decide)
  have F21 := (((F20.other W4 (Or.inr (slot_ne (Or.inr (hw _ (List.mem_of_getElem? (i := 21) rfl))) (Or.inr (hw _ (List.mem_of_getElem? (i := 15) rfl))) (by decide) (t := .double) (t' := .double) (by decide) (by decide)))).other W10 (Or.inr (slot_ne (Or.inr (hw _ (List.mem_of_getElem? (i := 21) rfl))) (Or.inr (hw _ (List.mem_of_getElem? (i := 17) rfl))) (by decide) (t := .double) (t' := .double) (by decide) (by decide)))).other W16 (Or.inr (slot_ne (Or.inr (hw _ (List.mem_of_getElem? (i := 21) rfl))) (Or.inr (hw _ (List.mem_of_getElem? (i := 19) rfl))) (by decide) (t := .double) (t' := .double) (by decide) (by decide))))
  obtain ⟨T22, h22, X22, e22, W22, st22⟩ := putF X16 hx hZ hown (host := "") (Or.inl (hw _ (List.mem_of_getElem? (i := 20) rfl))) Via.refl e16 F21 E19 (Or.inr ⟨(hw _ (List.mem_of_getElem? (i := 21) rfl)), rfl, hnm⟩) (hw _ (List.mem_of_getElem? (i := 1) rfl)) (ty := .double) (by decide) rfl rfl (g := (mkF m 23 #[.val (.ref a0_), .val (.double d1), .second, .val (.double d2), .second, .val (.double d3), .second, .val (.double d4), .second] [(.double d4), (.ref a0_)])) rfl rfl (hb hby own_d1_23)
  refine own_st st22 ?_
  have Fw22 := F21.same W22
  have N22 := Fr.snoc X22 N16 G0
  have K23 : Keep h0 h22 [a0_] := K17.wr W22 (Or.inl (List.mem_of_getElem? (i := 0) rfl))
  show own_Run p e below s _ _ _ (T22.setTop (mkF m 26 #[.val (.ref a0_), .val (.double d1), .second, .val (.double d2), .second, .val (.double d3), .second, .val (.double d4), .second] []))
  have hQe := e22
  subst hQe
  have E25 := (E19.wr W22)
  have F26 := (((Fw4.other W10 (Or.inr (slot_ne (Or.inr (hw _ (List.mem_of_getElem? (i := 15) rfl))) (Or.inr (hw _ (List.mem_of_getElem? (i := 17) rfl))) (by decide) (t := .double) (t' := .double) (by decide) (by decide)))).other W16 (Or.inr (slot_ne (Or.inr (hw _ (List.mem_of_getElem? (i := 15) rfl))) (Or.inr (hw _ (List.mem_of_getElem? (i := 19) rfl))) (by decide) (t := .double) (t' := .double) (by decide) (by decide)))).other W22 (Or.inr (slot_ne (Or.inr (hw _ (List.mem_of_getElem? (i := 15) rfl))) (Or.inr (hw _ (List.mem_of_getElem? (i := 21) rfl))) (by decide) (t := .double) (t' := .double) (by decide) (by decide))))
  have F27 := ((Fw10.other W16 (Or.inr (slot_ne (Or.inr (hw _ (List.mem_of_getElem? (i := 17) rfl))) (Or.inr (hw _ (List.mem_of_getElem? (i := 19) rfl))) (by decide) (t := .double) (t' := .double) (by decide) (by decide)))).other W22 (Or.inr (slot_ne (Or.inr (hw _ (List.mem_of_getElem? (i := 17) rfl))) (Or.inr (hw _ (List.mem_of_getElem? (i := 21) rfl))) (by decide) (t := .double) (t' := .double) (by decide) (by decide))))
  have F28 := (Fw16.other W22 (Or.inr (slot_ne (Or.inr (hw _ (List.mem_of_getElem? (i := 19) rfl))) (Or.inr (hw _ (List.mem_of_getElem? (i := 21) rfl))) (by decide) (t := .double) (t' := .double) (by decide) (by decide))))
  exact own_retV X22 hx hlk hret (hb hby own_d1_26) (by decide) (by decide) ⟨rfl, N22, K23, E25, F26, F27, F28, Fw22⟩
theorem own_d4_0 : decode prog_28_method_3_code 0 = .ok (.dload_n 1, 1) := by decide +kernel
theorem own_d4_1 : decode prog_28_method_3_code 1 = .ok (.aload_n 0, 1) := by decide +kernel
theorem own_d4_2 : decode prog_28_method_3_code 2 = .ok (.getfield 7, 3) := by decide +kernel
theorem own_d4_5 : decode prog_28_method_3_code 5 = .ok (.dcmp .l, 1) := by decide +kernel
theorem own_d4_6 : decode prog_28_method_3_code 6 = .ok (.ifCond .lt 34, 3) := by decide +kernel
theorem own_d4_40 : decode prog_28_method_3_code 40 = .ok (.iconst 0, 1) := by decide +kernel
theorem own_d4_41 : decode prog_28_method_3_code 41 = .ok (.ireturn, 1) := by decide +kernel
theorem own_d4_9 : decode prog_28_method_3_code 9 = .ok (.dload_n 1, 1) := by decide +kernel
theorem own_d4_10 : decode prog_28_method_3_code 10 = .ok (.aload_n 0, 1) := by decide +kernel
theorem own_d4_11 : decode prog_28_method_3_code 11 = .ok (.getfield 16, 3) := by decide +kernel
theorem own_d4_14 : decode prog_28_method_3_code 14 = .ok (.dcmp .g, 1) := by decide +kernel
theorem own_d4_15 : decode prog_28_method_3_code 15 = .ok (.ifCond .gt 25, 3) := by decide +kernel
theorem own_d4_18 : decode prog_28_method_3_code 18 = .ok (.dload_n 3, 1) := by decide +kernel
theorem own_d4_19 : decode prog_28_method_3_code 19 = .ok (.aload_n 0, 1) := by decide +kernel
theorem own_d4_20 : decode prog_28_method_3_code 20 = .ok (.getfield 13, 3) := by decide +kernel
theorem own_d4_23 : decode prog_28_method_3_code 23 = .ok (.dcmp .l, 1) := by decide +kernel
theorem own_d4_24 : decode prog_28_method_3_code 24 = .ok (.ifCond .lt 16, 3) := by decide +kernel
theorem own_d4_27 : decode prog_28_method_3_code 27 = .ok (.dload_n 3, 1) := by decide +kernel
theorem own_d4_28 : decode prog_28_method_3_code 28 = .ok (.aload_n 0, 1) := by decide +kernel
theorem own_d4_29 : decode prog_28_method_3_code 29 = .ok (.getfield 19, 3) := by decide +kernel
theorem own_d4_32 : decode prog_28_method_3_code 32 = .ok (.dcmp .g, 1) := by decide +kernel
theorem own_d4_33 : decode prog_28_method_3_code 33 = .ok (.ifCond .gt 7, 3) := by decide +kernel
theorem own_d4_36 : decode prog_28_method_3_code 36 = .ok (.iconst 1, 1) := by decide +kernel
theorem own_d4_37 : decode prog_28_method_3_code 37 = .ok (.goto 4, 3) := by decide +kernel
theorem own_ef4 (m : MethodId) (x0 : Addr) (x1 : UInt64) (x2 : UInt64) : entryFrame m #[(.ref x0), (.double x1), (.double x2)] 5 = mkF m 0 #[.val (.ref x0), .val (.double x1), .second, .val (.double x2), .second] [] := by first | rfl | (simp [entryFrame, mkF, argsToLocals, Value.category]; done)
def own_Q4 (Z : State) (a0 : Array Value) (o0 : Addr) (i1 : Int32) (i2 : Int32) (x0 : Int32) (y0 : Int32) (x1 : Int32) (y1 : Int32) (h0 : Heap) (n0 : Nat) (v : Option Value) (h : Heap) (L : List Loc) : Prop := v = some (.int (if (¬ (i1 < x0) ∧ ¬ (x1 < i1) ∧ ¬ (i2 < y0) ∧ ¬ (y1 < i2)) then 1 else 0 : Int32)) ∧ Fr n0 L ∧ h = h0
set_option maxRecDepth 65536 in
set_option maxHeartbeats 40000000 in
theorem own_rm4 (l : Launch) (Z : State) (a0 : Array Value) (hw : ∀ d ∈ tables_1, d.before a0 Z = true) (ws : List Jvm.Cond) (o0 : Addr) (i1 : Int32) (i2 : Int32) (x0 : Int32) (y0 : Int32) (x1 : Int32) (y1 : Int32) (h0 : Heap) (n0 : Nat) (Z0 : n0 ≤ h0.size) (F_minX : Fld Z h0 o0 "com/example/kerb2d/kerb2d/geometry/Bounds" "minX" "D" (.double (FP.i2d x0))) (F_minY : Fld Z h0 o0 "com/example/kerb2d/kerb2d/geometry/Bounds" "minY" "D" (.double (FP.i2d y0))) (F_maxX : Fld Z h0 o0 "com/example/kerb2d/kerb2d/geometry/Bounds" "maxX" "D" (.double (FP.i2d x1))) (F_maxY : Fld Z h0 o0 "com/example/kerb2d/kerb2d/geometry/Bounds" "maxY" "D" (.double (FP.i2d y1))) :
    MetFree l (⟨"com/example/kerb2d/kerb2d/geometry/Bounds", "covers", "(DD)Z"⟩ : MethodName) (head1 (Jvm.Cond.code (⟨"com/example/kerb2d/kerb2d/geometry/Bounds", "covers", "(DD)Z"⟩ : MethodName) prog_28_method_3_code 5 (some .boolean) :: ws) ({ frames := 0, cells := 0, slots := 0, locals := 0 } : Room)) (fun a U => a = #[(.ref o0), (.double (FP.i2d i1)), (.double (FP.i2d i2))] ∧ Z.Warmed39 U.vm ∧ U.heap = h0) (fun _ _ _ _ _ => True) (fun _ U o U' => ∃ v L, o = .returned v ∧ own_Q4 Z a0 o0 i1 i2 x0 y0 x1 y1 h0 n0 v U'.heap L ∧ FrameEnd U o U' L ({ frames := 0, cells := 0, slots := 0, locals := 0 } : Room).cells ({ frames := 0, cells := 0, slots := 0, locals := 0 } : Room).slots) := by
  refine own_body (Q := fun v h L => own_Q4 Z a0 o0 i1 i2 x0 y0 x1 y1 h0 n0 v h L) (plainFor_of_name own_pn2) ?_
  intro p e s m below meth c s₁ hx hby hml hZ hown hnm hret hlk X0 e0
  replace hml : c.maxLocals = 5 := hml
  have N0 := Fr.nil n0
  have K0 : Keep h0 h0 [] := Keep.refl _ _
  refine own_st (fun t k => castTop (own_ef4 m o0 (FP.i2d i1) (FP.i2d i2)) k) ?_
  show own_Run p e below s _ _ _ (s₁.setTop (mkF m 0 #[.val (.ref o0), .val (.double (FP.i2d i1)), .second, .val (.double (FP.i2d i2)), .second] []))
  refine own_st (fun t k => XS.dloadN X0.here hx rfl (hb hby own_d4_0) rfl k) ?_
  show own_Run p e below s _ _ _ (s₁.setTop (mkF m 1 #[.val (.ref o0), .val (.double (FP.i2d i1)), .second, .val (.double (FP.i2d i2)), .second] [(.double (FP.i2d i1))]))
  refine own_st (fun t k => XS.aloadN X0.here hx rfl (hb hby own_d4_1) rfl rfl k) ?_
  show own_Run p e below s _ _ _ (s₁.setTop (mkF m 2 #[.val (.ref o0), .val (.double (FP.i2d i1)), .second, .val (.double (FP.i2d i2)), .second] [(.ref o0), (.double (FP.i2d i1))]))
  obtain ⟨T29, X29, e29, st29⟩ := getF X0 hx hZ hown (host := "") (Or.inl (hw _ (List.mem_of_getElem? (i := 14) rfl))) Via.refl e0 F_minX (g := (mkF m 2 #[.val (.ref o0), .val (.double (FP.i2d i1)), .second, .val (.double (FP.i2d i2)), .second] [(.ref o0), (.double (FP.i2d i1))])) rfl rfl (hb hby own_d4_2)
  refine own_st st29 ?_
  show own_Run p e below s _ _ _ (T29.setTop (mkF m 5 #[.val (.ref o0), .val (.double (FP.i2d i1)), .second, .val (.double (FP.i2d i2)), .second] [(.double (FP.i2d x0)), (.double (FP.i2d i1))]))
  refine own_st (fun t k => XS.dcmpS X29.here hx rfl (hb hby own_d4_5) rfl (v := (cmpValue (FP.dcmp (FP.i2d i1) (FP.i2d x0)) .l)) (rfl) k) ?_
  show own_Run p e below s _ _ _ (T29.setTop (mkF m 6 #[.val (.ref o0), .val (.double (FP.i2d i1)), .second, .val (.double (FP.i2d i2)), .second] [(.int (cmpValue (FP.dcmp (FP.i2d i1) (FP.i2d x0)) .l))]))
  by_cases hA : i1 < x0
  · skip
    refine own_st (fun t k => XS.ifYes X29.here hx rfl (pc0 := 6) (pc' := 40) rfl (hb hby own_d4_6) rfl ((if0 _ _).trans (tlt ((own_dcmp_lt i1 x0 _).mpr hA : (cmpValue (FP.dcmp (FP.i2d i1) (FP.i2d x0)) .l) < (0 : Int32))).1) (by decide) (by decide) k) ?_
    show own_Run p e below s _ _ _ (T29.setTop (mkF m 40 #[.val (.ref o0), .val (.double (FP.i2d i1)), .second, .val (.double (FP.i2d i2)), .second] []))
    refine own_st (fun t k => XS.iconst X29.here hx rfl (hb hby own_d4_40) k) ?_
    show own_Run p e below s _ _ _ (T29.setTop (mkF m 41 #[.val (.ref o0), .val (.double (FP.i2d i1)), .second, .val (.double (FP.i2d i2)), .second] [(.int (0 : Int32))]))
    exact own_ret X29 hx hlk (t := .boolean) hret rfl (Or.inl ⟨rfl, by simp, _, rfl⟩) (hb hby own_d4_41) (by decide) (by decide) ⟨by first | simp [hA, hB, hC, hD] | simp [hA, hB, hC] | simp [hA, hB] | simp [hA], N0, e29⟩
  · skip
    refine own_st (fun t k => XS.ifNo X29.here hx rfl (hb hby own_d4_6) rfl ((if0 _ _).trans (flt (fun q => hA ((own_dcmp_lt _ _ _).mp q) : ¬ ((cmpValue (FP.dcmp (FP.i2d i1) (FP.i2d x0)) .l) < (0 : Int32)))).1) k) ?_
    show own_Run p e below s _ _ _ (T29.setTop (mkF m 9 #[.val (.ref o0), .val (.double (FP.i2d i1)), .second, .val (.double (FP.i2d i2)), .second] []))
    refine own_st (fun t k => XS.dloadN X29.here hx rfl (hb hby own_d4_9) rfl k) ?_
    show own_Run p e below s _ _ _ (T29.setTop (mkF m 10 #[.val (.ref o0), .val (.double (FP.i2d i1)), .second, .val (.double (FP.i2d i2)), .second] [(.double (FP.i2d i1))]))
    refine own_st (fun t k => XS.aloadN X29.here hx rfl (hb hby own_d4_10) rfl rfl k) ?_
    show own_Run p e below s _ _ _ (T29.setTop (mkF m 11 #[.val (.ref o0), .val (.double (FP.i2d i1)), .second, .val (.double (FP.i2d i2)), .second] [(.ref o0), (.double (FP.i2d i1))]))
    obtain ⟨T30, X30, e30, st30⟩ := getF X29 hx hZ hown (host := "") (Or.inl (hw _ (List.mem_of_getElem? (i := 18) rfl))) Via.refl e29 F_maxX (g := (mkF m 11 #[.val (.ref o0), .val (.double (FP.i2d i1)), .second, .val (.double (FP.i2d i2)), .second] [(.ref o0), (.double (FP.i2d i1))])) rfl rfl (hb hby own_d4_11)
    refine own_st st30 ?_
    show own_Run p e below s _ _ _ (T30.setTop (mkF m 14 #[.val (.ref o0), .val (.double (FP.i2d i1)), .second, .val (.double (FP.i2d i2)), .second] [(.double (FP.i2d x1)), (.double (FP.i2d i1))]))
    refine own_st (fun t k => XS.dcmpS X30.here hx rfl (hb hby own_d4_14) rfl (v := (cmpValue (FP.dcmp (FP.i2d i1) (FP.i2d x1)) .g)) (rfl) k) ?_
    show own_Run p e below s _ _ _ (T30.setTop (mkF m 15 #[.val (.ref o0), .val (.double (FP.i2d i1)), .second, .val (.double (FP.i2d i2)), .second] [(.int (cmpValue (FP.dcmp (FP.i2d i1) (FP.i2d x1)) .g))]))
    by_cases hB : x1 < i1
    · skip
      refine own_st (fun t k => XS.ifYes X30.here hx rfl (pc0 := 15) (pc' := 40) rfl (hb hby own_d4_15) rfl ((if0 _ _).trans (tlt ((own_dcmp_gt i1 x1 _).mpr hB : (0 : Int32) < (cmpValue (FP.dcmp (FP.i2d i1) (FP.i2d x1)) .g))).2.2.1) (by decide) (by decide) k) ?_
      show own_Run p e below s _ _ _ (T30.setTop (mkF m 40 #[.val (.ref o0), .val (.double (FP.i2d i1)), .second, .val (.double (FP.i2d i2)), .second] []))
      refine own_st (fun t k => XS.iconst X30.here hx rfl (hb hby own_d4_40) k) ?_
      show own_Run p e below s _ _ _ (T30.setTop (mkF m 41 #[.val (.ref o0), .val (.double (FP.i2d i1)), .second, .val (.double (FP.i2d i2)), .second] [(.int (0 : Int32))]))
      exact own_ret X30 hx hlk (t := .boolean) hret rfl (Or.inl ⟨rfl, by simp, _, rfl⟩) (hb hby own_d4_41) (by decide) (by decide) ⟨by first | simp [hA, hB, hC, hD] | simp [hA, hB, hC] | simp [hA, hB] | simp [hA], N0, e30⟩
    · skip
      refine own_st (fun t k => XS.ifNo X30.here hx rfl (hb hby own_d4_15) rfl ((if0 _ _).trans (flt (fun q => hB ((own_dcmp_gt _ _ _).mp q) : ¬ ((0 : Int32) < (cmpValue (FP.dcmp (FP.i2d i1) (FP.i2d x1)) .g)))).2.2.1) k) ?_
      show own_Run p e below s _ _ _ (T30.setTop (mkF m 18 #[.val (.ref o0), .val (.double (FP.i2d i1)), .second, .val (.double (FP.i2d i2)), .second] []))
      refine own_st (fun t k => XS.dloadN X30.here hx rfl (hb hby own_d4_18) rfl k) ?_
      show own_Run p e below s _ _ _ (T30.setTop (mkF m 19 #[.val (.ref o0), .val (.double (FP.i2d i1)), .second, .val (.double (FP.i2d i2)), .second] [(.double (FP.i2d i2))]))
      refine own_st (fun t k => XS.aloadN X30.here hx rfl (hb hby own_d4_19) rfl rfl k) ?_
      show own_Run p e below s _ _ _ (T30.setTop (mkF m 20 #[.val (.ref o0), .val (.double (FP.i2d i1)), .second, .val (.double (FP.i2d i2)), .second] [(.ref o0), (.double (FP.i2d i2))]))
      obtain ⟨T31, X31, e31, st31⟩ := getF X30 hx hZ hown (host := "") (Or.inl (hw _ (List.mem_of_getElem? (i := 16) rfl))) Via.refl e30 F_minY (g := (mkF m 20 #[.val (.ref o0), .val (.double (FP.i2d i1)), .second, .val (.double (FP.i2d i2)), .second] [(.ref o0), (.double (FP.i2d i2))])) rfl rfl (hb hby own_d4_20)
      refine own_st st31 ?_
      show own_Run p e below s _ _ _ (T31.setTop (mkF m 23 #[.val (.ref o0), .val (.double (FP.i2d i1)), .second, .val (.double (FP.i2d i2)), .second] [(.double (FP.i2d y0)), (.double (FP.i2d i2))]))
      refine own_st (fun t k => XS.dcmpS X31.here hx rfl (hb hby own_d4_23) rfl (v := (cmpValue (FP.dcmp (FP.i2d i2) (FP.i2d y0)) .l)) (rfl) k) ?_
      show own_Run p e below s _ _ _ (T31.setTop (mkF m 24 #[.val (.ref o0), .val (.double (FP.i2d i1)), .second, .val (.double (FP.i2d i2)), .second] [(.int (cmpValue (FP.dcmp (FP.i2d i2) (FP.i2d y0)) .l))]))
      by_cases hC : i2 < y0
      · skip
        refine own_st (fun t k => XS.ifYes X31.here hx rfl (pc0 := 24) (pc' := 40) rfl (hb hby own_d4_24) rfl ((if0 _ _).trans (tlt ((own_dcmp_lt i2 y0 _).mpr hC : (cmpValue (FP.dcmp (FP.i2d i2) (FP.i2d y0)) .l) < (0 : Int32))).1) (by decide) (by decide) k) ?_
        show own_Run p e below s _ _ _ (T31.setTop (mkF m 40 #[.val (.ref o0), .val (.double (FP.i2d i1)), .second, .val (.double (FP.i2d i2)), .second] []))
        refine own_st (fun t k => XS.iconst X31.here hx rfl (hb hby own_d4_40) k) ?_
        show own_Run p e below s _ _ _ (T31.setTop (mkF m 41 #[.val (.ref o0), .val (.double (FP.i2d i1)), .second, .val (.double (FP.i2d i2)), .second] [(.int (0 : Int32))]))
        exact own_ret X31 hx hlk (t := .boolean) hret rfl (Or.inl ⟨rfl, by simp, _, rfl⟩) (hb hby own_d4_41) (by decide) (by decide) ⟨by first | simp [hA, hB, hC, hD] | simp [hA, hB, hC] | simp [hA, hB] | simp [hA], N0, e31⟩
      · skip
        refine own_st (fun t k => XS.ifNo X31.here hx rfl (hb hby own_d4_24) rfl ((if0 _ _).trans (flt (fun q => hC ((own_dcmp_lt _ _ _).mp q) : ¬ ((cmpValue (FP.dcmp (FP.i2d i2) (FP.i2d y0)) .l) < (0 : Int32)))).1) k) ?_
        show own_Run p e below s _ _ _ (T31.setTop (mkF m 27 #[.val (.ref o0), .val (.double (FP.i2d i1)), .second, .val (.double (FP.i2d i2)), .second] []))
        refine own_st (fun t k => XS.dloadN X31.here hx rfl (hb hby own_d4_27) rfl k) ?_
        show own_Run p e below s _ _ _ (T31.setTop (mkF m 28 #[.val (.ref o0), .val (.double (FP.i2d i1)), .second, .val (.double (FP.i2d i2)), .second] [(.double (FP.i2d i2))]))
        refine own_st (fun t k => XS.aloadN X31.here hx rfl (hb hby own_d4_28) rfl rfl k) ?_
        show own_Run p e below s _ _ _ (T31.setTop (mkF m 29 #[.val (.ref o0), .val (.double (FP.i2d i1)), .second, .val (.double (FP.i2d i2)), .second] [(.ref o0), (.double (FP.i2d i2))]))
        obtain ⟨T32, X32, e32, st32⟩ := getF X31 hx hZ hown (host := "") (Or.inl (hw _ (List.mem_of_getElem? (i := 20) rfl))) Via.refl e31 F_maxY (g := (mkF m 29 #[.val (.ref o0), .val (.double (FP.i2d i1)), .second, .val (.double (FP.i2d i2)), .second] [(.ref o0), (.double (FP.i2d i2))])) rfl rfl (hb hby own_d4_29)
        refine own_st st32 ?_
        show own_Run p e below s _ _ _ (T32.setTop (mkF m 32 #[.val (.ref o0), .val (.double (FP.i2d i1)), .second, .val (.double (FP.i2d i2)), .second] [(.double (FP.i2d y1)), (.double (FP.i2d i2))]))
        refine own_st (fun t k => XS.dcmpS X32.here hx rfl (hb hby own_d4_32) rfl (v := (cmpValue (FP.dcmp (FP.i2d i2) (FP.i2d y1)) .g)) (rfl) k) ?_
        show own_Run p e below s _ _ _ (T32.setTop (mkF m 33 #[.val (.ref o0), .val (.double (FP.i2d i1)), .second, .val (.double (FP.i2d i2)), .second] [(.int (cmpValue (FP.dcmp (FP.i2d i2) (FP.i2d y1)) .g))]))
        by_cases hD : y1 < i2
        · skip
          refine own_st (fun t k => XS.ifYes X32.here hx rfl (pc0 := 33) (pc' := 40) rfl (hb hby own_d4_33) rfl ((if0 _ _).trans (tlt ((own_dcmp_gt i2 y1 _).mpr hD : (0 : Int32) < (cmpValue (FP.dcmp (FP.i2d i2) (FP.i2d y1)) .g))).2.2.1) (by decide) (by decide) k) ?_
          show own_Run p e below s _ _ _ (T32.setTop (mkF m 40 #[.val (.ref o0), .val (.double (FP.i2d i1)), .second, .val (.double (FP.i2d i2)), .second] []))
          refine own_st (fun t k => XS.iconst X32.here hx rfl (hb hby own_d4_40) k) ?_
          show own_Run p e below s _ _ _ (T32.setTop (mkF m 41 #[.val (.ref o0), .val (.double (FP.i2d i1)), .second, .val (.double (FP.i2d i2)), .second] [(.int (0 : Int32))]))
          exact own_ret X32 hx hlk (t := .boolean) hret rfl (Or.inl ⟨rfl, by simp, _, rfl⟩) (hb hby own_d4_41) (by decide) (by decide) ⟨by first | simp [hA, hB, hC, hD] | simp [hA, hB, hC] | simp [hA, hB] | simp [hA], N0, e32⟩
        · skip
          refine own_st (fun t k => XS.ifNo X32.here hx rfl (hb hby own_d4_33) rfl ((if0 _ _).trans (flt (fun q => hD ((own_dcmp_gt _ _ _).mp q) : ¬ ((0 : Int32) < (cmpValue (FP.dcmp (FP.i2d i2) (FP.i2d y1)) .g)))).2.2.1) k) ?_
          show own_Run p e below s _ _ _ (T32.setTop (mkF m 36 #[.val (.ref o0), .val (.double (FP.i2d i1)), .second, .val (.double (FP.i2d i2)), .second] []))
          refine own_st (fun t k => XS.iconst X32.here hx rfl (hb hby own_d4_36) k) ?_
          show own_Run p e below s _ _ _ (T32.setTop (mkF m 37 #[.val (.ref o0), .val (.double (FP.i2d i1)), .second, .val (.double (FP.i2d i2)), .second] [(.int (1 : Int32))]))
          refine own_st (fun t k => XS.goto X32.here hx rfl (pc0 := 37) (pc' := 41) rfl (hb hby own_d4_37) (by decide) (by decide) k) ?_
          show own_Run p e below s _ _ _ (T32.setTop (mkF m 41 #[.val (.ref o0), .val (.double (FP.i2d i1)), .second, .val (.double (FP.i2d i2)), .second] [(.int (1 : Int32))]))
          exact own_ret X32 hx hlk (t := .boolean) hret rfl (Or.inl ⟨rfl, by simp, _, rfl⟩) (hb hby own_d4_41) (by decide) (by decide) ⟨by first | simp [hA, hB, hC, hD] | simp [hA, hB, hC] | simp [hA, hB] | simp [hA], N0, e32⟩
theorem own_d5_0 : decode method_2_code 0 = .ok (.iload_n 1, 1) := by decide +kernel
theorem own_d5_1 : decode method_2_code 1 = .ok (.i2l, 1) := by decide +kernel
theorem own_d5_2 : decode method_2_code 2 = .ok (.iload_n 0, 1) := by decide +kernel
theorem own_d5_3 : decode method_2_code 3 = .ok (.i2l, 1) := by decide +kernel
theorem own_d5_4 : decode method_2_code 4 = .ok (.lsub, 1) := by decide +kernel
theorem own_d5_5 : decode method_2_code 5 = .ok (.lstore_n 3, 1) := by decide +kernel
theorem own_d5_6 : decode method_2_code 6 = .ok (.iload_n 2, 1) := by decide +kernel
theorem own_d5_7 : decode method_2_code 7 = .ok (.i2l, 1) := by decide +kernel
theorem own_d5_8 : decode method_2_code 8 = .ok (.iload_n 1, 1) := by decide +kernel
theorem own_d5_9 : decode method_2_code 9 = .ok (.i2l, 1) := by decide +kernel
theorem own_d5_10 : decode method_2_code 10 = .ok (.lsub, 1) := by decide +kernel
theorem own_d5_11 : decode method_2_code 11 = .ok (.lstore 5, 2) := by decide +kernel
theorem own_d5_13 : decode method_2_code 13 = .ok (.lload_n 3, 1) := by decide +kernel
theorem own_d5_14 : decode method_2_code 14 = .ok (.lconst 0, 1) := by decide +kernel
theorem own_d5_15 : decode method_2_code 15 = .ok (.lcmp, 1) := by decide +kernel
theorem own_d5_16 : decode method_2_code 16 = .ok (.ifCond .lt 14, 3) := by decide +kernel
theorem own_d5_30 : decode method_2_code 30 = .ok (.iconst 0, 1) := by decide +kernel
theorem own_d5_31 : decode method_2_code 31 = .ok (.ireturn, 1) := by decide +kernel
theorem own_d5_19 : decode method_2_code 19 = .ok (.lload 5, 2) := by decide +kernel
theorem own_d5_21 : decode method_2_code 21 = .ok (.lconst 0, 1) := by decide +kernel
theorem own_d5_22 : decode method_2_code 22 = .ok (.lcmp, 1) := by decide +kernel
theorem own_d5_23 : decode method_2_code 23 = .ok (.ifCond .lt 7, 3) := by decide +kernel
theorem own_d5_26 : decode method_2_code 26 = .ok (.iconst 1, 1) := by decide +kernel
theorem own_d5_27 : decode method_2_code 27 = .ok (.goto 4, 3) := by decide +kernel
theorem own_ef5 (m : MethodId) (x0 : Int32) (x1 : Int32) (x2 : Int32) : entryFrame m #[(.int x0), (.int x1), (.int x2)] 7 = mkF m 0 #[.val (.int x0), .val (.int x1), .val (.int x2), .unset, .unset, .unset, .unset] [] := by first | rfl | (simp [entryFrame, mkF, argsToLocals, Value.category]; done)
theorem own_pn3 : plainName "com/example/kerb2d/kerb2d/geometry/BoundsCoversPinLaw" = true := by first | (simp [plainName, overriddenIn]; done) | decide +kernel
def own_Q5 (Z : State) (a0 : Array Value) (i0 : Int32) (i1 : Int32) (i2 : Int32) (h0 : Heap) (n0 : Nat) (v : Option Value) (h : Heap) (L : List Loc) : Prop := v = some (.int (if (¬ (i1 < i0) ∧ ¬ (i2 < i1)) then 1 else 0 : Int32)) ∧ Fr n0 L ∧ h = h0
set_option maxRecDepth 65536 in
set_option maxHeartbeats 40000000 in
theorem own_rm5 (l : Launch) (Z : State) (a0 : Array Value) (hw : ∀ d ∈ tables_1, d.before a0 Z = true) (ws : List Jvm.Cond) (i0 : Int32) (i1 : Int32) (i2 : Int32) (h0 : Heap) (n0 : Nat) (Z0 : n0 ≤ h0.size) :
    MetFree l (⟨"com/example/kerb2d/kerb2d/geometry/BoundsCoversPinLaw", "between", "(III)Z"⟩ : MethodName) (head1 (Jvm.Cond.code (⟨"com/example/kerb2d/kerb2d/geometry/BoundsCoversPinLaw", "between", "(III)Z"⟩ : MethodName) method_2_code 7 (some .boolean) :: ws) ({ frames := 0, cells := 0, slots := 0, locals := 0 } : Room)) (fun a U => a = #[(.int i0), (.int i1), (.int i2)] ∧ Z.Warmed39 U.vm ∧ U.heap = h0) (fun _ _ _ _ _ => True) (fun _ U o U' => ∃ v L, o = .returned v ∧ own_Q5 Z a0 i0 i1 i2 h0 n0 v U'.heap L ∧ FrameEnd U o U' L ({ frames := 0, cells := 0, slots := 0, locals := 0 } : Room).cells ({ frames := 0, cells := 0, slots := 0, locals := 0 } : Room).slots) := by
  refine own_body (Q := fun v h L => own_Q5 Z a0 i0 i1 i2 h0 n0 v h L) (plainFor_of_name own_pn3) ?_
  intro p e s m below meth c s₁ hx hby hml hZ hown hnm hret hlk X0 e0
  replace hml : c.maxLocals = 7 := hml
  have N0 := Fr.nil n0
  have K0 : Keep h0 h0 [] := Keep.refl _ _
  refine own_st (fun t k => castTop (own_ef5 m i0 i1 i2) k) ?_
  show own_Run p e below s _ _ _ (s₁.setTop (mkF m 0 #[.val (.int i0), .val (.int i1), .val (.int i2), .unset, .unset, .unset, .unset] []))
  refine own_st (fun t k => XS.iloadN X0.here hx rfl (hb hby own_d5_0) rfl k) ?_
  show own_Run p e below s _ _ _ (s₁.setTop (mkF m 1 #[.val (.int i0), .val (.int i1), .val (.int i2), .unset, .unset, .unset, .unset] [(.int i1)]))
  refine own_st (fun t k => XS.i2l X0.here hx rfl (hb hby own_d5_1) rfl k) ?_
  show own_Run p e below s _ _ _ (s₁.setTop (mkF m 2 #[.val (.int i0), .val (.int i1), .val (.int i2), .unset, .unset, .unset, .unset] [(.long (i1.toInt64))]))
  refine own_st (fun t k => XS.iloadN X0.here hx rfl (hb hby own_d5_2) rfl k) ?_
  show own_Run p e below s _ _ _ (s₁.setTop (mkF m 3 #[.val (.int i0), .val (.int i1), .val (.int i2), .unset, .unset, .unset, .unset] [(.int i0), (.long (i1.toInt64))]))
  refine own_st (fun t k => XS.i2l X0.here hx rfl (hb hby own_d5_3) rfl k) ?_
  show own_Run p e below s _ _ _ (s₁.setTop (mkF m 4 #[.val (.int i0), .val (.int i1), .val (.int i2), .unset, .unset, .unset, .unset] [(.long (i0.toInt64)), (.long (i1.toInt64))]))
  refine own_st (fun t k => XS.lsub X0.here hx rfl (hb hby own_d5_4) rfl k) ?_
  show own_Run p e below s _ _ _ (s₁.setTop (mkF m 5 #[.val (.int i0), .val (.int i1), .val (.int i2), .unset, .unset, .unset, .unset] [(.long ((i1.toInt64) - (i0.toInt64)))]))
  refine own_st (fun t k => XS.lstoreN X0.here hx rfl (hb hby own_d5_5) rfl (l' := #[.val (.int i0), .val (.int i1), .val (.int i2), .val (.long ((i1.toInt64) - (i0.toInt64))), .second, .unset, .unset]) rfl k) ?_
  show own_Run p e below s _ _ _ (s₁.setTop (mkF m 6 #[.val (.int i0), .val (.int i1), .val (.int i2), .val (.long ((i1.toInt64) - (i0.toInt64))), .second, .unset, .unset] []))
  refine own_st (fun t k => XS.iloadN X0.here hx rfl (hb hby own_d5_6) rfl k) ?_
  show own_Run p e below s _ _ _ (s₁.setTop (mkF m 7 #[.val (.int i0), .val (.int i1), .val (.int i2), .val (.long ((i1.toInt64) - (i0.toInt64))), .second, .unset, .unset] [(.int i2)]))
  refine own_st (fun t k => XS.i2l X0.here hx rfl (hb hby own_d5_7) rfl k) ?_
  show own_Run p e below s _ _ _ (s₁.setTop (mkF m 8 #[.val (.int i0), .val (.int i1), .val (.int i2), .val (.long ((i1.toInt64) - (i0.toInt64))), .second, .unset, .unset] [(.long (i2.toInt64))]))
  refine own_st (fun t k => XS.iloadN X0.here hx rfl (hb hby own_d5_8) rfl k) ?_
  show own_Run p e below s _ _ _ (s₁.setTop (mkF m 9 #[.val (.int i0), .val (.int i1), .val (.int i2), .val (.long ((i1.toInt64) - (i0.toInt64))), .second, .unset, .unset] [(.int i1), (.long (i2.toInt64))]))
  refine own_st (fun t k => XS.i2l X0.here hx rfl (hb hby own_d5_9) rfl k) ?_
  show own_Run p e below s _ _ _ (s₁.setTop (mkF m 10 #[.val (.int i0), .val (.int i1), .val (.int i2), .val (.long ((i1.toInt64) - (i0.toInt64))), .second, .unset, .unset] [(.long (i1.toInt64)), (.long (i2.toInt64))]))
  refine own_st (fun t k => XS.lsub X0.here hx rfl (hb hby own_d5_10) rfl k) ?_
  show own_Run p e below s _ _ _ (s₁.setTop (mkF m 11 #[.val (.int i0), .val (.int i1), .val (.int i2), .val (.long ((i1.toInt64) - (i0.toInt64))), .second, .unset, .unset] [(.long ((i2.toInt64) - (i1.toInt64)))]))
  refine own_st (fun t k => XS.lstore X0.here hx rfl (hb hby own_d5_11) rfl (l' := #[.val (.int i0), .val (.int i1), .val (.int i2), .val (.long ((i1.toInt64) - (i0.toInt64))), .second, .val (.long ((i2.toInt64) - (i1.toInt64))), .second]) rfl k) ?_
  show own_Run p e below s _ _ _ (s₁.setTop (mkF m 13 #[.val (.int i0), .val (.int i1), .val (.int i2), .val (.long ((i1.toInt64) - (i0.toInt64))), .second, .val (.long ((i2.toInt64) - (i1.toInt64))), .second] []))
  refine own_st (fun t k => XS.lloadN X0.here hx rfl (hb hby own_d5_13) rfl k) ?_
  show own_Run p e below s _ _ _ (s₁.setTop (mkF m 14 #[.val (.int i0), .val (.int i1), .val (.int i2), .val (.long ((i1.toInt64) - (i0.toInt64))), .second, .val (.long ((i2.toInt64) - (i1.toInt64))), .second] [(.long ((i1.toInt64) - (i0.toInt64)))]))
  refine own_st (fun t k => XS.lconst X0.here hx rfl (hb hby own_d5_14) k) ?_
  show own_Run p e below s _ _ _ (s₁.setTop (mkF m 15 #[.val (.int i0), .val (.int i1), .val (.int i2), .val (.long ((i1.toInt64) - (i0.toInt64))), .second, .val (.long ((i2.toInt64) - (i1.toInt64))), .second] [(.long (0 : Int64)), (.long ((i1.toInt64) - (i0.toInt64)))]))
  refine own_st (fun t k => XS.lcmp X0.here hx rfl (hb hby own_d5_15) rfl k) ?_
  show own_Run p e below s _ _ _ (s₁.setTop (mkF m 16 #[.val (.int i0), .val (.int i1), .val (.int i2), .val (.long ((i1.toInt64) - (i0.toInt64))), .second, .val (.long ((i2.toInt64) - (i1.toInt64))), .second] [(.int (lcmpW ((i1.toInt64) - (i0.toInt64)) (0 : Int64)))]))
  by_cases hA : i1 < i0
  · skip
    refine own_st (fun t k => XS.ifYes X0.here hx rfl (pc0 := 16) (pc' := 30) rfl (hb hby own_d5_16) rfl ((if0 _ _).trans (tlt ((own_sub_lt i1 i0).mpr hA : (lcmpW ((i1.toInt64) - (i0.toInt64)) (0 : Int64)) < (0 : Int32))).1) (by decide) (by decide) k) ?_
    show own_Run p e below s _ _ _ (s₁.setTop (mkF m 30 #[.val (.int i0), .val (.int i1), .val (.int i2), .val (.long ((i1.toInt64) - (i0.toInt64))), .second, .val (.long ((i2.toInt64) - (i1.toInt64))), .second] []))
    refine own_st (fun t k => XS.iconst X0.here hx rfl (hb hby own_d5_30) k) ?_
    show own_Run p e below s _ _ _ (s₁.setTop (mkF m 31 #[.val (.int i0), .val (.int i1), .val (.int i2), .val (.long ((i1.toInt64) - (i0.toInt64))), .second, .val (.long ((i2.toInt64) - (i1.toInt64))), .second] [(.int (0 : Int32))]))
    exact own_ret X0 hx hlk (t := .boolean) hret rfl (Or.inl ⟨rfl, by simp, _, rfl⟩) (hb hby own_d5_31) (by decide) (by decide) ⟨by first | simp [hA, hB] | simp [hA], N0, e0⟩
  · skip
    refine own_st (fun t k => XS.ifNo X0.here hx rfl (hb hby own_d5_16) rfl ((if0 _ _).trans (flt (fun q => hA ((own_sub_lt _ _).mp q) : ¬ ((lcmpW ((i1.toInt64) - (i0.toInt64)) (0 : Int64)) < (0 : Int32)))).1) k) ?_
    show own_Run p e below s _ _ _ (s₁.setTop (mkF m 19 #[.val (.int i0), .val (.int i1), .val (.int i2), .val (.long ((i1.toInt64) - (i0.toInt64))), .second, .val (.long ((i2.toInt64) - (i1.toInt64))), .second] []))
    refine own_st (fun t k => XS.lload X0.here hx rfl (hb hby own_d5_19) rfl k) ?_
    show own_Run p e below s _ _ _ (s₁.setTop (mkF m 21 #[.val (.int i0), .val (.int i1), .val (.int i2), .val (.long ((i1.toInt64) - (i0.toInt64))), .second, .val (.long ((i2.toInt64) - (i1.toInt64))), .second] [(.long ((i2.toInt64) - (i1.toInt64)))]))
    refine own_st (fun t k => XS.lconst X0.here hx rfl (hb hby own_d5_21) k) ?_
    show own_Run p e below s _ _ _ (s₁.setTop (mkF m 22 #[.val (.int i0), .val (.int i1), .val (.int i2), .val (.long ((i1.toInt64) - (i0.toInt64))), .second, .val (.long ((i2.toInt64) - (i1.toInt64))), .second] [(.long (0 : Int64)), (.long ((i2.toInt64) - (i1.toInt64)))]))
    refine own_st (fun t k => XS.lcmp X0.here hx rfl (hb hby own_d5_22) rfl k) ?_
    show own_Run p e below s _ _ _ (s₁.setTop (mkF m 23 #[.val (.int i0), .val (.int i1), .val (.int i2), .val (.long ((i1.toInt64) - (i0.toInt64))), .second, .val (.long ((i2.toInt64) - (i1.toInt64))), .second] [(.int (lcmpW ((i2.toInt64) - (i1.toInt64)) (0 : Int64)))]))
    by_cases hB : i2 < i1
    · skip
      refine own_st (fun t k => XS.ifYes X0.here hx rfl (pc0 := 23) (pc' := 30) rfl (hb hby own_d5_23) rfl ((if0 _ _).trans (tlt ((own_sub_lt i2 i1).mpr hB : (lcmpW ((i2.toInt64) - (i1.toInt64)) (0 : Int64)) < (0 : Int32))).1) (by decide) (by decide) k) ?_
      show own_Run p e below s _ _ _ (s₁.setTop (mkF m 30 #[.val (.int i0), .val (.int i1), .val (.int i2), .val (.long ((i1.toInt64) - (i0.toInt64))), .second, .val (.long ((i2.toInt64) - (i1.toInt64))), .second] []))
      refine own_st (fun t k => XS.iconst X0.here hx rfl (hb hby own_d5_30) k) ?_
      show own_Run p e below s _ _ _ (s₁.setTop (mkF m 31 #[.val (.int i0), .val (.int i1), .val (.int i2), .val (.long ((i1.toInt64) - (i0.toInt64))), .second, .val (.long ((i2.toInt64) - (i1.toInt64))), .second] [(.int (0 : Int32))]))
      exact own_ret X0 hx hlk (t := .boolean) hret rfl (Or.inl ⟨rfl, by simp, _, rfl⟩) (hb hby own_d5_31) (by decide) (by decide) ⟨by first | simp [hA, hB] | simp [hA], N0, e0⟩
    · skip
      refine own_st (fun t k => XS.ifNo X0.here hx rfl (hb hby own_d5_23) rfl ((if0 _ _).trans (flt (fun q => hB ((own_sub_lt _ _).mp q) : ¬ ((lcmpW ((i2.toInt64) - (i1.toInt64)) (0 : Int64)) < (0 : Int32)))).1) k) ?_
      show own_Run p e below s _ _ _ (s₁.setTop (mkF m 26 #[.val (.int i0), .val (.int i1), .val (.int i2), .val (.long ((i1.toInt64) - (i0.toInt64))), .second, .val (.long ((i2.toInt64) - (i1.toInt64))), .second] []))
      refine own_st (fun t k => XS.iconst X0.here hx rfl (hb hby own_d5_26) k) ?_
      show own_Run p e below s _ _ _ (s₁.setTop (mkF m 27 #[.val (.int i0), .val (.int i1), .val (.int i2), .val (.long ((i1.toInt64) - (i0.toInt64))), .second, .val (.long ((i2.toInt64) - (i1.toInt64))), .second] [(.int (1 : Int32))]))
      refine own_st (fun t k => XS.goto X0.here hx rfl (pc0 := 27) (pc' := 31) rfl (hb hby own_d5_27) (by decide) (by decide) k) ?_
      show own_Run p e below s _ _ _ (s₁.setTop (mkF m 31 #[.val (.int i0), .val (.int i1), .val (.int i2), .val (.long ((i1.toInt64) - (i0.toInt64))), .second, .val (.long ((i2.toInt64) - (i1.toInt64))), .second] [(.int (1 : Int32))]))
      exact own_ret X0 hx hlk (t := .boolean) hret rfl (Or.inl ⟨rfl, by simp, _, rfl⟩) (hb hby own_d5_31) (by decide) (by decide) ⟨by first | simp [hA, hB] | simp [hA], N0, e0⟩
theorem own_pd4 : parseMethodDescriptor "(DDDD)V" = some ⟨[.double, .double, .double, .double], none⟩ := by decide +kernel
theorem own_pd5 : parseMethodDescriptor "(DD)Z" = some ⟨[.double, .double], some .boolean⟩ := by decide +kernel
theorem own_pd6 : parseMethodDescriptor "(III)Z" = some ⟨[.int, .int, .int], some .boolean⟩ := by decide +kernel
theorem own_ef0 (m : MethodId) (x0 : Int32) (x1 : Int32) (x2 : Int32) (x3 : Int32) (x4 : Int32) (x5 : Int32) : entryFrame m #[(.int x0), (.int x1), (.int x2), (.int x3), (.int x4), (.int x5)] maxLocals = mkF m 0 #[.val (.int x0), .val (.int x1), .val (.int x2), .val (.int x3), .val (.int x4), .val (.int x5), .unset, .unset, .unset] [] := by first | rfl | (simp [entryFrame, mkF, argsToLocals, Value.category, maxLocals]; done)
def own_Q0 (Z : State) (a0 : Array Value) (i0 : Int32) (i1 : Int32) (i2 : Int32) (i3 : Int32) (i4 : Int32) (i5 : Int32) (h0 : Heap) (n0 : Nat) (v : Option Value) (h : Heap) (L : List Loc) : Prop := v = some (.int 1) ∧ Fr n0 L
set_option maxRecDepth 65536 in
set_option maxHeartbeats 40000000 in
theorem own_rm0 (l : Launch) (Z : State) (a0 : Array Value) (hw : ∀ d ∈ tables_1, d.before a0 Z = true) (ws : List Jvm.Cond) (i0 : Int32) (i1 : Int32) (i2 : Int32) (i3 : Int32) (i4 : Int32) (i5 : Int32) (h0 : Heap) (n0 : Nat) (Z0 : n0 ≤ h0.size) (O0 : Old Z n0 h0) :
    MetFree l x (head1 (Jvm.Cond.code x code maxLocals ret :: ws) room_1) (fun a U => a = #[(.int i0), (.int i1), (.int i2), (.int i3), (.int i4), (.int i5)] ∧ Z.Warmed39 U.vm ∧ U.heap = h0) (fun _ _ _ _ _ => True) (fun _ U o U' => ∃ v L, o = .returned v ∧ own_Q0 Z a0 i0 i1 i2 i3 i4 i5 h0 n0 v U'.heap L ∧ FrameEnd U o U' L room_1.cells room_1.slots) := by
  refine own_body (Q := fun v h L => own_Q0 Z a0 i0 i1 i2 i3 i4 i5 h0 n0 v h L) (plainFor_of_name own_pn3) ?_
  intro p e s m below meth c s₁ hx hby hml hZ hown hnm hret hlk X0 e0
  replace hml : c.maxLocals = 9 := hml
  replace hown : s.vm.findClass "com/example/kerb2d/kerb2d/geometry/BoundsCoversPinLaw" = some m.cls := hown
  have N0 := Fr.nil n0
  have K0 : Keep h0 h0 [] := Keep.refl _ _
  refine own_st (fun t k => castTop (own_ef0 m i0 i1 i2 i3 i4 i5) k) ?_
  show own_Run p e below s _ _ _ (s₁.setTop (mkF m 0 #[.val (.int i0), .val (.int i1), .val (.int i2), .val (.int i3), .val (.int i4), .val (.int i5), .unset, .unset, .unset] []))
  obtain ⟨T33, h33, X33, e33, E33, A33, D33, -, st33⟩ := newO X0 hx hZ hown (hw _ (List.mem_of_getElem? (i := 0) rfl)) (hw _ (List.mem_of_getElem? (i := 1) rfl)) (hw _ (List.mem_of_getElem? (i := 2) rfl)) e0 (g := (mkF m 0 #[.val (.int i0), .val (.int i1), .val (.int i2), .val (.int i3), .val (.int i4), .val (.int i5), .unset, .unset, .unset] [])) rfl (hb hby at_0) (by decide) (by decide)
  obtain ⟨b33, g33⟩ : ∃ z, z = h0.size := ⟨_, rfl⟩
  rw [← g33] at A33 D33 st33
  have sz34 : h0.size ≤ b33 := Nat.le_trans K0.1 (Nat.le_of_eq g33.symm)
  have ge35 : n0 ≤ b33 := Nat.le_trans Z0 sz34
  refine own_st st33 ?_
  have K36 : Keep h0 h33 [] := K0.ext E33
  have O37 := O0.ext E33
  show own_Run p e below s _ _ _ (T33.setTop (mkF m 3 #[.val (.int i0), .val (.int i1), .val (.int i2), .val (.int i3), .val (.int i4), .val (.int i5), .unset, .unset, .unset] [(.ref b33)]))
  refine own_st (fun t k => XS.dup X33.here hx rfl (hb hby at_3) rfl rfl k) ?_
  show own_Run p e below s _ _ _ (T33.setTop (mkF m 4 #[.val (.int i0), .val (.int i1), .val (.int i2), .val (.int i3), .val (.int i4), .val (.int i5), .unset, .unset, .unset] [(.ref b33), (.ref b33)]))
  refine own_st (fun t k => XS.iloadN X33.here hx rfl (hb hby at_4) rfl k) ?_
  show own_Run p e below s _ _ _ (T33.setTop (mkF m 5 #[.val (.int i0), .val (.int i1), .val (.int i2), .val (.int i3), .val (.int i4), .val (.int i5), .unset, .unset, .unset] [(.int i0), (.ref b33), (.ref b33)]))
  refine own_st (fun t k => XS.i2dS X33.here hx rfl (hb hby at_5) rfl (v := (FP.i2d i0)) (rfl) k) ?_
  show own_Run p e below s _ _ _ (T33.setTop (mkF m 6 #[.val (.int i0), .val (.int i1), .val (.int i2), .val (.int i3), .val (.int i4), .val (.int i5), .unset, .unset, .unset] [(.double (FP.i2d i0)), (.ref b33), (.ref b33)]))
  refine own_st (fun t k => XS.iloadN X33.here hx rfl (hb hby at_6) rfl k) ?_
  show own_Run p e below s _ _ _ (T33.setTop (mkF m 7 #[.val (.int i0), .val (.int i1), .val (.int i2), .val (.int i3), .val (.int i4), .val (.int i5), .unset, .unset, .unset] [(.int i1), (.double (FP.i2d i0)), (.ref b33), (.ref b33)]))
  refine own_st (fun t k => XS.i2dS X33.here hx rfl (hb hby at_7) rfl (v := (FP.i2d i1)) (rfl) k) ?_
  show own_Run p e below s _ _ _ (T33.setTop (mkF m 8 #[.val (.int i0), .val (.int i1), .val (.int i2), .val (.int i3), .val (.int i4), .val (.int i5), .unset, .unset, .unset] [(.double (FP.i2d i1)), (.double (FP.i2d i0)), (.ref b33), (.ref b33)]))
  refine own_st (fun t k => XS.iloadN X33.here hx rfl (hb hby at_8) rfl k) ?_
  show own_Run p e below s _ _ _ (T33.setTop (mkF m 9 #[.val (.int i0), .val (.int i1), .val (.int i2), .val (.int i3), .val (.int i4), .val (.int i5), .unset, .unset, .unset] [(.int i2), (.double (FP.i2d i1)), (.double (FP.i2d i0)), (.ref b33), (.ref b33)]))
  refine own_st (fun t k => XS.i2dS X33.here hx rfl (hb hby at_9) rfl (v := (FP.i2d i2)) (rfl) k) ?_
  show own_Run p e below s _ _ _ (T33.setTop (mkF m 10 #[.val (.int i0), .val (.int i1), .val (.int i2), .val (.int i3), .val (.int i4), .val (.int i5), .unset, .unset, .unset] [(.double (FP.i2d i2)), (.double (FP.i2d i1)), (.double (FP.i2d i0)), (.ref b33), (.ref b33)]))
  refine own_st (fun t k => XS.iloadN X33.here hx rfl (hb hby at_10) rfl k) ?_
  show own_Run p e below s _ _ _ (T33.setTop (mkF m 11 #[.val (.int i0), .val (.int i1), .val (.int i2), .val (.int i3), .val (.int i4), .val (.int i5), .unset, .unset, .unset] [(.int i3), (.double (FP.i2d i2)), (.double (FP.i2d i1)), (.double (FP.i2d i0)), (.ref b33), (.ref b33)]))
  refine own_st (fun t k => XS.i2dS X33.here hx rfl (hb hby at_11) rfl (v := (FP.i2d i3)) (rfl) k) ?_
  show own_Run p e below s _ _ _ (T33.setTop (mkF m 12 #[.val (.int i0), .val (.int i1), .val (.int i2), .val (.int i3), .val (.int i4), .val (.int i5), .unset, .unset, .unset] [(.double (FP.i2d i3)), (.double (FP.i2d i2)), (.double (FP.i2d i1)), (.double (FP.i2d i0)), (.ref b33), (.ref b33)]))
  refine own_callI X33 hx hZ (y := (⟨"com/example/kerb2d/kerb2d/geometry/Bounds", "<init>", "(DDDD)V"⟩ : MethodName)) rfl hown (hw _ (List.mem_of_getElem? (i := 3) rfl)) (hw _ (List.mem_of_getElem? (i := 4) rfl)) (hw _ (List.mem_of_getElem? (i := 5) rfl)) (hw _ (List.mem_of_getElem? (i := 2) rfl)) (by decide) e33 (a := b33) (argsL := [(.double (FP.i2d i0)), (.double (FP.i2d i1)), (.double (FP.i2d i2)), (.double (FP.i2d i3))]) (rest := [(.ref b33)]) (W := 1) (own_rm1 l Z a0 hw [] b33 (FP.i2d i0) (FP.i2d i1) (FP.i2d i2) (FP.i2d i3) h33 n0 (Nat.le_trans Z0 K36.1) A33 D33 ge35) (by decide) (by decide) (by rw [hml]; rfl) (lenOf own_pd4 rfl) rfl (by exact Nat.le_of_eq rfl) (hb hby at_12) (by decide) (by decide) ?_
  intro T38 v38 L38 X38 hq38
  obtain ⟨rfl, N38q, K38q, Q39, Q40, Q41, Q42, Q43⟩ := hq38
  have K44 : Keep h0 T38.heap [] := K36.trans K38q (allS (Or.inr sz34) all0)
  have O45 := O37.keep K38q (allS ge35 all0)
  have N38 := Fr.app N0 N38q
  show own_Run p e below s _ _ _ (T38.setTop (mkF m 15 #[.val (.int i0), .val (.int i1), .val (.int i2), .val (.int i3), .val (.int i4), .val (.int i5), .unset, .unset, .unset] [(.ref b33)]))
  refine own_st (fun t k => XS.astore X38.here hx rfl (hb hby at_15) rfl rfl (l' := #[.val (.int i0), .val (.int i1), .val (.int i2), .val (.int i3), .val (.int i4), .val (.int i5), .val (.ref b33), .unset, .unset]) rfl k) ?_
  show own_Run p e below s _ _ _ (T38.setTop (mkF m 17 #[.val (.int i0), .val (.int i1), .val (.int i2), .val (.int i3), .val (.int i4), .val (.int i5), .val (.ref b33), .unset, .unset] []))
  refine own_st (fun t k => XS.aload X38.here hx rfl (hb hby at_17) rfl rfl k) ?_
  show own_Run p e below s _ _ _ (T38.setTop (mkF m 19 #[.val (.int i0), .val (.int i1), .val (.int i2), .val (.int i3), .val (.int i4), .val (.int i5), .val (.ref b33), .unset, .unset] [(.ref b33)]))
  refine own_st (fun t k => XS.iload X38.here hx rfl (hb hby at_19) rfl k) ?_
  show own_Run p e below s _ _ _ (T38.setTop (mkF m 21 #[.val (.int i0), .val (.int i1), .val (.int i2), .val (.int i3), .val (.int i4), .val (.int i5), .val (.ref b33), .unset, .unset] [(.int i4), (.ref b33)]))
  refine own_st (fun t k => XS.i2dS X38.here hx rfl (hb hby at_21) rfl (v := (FP.i2d i4)) (rfl) k) ?_
  show own_Run p e below s _ _ _ (T38.setTop (mkF m 22 #[.val (.int i0), .val (.int i1), .val (.int i2), .val (.int i3), .val (.int i4), .val (.int i5), .val (.ref b33), .unset, .unset] [(.double (FP.i2d i4)), (.ref b33)]))
  refine own_st (fun t k => XS.iload X38.here hx rfl (hb hby at_22) rfl k) ?_
  show own_Run p e below s _ _ _ (T38.setTop (mkF m 24 #[.val (.int i0), .val (.int i1), .val (.int i2), .val (.int i3), .val (.int i4), .val (.int i5), .val (.ref b33), .unset, .unset] [(.int i5), (.double (FP.i2d i4)), (.ref b33)]))
  refine own_st (fun t k => XS.i2dS X38.here hx rfl (hb hby at_24) rfl (v := (FP.i2d i5)) (rfl) k) ?_
  show own_Run p e below s _ _ _ (T38.setTop (mkF m 25 #[.val (.int i0), .val (.int i1), .val (.int i2), .val (.int i3), .val (.int i4), .val (.int i5), .val (.ref b33), .unset, .unset] [(.double (FP.i2d i5)), (.double (FP.i2d i4)), (.ref b33)]))
  refine own_callV X38 hx hZ (y := (⟨"com/example/kerb2d/kerb2d/geometry/Bounds", "covers", "(DD)Z"⟩ : MethodName)) (C := "com/example/kerb2d/kerb2d/geometry/Bounds") hown (hw _ (List.mem_of_getElem? (i := 22) rfl)) (hw _ (List.mem_of_getElem? (i := 23) rfl)) (hw _ (List.mem_of_getElem? (i := 25) rfl)) (hw _ (List.mem_of_getElem? (i := 24) rfl)) (hw _ (List.mem_of_getElem? (i := 26) rfl)) (hw _ (List.mem_of_getElem? (i := 2) rfl)) (by decide) rfl (a := b33) Q39 (argsL := [(.double (FP.i2d i4)), (.double (FP.i2d i5))]) (rest := []) (W := 0) (own_rm4 l Z a0 hw [] b33 i4 i5 i0 i1 i2 i3 T38.heap n0 (Nat.le_trans Z0 K44.1) Q40 Q41 Q42 Q43) (by decide) (by decide) (by rw [hml]; rfl) (lenOf own_pd5 rfl) rfl (by exact Nat.le_of_eq rfl) (hb hby at_25) (by decide) (by decide) ?_
  intro T46 v46 L46 X46 hq46
  obtain ⟨rfl, N46q, hh46⟩ := hq46
  have N46 := Fr.app N38 N46q
  show own_Run p e below s _ _ _ (T46.setTop (mkF m 28 #[.val (.int i0), .val (.int i1), .val (.int i2), .val (.int i3), .val (.int i4), .val (.int i5), .val (.ref b33), .unset, .unset] [(.int (if (¬ (i4 < i0) ∧ ¬ (i2 < i4) ∧ ¬ (i5 < i1) ∧ ¬ (i3 < i5)) then 1 else 0 : Int32))]))
  refine own_st (fun t k => XS.istore X46.here hx rfl (hb hby at_28) rfl (l' := #[.val (.int i0), .val (.int i1), .val (.int i2), .val (.int i3), .val (.int i4), .val (.int i5), .val (.ref b33), .val (.int (if (¬ (i4 < i0) ∧ ¬ (i2 < i4) ∧ ¬ (i5 < i1) ∧ ¬ (i3 < i5)) then 1 else 0 : Int32)), .unset]) rfl k) ?_
  show own_Run p e below s _ _ _ (T46.setTop (mkF m 30 #[.val (.int i0), .val (.int i1), .val (.int i2), .val (.int i3), .val (.int i4), .val (.int i5), .val (.ref b33), .val (.int (if (¬ (i4 < i0) ∧ ¬ (i2 < i4) ∧ ¬ (i5 < i1) ∧ ¬ (i3 < i5)) then 1 else 0 : Int32)), .unset] []))
  refine own_st (fun t k => XS.iloadN X46.here hx rfl (hb hby at_30) rfl k) ?_
  show own_Run p e below s _ _ _ (T46.setTop (mkF m 31 #[.val (.int i0), .val (.int i1), .val (.int i2), .val (.int i3), .val (.int i4), .val (.int i5), .val (.ref b33), .val (.int (if (¬ (i4 < i0) ∧ ¬ (i2 < i4) ∧ ¬ (i5 < i1) ∧ ¬ (i3 < i5)) then 1 else 0 : Int32)), .unset] [(.int i0)]))
  refine own_st (fun t k => XS.iload X46.here hx rfl (hb hby at_31) rfl k) ?_
  show own_Run p e below s _ _ _ (T46.setTop (mkF m 33 #[.val (.int i0), .val (.int i1), .val (.int i2), .val (.int i3), .val (.int i4), .val (.int i5), .val (.ref b33), .val (.int (if (¬ (i4 < i0) ∧ ¬ (i2 < i4) ∧ ¬ (i5 < i1) ∧ ¬ (i3 < i5)) then 1 else 0 : Int32)), .unset] [(.int i4), (.int i0)]))
  refine own_st (fun t k => XS.iloadN X46.here hx rfl (hb hby at_33) rfl k) ?_
  show own_Run p e below s _ _ _ (T46.setTop (mkF m 34 #[.val (.int i0), .val (.int i1), .val (.int i2), .val (.int i3), .val (.int i4), .val (.int i5), .val (.ref b33), .val (.int (if (¬ (i4 < i0) ∧ ¬ (i2 < i4) ∧ ¬ (i5 < i1) ∧ ¬ (i3 < i5)) then 1 else 0 : Int32)), .unset] [(.int i2), (.int i4), (.int i0)]))
  refine own_callS X46 hx hZ (y := (⟨"com/example/kerb2d/kerb2d/geometry/BoundsCoversPinLaw", "between", "(III)Z"⟩ : MethodName)) hown (hw _ (List.mem_of_getElem? (i := 27) rfl)) (hw _ (List.mem_of_getElem? (i := 28) rfl)) (hw _ (List.mem_of_getElem? (i := 30) rfl)) (hw _ (List.mem_of_getElem? (i := 29) rfl)) (by decide) hh46 (argsL := [(.int i0), (.int i4), (.int i2)]) (rest := []) (W := 0) (own_rm5 l Z a0 hw [] i0 i4 i2 T38.heap n0 (Nat.le_trans Z0 K44.1) ) (by decide) (by decide) (by rw [hml]; rfl) (lenOf own_pd6 rfl) rfl (by exact Nat.le_of_eq rfl) (hb hby at_34) (by decide) (by decide) ?_
  intro T47 v47 L47 X47 hq47
  obtain ⟨rfl, N47q, hh47⟩ := hq47
  have N47 := Fr.app N46 N47q
  show own_Run p e below s _ _ _ (T47.setTop (mkF m 37 #[.val (.int i0), .val (.int i1), .val (.int i2), .val (.int i3), .val (.int i4), .val (.int i5), .val (.ref b33), .val (.int (if (¬ (i4 < i0) ∧ ¬ (i2 < i4) ∧ ¬ (i5 < i1) ∧ ¬ (i3 < i5)) then 1 else 0 : Int32)), .unset] [(.int (if (¬ (i4 < i0) ∧ ¬ (i2 < i4)) then 1 else 0 : Int32))]))
  by_cases hA : (¬ (i4 < i0) ∧ ¬ (i2 < i4))
  · skip
    refine own_st (fun t k => XS.ifNo X47.here hx rfl (hb hby at_37) rfl ((if0 _ _).trans (feq (by rw [if_pos hA]; decide : ¬ ((if (¬ (i4 < i0) ∧ ¬ (i2 < i4)) then 1 else 0 : Int32) = (0 : Int32)))).1) k) ?_
    show own_Run p e below s _ _ _ (T47.setTop (mkF m 40 #[.val (.int i0), .val (.int i1), .val (.int i2), .val (.int i3), .val (.int i4), .val (.int i5), .val (.ref b33), .val (.int (if (¬ (i4 < i0) ∧ ¬ (i2 < i4) ∧ ¬ (i5 < i1) ∧ ¬ (i3 < i5)) then 1 else 0 : Int32)), .unset] []))
    refine own_st (fun t k => XS.iloadN X47.here hx rfl (hb hby at_40) rfl k) ?_
    show own_Run p e below s _ _ _ (T47.setTop (mkF m 41 #[.val (.int i0), .val (.int i1), .val (.int i2), .val (.int i3), .val (.int i4), .val (.int i5), .val (.ref b33), .val (.int (if (¬ (i4 < i0) ∧ ¬ (i2 < i4) ∧ ¬ (i5 < i1) ∧ ¬ (i3 < i5)) then 1 else 0 : Int32)), .unset] [(.int i1)]))
    refine own_st (fun t k => XS.iload X47.here hx rfl (hb hby at_41) rfl k) ?_
    show own_Run p e below s _ _ _ (T47.setTop (mkF m 43 #[.val (.int i0), .val (.int i1), .val (.int i2), .val (.int i3), .val (.int i4), .val (.int i5), .val (.ref b33), .val (.int (if (¬ (i4 < i0) ∧ ¬ (i2 < i4) ∧ ¬ (i5 < i1) ∧ ¬ (i3 < i5)) then 1 else 0 : Int32)), .unset] [(.int i5), (.int i1)]))
    refine own_st (fun t k => XS.iloadN X47.here hx rfl (hb hby at_43) rfl k) ?_
    show own_Run p e below s _ _ _ (T47.setTop (mkF m 44 #[.val (.int i0), .val (.int i1), .val (.int i2), .val (.int i3), .val (.int i4), .val (.int i5), .val (.ref b33), .val (.int (if (¬ (i4 < i0) ∧ ¬ (i2 < i4) ∧ ¬ (i5 < i1) ∧ ¬ (i3 < i5)) then 1 else 0 : Int32)), .unset] [(.int i3), (.int i5), (.int i1)]))
    refine own_callS X47 hx hZ (y := (⟨"com/example/kerb2d/kerb2d/geometry/BoundsCoversPinLaw", "between", "(III)Z"⟩ : MethodName)) hown (hw _ (List.mem_of_getElem? (i := 27) rfl)) (hw _ (List.mem_of_getElem? (i := 28) rfl)) (hw _ (List.mem_of_getElem? (i := 30) rfl)) (hw _ (List.mem_of_getElem? (i := 29) rfl)) (by decide) hh47 (argsL := [(.int i1), (.int i5), (.int i3)]) (rest := []) (W := 0) (own_rm5 l Z a0 hw [] i1 i5 i3 T38.heap n0 (Nat.le_trans Z0 K44.1) ) (by decide) (by decide) (by rw [hml]; rfl) (lenOf own_pd6 rfl) rfl (by exact Nat.le_of_eq rfl) (hb hby at_44) (by decide) (by decide) ?_
    intro T48 v48 L48 X48 hq48
    obtain ⟨rfl, N48q, hh48⟩ := hq48
    have N48 := Fr.app N47 N48q
    show own_Run p e below s _ _ _ (T48.setTop (mkF m 47 #[.val (.int i0), .val (.int i1), .val (.int i2), .val (.int i3), .val (.int i4), .val (.int i5), .val (.ref b33), .val (.int (if (¬ (i4 < i0) ∧ ¬ (i2 < i4) ∧ ¬ (i5 < i1) ∧ ¬ (i3 < i5)) then 1 else 0 : Int32)), .unset] [(.int (if (¬ (i5 < i1) ∧ ¬ (i3 < i5)) then 1 else 0 : Int32))]))
    by_cases hB : (¬ (i5 < i1) ∧ ¬ (i3 < i5))
    · skip
      refine own_st (fun t k => XS.ifNo X48.here hx rfl (hb hby at_47) rfl ((if0 _ _).trans (feq (by rw [if_pos hB]; decide : ¬ ((if (¬ (i5 < i1) ∧ ¬ (i3 < i5)) then 1 else 0 : Int32) = (0 : Int32)))).1) k) ?_
      show own_Run p e below s _ _ _ (T48.setTop (mkF m 50 #[.val (.int i0), .val (.int i1), .val (.int i2), .val (.int i3), .val (.int i4), .val (.int i5), .val (.ref b33), .val (.int (if (¬ (i4 < i0) ∧ ¬ (i2 < i4) ∧ ¬ (i5 < i1) ∧ ¬ (i3 < i5)) then 1 else 0 : Int32)), .unset] []))
      refine own_st (fun t k => XS.iconst X48.here hx rfl (hb hby at_50) k) ?_
      show own_Run p e below s _ _ _ (T48.setTop (mkF m 51 #[.val (.int i0), .val (.int i1), .val (.int i2), .val (.int i3), .val (.int i4), .val (.int i5), .val (.ref b33), .val (.int (if (¬ (i4 < i0) ∧ ¬ (i2 < i4) ∧ ¬ (i5 < i1) ∧ ¬ (i3 < i5)) then 1 else 0 : Int32)), .unset] [(.int (1 : Int32))]))
      refine own_st (fun t k => XS.goto X48.here hx rfl (pc0 := 51) (pc' := 55) rfl (hb hby at_51) (by decide) (by decide) k) ?_
      show own_Run p e below s _ _ _ (T48.setTop (mkF m 55 #[.val (.int i0), .val (.int i1), .val (.int i2), .val (.int i3), .val (.int i4), .val (.int i5), .val (.ref b33), .val (.int (if (¬ (i4 < i0) ∧ ¬ (i2 < i4) ∧ ¬ (i5 < i1) ∧ ¬ (i3 < i5)) then 1 else 0 : Int32)), .unset] [(.int (1 : Int32))]))
      refine own_st (fun t k => XS.istore X48.here hx rfl (hb hby at_55) rfl (l' := #[.val (.int i0), .val (.int i1), .val (.int i2), .val (.int i3), .val (.int i4), .val (.int i5), .val (.ref b33), .val (.int (if (¬ (i4 < i0) ∧ ¬ (i2 < i4) ∧ ¬ (i5 < i1) ∧ ¬ (i3 < i5)) then 1 else 0 : Int32)), .val (.int (1 : Int32))]) rfl k) ?_
      show own_Run p e below s _ _ _ (T48.setTop (mkF m 57 #[.val (.int i0), .val (.int i1), .val (.int i2), .val (.int i3), .val (.int i4), .val (.int i5), .val (.ref b33), .val (.int (if (¬ (i4 < i0) ∧ ¬ (i2 < i4) ∧ ¬ (i5 < i1) ∧ ¬ (i3 < i5)) then 1 else 0 : Int32)), .val (.int (1 : Int32))] []))
      refine own_st (fun t k => XS.iload X48.here hx rfl (hb hby at_57) rfl k) ?_
      show own_Run p e below s _ _ _ (T48.setTop (mkF m 59 #[.val (.int i0), .val (.int i1), .val (.int i2), .val (.int i3), .val (.int i4), .val (.int i5), .val (.ref b33), .val (.int (if (¬ (i4 < i0) ∧ ¬ (i2 < i4) ∧ ¬ (i5 < i1) ∧ ¬ (i3 < i5)) then 1 else 0 : Int32)), .val (.int (1 : Int32))] [(.int (if (¬ (i4 < i0) ∧ ¬ (i2 < i4) ∧ ¬ (i5 < i1) ∧ ¬ (i3 < i5)) then 1 else 0 : Int32))]))
      refine own_st (fun t k => XS.iload X48.here hx rfl (hb hby at_59) rfl k) ?_
      show own_Run p e below s _ _ _ (T48.setTop (mkF m 61 #[.val (.int i0), .val (.int i1), .val (.int i2), .val (.int i3), .val (.int i4), .val (.int i5), .val (.ref b33), .val (.int (if (¬ (i4 < i0) ∧ ¬ (i2 < i4) ∧ ¬ (i5 < i1) ∧ ¬ (i3 < i5)) then 1 else 0 : Int32)), .val (.int (1 : Int32))] [(.int (1 : Int32)), (.int (if (¬ (i4 < i0) ∧ ¬ (i2 < i4) ∧ ¬ (i5 < i1) ∧ ¬ (i3 < i5)) then 1 else 0 : Int32))]))
      refine own_st (fun t k => XS.icmpNo X48.here hx rfl (hb hby at_61) rfl (teq (by first | exact if_pos ⟨hA.1, hA.2, hB.1, hB.2⟩ | exact if_neg (fun z => hB ⟨z.2.2.1, z.2.2.2⟩) | exact if_neg (fun z => hA ⟨z.1, z.2.1⟩) : (if (¬ (i4 < i0) ∧ ¬ (i2 < i4) ∧ ¬ (i5 < i1) ∧ ¬ (i3 < i5)) then 1 else 0 : Int32) = (1 : Int32))).2 k) ?_
      show own_Run p e below s _ _ _ (T48.setTop (mkF m 64 #[.val (.int i0), .val (.int i1), .val (.int i2), .val (.int i3), .val (.int i4), .val (.int i5), .val (.ref b33), .val (.int (if (¬ (i4 < i0) ∧ ¬ (i2 < i4) ∧ ¬ (i5 < i1) ∧ ¬ (i3 < i5)) then 1 else 0 : Int32)), .val (.int (1 : Int32))] []))
      refine own_st (fun t k => XS.iconst X48.here hx rfl (hb hby at_64) k) ?_
      show own_Run p e below s _ _ _ (T48.setTop (mkF m 65 #[.val (.int i0), .val (.int i1), .val (.int i2), .val (.int i3), .val (.int i4), .val (.int i5), .val (.ref b33), .val (.int (if (¬ (i4 < i0) ∧ ¬ (i2 < i4) ∧ ¬ (i5 < i1) ∧ ¬ (i3 < i5)) then 1 else 0 : Int32)), .val (.int (1 : Int32))] [(.int (1 : Int32))]))
      refine own_st (fun t k => XS.goto X48.here hx rfl (pc0 := 65) (pc' := 69) rfl (hb hby at_65) (by decide) (by decide) k) ?_
      show own_Run p e below s _ _ _ (T48.setTop (mkF m 69 #[.val (.int i0), .val (.int i1), .val (.int i2), .val (.int i3), .val (.int i4), .val (.int i5), .val (.ref b33), .val (.int (if (¬ (i4 < i0) ∧ ¬ (i2 < i4) ∧ ¬ (i5 < i1) ∧ ¬ (i3 < i5)) then 1 else 0 : Int32)), .val (.int (1 : Int32))] [(.int (1 : Int32))]))
      exact own_ret X48 hx hlk (t := .boolean) hret rfl (Or.inl ⟨rfl, by simp, _, rfl⟩) (hb hby at_69) (by decide) (by decide) ⟨rfl, N48⟩
    · skip
      refine own_st (fun t k => XS.ifYes X48.here hx rfl (pc0 := 47) (pc' := 54) rfl (hb hby at_47) rfl ((if0 _ _).trans (teq (if_neg hB : (if (¬ (i5 < i1) ∧ ¬ (i3 < i5)) then 1 else 0 : Int32) = (0 : Int32))).1) (by decide) (by decide) k) ?_
      show own_Run p e below s _ _ _ (T48.setTop (mkF m 54 #[.val (.int i0), .val (.int i1), .val (.int i2), .val (.int i3), .val (.int i4), .val (.int i5), .val (.ref b33), .val (.int (if (¬ (i4 < i0) ∧ ¬ (i2 < i4) ∧ ¬ (i5 < i1) ∧ ¬ (i3 < i5)) then 1 else 0 : Int32)), .unset] []))
      refine own_st (fun t k => XS.iconst X48.here hx rfl (hb hby at_54) k) ?_
      show own_Run p e below s _ _ _ (T48.setTop (mkF m 55 #[.val (.int i0), .val (.int i1), .val (.int i2), .val (.int i3), .val (.int i4), .val (.int i5), .val (.ref b33), .val (.int (if (¬ (i4 < i0) ∧ ¬ (i2 < i4) ∧ ¬ (i5 < i1) ∧ ¬ (i3 < i5)) then 1 else 0 : Int32)), .unset] [(.int (0 : Int32))]))
      refine own_st (fun t k => XS.istore X48.here hx rfl (hb hby at_55) rfl (l' := #[.val (.int i0), .val (.int i1), .val (.int i2), .val (.int i3), .val (.int i4), .val (.int i5), .val (.ref b33), .val (.int (if (¬ (i4 < i0) ∧ ¬ (i2 < i4) ∧ ¬ (i5 < i1) ∧ ¬ (i3 < i5)) then 1 else 0 : Int32)), .val (.int (0 : Int32))]) rfl k) ?_
      show own_Run p e below s _ _ _ (T48.setTop (mkF m 57 #[.val (.int i0), .val (.int i1), .val (.int i2), .val (.int i3), .val (.int i4), .val (.int i5), .val (.ref b33), .val (.int (if (¬ (i4 < i0) ∧ ¬ (i2 < i4) ∧ ¬ (i5 < i1) ∧ ¬ (i3 < i5)) then 1 else 0 : Int32)), .val (.int (0 : Int32))] []))
      refine own_st (fun t k => XS.iload X48.here hx rfl (hb hby at_57) rfl k) ?_
      show own_Run p e below s _ _ _ (T48.setTop (mkF m 59 #[.val (.int i0), .val (.int i1), .val (.int i2), .val (.int i3), .val (.int i4), .val (.int i5), .val (.ref b33), .val (.int (if (¬ (i4 < i0) ∧ ¬ (i2 < i4) ∧ ¬ (i5 < i1) ∧ ¬ (i3 < i5)) then 1 else 0 : Int32)), .val (.int (0 : Int32))] [(.int (if (¬ (i4 < i0) ∧ ¬ (i2 < i4) ∧ ¬ (i5 < i1) ∧ ¬ (i3 < i5)) then 1 else 0 : Int32))]))
      refine own_st (fun t k => XS.iload X48.here hx rfl (hb hby at_59) rfl k) ?_
      show own_Run p e below s _ _ _ (T48.setTop (mkF m 61 #[.val (.int i0), .val (.int i1), .val (.int i2), .val (.int i3), .val (.int i4), .val (.int i5), .val (.ref b33), .val (.int (if (¬ (i4 < i0) ∧ ¬ (i2 < i4) ∧ ¬ (i5 < i1) ∧ ¬ (i3 < i5)) then 1 else 0 : Int32)), .val (.int (0 : Int32))] [(.int (0 : Int32)), (.int (if (¬ (i4 < i0) ∧ ¬ (i2 < i4) ∧ ¬ (i5 < i1) ∧ ¬ (i3 < i5)) then 1 else 0 : Int32))]))
      refine own_st (fun t k => XS.icmpNo X48.here hx rfl (hb hby at_61) rfl (teq (by first | exact if_pos ⟨hA.1, hA.2, hB.1, hB.2⟩ | exact if_neg (fun z => hB ⟨z.2.2.1, z.2.2.2⟩) | exact if_neg (fun z => hA ⟨z.1, z.2.1⟩) : (if (¬ (i4 < i0) ∧ ¬ (i2 < i4) ∧ ¬ (i5 < i1) ∧ ¬ (i3 < i5)) then 1 else 0 : Int32) = (0 : Int32))).2 k) ?_
      show own_Run p e below s _ _ _ (T48.setTop (mkF m 64 #[.val (.int i0), .val (.int i1), .val (.int i2), .val (.int i3), .val (.int i4), .val (.int i5), .val (.ref b33), .val (.int (if (¬ (i4 < i0) ∧ ¬ (i2 < i4) ∧ ¬ (i5 < i1) ∧ ¬ (i3 < i5)) then 1 else 0 : Int32)), .val (.int (0 : Int32))] []))
      refine own_st (fun t k => XS.iconst X48.here hx rfl (hb hby at_64) k) ?_
      show own_Run p e below s _ _ _ (T48.setTop (mkF m 65 #[.val (.int i0), .val (.int i1), .val (.int i2), .val (.int i3), .val (.int i4), .val (.int i5), .val (.ref b33), .val (.int (if (¬ (i4 < i0) ∧ ¬ (i2 < i4) ∧ ¬ (i5 < i1) ∧ ¬ (i3 < i5)) then 1 else 0 : Int32)), .val (.int (0 : Int32))] [(.int (1 : Int32))]))
      refine own_st (fun t k => XS.goto X48.here hx rfl (pc0 := 65) (pc' := 69) rfl (hb hby at_65) (by decide) (by decide) k) ?_
      show own_Run p e below s _ _ _ (T48.setTop (mkF m 69 #[.val (.int i0), .val (.int i1), .val (.int i2), .val (.int i3), .val (.int i4), .val (.int i5), .val (.ref b33), .val (.int (if (¬ (i4 < i0) ∧ ¬ (i2 < i4) ∧ ¬ (i5 < i1) ∧ ¬ (i3 < i5)) then 1 else 0 : Int32)), .val (.int (0 : Int32))] [(.int (1 : Int32))]))
      exact own_ret X48 hx hlk (t := .boolean) hret rfl (Or.inl ⟨rfl, by simp, _, rfl⟩) (hb hby at_69) (by decide) (by decide) ⟨rfl, N48⟩
  · skip
    refine own_st (fun t k => XS.ifYes X47.here hx rfl (pc0 := 37) (pc' := 54) rfl (hb hby at_37) rfl ((if0 _ _).trans (teq (if_neg hA : (if (¬ (i4 < i0) ∧ ¬ (i2 < i4)) then 1 else 0 : Int32) = (0 : Int32))).1) (by decide) (by decide) k) ?_
    show own_Run p e below s _ _ _ (T47.setTop (mkF m 54 #[.val (.int i0), .val (.int i1), .val (.int i2), .val (.int i3), .val (.int i4), .val (.int i5), .val (.ref b33), .val (.int (if (¬ (i4 < i0) ∧ ¬ (i2 < i4) ∧ ¬ (i5 < i1) ∧ ¬ (i3 < i5)) then 1 else 0 : Int32)), .unset] []))
    refine own_st (fun t k => XS.iconst X47.here hx rfl (hb hby at_54) k) ?_
    show own_Run p e below s _ _ _ (T47.setTop (mkF m 55 #[.val (.int i0), .val (.int i1), .val (.int i2), .val (.int i3), .val (.int i4), .val (.int i5), .val (.ref b33), .val (.int (if (¬ (i4 < i0) ∧ ¬ (i2 < i4) ∧ ¬ (i5 < i1) ∧ ¬ (i3 < i5)) then 1 else 0 : Int32)), .unset] [(.int (0 : Int32))]))
    refine own_st (fun t k => XS.istore X47.here hx rfl (hb hby at_55) rfl (l' := #[.val (.int i0), .val (.int i1), .val (.int i2), .val (.int i3), .val (.int i4), .val (.int i5), .val (.ref b33), .val (.int (if (¬ (i4 < i0) ∧ ¬ (i2 < i4) ∧ ¬ (i5 < i1) ∧ ¬ (i3 < i5)) then 1 else 0 : Int32)), .val (.int (0 : Int32))]) rfl k) ?_
    show own_Run p e below s _ _ _ (T47.setTop (mkF m 57 #[.val (.int i0), .val (.int i1), .val (.int i2), .val (.int i3), .val (.int i4), .val (.int i5), .val (.ref b33), .val (.int (if (¬ (i4 < i0) ∧ ¬ (i2 < i4) ∧ ¬ (i5 < i1) ∧ ¬ (i3 < i5)) then 1 else 0 : Int32)), .val (.int (0 : Int32))] []))
    refine own_st (fun t k => XS.iload X47.here hx rfl (hb hby at_57) rfl k) ?_
    show own_Run p e below s _ _ _ (T47.setTop (mkF m 59 #[.val (.int i0), .val (.int i1), .val (.int i2), .val (.int i3), .val (.int i4), .val (.int i5), .val (.ref b33), .val (.int (if (¬ (i4 < i0) ∧ ¬ (i2 < i4) ∧ ¬ (i5 < i1) ∧ ¬ (i3 < i5)) then 1 else 0 : Int32)), .val (.int (0 : Int32))] [(.int (if (¬ (i4 < i0) ∧ ¬ (i2 < i4) ∧ ¬ (i5 < i1) ∧ ¬ (i3 < i5)) then 1 else 0 : Int32))]))
    refine own_st (fun t k => XS.iload X47.here hx rfl (hb hby at_59) rfl k) ?_
    show own_Run p e below s _ _ _ (T47.setTop (mkF m 61 #[.val (.int i0), .val (.int i1), .val (.int i2), .val (.int i3), .val (.int i4), .val (.int i5), .val (.ref b33), .val (.int (if (¬ (i4 < i0) ∧ ¬ (i2 < i4) ∧ ¬ (i5 < i1) ∧ ¬ (i3 < i5)) then 1 else 0 : Int32)), .val (.int (0 : Int32))] [(.int (0 : Int32)), (.int (if (¬ (i4 < i0) ∧ ¬ (i2 < i4) ∧ ¬ (i5 < i1) ∧ ¬ (i3 < i5)) then 1 else 0 : Int32))]))
    refine own_st (fun t k => XS.icmpNo X47.here hx rfl (hb hby at_61) rfl (teq (by first | exact if_pos ⟨hA.1, hA.2, hB.1, hB.2⟩ | exact if_neg (fun z => hB ⟨z.2.2.1, z.2.2.2⟩) | exact if_neg (fun z => hA ⟨z.1, z.2.1⟩) : (if (¬ (i4 < i0) ∧ ¬ (i2 < i4) ∧ ¬ (i5 < i1) ∧ ¬ (i3 < i5)) then 1 else 0 : Int32) = (0 : Int32))).2 k) ?_
    show own_Run p e below s _ _ _ (T47.setTop (mkF m 64 #[.val (.int i0), .val (.int i1), .val (.int i2), .val (.int i3), .val (.int i4), .val (.int i5), .val (.ref b33), .val (.int (if (¬ (i4 < i0) ∧ ¬ (i2 < i4) ∧ ¬ (i5 < i1) ∧ ¬ (i3 < i5)) then 1 else 0 : Int32)), .val (.int (0 : Int32))] []))
    refine own_st (fun t k => XS.iconst X47.here hx rfl (hb hby at_64) k) ?_
    show own_Run p e below s _ _ _ (T47.setTop (mkF m 65 #[.val (.int i0), .val (.int i1), .val (.int i2), .val (.int i3), .val (.int i4), .val (.int i5), .val (.ref b33), .val (.int (if (¬ (i4 < i0) ∧ ¬ (i2 < i4) ∧ ¬ (i5 < i1) ∧ ¬ (i3 < i5)) then 1 else 0 : Int32)), .val (.int (0 : Int32))] [(.int (1 : Int32))]))
    refine own_st (fun t k => XS.goto X47.here hx rfl (pc0 := 65) (pc' := 69) rfl (hb hby at_65) (by decide) (by decide) k) ?_
    show own_Run p e below s _ _ _ (T47.setTop (mkF m 69 #[.val (.int i0), .val (.int i1), .val (.int i2), .val (.int i3), .val (.int i4), .val (.int i5), .val (.ref b33), .val (.int (if (¬ (i4 < i0) ∧ ¬ (i2 < i4) ∧ ¬ (i5 < i1) ∧ ¬ (i3 < i5)) then 1 else 0 : Int32)), .val (.int (0 : Int32))] [(.int (1 : Int32))]))
    exact own_ret X47 hx hlk (t := .boolean) hret rfl (Or.inl ⟨rfl, by simp, _, rfl⟩) (hb hby at_69) (by decide) (by decide) ⟨rfl, N47⟩
set_option maxRecDepth 65536 in
set_option maxHeartbeats 40000000 in
theorem own_comes_1 {Post : Tables → Env → Array Value → State → Outcome → State → Prop} (hpost : ∀ tb e args s v u, (limb_1_1.after args s (.returned v) u = true ∧ limb_1_2.after args s (.returned v) u = true ∧ True) → FrameEnd s (.returned v) u (Jvm.fieldLocs frame_1_writes args s ++ Jvm.arrayLocs frame_1_arrays args s ++ Jvm.staticLocs frame_1_statics s) 16 128 → Post tb e args s (.returned v) u) :
    ArmFor flags0 classFile x code maxLocals ret World_1 tables_1 room_1 Calls_1 rest_1 Pre_1 Post := by
  intro l hfl _ _ p e ha hc hk s m args below hf hA hF happ hP
  obtain ⟨hcalls, hrest, hpre⟩ := hP
  obtain ⟨-, -, -, hnamed, -, -, -, hat⟩ := (Spec.applies_iff hf).mp happ
  obtain ⟨hg, hn⟩ := and_e (Cond.before_iff.mp (show (Jvm.Cond.and given_1 narrow_1).before args s = true from hpre))
  obtain ⟨gv1, gv2⟩ := and_e hg
  obtain ⟨gv3, gv4⟩ := and_e gv2
  obtain ⟨gv5, gv6⟩ := and_e gv4
  obtain ⟨gv7, gv8⟩ := and_e gv6
  obtain ⟨gv9, gv10⟩ := and_e gv8
  obtain ⟨gv11, gv12⟩ := and_e gv10
  obtain ⟨w0, w1, w2, w3, w4, w5, rfl⟩ : ∃ w0 w1 w2 w3 w4 w5 : Value, args = #[w0, w1, w2, w3, w4, w5] := by
    have hs : args.size = 6 := by simpa [Cond.value, given_1] using gv1
    obtain ⟨L⟩ := args
    match L, hs with
    | [w0, w1, w2, w3, w4, w5], _ => exact ⟨w0, w1, w2, w3, w4, w5, rfl⟩
  have hw := fun d (hd : d ∈ tables_1) => atoms_spec (ws := Jvm.Cond.code x code maxLocals ret :: tables_1) hat d (List.mem_cons_of_mem _ hd)
  have hfit : Fit s := fun {y c} hc i hi => by
    obtain ⟨ha, rfl⟩ := Array.getElem?_eq_some_iff.mp hc
    have q := List.all_eq_true.mp ((Array.all_eq_true_iff_forall_mem.mp hF) _ (Array.getElem_mem ha)) i (List.mem_range.mpr hi)
    simpa [Array.getElem?_eq_getElem hi] using q
  obtain ⟨i0, ei0⟩ := is_v gv3
  obtain rfl : w0 = (.int i0) := Option.some.inj ei0
  obtain ⟨i1, ei1⟩ := is_v gv5
  obtain rfl : w1 = (.int i1) := Option.some.inj ei1
  obtain ⟨i2, ei2⟩ := is_v gv7
  obtain rfl : w2 = (.int i2) := Option.some.inj ei2
  obtain ⟨i3, ei3⟩ := is_v gv9
  obtain rfl : w3 = (.int i3) := Option.some.inj ei3
  obtain ⟨i4, ei4⟩ := is_v gv11
  obtain rfl : w4 = (.int i4) := Option.some.inj ei4
  obtain ⟨i5, ei5⟩ := is_v gv12
  obtain rfl : w5 = (.int i5) := Option.some.inj ei5
  obtain ⟨n, o, h1, h2, h3, _, L, rfl, ⟨rfl, N⟩, hq⟩ := own_rm0 l s _ hw tables_1 i0 i1 i2 i3 i4 i5 s.heap s.heap.size (Nat.le_refl _) (Old.start s)  p e ha hc hk s m _ below hf ((Spec.applies_iff_loose hf).mp happ).1 ⟨rfl, State.Warmed39.refl s, rfl⟩ trivial
  refine ⟨n, _, h1, h2, h3, hpost _ _ _ _ _ _ ⟨Cond.after_iff.mpr rfl, Cond.after_iff.mpr (eq_i res_at (Term.int_eval (1)) rfl), trivial⟩ ⟨hq.1, hq.2.1, (hq.2.2.sift fun y hy => Or.inr (N y hy)).mono (by decide) (by decide)⟩⟩
theorem main_1_1 : Claimed_1_1 := own_comes_1 fun _ _ _ _ _ _ h hF => ⟨h.1, hF⟩
theorem main_1_2 : Claimed_1_2 := own_comes_1 fun _ _ _ _ _ _ h hF => ⟨h.2.1, hF⟩
end Jvm.Pilot.@@N@@
namespace Jvm.Pilot.@@N@@
open Jvm Jvm.ClassFile Sem Op Lib Jvm.Free Jvm.Stand Jvm.Pilot.@@N@@.Jvm.D
/-! MADE BY PROGRAM (witnessworld.py) out of the Statement's table words and the real class files: 10 classes; the members and pool entries that the words name. The judged class is class 1, her method 2. -/
namespace start1
open Jvm.ClassFile
def u (s : String) : CpInfo := .utf8 (stringToUtf16 s)
/-- a pool by its gaps: so many unusable entries, then the entry; so many at the end -/
def gap : Nat → List CpInfo → List CpInfo
  | 0, r => r
  | n + 1, r => .unusable :: gap n r
def poolList (es : List (Nat × CpInfo)) (last : Nat) : List CpInfo := es.foldr (fun e r => gap e.1 (e.2 :: r)) (gap last [])
def pool (es : List (Nat × CpInfo)) (last : Nat) : Array CpInfo := ⟨poolList es last⟩
def fileOf (pool : Array CpInfo) (this : Nat) (attrs : Array Attribute := #[]) (ms : Array MethodInfo := #[]) (fl : Nat := 33) (sup : Nat := 0) (ifs : Array Nat := #[]) (fds : Array FieldInfo := #[]) : ClassFile where
  minorVersion := 0
  majorVersion := 65
  constantPool := pool
  accessFlags := fl
  thisClass := this
  superClass := sup
  interfaces := ifs
  fields := fds
  methods := ms
  attributes := attrs
def plain (name : String) (sup : Option ClassId) : Class where
  name := name
  kind := .ordinary
  loader := none
  accessFlags := 33
  super := sup
  interfaces := #[]
  cf := none
  fields := #[]
  methods := #[]
  instanceTypes := #[]
  staticTypes := #[]
  resolved := #[]
  callSites := []
  init := .initialized
  statics := none
  mirror := none

def pool0 : Array CpInfo := pool [(5, u "<init>"), (0, u "()V"), (1, .class_ 10), (1, u "java/lang/Object")] 113

def k0c0 : Code := { maxStack := 0, maxLocals := 1, code := object_method_1_code, exceptionTable := #[], attributes := #[] }
def k0m0 : Method := { name := "<init>", desc := "()V", sig := { parameters := [], returnType := none }, accessFlags := 1, code := some k0c0 }
/-- java/lang/Object -/
def k0 : Class := { plain "java/lang/Object" none with
  accessFlags := 33
  interfaces := #[]
  cf := some (fileOf pool0 8 #[] #[{ accessFlags := 1, nameIndex := 5, descriptorIndex := 6, attributes := #[] }] 33 0 #[] #[])
  fields := #[]
  methods := #[k0m0]
  instanceTypes := #[]
  staticTypes := #[]
  resolved := Array.replicate 124 none
  statics := none }

def pool1 : Array CpInfo := pool [(2, .class_ 4), (1, u "java/lang/Object"), (0, u "<init>"), (0, u "()V"), (0, .class_ 8), (0, u "com/example/kerb2d/kerb2d/geometry/Bounds"), (0, .methodref 7 10), (0, .nameAndType 5 11), (0, u "(DDDD)V"), (0, .methodref 7 13), (0, .nameAndType 14 15), (0, u "covers"), (0, u "(DD)Z"), (0, .methodref 17 18), (0, .class_ 19), (0, .nameAndType 20 21), (0, u "com/example/kerb2d/kerb2d/geometry/BoundsCoversPinLaw"), (0, u "between"), (0, u "(III)Z"), (3, u "law"), (0, u "(IIIIII)Z")] 2

def k1m0 : Method := { name := "<init>", desc := "()V", sig := { parameters := [], returnType := none }, accessFlags := 1, code := none }
def k1c1 : Code := { maxStack := 4, maxLocals := 7, code := method_2_code, exceptionTable := #[], attributes := #[] }
def k1m1 : Method := { name := "between", desc := "(III)Z", sig := { parameters := [.int, .int, .int], returnType := some .boolean }, accessFlags := 10, code := some k1c1 }
def k1c2 : Code := { maxStack := 10, maxLocals := 9, code := code, exceptionTable := #[], attributes := #[] }
def k1m2 : Method := { name := "law", desc := "(IIIIII)Z", sig := { parameters := [.int, .int, .int, .int, .int, .int], returnType := some .boolean }, accessFlags := 9, code := some k1c2 }
/-- com/example/kerb2d/kerb2d/geometry/BoundsCoversPinLaw -/
def k1 : Class := { plain "com/example/kerb2d/kerb2d/geometry/BoundsCoversPinLaw" (some 0) with
  accessFlags := 49
  interfaces := #[]
  cf := some (fileOf pool1 17 #[] #[{ accessFlags := 1, nameIndex := 5, descriptorIndex := 6, attributes := #[] }, { accessFlags := 10, nameIndex := 20, descriptorIndex := 21, attributes := #[] }, { accessFlags := 9, nameIndex := 25, descriptorIndex := 26, attributes := #[] }] 49 2 #[] #[])
  fields := #[]
  methods := #[k1m0, k1m1, k1m2]
  instanceTypes := #[]
  staticTypes := #[]
  resolved := Array.replicate 29 none
  statics := none }

def pool2 : Array CpInfo := pool [(1, .methodref 2 3), (0, .class_ 4), (0, .nameAndType 5 6), (0, u "java/lang/Object"), (0, u "<init>"), (0, u "()V"), (0, .class_ 8), (0, u "java/lang/Record")] 13

def k2c0 : Code := { maxStack := 1, maxLocals := 1, code := jdk_30_method_1_code, exceptionTable := #[], attributes := #[] }
def k2m0 : Method := { name := "<init>", desc := "()V", sig := { parameters := [], returnType := none }, accessFlags := 4, code := some k2c0 }
/-- java/lang/Record -/
def k2 : Class := { plain "java/lang/Record" (some 0) with
  accessFlags := 1057
  interfaces := #[]
  cf := some (fileOf pool2 7 #[] #[{ accessFlags := 4, nameIndex := 5, descriptorIndex := 6, attributes := #[] }] 1057 2 #[] #[])
  fields := #[]
  methods := #[k2m0]
  instanceTypes := #[]
  staticTypes := #[]
  resolved := Array.replicate 22 none
  statics := none }

def pool3 : Array CpInfo := pool [(1, .methodref 2 3), (0, .class_ 4), (0, .nameAndType 5 6), (0, u "java/lang/Record"), (0, u "<init>"), (0, u "()V"), (0, .fieldref 8 9), (0, .class_ 10), (0, .nameAndType 11 12), (0, u "com/example/kerb2d/kerb2d/geometry/Bounds"), (0, u "minX"), (0, u "D"), (0, .fieldref 8 14), (0, .nameAndType 15 12), (0, u "minY"), (0, .fieldref 8 17), (0, .nameAndType 18 12), (0, u "maxX"), (0, .fieldref 8 20), (0, .nameAndType 21 12), (0, u "maxY"), (52, u "(DDDD)V"), (20, u "covers"), (0, u "(DD)Z")] 26

def k3c0 : Code := { maxStack := 3, maxLocals := 9, code := prog_28_method_1_code, exceptionTable := #[], attributes := #[] }
def k3m0 : Method := { name := "<init>", desc := "(DDDD)V", sig := { parameters := [.double, .double, .double, .double], returnType := none }, accessFlags := 1, code := some k3c0 }
def k3c1 : Code := { maxStack := 4, maxLocals := 5, code := prog_28_method_3_code, exceptionTable := #[], attributes := #[] }
def k3m1 : Method := { name := "covers", desc := "(DD)Z", sig := { parameters := [.double, .double], returnType := some .boolean }, accessFlags := 1, code := some k3c1 }
/-- com/example/kerb2d/kerb2d/geometry/Bounds -/
def k3 : Class := { plain "com/example/kerb2d/kerb2d/geometry/Bounds" (some 2) with
  accessFlags := 49
  interfaces := #[]
  cf := some (fileOf pool3 8 #[] #[{ accessFlags := 1, nameIndex := 5, descriptorIndex := 74, attributes := #[] }, { accessFlags := 1, nameIndex := 95, descriptorIndex := 96, attributes := #[] }] 49 2 #[] #[{ accessFlags := 18, nameIndex := 11, descriptorIndex := 12, attributes := #[] }, { accessFlags := 18, nameIndex := 15, descriptorIndex := 12, attributes := #[] }, { accessFlags := 18, nameIndex := 18, descriptorIndex := 12, attributes := #[] }, { accessFlags := 18, nameIndex := 21, descriptorIndex := 12, attributes := #[] }])
  fields := #[{ name := "minX", type := .double, accessFlags := 18, slot := 0, constantValue := 0 }, { name := "minY", type := .double, accessFlags := 18, slot := 1, constantValue := 0 }, { name := "maxX", type := .double, accessFlags := 18, slot := 2, constantValue := 0 }, { name := "maxY", type := .double, accessFlags := 18, slot := 3, constantValue := 0 }]
  methods := #[k3m0, k3m1]
  instanceTypes := #[.double, .double, .double, .double]
  staticTypes := #[]
  resolved := Array.replicate 123 none
  statics := none }

def pool4 : Array CpInfo := pool [(1, u "java/lang/Cloneable"), (0, .class_ 1), (0, u "java/lang/Object"), (0, .class_ 3)] 3

/-- java/lang/Cloneable -/
def k4 : Class := { plain "java/lang/Cloneable" (some 0) with
  accessFlags := 1537
  interfaces := #[]
  cf := some (fileOf pool4 2 #[] #[] 1537 4 #[] #[])
  fields := #[]
  methods := #[]
  instanceTypes := #[]
  staticTypes := #[]
  resolved := Array.replicate 8 none
  statics := none }

def pool5 : Array CpInfo := pool [(1, u "java/io/Serializable"), (0, .class_ 1), (0, u "java/lang/Object"), (0, .class_ 3)] 3

/-- java/io/Serializable -/
def k5 : Class := { plain "java/io/Serializable" (some 0) with
  accessFlags := 1537
  interfaces := #[]
  cf := some (fileOf pool5 2 #[] #[] 1537 4 #[] #[])
  fields := #[]
  methods := #[]
  instanceTypes := #[]
  staticTypes := #[]
  resolved := Array.replicate 8 none
  statics := none }

/-- the primitive byte -/
def k6 : Class := { plain "byte" none with kind := .primitive 'B', accessFlags := 0x411 }
/-- [B -/
def k7 : Class := { plain "[B" (some 0) with kind := .array 6 .byte, interfaces := #[4, 5], accessFlags := 1041 }

/-- the primitive int -/
def k8 : Class := { plain "int" none with kind := .primitive 'I', accessFlags := 0x411 }
/-- [I -/
def k9 : Class := { plain "[I" (some 0) with kind := .array 8 .int, interfaces := #[4, 5], accessFlags := 1041 }

def heap : Heap := #[]
def classes : Array Class := #[k0, k1, k2, k3, k4, k5, k6, k7, k8, k9]
def interned : List (Array UInt16 × Addr) := []
def slotsUsed : Nat := 0
def theMethod : MethodId := ⟨1, 2⟩
def args0 : Array Value := #[.int 1, .int 2, .int 3, .int 4, .int 2, .int 3]
def aboutOver (below : List Frame) : State where
  vm := { classes := classes, interned := interned.toArray }
  heap := heap
  slotsUsed := slotsUsed
  threads := #[{ frames := .invoking theMethod args0 :: below }]
def below0 : List Frame := [.native { method := ⟨0, 0⟩, args := #[] }]
def about1 : State := aboutOver below0
def p0 : Program := .bare "" "" ""
def e0 : Env := launch0.env 0 0 0
theorem w_frames : about1.frames = Frame.invoking theMethod args0 :: below0 := rfl
set_option maxRecDepth 65536 in
theorem w_args : argsFit about1.vm theMethod args0 = true := by decide +kernel
set_option maxRecDepth 65536 in
theorem w_heap : heapFits about1 = true := by decide +kernel
set_option maxRecDepth 65536 in
theorem w_runnable : about1.curStatus? = some .runnable := by decide +kernel
set_option maxRecDepth 65536 in
theorem w_alone : about1.alone = true := by decide +kernel
set_option maxRecDepth 65536 in
theorem w_named : about1.methodNamed? x = some theMethod := by decide +kernel
set_option maxRecDepth 65536 in
theorem w_hears : about1.hears theMethod below0 = true := by decide +kernel
set_option maxRecDepth 65536 in
theorem w_ripe : about1.ripe theMethod args0 below0 = true := by decide +kernel
theorem w_running : about1.status = .running := rfl
set_option maxRecDepth 65536 in
theorem w_room : about1.hasRoom e0.platform room_1 = true :=
  launch0.hasRoom_least _ room_1 (by decide +kernel) (by decide +kernel) (by decide +kernel) (by decide +kernel) (by decide +kernel) (by decide +kernel)
theorem allAtoms_all (ts : List Jvm.Cond) (a : Array Jvm.Value) (st : Jvm.State) : (allAtoms ts).before a st = ts.all (fun c => c.before a st) := by
  induction ts with
  | nil => rfl
  | cons c t ih =>
    show (Jvm.Cond.and c (allAtoms t)).before a st = _
    rw [Jvm.Cond.before_and, ih, List.all_cons]
def words1 : List Jvm.Cond := Jvm.Cond.code x code maxLocals ret :: tables_1
/-- a 'code' word, met by the world's own term for the bytes: nothing is compared byte by byte -/
theorem code_word {y : MethodName} {bytes : ByteArray} {mx : Nat} {rt : Option FieldType} {a : Array Value} {s : State} {m : MethodId} {meth : Method} {c : Code} (h1 : s.methodNamed? y = some m) (h2 : s.vm.method? m = some meth) (h3 : meth.code = some c) (h4 : c.code = bytes)
    (h5 : (c.maxLocals == mx && c.exceptionTable.isEmpty && decide (c.maxStack ≤ mostOperands) && decide (meth.sig.returnType = rt) && !meth.locks && decide (parseMethodDescriptor y.desc = some meth.sig)) = true) : (Jvm.Cond.code y bytes mx rt).before a s = true := by
  simp only [Bool.and_eq_true, beq_iff_eq, Bool.not_eq_true', decide_eq_true_eq] at h5
  obtain ⟨⟨⟨⟨⟨g1, g2⟩, g3⟩, g4⟩, g5⟩, g6⟩ := h5
  simp [Cond.before, Cond.holds, Cond.value, h1, h2, h3, h4, g1, g2, g3, g4, g5, g6]
def isCode : Jvm.Cond → Bool
  | .code _ _ _ _ => true
  | _ => false
theorem all_split {L : List Jvm.Cond} {P : Jvm.Cond → Bool} (h1 : L.all (fun c => isCode c || P c) = true) (h2 : ∀ c ∈ L.filter isCode, P c = true) : L.all P = true := by
  refine List.all_eq_true.mpr fun c hc => ?_
  have h := List.all_eq_true.mp h1 c hc
  rcases Bool.eq_false_or_eq_true (isCode c) with hi | hi
  · exact h2 c (List.mem_filter.mpr ⟨hc, hi⟩)
  · simpa [hi] using h
set_option maxRecDepth 65536 in
theorem w_c0 : (Jvm.Cond.code x code maxLocals ret).before args0 about1 = true := code_word (m := ⟨1, 2⟩) (meth := k1m2) (c := k1c2) (by decide +kernel) rfl rfl rfl (by decide +kernel)
set_option maxRecDepth 65536 in
theorem w_c1 : (Jvm.Cond.code ({ cls := "com/example/kerb2d/kerb2d/geometry/Bounds", name := "<init>", desc := "(DDDD)V" } : Jvm.MethodName) prog_28_method_1_code (9 : Nat) (Option.none : Option Jvm.ClassFile.FieldType)).before args0 about1 = true := code_word (m := ⟨3, 0⟩) (meth := k3m0) (c := k3c0) (by decide +kernel) rfl rfl rfl (by decide +kernel)
set_option maxRecDepth 65536 in
theorem w_c2 : (Jvm.Cond.code ({ cls := "java/lang/Record", name := "<init>", desc := "()V" } : Jvm.MethodName) jdk_30_method_1_code (1 : Nat) (Option.none : Option Jvm.ClassFile.FieldType)).before args0 about1 = true := code_word (m := ⟨2, 0⟩) (meth := k2m0) (c := k2c0) (by decide +kernel) rfl rfl rfl (by decide +kernel)
set_option maxRecDepth 65536 in
theorem w_c3 : (Jvm.Cond.code ({ cls := "java/lang/Object", name := "<init>", desc := "()V" } : Jvm.MethodName) object_method_1_code (1 : Nat) (Option.none : Option Jvm.ClassFile.FieldType)).before args0 about1 = true := code_word (m := ⟨0, 0⟩) (meth := k0m0) (c := k0c0) (by decide +kernel) rfl rfl rfl (by decide +kernel)
set_option maxRecDepth 65536 in
theorem w_c4 : (Jvm.Cond.code ({ cls := "com/example/kerb2d/kerb2d/geometry/Bounds", name := "covers", desc := "(DD)Z" } : Jvm.MethodName) prog_28_method_3_code (5 : Nat) (Option.some Jvm.ClassFile.FieldType.boolean)).before args0 about1 = true := code_word (m := ⟨3, 1⟩) (meth := k3m1) (c := k3c1) (by decide +kernel) rfl rfl rfl (by decide +kernel)
set_option maxRecDepth 65536 in
theorem w_c5 : (Jvm.Cond.code ({ cls := "com/example/kerb2d/kerb2d/geometry/BoundsCoversPinLaw", name := "between", desc := "(III)Z" } : Jvm.MethodName) method_2_code (7 : Nat) (Option.some Jvm.ClassFile.FieldType.boolean)).before args0 about1 = true := code_word (m := ⟨1, 1⟩) (meth := k1m1) (c := k1c1) (by decide +kernel) rfl rfl rfl (by decide +kernel)
def codes1 : List Jvm.Cond := [Jvm.Cond.code x code maxLocals ret, Jvm.Cond.code ({ cls := "com/example/kerb2d/kerb2d/geometry/Bounds", name := "<init>", desc := "(DDDD)V" } : Jvm.MethodName) prog_28_method_1_code (9 : Nat) (Option.none : Option Jvm.ClassFile.FieldType), Jvm.Cond.code ({ cls := "java/lang/Record", name := "<init>", desc := "()V" } : Jvm.MethodName) jdk_30_method_1_code (1 : Nat) (Option.none : Option Jvm.ClassFile.FieldType), Jvm.Cond.code ({ cls := "java/lang/Object", name := "<init>", desc := "()V" } : Jvm.MethodName) object_method_1_code (1 : Nat) (Option.none : Option Jvm.ClassFile.FieldType), Jvm.Cond.code ({ cls := "com/example/kerb2d/kerb2d/geometry/Bounds", name := "covers", desc := "(DD)Z" } : Jvm.MethodName) prog_28_method_3_code (5 : Nat) (Option.some Jvm.ClassFile.FieldType.boolean), Jvm.Cond.code ({ cls := "com/example/kerb2d/kerb2d/geometry/BoundsCoversPinLaw", name := "between", desc := "(III)Z" } : Jvm.MethodName) method_2_code (7 : Nat) (Option.some Jvm.ClassFile.FieldType.boolean)]
set_option maxRecDepth 65536 in
theorem codes_eq : words1.filter isCode = codes1 := rfl
theorem w_codes : ∀ c ∈ words1.filter isCode, c.before args0 about1 = true := by
  rw [codes_eq]
  intro c hc
  simp only [codes1, List.mem_cons, List.not_mem_nil, or_false] at hc
  rcases hc with rfl | rfl | rfl | rfl | rfl | rfl
  · exact w_c0
  · exact w_c1
  · exact w_c2
  · exact w_c3
  · exact w_c4
  · exact w_c5
set_option maxRecDepth 65536 in
theorem w_t1 : (words1.take 24).all (fun c => isCode c || c.before args0 about1) = true := by decide +kernel
set_option maxRecDepth 65536 in
theorem w_t2 : (words1.drop 24).all (fun c => isCode c || c.before args0 about1) = true := by decide +kernel
theorem w_tables : (allAtoms (Jvm.Cond.code x code maxLocals ret :: tables_1)).before args0 about1 = true := by
  rw [allAtoms_all]
  show words1.all (fun c => c.before args0 about1) = true
  refine all_split ?_ w_codes
  rw [← List.take_append_drop 24 words1, List.all_append, w_t1, w_t2]
  rfl
set_option maxRecDepth 65536 in
theorem w_case : (Jvm.Cond.and given_1 narrow_1).before args0 about1 = true := by decide +kernel
theorem w_applies : (headSpec (Jvm.Cond.code x code maxLocals ret :: tables_1) room_1).applies x e0.platform about1 = true :=
  (Spec.applies_iff w_frames).mpr ⟨w_running, w_runnable, w_alone, w_named, w_hears, w_ripe, w_room, w_tables⟩
theorem atStart : AtStart classFile x code maxLocals ret World_1 tables_1 room_1 Calls_1 rest_1 Pre_1 launch0 p0 e0 about1 theMethod args0 below0 :=
  ⟨lists_1, trivial, launch0.admits_env _ _ _, launch0.least_env, fairChoices_fair.cas, fairChoices_fair.clock, w_frames, w_args, w_heap, w_applies, trivial, trivial, w_case⟩
end start1
theorem witness_1 : WitnessClaimed_1 := ⟨start1.p0, start1.e0, start1.about1, start1.theMethod, start1.args0, start1.below0, start1.atStart⟩
end Jvm.Pilot.@@N@@
