import JvmDerived
import JvmDerived.Pilot.@@N@@Statement
import JvmDerived.Pilot.@@N@@Code
set_option linter.unusedVariables false
set_option linter.unusedSimpArgs false
namespace Jvm.Pilot.@@N@@
open Jvm Jvm.ClassFile Sem Op Lib Jvm.Free Jvm.Stand Jvm.LawKit Jvm.RoadKit Bundle Jvm.Pilot.@@N@@.Jvm.D
def own_Run (p : Program) (e : Env) (below : List Frame) (s : State) (Q : Option Value → Heap → List Loc → Prop) (ck sk : Nat) (U : State) : Prop :=
  ∃ s₂ o, Steps p.tables e below U s₂ ∧ s₂.status = .running ∧ Ended s₂ below o ∧ ∃ v L, o = .returned v ∧ Q v s₂.heap L ∧ FrameEnd s o s₂ L ck sk
section OwnLayer
variable {p : Program} {l : Launch} {e : Env} {R : Room} {s : State} {m : MethodId} {args : Array Value} {below : List Frame} {meth : Method} {c : Code} {T : State} {locs : List Loc} {cells slots : Nat} {Z : State} {a0 : Array Value} {h : Heap} {Q : Option Value → Heap → List Loc → Prop} {ck sk : Nat}
theorem own_st {U U' : State} (hh : ∀ t, Steps p.tables e below U' t → Steps p.tables e below U t) (K : own_Run p e below s Q ck sk U') : own_Run p e below s Q ck sk U := by
  obtain ⟨s2, o, h1, r⟩ := K
  exact ⟨s2, o, hh _ h1, r⟩
theorem own_topI {pc : Nat} {Ls : Array Slot} {st : List Value} {v v' : Int32} (hv : v = v') (K : own_Run p e below s Q ck sk (T.setTop (mkF m pc Ls (.int v' :: st)))) : own_Run p e below s Q ck sk (T.setTop (mkF m pc Ls (.int v :: st))) := hv ▸ K
theorem own_topJ {pc : Nat} {Ls : Array Slot} {st : List Value} {v v' : Int64} (hv : v = v') (K : own_Run p e below s Q ck sk (T.setTop (mkF m pc Ls (.long v' :: st)))) : own_Run p e below s Q ck sk (T.setTop (mkF m pc Ls (.long v :: st))) := hv ▸ K
theorem own_topD {pc : Nat} {Ls : Array Slot} {st : List Value} {v v' : UInt64} (hv : v = v') (K : own_Run p e below s Q ck sk (T.setTop (mkF m pc Ls (.double v' :: st)))) : own_Run p e below s Q ck sk (T.setTop (mkF m pc Ls (.double v :: st))) := hv ▸ K
theorem own_ret (X : Stand p l e R s m args below meth c T locs cells slots) (hx : p.tables.exec = Jvm.exec) (hlk : meth.locks = false) {pc : Nat} {Ls : Array Slot} {w : Value} {t : FieldType} {i : Instr} {rest : List Value} (hret : meth.sig.returnType = some t) (hn : narrow t w = w)
    (hi : (i = .ireturn ∧ (t = .int ∨ t = .boolean ∨ t = .byte ∨ t = .char ∨ t = .short) ∧ ∃ z, w = .int z) ∨ (i = .lreturn ∧ t = .long ∧ ∃ z, w = .long z) ∨ (i = .dreturn ∧ t = .double ∧ ∃ z, w = .double z) ∨ (i = .freturn ∧ t = .float ∧ ∃ z, w = .float z) ∨ (i = .areturn ∧ t.isReference = true ∧ w.isRef = true))
    (hd : decode c.code pc = .ok (i, 1)) (hc : cells ≤ ck) (hs : slots ≤ sk) (hq : Q (some w) T.heap locs) : own_Run p e below s Q ck sk (T.setTop (mkF m pc Ls (w :: rest))) := by
  obtain ⟨fs, hr, hrun, hended, hW, hsame⟩ := X.leave (v := some w) (fun q => by rw [hret] at q; cases q) hlk
  exact ⟨_, _, retOut X hx hret hn hi hd hr, hrun, hended, _, _, rfl, hq, ⟨_, rfl⟩, hW, hsame.mono hc hs⟩
theorem own_retV (X : Stand p l e R s m args below meth c T locs cells slots) (hx : p.tables.exec = Jvm.exec) (hlk : meth.locks = false) {pc : Nat} {Ls : Array Slot} (hret : meth.sig.returnType = none)
    (hd : decode c.code pc = .ok (.return_, 1)) (hc : cells ≤ ck) (hs : slots ≤ sk) (hq : Q none T.heap locs) : own_Run p e below s Q ck sk (T.setTop (mkF m pc Ls [])) := by
  obtain ⟨fs, hr, hrun, hended, hW, hsame⟩ := X.leave (v := none) (fun _ => rfl) hlk
  exact ⟨_, _, X.returnOut hx hret hd hr, hrun, hended, _, _, rfl, hq, ⟨_, rfl⟩, hW, hsame.mono hc hs⟩
theorem own_body {y : MethodName} {bytes : ByteArray} {maxL : Nat} {ret : Option FieldType} {ws : List Jvm.Cond} {rm : Room} {as' : Array Value} {h0 : Heap} (hpl : plainFor y = true)
    (hbody : ∀ (p : Program) (e : Env) (s : State) (m : MethodId) (below : List Frame) (meth : Method) (c : Code) (s₁ : State), p.tables.exec = Jvm.exec → c.code = bytes → c.maxLocals = maxL → Z.Warmed39 s.vm → s.vm.findClass y.cls = some m.cls → meth.name = y.name → meth.sig.returnType = ret → meth.locks = false → Stand p l e rm s m as' below meth c s₁ [] 0 0 → s₁.heap = h0 → own_Run p e below s Q rm.cells rm.slots (s₁.setTop (entryFrame m as' maxL))) :
    MetFree l y (head1 (Jvm.Cond.code y bytes maxL ret :: ws) rm) (fun a U => a = as' ∧ Z.Warmed39 U.vm ∧ U.heap = h0) (fun _ _ _ _ _ => True) (fun _ U o U' => ∃ v L, o = .returned v ∧ Q v U'.heap L ∧ FrameEnd U o U' L rm.cells rm.slots) := by
  refine MetFree.of_bodySF hpl hisR ?_
  intro p e s m args below meth c s₁ Bd hml0 hP hK
  obtain ⟨rfl, hZ, hh⟩ := hP
  exact hbody p e s m below meth c s₁ Bd.exec Bd.bytes hml0 hZ (findClass_of_methodNamed Bd.named) (name_of_methodNamed Bd.named Bd.method).1 Bd.returns Bd.notSynchronized (Stand.of_body Bd) (by rw [← hh, Bd.state]; rfl)
theorem own_callI (X : Stand p l e R s m args below meth c T locs cells slots) (hx : p.tables.exec = Jvm.exec) (hZ : Z.Warmed39 s.vm) {own : String} {idx : Nat} {y : MethodName} (hy1 : y.name = "<init>") (hown : s.vm.findClass own = some m.cls) (w1 : (Jvm.Cond.methodLink own idx y).before a0 Z = true) (w2 : (Jvm.Cond.instanceMethod y).before a0 Z = true)
    {bytes : ByteArray} {maxL : Nat} (w3 : (Jvm.Cond.code y bytes maxL none).before a0 Z = true) (wz : (Jvm.Cond.initialized y.cls).before a0 Z = true) (hy : y.cls ≠ "java/lang/invoke/MethodHandle" ∧ y.cls ≠ "java/lang/invoke/VarHandle") (eT : T.heap = h) {rm : Room} {Qc : Option Value → Heap → List Loc → Prop} {a : Addr} {argsL rest : List Value}
    (hM : MetFree l y (head1 [Jvm.Cond.code y bytes maxL none] rm) (fun b U => b = (Value.ref a :: argsL).toArray ∧ Z.Warmed39 U.vm ∧ U.heap = h) (fun _ _ _ _ _ => True) (fun _ U o U' => ∃ v L, o = .returned v ∧ Qc v U'.heap L ∧ FrameEnd U o U' L rm.cells rm.slots))
    {W : Nat} (hf : rm.frames + 1 ≤ R.frames) (hl : W + (maxL + 11) + rm.locals ≤ R.locals) {pc : Nat} {Ls : Array Slot} {st : List Value} (hsize : Ls.size = c.maxLocals) (hlen : ∀ sig, parseMethodDescriptor y.desc = some sig → argsL.length = sig.parameters.length) (hst : st = argsL.reverse ++ .ref a :: rest) (hW : (rest.map fun v => v.category).sum ≤ W) (hd : decode c.code pc = .ok (.invokespecial idx, 3)) (hc : cells + rm.cells ≤ R.cells) (hs : slots + rm.slots ≤ R.slots)
    (K : ∀ (T' : State) (v : Option Value) (L : List Loc), Stand p l e R s m args below meth c T' (locs ++ L) (cells + rm.cells) (slots + rm.slots) → Qc v T'.heap L → own_Run p e below s Q ck sk (T'.setTop (mkF m (pc + 3) Ls (v.toList ++ rest)))) :
    own_Run p e below s Q ck sk (T.setTop (mkF m pc Ls st)) := by
  obtain ⟨v, _, ⟨T', L', k', n'⟩, -, X', ⟨Lc, hQ, hl', hk', hn'⟩, st'⟩ := X.specialBack hx (y := y) hy1 hown (mvT hZ w1) (mvT hZ w2) (mvT hZ w3) hy (backOf (W := W) hM hZ w3 wz hf hl) (g := mkF m pc Ls st) rfl hsize (Steps.refl _) (a := a) (argsL := argsL) (rest := rest) hlen hst (by show 2 * 0 + _ ≤ _; omega) hd (fun _ _ => ⟨rfl, eT, hc, hs⟩)
  dsimp only [Pt.U, Pt.locs, Pt.cells, Pt.slots] at X' hl' hk' hn' st' hQ
  subst hl' hk' hn'
  exact own_st (fun t k => st'.trans k) (K T' v Lc X' hQ)
theorem own_callV (X : Stand p l e R s m args below meth c T locs cells slots) (hx : p.tables.exec = Jvm.exec) (hZ : Z.Warmed39 s.vm) {own C : String} {idx : Nat} {y : MethodName} (hown : s.vm.findClass own = some m.cls) (w1 : (Jvm.Cond.methodLink own idx y).before a0 Z = true) (w2 : (Jvm.Cond.declares y).before a0 Z = true) (w3 : (Jvm.Cond.selects C y y).before a0 Z = true) (w4 : (Jvm.Cond.instanceMethod y).before a0 Z = true)
    {bytes : ByteArray} {maxL : Nat} {ret : Option FieldType} (w5 : (Jvm.Cond.code y bytes maxL ret).before a0 Z = true) (wz : (Jvm.Cond.initialized y.cls).before a0 Z = true) (hy : y.cls ≠ "java/lang/invoke/MethodHandle" ∧ y.cls ≠ "java/lang/invoke/VarHandle") (eT : T.heap = h) {a : Addr} (E : Exa Z h a C) {rm : Room} {Qc : Option Value → Heap → List Loc → Prop} {argsL rest : List Value}
    (hM : MetFree l y (head1 [Jvm.Cond.code y bytes maxL ret] rm) (fun b U => b = (Value.ref a :: argsL).toArray ∧ Z.Warmed39 U.vm ∧ U.heap = h) (fun _ _ _ _ _ => True) (fun _ U o U' => ∃ v L, o = .returned v ∧ Qc v U'.heap L ∧ FrameEnd U o U' L rm.cells rm.slots))
    {W : Nat} (hf : rm.frames + 1 ≤ R.frames) (hl : W + (maxL + 11) + rm.locals ≤ R.locals) {pc : Nat} {Ls : Array Slot} {st : List Value} (hsize : Ls.size = c.maxLocals) (hlen : ∀ sig, parseMethodDescriptor y.desc = some sig → argsL.length = sig.parameters.length) (hst : st = argsL.reverse ++ .ref a :: rest) (hW : (rest.map fun v => v.category).sum ≤ W) (hd : decode c.code pc = .ok (.invokevirtual idx, 3)) (hc : cells + rm.cells ≤ R.cells) (hs : slots + rm.slots ≤ R.slots)
    (K : ∀ (T' : State) (v : Option Value) (L : List Loc), Stand p l e R s m args below meth c T' (locs ++ L) (cells + rm.cells) (slots + rm.slots) → Qc v T'.heap L → own_Run p e below s Q ck sk (T'.setTop (mkF m (pc + 3) Ls (v.toList ++ rest)))) :
    own_Run p e below s Q ck sk (T.setTop (mkF m pc Ls st)) := by
  obtain ⟨cq, kq, qa, qb, qc⟩ := isOf hZ eT E
  obtain ⟨v, _, ⟨T', L', k', n'⟩, -, X', ⟨Lc, hQ, hl', hk', hn'⟩, st'⟩ := X.virtualBack hx (y := y) (z := y) hown (mvT hZ w1) (mvT hZ w2) (notFace_of_selects (args := #[]) (mvT hZ w3)) (mvT hZ w3) (mvT hZ w4) hy (backOf (W := W) hM hZ w5 wz hf hl) qa qc (g := mkF m pc Ls st) rfl hsize (Steps.refl _) (argsL := argsL) (rest := rest) hlen hst (by show 2 * 0 + _ ≤ _; omega) hd (fun _ _ => ⟨rfl, eT, hc, hs⟩)
  dsimp only [Pt.U, Pt.locs, Pt.cells, Pt.slots] at X' hl' hk' hn' st' hQ
  subst hl' hk' hn'
  exact own_st (fun t k => st'.trans k) (K T' v Lc X' hQ)
theorem own_callS (X : Stand p l e R s m args below meth c T locs cells slots) (hx : p.tables.exec = Jvm.exec) (hZ : Z.Warmed39 s.vm) {own : String} {idx : Nat} {y : MethodName} (hown : s.vm.findClass own = some m.cls) (w1 : (Jvm.Cond.methodLink own idx y).before a0 Z = true) (w2 : (Jvm.Cond.static y).before a0 Z = true)
    {bytes : ByteArray} {maxL : Nat} {ret : Option FieldType} (w5 : (Jvm.Cond.code y bytes maxL ret).before a0 Z = true) (wz : (Jvm.Cond.initialized y.cls).before a0 Z = true) (hy : y.cls ≠ "java/lang/invoke/MethodHandle" ∧ y.cls ≠ "java/lang/invoke/VarHandle") (eT : T.heap = h) {rm : Room} {Qc : Option Value → Heap → List Loc → Prop} {argsL rest : List Value}
    (hM : MetFree l y (head1 [Jvm.Cond.code y bytes maxL ret] rm) (fun b U => b = argsL.toArray ∧ Z.Warmed39 U.vm ∧ U.heap = h) (fun _ _ _ _ _ => True) (fun _ U o U' => ∃ v L, o = .returned v ∧ Qc v U'.heap L ∧ FrameEnd U o U' L rm.cells rm.slots))
    {W : Nat} (hf : rm.frames + 1 ≤ R.frames) (hl : W + (maxL + 11) + rm.locals ≤ R.locals) {pc : Nat} {Ls : Array Slot} {st : List Value} (hsize : Ls.size = c.maxLocals) (hlen : ∀ sig, parseMethodDescriptor y.desc = some sig → argsL.length = sig.parameters.length) (hst : st = argsL.reverse ++ rest) (hW : (rest.map fun v => v.category).sum ≤ W) (hd : decode c.code pc = .ok (.invokestatic idx, 3)) (hc : cells + rm.cells ≤ R.cells) (hs : slots + rm.slots ≤ R.slots)
    (K : ∀ (T' : State) (v : Option Value) (L : List Loc), Stand p l e R s m args below meth c T' (locs ++ L) (cells + rm.cells) (slots + rm.slots) → Qc v T'.heap L → own_Run p e below s Q ck sk (T'.setTop (mkF m (pc + 3) Ls (v.toList ++ rest)))) :
    own_Run p e below s Q ck sk (T.setTop (mkF m pc Ls st)) := by
  obtain ⟨v, _, ⟨T', L', k', n'⟩, -, X', ⟨Lc, hQ, hl', hk', hn'⟩, st'⟩ := Jvm.LawKit.callS X hx (y := y) hown (mvT hZ w1) (mvT hZ w2) (mvT hZ wz) (mvT hZ w5) hy (backOf (W := W) hM hZ w5 wz hf hl) (g := mkF m pc Ls st) rfl hsize (argsL := argsL) (rest := rest) hlen hst (by show 2 * 0 + _ ≤ _; omega) hd (fun _ _ => ⟨rfl, eT, hc, hs⟩)
  dsimp only [Pt.U, Pt.locs, Pt.cells, Pt.slots] at X' hl' hk' hn' st' hQ
  subst hl' hk' hn'
  exact own_st st' (K T' v Lc X' hQ)
end OwnLayer
section OwnNums
open Jvm.FP Jvm.Free.Fl
theorem own_b53 (x : Int32) : B53 x.toInt64 := by
  have := x.le_toInt; have := x.toInt_lt
  unfold B53; rw [Int32.toInt_toInt64]; omega
theorem own_i64lt (x y : Int32) : x.toInt64 < y.toInt64 ↔ x < y := by
  rw [Int64.lt_iff_toInt_lt, Int32.lt_iff_toInt_lt, Int32.toInt_toInt64, Int32.toInt_toInt64]
theorem own_i64eq (x y : Int32) : x.toInt64 = y.toInt64 ↔ x = y := by
  rw [← Int64.toInt_inj, ← Int32.toInt_inj, Int32.toInt_toInt64, Int32.toInt_toInt64]
theorem own_dcmp_lt (x y : Int32) (o : CmpOp) : cmpValue (FP.dcmp (FP.i2d x) (FP.i2d y)) o < 0 ↔ x < y := by
  rw [i2d_w, i2d_w, dcmpV_w (own_b53 x) (own_b53 y), lw_lt, own_i64lt]
theorem own_dcmp_gt (x y : Int32) (o : CmpOp) : 0 < cmpValue (FP.dcmp (FP.i2d x) (FP.i2d y)) o ↔ y < x := by
  rw [i2d_w, i2d_w, dcmpV_w (own_b53 x) (own_b53 y), lw_gt, own_i64lt]
theorem own_dcmp_eq (x y : Int32) (o : CmpOp) : cmpValue (FP.dcmp (FP.i2d x) (FP.i2d y)) o = 0 ↔ x = y := by
  rw [i2d_w, i2d_w, dcmpV_w (own_b53 x) (own_b53 y), lw_eq, own_i64eq]
theorem own_sub_lt (x y : Int32) : lcmpW (x.toInt64 - y.toInt64) 0 < 0 ↔ x < y := by
  have h := sub64 (own_b53 x) (own_b53 y)
  rw [lw_lt, Int64.lt_iff_toInt_lt, Int32.lt_iff_toInt_lt, h, Int32.toInt_toInt64, Int32.toInt_toInt64]
  have : (0 : Int64).toInt = 0 := rfl
  omega
end OwnNums
section OwnWords
theorem own_eqint {args : Array Value} {first s : State} {o : Option Outcome} {idx : List Nat} {t : Term} {k : Int32} (h : (Jvm.Cond.eq t (.int k)).value args first o s idx = some true) : t.eval args first o idx s = some (.int k) := by
  simp only [Cond.value, Term.eval] at h
  cases ht : t.eval args first o idx s with
  | none => simp [ht] at h
  | some x => cases x <;> simp [ht] at h ⊢; exact h
end OwnWords
section OwnInts
theorem own_prod {a b : Int} {A B : Nat} (ha : a.natAbs ≤ A) (hb : b.natAbs ≤ B) : (a * b).natAbs ≤ A * B := by
  rw [Int.natAbs_mul]; exact Nat.mul_le_mul ha hb
theorem own_shr (x : Int32) : (x >>> ((11 : Int32) &&& 31)).toInt.natAbs ≤ 1048576 := by
  rw [c_ishr x 11 11 (by decide)]
  have := x.le_toInt; have := x.toInt_lt
  show (x.toInt / (2048 : Nat)).natAbs ≤ _
  omega
end OwnInts
theorem own_m31 (x : Int32) : 0 ≤ (x &&& (2147483647 : Int32)).toInt := (c_and x 2147483647 (by decide)).1
theorem own_ne0 {x : Int32} (h : 1 ≤ x.toInt) : x ≠ 0 := fun q => by rw [q] at h; exact absurd h (by decide)
theorem own_ge1 {x : Int32} (h : 1 ≤ x.toInt) : ¬ x < (1 : Int32) := by rw [Int32.lt_iff_toInt_lt]; have : (1 : Int32).toInt = 1 := rfl; omega
theorem own_ge0 {x : Int32} (h : 0 ≤ x.toInt) : ¬ x < (0 : Int32) := by rw [Int32.lt_iff_toInt_lt]; have : (0 : Int32).toInt = 0 := rfl; omega
theorem own_md (x : Int32) {y : Int32} (h : 1 ≤ y.toInt) : 0 ≤ ((x &&& (2147483647 : Int32)) % y).toInt ∧ ((x &&& (2147483647 : Int32)) % y).toInt < y.toInt := by
  have q := (c_iremV (x &&& (2147483647 : Int32)) y).1 (own_m31 x) (by omega)
  exact ⟨q.1, q.2.1⟩
theorem own_m1 (x : Int32) : 1 ≤ (((x &&& (2147483647 : Int32)) % (2147483647 : Int32)) + (1 : Int32)).toInt := by
  have q := own_md x (y := 2147483647) (by decide)
  have e := c_iadd ((x &&& (2147483647 : Int32)) % (2147483647 : Int32)) 1
  have r := rng32 (((x &&& (2147483647 : Int32)) % (2147483647 : Int32)) + (1 : Int32))
  have o : (1 : Int32).toInt = 1 := rfl
  have o2 : (2147483647 : Int32).toInt = 2147483647 := rfl
  omega
theorem own_qm (x : Int64) : -4294967296 < (x % (4294967296 : Int64)).toInt ∧ (x % (4294967296 : Int64)).toInt < 4294967296 := by
  rw [Int64.toInt_mod, show (4294967296 : Int64).toInt = 4294967296 from rfl]
  have q := tr x.toInt 4294967296
  rcases Int.le_total 0 x.toInt with h | h
  · rw [q.1 h]; omega
  · rcases Int.lt_or_eq_of_le h with h | h
    · rw [q.2 h]; omega
    · rw [h]; decide
theorem own_cand {it si rr : Int32} {qq cd : Int64} (r1 : 1 ≤ it.toInt) (r3 : 1 ≤ si.toInt) (r4 : 0 ≤ rr.toInt ∧ rr.toInt < si.toInt) (r5 : -4294967296 < qq.toInt ∧ qq.toInt < 4294967296) (h : (it.toInt64 - (qq * si.toInt64)) - rr.toInt64 = cd) :
    cd.toInt = it.toInt - qq.toInt * si.toInt - rr.toInt := by
  have b1 := rng32 it; have b2 := rng32 si
  have w1 := Int32.toInt_toInt64 it; have w2 := Int32.toInt_toInt64 si; have w3 := Int32.toInt_toInt64 rr
  have p : (qq.toInt * si.toInt).natAbs ≤ 4294967295 * 2147483647 := own_prod (by omega) (by omega)
  have f1 : (qq * si.toInt64).toInt = qq.toInt * si.toInt := by rw [Jvm.FP.Core.int64_mul (by rw [w2]; omega) (by rw [w2]; omega), w2]
  have f2 : (it.toInt64 - (qq * si.toInt64)).toInt = it.toInt - qq.toInt * si.toInt := by rw [Jvm.FP.Core.int64_sub (by rw [f1, w1]; omega) (by rw [f1, w1]; omega), f1, w1]
  rw [← h, Jvm.FP.Core.int64_sub (by rw [f2, w3]; omega) (by rw [f2, w3]; omega), f2, w3]
theorem own_isP {it bi si rr : Int32} {qq cd : Int64} (r1 : 1 ≤ it.toInt) (r2 : 0 ≤ bi.toInt ∧ bi.toInt < it.toInt) (r3 : 1 ≤ si.toInt) (r4 : 0 ≤ rr.toInt ∧ rr.toInt < si.toInt) (r5 : -4294967296 < qq.toInt ∧ qq.toInt < 4294967296)
    (hc : cd.toInt = it.toInt - qq.toInt * si.toInt - rr.toInt) (hL : ¬ cd < (-2147483648 : Int64)) (hH : ¬ (2147483647 : Int64) < cd) :
    (bi < cd.toInt32 ∧ ¬ (it < cd.toInt32) ∧ ((it - cd.toInt32) % si) = (0 : Int32)) ↔ (rr.toInt = 0 ∧ 0 ≤ qq.toInt ∧ bi.toInt < cd.toInt) := by
  rw [Int64.lt_iff_toInt_lt] at hL hH
  have o1 : (-2147483648 : Int64).toInt = -2147483648 := rfl
  have o2 : (2147483647 : Int64).toInt = 2147483647 := rfl
  rw [o1] at hL; rw [o2] at hH
  have hk : cd.toInt32.toInt = cd.toInt := by have e := c_l2i cd; have := rng32 cd.toInt32; omega
  have b1 := rng32 it; have b2 := rng32 si; have b3 := rng32 bi
  rw [Int32.lt_iff_toInt_lt, Int32.lt_iff_toInt_lt, hk, ← Int32.toInt_inj, show (0 : Int32).toInt = 0 from rfl, Int32.toInt_mod]
  have key : bi.toInt < cd.toInt → ¬ it.toInt < cd.toInt → ((it - cd.toInt32).toInt.tmod si.toInt = rr.toInt ∧ 0 ≤ qq.toInt) := by
    intro h1 h2
    have e := c_isub it cd.toInt32
    have r := rng32 (it - cd.toInt32)
    rw [hk] at e
    have v : (it - cd.toInt32).toInt = it.toInt - cd.toInt := by omega
    have hq : 0 ≤ qq.toInt := by
      refine Int.not_lt.mp fun hn => ?_
      have m := Int.mul_le_mul_of_nonneg_right (a := qq.toInt) (b := -1) (c := si.toInt) (by omega) (by omega)
      omega
    refine ⟨?_, hq⟩
    rw [v, Int.tmod_eq_emod_of_nonneg (by omega), show it.toInt - cd.toInt = rr.toInt + si.toInt * qq.toInt by rw [hc, Int.mul_comm si.toInt]; omega, Int.add_mul_emod_self_left, Int.emod_eq_of_lt r4.1 r4.2]
  constructor
  · rintro ⟨h1, h2, h3⟩
    obtain ⟨k1, k2⟩ := key h1 h2
    exact ⟨by rw [← k1]; exact h3, k2, h1⟩
  · rintro ⟨h1, h2, h3⟩
    have m : 0 ≤ qq.toInt * si.toInt := Int.mul_nonneg h2 (by omega)
    have h4 : ¬ it.toInt < cd.toInt := by omega
    exact ⟨h3, h4, by rw [(key h3 h4).1]; exact h1⟩
theorem own_isA {it bi si rr : Int32} {qq cd : Int64} (q : (bi < cd.toInt32 ∧ ¬ (it < cd.toInt32) ∧ ((it - cd.toInt32) % si) = (0 : Int32)) ↔ (rr.toInt = 0 ∧ 0 ≤ qq.toInt ∧ bi.toInt < cd.toInt)) (hR : rr = (0 : Int32)) (hQ : ¬ qq < (0 : Int64)) (hS : bi.toInt64 < cd) : (if (bi < cd.toInt32 ∧ ¬ (it < cd.toInt32) ∧ ((it - cd.toInt32) % si) = (0 : Int32)) then 1 else 0 : Int32) = (1 : Int32) := by
  rw [Int64.lt_iff_toInt_lt, show (0 : Int64).toInt = 0 from rfl] at hQ
  rw [Int64.lt_iff_toInt_lt, Int32.toInt_toInt64] at hS
  exact if_pos (q.mpr ⟨by rw [hR]; rfl, by omega, hS⟩)
theorem own_isB {it bi si rr : Int32} {qq cd : Int64} (q : (bi < cd.toInt32 ∧ ¬ (it < cd.toInt32) ∧ ((it - cd.toInt32) % si) = (0 : Int32)) ↔ (rr.toInt = 0 ∧ 0 ≤ qq.toInt ∧ bi.toInt < cd.toInt)) (hR : ¬ rr = (0 : Int32)) : (if (bi < cd.toInt32 ∧ ¬ (it < cd.toInt32) ∧ ((it - cd.toInt32) % si) = (0 : Int32)) then 1 else 0 : Int32) = (0 : Int32) :=
  if_neg fun r => hR (Int32.toInt_inj.mp (q.mp r).1)
theorem own_isC {it bi si rr : Int32} {qq cd : Int64} (q : (bi < cd.toInt32 ∧ ¬ (it < cd.toInt32) ∧ ((it - cd.toInt32) % si) = (0 : Int32)) ↔ (rr.toInt = 0 ∧ 0 ≤ qq.toInt ∧ bi.toInt < cd.toInt)) (hQ : qq < (0 : Int64)) : (if (bi < cd.toInt32 ∧ ¬ (it < cd.toInt32) ∧ ((it - cd.toInt32) % si) = (0 : Int32)) then 1 else 0 : Int32) = (0 : Int32) := by
  rw [Int64.lt_iff_toInt_lt, show (0 : Int64).toInt = 0 from rfl] at hQ
  exact if_neg fun r => absurd (q.mp r).2.1 (by omega)
theorem own_isD {it bi si rr : Int32} {qq cd : Int64} (q : (bi < cd.toInt32 ∧ ¬ (it < cd.toInt32) ∧ ((it - cd.toInt32) % si) = (0 : Int32)) ↔ (rr.toInt = 0 ∧ 0 ≤ qq.toInt ∧ bi.toInt < cd.toInt)) (hS : ¬ bi.toInt64 < cd) : (if (bi < cd.toInt32 ∧ ¬ (it < cd.toInt32) ∧ ((it - cd.toInt32) % si) = (0 : Int32)) then 1 else 0 : Int32) = (0 : Int32) := by
  rw [Int64.lt_iff_toInt_lt, Int32.toInt_toInt64] at hS
  exact if_neg fun r => hS (q.mp r).2.2
theorem own_isX1 {it bi si x : Int32} (h : it < x) : (if (bi < x ∧ ¬ (it < x) ∧ ((it - x) % si) = (0 : Int32)) then 1 else 0 : Int32) = (0 : Int32) := if_neg fun r => r.2.1 h
theorem own_isX2 {it bi si x : Int32} (h : ¬ bi < x) : (if (bi < x ∧ ¬ (it < x) ∧ ((it - x) % si) = (0 : Int32)) then 1 else 0 : Int32) = (0 : Int32) := if_neg fun r => h r.1
theorem own_d2_0 : decode jdk_30_method_1_code 0 = .ok (.aload_n 0, 1) := by decide +kernel
theorem own_d2_1 : decode jdk_30_method_1_code 1 = .ok (.invokespecial 1, 3) := by decide +kernel
theorem own_d2_4 : decode jdk_30_method_1_code 4 = .ok (.return_, 1) := by decide +kernel
set_option maxHeartbeats 4000000 in
theorem own_ef2 (m : MethodId) (x0 : Addr) : entryFrame m #[(.ref x0)] 1 = mkF m 0 #[.val (.ref x0)] [] := by first | (simp [entryFrame, mkF, argsToLocals, Value.category]; done) | rfl
theorem own_pn0 : plainName "java/lang/Record" = true := by first | (simp [plainName, overriddenIn]; done) | decide +kernel
def own_Q2 (Z : State) (a0 : Array Value) (o0 : Addr) (h0 : Heap) (n0 : Nat) (v : Option Value) (h : Heap) (L : List Loc) : Prop := v = none ∧ Fr n0 L ∧ h = h0
set_option maxRecDepth 65536 in
set_option maxHeartbeats 40000000 in
theorem own_rm2 (l : Launch) (Z : State) (a0 : Array Value) (hw : ∀ d ∈ tables_1, d.before a0 Z = true) (ws : List Jvm.Cond) (o0 : Addr) (h0 : Heap) (n0 : Nat) (Z0 : n0 ≤ h0.size) :
    MetFree l (⟨"java/lang/Record", "<init>", "()V"⟩ : MethodName) (head1 (Jvm.Cond.code (⟨"java/lang/Record", "<init>", "()V"⟩ : MethodName) jdk_30_method_1_code 1 none :: ws) ({ frames := 1, cells := 0, slots := 0, locals := 12 } : Room)) (fun a U => a = #[(.ref o0)] ∧ Z.Warmed39 U.vm ∧ U.heap = h0) (fun _ _ _ _ _ => True) (fun _ U o U' => ∃ v L, o = .returned v ∧ own_Q2 Z a0 o0 h0 n0 v U'.heap L ∧ FrameEnd U o U' L ({ frames := 1, cells := 0, slots := 0, locals := 12 } : Room).cells ({ frames := 1, cells := 0, slots := 0, locals := 12 } : Room).slots) := by
  refine own_body (Q := fun v h L => own_Q2 Z a0 o0 h0 n0 v h L) (plainFor_of_name own_pn0) ?_
  intro p e s m below meth c s₁ hx hby hml hZ hown hnm hret hlk X0 e0
  replace hml : c.maxLocals = 1 := hml
  have N0 := Fr.nil n0
  have K0 : Keep h0 h0 [] := Keep.refl _ _
  refine own_st (fun t k => castTop (own_ef2 m o0) k) ?_
  show own_Run p e below s _ _ _ (s₁.setTop (mkF m 0 #[.val (.ref o0)] []))
  refine own_st (fun t k => XS.aloadN X0.here hx rfl (hb hby own_d2_0) rfl rfl k) ?_
  show own_Run p e below s _ _ _ (s₁.setTop (mkF m 1 #[.val (.ref o0)] [(.ref o0)]))
  obtain ⟨T1, X1, e1, st1⟩ := initO X0 hx hZ hown (hw _ (List.mem_of_getElem? (i := 13) rfl)) (hw _ (List.mem_of_getElem? (i := 14) rfl)) (hw _ (List.mem_of_getElem? (i := 15) rfl)) e0 (g := (mkF m 1 #[.val (.ref o0)] [(.ref o0)])) rfl (by rw [hml]; rfl) rfl (hb hby own_d2_1) (by decide) (W := 0) (by show 2 * 0 + _ ≤ _; exact Nat.le_of_eq rfl) (by decide)
  refine own_st st1 ?_
  show own_Run p e below s _ _ _ (T1.setTop (mkF m 4 #[.val (.ref o0)] []))
  exact own_retV X1 hx hlk hret (hb hby own_d2_4) (by decide) (by decide) ⟨rfl, N0, e1⟩
theorem own_d4_0 : decode jdk_117_method_7_code 0 = .ok (.dload_n 0, 1) := by decide +kernel
theorem own_d4_1 : decode jdk_117_method_7_code 1 = .ok (.invokestatic 38, 3) := by decide +kernel
theorem own_pd1 : parseMethodDescriptor "(D)D" = some ⟨[.double], some .double⟩ := by decide +kernel
theorem own_d4_4 : decode jdk_117_method_7_code 4 = .ok (.ldc2_w 111, 3) := by decide +kernel
theorem own_d4_7 : decode jdk_117_method_7_code 7 = .ok (.dcmp .l, 1) := by decide +kernel
theorem own_d4_8 : decode jdk_117_method_7_code 8 = .ok (.ifCond .le 7, 3) := by decide +kernel
theorem own_d4_15 : decode jdk_117_method_7_code 15 = .ok (.iconst 0, 1) := by decide +kernel
theorem own_d4_16 : decode jdk_117_method_7_code 16 = .ok (.ireturn, 1) := by decide +kernel
set_option maxHeartbeats 4000000 in
theorem own_ef4 (m : MethodId) (x0 : UInt64) : entryFrame m #[(.double x0)] 2 = mkF m 0 #[.val (.double x0), .second] [] := by first | (simp [entryFrame, mkF, argsToLocals, Value.category]; done) | rfl
theorem own_pn2 : plainName "java/lang/Double" = true := by first | (simp [plainName, overriddenIn]; done) | decide +kernel
def own_Q4 (Z : State) (a0 : Array Value)  (h0 : Heap) (n0 : Nat) (v : Option Value) (h : Heap) (L : List Loc) : Prop := v = some (.int (0 : Int32)) ∧ Fr n0 L ∧ h = h0
set_option maxRecDepth 65536 in
set_option maxHeartbeats 40000000 in
theorem own_rm4 (l : Launch) (Z : State) (a0 : Array Value) (hw : ∀ d ∈ tables_1, d.before a0 Z = true) (ws : List Jvm.Cond)  (h0 : Heap) (n0 : Nat) (Z0 : n0 ≤ h0.size) :
    MetFree l (⟨"java/lang/Double", "isInfinite", "(D)Z"⟩ : MethodName) (head1 (Jvm.Cond.code (⟨"java/lang/Double", "isInfinite", "(D)Z"⟩ : MethodName) jdk_117_method_7_code 2 (some .boolean) :: ws) ({ frames := 1, cells := 0, slots := 0, locals := 13 } : Room)) (fun a U => a = #[(.double (4607182418800017408 : UInt64))] ∧ Z.Warmed39 U.vm ∧ U.heap = h0) (fun _ _ _ _ _ => True) (fun _ U o U' => ∃ v L, o = .returned v ∧ own_Q4 Z a0  h0 n0 v U'.heap L ∧ FrameEnd U o U' L ({ frames := 1, cells := 0, slots := 0, locals := 13 } : Room).cells ({ frames := 1, cells := 0, slots := 0, locals := 13 } : Room).slots) := by
  refine own_body (Q := fun v h L => own_Q4 Z a0  h0 n0 v h L) (plainFor_of_name own_pn2) ?_
  intro p e s m below meth c s₁ hx hby hml hZ hown hnm hret hlk X0 e0
  replace hml : c.maxLocals = 2 := hml
  have N0 := Fr.nil n0
  have K0 : Keep h0 h0 [] := Keep.refl _ _
  refine own_st (fun t k => castTop (own_ef4 m (4607182418800017408 : UInt64)) k) ?_
  show own_Run p e below s _ _ _ (s₁.setTop (mkF m 0 #[.val (.double (4607182418800017408 : UInt64)), .second] []))
  refine own_st (fun t k => XS.dloadN X0.here hx rfl (hb hby own_d4_0) rfl k) ?_
  show own_Run p e below s _ _ _ (s₁.setTop (mkF m 1 #[.val (.double (4607182418800017408 : UInt64)), .second] [(.double (4607182418800017408 : UInt64))]))
  obtain ⟨T2, X2, e2, st2⟩ := natS X0 hx hZ (y := (⟨"java/lang/Math", "abs", "(D)D"⟩ : MethodName)) hown (hw _ (List.mem_of_getElem? (i := 20) rfl)) (hw _ (List.mem_of_getElem? (i := 21) rfl)) (hw _ (List.mem_of_getElem? (i := 22) rfl)) (by0 := jdk_29_method_64_code) (ml := 2) (rt := some .double) (hw _ (List.mem_of_getElem? (i := 23) rfl)) (by decide) e0 (W := 0) (F := fun a' => a' = #[(.double (4607182418800017408 : UInt64))] ∧ Jvm.Free.Fl.NoNaN64 (4607182418800017408 : UInt64)) (val := .double ((4607182418800017408 : UInt64) &&& 0x7fffffffffffffff)) (val' := .double (4607182418800017408 : UInt64)) (fun hc => Jvm.Free.Fl.Abs.absD_pays (4607182418800017408 : UInt64) hc (by decide) (by decide)) (g := (mkF m 1 #[.val (.double (4607182418800017408 : UInt64)), .second] [(.double (4607182418800017408 : UInt64))])) rfl (by rw [hml]; rfl) (argsL := [(.double (4607182418800017408 : UInt64))]) (rest := []) (lenOf own_pd1 rfl) rfl (by show 2 * 0 + _ ≤ _; exact Nat.le_of_eq rfl) (hb hby own_d4_1) (by decide) (by decide) ⟨rfl, by unfold Jvm.Free.Fl.NoNaN64; decide +kernel⟩ (congrArg Value.double (by decide +kernel))
  refine own_st st2 ?_
  show own_Run p e below s _ _ _ (T2.setTop (mkF m 4 #[.val (.double (4607182418800017408 : UInt64)), .second] [(.double (4607182418800017408 : UInt64))]))
  refine own_st (X2.ldc2DoubleC hx hown (mvT hZ (hw _ (List.mem_of_getElem? (i := 24) rfl))) (g := (mkF m 4 #[.val (.double (4607182418800017408 : UInt64)), .second] [(.double (4607182418800017408 : UInt64))])) rfl (hb hby own_d4_4)) ?_
  show own_Run p e below s _ _ _ (T2.setTop (mkF m 7 #[.val (.double (4607182418800017408 : UInt64)), .second] [(.double (9218868437227405311 : UInt64)), (.double (4607182418800017408 : UInt64))]))
  refine own_st (fun t k => XS.dcmpS X2.here hx rfl (hb hby own_d4_7) rfl (v := (-1 : Int32)) (by decide +kernel) k) ?_
  show own_Run p e below s _ _ _ (T2.setTop (mkF m 8 #[.val (.double (4607182418800017408 : UInt64)), .second] [(.int (-1 : Int32))]))
  refine own_st (fun t k => XS.ifYes X2.here hx rfl (pc0 := 8) (pc' := 15) rfl (hb hby own_d4_8) rfl ((if0 _ _).trans (flt (by decide : ¬ ((0 : Int32) < (-1 : Int32)))).2.2.2) (by decide) (by decide) k) ?_
  show own_Run p e below s _ _ _ (T2.setTop (mkF m 15 #[.val (.double (4607182418800017408 : UInt64)), .second] []))
  refine own_st (fun t k => XS.iconst X2.here hx rfl (hb hby own_d4_15) k) ?_
  show own_Run p e below s _ _ _ (T2.setTop (mkF m 16 #[.val (.double (4607182418800017408 : UInt64)), .second] [(.int (0 : Int32))]))
  exact own_ret X2 hx hlk (t := .boolean) hret rfl (Or.inl ⟨rfl, by simp, _, rfl⟩) (hb hby own_d4_16) (by decide) (by decide) ⟨rfl, N0, e2⟩
theorem own_d1_0 : decode prog_20_method_1_code 0 = .ok (.aload_n 0, 1) := by decide +kernel
theorem own_d1_1 : decode prog_20_method_1_code 1 = .ok (.invokespecial 1, 3) := by decide +kernel
theorem own_pd3 : parseMethodDescriptor "()V" = some ⟨[], none⟩ := by decide +kernel
theorem own_d1_4 : decode prog_20_method_1_code 4 = .ok (.iload_n 1, 1) := by decide +kernel
theorem own_d1_5 : decode prog_20_method_1_code 5 = .ok (.iconst 1, 1) := by decide +kernel
theorem own_d1_6 : decode prog_20_method_1_code 6 = .ok (.if_icmp .ge 13, 3) := by decide +kernel
theorem own_d1_19 : decode prog_20_method_1_code 19 = .ok (.dload_n 2, 1) := by decide +kernel
theorem own_d1_20 : decode prog_20_method_1_code 20 = .ok (.dconst 0, 1) := by decide +kernel
theorem own_d1_21 : decode prog_20_method_1_code 21 = .ok (.dcmp .l, 1) := by decide +kernel
theorem own_d1_22 : decode prog_20_method_1_code 22 = .ok (.ifCond .le 10, 3) := by decide +kernel
theorem own_d1_25 : decode prog_20_method_1_code 25 = .ok (.dload_n 2, 1) := by decide +kernel
theorem own_d1_26 : decode prog_20_method_1_code 26 = .ok (.invokestatic 14, 3) := by decide +kernel
theorem own_pd4 : parseMethodDescriptor "(D)Z" = some ⟨[.double], some .boolean⟩ := by decide +kernel
theorem own_d1_29 : decode prog_20_method_1_code 29 = .ok (.ifCond .eq 17, 3) := by decide +kernel
theorem own_d1_46 : decode prog_20_method_1_code 46 = .ok (.dload 4, 2) := by decide +kernel
theorem own_d1_48 : decode prog_20_method_1_code 48 = .ok (.dconst 0, 1) := by decide +kernel
theorem own_d1_49 : decode prog_20_method_1_code 49 = .ok (.dcmp .l, 1) := by decide +kernel
theorem own_d1_50 : decode prog_20_method_1_code 50 = .ok (.ifCond .le 11, 3) := by decide +kernel
theorem own_d1_53 : decode prog_20_method_1_code 53 = .ok (.dload 4, 2) := by decide +kernel
theorem own_d1_55 : decode prog_20_method_1_code 55 = .ok (.invokestatic 14, 3) := by decide +kernel
theorem own_d1_58 : decode prog_20_method_1_code 58 = .ok (.ifCond .eq 18, 3) := by decide +kernel
theorem own_d1_76 : decode prog_20_method_1_code 76 = .ok (.iload 6, 2) := by decide +kernel
theorem own_d1_78 : decode prog_20_method_1_code 78 = .ok (.iconst 1, 1) := by decide +kernel
theorem own_d1_79 : decode prog_20_method_1_code 79 = .ok (.if_icmp .ge 13, 3) := by decide +kernel
theorem own_d1_92 : decode prog_20_method_1_code 92 = .ok (.iload 7, 2) := by decide +kernel
theorem own_d1_94 : decode prog_20_method_1_code 94 = .ok (.ifCond .lt 10, 3) := by decide +kernel
theorem own_d1_97 : decode prog_20_method_1_code 97 = .ok (.iload 7, 2) := by decide +kernel
theorem own_d1_99 : decode prog_20_method_1_code 99 = .ok (.iload 6, 2) := by decide +kernel
theorem own_d1_101 : decode prog_20_method_1_code 101 = .ok (.if_icmp .lt 36, 3) := by decide +kernel
theorem own_d1_137 : decode prog_20_method_1_code 137 = .ok (.iload 8, 2) := by decide +kernel
theorem own_d1_139 : decode prog_20_method_1_code 139 = .ok (.iconst 1, 1) := by decide +kernel
theorem own_d1_140 : decode prog_20_method_1_code 140 = .ok (.if_icmp .ge 18, 3) := by decide +kernel
theorem own_d1_158 : decode prog_20_method_1_code 158 = .ok (.aload_n 0, 1) := by decide +kernel
theorem own_d1_159 : decode prog_20_method_1_code 159 = .ok (.iload_n 1, 1) := by decide +kernel
theorem own_d1_160 : decode prog_20_method_1_code 160 = .ok (.putfield 46, 3) := by decide +kernel
theorem own_d1_163 : decode prog_20_method_1_code 163 = .ok (.aload_n 0, 1) := by decide +kernel
theorem own_d1_164 : decode prog_20_method_1_code 164 = .ok (.dload_n 2, 1) := by decide +kernel
theorem own_d1_165 : decode prog_20_method_1_code 165 = .ok (.putfield 52, 3) := by decide +kernel
theorem own_d1_168 : decode prog_20_method_1_code 168 = .ok (.aload_n 0, 1) := by decide +kernel
theorem own_d1_169 : decode prog_20_method_1_code 169 = .ok (.dload 4, 2) := by decide +kernel
theorem own_d1_171 : decode prog_20_method_1_code 171 = .ok (.putfield 56, 3) := by decide +kernel
theorem own_d1_174 : decode prog_20_method_1_code 174 = .ok (.aload_n 0, 1) := by decide +kernel
theorem own_d1_175 : decode prog_20_method_1_code 175 = .ok (.iload 6, 2) := by decide +kernel
theorem own_d1_177 : decode prog_20_method_1_code 177 = .ok (.putfield 59, 3) := by decide +kernel
theorem own_d1_180 : decode prog_20_method_1_code 180 = .ok (.aload_n 0, 1) := by decide +kernel
theorem own_d1_181 : decode prog_20_method_1_code 181 = .ok (.iload 7, 2) := by decide +kernel
theorem own_d1_183 : decode prog_20_method_1_code 183 = .ok (.putfield 62, 3) := by decide +kernel
theorem own_d1_186 : decode prog_20_method_1_code 186 = .ok (.aload_n 0, 1) := by decide +kernel
theorem own_d1_187 : decode prog_20_method_1_code 187 = .ok (.iload 8, 2) := by decide +kernel
theorem own_d1_189 : decode prog_20_method_1_code 189 = .ok (.putfield 65, 3) := by decide +kernel
theorem own_d1_192 : decode prog_20_method_1_code 192 = .ok (.aload_n 0, 1) := by decide +kernel
theorem own_d1_193 : decode prog_20_method_1_code 193 = .ok (.lload 9, 2) := by decide +kernel
theorem own_d1_195 : decode prog_20_method_1_code 195 = .ok (.putfield 68, 3) := by decide +kernel
theorem own_d1_198 : decode prog_20_method_1_code 198 = .ok (.return_, 1) := by decide +kernel
set_option maxHeartbeats 4000000 in
theorem own_ef1 (m : MethodId) (x0 : Addr) (x1 : Int32) (x2 : UInt64) (x3 : UInt64) (x4 : Int32) (x5 : Int32) (x6 : Int32) (x7 : Int64) : entryFrame m #[(.ref x0), (.int x1), (.double x2), (.double x3), (.int x4), (.int x5), (.int x6), (.long x7)] 11 = mkF m 0 #[.val (.ref x0), .val (.int x1), .val (.double x2), .second, .val (.double x3), .second, .val (.int x4), .val (.int x5), .val (.int x6), .val (.long x7), .second] [] := by first | (simp [entryFrame, mkF, argsToLocals, Value.category]; done) | rfl
theorem own_pn5 : plainName "com/example/nudge_rank/nudgerank/topic/LdaParameters" = true := by first | (simp [plainName, overriddenIn]; done) | decide +kernel
def own_Q1 (Z : State) (a0 : Array Value) (a0_ : Addr) (i1 : Int32) (i4 : Int32) (i5 : Int32) (i6 : Int32) (j7 : Int64) (h0 : Heap) (n0 : Nat) (v : Option Value) (h : Heap) (L : List Loc) : Prop := v = none ∧ Fr n0 L ∧ Keep h0 h [a0_] ∧ Exa Z h a0_ "com/example/nudge_rank/nudgerank/topic/LdaParameters" ∧ Fld Z h a0_ "com/example/nudge_rank/nudgerank/topic/LdaParameters" "iterations" "I" (.int i4) ∧ Fld Z h a0_ "com/example/nudge_rank/nudgerank/topic/LdaParameters" "burnIn" "I" (.int i5) ∧ Fld Z h a0_ "com/example/nudge_rank/nudgerank/topic/LdaParameters" "sampleInterval" "I" (.int i6)
set_option maxRecDepth 65536 in
set_option maxHeartbeats 40000000 in
theorem own_rm1 (l : Launch) (Z : State) (a0 : Array Value) (hw : ∀ d ∈ tables_1, d.before a0 Z = true) (ws : List Jvm.Cond) (a0_ : Addr) (i1 : Int32) (i4 : Int32) (i5 : Int32) (i6 : Int32) (j7 : Int64) (h0 : Heap) (n0 : Nat) (Z0 : n0 ≤ h0.size) (E0 : Exa Z h0 a0_ "com/example/nudge_rank/nudgerank/topic/LdaParameters") (D0 : ∀ {O nm d : String} {ty : FieldType}, Laid Z a0 "com/example/nudge_rank/nudgerank/topic/LdaParameters" O nm d → parseFieldDescriptor d = some ty → Fld Z h0 a0_ O nm d (defaultValue ty)) (G0 : n0 ≤ a0_) (h1 : ¬ (i1 < (1 : Int32))) (h4 : ¬ (i4 < (1 : Int32))) (h5 : ¬ (i5 < (0 : Int32))) (h6 : i5 < i4) (h7 : ¬ (i6 < (1 : Int32))) :
    MetFree l (⟨"com/example/nudge_rank/nudgerank/topic/LdaParameters", "<init>", "(IDDIIIJ)V"⟩ : MethodName) (head1 (Jvm.Cond.code (⟨"com/example/nudge_rank/nudgerank/topic/LdaParameters", "<init>", "(IDDIIIJ)V"⟩ : MethodName) prog_20_method_1_code 11 none :: ws) ({ frames := 2, cells := 0, slots := 0, locals := 26 } : Room)) (fun a U => a = #[(.ref a0_), (.int i1), (.double (4607182418800017408 : UInt64)), (.double (4607182418800017408 : UInt64)), (.int i4), (.int i5), (.int i6), (.long j7)] ∧ Z.Warmed39 U.vm ∧ U.heap = h0) (fun _ _ _ _ _ => True) (fun _ U o U' => ∃ v L, o = .returned v ∧ own_Q1 Z a0 a0_ i1 i4 i5 i6 j7 h0 n0 v U'.heap L ∧ FrameEnd U o U' L ({ frames := 2, cells := 0, slots := 0, locals := 26 } : Room).cells ({ frames := 2, cells := 0, slots := 0, locals := 26 } : Room).slots) := by
  refine own_body (Q := fun v h L => own_Q1 Z a0 a0_ i1 i4 i5 i6 j7 h0 n0 v h L) (plainFor_of_name own_pn5) ?_
  intro p e s m below meth c s₁ hx hby hml hZ hown hnm hret hlk X0 e0
  replace hml : c.maxLocals = 11 := hml
  have N0 := Fr.nil n0
  have K0 : Keep h0 h0 [a0_] := Keep.refl _ _
  refine own_st (fun t k => castTop (own_ef1 m a0_ i1 (4607182418800017408 : UInt64) (4607182418800017408 : UInt64) i4 i5 i6 j7) k) ?_
  show own_Run p e below s _ _ _ (s₁.setTop (mkF m 0 #[.val (.ref a0_), .val (.int i1), .val (.double (4607182418800017408 : UInt64)), .second, .val (.double (4607182418800017408 : UInt64)), .second, .val (.int i4), .val (.int i5), .val (.int i6), .val (.long j7), .second] []))
  refine own_st (fun t k => XS.aloadN X0.here hx rfl (hb hby own_d1_0) rfl rfl k) ?_
  show own_Run p e below s _ _ _ (s₁.setTop (mkF m 1 #[.val (.ref a0_), .val (.int i1), .val (.double (4607182418800017408 : UInt64)), .second, .val (.double (4607182418800017408 : UInt64)), .second, .val (.int i4), .val (.int i5), .val (.int i6), .val (.long j7), .second] [(.ref a0_)]))
  refine own_callI X0 hx hZ (y := (⟨"java/lang/Record", "<init>", "()V"⟩ : MethodName)) rfl hown (hw _ (List.mem_of_getElem? (i := 8) rfl)) (hw _ (List.mem_of_getElem? (i := 9) rfl)) (hw _ (List.mem_of_getElem? (i := 12) rfl)) (hw _ (List.mem_of_getElem? (i := 11) rfl)) (by decide) e0 (a := a0_) (argsL := []) (rest := []) (W := 0) (own_rm2 l Z a0 hw [] a0_ h0 n0 (Nat.le_trans Z0 K0.1) ) (by decide) (by decide) (by rw [hml]; rfl) (lenOf own_pd3 rfl) rfl (by exact Nat.le_of_eq rfl) (hb hby own_d1_1) (by decide) (by decide) ?_
  intro T3 v3 L3 X3 hq3
  obtain ⟨rfl, N3q, hh3⟩ := hq3
  have N3 := Fr.app N0 N3q
  show own_Run p e below s _ _ _ (T3.setTop (mkF m 4 #[.val (.ref a0_), .val (.int i1), .val (.double (4607182418800017408 : UInt64)), .second, .val (.double (4607182418800017408 : UInt64)), .second, .val (.int i4), .val (.int i5), .val (.int i6), .val (.long j7), .second] []))
  refine own_st (fun t k => XS.iloadN X3.here hx rfl (hb hby own_d1_4) rfl k) ?_
  show own_Run p e below s _ _ _ (T3.setTop (mkF m 5 #[.val (.ref a0_), .val (.int i1), .val (.double (4607182418800017408 : UInt64)), .second, .val (.double (4607182418800017408 : UInt64)), .second, .val (.int i4), .val (.int i5), .val (.int i6), .val (.long j7), .second] [(.int i1)]))
  refine own_st (fun t k => XS.iconst X3.here hx rfl (hb hby own_d1_5) k) ?_
  show own_Run p e below s _ _ _ (T3.setTop (mkF m 6 #[.val (.ref a0_), .val (.int i1), .val (.double (4607182418800017408 : UInt64)), .second, .val (.double (4607182418800017408 : UInt64)), .second, .val (.int i4), .val (.int i5), .val (.int i6), .val (.long j7), .second] [(.int (1 : Int32)), (.int i1)]))
  refine own_st (fun t k => XS.icmpYes X3.here hx rfl (pc0 := 6) (pc' := 19) rfl (hb hby own_d1_6) rfl (flt (h1 : ¬ (i1 < (1 : Int32)))).2.1 (by decide) (by decide) k) ?_
  show own_Run p e below s _ _ _ (T3.setTop (mkF m 19 #[.val (.ref a0_), .val (.int i1), .val (.double (4607182418800017408 : UInt64)), .second, .val (.double (4607182418800017408 : UInt64)), .second, .val (.int i4), .val (.int i5), .val (.int i6), .val (.long j7), .second] []))
  refine own_st (fun t k => XS.dloadN X3.here hx rfl (hb hby own_d1_19) rfl k) ?_
  show own_Run p e below s _ _ _ (T3.setTop (mkF m 20 #[.val (.ref a0_), .val (.int i1), .val (.double (4607182418800017408 : UInt64)), .second, .val (.double (4607182418800017408 : UInt64)), .second, .val (.int i4), .val (.int i5), .val (.int i6), .val (.long j7), .second] [(.double (4607182418800017408 : UInt64))]))
  refine own_st (fun t k => XS.dconst0 X3.here hx rfl (hb hby own_d1_20) (v := 0) rfl k) ?_
  show own_Run p e below s _ _ _ (T3.setTop (mkF m 21 #[.val (.ref a0_), .val (.int i1), .val (.double (4607182418800017408 : UInt64)), .second, .val (.double (4607182418800017408 : UInt64)), .second, .val (.int i4), .val (.int i5), .val (.int i6), .val (.long j7), .second] [(.double (0 : UInt64)), (.double (4607182418800017408 : UInt64))]))
  refine own_st (fun t k => XS.dcmpS X3.here hx rfl (hb hby own_d1_21) rfl (v := (1 : Int32)) (by decide +kernel) k) ?_
  show own_Run p e below s _ _ _ (T3.setTop (mkF m 22 #[.val (.ref a0_), .val (.int i1), .val (.double (4607182418800017408 : UInt64)), .second, .val (.double (4607182418800017408 : UInt64)), .second, .val (.int i4), .val (.int i5), .val (.int i6), .val (.long j7), .second] [(.int (1 : Int32))]))
  refine own_st (fun t k => XS.ifNo X3.here hx rfl (hb hby own_d1_22) rfl ((if0 _ _).trans (tlt (by decide : (0 : Int32) < (1 : Int32))).2.2.2) k) ?_
  show own_Run p e below s _ _ _ (T3.setTop (mkF m 25 #[.val (.ref a0_), .val (.int i1), .val (.double (4607182418800017408 : UInt64)), .second, .val (.double (4607182418800017408 : UInt64)), .second, .val (.int i4), .val (.int i5), .val (.int i6), .val (.long j7), .second] []))
  refine own_st (fun t k => XS.dloadN X3.here hx rfl (hb hby own_d1_25) rfl k) ?_
  show own_Run p e below s _ _ _ (T3.setTop (mkF m 26 #[.val (.ref a0_), .val (.int i1), .val (.double (4607182418800017408 : UInt64)), .second, .val (.double (4607182418800017408 : UInt64)), .second, .val (.int i4), .val (.int i5), .val (.int i6), .val (.long j7), .second] [(.double (4607182418800017408 : UInt64))]))
  refine own_callS X3 hx hZ (y := (⟨"java/lang/Double", "isInfinite", "(D)Z"⟩ : MethodName)) hown (hw _ (List.mem_of_getElem? (i := 16) rfl)) (hw _ (List.mem_of_getElem? (i := 17) rfl)) (hw _ (List.mem_of_getElem? (i := 19) rfl)) (hw _ (List.mem_of_getElem? (i := 18) rfl)) (by decide) hh3 (argsL := [(.double (4607182418800017408 : UInt64))]) (rest := []) (W := 0) (own_rm4 l Z a0 hw []  h0 n0 (Nat.le_trans Z0 K0.1) ) (by decide) (by decide) (by rw [hml]; rfl) (lenOf own_pd4 rfl) rfl (by exact Nat.le_of_eq rfl) (hb hby own_d1_26) (by decide) (by decide) ?_
  intro T4 v4 L4 X4 hq4
  obtain ⟨rfl, N4q, hh4⟩ := hq4
  have N4 := Fr.app N3 N4q
  show own_Run p e below s _ _ _ (T4.setTop (mkF m 29 #[.val (.ref a0_), .val (.int i1), .val (.double (4607182418800017408 : UInt64)), .second, .val (.double (4607182418800017408 : UInt64)), .second, .val (.int i4), .val (.int i5), .val (.int i6), .val (.long j7), .second] [(.int (0 : Int32))]))
  refine own_st (fun t k => XS.ifYes X4.here hx rfl (pc0 := 29) (pc' := 46) rfl (hb hby own_d1_29) rfl ((if0 _ _).trans (teq (by decide : (0 : Int32) = (0 : Int32))).1) (by decide) (by decide) k) ?_
  show own_Run p e below s _ _ _ (T4.setTop (mkF m 46 #[.val (.ref a0_), .val (.int i1), .val (.double (4607182418800017408 : UInt64)), .second, .val (.double (4607182418800017408 : UInt64)), .second, .val (.int i4), .val (.int i5), .val (.int i6), .val (.long j7), .second] []))
  refine own_st (fun t k => XS.dload X4.here hx rfl (hb hby own_d1_46) rfl k) ?_
  show own_Run p e below s _ _ _ (T4.setTop (mkF m 48 #[.val (.ref a0_), .val (.int i1), .val (.double (4607182418800017408 : UInt64)), .second, .val (.double (4607182418800017408 : UInt64)), .second, .val (.int i4), .val (.int i5), .val (.int i6), .val (.long j7), .second] [(.double (4607182418800017408 : UInt64))]))
  refine own_st (fun t k => XS.dconst0 X4.here hx rfl (hb hby own_d1_48) (v := 0) rfl k) ?_
  show own_Run p e below s _ _ _ (T4.setTop (mkF m 49 #[.val (.ref a0_), .val (.int i1), .val (.double (4607182418800017408 : UInt64)), .second, .val (.double (4607182418800017408 : UInt64)), .second, .val (.int i4), .val (.int i5), .val (.int i6), .val (.long j7), .second] [(.double (0 : UInt64)), (.double (4607182418800017408 : UInt64))]))
  refine own_st (fun t k => XS.dcmpS X4.here hx rfl (hb hby own_d1_49) rfl (v := (1 : Int32)) (by decide +kernel) k) ?_
  show own_Run p e below s _ _ _ (T4.setTop (mkF m 50 #[.val (.ref a0_), .val (.int i1), .val (.double (4607182418800017408 : UInt64)), .second, .val (.double (4607182418800017408 : UInt64)), .second, .val (.int i4), .val (.int i5), .val (.int i6), .val (.long j7), .second] [(.int (1 : Int32))]))
  refine own_st (fun t k => XS.ifNo X4.here hx rfl (hb hby own_d1_50) rfl ((if0 _ _).trans (tlt (by decide : (0 : Int32) < (1 : Int32))).2.2.2) k) ?_
  show own_Run p e below s _ _ _ (T4.setTop (mkF m 53 #[.val (.ref a0_), .val (.int i1), .val (.double (4607182418800017408 : UInt64)), .second, .val (.double (4607182418800017408 : UInt64)), .second, .val (.int i4), .val (.int i5), .val (.int i6), .val (.long j7), .second] []))
  refine own_st (fun t k => XS.dload X4.here hx rfl (hb hby own_d1_53) rfl k) ?_
  show own_Run p e below s _ _ _ (T4.setTop (mkF m 55 #[.val (.ref a0_), .val (.int i1), .val (.double (4607182418800017408 : UInt64)), .second, .val (.double (4607182418800017408 : UInt64)), .second, .val (.int i4), .val (.int i5), .val (.int i6), .val (.long j7), .second] [(.double (4607182418800017408 : UInt64))]))
  refine own_callS X4 hx hZ (y := (⟨"java/lang/Double", "isInfinite", "(D)Z"⟩ : MethodName)) hown (hw _ (List.mem_of_getElem? (i := 16) rfl)) (hw _ (List.mem_of_getElem? (i := 17) rfl)) (hw _ (List.mem_of_getElem? (i := 19) rfl)) (hw _ (List.mem_of_getElem? (i := 18) rfl)) (by decide) hh4 (argsL := [(.double (4607182418800017408 : UInt64))]) (rest := []) (W := 0) (own_rm4 l Z a0 hw []  h0 n0 (Nat.le_trans Z0 K0.1) ) (by decide) (by decide) (by rw [hml]; rfl) (lenOf own_pd4 rfl) rfl (by exact Nat.le_of_eq rfl) (hb hby own_d1_55) (by decide) (by decide) ?_
  intro T5 v5 L5 X5 hq5
  obtain ⟨rfl, N5q, hh5⟩ := hq5
  have N5 := Fr.app N4 N5q
  show own_Run p e below s _ _ _ (T5.setTop (mkF m 58 #[.val (.ref a0_), .val (.int i1), .val (.double (4607182418800017408 : UInt64)), .second, .val (.double (4607182418800017408 : UInt64)), .second, .val (.int i4), .val (.int i5), .val (.int i6), .val (.long j7), .second] [(.int (0 : Int32))]))
  refine own_st (fun t k => XS.ifYes X5.here hx rfl (pc0 := 58) (pc' := 76) rfl (hb hby own_d1_58) rfl ((if0 _ _).trans (teq (by decide : (0 : Int32) = (0 : Int32))).1) (by decide) (by decide) k) ?_
  show own_Run p e below s _ _ _ (T5.setTop (mkF m 76 #[.val (.ref a0_), .val (.int i1), .val (.double (4607182418800017408 : UInt64)), .second, .val (.double (4607182418800017408 : UInt64)), .second, .val (.int i4), .val (.int i5), .val (.int i6), .val (.long j7), .second] []))
  refine own_st (fun t k => XS.iload X5.here hx rfl (hb hby own_d1_76) rfl k) ?_
  show own_Run p e below s _ _ _ (T5.setTop (mkF m 78 #[.val (.ref a0_), .val (.int i1), .val (.double (4607182418800017408 : UInt64)), .second, .val (.double (4607182418800017408 : UInt64)), .second, .val (.int i4), .val (.int i5), .val (.int i6), .val (.long j7), .second] [(.int i4)]))
  refine own_st (fun t k => XS.iconst X5.here hx rfl (hb hby own_d1_78) k) ?_
  show own_Run p e below s _ _ _ (T5.setTop (mkF m 79 #[.val (.ref a0_), .val (.int i1), .val (.double (4607182418800017408 : UInt64)), .second, .val (.double (4607182418800017408 : UInt64)), .second, .val (.int i4), .val (.int i5), .val (.int i6), .val (.long j7), .second] [(.int (1 : Int32)), (.int i4)]))
  refine own_st (fun t k => XS.icmpYes X5.here hx rfl (pc0 := 79) (pc' := 92) rfl (hb hby own_d1_79) rfl (flt (h4 : ¬ (i4 < (1 : Int32)))).2.1 (by decide) (by decide) k) ?_
  show own_Run p e below s _ _ _ (T5.setTop (mkF m 92 #[.val (.ref a0_), .val (.int i1), .val (.double (4607182418800017408 : UInt64)), .second, .val (.double (4607182418800017408 : UInt64)), .second, .val (.int i4), .val (.int i5), .val (.int i6), .val (.long j7), .second] []))
  refine own_st (fun t k => XS.iload X5.here hx rfl (hb hby own_d1_92) rfl k) ?_
  show own_Run p e below s _ _ _ (T5.setTop (mkF m 94 #[.val (.ref a0_), .val (.int i1), .val (.double (4607182418800017408 : UInt64)), .second, .val (.double (4607182418800017408 : UInt64)), .second, .val (.int i4), .val (.int i5), .val (.int i6), .val (.long j7), .second] [(.int i5)]))
  refine own_st (fun t k => XS.ifNo X5.here hx rfl (hb hby own_d1_94) rfl ((if0 _ _).trans (flt (h5 : ¬ (i5 < (0 : Int32)))).1) k) ?_
  show own_Run p e below s _ _ _ (T5.setTop (mkF m 97 #[.val (.ref a0_), .val (.int i1), .val (.double (4607182418800017408 : UInt64)), .second, .val (.double (4607182418800017408 : UInt64)), .second, .val (.int i4), .val (.int i5), .val (.int i6), .val (.long j7), .second] []))
  refine own_st (fun t k => XS.iload X5.here hx rfl (hb hby own_d1_97) rfl k) ?_
  show own_Run p e below s _ _ _ (T5.setTop (mkF m 99 #[.val (.ref a0_), .val (.int i1), .val (.double (4607182418800017408 : UInt64)), .second, .val (.double (4607182418800017408 : UInt64)), .second, .val (.int i4), .val (.int i5), .val (.int i6), .val (.long j7), .second] [(.int i5)]))
  refine own_st (fun t k => XS.iload X5.here hx rfl (hb hby own_d1_99) rfl k) ?_
  show own_Run p e below s _ _ _ (T5.setTop (mkF m 101 #[.val (.ref a0_), .val (.int i1), .val (.double (4607182418800017408 : UInt64)), .second, .val (.double (4607182418800017408 : UInt64)), .second, .val (.int i4), .val (.int i5), .val (.int i6), .val (.long j7), .second] [(.int i4), (.int i5)]))
  refine own_st (fun t k => XS.icmpYes X5.here hx rfl (pc0 := 101) (pc' := 137) rfl (hb hby own_d1_101) rfl (tlt (h6 : i5 < i4)).1 (by decide) (by decide) k) ?_
  show own_Run p e below s _ _ _ (T5.setTop (mkF m 137 #[.val (.ref a0_), .val (.int i1), .val (.double (4607182418800017408 : UInt64)), .second, .val (.double (4607182418800017408 : UInt64)), .second, .val (.int i4), .val (.int i5), .val (.int i6), .val (.long j7), .second] []))
  refine own_st (fun t k => XS.iload X5.here hx rfl (hb hby own_d1_137) rfl k) ?_
  show own_Run p e below s _ _ _ (T5.setTop (mkF m 139 #[.val (.ref a0_), .val (.int i1), .val (.double (4607182418800017408 : UInt64)), .second, .val (.double (4607182418800017408 : UInt64)), .second, .val (.int i4), .val (.int i5), .val (.int i6), .val (.long j7), .second] [(.int i6)]))
  refine own_st (fun t k => XS.iconst X5.here hx rfl (hb hby own_d1_139) k) ?_
  show own_Run p e below s _ _ _ (T5.setTop (mkF m 140 #[.val (.ref a0_), .val (.int i1), .val (.double (4607182418800017408 : UInt64)), .second, .val (.double (4607182418800017408 : UInt64)), .second, .val (.int i4), .val (.int i5), .val (.int i6), .val (.long j7), .second] [(.int (1 : Int32)), (.int i6)]))
  refine own_st (fun t k => XS.icmpYes X5.here hx rfl (pc0 := 140) (pc' := 158) rfl (hb hby own_d1_140) rfl (flt (h7 : ¬ (i6 < (1 : Int32)))).2.1 (by decide) (by decide) k) ?_
  show own_Run p e below s _ _ _ (T5.setTop (mkF m 158 #[.val (.ref a0_), .val (.int i1), .val (.double (4607182418800017408 : UInt64)), .second, .val (.double (4607182418800017408 : UInt64)), .second, .val (.int i4), .val (.int i5), .val (.int i6), .val (.long j7), .second] []))
  refine own_st (fun t k => XS.aloadN X5.here hx rfl (hb hby own_d1_158) rfl rfl k) ?_
  show own_Run p e below s _ _ _ (T5.setTop (mkF m 159 #[.val (.ref a0_), .val (.int i1), .val (.double (4607182418800017408 : UInt64)), .second, .val (.double (4607182418800017408 : UInt64)), .second, .val (.int i4), .val (.int i5), .val (.int i6), .val (.long j7), .second] [(.ref a0_)]))
  refine own_st (fun t k => XS.iloadN X5.here hx rfl (hb hby own_d1_159) rfl k) ?_
  show own_Run p e below s _ _ _ (T5.setTop (mkF m 160 #[.val (.ref a0_), .val (.int i1), .val (.double (4607182418800017408 : UInt64)), .second, .val (.double (4607182418800017408 : UInt64)), .second, .val (.int i4), .val (.int i5), .val (.int i6), .val (.long j7), .second] [(.int i1), (.ref a0_)]))
  have F6 : Fld Z _ a0_ "com/example/nudge_rank/nudgerank/topic/LdaParameters" "topicCount" "I" (.int (0 : Int32)) := D0 (Or.inr (hw _ (List.mem_of_getElem? (i := 26) rfl))) (ty := .int) (by decide)
  obtain ⟨T7, h7, X7, e7, W7, st7⟩ := putF X5 hx hZ hown (host := "") (Or.inl (hw _ (List.mem_of_getElem? (i := 25) rfl))) Via.refl hh5 F6 E0 (Or.inr ⟨(hw _ (List.mem_of_getElem? (i := 26) rfl)), rfl, hnm⟩) (hw _ (List.mem_of_getElem? (i := 3) rfl)) (ty := .int) (by decide) rfl rfl (g := (mkF m 160 #[.val (.ref a0_), .val (.int i1), .val (.double (4607182418800017408 : UInt64)), .second, .val (.double (4607182418800017408 : UInt64)), .second, .val (.int i4), .val (.int i5), .val (.int i6), .val (.long j7), .second] [(.int i1), (.ref a0_)])) rfl rfl (hb hby own_d1_160)
  refine own_st st7 ?_
  have Fw7 := F6.same W7
  have N7 := Fr.snoc X7 N5 G0
  have K8 : Keep h0 h7 [a0_] := K0.wr W7 (Or.inl (List.mem_of_getElem? (i := 0) rfl))
  show own_Run p e below s _ _ _ (T7.setTop (mkF m 163 #[.val (.ref a0_), .val (.int i1), .val (.double (4607182418800017408 : UInt64)), .second, .val (.double (4607182418800017408 : UInt64)), .second, .val (.int i4), .val (.int i5), .val (.int i6), .val (.long j7), .second] []))
  refine own_st (fun t k => XS.aloadN X7.here hx rfl (hb hby own_d1_163) rfl rfl k) ?_
  show own_Run p e below s _ _ _ (T7.setTop (mkF m 164 #[.val (.ref a0_), .val (.int i1), .val (.double (4607182418800017408 : UInt64)), .second, .val (.double (4607182418800017408 : UInt64)), .second, .val (.int i4), .val (.int i5), .val (.int i6), .val (.long j7), .second] [(.ref a0_)]))
  refine own_st (fun t k => XS.dloadN X7.here hx rfl (hb hby own_d1_164) rfl k) ?_
  show own_Run p e below s _ _ _ (T7.setTop (mkF m 165 #[.val (.ref a0_), .val (.int i1), .val (.double (4607182418800017408 : UInt64)), .second, .val (.double (4607182418800017408 : UInt64)), .second, .val (.int i4), .val (.int i5), .val (.int i6), .val (.long j7), .second] [(.double (4607182418800017408 : UInt64)), (.ref a0_)]))
  have E10 := (E0.wr W7)
  have F11 : Fld Z _ a0_ "com/example/nudge_rank/nudgerank/topic/LdaParameters" "alpha" "D" (.double (0 : UInt64)) := D0 (Or.inr (hw _ (List.mem_of_getElem? (i := 28) rfl))) (ty := .double) (by decide)
  have F12 := (F11.other W7 (Or.inr (slot_ne (Or.inr (hw _ (List.mem_of_getElem? (i := 28) rfl))) (Or.inr (hw _ (List.mem_of_getElem? (i := 26) rfl))) (by decide) (t := .double) (t' := .int) (by decide) (by decide))))
  obtain ⟨T13, h13, X13, e13, W13, st13⟩ := putF X7 hx hZ hown (host := "") (Or.inl (hw _ (List.mem_of_getElem? (i := 27) rfl))) Via.refl e7 F12 E10 (Or.inr ⟨(hw _ (List.mem_of_getElem? (i := 28) rfl)), rfl, hnm⟩) (hw _ (List.mem_of_getElem? (i := 3) rfl)) (ty := .double) (by decide) rfl rfl (g := (mkF m 165 #[.val (.ref a0_), .val (.int i1), .val (.double (4607182418800017408 : UInt64)), .second, .val (.double (4607182418800017408 : UInt64)), .second, .val (.int i4), .val (.int i5), .val (.int i6), .val (.long j7), .second] [(.double (4607182418800017408 : UInt64)), (.ref a0_)])) rfl rfl (hb hby own_d1_165)
  refine own_st st13 ?_
  have Fw13 := F12.same W13
  have N13 := Fr.snoc X13 N7 G0
  have K14 : Keep h0 h13 [a0_] := K8.wr W13 (Or.inl (List.mem_of_getElem? (i := 0) rfl))
  show own_Run p e below s _ _ _ (T13.setTop (mkF m 168 #[.val (.ref a0_), .val (.int i1), .val (.double (4607182418800017408 : UInt64)), .second, .val (.double (4607182418800017408 : UInt64)), .second, .val (.int i4), .val (.int i5), .val (.int i6), .val (.long j7), .second] []))
  refine own_st (fun t k => XS.aloadN X13.here hx rfl (hb hby own_d1_168) rfl rfl k) ?_
  show own_Run p e below s _ _ _ (T13.setTop (mkF m 169 #[.val (.ref a0_), .val (.int i1), .val (.double (4607182418800017408 : UInt64)), .second, .val (.double (4607182418800017408 : UInt64)), .second, .val (.int i4), .val (.int i5), .val (.int i6), .val (.long j7), .second] [(.ref a0_)]))
  refine own_st (fun t k => XS.dload X13.here hx rfl (hb hby own_d1_169) rfl k) ?_
  show own_Run p e below s _ _ _ (T13.setTop (mkF m 171 #[.val (.ref a0_), .val (.int i1), .val (.double (4607182418800017408 : UInt64)), .second, .val (.double (4607182418800017408 : UInt64)), .second, .val (.int i4), .val (.int i5), .val (.int i6), .val (.long j7), .second] [(.double (4607182418800017408 : UInt64)), (.ref a0_)]))
  have E16 := (E10.wr W13)
  have F17 : Fld Z _ a0_ "com/example/nudge_rank/nudgerank/topic/LdaParameters" "beta" "D" (.double (0 : UInt64)) := D0 (Or.inr (hw _ (List.mem_of_getElem? (i := 30) rfl))) (ty := .double) (by decide)
  have F18 := ((F17.other W7 (Or.inr (slot_ne (Or.inr (hw _ (List.mem_of_getElem? (i := 30) rfl))) (Or.inr (hw _ (List.mem_of_getElem? (i := 26) rfl))) (by decide) (t := .double) (t' := .int) (by decide) (by decide)))).other W13 (Or.inr (slot_ne (Or.inr (hw _ (List.mem_of_getElem? (i := 30) rfl))) (Or.inr (hw _ (List.mem_of_getElem? (i := 28) rfl))) (by decide) (t := .double) (t' := .double) (by decide) (by decide))))
  obtain ⟨T19, h19, X19, e19, W19, st19⟩ := putF X13 hx hZ hown (host := "") (Or.inl (hw _ (List.mem_of_getElem? (i := 29) rfl))) Via.refl e13 F18 E16 (Or.inr ⟨(hw _ (List.mem_of_getElem? (i := 30) rfl)), rfl, hnm⟩) (hw _ (List.mem_of_getElem? (i := 3) rfl)) (ty := .double) (by decide) rfl rfl (g := (mkF m 171 #[.val (.ref a0_), .val (.int i1), .val (.double (4607182418800017408 : UInt64)), .second, .val (.double (4607182418800017408 : UInt64)), .second, .val (.int i4), .val (.int i5), .val (.int i6), .val (.long j7), .second] [(.double (4607182418800017408 : UInt64)), (.ref a0_)])) rfl rfl (hb hby own_d1_171)
  refine own_st st19 ?_
  have Fw19 := F18.same W19
  have N19 := Fr.snoc X19 N13 G0
  have K20 : Keep h0 h19 [a0_] := K14.wr W19 (Or.inl (List.mem_of_getElem? (i := 0) rfl))
  show own_Run p e below s _ _ _ (T19.setTop (mkF m 174 #[.val (.ref a0_), .val (.int i1), .val (.double (4607182418800017408 : UInt64)), .second, .val (.double (4607182418800017408 : UInt64)), .second, .val (.int i4), .val (.int i5), .val (.int i6), .val (.long j7), .second] []))
  refine own_st (fun t k => XS.aloadN X19.here hx rfl (hb hby own_d1_174) rfl rfl k) ?_
  show own_Run p e below s _ _ _ (T19.setTop (mkF m 175 #[.val (.ref a0_), .val (.int i1), .val (.double (4607182418800017408 : UInt64)), .second, .val (.double (4607182418800017408 : UInt64)), .second, .val (.int i4), .val (.int i5), .val (.int i6), .val (.long j7), .second] [(.ref a0_)]))
  refine own_st (fun t k => XS.iload X19.here hx rfl (hb hby own_d1_175) rfl k) ?_
  show own_Run p e below s _ _ _ (T19.setTop (mkF m 177 #[.val (.ref a0_), .val (.int i1), .val (.double (4607182418800017408 : UInt64)), .second, .val (.double (4607182418800017408 : UInt64)), .second, .val (.int i4), .val (.int i5), .val (.int i6), .val (.long j7), .second] [(.int i4), (.ref a0_)]))
  have E22 := (E16.wr W19)
  have F23 : Fld Z _ a0_ "com/example/nudge_rank/nudgerank/topic/LdaParameters" "iterations" "I" (.int (0 : Int32)) := D0 (Or.inr (hw _ (List.mem_of_getElem? (i := 32) rfl))) (ty := .int) (by decide)
  have F24 := (((F23.other W7 (Or.inr (slot_ne (Or.inr (hw _ (List.mem_of_getElem? (i := 32) rfl))) (Or.inr (hw _ (List.mem_of_getElem? (i := 26) rfl))) (by decide) (t := .int) (t' := .int) (by decide) (by decide)))).other W13 (Or.inr (slot_ne (Or.inr (hw _ (List.mem_of_getElem? (i := 32) rfl))) (Or.inr (hw _ (List.mem_of_getElem? (i := 28) rfl))) (by decide) (t := .int) (t' := .double) (by decide) (by decide)))).other W19 (Or.inr (slot_ne (Or.inr (hw _ (List.mem_of_getElem? (i := 32) rfl))) (Or.inr (hw _ (List.mem_of_getElem? (i := 30) rfl))) (by decide) (t := .int) (t' := .double) (by decide) (by decide))))
  obtain ⟨T25, h25, X25, e25, W25, st25⟩ := putF X19 hx hZ hown (host := "") (Or.inl (hw _ (List.mem_of_getElem? (i := 31) rfl))) Via.refl e19 F24 E22 (Or.inr ⟨(hw _ (List.mem_of_getElem? (i := 32) rfl)), rfl, hnm⟩) (hw _ (List.mem_of_getElem? (i := 3) rfl)) (ty := .int) (by decide) rfl rfl (g := (mkF m 177 #[.val (.ref a0_), .val (.int i1), .val (.double (4607182418800017408 : UInt64)), .second, .val (.double (4607182418800017408 : UInt64)), .second, .val (.int i4), .val (.int i5), .val (.int i6), .val (.long j7), .second] [(.int i4), (.ref a0_)])) rfl rfl (hb hby own_d1_177)
  refine own_st st25 ?_
  have Fw25 := F24.same W25
  have N25 := Fr.snoc X25 N19 G0
  have K26 : Keep h0 h25 [a0_] := K20.wr W25 (Or.inl (List.mem_of_getElem? (i := 0) rfl))
  show own_Run p e below s _ _ _ (T25.setTop (mkF m 180 #[.val (.ref a0_), .val (.int i1), .val (.double (4607182418800017408 : UInt64)), .second, .val (.double (4607182418800017408 : UInt64)), .second, .val (.int i4), .val (.int i5), .val (.int i6), .val (.long j7), .second] []))
  refine own_st (fun t k => XS.aloadN X25.here hx rfl (hb hby own_d1_180) rfl rfl k) ?_
  show own_Run p e below s _ _ _ (T25.setTop (mkF m 181 #[.val (.ref a0_), .val (.int i1), .val (.double (4607182418800017408 : UInt64)), .second, .val (.double (4607182418800017408 : UInt64)), .second, .val (.int i4), .val (.int i5), .val (.int i6), .val (.long j7), .second] [(.ref a0_)]))
  refine own_st (fun t k => XS.iload X25.here hx rfl (hb hby own_d1_181) rfl k) ?_
  show own_Run p e below s _ _ _ (T25.setTop (mkF m 183 #[.val (.ref a0_), .val (.int i1), .val (.double (4607182418800017408 : UInt64)), .second, .val (.double (4607182418800017408 : UInt64)), .second, .val (.int i4), .val (.int i5), .val (.int i6), .val (.long j7), .second] [(.int i5), (.ref a0_)]))
  have E28 := (E22.wr W25)
  have F29 : Fld Z _ a0_ "com/example/nudge_rank/nudgerank/topic/LdaParameters" "burnIn" "I" (.int (0 : Int32)) := D0 (Or.inr (hw _ (List.mem_of_getElem? (i := 34) rfl))) (ty := .int) (by decide)
  have F30 := ((((F29.other W7 (Or.inr (slot_ne (Or.inr (hw _ (List.mem_of_getElem? (i := 34) rfl))) (Or.inr (hw _ (List.mem_of_getElem? (i := 26) rfl))) (by decide) (t := .int) (t' := .int) (by decide) (by decide)))).other W13 (Or.inr (slot_ne (Or.inr (hw _ (List.mem_of_getElem? (i := 34) rfl))) (Or.inr (hw _ (List.mem_of_getElem? (i := 28) rfl))) (by decide) (t := .int) (t' := .double) (by decide) (by decide)))).other W19 (Or.inr (slot_ne (Or.inr (hw _ (List.mem_of_getElem? (i := 34) rfl))) (Or.inr (hw _ (List.mem_of_getElem? (i := 30) rfl))) (by decide) (t := .int) (t' := .double) (by decide) (by decide)))).other W25 (Or.inr (slot_ne (Or.inr (hw _ (List.mem_of_getElem? (i := 34) rfl))) (Or.inr (hw _ (List.mem_of_getElem? (i := 32) rfl))) (by decide) (t := .int) (t' := .int) (by decide) (by decide))))
  obtain ⟨T31, h31, X31, e31, W31, st31⟩ := putF X25 hx hZ hown (host := "") (Or.inl (hw _ (List.mem_of_getElem? (i := 33) rfl))) Via.refl e25 F30 E28 (Or.inr ⟨(hw _ (List.mem_of_getElem? (i := 34) rfl)), rfl, hnm⟩) (hw _ (List.mem_of_getElem? (i := 3) rfl)) (ty := .int) (by decide) rfl rfl (g := (mkF m 183 #[.val (.ref a0_), .val (.int i1), .val (.double (4607182418800017408 : UInt64)), .second, .val (.double (4607182418800017408 : UInt64)), .second, .val (.int i4), .val (.int i5), .val (.int i6), .val (.long j7), .second] [(.int i5), (.ref a0_)])) rfl rfl (hb hby own_d1_183)
  refine own_st st31 ?_
  have Fw31 := F30.same W31
  have N31 := Fr.snoc X31 N25 G0
  have K32 : Keep h0 h31 [a0_] := K26.wr W31 (Or.inl (List.mem_of_getElem? (i := 0) rfl))
  show own_Run p e below s _ _ _ (T31.setTop (mkF m 186 #[.val (.ref a0_), .val (.int i1), .val (.double (4607182418800017408 : UInt64)), .second, .val (.double (4607182418800017408 : UInt64)), .second, .val (.int i4), .val (.int i5), .val (.int i6), .val (.long j7), .second] []))
  refine own_st (fun t k => XS.aloadN X31.here hx rfl (hb hby own_d1_186) rfl rfl k) ?_
  show own_Run p e below s _ _ _ (T31.setTop (mkF m 187 #[.val (.ref a0_), .val (.int i1), .val (.double (4607182418800017408 : UInt64)), .second, .val (.double (4607182418800017408 : UInt64)), .second, .val (.int i4), .val (.int i5), .val (.int i6), .val (.long j7), .second] [(.ref a0_)]))
  refine own_st (fun t k => XS.iload X31.here hx rfl (hb hby own_d1_187) rfl k) ?_
  show own_Run p e below s _ _ _ (T31.setTop (mkF m 189 #[.val (.ref a0_), .val (.int i1), .val (.double (4607182418800017408 : UInt64)), .second, .val (.double (4607182418800017408 : UInt64)), .second, .val (.int i4), .val (.int i5), .val (.int i6), .val (.long j7), .second] [(.int i6), (.ref a0_)]))
  have E34 := (E28.wr W31)
  have F35 : Fld Z _ a0_ "com/example/nudge_rank/nudgerank/topic/LdaParameters" "sampleInterval" "I" (.int (0 : Int32)) := D0 (Or.inr (hw _ (List.mem_of_getElem? (i := 36) rfl))) (ty := .int) (by decide)
  have F36 := (((((F35.other W7 (Or.inr (slot_ne (Or.inr (hw _ (List.mem_of_getElem? (i := 36) rfl))) (Or.inr (hw _ (List.mem_of_getElem? (i := 26) rfl))) (by decide) (t := .int) (t' := .int) (by decide) (by decide)))).other W13 (Or.inr (slot_ne (Or.inr (hw _ (List.mem_of_getElem? (i := 36) rfl))) (Or.inr (hw _ (List.mem_of_getElem? (i := 28) rfl))) (by decide) (t := .int) (t' := .double) (by decide) (by decide)))).other W19 (Or.inr (slot_ne (Or.inr (hw _ (List.mem_of_getElem? (i := 36) rfl))) (Or.inr (hw _ (List.mem_of_getElem? (i := 30) rfl))) (by decide) (t := .int) (t' := .double) (by decide) (by decide)))).other W25 (Or.inr (slot_ne (Or.inr (hw _ (List.mem_of_getElem? (i := 36) rfl))) (Or.inr (hw _ (List.mem_of_getElem? (i := 32) rfl))) (by decide) (t := .int) (t' := .int) (by decide) (by decide)))).other W31 (Or.inr (slot_ne (Or.inr (hw _ (List.mem_of_getElem? (i := 36) rfl))) (Or.inr (hw _ (List.mem_of_getElem? (i := 34) rfl))) (by decide) (t := .int) (t' := .int) (by decide) (by decide))))
  obtain ⟨T37, h37, X37, e37, W37, st37⟩ := putF X31 hx hZ hown (host := "") (Or.inl (hw _ (List.mem_of_getElem? (i := 35) rfl))) Via.refl e31 F36 E34 (Or.inr ⟨(hw _ (List.mem_of_getElem? (i := 36) rfl)), rfl, hnm⟩) (hw _ (List.mem_of_getElem? (i := 3) rfl)) (ty := .int) (by decide) rfl rfl (g := (mkF m 189 #[.val (.ref a0_), .val (.int i1), .val (.double (4607182418800017408 : UInt64)), .second, .val (.double (4607182418800017408 : UInt64)), .second, .val (.int i4), .val (.int i5), .val (.int i6), .val (.long j7), .second] [(.int i6), (.ref a0_)])) rfl rfl (hb hby own_d1_189)
  refine own_st st37 ?_
  have Fw37 := F36.same W37
  have N37 := Fr.snoc X37 N31 G0
  have K38 : Keep h0 h37 [a0_] := K32.wr W37 (Or.inl (List.mem_of_getElem? (i := 0) rfl))
  show own_Run p e below s _ _ _ (T37.setTop (mkF m 192 #[.val (.ref a0_), .val (.int i1), .val (.double (4607182418800017408 : UInt64)), .second, .val (.double (4607182418800017408 : UInt64)), .second, .val (.int i4), .val (.int i5), .val (.int i6), .val (.long j7), .second] []))
  refine own_st (fun t k => XS.aloadN X37.here hx rfl (hb hby own_d1_192) rfl rfl k) ?_
  show own_Run p e below s _ _ _ (T37.setTop (mkF m 193 #[.val (.ref a0_), .val (.int i1), .val (.double (4607182418800017408 : UInt64)), .second, .val (.double (4607182418800017408 : UInt64)), .second, .val (.int i4), .val (.int i5), .val (.int i6), .val (.long j7), .second] [(.ref a0_)]))
  refine own_st (fun t k => XS.lload X37.here hx rfl (hb hby own_d1_193) rfl k) ?_
  show own_Run p e below s _ _ _ (T37.setTop (mkF m 195 #[.val (.ref a0_), .val (.int i1), .val (.double (4607182418800017408 : UInt64)), .second, .val (.double (4607182418800017408 : UInt64)), .second, .val (.int i4), .val (.int i5), .val (.int i6), .val (.long j7), .second] [(.long j7), (.ref a0_)]))
  have E40 := (E34.wr W37)
  have F41 : Fld Z _ a0_ "com/example/nudge_rank/nudgerank/topic/LdaParameters" "seed" "J" (.long (0 : Int64)) := D0 (Or.inr (hw _ (List.mem_of_getElem? (i := 38) rfl))) (ty := .long) (by decide)
  have F42 := ((((((F41.other W7 (Or.inr (slot_ne (Or.inr (hw _ (List.mem_of_getElem? (i := 38) rfl))) (Or.inr (hw _ (List.mem_of_getElem? (i := 26) rfl))) (by decide) (t := .long) (t' := .int) (by decide) (by decide)))).other W13 (Or.inr (slot_ne (Or.inr (hw _ (List.mem_of_getElem? (i := 38) rfl))) (Or.inr (hw _ (List.mem_of_getElem? (i := 28) rfl))) (by decide) (t := .long) (t' := .double) (by decide) (by decide)))).other W19 (Or.inr (slot_ne (Or.inr (hw _ (List.mem_of_getElem? (i := 38) rfl))) (Or.inr (hw _ (List.mem_of_getElem? (i := 30) rfl))) (by decide) (t := .long) (t' := .double) (by decide) (by decide)))).other W25 (Or.inr (slot_ne (Or.inr (hw _ (List.mem_of_getElem? (i := 38) rfl))) (Or.inr (hw _ (List.mem_of_getElem? (i := 32) rfl))) (by decide) (t := .long) (t' := .int) (by decide) (by decide)))).other W31 (Or.inr (slot_ne (Or.inr (hw _ (List.mem_of_getElem? (i := 38) rfl))) (Or.inr (hw _ (List.mem_of_getElem? (i := 34) rfl))) (by decide) (t := .long) (t' := .int) (by decide) (by decide)))).other W37 (Or.inr (slot_ne (Or.inr (hw _ (List.mem_of_getElem? (i := 38) rfl))) (Or.inr (hw _ (List.mem_of_getElem? (i := 36) rfl))) (by decide) (t := .long) (t' := .int) (by decide) (by decide))))
  obtain ⟨T43, h43, X43, e43, W43, st43⟩ := putF X37 hx hZ hown (host := "") (Or.inl (hw _ (List.mem_of_getElem? (i := 37) rfl))) Via.refl e37 F42 E40 (Or.inr ⟨(hw _ (List.mem_of_getElem? (i := 38) rfl)), rfl, hnm⟩) (hw _ (List.mem_of_getElem? (i := 3) rfl)) (ty := .long) (by decide) rfl rfl (g := (mkF m 195 #[.val (.ref a0_), .val (.int i1), .val (.double (4607182418800017408 : UInt64)), .second, .val (.double (4607182418800017408 : UInt64)), .second, .val (.int i4), .val (.int i5), .val (.int i6), .val (.long j7), .second] [(.long j7), (.ref a0_)])) rfl rfl (hb hby own_d1_195)
  refine own_st st43 ?_
  have Fw43 := F42.same W43
  have N43 := Fr.snoc X43 N37 G0
  have K44 : Keep h0 h43 [a0_] := K38.wr W43 (Or.inl (List.mem_of_getElem? (i := 0) rfl))
  show own_Run p e below s _ _ _ (T43.setTop (mkF m 198 #[.val (.ref a0_), .val (.int i1), .val (.double (4607182418800017408 : UInt64)), .second, .val (.double (4607182418800017408 : UInt64)), .second, .val (.int i4), .val (.int i5), .val (.int i6), .val (.long j7), .second] []))
  have hQe := e43
  subst hQe
  have E46 := (E40.wr W43)
  have F47 := (((Fw25.other W31 (Or.inr (slot_ne (Or.inr (hw _ (List.mem_of_getElem? (i := 32) rfl))) (Or.inr (hw _ (List.mem_of_getElem? (i := 34) rfl))) (by decide) (t := .int) (t' := .int) (by decide) (by decide)))).other W37 (Or.inr (slot_ne (Or.inr (hw _ (List.mem_of_getElem? (i := 32) rfl))) (Or.inr (hw _ (List.mem_of_getElem? (i := 36) rfl))) (by decide) (t := .int) (t' := .int) (by decide) (by decide)))).other W43 (Or.inr (slot_ne (Or.inr (hw _ (List.mem_of_getElem? (i := 32) rfl))) (Or.inr (hw _ (List.mem_of_getElem? (i := 38) rfl))) (by decide) (t := .int) (t' := .long) (by decide) (by decide))))
  have F48 := ((Fw31.other W37 (Or.inr (slot_ne (Or.inr (hw _ (List.mem_of_getElem? (i := 34) rfl))) (Or.inr (hw _ (List.mem_of_getElem? (i := 36) rfl))) (by decide) (t := .int) (t' := .int) (by decide) (by decide)))).other W43 (Or.inr (slot_ne (Or.inr (hw _ (List.mem_of_getElem? (i := 34) rfl))) (Or.inr (hw _ (List.mem_of_getElem? (i := 38) rfl))) (by decide) (t := .int) (t' := .long) (by decide) (by decide))))
  have F49 := (Fw37.other W43 (Or.inr (slot_ne (Or.inr (hw _ (List.mem_of_getElem? (i := 36) rfl))) (Or.inr (hw _ (List.mem_of_getElem? (i := 38) rfl))) (by decide) (t := .int) (t' := .long) (by decide) (by decide))))
  exact own_retV X43 hx hlk hret (hb hby own_d1_198) (by decide) (by decide) ⟨rfl, N43, K44, E46, F47, F48, F49⟩
theorem own_d6_0 : decode prog_20_method_5_code 0 = .ok (.iload_n 1, 1) := by decide +kernel
theorem own_d6_1 : decode prog_20_method_5_code 1 = .ok (.aload_n 0, 1) := by decide +kernel
theorem own_d6_2 : decode prog_20_method_5_code 2 = .ok (.getfield 62, 3) := by decide +kernel
theorem own_d6_5 : decode prog_20_method_5_code 5 = .ok (.if_icmp .le 29, 3) := by decide +kernel
theorem own_d6_8 : decode prog_20_method_5_code 8 = .ok (.iload_n 1, 1) := by decide +kernel
theorem own_d6_9 : decode prog_20_method_5_code 9 = .ok (.aload_n 0, 1) := by decide +kernel
theorem own_d6_10 : decode prog_20_method_5_code 10 = .ok (.getfield 59, 3) := by decide +kernel
theorem own_d6_13 : decode prog_20_method_5_code 13 = .ok (.if_icmp .gt 21, 3) := by decide +kernel
theorem own_d6_34 : decode prog_20_method_5_code 34 = .ok (.iconst 0, 1) := by decide +kernel
theorem own_d6_35 : decode prog_20_method_5_code 35 = .ok (.ireturn, 1) := by decide +kernel
theorem own_d6_16 : decode prog_20_method_5_code 16 = .ok (.aload_n 0, 1) := by decide +kernel
theorem own_d6_17 : decode prog_20_method_5_code 17 = .ok (.getfield 59, 3) := by decide +kernel
theorem own_d6_20 : decode prog_20_method_5_code 20 = .ok (.iload_n 1, 1) := by decide +kernel
theorem own_d6_21 : decode prog_20_method_5_code 21 = .ok (.isub, 1) := by decide +kernel
theorem own_d6_22 : decode prog_20_method_5_code 22 = .ok (.aload_n 0, 1) := by decide +kernel
theorem own_d6_23 : decode prog_20_method_5_code 23 = .ok (.getfield 65, 3) := by decide +kernel
theorem own_d6_26 : decode prog_20_method_5_code 26 = .ok (.irem, 1) := by decide +kernel
theorem own_d6_27 : decode prog_20_method_5_code 27 = .ok (.ifCond .ne 7, 3) := by decide +kernel
theorem own_d6_30 : decode prog_20_method_5_code 30 = .ok (.iconst 1, 1) := by decide +kernel
theorem own_d6_31 : decode prog_20_method_5_code 31 = .ok (.goto 4, 3) := by decide +kernel
set_option maxHeartbeats 4000000 in
theorem own_ef6 (m : MethodId) (x0 : Addr) (x1 : Int32) : entryFrame m #[(.ref x0), (.int x1)] 2 = mkF m 0 #[.val (.ref x0), .val (.int x1)] [] := by first | (simp [entryFrame, mkF, argsToLocals, Value.category]; done) | rfl
def own_Q6 (Z : State) (a0 : Array Value) (o0 : Addr) (i1 : Int32) (it : Int32) (bi : Int32) (si : Int32) (h0 : Heap) (n0 : Nat) (v : Option Value) (h : Heap) (L : List Loc) : Prop := v = some (.int (if (bi < i1 ∧ ¬ (it < i1) ∧ ((it - i1) % si) = (0 : Int32)) then 1 else 0 : Int32)) ∧ Fr n0 L ∧ h = h0
set_option maxRecDepth 65536 in
set_option maxHeartbeats 40000000 in
theorem own_rm6 (l : Launch) (Z : State) (a0 : Array Value) (hw : ∀ d ∈ tables_1, d.before a0 Z = true) (ws : List Jvm.Cond) (o0 : Addr) (i1 : Int32) (it : Int32) (bi : Int32) (si : Int32) (h0 : Heap) (n0 : Nat) (Z0 : n0 ≤ h0.size) (F_i : Fld Z h0 o0 "com/example/nudge_rank/nudgerank/topic/LdaParameters" "iterations" "I" (.int it)) (F_b : Fld Z h0 o0 "com/example/nudge_rank/nudgerank/topic/LdaParameters" "burnIn" "I" (.int bi)) (F_s : Fld Z h0 o0 "com/example/nudge_rank/nudgerank/topic/LdaParameters" "sampleInterval" "I" (.int si)) (hz : si ≠ 0) :
    MetFree l (⟨"com/example/nudge_rank/nudgerank/topic/LdaParameters", "isSample", "(I)Z"⟩ : MethodName) (head1 (Jvm.Cond.code (⟨"com/example/nudge_rank/nudgerank/topic/LdaParameters", "isSample", "(I)Z"⟩ : MethodName) prog_20_method_5_code 2 (some .boolean) :: ws) ({ frames := 0, cells := 0, slots := 0, locals := 0 } : Room)) (fun a U => a = #[(.ref o0), (.int i1)] ∧ Z.Warmed39 U.vm ∧ U.heap = h0) (fun _ _ _ _ _ => True) (fun _ U o U' => ∃ v L, o = .returned v ∧ own_Q6 Z a0 o0 i1 it bi si h0 n0 v U'.heap L ∧ FrameEnd U o U' L ({ frames := 0, cells := 0, slots := 0, locals := 0 } : Room).cells ({ frames := 0, cells := 0, slots := 0, locals := 0 } : Room).slots) := by
  refine own_body (Q := fun v h L => own_Q6 Z a0 o0 i1 it bi si h0 n0 v h L) (plainFor_of_name own_pn5) ?_
  intro p e s m below meth c s₁ hx hby hml hZ hown hnm hret hlk X0 e0
  replace hml : c.maxLocals = 2 := hml
  have N0 := Fr.nil n0
  have K0 : Keep h0 h0 [] := Keep.refl _ _
  refine own_st (fun t k => castTop (own_ef6 m o0 i1) k) ?_
  show own_Run p e below s _ _ _ (s₁.setTop (mkF m 0 #[.val (.ref o0), .val (.int i1)] []))
  refine own_st (fun t k => XS.iloadN X0.here hx rfl (hb hby own_d6_0) rfl k) ?_
  show own_Run p e below s _ _ _ (s₁.setTop (mkF m 1 #[.val (.ref o0), .val (.int i1)] [(.int i1)]))
  refine own_st (fun t k => XS.aloadN X0.here hx rfl (hb hby own_d6_1) rfl rfl k) ?_
  show own_Run p e below s _ _ _ (s₁.setTop (mkF m 2 #[.val (.ref o0), .val (.int i1)] [(.ref o0), (.int i1)]))
  obtain ⟨T50, X50, e50, st50⟩ := getF X0 hx hZ hown (host := "") (Or.inl (hw _ (List.mem_of_getElem? (i := 33) rfl))) Via.refl e0 F_b (g := (mkF m 2 #[.val (.ref o0), .val (.int i1)] [(.ref o0), (.int i1)])) rfl rfl (hb hby own_d6_2)
  refine own_st st50 ?_
  show own_Run p e below s _ _ _ (T50.setTop (mkF m 5 #[.val (.ref o0), .val (.int i1)] [(.int bi), (.int i1)]))
  by_cases hA : bi < i1
  · skip
    refine own_st (fun t k => XS.icmpNo X50.here hx rfl (hb hby own_d6_5) rfl (tlt (hA : bi < i1)).2.2.2 k) ?_
    show own_Run p e below s _ _ _ (T50.setTop (mkF m 8 #[.val (.ref o0), .val (.int i1)] []))
    refine own_st (fun t k => XS.iloadN X50.here hx rfl (hb hby own_d6_8) rfl k) ?_
    show own_Run p e below s _ _ _ (T50.setTop (mkF m 9 #[.val (.ref o0), .val (.int i1)] [(.int i1)]))
    refine own_st (fun t k => XS.aloadN X50.here hx rfl (hb hby own_d6_9) rfl rfl k) ?_
    show own_Run p e below s _ _ _ (T50.setTop (mkF m 10 #[.val (.ref o0), .val (.int i1)] [(.ref o0), (.int i1)]))
    obtain ⟨T51, X51, e51, st51⟩ := getF X50 hx hZ hown (host := "") (Or.inl (hw _ (List.mem_of_getElem? (i := 31) rfl))) Via.refl e50 F_i (g := (mkF m 10 #[.val (.ref o0), .val (.int i1)] [(.ref o0), (.int i1)])) rfl rfl (hb hby own_d6_10)
    refine own_st st51 ?_
    show own_Run p e below s _ _ _ (T51.setTop (mkF m 13 #[.val (.ref o0), .val (.int i1)] [(.int it), (.int i1)]))
    by_cases hB : it < i1
    · skip
      refine own_st (fun t k => XS.icmpYes X51.here hx rfl (pc0 := 13) (pc' := 34) rfl (hb hby own_d6_13) rfl (tlt (hB : it < i1)).2.2.1 (by decide) (by decide) k) ?_
      show own_Run p e below s _ _ _ (T51.setTop (mkF m 34 #[.val (.ref o0), .val (.int i1)] []))
      refine own_st (fun t k => XS.iconst X51.here hx rfl (hb hby own_d6_34) k) ?_
      show own_Run p e below s _ _ _ (T51.setTop (mkF m 35 #[.val (.ref o0), .val (.int i1)] [(.int (0 : Int32))]))
      exact own_ret X51 hx hlk (t := .boolean) hret rfl (Or.inl ⟨rfl, by simp, _, rfl⟩) (hb hby own_d6_35) (by decide) (by decide) ⟨by first | simp [hA, hB, hC] | simp [hA, hB] | simp [hA], N0, e51⟩
    · skip
      refine own_st (fun t k => XS.icmpNo X51.here hx rfl (hb hby own_d6_13) rfl (flt (hB : ¬ (it < i1))).2.2.1 k) ?_
      show own_Run p e below s _ _ _ (T51.setTop (mkF m 16 #[.val (.ref o0), .val (.int i1)] []))
      refine own_st (fun t k => XS.aloadN X51.here hx rfl (hb hby own_d6_16) rfl rfl k) ?_
      show own_Run p e below s _ _ _ (T51.setTop (mkF m 17 #[.val (.ref o0), .val (.int i1)] [(.ref o0)]))
      obtain ⟨T52, X52, e52, st52⟩ := getF X51 hx hZ hown (host := "") (Or.inl (hw _ (List.mem_of_getElem? (i := 31) rfl))) Via.refl e51 F_i (g := (mkF m 17 #[.val (.ref o0), .val (.int i1)] [(.ref o0)])) rfl rfl (hb hby own_d6_17)
      refine own_st st52 ?_
      show own_Run p e below s _ _ _ (T52.setTop (mkF m 20 #[.val (.ref o0), .val (.int i1)] [(.int it)]))
      refine own_st (fun t k => XS.iloadN X52.here hx rfl (hb hby own_d6_20) rfl k) ?_
      show own_Run p e below s _ _ _ (T52.setTop (mkF m 21 #[.val (.ref o0), .val (.int i1)] [(.int i1), (.int it)]))
      refine own_st (fun t k => XS.isub X52.here hx rfl (hb hby own_d6_21) rfl k) ?_
      show own_Run p e below s _ _ _ (T52.setTop (mkF m 22 #[.val (.ref o0), .val (.int i1)] [(.int (it - i1))]))
      refine own_st (fun t k => XS.aloadN X52.here hx rfl (hb hby own_d6_22) rfl rfl k) ?_
      show own_Run p e below s _ _ _ (T52.setTop (mkF m 23 #[.val (.ref o0), .val (.int i1)] [(.ref o0), (.int (it - i1))]))
      obtain ⟨T53, X53, e53, st53⟩ := getF X52 hx hZ hown (host := "") (Or.inl (hw _ (List.mem_of_getElem? (i := 35) rfl))) Via.refl e52 F_s (g := (mkF m 23 #[.val (.ref o0), .val (.int i1)] [(.ref o0), (.int (it - i1))])) rfl rfl (hb hby own_d6_23)
      refine own_st st53 ?_
      show own_Run p e below s _ _ _ (T53.setTop (mkF m 26 #[.val (.ref o0), .val (.int i1)] [(.int si), (.int (it - i1))]))
      refine own_st (fun t k => iremM X53 hx rfl (hb hby own_d6_26) rfl (hz) k) ?_
      show own_Run p e below s _ _ _ (T53.setTop (mkF m 27 #[.val (.ref o0), .val (.int i1)] [(.int ((it - i1) % si))]))
      by_cases hC : ((it - i1) % si) = (0 : Int32)
      · skip
        refine own_st (fun t k => XS.ifNo X53.here hx rfl (hb hby own_d6_27) rfl ((if0 _ _).trans (teq (hC : ((it - i1) % si) = (0 : Int32))).2) k) ?_
        show own_Run p e below s _ _ _ (T53.setTop (mkF m 30 #[.val (.ref o0), .val (.int i1)] []))
        refine own_st (fun t k => XS.iconst X53.here hx rfl (hb hby own_d6_30) k) ?_
        show own_Run p e below s _ _ _ (T53.setTop (mkF m 31 #[.val (.ref o0), .val (.int i1)] [(.int (1 : Int32))]))
        refine own_st (fun t k => XS.goto X53.here hx rfl (pc0 := 31) (pc' := 35) rfl (hb hby own_d6_31) (by decide) (by decide) k) ?_
        show own_Run p e below s _ _ _ (T53.setTop (mkF m 35 #[.val (.ref o0), .val (.int i1)] [(.int (1 : Int32))]))
        exact own_ret X53 hx hlk (t := .boolean) hret rfl (Or.inl ⟨rfl, by simp, _, rfl⟩) (hb hby own_d6_35) (by decide) (by decide) ⟨by first | simp [hA, hB, hC] | simp [hA, hB] | simp [hA], N0, e53⟩
      · skip
        refine own_st (fun t k => XS.ifYes X53.here hx rfl (pc0 := 27) (pc' := 34) rfl (hb hby own_d6_27) rfl ((if0 _ _).trans (feq (hC : ¬ (((it - i1) % si) = (0 : Int32)))).2) (by decide) (by decide) k) ?_
        show own_Run p e below s _ _ _ (T53.setTop (mkF m 34 #[.val (.ref o0), .val (.int i1)] []))
        refine own_st (fun t k => XS.iconst X53.here hx rfl (hb hby own_d6_34) k) ?_
        show own_Run p e below s _ _ _ (T53.setTop (mkF m 35 #[.val (.ref o0), .val (.int i1)] [(.int (0 : Int32))]))
        exact own_ret X53 hx hlk (t := .boolean) hret rfl (Or.inl ⟨rfl, by simp, _, rfl⟩) (hb hby own_d6_35) (by decide) (by decide) ⟨by first | simp [hA, hB, hC] | simp [hA, hB] | simp [hA], N0, e53⟩
  · skip
    refine own_st (fun t k => XS.icmpYes X50.here hx rfl (pc0 := 5) (pc' := 34) rfl (hb hby own_d6_5) rfl (flt (hA : ¬ (bi < i1))).2.2.2 (by decide) (by decide) k) ?_
    show own_Run p e below s _ _ _ (T50.setTop (mkF m 34 #[.val (.ref o0), .val (.int i1)] []))
    refine own_st (fun t k => XS.iconst X50.here hx rfl (hb hby own_d6_34) k) ?_
    show own_Run p e below s _ _ _ (T50.setTop (mkF m 35 #[.val (.ref o0), .val (.int i1)] [(.int (0 : Int32))]))
    exact own_ret X50 hx hlk (t := .boolean) hret rfl (Or.inl ⟨rfl, by simp, _, rfl⟩) (hb hby own_d6_35) (by decide) (by decide) ⟨by first | simp [hA, hB, hC] | simp [hA, hB] | simp [hA], N0, e50⟩
theorem own_pd6 : parseMethodDescriptor "(IDDIIIJ)V" = some ⟨[.int, .double, .double, .int, .int, .int, .long], none⟩ := by decide +kernel
theorem own_pd7 : parseMethodDescriptor "(I)Z" = some ⟨[.int], some .boolean⟩ := by decide +kernel
set_option maxHeartbeats 4000000 in
theorem own_ef0 (m : MethodId) (x0 : Int32) (x1 : Int32) (x2 : Int32) (x3 : Int64) (x4 : Int32) (x5 : Int32) : entryFrame m #[(.int x0), (.int x1), (.int x2), (.long x3), (.int x4), (.int x5)] maxLocals = mkF m 0 #[.val (.int x0), .val (.int x1), .val (.int x2), .val (.long x3), .second, .val (.int x4), .val (.int x5), .unset, .unset, .unset, .unset, .unset, .unset, .unset, .unset, .unset, .unset, .unset] [] := by first | (simp [entryFrame, mkF, argsToLocals, Value.category, maxLocals]; done) | rfl
theorem own_pn8 : plainName "com/example/nudge_rank/nudgerank/topic/LdaParametersIsSamplePinLaw" = true := by first | (simp [plainName, overriddenIn]; done) | decide +kernel
def own_Q0 (Z : State) (a0 : Array Value) (i0 : Int32) (i1 : Int32) (i2 : Int32) (j3 : Int64) (i4 : Int32) (i5 : Int32) (h0 : Heap) (n0 : Nat) (v : Option Value) (h : Heap) (L : List Loc) : Prop := v = some (.int 1) ∧ Fr n0 L
set_option maxRecDepth 65536 in
set_option maxHeartbeats 40000000 in
theorem own_rm0 (l : Launch) (Z : State) (a0 : Array Value) (hw : ∀ d ∈ tables_1, d.before a0 Z = true) (ws : List Jvm.Cond) (i0 : Int32) (i1 : Int32) (i2 : Int32) (j3 : Int64) (i4 : Int32) (i5 : Int32) (h0 : Heap) (n0 : Nat) (Z0 : n0 ≤ h0.size) (O0 : Old Z n0 h0) :
    MetFree l x (head1 (Jvm.Cond.code x code maxLocals ret :: ws) room_1) (fun a U => a = #[(.int i0), (.int i1), (.int i2), (.long j3), (.int i4), (.int i5)] ∧ Z.Warmed39 U.vm ∧ U.heap = h0) (fun _ _ _ _ _ => True) (fun _ U o U' => ∃ v L, o = .returned v ∧ own_Q0 Z a0 i0 i1 i2 j3 i4 i5 h0 n0 v U'.heap L ∧ FrameEnd U o U' L room_1.cells room_1.slots) := by
  refine own_body (Q := fun v h L => own_Q0 Z a0 i0 i1 i2 j3 i4 i5 h0 n0 v h L) (plainFor_of_name own_pn8) ?_
  intro p e s m below meth c s₁ hx hby hml hZ hown hnm hret hlk X0 e0
  replace hml : c.maxLocals = 18 := hml
  replace hown : s.vm.findClass "com/example/nudge_rank/nudgerank/topic/LdaParametersIsSamplePinLaw" = some m.cls := hown
  have N0 := Fr.nil n0
  have K0 : Keep h0 h0 [] := Keep.refl _ _
  refine own_st (fun t k => castTop (own_ef0 m i0 i1 i2 j3 i4 i5) k) ?_
  show own_Run p e below s _ _ _ (s₁.setTop (mkF m 0 #[.val (.int i0), .val (.int i1), .val (.int i2), .val (.long j3), .second, .val (.int i4), .val (.int i5), .unset, .unset, .unset, .unset, .unset, .unset, .unset, .unset, .unset, .unset, .unset] []))
  refine own_st (fun t k => XS.iloadN X0.here hx rfl (hb hby at_0) rfl k) ?_
  show own_Run p e below s _ _ _ (s₁.setTop (mkF m 1 #[.val (.int i0), .val (.int i1), .val (.int i2), .val (.long j3), .second, .val (.int i4), .val (.int i5), .unset, .unset, .unset, .unset, .unset, .unset, .unset, .unset, .unset, .unset, .unset] [(.int i0)]))
  refine own_st (X0.ldcInt hx hown (mvT hZ (hw _ (List.mem_of_getElem? (i := 0) rfl))) (g := (mkF m 1 #[.val (.int i0), .val (.int i1), .val (.int i2), .val (.long j3), .second, .val (.int i4), .val (.int i5), .unset, .unset, .unset, .unset, .unset, .unset, .unset, .unset, .unset, .unset, .unset] [(.int i0)])) rfl (hb hby at_1)) ?_
  show own_Run p e below s _ _ _ (s₁.setTop (mkF m 3 #[.val (.int i0), .val (.int i1), .val (.int i2), .val (.long j3), .second, .val (.int i4), .val (.int i5), .unset, .unset, .unset, .unset, .unset, .unset, .unset, .unset, .unset, .unset, .unset] [(.int (2147483647 : Int32)), (.int i0)]))
  refine own_st (fun t k => XS.iand X0.here hx rfl (hb hby at_3) rfl k) ?_
  show own_Run p e below s _ _ _ (s₁.setTop (mkF m 4 #[.val (.int i0), .val (.int i1), .val (.int i2), .val (.long j3), .second, .val (.int i4), .val (.int i5), .unset, .unset, .unset, .unset, .unset, .unset, .unset, .unset, .unset, .unset, .unset] [(.int (i0 &&& (2147483647 : Int32)))]))
  refine own_st (X0.ldcInt hx hown (mvT hZ (hw _ (List.mem_of_getElem? (i := 0) rfl))) (g := (mkF m 4 #[.val (.int i0), .val (.int i1), .val (.int i2), .val (.long j3), .second, .val (.int i4), .val (.int i5), .unset, .unset, .unset, .unset, .unset, .unset, .unset, .unset, .unset, .unset, .unset] [(.int (i0 &&& (2147483647 : Int32)))])) rfl (hb hby at_4)) ?_
  show own_Run p e below s _ _ _ (s₁.setTop (mkF m 6 #[.val (.int i0), .val (.int i1), .val (.int i2), .val (.long j3), .second, .val (.int i4), .val (.int i5), .unset, .unset, .unset, .unset, .unset, .unset, .unset, .unset, .unset, .unset, .unset] [(.int (2147483647 : Int32)), (.int (i0 &&& (2147483647 : Int32)))]))
  refine own_st (fun t k => iremM X0 hx rfl (hb hby at_6) rfl (by decide) k) ?_
  show own_Run p e below s _ _ _ (s₁.setTop (mkF m 7 #[.val (.int i0), .val (.int i1), .val (.int i2), .val (.long j3), .second, .val (.int i4), .val (.int i5), .unset, .unset, .unset, .unset, .unset, .unset, .unset, .unset, .unset, .unset, .unset] [(.int ((i0 &&& (2147483647 : Int32)) % (2147483647 : Int32)))]))
  refine own_st (fun t k => XS.iconst X0.here hx rfl (hb hby at_7) k) ?_
  show own_Run p e below s _ _ _ (s₁.setTop (mkF m 8 #[.val (.int i0), .val (.int i1), .val (.int i2), .val (.long j3), .second, .val (.int i4), .val (.int i5), .unset, .unset, .unset, .unset, .unset, .unset, .unset, .unset, .unset, .unset, .unset] [(.int (1 : Int32)), (.int ((i0 &&& (2147483647 : Int32)) % (2147483647 : Int32)))]))
  refine own_st (fun t k => XS.iadd X0.here hx rfl (hb hby at_8) rfl k) ?_
  show own_Run p e below s _ _ _ (s₁.setTop (mkF m 9 #[.val (.int i0), .val (.int i1), .val (.int i2), .val (.long j3), .second, .val (.int i4), .val (.int i5), .unset, .unset, .unset, .unset, .unset, .unset, .unset, .unset, .unset, .unset, .unset] [(.int (((i0 &&& (2147483647 : Int32)) % (2147483647 : Int32)) + (1 : Int32)))]))
  obtain ⟨it, h_it⟩ : ∃ z, ((((i0 &&& (2147483647 : Int32)) % (2147483647 : Int32)) + (1 : Int32)) : Int32) = z := ⟨_, rfl⟩
  refine own_topI h_it ?_
  show own_Run p e below s _ _ _ (s₁.setTop (mkF m 9 #[.val (.int i0), .val (.int i1), .val (.int i2), .val (.long j3), .second, .val (.int i4), .val (.int i5), .unset, .unset, .unset, .unset, .unset, .unset, .unset, .unset, .unset, .unset, .unset] [(.int it)]))
  have r_it : 1 ≤ it.toInt := h_it ▸ own_m1 i0
  refine own_st (fun t k => XS.istore X0.here hx rfl (hb hby at_9) rfl (l' := #[.val (.int i0), .val (.int i1), .val (.int i2), .val (.long j3), .second, .val (.int i4), .val (.int i5), .val (.int it), .unset, .unset, .unset, .unset, .unset, .unset, .unset, .unset, .unset, .unset]) rfl k) ?_
  show own_Run p e below s _ _ _ (s₁.setTop (mkF m 11 #[.val (.int i0), .val (.int i1), .val (.int i2), .val (.long j3), .second, .val (.int i4), .val (.int i5), .val (.int it), .unset, .unset, .unset, .unset, .unset, .unset, .unset, .unset, .unset, .unset] []))
  refine own_st (fun t k => XS.iloadN X0.here hx rfl (hb hby at_11) rfl k) ?_
  show own_Run p e below s _ _ _ (s₁.setTop (mkF m 12 #[.val (.int i0), .val (.int i1), .val (.int i2), .val (.long j3), .second, .val (.int i4), .val (.int i5), .val (.int it), .unset, .unset, .unset, .unset, .unset, .unset, .unset, .unset, .unset, .unset] [(.int i1)]))
  refine own_st (X0.ldcInt hx hown (mvT hZ (hw _ (List.mem_of_getElem? (i := 0) rfl))) (g := (mkF m 12 #[.val (.int i0), .val (.int i1), .val (.int i2), .val (.long j3), .second, .val (.int i4), .val (.int i5), .val (.int it), .unset, .unset, .unset, .unset, .unset, .unset, .unset, .unset, .unset, .unset] [(.int i1)])) rfl (hb hby at_12)) ?_
  show own_Run p e below s _ _ _ (s₁.setTop (mkF m 14 #[.val (.int i0), .val (.int i1), .val (.int i2), .val (.long j3), .second, .val (.int i4), .val (.int i5), .val (.int it), .unset, .unset, .unset, .unset, .unset, .unset, .unset, .unset, .unset, .unset] [(.int (2147483647 : Int32)), (.int i1)]))
  refine own_st (fun t k => XS.iand X0.here hx rfl (hb hby at_14) rfl k) ?_
  show own_Run p e below s _ _ _ (s₁.setTop (mkF m 15 #[.val (.int i0), .val (.int i1), .val (.int i2), .val (.long j3), .second, .val (.int i4), .val (.int i5), .val (.int it), .unset, .unset, .unset, .unset, .unset, .unset, .unset, .unset, .unset, .unset] [(.int (i1 &&& (2147483647 : Int32)))]))
  refine own_st (fun t k => XS.iload X0.here hx rfl (hb hby at_15) rfl k) ?_
  show own_Run p e below s _ _ _ (s₁.setTop (mkF m 17 #[.val (.int i0), .val (.int i1), .val (.int i2), .val (.long j3), .second, .val (.int i4), .val (.int i5), .val (.int it), .unset, .unset, .unset, .unset, .unset, .unset, .unset, .unset, .unset, .unset] [(.int it), (.int (i1 &&& (2147483647 : Int32)))]))
  refine own_st (fun t k => iremM X0 hx rfl (hb hby at_17) rfl (own_ne0 r_it) k) ?_
  show own_Run p e below s _ _ _ (s₁.setTop (mkF m 18 #[.val (.int i0), .val (.int i1), .val (.int i2), .val (.long j3), .second, .val (.int i4), .val (.int i5), .val (.int it), .unset, .unset, .unset, .unset, .unset, .unset, .unset, .unset, .unset, .unset] [(.int ((i1 &&& (2147483647 : Int32)) % it))]))
  obtain ⟨bi, h_bi⟩ : ∃ z, (((i1 &&& (2147483647 : Int32)) % it) : Int32) = z := ⟨_, rfl⟩
  refine own_topI h_bi ?_
  show own_Run p e below s _ _ _ (s₁.setTop (mkF m 18 #[.val (.int i0), .val (.int i1), .val (.int i2), .val (.long j3), .second, .val (.int i4), .val (.int i5), .val (.int it), .unset, .unset, .unset, .unset, .unset, .unset, .unset, .unset, .unset, .unset] [(.int bi)]))
  have r_bi : 0 ≤ bi.toInt ∧ bi.toInt < it.toInt := h_bi ▸ own_md i1 r_it
  refine own_st (fun t k => XS.istore X0.here hx rfl (hb hby at_18) rfl (l' := #[.val (.int i0), .val (.int i1), .val (.int i2), .val (.long j3), .second, .val (.int i4), .val (.int i5), .val (.int it), .val (.int bi), .unset, .unset, .unset, .unset, .unset, .unset, .unset, .unset, .unset]) rfl k) ?_
  show own_Run p e below s _ _ _ (s₁.setTop (mkF m 20 #[.val (.int i0), .val (.int i1), .val (.int i2), .val (.long j3), .second, .val (.int i4), .val (.int i5), .val (.int it), .val (.int bi), .unset, .unset, .unset, .unset, .unset, .unset, .unset, .unset, .unset] []))
  refine own_st (fun t k => XS.iloadN X0.here hx rfl (hb hby at_20) rfl k) ?_
  show own_Run p e below s _ _ _ (s₁.setTop (mkF m 21 #[.val (.int i0), .val (.int i1), .val (.int i2), .val (.long j3), .second, .val (.int i4), .val (.int i5), .val (.int it), .val (.int bi), .unset, .unset, .unset, .unset, .unset, .unset, .unset, .unset, .unset] [(.int i2)]))
  refine own_st (X0.ldcInt hx hown (mvT hZ (hw _ (List.mem_of_getElem? (i := 0) rfl))) (g := (mkF m 21 #[.val (.int i0), .val (.int i1), .val (.int i2), .val (.long j3), .second, .val (.int i4), .val (.int i5), .val (.int it), .val (.int bi), .unset, .unset, .unset, .unset, .unset, .unset, .unset, .unset, .unset] [(.int i2)])) rfl (hb hby at_21)) ?_
  show own_Run p e below s _ _ _ (s₁.setTop (mkF m 23 #[.val (.int i0), .val (.int i1), .val (.int i2), .val (.long j3), .second, .val (.int i4), .val (.int i5), .val (.int it), .val (.int bi), .unset, .unset, .unset, .unset, .unset, .unset, .unset, .unset, .unset] [(.int (2147483647 : Int32)), (.int i2)]))
  refine own_st (fun t k => XS.iand X0.here hx rfl (hb hby at_23) rfl k) ?_
  show own_Run p e below s _ _ _ (s₁.setTop (mkF m 24 #[.val (.int i0), .val (.int i1), .val (.int i2), .val (.long j3), .second, .val (.int i4), .val (.int i5), .val (.int it), .val (.int bi), .unset, .unset, .unset, .unset, .unset, .unset, .unset, .unset, .unset] [(.int (i2 &&& (2147483647 : Int32)))]))
  refine own_st (X0.ldcInt hx hown (mvT hZ (hw _ (List.mem_of_getElem? (i := 0) rfl))) (g := (mkF m 24 #[.val (.int i0), .val (.int i1), .val (.int i2), .val (.long j3), .second, .val (.int i4), .val (.int i5), .val (.int it), .val (.int bi), .unset, .unset, .unset, .unset, .unset, .unset, .unset, .unset, .unset] [(.int (i2 &&& (2147483647 : Int32)))])) rfl (hb hby at_24)) ?_
  show own_Run p e below s _ _ _ (s₁.setTop (mkF m 26 #[.val (.int i0), .val (.int i1), .val (.int i2), .val (.long j3), .second, .val (.int i4), .val (.int i5), .val (.int it), .val (.int bi), .unset, .unset, .unset, .unset, .unset, .unset, .unset, .unset, .unset] [(.int (2147483647 : Int32)), (.int (i2 &&& (2147483647 : Int32)))]))
  refine own_st (fun t k => iremM X0 hx rfl (hb hby at_26) rfl (by decide) k) ?_
  show own_Run p e below s _ _ _ (s₁.setTop (mkF m 27 #[.val (.int i0), .val (.int i1), .val (.int i2), .val (.long j3), .second, .val (.int i4), .val (.int i5), .val (.int it), .val (.int bi), .unset, .unset, .unset, .unset, .unset, .unset, .unset, .unset, .unset] [(.int ((i2 &&& (2147483647 : Int32)) % (2147483647 : Int32)))]))
  refine own_st (fun t k => XS.iconst X0.here hx rfl (hb hby at_27) k) ?_
  show own_Run p e below s _ _ _ (s₁.setTop (mkF m 28 #[.val (.int i0), .val (.int i1), .val (.int i2), .val (.long j3), .second, .val (.int i4), .val (.int i5), .val (.int it), .val (.int bi), .unset, .unset, .unset, .unset, .unset, .unset, .unset, .unset, .unset] [(.int (1 : Int32)), (.int ((i2 &&& (2147483647 : Int32)) % (2147483647 : Int32)))]))
  refine own_st (fun t k => XS.iadd X0.here hx rfl (hb hby at_28) rfl k) ?_
  show own_Run p e below s _ _ _ (s₁.setTop (mkF m 29 #[.val (.int i0), .val (.int i1), .val (.int i2), .val (.long j3), .second, .val (.int i4), .val (.int i5), .val (.int it), .val (.int bi), .unset, .unset, .unset, .unset, .unset, .unset, .unset, .unset, .unset] [(.int (((i2 &&& (2147483647 : Int32)) % (2147483647 : Int32)) + (1 : Int32)))]))
  obtain ⟨si, h_si⟩ : ∃ z, ((((i2 &&& (2147483647 : Int32)) % (2147483647 : Int32)) + (1 : Int32)) : Int32) = z := ⟨_, rfl⟩
  refine own_topI h_si ?_
  show own_Run p e below s _ _ _ (s₁.setTop (mkF m 29 #[.val (.int i0), .val (.int i1), .val (.int i2), .val (.long j3), .second, .val (.int i4), .val (.int i5), .val (.int it), .val (.int bi), .unset, .unset, .unset, .unset, .unset, .unset, .unset, .unset, .unset] [(.int si)]))
  have r_si : 1 ≤ si.toInt := h_si ▸ own_m1 i2
  refine own_st (fun t k => XS.istore X0.here hx rfl (hb hby at_29) rfl (l' := #[.val (.int i0), .val (.int i1), .val (.int i2), .val (.long j3), .second, .val (.int i4), .val (.int i5), .val (.int it), .val (.int bi), .val (.int si), .unset, .unset, .unset, .unset, .unset, .unset, .unset, .unset]) rfl k) ?_
  show own_Run p e below s _ _ _ (s₁.setTop (mkF m 31 #[.val (.int i0), .val (.int i1), .val (.int i2), .val (.long j3), .second, .val (.int i4), .val (.int i5), .val (.int it), .val (.int bi), .val (.int si), .unset, .unset, .unset, .unset, .unset, .unset, .unset, .unset] []))
  refine own_st (fun t k => XS.iload X0.here hx rfl (hb hby at_31) rfl k) ?_
  show own_Run p e below s _ _ _ (s₁.setTop (mkF m 33 #[.val (.int i0), .val (.int i1), .val (.int i2), .val (.long j3), .second, .val (.int i4), .val (.int i5), .val (.int it), .val (.int bi), .val (.int si), .unset, .unset, .unset, .unset, .unset, .unset, .unset, .unset] [(.int i4)]))
  refine own_st (X0.ldcInt hx hown (mvT hZ (hw _ (List.mem_of_getElem? (i := 0) rfl))) (g := (mkF m 33 #[.val (.int i0), .val (.int i1), .val (.int i2), .val (.long j3), .second, .val (.int i4), .val (.int i5), .val (.int it), .val (.int bi), .val (.int si), .unset, .unset, .unset, .unset, .unset, .unset, .unset, .unset] [(.int i4)])) rfl (hb hby at_33)) ?_
  show own_Run p e below s _ _ _ (s₁.setTop (mkF m 35 #[.val (.int i0), .val (.int i1), .val (.int i2), .val (.long j3), .second, .val (.int i4), .val (.int i5), .val (.int it), .val (.int bi), .val (.int si), .unset, .unset, .unset, .unset, .unset, .unset, .unset, .unset] [(.int (2147483647 : Int32)), (.int i4)]))
  refine own_st (fun t k => XS.iand X0.here hx rfl (hb hby at_35) rfl k) ?_
  show own_Run p e below s _ _ _ (s₁.setTop (mkF m 36 #[.val (.int i0), .val (.int i1), .val (.int i2), .val (.long j3), .second, .val (.int i4), .val (.int i5), .val (.int it), .val (.int bi), .val (.int si), .unset, .unset, .unset, .unset, .unset, .unset, .unset, .unset] [(.int (i4 &&& (2147483647 : Int32)))]))
  refine own_st (fun t k => XS.iload X0.here hx rfl (hb hby at_36) rfl k) ?_
  show own_Run p e below s _ _ _ (s₁.setTop (mkF m 38 #[.val (.int i0), .val (.int i1), .val (.int i2), .val (.long j3), .second, .val (.int i4), .val (.int i5), .val (.int it), .val (.int bi), .val (.int si), .unset, .unset, .unset, .unset, .unset, .unset, .unset, .unset] [(.int si), (.int (i4 &&& (2147483647 : Int32)))]))
  refine own_st (fun t k => iremM X0 hx rfl (hb hby at_38) rfl (own_ne0 r_si) k) ?_
  show own_Run p e below s _ _ _ (s₁.setTop (mkF m 39 #[.val (.int i0), .val (.int i1), .val (.int i2), .val (.long j3), .second, .val (.int i4), .val (.int i5), .val (.int it), .val (.int bi), .val (.int si), .unset, .unset, .unset, .unset, .unset, .unset, .unset, .unset] [(.int ((i4 &&& (2147483647 : Int32)) % si))]))
  obtain ⟨rr, h_rr⟩ : ∃ z, (((i4 &&& (2147483647 : Int32)) % si) : Int32) = z := ⟨_, rfl⟩
  refine own_topI h_rr ?_
  show own_Run p e below s _ _ _ (s₁.setTop (mkF m 39 #[.val (.int i0), .val (.int i1), .val (.int i2), .val (.long j3), .second, .val (.int i4), .val (.int i5), .val (.int it), .val (.int bi), .val (.int si), .unset, .unset, .unset, .unset, .unset, .unset, .unset, .unset] [(.int rr)]))
  have r_rr : 0 ≤ rr.toInt ∧ rr.toInt < si.toInt := h_rr ▸ own_md i4 r_si
  refine own_st (fun t k => XS.istore X0.here hx rfl (hb hby at_39) rfl (l' := #[.val (.int i0), .val (.int i1), .val (.int i2), .val (.long j3), .second, .val (.int i4), .val (.int i5), .val (.int it), .val (.int bi), .val (.int si), .val (.int rr), .unset, .unset, .unset, .unset, .unset, .unset, .unset]) rfl k) ?_
  show own_Run p e below s _ _ _ (s₁.setTop (mkF m 41 #[.val (.int i0), .val (.int i1), .val (.int i2), .val (.long j3), .second, .val (.int i4), .val (.int i5), .val (.int it), .val (.int bi), .val (.int si), .val (.int rr), .unset, .unset, .unset, .unset, .unset, .unset, .unset] []))
  refine own_st (fun t k => XS.lloadN X0.here hx rfl (hb hby at_41) rfl k) ?_
  show own_Run p e below s _ _ _ (s₁.setTop (mkF m 42 #[.val (.int i0), .val (.int i1), .val (.int i2), .val (.long j3), .second, .val (.int i4), .val (.int i5), .val (.int it), .val (.int bi), .val (.int si), .val (.int rr), .unset, .unset, .unset, .unset, .unset, .unset, .unset] [(.long j3)]))
  refine own_st (X0.ldc2Long hx hown (mvT hZ (hw _ (List.mem_of_getElem? (i := 1) rfl))) (g := (mkF m 42 #[.val (.int i0), .val (.int i1), .val (.int i2), .val (.long j3), .second, .val (.int i4), .val (.int i5), .val (.int it), .val (.int bi), .val (.int si), .val (.int rr), .unset, .unset, .unset, .unset, .unset, .unset, .unset] [(.long j3)])) rfl (hb hby at_42)) ?_
  show own_Run p e below s _ _ _ (s₁.setTop (mkF m 45 #[.val (.int i0), .val (.int i1), .val (.int i2), .val (.long j3), .second, .val (.int i4), .val (.int i5), .val (.int it), .val (.int bi), .val (.int si), .val (.int rr), .unset, .unset, .unset, .unset, .unset, .unset, .unset] [(.long (4294967296 : Int64)), (.long j3)]))
  refine own_st (fun t k => XS.lrem X0.here hx rfl (hb hby at_45) rfl (by decide) k) ?_
  show own_Run p e below s _ _ _ (s₁.setTop (mkF m 46 #[.val (.int i0), .val (.int i1), .val (.int i2), .val (.long j3), .second, .val (.int i4), .val (.int i5), .val (.int it), .val (.int bi), .val (.int si), .val (.int rr), .unset, .unset, .unset, .unset, .unset, .unset, .unset] [(.long (j3 - (j3 / (4294967296 : Int64)) * (4294967296 : Int64)))]))
  refine own_topJ (lrem_mod _ _) ?_
  show own_Run p e below s _ _ _ (s₁.setTop (mkF m 46 #[.val (.int i0), .val (.int i1), .val (.int i2), .val (.long j3), .second, .val (.int i4), .val (.int i5), .val (.int it), .val (.int bi), .val (.int si), .val (.int rr), .unset, .unset, .unset, .unset, .unset, .unset, .unset] [(.long (j3 % (4294967296 : Int64)))]))
  obtain ⟨qq, h_qq⟩ : ∃ z, ((j3 % (4294967296 : Int64)) : Int64) = z := ⟨_, rfl⟩
  refine own_topJ h_qq ?_
  show own_Run p e below s _ _ _ (s₁.setTop (mkF m 46 #[.val (.int i0), .val (.int i1), .val (.int i2), .val (.long j3), .second, .val (.int i4), .val (.int i5), .val (.int it), .val (.int bi), .val (.int si), .val (.int rr), .unset, .unset, .unset, .unset, .unset, .unset, .unset] [(.long qq)]))
  have r_qq : -4294967296 < qq.toInt ∧ qq.toInt < 4294967296 := h_qq ▸ own_qm j3
  refine own_st (fun t k => XS.lstore X0.here hx rfl (hb hby at_46) rfl (l' := #[.val (.int i0), .val (.int i1), .val (.int i2), .val (.long j3), .second, .val (.int i4), .val (.int i5), .val (.int it), .val (.int bi), .val (.int si), .val (.int rr), .val (.long qq), .second, .unset, .unset, .unset, .unset, .unset]) rfl k) ?_
  show own_Run p e below s _ _ _ (s₁.setTop (mkF m 48 #[.val (.int i0), .val (.int i1), .val (.int i2), .val (.long j3), .second, .val (.int i4), .val (.int i5), .val (.int it), .val (.int bi), .val (.int si), .val (.int rr), .val (.long qq), .second, .unset, .unset, .unset, .unset, .unset] []))
  obtain ⟨T54, h54, X54, e54, E54, A54, D54, -, st54⟩ := newO X0 hx hZ hown (hw _ (List.mem_of_getElem? (i := 2) rfl)) (hw _ (List.mem_of_getElem? (i := 3) rfl)) (hw _ (List.mem_of_getElem? (i := 4) rfl)) e0 (g := (mkF m 48 #[.val (.int i0), .val (.int i1), .val (.int i2), .val (.long j3), .second, .val (.int i4), .val (.int i5), .val (.int it), .val (.int bi), .val (.int si), .val (.int rr), .val (.long qq), .second, .unset, .unset, .unset, .unset, .unset] [])) rfl (hb hby at_48) (by decide) (by decide)
  obtain ⟨b54, g54⟩ : ∃ z, z = h0.size := ⟨_, rfl⟩
  rw [← g54] at A54 D54 st54
  have sz55 : h0.size ≤ b54 := Nat.le_trans K0.1 (Nat.le_of_eq g54.symm)
  have ge56 : n0 ≤ b54 := Nat.le_trans Z0 sz55
  refine own_st st54 ?_
  have K57 : Keep h0 h54 [] := K0.ext E54
  have O58 := O0.ext E54
  show own_Run p e below s _ _ _ (T54.setTop (mkF m 51 #[.val (.int i0), .val (.int i1), .val (.int i2), .val (.long j3), .second, .val (.int i4), .val (.int i5), .val (.int it), .val (.int bi), .val (.int si), .val (.int rr), .val (.long qq), .second, .unset, .unset, .unset, .unset, .unset] [(.ref b54)]))
  refine own_st (fun t k => XS.dup X54.here hx rfl (hb hby at_51) rfl rfl k) ?_
  show own_Run p e below s _ _ _ (T54.setTop (mkF m 52 #[.val (.int i0), .val (.int i1), .val (.int i2), .val (.long j3), .second, .val (.int i4), .val (.int i5), .val (.int it), .val (.int bi), .val (.int si), .val (.int rr), .val (.long qq), .second, .unset, .unset, .unset, .unset, .unset] [(.ref b54), (.ref b54)]))
  refine own_st (fun t k => XS.iconst X54.here hx rfl (hb hby at_52) k) ?_
  show own_Run p e below s _ _ _ (T54.setTop (mkF m 53 #[.val (.int i0), .val (.int i1), .val (.int i2), .val (.long j3), .second, .val (.int i4), .val (.int i5), .val (.int it), .val (.int bi), .val (.int si), .val (.int rr), .val (.long qq), .second, .unset, .unset, .unset, .unset, .unset] [(.int (1 : Int32)), (.ref b54), (.ref b54)]))
  refine own_st (fun t k => XS.dconst1 X54.here hx rfl (hb hby at_53) (v := 4607182418800017408) rfl k) ?_
  show own_Run p e below s _ _ _ (T54.setTop (mkF m 54 #[.val (.int i0), .val (.int i1), .val (.int i2), .val (.long j3), .second, .val (.int i4), .val (.int i5), .val (.int it), .val (.int bi), .val (.int si), .val (.int rr), .val (.long qq), .second, .unset, .unset, .unset, .unset, .unset] [(.double (4607182418800017408 : UInt64)), (.int (1 : Int32)), (.ref b54), (.ref b54)]))
  refine own_st (fun t k => XS.dconst1 X54.here hx rfl (hb hby at_54) (v := 4607182418800017408) rfl k) ?_
  show own_Run p e below s _ _ _ (T54.setTop (mkF m 55 #[.val (.int i0), .val (.int i1), .val (.int i2), .val (.long j3), .second, .val (.int i4), .val (.int i5), .val (.int it), .val (.int bi), .val (.int si), .val (.int rr), .val (.long qq), .second, .unset, .unset, .unset, .unset, .unset] [(.double (4607182418800017408 : UInt64)), (.double (4607182418800017408 : UInt64)), (.int (1 : Int32)), (.ref b54), (.ref b54)]))
  refine own_st (fun t k => XS.iload X54.here hx rfl (hb hby at_55) rfl k) ?_
  show own_Run p e below s _ _ _ (T54.setTop (mkF m 57 #[.val (.int i0), .val (.int i1), .val (.int i2), .val (.long j3), .second, .val (.int i4), .val (.int i5), .val (.int it), .val (.int bi), .val (.int si), .val (.int rr), .val (.long qq), .second, .unset, .unset, .unset, .unset, .unset] [(.int it), (.double (4607182418800017408 : UInt64)), (.double (4607182418800017408 : UInt64)), (.int (1 : Int32)), (.ref b54), (.ref b54)]))
  refine own_st (fun t k => XS.iload X54.here hx rfl (hb hby at_57) rfl k) ?_
  show own_Run p e below s _ _ _ (T54.setTop (mkF m 59 #[.val (.int i0), .val (.int i1), .val (.int i2), .val (.long j3), .second, .val (.int i4), .val (.int i5), .val (.int it), .val (.int bi), .val (.int si), .val (.int rr), .val (.long qq), .second, .unset, .unset, .unset, .unset, .unset] [(.int bi), (.int it), (.double (4607182418800017408 : UInt64)), (.double (4607182418800017408 : UInt64)), (.int (1 : Int32)), (.ref b54), (.ref b54)]))
  refine own_st (fun t k => XS.iload X54.here hx rfl (hb hby at_59) rfl k) ?_
  show own_Run p e below s _ _ _ (T54.setTop (mkF m 61 #[.val (.int i0), .val (.int i1), .val (.int i2), .val (.long j3), .second, .val (.int i4), .val (.int i5), .val (.int it), .val (.int bi), .val (.int si), .val (.int rr), .val (.long qq), .second, .unset, .unset, .unset, .unset, .unset] [(.int si), (.int bi), (.int it), (.double (4607182418800017408 : UInt64)), (.double (4607182418800017408 : UInt64)), (.int (1 : Int32)), (.ref b54), (.ref b54)]))
  refine own_st (fun t k => XS.lconst X54.here hx rfl (hb hby at_61) k) ?_
  show own_Run p e below s _ _ _ (T54.setTop (mkF m 62 #[.val (.int i0), .val (.int i1), .val (.int i2), .val (.long j3), .second, .val (.int i4), .val (.int i5), .val (.int it), .val (.int bi), .val (.int si), .val (.int rr), .val (.long qq), .second, .unset, .unset, .unset, .unset, .unset] [(.long (0 : Int64)), (.int si), (.int bi), (.int it), (.double (4607182418800017408 : UInt64)), (.double (4607182418800017408 : UInt64)), (.int (1 : Int32)), (.ref b54), (.ref b54)]))
  refine own_callI X54 hx hZ (y := (⟨"com/example/nudge_rank/nudgerank/topic/LdaParameters", "<init>", "(IDDIIIJ)V"⟩ : MethodName)) rfl hown (hw _ (List.mem_of_getElem? (i := 5) rfl)) (hw _ (List.mem_of_getElem? (i := 6) rfl)) (hw _ (List.mem_of_getElem? (i := 7) rfl)) (hw _ (List.mem_of_getElem? (i := 4) rfl)) (by decide) e54 (a := b54) (argsL := [(.int (1 : Int32)), (.double (4607182418800017408 : UInt64)), (.double (4607182418800017408 : UInt64)), (.int it), (.int bi), (.int si), (.long (0 : Int64))]) (rest := [(.ref b54)]) (W := 1) (own_rm1 l Z a0 hw [] b54 (1 : Int32) it bi si (0 : Int64) h54 n0 (Nat.le_trans Z0 K57.1) A54 D54 ge56 (by decide) (own_ge1 r_it) (own_ge0 r_bi.1) (Int32.lt_iff_toInt_lt.mpr r_bi.2) (own_ge1 r_si)) (by decide) (by decide) (by rw [hml]; rfl) (lenOf own_pd6 rfl) rfl (by exact Nat.le_of_eq rfl) (hb hby at_62) (by decide) (by decide) ?_
  intro T59 v59 L59 X59 hq59
  obtain ⟨rfl, N59q, K59q, Q60, Q61, Q62, Q63⟩ := hq59
  have K64 : Keep h0 T59.heap [] := K57.trans K59q (allS (Or.inr sz55) all0)
  have O65 := O58.keep K59q (allS ge56 all0)
  have N59 := Fr.app N0 N59q
  show own_Run p e below s _ _ _ (T59.setTop (mkF m 65 #[.val (.int i0), .val (.int i1), .val (.int i2), .val (.long j3), .second, .val (.int i4), .val (.int i5), .val (.int it), .val (.int bi), .val (.int si), .val (.int rr), .val (.long qq), .second, .unset, .unset, .unset, .unset, .unset] [(.ref b54)]))
  refine own_st (fun t k => XS.astore X59.here hx rfl (hb hby at_65) rfl rfl (l' := #[.val (.int i0), .val (.int i1), .val (.int i2), .val (.long j3), .second, .val (.int i4), .val (.int i5), .val (.int it), .val (.int bi), .val (.int si), .val (.int rr), .val (.long qq), .second, .val (.ref b54), .unset, .unset, .unset, .unset]) rfl k) ?_
  show own_Run p e below s _ _ _ (T59.setTop (mkF m 67 #[.val (.int i0), .val (.int i1), .val (.int i2), .val (.long j3), .second, .val (.int i4), .val (.int i5), .val (.int it), .val (.int bi), .val (.int si), .val (.int rr), .val (.long qq), .second, .val (.ref b54), .unset, .unset, .unset, .unset] []))
  refine own_st (fun t k => XS.iconst X59.here hx rfl (hb hby at_67) k) ?_
  show own_Run p e below s _ _ _ (T59.setTop (mkF m 68 #[.val (.int i0), .val (.int i1), .val (.int i2), .val (.long j3), .second, .val (.int i4), .val (.int i5), .val (.int it), .val (.int bi), .val (.int si), .val (.int rr), .val (.long qq), .second, .val (.ref b54), .unset, .unset, .unset, .unset] [(.int (1 : Int32))]))
  refine own_st (fun t k => XS.istore X59.here hx rfl (hb hby at_68) rfl (l' := #[.val (.int i0), .val (.int i1), .val (.int i2), .val (.long j3), .second, .val (.int i4), .val (.int i5), .val (.int it), .val (.int bi), .val (.int si), .val (.int rr), .val (.long qq), .second, .val (.ref b54), .val (.int (1 : Int32)), .unset, .unset, .unset]) rfl k) ?_
  show own_Run p e below s _ _ _ (T59.setTop (mkF m 70 #[.val (.int i0), .val (.int i1), .val (.int i2), .val (.long j3), .second, .val (.int i4), .val (.int i5), .val (.int it), .val (.int bi), .val (.int si), .val (.int rr), .val (.long qq), .second, .val (.ref b54), .val (.int (1 : Int32)), .unset, .unset, .unset] []))
  refine own_st (fun t k => XS.iload X59.here hx rfl (hb hby at_70) rfl k) ?_
  show own_Run p e below s _ _ _ (T59.setTop (mkF m 72 #[.val (.int i0), .val (.int i1), .val (.int i2), .val (.long j3), .second, .val (.int i4), .val (.int i5), .val (.int it), .val (.int bi), .val (.int si), .val (.int rr), .val (.long qq), .second, .val (.ref b54), .val (.int (1 : Int32)), .unset, .unset, .unset] [(.int it)]))
  refine own_st (fun t k => XS.i2l X59.here hx rfl (hb hby at_72) rfl k) ?_
  show own_Run p e below s _ _ _ (T59.setTop (mkF m 73 #[.val (.int i0), .val (.int i1), .val (.int i2), .val (.long j3), .second, .val (.int i4), .val (.int i5), .val (.int it), .val (.int bi), .val (.int si), .val (.int rr), .val (.long qq), .second, .val (.ref b54), .val (.int (1 : Int32)), .unset, .unset, .unset] [(.long (it.toInt64))]))
  refine own_st (fun t k => XS.lload X59.here hx rfl (hb hby at_73) rfl k) ?_
  show own_Run p e below s _ _ _ (T59.setTop (mkF m 75 #[.val (.int i0), .val (.int i1), .val (.int i2), .val (.long j3), .second, .val (.int i4), .val (.int i5), .val (.int it), .val (.int bi), .val (.int si), .val (.int rr), .val (.long qq), .second, .val (.ref b54), .val (.int (1 : Int32)), .unset, .unset, .unset] [(.long qq), (.long (it.toInt64))]))
  refine own_st (fun t k => XS.iload X59.here hx rfl (hb hby at_75) rfl k) ?_
  show own_Run p e below s _ _ _ (T59.setTop (mkF m 77 #[.val (.int i0), .val (.int i1), .val (.int i2), .val (.long j3), .second, .val (.int i4), .val (.int i5), .val (.int it), .val (.int bi), .val (.int si), .val (.int rr), .val (.long qq), .second, .val (.ref b54), .val (.int (1 : Int32)), .unset, .unset, .unset] [(.int si), (.long qq), (.long (it.toInt64))]))
  refine own_st (fun t k => XS.i2l X59.here hx rfl (hb hby at_77) rfl k) ?_
  show own_Run p e below s _ _ _ (T59.setTop (mkF m 78 #[.val (.int i0), .val (.int i1), .val (.int i2), .val (.long j3), .second, .val (.int i4), .val (.int i5), .val (.int it), .val (.int bi), .val (.int si), .val (.int rr), .val (.long qq), .second, .val (.ref b54), .val (.int (1 : Int32)), .unset, .unset, .unset] [(.long (si.toInt64)), (.long qq), (.long (it.toInt64))]))
  refine own_st (fun t k => XS.lmul X59.here hx rfl (hb hby at_78) rfl k) ?_
  show own_Run p e below s _ _ _ (T59.setTop (mkF m 79 #[.val (.int i0), .val (.int i1), .val (.int i2), .val (.long j3), .second, .val (.int i4), .val (.int i5), .val (.int it), .val (.int bi), .val (.int si), .val (.int rr), .val (.long qq), .second, .val (.ref b54), .val (.int (1 : Int32)), .unset, .unset, .unset] [(.long (qq * (si.toInt64))), (.long (it.toInt64))]))
  refine own_st (fun t k => XS.lsub X59.here hx rfl (hb hby at_79) rfl k) ?_
  show own_Run p e below s _ _ _ (T59.setTop (mkF m 80 #[.val (.int i0), .val (.int i1), .val (.int i2), .val (.long j3), .second, .val (.int i4), .val (.int i5), .val (.int it), .val (.int bi), .val (.int si), .val (.int rr), .val (.long qq), .second, .val (.ref b54), .val (.int (1 : Int32)), .unset, .unset, .unset] [(.long ((it.toInt64) - (qq * (si.toInt64))))]))
  refine own_st (fun t k => XS.iload X59.here hx rfl (hb hby at_80) rfl k) ?_
  show own_Run p e below s _ _ _ (T59.setTop (mkF m 82 #[.val (.int i0), .val (.int i1), .val (.int i2), .val (.long j3), .second, .val (.int i4), .val (.int i5), .val (.int it), .val (.int bi), .val (.int si), .val (.int rr), .val (.long qq), .second, .val (.ref b54), .val (.int (1 : Int32)), .unset, .unset, .unset] [(.int rr), (.long ((it.toInt64) - (qq * (si.toInt64))))]))
  refine own_st (fun t k => XS.i2l X59.here hx rfl (hb hby at_82) rfl k) ?_
  show own_Run p e below s _ _ _ (T59.setTop (mkF m 83 #[.val (.int i0), .val (.int i1), .val (.int i2), .val (.long j3), .second, .val (.int i4), .val (.int i5), .val (.int it), .val (.int bi), .val (.int si), .val (.int rr), .val (.long qq), .second, .val (.ref b54), .val (.int (1 : Int32)), .unset, .unset, .unset] [(.long (rr.toInt64)), (.long ((it.toInt64) - (qq * (si.toInt64))))]))
  refine own_st (fun t k => XS.lsub X59.here hx rfl (hb hby at_83) rfl k) ?_
  show own_Run p e below s _ _ _ (T59.setTop (mkF m 84 #[.val (.int i0), .val (.int i1), .val (.int i2), .val (.long j3), .second, .val (.int i4), .val (.int i5), .val (.int it), .val (.int bi), .val (.int si), .val (.int rr), .val (.long qq), .second, .val (.ref b54), .val (.int (1 : Int32)), .unset, .unset, .unset] [(.long (((it.toInt64) - (qq * (si.toInt64))) - (rr.toInt64)))]))
  obtain ⟨cd, h_cd⟩ : ∃ z, ((((it.toInt64) - (qq * (si.toInt64))) - (rr.toInt64)) : Int64) = z := ⟨_, rfl⟩
  refine own_topJ h_cd ?_
  show own_Run p e below s _ _ _ (T59.setTop (mkF m 84 #[.val (.int i0), .val (.int i1), .val (.int i2), .val (.long j3), .second, .val (.int i4), .val (.int i5), .val (.int it), .val (.int bi), .val (.int si), .val (.int rr), .val (.long qq), .second, .val (.ref b54), .val (.int (1 : Int32)), .unset, .unset, .unset] [(.long cd)]))
  have r_cd := own_cand r_it r_si r_rr r_qq h_cd
  refine own_st (fun t k => XS.lstore X59.here hx rfl (hb hby at_84) rfl (l' := #[.val (.int i0), .val (.int i1), .val (.int i2), .val (.long j3), .second, .val (.int i4), .val (.int i5), .val (.int it), .val (.int bi), .val (.int si), .val (.int rr), .val (.long qq), .second, .val (.ref b54), .val (.int (1 : Int32)), .val (.long cd), .second, .unset]) rfl k) ?_
  show own_Run p e below s _ _ _ (T59.setTop (mkF m 86 #[.val (.int i0), .val (.int i1), .val (.int i2), .val (.long j3), .second, .val (.int i4), .val (.int i5), .val (.int it), .val (.int bi), .val (.int si), .val (.int rr), .val (.long qq), .second, .val (.ref b54), .val (.int (1 : Int32)), .val (.long cd), .second, .unset] []))
  refine own_st (fun t k => XS.lload X59.here hx rfl (hb hby at_86) rfl k) ?_
  show own_Run p e below s _ _ _ (T59.setTop (mkF m 88 #[.val (.int i0), .val (.int i1), .val (.int i2), .val (.long j3), .second, .val (.int i4), .val (.int i5), .val (.int it), .val (.int bi), .val (.int si), .val (.int rr), .val (.long qq), .second, .val (.ref b54), .val (.int (1 : Int32)), .val (.long cd), .second, .unset] [(.long cd)]))
  refine own_st (X59.ldc2Long hx hown (mvT hZ (hw _ (List.mem_of_getElem? (i := 39) rfl))) (g := (mkF m 88 #[.val (.int i0), .val (.int i1), .val (.int i2), .val (.long j3), .second, .val (.int i4), .val (.int i5), .val (.int it), .val (.int bi), .val (.int si), .val (.int rr), .val (.long qq), .second, .val (.ref b54), .val (.int (1 : Int32)), .val (.long cd), .second, .unset] [(.long cd)])) rfl (hb hby at_88)) ?_
  show own_Run p e below s _ _ _ (T59.setTop (mkF m 91 #[.val (.int i0), .val (.int i1), .val (.int i2), .val (.long j3), .second, .val (.int i4), .val (.int i5), .val (.int it), .val (.int bi), .val (.int si), .val (.int rr), .val (.long qq), .second, .val (.ref b54), .val (.int (1 : Int32)), .val (.long cd), .second, .unset] [(.long (-2147483648 : Int64)), (.long cd)]))
  refine own_st (fun t k => XS.lcmp X59.here hx rfl (hb hby at_91) rfl k) ?_
  show own_Run p e below s _ _ _ (T59.setTop (mkF m 92 #[.val (.int i0), .val (.int i1), .val (.int i2), .val (.long j3), .second, .val (.int i4), .val (.int i5), .val (.int it), .val (.int bi), .val (.int si), .val (.int rr), .val (.long qq), .second, .val (.ref b54), .val (.int (1 : Int32)), .val (.long cd), .second, .unset] [(.int (lcmpW cd (-2147483648 : Int64)))]))
  by_cases hL : cd < (-2147483648 : Int64)
  · skip
    refine own_st (fun t k => XS.ifYes X59.here hx rfl (pc0 := 92) (pc' := 152) rfl (hb hby at_92) rfl ((if0 _ _).trans (tlt ((lw_lt _ _).mpr hL : (lcmpW cd (-2147483648 : Int64)) < (0 : Int32))).1) (by decide) (by decide) k) ?_
    show own_Run p e below s _ _ _ (T59.setTop (mkF m 152 #[.val (.int i0), .val (.int i1), .val (.int i2), .val (.long j3), .second, .val (.int i4), .val (.int i5), .val (.int it), .val (.int bi), .val (.int si), .val (.int rr), .val (.long qq), .second, .val (.ref b54), .val (.int (1 : Int32)), .val (.long cd), .second, .unset] []))
    refine own_st (fun t k => XS.iload X59.here hx rfl (hb hby at_152) rfl k) ?_
    show own_Run p e below s _ _ _ (T59.setTop (mkF m 154 #[.val (.int i0), .val (.int i1), .val (.int i2), .val (.long j3), .second, .val (.int i4), .val (.int i5), .val (.int it), .val (.int bi), .val (.int si), .val (.int rr), .val (.long qq), .second, .val (.ref b54), .val (.int (1 : Int32)), .val (.long cd), .second, .unset] [(.int i5)]))
    refine own_st (fun t k => XS.iload X59.here hx rfl (hb hby at_154) rfl k) ?_
    show own_Run p e below s _ _ _ (T59.setTop (mkF m 156 #[.val (.int i0), .val (.int i1), .val (.int i2), .val (.long j3), .second, .val (.int i4), .val (.int i5), .val (.int it), .val (.int bi), .val (.int si), .val (.int rr), .val (.long qq), .second, .val (.ref b54), .val (.int (1 : Int32)), .val (.long cd), .second, .unset] [(.int it), (.int i5)]))
    by_cases hX : it < i5
    · skip
      refine own_st (fun t k => XS.icmpYes X59.here hx rfl (pc0 := 156) (pc' := 166) rfl (hb hby at_156) rfl (tlt (hX : it < i5)).2.2.1 (by decide) (by decide) k) ?_
      show own_Run p e below s _ _ _ (T59.setTop (mkF m 166 #[.val (.int i0), .val (.int i1), .val (.int i2), .val (.long j3), .second, .val (.int i4), .val (.int i5), .val (.int it), .val (.int bi), .val (.int si), .val (.int rr), .val (.long qq), .second, .val (.ref b54), .val (.int (1 : Int32)), .val (.long cd), .second, .unset] []))
      refine own_st (fun t k => XS.iload X59.here hx rfl (hb hby at_166) rfl k) ?_
      show own_Run p e below s _ _ _ (T59.setTop (mkF m 168 #[.val (.int i0), .val (.int i1), .val (.int i2), .val (.long j3), .second, .val (.int i4), .val (.int i5), .val (.int it), .val (.int bi), .val (.int si), .val (.int rr), .val (.long qq), .second, .val (.ref b54), .val (.int (1 : Int32)), .val (.long cd), .second, .unset] [(.int (1 : Int32))]))
      refine own_st (fun t k => XS.ifNo X59.here hx rfl (hb hby at_168) rfl ((if0 _ _).trans (feq (by decide : ¬ ((1 : Int32) = (0 : Int32)))).1) k) ?_
      show own_Run p e below s _ _ _ (T59.setTop (mkF m 171 #[.val (.int i0), .val (.int i1), .val (.int i2), .val (.long j3), .second, .val (.int i4), .val (.int i5), .val (.int it), .val (.int bi), .val (.int si), .val (.int rr), .val (.long qq), .second, .val (.ref b54), .val (.int (1 : Int32)), .val (.long cd), .second, .unset] []))
      refine own_st (fun t k => XS.aload X59.here hx rfl (hb hby at_171) rfl rfl k) ?_
      show own_Run p e below s _ _ _ (T59.setTop (mkF m 173 #[.val (.int i0), .val (.int i1), .val (.int i2), .val (.long j3), .second, .val (.int i4), .val (.int i5), .val (.int it), .val (.int bi), .val (.int si), .val (.int rr), .val (.long qq), .second, .val (.ref b54), .val (.int (1 : Int32)), .val (.long cd), .second, .unset] [(.ref b54)]))
      refine own_st (fun t k => XS.iload X59.here hx rfl (hb hby at_173) rfl k) ?_
      show own_Run p e below s _ _ _ (T59.setTop (mkF m 175 #[.val (.int i0), .val (.int i1), .val (.int i2), .val (.long j3), .second, .val (.int i4), .val (.int i5), .val (.int it), .val (.int bi), .val (.int si), .val (.int rr), .val (.long qq), .second, .val (.ref b54), .val (.int (1 : Int32)), .val (.long cd), .second, .unset] [(.int i5), (.ref b54)]))
      refine own_callV X59 hx hZ (y := (⟨"com/example/nudge_rank/nudgerank/topic/LdaParameters", "isSample", "(I)Z"⟩ : MethodName)) (C := "com/example/nudge_rank/nudgerank/topic/LdaParameters") hown (hw _ (List.mem_of_getElem? (i := 41) rfl)) (hw _ (List.mem_of_getElem? (i := 42) rfl)) (hw _ (List.mem_of_getElem? (i := 44) rfl)) (hw _ (List.mem_of_getElem? (i := 43) rfl)) (hw _ (List.mem_of_getElem? (i := 45) rfl)) (hw _ (List.mem_of_getElem? (i := 4) rfl)) (by decide) rfl (a := b54) Q60 (argsL := [(.int i5)]) (rest := []) (W := 0) (own_rm6 l Z a0 hw [] b54 i5 it bi si T59.heap n0 (Nat.le_trans Z0 K64.1) Q61 Q62 Q63 (own_ne0 r_si)) (by decide) (by decide) (by rw [hml]; rfl) (lenOf own_pd7 rfl) rfl (by exact Nat.le_of_eq rfl) (hb hby at_175) (by decide) (by decide) ?_
      intro T66 v66 L66 X66 hq66
      obtain ⟨rfl, N66q, hh66⟩ := hq66
      have N66 := Fr.app N59 N66q
      show own_Run p e below s _ _ _ (T66.setTop (mkF m 178 #[.val (.int i0), .val (.int i1), .val (.int i2), .val (.long j3), .second, .val (.int i4), .val (.int i5), .val (.int it), .val (.int bi), .val (.int si), .val (.int rr), .val (.long qq), .second, .val (.ref b54), .val (.int (1 : Int32)), .val (.long cd), .second, .unset] [(.int (if (bi < i5 ∧ ¬ (it < i5) ∧ ((it - i5) % si) = (0 : Int32)) then 1 else 0 : Int32))]))
      refine own_st (fun t k => XS.ifNo X66.here hx rfl (hb hby at_178) rfl ((if0 _ _).trans (teq (own_isX1 hX : (if (bi < i5 ∧ ¬ (it < i5) ∧ ((it - i5) % si) = (0 : Int32)) then 1 else 0 : Int32) = (0 : Int32))).2) k) ?_
      show own_Run p e below s _ _ _ (T66.setTop (mkF m 181 #[.val (.int i0), .val (.int i1), .val (.int i2), .val (.long j3), .second, .val (.int i4), .val (.int i5), .val (.int it), .val (.int bi), .val (.int si), .val (.int rr), .val (.long qq), .second, .val (.ref b54), .val (.int (1 : Int32)), .val (.long cd), .second, .unset] []))
      refine own_st (fun t k => XS.iconst X66.here hx rfl (hb hby at_181) k) ?_
      show own_Run p e below s _ _ _ (T66.setTop (mkF m 182 #[.val (.int i0), .val (.int i1), .val (.int i2), .val (.long j3), .second, .val (.int i4), .val (.int i5), .val (.int it), .val (.int bi), .val (.int si), .val (.int rr), .val (.long qq), .second, .val (.ref b54), .val (.int (1 : Int32)), .val (.long cd), .second, .unset] [(.int (1 : Int32))]))
      refine own_st (fun t k => XS.goto X66.here hx rfl (pc0 := 182) (pc' := 186) rfl (hb hby at_182) (by decide) (by decide) k) ?_
      show own_Run p e below s _ _ _ (T66.setTop (mkF m 186 #[.val (.int i0), .val (.int i1), .val (.int i2), .val (.long j3), .second, .val (.int i4), .val (.int i5), .val (.int it), .val (.int bi), .val (.int si), .val (.int rr), .val (.long qq), .second, .val (.ref b54), .val (.int (1 : Int32)), .val (.long cd), .second, .unset] [(.int (1 : Int32))]))
      refine own_st (fun t k => XS.istore X66.here hx rfl (hb hby at_186) rfl (l' := #[.val (.int i0), .val (.int i1), .val (.int i2), .val (.long j3), .second, .val (.int i4), .val (.int i5), .val (.int it), .val (.int bi), .val (.int si), .val (.int rr), .val (.long qq), .second, .val (.ref b54), .val (.int (1 : Int32)), .val (.long cd), .second, .unset]) rfl k) ?_
      show own_Run p e below s _ _ _ (T66.setTop (mkF m 188 #[.val (.int i0), .val (.int i1), .val (.int i2), .val (.long j3), .second, .val (.int i4), .val (.int i5), .val (.int it), .val (.int bi), .val (.int si), .val (.int rr), .val (.long qq), .second, .val (.ref b54), .val (.int (1 : Int32)), .val (.long cd), .second, .unset] []))
      refine own_st (fun t k => XS.iload X66.here hx rfl (hb hby at_188) rfl k) ?_
      show own_Run p e below s _ _ _ (T66.setTop (mkF m 190 #[.val (.int i0), .val (.int i1), .val (.int i2), .val (.long j3), .second, .val (.int i4), .val (.int i5), .val (.int it), .val (.int bi), .val (.int si), .val (.int rr), .val (.long qq), .second, .val (.ref b54), .val (.int (1 : Int32)), .val (.long cd), .second, .unset] [(.int (1 : Int32))]))
      exact own_ret X66 hx hlk (t := .boolean) hret rfl (Or.inl ⟨rfl, by simp, _, rfl⟩) (hb hby at_190) (by decide) (by decide) ⟨rfl, N66⟩
    · skip
      refine own_st (fun t k => XS.icmpNo X59.here hx rfl (hb hby at_156) rfl (flt (hX : ¬ (it < i5))).2.2.1 k) ?_
      show own_Run p e below s _ _ _ (T59.setTop (mkF m 159 #[.val (.int i0), .val (.int i1), .val (.int i2), .val (.long j3), .second, .val (.int i4), .val (.int i5), .val (.int it), .val (.int bi), .val (.int si), .val (.int rr), .val (.long qq), .second, .val (.ref b54), .val (.int (1 : Int32)), .val (.long cd), .second, .unset] []))
      refine own_st (fun t k => XS.iload X59.here hx rfl (hb hby at_159) rfl k) ?_
      show own_Run p e below s _ _ _ (T59.setTop (mkF m 161 #[.val (.int i0), .val (.int i1), .val (.int i2), .val (.long j3), .second, .val (.int i4), .val (.int i5), .val (.int it), .val (.int bi), .val (.int si), .val (.int rr), .val (.long qq), .second, .val (.ref b54), .val (.int (1 : Int32)), .val (.long cd), .second, .unset] [(.int i5)]))
      refine own_st (fun t k => XS.iload X59.here hx rfl (hb hby at_161) rfl k) ?_
      show own_Run p e below s _ _ _ (T59.setTop (mkF m 163 #[.val (.int i0), .val (.int i1), .val (.int i2), .val (.long j3), .second, .val (.int i4), .val (.int i5), .val (.int it), .val (.int bi), .val (.int si), .val (.int rr), .val (.long qq), .second, .val (.ref b54), .val (.int (1 : Int32)), .val (.long cd), .second, .unset] [(.int bi), (.int i5)]))
      by_cases hY : bi < i5
      · skip
        refine own_st (fun t k => XS.icmpYes X59.here hx rfl (pc0 := 163) (pc' := 188) rfl (hb hby at_163) rfl (tlt (hY : bi < i5)).2.2.1 (by decide) (by decide) k) ?_
        show own_Run p e below s _ _ _ (T59.setTop (mkF m 188 #[.val (.int i0), .val (.int i1), .val (.int i2), .val (.long j3), .second, .val (.int i4), .val (.int i5), .val (.int it), .val (.int bi), .val (.int si), .val (.int rr), .val (.long qq), .second, .val (.ref b54), .val (.int (1 : Int32)), .val (.long cd), .second, .unset] []))
        refine own_st (fun t k => XS.iload X59.here hx rfl (hb hby at_188) rfl k) ?_
        show own_Run p e below s _ _ _ (T59.setTop (mkF m 190 #[.val (.int i0), .val (.int i1), .val (.int i2), .val (.long j3), .second, .val (.int i4), .val (.int i5), .val (.int it), .val (.int bi), .val (.int si), .val (.int rr), .val (.long qq), .second, .val (.ref b54), .val (.int (1 : Int32)), .val (.long cd), .second, .unset] [(.int (1 : Int32))]))
        exact own_ret X59 hx hlk (t := .boolean) hret rfl (Or.inl ⟨rfl, by simp, _, rfl⟩) (hb hby at_190) (by decide) (by decide) ⟨rfl, N59⟩
      · skip
        refine own_st (fun t k => XS.icmpNo X59.here hx rfl (hb hby at_163) rfl (flt (hY : ¬ (bi < i5))).2.2.1 k) ?_
        show own_Run p e below s _ _ _ (T59.setTop (mkF m 166 #[.val (.int i0), .val (.int i1), .val (.int i2), .val (.long j3), .second, .val (.int i4), .val (.int i5), .val (.int it), .val (.int bi), .val (.int si), .val (.int rr), .val (.long qq), .second, .val (.ref b54), .val (.int (1 : Int32)), .val (.long cd), .second, .unset] []))
        refine own_st (fun t k => XS.iload X59.here hx rfl (hb hby at_166) rfl k) ?_
        show own_Run p e below s _ _ _ (T59.setTop (mkF m 168 #[.val (.int i0), .val (.int i1), .val (.int i2), .val (.long j3), .second, .val (.int i4), .val (.int i5), .val (.int it), .val (.int bi), .val (.int si), .val (.int rr), .val (.long qq), .second, .val (.ref b54), .val (.int (1 : Int32)), .val (.long cd), .second, .unset] [(.int (1 : Int32))]))
        refine own_st (fun t k => XS.ifNo X59.here hx rfl (hb hby at_168) rfl ((if0 _ _).trans (feq (by decide : ¬ ((1 : Int32) = (0 : Int32)))).1) k) ?_
        show own_Run p e below s _ _ _ (T59.setTop (mkF m 171 #[.val (.int i0), .val (.int i1), .val (.int i2), .val (.long j3), .second, .val (.int i4), .val (.int i5), .val (.int it), .val (.int bi), .val (.int si), .val (.int rr), .val (.long qq), .second, .val (.ref b54), .val (.int (1 : Int32)), .val (.long cd), .second, .unset] []))
        refine own_st (fun t k => XS.aload X59.here hx rfl (hb hby at_171) rfl rfl k) ?_
        show own_Run p e below s _ _ _ (T59.setTop (mkF m 173 #[.val (.int i0), .val (.int i1), .val (.int i2), .val (.long j3), .second, .val (.int i4), .val (.int i5), .val (.int it), .val (.int bi), .val (.int si), .val (.int rr), .val (.long qq), .second, .val (.ref b54), .val (.int (1 : Int32)), .val (.long cd), .second, .unset] [(.ref b54)]))
        refine own_st (fun t k => XS.iload X59.here hx rfl (hb hby at_173) rfl k) ?_
        show own_Run p e below s _ _ _ (T59.setTop (mkF m 175 #[.val (.int i0), .val (.int i1), .val (.int i2), .val (.long j3), .second, .val (.int i4), .val (.int i5), .val (.int it), .val (.int bi), .val (.int si), .val (.int rr), .val (.long qq), .second, .val (.ref b54), .val (.int (1 : Int32)), .val (.long cd), .second, .unset] [(.int i5), (.ref b54)]))
        refine own_callV X59 hx hZ (y := (⟨"com/example/nudge_rank/nudgerank/topic/LdaParameters", "isSample", "(I)Z"⟩ : MethodName)) (C := "com/example/nudge_rank/nudgerank/topic/LdaParameters") hown (hw _ (List.mem_of_getElem? (i := 41) rfl)) (hw _ (List.mem_of_getElem? (i := 42) rfl)) (hw _ (List.mem_of_getElem? (i := 44) rfl)) (hw _ (List.mem_of_getElem? (i := 43) rfl)) (hw _ (List.mem_of_getElem? (i := 45) rfl)) (hw _ (List.mem_of_getElem? (i := 4) rfl)) (by decide) rfl (a := b54) Q60 (argsL := [(.int i5)]) (rest := []) (W := 0) (own_rm6 l Z a0 hw [] b54 i5 it bi si T59.heap n0 (Nat.le_trans Z0 K64.1) Q61 Q62 Q63 (own_ne0 r_si)) (by decide) (by decide) (by rw [hml]; rfl) (lenOf own_pd7 rfl) rfl (by exact Nat.le_of_eq rfl) (hb hby at_175) (by decide) (by decide) ?_
        intro T67 v67 L67 X67 hq67
        obtain ⟨rfl, N67q, hh67⟩ := hq67
        have N67 := Fr.app N59 N67q
        show own_Run p e below s _ _ _ (T67.setTop (mkF m 178 #[.val (.int i0), .val (.int i1), .val (.int i2), .val (.long j3), .second, .val (.int i4), .val (.int i5), .val (.int it), .val (.int bi), .val (.int si), .val (.int rr), .val (.long qq), .second, .val (.ref b54), .val (.int (1 : Int32)), .val (.long cd), .second, .unset] [(.int (if (bi < i5 ∧ ¬ (it < i5) ∧ ((it - i5) % si) = (0 : Int32)) then 1 else 0 : Int32))]))
        refine own_st (fun t k => XS.ifNo X67.here hx rfl (hb hby at_178) rfl ((if0 _ _).trans (teq (own_isX2 hY : (if (bi < i5 ∧ ¬ (it < i5) ∧ ((it - i5) % si) = (0 : Int32)) then 1 else 0 : Int32) = (0 : Int32))).2) k) ?_
        show own_Run p e below s _ _ _ (T67.setTop (mkF m 181 #[.val (.int i0), .val (.int i1), .val (.int i2), .val (.long j3), .second, .val (.int i4), .val (.int i5), .val (.int it), .val (.int bi), .val (.int si), .val (.int rr), .val (.long qq), .second, .val (.ref b54), .val (.int (1 : Int32)), .val (.long cd), .second, .unset] []))
        refine own_st (fun t k => XS.iconst X67.here hx rfl (hb hby at_181) k) ?_
        show own_Run p e below s _ _ _ (T67.setTop (mkF m 182 #[.val (.int i0), .val (.int i1), .val (.int i2), .val (.long j3), .second, .val (.int i4), .val (.int i5), .val (.int it), .val (.int bi), .val (.int si), .val (.int rr), .val (.long qq), .second, .val (.ref b54), .val (.int (1 : Int32)), .val (.long cd), .second, .unset] [(.int (1 : Int32))]))
        refine own_st (fun t k => XS.goto X67.here hx rfl (pc0 := 182) (pc' := 186) rfl (hb hby at_182) (by decide) (by decide) k) ?_
        show own_Run p e below s _ _ _ (T67.setTop (mkF m 186 #[.val (.int i0), .val (.int i1), .val (.int i2), .val (.long j3), .second, .val (.int i4), .val (.int i5), .val (.int it), .val (.int bi), .val (.int si), .val (.int rr), .val (.long qq), .second, .val (.ref b54), .val (.int (1 : Int32)), .val (.long cd), .second, .unset] [(.int (1 : Int32))]))
        refine own_st (fun t k => XS.istore X67.here hx rfl (hb hby at_186) rfl (l' := #[.val (.int i0), .val (.int i1), .val (.int i2), .val (.long j3), .second, .val (.int i4), .val (.int i5), .val (.int it), .val (.int bi), .val (.int si), .val (.int rr), .val (.long qq), .second, .val (.ref b54), .val (.int (1 : Int32)), .val (.long cd), .second, .unset]) rfl k) ?_
        show own_Run p e below s _ _ _ (T67.setTop (mkF m 188 #[.val (.int i0), .val (.int i1), .val (.int i2), .val (.long j3), .second, .val (.int i4), .val (.int i5), .val (.int it), .val (.int bi), .val (.int si), .val (.int rr), .val (.long qq), .second, .val (.ref b54), .val (.int (1 : Int32)), .val (.long cd), .second, .unset] []))
        refine own_st (fun t k => XS.iload X67.here hx rfl (hb hby at_188) rfl k) ?_
        show own_Run p e below s _ _ _ (T67.setTop (mkF m 190 #[.val (.int i0), .val (.int i1), .val (.int i2), .val (.long j3), .second, .val (.int i4), .val (.int i5), .val (.int it), .val (.int bi), .val (.int si), .val (.int rr), .val (.long qq), .second, .val (.ref b54), .val (.int (1 : Int32)), .val (.long cd), .second, .unset] [(.int (1 : Int32))]))
        exact own_ret X67 hx hlk (t := .boolean) hret rfl (Or.inl ⟨rfl, by simp, _, rfl⟩) (hb hby at_190) (by decide) (by decide) ⟨rfl, N67⟩
  · skip
    refine own_st (fun t k => XS.ifNo X59.here hx rfl (hb hby at_92) rfl ((if0 _ _).trans (flt (fun q => hL ((lw_lt _ _).mp q) : ¬ ((lcmpW cd (-2147483648 : Int64)) < (0 : Int32)))).1) k) ?_
    show own_Run p e below s _ _ _ (T59.setTop (mkF m 95 #[.val (.int i0), .val (.int i1), .val (.int i2), .val (.long j3), .second, .val (.int i4), .val (.int i5), .val (.int it), .val (.int bi), .val (.int si), .val (.int rr), .val (.long qq), .second, .val (.ref b54), .val (.int (1 : Int32)), .val (.long cd), .second, .unset] []))
    refine own_st (fun t k => XS.lload X59.here hx rfl (hb hby at_95) rfl k) ?_
    show own_Run p e below s _ _ _ (T59.setTop (mkF m 97 #[.val (.int i0), .val (.int i1), .val (.int i2), .val (.long j3), .second, .val (.int i4), .val (.int i5), .val (.int it), .val (.int bi), .val (.int si), .val (.int rr), .val (.long qq), .second, .val (.ref b54), .val (.int (1 : Int32)), .val (.long cd), .second, .unset] [(.long cd)]))
    refine own_st (X59.ldc2Long hx hown (mvT hZ (hw _ (List.mem_of_getElem? (i := 40) rfl))) (g := (mkF m 97 #[.val (.int i0), .val (.int i1), .val (.int i2), .val (.long j3), .second, .val (.int i4), .val (.int i5), .val (.int it), .val (.int bi), .val (.int si), .val (.int rr), .val (.long qq), .second, .val (.ref b54), .val (.int (1 : Int32)), .val (.long cd), .second, .unset] [(.long cd)])) rfl (hb hby at_97)) ?_
    show own_Run p e below s _ _ _ (T59.setTop (mkF m 100 #[.val (.int i0), .val (.int i1), .val (.int i2), .val (.long j3), .second, .val (.int i4), .val (.int i5), .val (.int it), .val (.int bi), .val (.int si), .val (.int rr), .val (.long qq), .second, .val (.ref b54), .val (.int (1 : Int32)), .val (.long cd), .second, .unset] [(.long (2147483647 : Int64)), (.long cd)]))
    refine own_st (fun t k => XS.lcmp X59.here hx rfl (hb hby at_100) rfl k) ?_
    show own_Run p e below s _ _ _ (T59.setTop (mkF m 101 #[.val (.int i0), .val (.int i1), .val (.int i2), .val (.long j3), .second, .val (.int i4), .val (.int i5), .val (.int it), .val (.int bi), .val (.int si), .val (.int rr), .val (.long qq), .second, .val (.ref b54), .val (.int (1 : Int32)), .val (.long cd), .second, .unset] [(.int (lcmpW cd (2147483647 : Int64)))]))
    by_cases hH : (2147483647 : Int64) < cd
    · skip
      refine own_st (fun t k => XS.ifYes X59.here hx rfl (pc0 := 101) (pc' := 152) rfl (hb hby at_101) rfl ((if0 _ _).trans (tlt ((lw_gt _ _).mpr hH : (0 : Int32) < (lcmpW cd (2147483647 : Int64)))).2.2.1) (by decide) (by decide) k) ?_
      show own_Run p e below s _ _ _ (T59.setTop (mkF m 152 #[.val (.int i0), .val (.int i1), .val (.int i2), .val (.long j3), .second, .val (.int i4), .val (.int i5), .val (.int it), .val (.int bi), .val (.int si), .val (.int rr), .val (.long qq), .second, .val (.ref b54), .val (.int (1 : Int32)), .val (.long cd), .second, .unset] []))
      refine own_st (fun t k => XS.iload X59.here hx rfl (hb hby at_152) rfl k) ?_
      show own_Run p e below s _ _ _ (T59.setTop (mkF m 154 #[.val (.int i0), .val (.int i1), .val (.int i2), .val (.long j3), .second, .val (.int i4), .val (.int i5), .val (.int it), .val (.int bi), .val (.int si), .val (.int rr), .val (.long qq), .second, .val (.ref b54), .val (.int (1 : Int32)), .val (.long cd), .second, .unset] [(.int i5)]))
      refine own_st (fun t k => XS.iload X59.here hx rfl (hb hby at_154) rfl k) ?_
      show own_Run p e below s _ _ _ (T59.setTop (mkF m 156 #[.val (.int i0), .val (.int i1), .val (.int i2), .val (.long j3), .second, .val (.int i4), .val (.int i5), .val (.int it), .val (.int bi), .val (.int si), .val (.int rr), .val (.long qq), .second, .val (.ref b54), .val (.int (1 : Int32)), .val (.long cd), .second, .unset] [(.int it), (.int i5)]))
      by_cases hX : it < i5
      · skip
        refine own_st (fun t k => XS.icmpYes X59.here hx rfl (pc0 := 156) (pc' := 166) rfl (hb hby at_156) rfl (tlt (hX : it < i5)).2.2.1 (by decide) (by decide) k) ?_
        show own_Run p e below s _ _ _ (T59.setTop (mkF m 166 #[.val (.int i0), .val (.int i1), .val (.int i2), .val (.long j3), .second, .val (.int i4), .val (.int i5), .val (.int it), .val (.int bi), .val (.int si), .val (.int rr), .val (.long qq), .second, .val (.ref b54), .val (.int (1 : Int32)), .val (.long cd), .second, .unset] []))
        refine own_st (fun t k => XS.iload X59.here hx rfl (hb hby at_166) rfl k) ?_
        show own_Run p e below s _ _ _ (T59.setTop (mkF m 168 #[.val (.int i0), .val (.int i1), .val (.int i2), .val (.long j3), .second, .val (.int i4), .val (.int i5), .val (.int it), .val (.int bi), .val (.int si), .val (.int rr), .val (.long qq), .second, .val (.ref b54), .val (.int (1 : Int32)), .val (.long cd), .second, .unset] [(.int (1 : Int32))]))
        refine own_st (fun t k => XS.ifNo X59.here hx rfl (hb hby at_168) rfl ((if0 _ _).trans (feq (by decide : ¬ ((1 : Int32) = (0 : Int32)))).1) k) ?_
        show own_Run p e below s _ _ _ (T59.setTop (mkF m 171 #[.val (.int i0), .val (.int i1), .val (.int i2), .val (.long j3), .second, .val (.int i4), .val (.int i5), .val (.int it), .val (.int bi), .val (.int si), .val (.int rr), .val (.long qq), .second, .val (.ref b54), .val (.int (1 : Int32)), .val (.long cd), .second, .unset] []))
        refine own_st (fun t k => XS.aload X59.here hx rfl (hb hby at_171) rfl rfl k) ?_
        show own_Run p e below s _ _ _ (T59.setTop (mkF m 173 #[.val (.int i0), .val (.int i1), .val (.int i2), .val (.long j3), .second, .val (.int i4), .val (.int i5), .val (.int it), .val (.int bi), .val (.int si), .val (.int rr), .val (.long qq), .second, .val (.ref b54), .val (.int (1 : Int32)), .val (.long cd), .second, .unset] [(.ref b54)]))
        refine own_st (fun t k => XS.iload X59.here hx rfl (hb hby at_173) rfl k) ?_
        show own_Run p e below s _ _ _ (T59.setTop (mkF m 175 #[.val (.int i0), .val (.int i1), .val (.int i2), .val (.long j3), .second, .val (.int i4), .val (.int i5), .val (.int it), .val (.int bi), .val (.int si), .val (.int rr), .val (.long qq), .second, .val (.ref b54), .val (.int (1 : Int32)), .val (.long cd), .second, .unset] [(.int i5), (.ref b54)]))
        refine own_callV X59 hx hZ (y := (⟨"com/example/nudge_rank/nudgerank/topic/LdaParameters", "isSample", "(I)Z"⟩ : MethodName)) (C := "com/example/nudge_rank/nudgerank/topic/LdaParameters") hown (hw _ (List.mem_of_getElem? (i := 41) rfl)) (hw _ (List.mem_of_getElem? (i := 42) rfl)) (hw _ (List.mem_of_getElem? (i := 44) rfl)) (hw _ (List.mem_of_getElem? (i := 43) rfl)) (hw _ (List.mem_of_getElem? (i := 45) rfl)) (hw _ (List.mem_of_getElem? (i := 4) rfl)) (by decide) rfl (a := b54) Q60 (argsL := [(.int i5)]) (rest := []) (W := 0) (own_rm6 l Z a0 hw [] b54 i5 it bi si T59.heap n0 (Nat.le_trans Z0 K64.1) Q61 Q62 Q63 (own_ne0 r_si)) (by decide) (by decide) (by rw [hml]; rfl) (lenOf own_pd7 rfl) rfl (by exact Nat.le_of_eq rfl) (hb hby at_175) (by decide) (by decide) ?_
        intro T68 v68 L68 X68 hq68
        obtain ⟨rfl, N68q, hh68⟩ := hq68
        have N68 := Fr.app N59 N68q
        show own_Run p e below s _ _ _ (T68.setTop (mkF m 178 #[.val (.int i0), .val (.int i1), .val (.int i2), .val (.long j3), .second, .val (.int i4), .val (.int i5), .val (.int it), .val (.int bi), .val (.int si), .val (.int rr), .val (.long qq), .second, .val (.ref b54), .val (.int (1 : Int32)), .val (.long cd), .second, .unset] [(.int (if (bi < i5 ∧ ¬ (it < i5) ∧ ((it - i5) % si) = (0 : Int32)) then 1 else 0 : Int32))]))
        refine own_st (fun t k => XS.ifNo X68.here hx rfl (hb hby at_178) rfl ((if0 _ _).trans (teq (own_isX1 hX : (if (bi < i5 ∧ ¬ (it < i5) ∧ ((it - i5) % si) = (0 : Int32)) then 1 else 0 : Int32) = (0 : Int32))).2) k) ?_
        show own_Run p e below s _ _ _ (T68.setTop (mkF m 181 #[.val (.int i0), .val (.int i1), .val (.int i2), .val (.long j3), .second, .val (.int i4), .val (.int i5), .val (.int it), .val (.int bi), .val (.int si), .val (.int rr), .val (.long qq), .second, .val (.ref b54), .val (.int (1 : Int32)), .val (.long cd), .second, .unset] []))
        refine own_st (fun t k => XS.iconst X68.here hx rfl (hb hby at_181) k) ?_
        show own_Run p e below s _ _ _ (T68.setTop (mkF m 182 #[.val (.int i0), .val (.int i1), .val (.int i2), .val (.long j3), .second, .val (.int i4), .val (.int i5), .val (.int it), .val (.int bi), .val (.int si), .val (.int rr), .val (.long qq), .second, .val (.ref b54), .val (.int (1 : Int32)), .val (.long cd), .second, .unset] [(.int (1 : Int32))]))
        refine own_st (fun t k => XS.goto X68.here hx rfl (pc0 := 182) (pc' := 186) rfl (hb hby at_182) (by decide) (by decide) k) ?_
        show own_Run p e below s _ _ _ (T68.setTop (mkF m 186 #[.val (.int i0), .val (.int i1), .val (.int i2), .val (.long j3), .second, .val (.int i4), .val (.int i5), .val (.int it), .val (.int bi), .val (.int si), .val (.int rr), .val (.long qq), .second, .val (.ref b54), .val (.int (1 : Int32)), .val (.long cd), .second, .unset] [(.int (1 : Int32))]))
        refine own_st (fun t k => XS.istore X68.here hx rfl (hb hby at_186) rfl (l' := #[.val (.int i0), .val (.int i1), .val (.int i2), .val (.long j3), .second, .val (.int i4), .val (.int i5), .val (.int it), .val (.int bi), .val (.int si), .val (.int rr), .val (.long qq), .second, .val (.ref b54), .val (.int (1 : Int32)), .val (.long cd), .second, .unset]) rfl k) ?_
        show own_Run p e below s _ _ _ (T68.setTop (mkF m 188 #[.val (.int i0), .val (.int i1), .val (.int i2), .val (.long j3), .second, .val (.int i4), .val (.int i5), .val (.int it), .val (.int bi), .val (.int si), .val (.int rr), .val (.long qq), .second, .val (.ref b54), .val (.int (1 : Int32)), .val (.long cd), .second, .unset] []))
        refine own_st (fun t k => XS.iload X68.here hx rfl (hb hby at_188) rfl k) ?_
        show own_Run p e below s _ _ _ (T68.setTop (mkF m 190 #[.val (.int i0), .val (.int i1), .val (.int i2), .val (.long j3), .second, .val (.int i4), .val (.int i5), .val (.int it), .val (.int bi), .val (.int si), .val (.int rr), .val (.long qq), .second, .val (.ref b54), .val (.int (1 : Int32)), .val (.long cd), .second, .unset] [(.int (1 : Int32))]))
        exact own_ret X68 hx hlk (t := .boolean) hret rfl (Or.inl ⟨rfl, by simp, _, rfl⟩) (hb hby at_190) (by decide) (by decide) ⟨rfl, N68⟩
      · skip
        refine own_st (fun t k => XS.icmpNo X59.here hx rfl (hb hby at_156) rfl (flt (hX : ¬ (it < i5))).2.2.1 k) ?_
        show own_Run p e below s _ _ _ (T59.setTop (mkF m 159 #[.val (.int i0), .val (.int i1), .val (.int i2), .val (.long j3), .second, .val (.int i4), .val (.int i5), .val (.int it), .val (.int bi), .val (.int si), .val (.int rr), .val (.long qq), .second, .val (.ref b54), .val (.int (1 : Int32)), .val (.long cd), .second, .unset] []))
        refine own_st (fun t k => XS.iload X59.here hx rfl (hb hby at_159) rfl k) ?_
        show own_Run p e below s _ _ _ (T59.setTop (mkF m 161 #[.val (.int i0), .val (.int i1), .val (.int i2), .val (.long j3), .second, .val (.int i4), .val (.int i5), .val (.int it), .val (.int bi), .val (.int si), .val (.int rr), .val (.long qq), .second, .val (.ref b54), .val (.int (1 : Int32)), .val (.long cd), .second, .unset] [(.int i5)]))
        refine own_st (fun t k => XS.iload X59.here hx rfl (hb hby at_161) rfl k) ?_
        show own_Run p e below s _ _ _ (T59.setTop (mkF m 163 #[.val (.int i0), .val (.int i1), .val (.int i2), .val (.long j3), .second, .val (.int i4), .val (.int i5), .val (.int it), .val (.int bi), .val (.int si), .val (.int rr), .val (.long qq), .second, .val (.ref b54), .val (.int (1 : Int32)), .val (.long cd), .second, .unset] [(.int bi), (.int i5)]))
        by_cases hY : bi < i5
        · skip
          refine own_st (fun t k => XS.icmpYes X59.here hx rfl (pc0 := 163) (pc' := 188) rfl (hb hby at_163) rfl (tlt (hY : bi < i5)).2.2.1 (by decide) (by decide) k) ?_
          show own_Run p e below s _ _ _ (T59.setTop (mkF m 188 #[.val (.int i0), .val (.int i1), .val (.int i2), .val (.long j3), .second, .val (.int i4), .val (.int i5), .val (.int it), .val (.int bi), .val (.int si), .val (.int rr), .val (.long qq), .second, .val (.ref b54), .val (.int (1 : Int32)), .val (.long cd), .second, .unset] []))
          refine own_st (fun t k => XS.iload X59.here hx rfl (hb hby at_188) rfl k) ?_
          show own_Run p e below s _ _ _ (T59.setTop (mkF m 190 #[.val (.int i0), .val (.int i1), .val (.int i2), .val (.long j3), .second, .val (.int i4), .val (.int i5), .val (.int it), .val (.int bi), .val (.int si), .val (.int rr), .val (.long qq), .second, .val (.ref b54), .val (.int (1 : Int32)), .val (.long cd), .second, .unset] [(.int (1 : Int32))]))
          exact own_ret X59 hx hlk (t := .boolean) hret rfl (Or.inl ⟨rfl, by simp, _, rfl⟩) (hb hby at_190) (by decide) (by decide) ⟨rfl, N59⟩
        · skip
          refine own_st (fun t k => XS.icmpNo X59.here hx rfl (hb hby at_163) rfl (flt (hY : ¬ (bi < i5))).2.2.1 k) ?_
          show own_Run p e below s _ _ _ (T59.setTop (mkF m 166 #[.val (.int i0), .val (.int i1), .val (.int i2), .val (.long j3), .second, .val (.int i4), .val (.int i5), .val (.int it), .val (.int bi), .val (.int si), .val (.int rr), .val (.long qq), .second, .val (.ref b54), .val (.int (1 : Int32)), .val (.long cd), .second, .unset] []))
          refine own_st (fun t k => XS.iload X59.here hx rfl (hb hby at_166) rfl k) ?_
          show own_Run p e below s _ _ _ (T59.setTop (mkF m 168 #[.val (.int i0), .val (.int i1), .val (.int i2), .val (.long j3), .second, .val (.int i4), .val (.int i5), .val (.int it), .val (.int bi), .val (.int si), .val (.int rr), .val (.long qq), .second, .val (.ref b54), .val (.int (1 : Int32)), .val (.long cd), .second, .unset] [(.int (1 : Int32))]))
          refine own_st (fun t k => XS.ifNo X59.here hx rfl (hb hby at_168) rfl ((if0 _ _).trans (feq (by decide : ¬ ((1 : Int32) = (0 : Int32)))).1) k) ?_
          show own_Run p e below s _ _ _ (T59.setTop (mkF m 171 #[.val (.int i0), .val (.int i1), .val (.int i2), .val (.long j3), .second, .val (.int i4), .val (.int i5), .val (.int it), .val (.int bi), .val (.int si), .val (.int rr), .val (.long qq), .second, .val (.ref b54), .val (.int (1 : Int32)), .val (.long cd), .second, .unset] []))
          refine own_st (fun t k => XS.aload X59.here hx rfl (hb hby at_171) rfl rfl k) ?_
          show own_Run p e below s _ _ _ (T59.setTop (mkF m 173 #[.val (.int i0), .val (.int i1), .val (.int i2), .val (.long j3), .second, .val (.int i4), .val (.int i5), .val (.int it), .val (.int bi), .val (.int si), .val (.int rr), .val (.long qq), .second, .val (.ref b54), .val (.int (1 : Int32)), .val (.long cd), .second, .unset] [(.ref b54)]))
          refine own_st (fun t k => XS.iload X59.here hx rfl (hb hby at_173) rfl k) ?_
          show own_Run p e below s _ _ _ (T59.setTop (mkF m 175 #[.val (.int i0), .val (.int i1), .val (.int i2), .val (.long j3), .second, .val (.int i4), .val (.int i5), .val (.int it), .val (.int bi), .val (.int si), .val (.int rr), .val (.long qq), .second, .val (.ref b54), .val (.int (1 : Int32)), .val (.long cd), .second, .unset] [(.int i5), (.ref b54)]))
          refine own_callV X59 hx hZ (y := (⟨"com/example/nudge_rank/nudgerank/topic/LdaParameters", "isSample", "(I)Z"⟩ : MethodName)) (C := "com/example/nudge_rank/nudgerank/topic/LdaParameters") hown (hw _ (List.mem_of_getElem? (i := 41) rfl)) (hw _ (List.mem_of_getElem? (i := 42) rfl)) (hw _ (List.mem_of_getElem? (i := 44) rfl)) (hw _ (List.mem_of_getElem? (i := 43) rfl)) (hw _ (List.mem_of_getElem? (i := 45) rfl)) (hw _ (List.mem_of_getElem? (i := 4) rfl)) (by decide) rfl (a := b54) Q60 (argsL := [(.int i5)]) (rest := []) (W := 0) (own_rm6 l Z a0 hw [] b54 i5 it bi si T59.heap n0 (Nat.le_trans Z0 K64.1) Q61 Q62 Q63 (own_ne0 r_si)) (by decide) (by decide) (by rw [hml]; rfl) (lenOf own_pd7 rfl) rfl (by exact Nat.le_of_eq rfl) (hb hby at_175) (by decide) (by decide) ?_
          intro T69 v69 L69 X69 hq69
          obtain ⟨rfl, N69q, hh69⟩ := hq69
          have N69 := Fr.app N59 N69q
          show own_Run p e below s _ _ _ (T69.setTop (mkF m 178 #[.val (.int i0), .val (.int i1), .val (.int i2), .val (.long j3), .second, .val (.int i4), .val (.int i5), .val (.int it), .val (.int bi), .val (.int si), .val (.int rr), .val (.long qq), .second, .val (.ref b54), .val (.int (1 : Int32)), .val (.long cd), .second, .unset] [(.int (if (bi < i5 ∧ ¬ (it < i5) ∧ ((it - i5) % si) = (0 : Int32)) then 1 else 0 : Int32))]))
          refine own_st (fun t k => XS.ifNo X69.here hx rfl (hb hby at_178) rfl ((if0 _ _).trans (teq (own_isX2 hY : (if (bi < i5 ∧ ¬ (it < i5) ∧ ((it - i5) % si) = (0 : Int32)) then 1 else 0 : Int32) = (0 : Int32))).2) k) ?_
          show own_Run p e below s _ _ _ (T69.setTop (mkF m 181 #[.val (.int i0), .val (.int i1), .val (.int i2), .val (.long j3), .second, .val (.int i4), .val (.int i5), .val (.int it), .val (.int bi), .val (.int si), .val (.int rr), .val (.long qq), .second, .val (.ref b54), .val (.int (1 : Int32)), .val (.long cd), .second, .unset] []))
          refine own_st (fun t k => XS.iconst X69.here hx rfl (hb hby at_181) k) ?_
          show own_Run p e below s _ _ _ (T69.setTop (mkF m 182 #[.val (.int i0), .val (.int i1), .val (.int i2), .val (.long j3), .second, .val (.int i4), .val (.int i5), .val (.int it), .val (.int bi), .val (.int si), .val (.int rr), .val (.long qq), .second, .val (.ref b54), .val (.int (1 : Int32)), .val (.long cd), .second, .unset] [(.int (1 : Int32))]))
          refine own_st (fun t k => XS.goto X69.here hx rfl (pc0 := 182) (pc' := 186) rfl (hb hby at_182) (by decide) (by decide) k) ?_
          show own_Run p e below s _ _ _ (T69.setTop (mkF m 186 #[.val (.int i0), .val (.int i1), .val (.int i2), .val (.long j3), .second, .val (.int i4), .val (.int i5), .val (.int it), .val (.int bi), .val (.int si), .val (.int rr), .val (.long qq), .second, .val (.ref b54), .val (.int (1 : Int32)), .val (.long cd), .second, .unset] [(.int (1 : Int32))]))
          refine own_st (fun t k => XS.istore X69.here hx rfl (hb hby at_186) rfl (l' := #[.val (.int i0), .val (.int i1), .val (.int i2), .val (.long j3), .second, .val (.int i4), .val (.int i5), .val (.int it), .val (.int bi), .val (.int si), .val (.int rr), .val (.long qq), .second, .val (.ref b54), .val (.int (1 : Int32)), .val (.long cd), .second, .unset]) rfl k) ?_
          show own_Run p e below s _ _ _ (T69.setTop (mkF m 188 #[.val (.int i0), .val (.int i1), .val (.int i2), .val (.long j3), .second, .val (.int i4), .val (.int i5), .val (.int it), .val (.int bi), .val (.int si), .val (.int rr), .val (.long qq), .second, .val (.ref b54), .val (.int (1 : Int32)), .val (.long cd), .second, .unset] []))
          refine own_st (fun t k => XS.iload X69.here hx rfl (hb hby at_188) rfl k) ?_
          show own_Run p e below s _ _ _ (T69.setTop (mkF m 190 #[.val (.int i0), .val (.int i1), .val (.int i2), .val (.long j3), .second, .val (.int i4), .val (.int i5), .val (.int it), .val (.int bi), .val (.int si), .val (.int rr), .val (.long qq), .second, .val (.ref b54), .val (.int (1 : Int32)), .val (.long cd), .second, .unset] [(.int (1 : Int32))]))
          exact own_ret X69 hx hlk (t := .boolean) hret rfl (Or.inl ⟨rfl, by simp, _, rfl⟩) (hb hby at_190) (by decide) (by decide) ⟨rfl, N69⟩
    · skip
      refine own_st (fun t k => XS.ifNo X59.here hx rfl (hb hby at_101) rfl ((if0 _ _).trans (flt (fun q => hH ((lw_gt _ _).mp q) : ¬ ((0 : Int32) < (lcmpW cd (2147483647 : Int64))))).2.2.1) k) ?_
      show own_Run p e below s _ _ _ (T59.setTop (mkF m 104 #[.val (.int i0), .val (.int i1), .val (.int i2), .val (.long j3), .second, .val (.int i4), .val (.int i5), .val (.int it), .val (.int bi), .val (.int si), .val (.int rr), .val (.long qq), .second, .val (.ref b54), .val (.int (1 : Int32)), .val (.long cd), .second, .unset] []))
      refine own_st (fun t k => XS.iload X59.here hx rfl (hb hby at_104) rfl k) ?_
      show own_Run p e below s _ _ _ (T59.setTop (mkF m 106 #[.val (.int i0), .val (.int i1), .val (.int i2), .val (.long j3), .second, .val (.int i4), .val (.int i5), .val (.int it), .val (.int bi), .val (.int si), .val (.int rr), .val (.long qq), .second, .val (.ref b54), .val (.int (1 : Int32)), .val (.long cd), .second, .unset] [(.int rr)]))
      by_cases hR : rr = (0 : Int32)
      · skip
        refine own_st (fun t k => XS.ifNo X59.here hx rfl (hb hby at_106) rfl ((if0 _ _).trans (teq (hR : rr = (0 : Int32))).2) k) ?_
        show own_Run p e below s _ _ _ (T59.setTop (mkF m 109 #[.val (.int i0), .val (.int i1), .val (.int i2), .val (.long j3), .second, .val (.int i4), .val (.int i5), .val (.int it), .val (.int bi), .val (.int si), .val (.int rr), .val (.long qq), .second, .val (.ref b54), .val (.int (1 : Int32)), .val (.long cd), .second, .unset] []))
        refine own_st (fun t k => XS.lload X59.here hx rfl (hb hby at_109) rfl k) ?_
        show own_Run p e below s _ _ _ (T59.setTop (mkF m 111 #[.val (.int i0), .val (.int i1), .val (.int i2), .val (.long j3), .second, .val (.int i4), .val (.int i5), .val (.int it), .val (.int bi), .val (.int si), .val (.int rr), .val (.long qq), .second, .val (.ref b54), .val (.int (1 : Int32)), .val (.long cd), .second, .unset] [(.long qq)]))
        refine own_st (fun t k => XS.lconst X59.here hx rfl (hb hby at_111) k) ?_
        show own_Run p e below s _ _ _ (T59.setTop (mkF m 112 #[.val (.int i0), .val (.int i1), .val (.int i2), .val (.long j3), .second, .val (.int i4), .val (.int i5), .val (.int it), .val (.int bi), .val (.int si), .val (.int rr), .val (.long qq), .second, .val (.ref b54), .val (.int (1 : Int32)), .val (.long cd), .second, .unset] [(.long (0 : Int64)), (.long qq)]))
        refine own_st (fun t k => XS.lcmp X59.here hx rfl (hb hby at_112) rfl k) ?_
        show own_Run p e below s _ _ _ (T59.setTop (mkF m 113 #[.val (.int i0), .val (.int i1), .val (.int i2), .val (.long j3), .second, .val (.int i4), .val (.int i5), .val (.int it), .val (.int bi), .val (.int si), .val (.int rr), .val (.long qq), .second, .val (.ref b54), .val (.int (1 : Int32)), .val (.long cd), .second, .unset] [(.int (lcmpW qq (0 : Int64)))]))
        by_cases hQ : qq < (0 : Int64)
        · skip
          refine own_st (fun t k => XS.ifYes X59.here hx rfl (pc0 := 113) (pc' := 129) rfl (hb hby at_113) rfl ((if0 _ _).trans (tlt ((lw_lt _ _).mpr hQ : (lcmpW qq (0 : Int64)) < (0 : Int32))).1) (by decide) (by decide) k) ?_
          show own_Run p e below s _ _ _ (T59.setTop (mkF m 129 #[.val (.int i0), .val (.int i1), .val (.int i2), .val (.long j3), .second, .val (.int i4), .val (.int i5), .val (.int it), .val (.int bi), .val (.int si), .val (.int rr), .val (.long qq), .second, .val (.ref b54), .val (.int (1 : Int32)), .val (.long cd), .second, .unset] []))
          refine own_st (fun t k => XS.iconst X59.here hx rfl (hb hby at_129) k) ?_
          show own_Run p e below s _ _ _ (T59.setTop (mkF m 130 #[.val (.int i0), .val (.int i1), .val (.int i2), .val (.long j3), .second, .val (.int i4), .val (.int i5), .val (.int it), .val (.int bi), .val (.int si), .val (.int rr), .val (.long qq), .second, .val (.ref b54), .val (.int (1 : Int32)), .val (.long cd), .second, .unset] [(.int (0 : Int32))]))
          refine own_st (fun t k => XS.istore X59.here hx rfl (hb hby at_130) rfl (l' := #[.val (.int i0), .val (.int i1), .val (.int i2), .val (.long j3), .second, .val (.int i4), .val (.int i5), .val (.int it), .val (.int bi), .val (.int si), .val (.int rr), .val (.long qq), .second, .val (.ref b54), .val (.int (1 : Int32)), .val (.long cd), .second, .val (.int (0 : Int32))]) rfl k) ?_
          show own_Run p e below s _ _ _ (T59.setTop (mkF m 132 #[.val (.int i0), .val (.int i1), .val (.int i2), .val (.long j3), .second, .val (.int i4), .val (.int i5), .val (.int it), .val (.int bi), .val (.int si), .val (.int rr), .val (.long qq), .second, .val (.ref b54), .val (.int (1 : Int32)), .val (.long cd), .second, .val (.int (0 : Int32))] []))
          refine own_st (fun t k => XS.aload X59.here hx rfl (hb hby at_132) rfl rfl k) ?_
          show own_Run p e below s _ _ _ (T59.setTop (mkF m 134 #[.val (.int i0), .val (.int i1), .val (.int i2), .val (.long j3), .second, .val (.int i4), .val (.int i5), .val (.int it), .val (.int bi), .val (.int si), .val (.int rr), .val (.long qq), .second, .val (.ref b54), .val (.int (1 : Int32)), .val (.long cd), .second, .val (.int (0 : Int32))] [(.ref b54)]))
          refine own_st (fun t k => XS.lload X59.here hx rfl (hb hby at_134) rfl k) ?_
          show own_Run p e below s _ _ _ (T59.setTop (mkF m 136 #[.val (.int i0), .val (.int i1), .val (.int i2), .val (.long j3), .second, .val (.int i4), .val (.int i5), .val (.int it), .val (.int bi), .val (.int si), .val (.int rr), .val (.long qq), .second, .val (.ref b54), .val (.int (1 : Int32)), .val (.long cd), .second, .val (.int (0 : Int32))] [(.long cd), (.ref b54)]))
          refine own_st (fun t k => XS.l2i X59.here hx rfl (hb hby at_136) rfl k) ?_
          show own_Run p e below s _ _ _ (T59.setTop (mkF m 137 #[.val (.int i0), .val (.int i1), .val (.int i2), .val (.long j3), .second, .val (.int i4), .val (.int i5), .val (.int it), .val (.int bi), .val (.int si), .val (.int rr), .val (.long qq), .second, .val (.ref b54), .val (.int (1 : Int32)), .val (.long cd), .second, .val (.int (0 : Int32))] [(.int (cd.toInt32)), (.ref b54)]))
          refine own_callV X59 hx hZ (y := (⟨"com/example/nudge_rank/nudgerank/topic/LdaParameters", "isSample", "(I)Z"⟩ : MethodName)) (C := "com/example/nudge_rank/nudgerank/topic/LdaParameters") hown (hw _ (List.mem_of_getElem? (i := 41) rfl)) (hw _ (List.mem_of_getElem? (i := 42) rfl)) (hw _ (List.mem_of_getElem? (i := 44) rfl)) (hw _ (List.mem_of_getElem? (i := 43) rfl)) (hw _ (List.mem_of_getElem? (i := 45) rfl)) (hw _ (List.mem_of_getElem? (i := 4) rfl)) (by decide) rfl (a := b54) Q60 (argsL := [(.int (cd.toInt32))]) (rest := []) (W := 0) (own_rm6 l Z a0 hw [] b54 (cd.toInt32) it bi si T59.heap n0 (Nat.le_trans Z0 K64.1) Q61 Q62 Q63 (own_ne0 r_si)) (by decide) (by decide) (by rw [hml]; rfl) (lenOf own_pd7 rfl) rfl (by exact Nat.le_of_eq rfl) (hb hby at_137) (by decide) (by decide) ?_
          intro T70 v70 L70 X70 hq70
          obtain ⟨rfl, N70q, hh70⟩ := hq70
          have N70 := Fr.app N59 N70q
          show own_Run p e below s _ _ _ (T70.setTop (mkF m 140 #[.val (.int i0), .val (.int i1), .val (.int i2), .val (.long j3), .second, .val (.int i4), .val (.int i5), .val (.int it), .val (.int bi), .val (.int si), .val (.int rr), .val (.long qq), .second, .val (.ref b54), .val (.int (1 : Int32)), .val (.long cd), .second, .val (.int (0 : Int32))] [(.int (if (bi < (cd.toInt32) ∧ ¬ (it < (cd.toInt32)) ∧ ((it - (cd.toInt32)) % si) = (0 : Int32)) then 1 else 0 : Int32))]))
          have q1 := own_isP r_it r_bi r_si r_rr r_qq r_cd hL hH
          refine own_st (fun t k => XS.iload X70.here hx rfl (hb hby at_140) rfl k) ?_
          show own_Run p e below s _ _ _ (T70.setTop (mkF m 142 #[.val (.int i0), .val (.int i1), .val (.int i2), .val (.long j3), .second, .val (.int i4), .val (.int i5), .val (.int it), .val (.int bi), .val (.int si), .val (.int rr), .val (.long qq), .second, .val (.ref b54), .val (.int (1 : Int32)), .val (.long cd), .second, .val (.int (0 : Int32))] [(.int (0 : Int32)), (.int (if (bi < (cd.toInt32) ∧ ¬ (it < (cd.toInt32)) ∧ ((it - (cd.toInt32)) % si) = (0 : Int32)) then 1 else 0 : Int32))]))
          refine own_st (fun t k => XS.icmpNo X70.here hx rfl (hb hby at_142) rfl (teq (own_isC q1 hQ : (if (bi < (cd.toInt32) ∧ ¬ (it < (cd.toInt32)) ∧ ((it - (cd.toInt32)) % si) = (0 : Int32)) then 1 else 0 : Int32) = (0 : Int32))).2 k) ?_
          show own_Run p e below s _ _ _ (T70.setTop (mkF m 145 #[.val (.int i0), .val (.int i1), .val (.int i2), .val (.long j3), .second, .val (.int i4), .val (.int i5), .val (.int it), .val (.int bi), .val (.int si), .val (.int rr), .val (.long qq), .second, .val (.ref b54), .val (.int (1 : Int32)), .val (.long cd), .second, .val (.int (0 : Int32))] []))
          refine own_st (fun t k => XS.iconst X70.here hx rfl (hb hby at_145) k) ?_
          show own_Run p e below s _ _ _ (T70.setTop (mkF m 146 #[.val (.int i0), .val (.int i1), .val (.int i2), .val (.long j3), .second, .val (.int i4), .val (.int i5), .val (.int it), .val (.int bi), .val (.int si), .val (.int rr), .val (.long qq), .second, .val (.ref b54), .val (.int (1 : Int32)), .val (.long cd), .second, .val (.int (0 : Int32))] [(.int (1 : Int32))]))
          refine own_st (fun t k => XS.goto X70.here hx rfl (pc0 := 146) (pc' := 150) rfl (hb hby at_146) (by decide) (by decide) k) ?_
          show own_Run p e below s _ _ _ (T70.setTop (mkF m 150 #[.val (.int i0), .val (.int i1), .val (.int i2), .val (.long j3), .second, .val (.int i4), .val (.int i5), .val (.int it), .val (.int bi), .val (.int si), .val (.int rr), .val (.long qq), .second, .val (.ref b54), .val (.int (1 : Int32)), .val (.long cd), .second, .val (.int (0 : Int32))] [(.int (1 : Int32))]))
          refine own_st (fun t k => XS.istore X70.here hx rfl (hb hby at_150) rfl (l' := #[.val (.int i0), .val (.int i1), .val (.int i2), .val (.long j3), .second, .val (.int i4), .val (.int i5), .val (.int it), .val (.int bi), .val (.int si), .val (.int rr), .val (.long qq), .second, .val (.ref b54), .val (.int (1 : Int32)), .val (.long cd), .second, .val (.int (0 : Int32))]) rfl k) ?_
          show own_Run p e below s _ _ _ (T70.setTop (mkF m 152 #[.val (.int i0), .val (.int i1), .val (.int i2), .val (.long j3), .second, .val (.int i4), .val (.int i5), .val (.int it), .val (.int bi), .val (.int si), .val (.int rr), .val (.long qq), .second, .val (.ref b54), .val (.int (1 : Int32)), .val (.long cd), .second, .val (.int (0 : Int32))] []))
          refine own_st (fun t k => XS.iload X70.here hx rfl (hb hby at_152) rfl k) ?_
          show own_Run p e below s _ _ _ (T70.setTop (mkF m 154 #[.val (.int i0), .val (.int i1), .val (.int i2), .val (.long j3), .second, .val (.int i4), .val (.int i5), .val (.int it), .val (.int bi), .val (.int si), .val (.int rr), .val (.long qq), .second, .val (.ref b54), .val (.int (1 : Int32)), .val (.long cd), .second, .val (.int (0 : Int32))] [(.int i5)]))
          refine own_st (fun t k => XS.iload X70.here hx rfl (hb hby at_154) rfl k) ?_
          show own_Run p e below s _ _ _ (T70.setTop (mkF m 156 #[.val (.int i0), .val (.int i1), .val (.int i2), .val (.long j3), .second, .val (.int i4), .val (.int i5), .val (.int it), .val (.int bi), .val (.int si), .val (.int rr), .val (.long qq), .second, .val (.ref b54), .val (.int (1 : Int32)), .val (.long cd), .second, .val (.int (0 : Int32))] [(.int it), (.int i5)]))
          by_cases hX : it < i5
          · skip
            refine own_st (fun t k => XS.icmpYes X70.here hx rfl (pc0 := 156) (pc' := 166) rfl (hb hby at_156) rfl (tlt (hX : it < i5)).2.2.1 (by decide) (by decide) k) ?_
            show own_Run p e below s _ _ _ (T70.setTop (mkF m 166 #[.val (.int i0), .val (.int i1), .val (.int i2), .val (.long j3), .second, .val (.int i4), .val (.int i5), .val (.int it), .val (.int bi), .val (.int si), .val (.int rr), .val (.long qq), .second, .val (.ref b54), .val (.int (1 : Int32)), .val (.long cd), .second, .val (.int (0 : Int32))] []))
            refine own_st (fun t k => XS.iload X70.here hx rfl (hb hby at_166) rfl k) ?_
            show own_Run p e below s _ _ _ (T70.setTop (mkF m 168 #[.val (.int i0), .val (.int i1), .val (.int i2), .val (.long j3), .second, .val (.int i4), .val (.int i5), .val (.int it), .val (.int bi), .val (.int si), .val (.int rr), .val (.long qq), .second, .val (.ref b54), .val (.int (1 : Int32)), .val (.long cd), .second, .val (.int (0 : Int32))] [(.int (1 : Int32))]))
            refine own_st (fun t k => XS.ifNo X70.here hx rfl (hb hby at_168) rfl ((if0 _ _).trans (feq (by decide : ¬ ((1 : Int32) = (0 : Int32)))).1) k) ?_
            show own_Run p e below s _ _ _ (T70.setTop (mkF m 171 #[.val (.int i0), .val (.int i1), .val (.int i2), .val (.long j3), .second, .val (.int i4), .val (.int i5), .val (.int it), .val (.int bi), .val (.int si), .val (.int rr), .val (.long qq), .second, .val (.ref b54), .val (.int (1 : Int32)), .val (.long cd), .second, .val (.int (0 : Int32))] []))
            refine own_st (fun t k => XS.aload X70.here hx rfl (hb hby at_171) rfl rfl k) ?_
            show own_Run p e below s _ _ _ (T70.setTop (mkF m 173 #[.val (.int i0), .val (.int i1), .val (.int i2), .val (.long j3), .second, .val (.int i4), .val (.int i5), .val (.int it), .val (.int bi), .val (.int si), .val (.int rr), .val (.long qq), .second, .val (.ref b54), .val (.int (1 : Int32)), .val (.long cd), .second, .val (.int (0 : Int32))] [(.ref b54)]))
            refine own_st (fun t k => XS.iload X70.here hx rfl (hb hby at_173) rfl k) ?_
            show own_Run p e below s _ _ _ (T70.setTop (mkF m 175 #[.val (.int i0), .val (.int i1), .val (.int i2), .val (.long j3), .second, .val (.int i4), .val (.int i5), .val (.int it), .val (.int bi), .val (.int si), .val (.int rr), .val (.long qq), .second, .val (.ref b54), .val (.int (1 : Int32)), .val (.long cd), .second, .val (.int (0 : Int32))] [(.int i5), (.ref b54)]))
            refine own_callV X70 hx hZ (y := (⟨"com/example/nudge_rank/nudgerank/topic/LdaParameters", "isSample", "(I)Z"⟩ : MethodName)) (C := "com/example/nudge_rank/nudgerank/topic/LdaParameters") hown (hw _ (List.mem_of_getElem? (i := 41) rfl)) (hw _ (List.mem_of_getElem? (i := 42) rfl)) (hw _ (List.mem_of_getElem? (i := 44) rfl)) (hw _ (List.mem_of_getElem? (i := 43) rfl)) (hw _ (List.mem_of_getElem? (i := 45) rfl)) (hw _ (List.mem_of_getElem? (i := 4) rfl)) (by decide) hh70 (a := b54) Q60 (argsL := [(.int i5)]) (rest := []) (W := 0) (own_rm6 l Z a0 hw [] b54 i5 it bi si T59.heap n0 (Nat.le_trans Z0 K64.1) Q61 Q62 Q63 (own_ne0 r_si)) (by decide) (by decide) (by rw [hml]; rfl) (lenOf own_pd7 rfl) rfl (by exact Nat.le_of_eq rfl) (hb hby at_175) (by decide) (by decide) ?_
            intro T71 v71 L71 X71 hq71
            obtain ⟨rfl, N71q, hh71⟩ := hq71
            have N71 := Fr.app N70 N71q
            show own_Run p e below s _ _ _ (T71.setTop (mkF m 178 #[.val (.int i0), .val (.int i1), .val (.int i2), .val (.long j3), .second, .val (.int i4), .val (.int i5), .val (.int it), .val (.int bi), .val (.int si), .val (.int rr), .val (.long qq), .second, .val (.ref b54), .val (.int (1 : Int32)), .val (.long cd), .second, .val (.int (0 : Int32))] [(.int (if (bi < i5 ∧ ¬ (it < i5) ∧ ((it - i5) % si) = (0 : Int32)) then 1 else 0 : Int32))]))
            refine own_st (fun t k => XS.ifNo X71.here hx rfl (hb hby at_178) rfl ((if0 _ _).trans (teq (own_isX1 hX : (if (bi < i5 ∧ ¬ (it < i5) ∧ ((it - i5) % si) = (0 : Int32)) then 1 else 0 : Int32) = (0 : Int32))).2) k) ?_
            show own_Run p e below s _ _ _ (T71.setTop (mkF m 181 #[.val (.int i0), .val (.int i1), .val (.int i2), .val (.long j3), .second, .val (.int i4), .val (.int i5), .val (.int it), .val (.int bi), .val (.int si), .val (.int rr), .val (.long qq), .second, .val (.ref b54), .val (.int (1 : Int32)), .val (.long cd), .second, .val (.int (0 : Int32))] []))
            refine own_st (fun t k => XS.iconst X71.here hx rfl (hb hby at_181) k) ?_
            show own_Run p e below s _ _ _ (T71.setTop (mkF m 182 #[.val (.int i0), .val (.int i1), .val (.int i2), .val (.long j3), .second, .val (.int i4), .val (.int i5), .val (.int it), .val (.int bi), .val (.int si), .val (.int rr), .val (.long qq), .second, .val (.ref b54), .val (.int (1 : Int32)), .val (.long cd), .second, .val (.int (0 : Int32))] [(.int (1 : Int32))]))
            refine own_st (fun t k => XS.goto X71.here hx rfl (pc0 := 182) (pc' := 186) rfl (hb hby at_182) (by decide) (by decide) k) ?_
            show own_Run p e below s _ _ _ (T71.setTop (mkF m 186 #[.val (.int i0), .val (.int i1), .val (.int i2), .val (.long j3), .second, .val (.int i4), .val (.int i5), .val (.int it), .val (.int bi), .val (.int si), .val (.int rr), .val (.long qq), .second, .val (.ref b54), .val (.int (1 : Int32)), .val (.long cd), .second, .val (.int (0 : Int32))] [(.int (1 : Int32))]))
            refine own_st (fun t k => XS.istore X71.here hx rfl (hb hby at_186) rfl (l' := #[.val (.int i0), .val (.int i1), .val (.int i2), .val (.long j3), .second, .val (.int i4), .val (.int i5), .val (.int it), .val (.int bi), .val (.int si), .val (.int rr), .val (.long qq), .second, .val (.ref b54), .val (.int (1 : Int32)), .val (.long cd), .second, .val (.int (0 : Int32))]) rfl k) ?_
            show own_Run p e below s _ _ _ (T71.setTop (mkF m 188 #[.val (.int i0), .val (.int i1), .val (.int i2), .val (.long j3), .second, .val (.int i4), .val (.int i5), .val (.int it), .val (.int bi), .val (.int si), .val (.int rr), .val (.long qq), .second, .val (.ref b54), .val (.int (1 : Int32)), .val (.long cd), .second, .val (.int (0 : Int32))] []))
            refine own_st (fun t k => XS.iload X71.here hx rfl (hb hby at_188) rfl k) ?_
            show own_Run p e below s _ _ _ (T71.setTop (mkF m 190 #[.val (.int i0), .val (.int i1), .val (.int i2), .val (.long j3), .second, .val (.int i4), .val (.int i5), .val (.int it), .val (.int bi), .val (.int si), .val (.int rr), .val (.long qq), .second, .val (.ref b54), .val (.int (1 : Int32)), .val (.long cd), .second, .val (.int (0 : Int32))] [(.int (1 : Int32))]))
            exact own_ret X71 hx hlk (t := .boolean) hret rfl (Or.inl ⟨rfl, by simp, _, rfl⟩) (hb hby at_190) (by decide) (by decide) ⟨rfl, N71⟩
          · skip
            refine own_st (fun t k => XS.icmpNo X70.here hx rfl (hb hby at_156) rfl (flt (hX : ¬ (it < i5))).2.2.1 k) ?_
            show own_Run p e below s _ _ _ (T70.setTop (mkF m 159 #[.val (.int i0), .val (.int i1), .val (.int i2), .val (.long j3), .second, .val (.int i4), .val (.int i5), .val (.int it), .val (.int bi), .val (.int si), .val (.int rr), .val (.long qq), .second, .val (.ref b54), .val (.int (1 : Int32)), .val (.long cd), .second, .val (.int (0 : Int32))] []))
            refine own_st (fun t k => XS.iload X70.here hx rfl (hb hby at_159) rfl k) ?_
            show own_Run p e below s _ _ _ (T70.setTop (mkF m 161 #[.val (.int i0), .val (.int i1), .val (.int i2), .val (.long j3), .second, .val (.int i4), .val (.int i5), .val (.int it), .val (.int bi), .val (.int si), .val (.int rr), .val (.long qq), .second, .val (.ref b54), .val (.int (1 : Int32)), .val (.long cd), .second, .val (.int (0 : Int32))] [(.int i5)]))
            refine own_st (fun t k => XS.iload X70.here hx rfl (hb hby at_161) rfl k) ?_
            show own_Run p e below s _ _ _ (T70.setTop (mkF m 163 #[.val (.int i0), .val (.int i1), .val (.int i2), .val (.long j3), .second, .val (.int i4), .val (.int i5), .val (.int it), .val (.int bi), .val (.int si), .val (.int rr), .val (.long qq), .second, .val (.ref b54), .val (.int (1 : Int32)), .val (.long cd), .second, .val (.int (0 : Int32))] [(.int bi), (.int i5)]))
            by_cases hY : bi < i5
            · skip
              refine own_st (fun t k => XS.icmpYes X70.here hx rfl (pc0 := 163) (pc' := 188) rfl (hb hby at_163) rfl (tlt (hY : bi < i5)).2.2.1 (by decide) (by decide) k) ?_
              show own_Run p e below s _ _ _ (T70.setTop (mkF m 188 #[.val (.int i0), .val (.int i1), .val (.int i2), .val (.long j3), .second, .val (.int i4), .val (.int i5), .val (.int it), .val (.int bi), .val (.int si), .val (.int rr), .val (.long qq), .second, .val (.ref b54), .val (.int (1 : Int32)), .val (.long cd), .second, .val (.int (0 : Int32))] []))
              refine own_st (fun t k => XS.iload X70.here hx rfl (hb hby at_188) rfl k) ?_
              show own_Run p e below s _ _ _ (T70.setTop (mkF m 190 #[.val (.int i0), .val (.int i1), .val (.int i2), .val (.long j3), .second, .val (.int i4), .val (.int i5), .val (.int it), .val (.int bi), .val (.int si), .val (.int rr), .val (.long qq), .second, .val (.ref b54), .val (.int (1 : Int32)), .val (.long cd), .second, .val (.int (0 : Int32))] [(.int (1 : Int32))]))
              exact own_ret X70 hx hlk (t := .boolean) hret rfl (Or.inl ⟨rfl, by simp, _, rfl⟩) (hb hby at_190) (by decide) (by decide) ⟨rfl, N70⟩
            · skip
              refine own_st (fun t k => XS.icmpNo X70.here hx rfl (hb hby at_163) rfl (flt (hY : ¬ (bi < i5))).2.2.1 k) ?_
              show own_Run p e below s _ _ _ (T70.setTop (mkF m 166 #[.val (.int i0), .val (.int i1), .val (.int i2), .val (.long j3), .second, .val (.int i4), .val (.int i5), .val (.int it), .val (.int bi), .val (.int si), .val (.int rr), .val (.long qq), .second, .val (.ref b54), .val (.int (1 : Int32)), .val (.long cd), .second, .val (.int (0 : Int32))] []))
              refine own_st (fun t k => XS.iload X70.here hx rfl (hb hby at_166) rfl k) ?_
              show own_Run p e below s _ _ _ (T70.setTop (mkF m 168 #[.val (.int i0), .val (.int i1), .val (.int i2), .val (.long j3), .second, .val (.int i4), .val (.int i5), .val (.int it), .val (.int bi), .val (.int si), .val (.int rr), .val (.long qq), .second, .val (.ref b54), .val (.int (1 : Int32)), .val (.long cd), .second, .val (.int (0 : Int32))] [(.int (1 : Int32))]))
              refine own_st (fun t k => XS.ifNo X70.here hx rfl (hb hby at_168) rfl ((if0 _ _).trans (feq (by decide : ¬ ((1 : Int32) = (0 : Int32)))).1) k) ?_
              show own_Run p e below s _ _ _ (T70.setTop (mkF m 171 #[.val (.int i0), .val (.int i1), .val (.int i2), .val (.long j3), .second, .val (.int i4), .val (.int i5), .val (.int it), .val (.int bi), .val (.int si), .val (.int rr), .val (.long qq), .second, .val (.ref b54), .val (.int (1 : Int32)), .val (.long cd), .second, .val (.int (0 : Int32))] []))
              refine own_st (fun t k => XS.aload X70.here hx rfl (hb hby at_171) rfl rfl k) ?_
              show own_Run p e below s _ _ _ (T70.setTop (mkF m 173 #[.val (.int i0), .val (.int i1), .val (.int i2), .val (.long j3), .second, .val (.int i4), .val (.int i5), .val (.int it), .val (.int bi), .val (.int si), .val (.int rr), .val (.long qq), .second, .val (.ref b54), .val (.int (1 : Int32)), .val (.long cd), .second, .val (.int (0 : Int32))] [(.ref b54)]))
              refine own_st (fun t k => XS.iload X70.here hx rfl (hb hby at_173) rfl k) ?_
              show own_Run p e below s _ _ _ (T70.setTop (mkF m 175 #[.val (.int i0), .val (.int i1), .val (.int i2), .val (.long j3), .second, .val (.int i4), .val (.int i5), .val (.int it), .val (.int bi), .val (.int si), .val (.int rr), .val (.long qq), .second, .val (.ref b54), .val (.int (1 : Int32)), .val (.long cd), .second, .val (.int (0 : Int32))] [(.int i5), (.ref b54)]))
              refine own_callV X70 hx hZ (y := (⟨"com/example/nudge_rank/nudgerank/topic/LdaParameters", "isSample", "(I)Z"⟩ : MethodName)) (C := "com/example/nudge_rank/nudgerank/topic/LdaParameters") hown (hw _ (List.mem_of_getElem? (i := 41) rfl)) (hw _ (List.mem_of_getElem? (i := 42) rfl)) (hw _ (List.mem_of_getElem? (i := 44) rfl)) (hw _ (List.mem_of_getElem? (i := 43) rfl)) (hw _ (List.mem_of_getElem? (i := 45) rfl)) (hw _ (List.mem_of_getElem? (i := 4) rfl)) (by decide) hh70 (a := b54) Q60 (argsL := [(.int i5)]) (rest := []) (W := 0) (own_rm6 l Z a0 hw [] b54 i5 it bi si T59.heap n0 (Nat.le_trans Z0 K64.1) Q61 Q62 Q63 (own_ne0 r_si)) (by decide) (by decide) (by rw [hml]; rfl) (lenOf own_pd7 rfl) rfl (by exact Nat.le_of_eq rfl) (hb hby at_175) (by decide) (by decide) ?_
              intro T72 v72 L72 X72 hq72
              obtain ⟨rfl, N72q, hh72⟩ := hq72
              have N72 := Fr.app N70 N72q
              show own_Run p e below s _ _ _ (T72.setTop (mkF m 178 #[.val (.int i0), .val (.int i1), .val (.int i2), .val (.long j3), .second, .val (.int i4), .val (.int i5), .val (.int it), .val (.int bi), .val (.int si), .val (.int rr), .val (.long qq), .second, .val (.ref b54), .val (.int (1 : Int32)), .val (.long cd), .second, .val (.int (0 : Int32))] [(.int (if (bi < i5 ∧ ¬ (it < i5) ∧ ((it - i5) % si) = (0 : Int32)) then 1 else 0 : Int32))]))
              refine own_st (fun t k => XS.ifNo X72.here hx rfl (hb hby at_178) rfl ((if0 _ _).trans (teq (own_isX2 hY : (if (bi < i5 ∧ ¬ (it < i5) ∧ ((it - i5) % si) = (0 : Int32)) then 1 else 0 : Int32) = (0 : Int32))).2) k) ?_
              show own_Run p e below s _ _ _ (T72.setTop (mkF m 181 #[.val (.int i0), .val (.int i1), .val (.int i2), .val (.long j3), .second, .val (.int i4), .val (.int i5), .val (.int it), .val (.int bi), .val (.int si), .val (.int rr), .val (.long qq), .second, .val (.ref b54), .val (.int (1 : Int32)), .val (.long cd), .second, .val (.int (0 : Int32))] []))
              refine own_st (fun t k => XS.iconst X72.here hx rfl (hb hby at_181) k) ?_
              show own_Run p e below s _ _ _ (T72.setTop (mkF m 182 #[.val (.int i0), .val (.int i1), .val (.int i2), .val (.long j3), .second, .val (.int i4), .val (.int i5), .val (.int it), .val (.int bi), .val (.int si), .val (.int rr), .val (.long qq), .second, .val (.ref b54), .val (.int (1 : Int32)), .val (.long cd), .second, .val (.int (0 : Int32))] [(.int (1 : Int32))]))
              refine own_st (fun t k => XS.goto X72.here hx rfl (pc0 := 182) (pc' := 186) rfl (hb hby at_182) (by decide) (by decide) k) ?_
              show own_Run p e below s _ _ _ (T72.setTop (mkF m 186 #[.val (.int i0), .val (.int i1), .val (.int i2), .val (.long j3), .second, .val (.int i4), .val (.int i5), .val (.int it), .val (.int bi), .val (.int si), .val (.int rr), .val (.long qq), .second, .val (.ref b54), .val (.int (1 : Int32)), .val (.long cd), .second, .val (.int (0 : Int32))] [(.int (1 : Int32))]))
              refine own_st (fun t k => XS.istore X72.here hx rfl (hb hby at_186) rfl (l' := #[.val (.int i0), .val (.int i1), .val (.int i2), .val (.long j3), .second, .val (.int i4), .val (.int i5), .val (.int it), .val (.int bi), .val (.int si), .val (.int rr), .val (.long qq), .second, .val (.ref b54), .val (.int (1 : Int32)), .val (.long cd), .second, .val (.int (0 : Int32))]) rfl k) ?_
              show own_Run p e below s _ _ _ (T72.setTop (mkF m 188 #[.val (.int i0), .val (.int i1), .val (.int i2), .val (.long j3), .second, .val (.int i4), .val (.int i5), .val (.int it), .val (.int bi), .val (.int si), .val (.int rr), .val (.long qq), .second, .val (.ref b54), .val (.int (1 : Int32)), .val (.long cd), .second, .val (.int (0 : Int32))] []))
              refine own_st (fun t k => XS.iload X72.here hx rfl (hb hby at_188) rfl k) ?_
              show own_Run p e below s _ _ _ (T72.setTop (mkF m 190 #[.val (.int i0), .val (.int i1), .val (.int i2), .val (.long j3), .second, .val (.int i4), .val (.int i5), .val (.int it), .val (.int bi), .val (.int si), .val (.int rr), .val (.long qq), .second, .val (.ref b54), .val (.int (1 : Int32)), .val (.long cd), .second, .val (.int (0 : Int32))] [(.int (1 : Int32))]))
              exact own_ret X72 hx hlk (t := .boolean) hret rfl (Or.inl ⟨rfl, by simp, _, rfl⟩) (hb hby at_190) (by decide) (by decide) ⟨rfl, N72⟩
        · skip
          refine own_st (fun t k => XS.ifNo X59.here hx rfl (hb hby at_113) rfl ((if0 _ _).trans (flt (fun q => hQ ((lw_lt _ _).mp q) : ¬ ((lcmpW qq (0 : Int64)) < (0 : Int32)))).1) k) ?_
          show own_Run p e below s _ _ _ (T59.setTop (mkF m 116 #[.val (.int i0), .val (.int i1), .val (.int i2), .val (.long j3), .second, .val (.int i4), .val (.int i5), .val (.int it), .val (.int bi), .val (.int si), .val (.int rr), .val (.long qq), .second, .val (.ref b54), .val (.int (1 : Int32)), .val (.long cd), .second, .unset] []))
          refine own_st (fun t k => XS.lload X59.here hx rfl (hb hby at_116) rfl k) ?_
          show own_Run p e below s _ _ _ (T59.setTop (mkF m 118 #[.val (.int i0), .val (.int i1), .val (.int i2), .val (.long j3), .second, .val (.int i4), .val (.int i5), .val (.int it), .val (.int bi), .val (.int si), .val (.int rr), .val (.long qq), .second, .val (.ref b54), .val (.int (1 : Int32)), .val (.long cd), .second, .unset] [(.long cd)]))
          refine own_st (fun t k => XS.iload X59.here hx rfl (hb hby at_118) rfl k) ?_
          show own_Run p e below s _ _ _ (T59.setTop (mkF m 120 #[.val (.int i0), .val (.int i1), .val (.int i2), .val (.long j3), .second, .val (.int i4), .val (.int i5), .val (.int it), .val (.int bi), .val (.int si), .val (.int rr), .val (.long qq), .second, .val (.ref b54), .val (.int (1 : Int32)), .val (.long cd), .second, .unset] [(.int bi), (.long cd)]))
          refine own_st (fun t k => XS.i2l X59.here hx rfl (hb hby at_120) rfl k) ?_
          show own_Run p e below s _ _ _ (T59.setTop (mkF m 121 #[.val (.int i0), .val (.int i1), .val (.int i2), .val (.long j3), .second, .val (.int i4), .val (.int i5), .val (.int it), .val (.int bi), .val (.int si), .val (.int rr), .val (.long qq), .second, .val (.ref b54), .val (.int (1 : Int32)), .val (.long cd), .second, .unset] [(.long (bi.toInt64)), (.long cd)]))
          refine own_st (fun t k => XS.lcmp X59.here hx rfl (hb hby at_121) rfl k) ?_
          show own_Run p e below s _ _ _ (T59.setTop (mkF m 122 #[.val (.int i0), .val (.int i1), .val (.int i2), .val (.long j3), .second, .val (.int i4), .val (.int i5), .val (.int it), .val (.int bi), .val (.int si), .val (.int rr), .val (.long qq), .second, .val (.ref b54), .val (.int (1 : Int32)), .val (.long cd), .second, .unset] [(.int (lcmpW cd (bi.toInt64)))]))
          by_cases hS : bi.toInt64 < cd
          · skip
            refine own_st (fun t k => XS.ifNo X59.here hx rfl (hb hby at_122) rfl ((if0 _ _).trans (tlt ((lw_gt _ _).mpr hS : (0 : Int32) < (lcmpW cd (bi.toInt64)))).2.2.2) k) ?_
            show own_Run p e below s _ _ _ (T59.setTop (mkF m 125 #[.val (.int i0), .val (.int i1), .val (.int i2), .val (.long j3), .second, .val (.int i4), .val (.int i5), .val (.int it), .val (.int bi), .val (.int si), .val (.int rr), .val (.long qq), .second, .val (.ref b54), .val (.int (1 : Int32)), .val (.long cd), .second, .unset] []))
            refine own_st (fun t k => XS.iconst X59.here hx rfl (hb hby at_125) k) ?_
            show own_Run p e below s _ _ _ (T59.setTop (mkF m 126 #[.val (.int i0), .val (.int i1), .val (.int i2), .val (.long j3), .second, .val (.int i4), .val (.int i5), .val (.int it), .val (.int bi), .val (.int si), .val (.int rr), .val (.long qq), .second, .val (.ref b54), .val (.int (1 : Int32)), .val (.long cd), .second, .unset] [(.int (1 : Int32))]))
            refine own_st (fun t k => XS.goto X59.here hx rfl (pc0 := 126) (pc' := 130) rfl (hb hby at_126) (by decide) (by decide) k) ?_
            show own_Run p e below s _ _ _ (T59.setTop (mkF m 130 #[.val (.int i0), .val (.int i1), .val (.int i2), .val (.long j3), .second, .val (.int i4), .val (.int i5), .val (.int it), .val (.int bi), .val (.int si), .val (.int rr), .val (.long qq), .second, .val (.ref b54), .val (.int (1 : Int32)), .val (.long cd), .second, .unset] [(.int (1 : Int32))]))
            refine own_st (fun t k => XS.istore X59.here hx rfl (hb hby at_130) rfl (l' := #[.val (.int i0), .val (.int i1), .val (.int i2), .val (.long j3), .second, .val (.int i4), .val (.int i5), .val (.int it), .val (.int bi), .val (.int si), .val (.int rr), .val (.long qq), .second, .val (.ref b54), .val (.int (1 : Int32)), .val (.long cd), .second, .val (.int (1 : Int32))]) rfl k) ?_
            show own_Run p e below s _ _ _ (T59.setTop (mkF m 132 #[.val (.int i0), .val (.int i1), .val (.int i2), .val (.long j3), .second, .val (.int i4), .val (.int i5), .val (.int it), .val (.int bi), .val (.int si), .val (.int rr), .val (.long qq), .second, .val (.ref b54), .val (.int (1 : Int32)), .val (.long cd), .second, .val (.int (1 : Int32))] []))
            refine own_st (fun t k => XS.aload X59.here hx rfl (hb hby at_132) rfl rfl k) ?_
            show own_Run p e below s _ _ _ (T59.setTop (mkF m 134 #[.val (.int i0), .val (.int i1), .val (.int i2), .val (.long j3), .second, .val (.int i4), .val (.int i5), .val (.int it), .val (.int bi), .val (.int si), .val (.int rr), .val (.long qq), .second, .val (.ref b54), .val (.int (1 : Int32)), .val (.long cd), .second, .val (.int (1 : Int32))] [(.ref b54)]))
            refine own_st (fun t k => XS.lload X59.here hx rfl (hb hby at_134) rfl k) ?_
            show own_Run p e below s _ _ _ (T59.setTop (mkF m 136 #[.val (.int i0), .val (.int i1), .val (.int i2), .val (.long j3), .second, .val (.int i4), .val (.int i5), .val (.int it), .val (.int bi), .val (.int si), .val (.int rr), .val (.long qq), .second, .val (.ref b54), .val (.int (1 : Int32)), .val (.long cd), .second, .val (.int (1 : Int32))] [(.long cd), (.ref b54)]))
            refine own_st (fun t k => XS.l2i X59.here hx rfl (hb hby at_136) rfl k) ?_
            show own_Run p e below s _ _ _ (T59.setTop (mkF m 137 #[.val (.int i0), .val (.int i1), .val (.int i2), .val (.long j3), .second, .val (.int i4), .val (.int i5), .val (.int it), .val (.int bi), .val (.int si), .val (.int rr), .val (.long qq), .second, .val (.ref b54), .val (.int (1 : Int32)), .val (.long cd), .second, .val (.int (1 : Int32))] [(.int (cd.toInt32)), (.ref b54)]))
            refine own_callV X59 hx hZ (y := (⟨"com/example/nudge_rank/nudgerank/topic/LdaParameters", "isSample", "(I)Z"⟩ : MethodName)) (C := "com/example/nudge_rank/nudgerank/topic/LdaParameters") hown (hw _ (List.mem_of_getElem? (i := 41) rfl)) (hw _ (List.mem_of_getElem? (i := 42) rfl)) (hw _ (List.mem_of_getElem? (i := 44) rfl)) (hw _ (List.mem_of_getElem? (i := 43) rfl)) (hw _ (List.mem_of_getElem? (i := 45) rfl)) (hw _ (List.mem_of_getElem? (i := 4) rfl)) (by decide) rfl (a := b54) Q60 (argsL := [(.int (cd.toInt32))]) (rest := []) (W := 0) (own_rm6 l Z a0 hw [] b54 (cd.toInt32) it bi si T59.heap n0 (Nat.le_trans Z0 K64.1) Q61 Q62 Q63 (own_ne0 r_si)) (by decide) (by decide) (by rw [hml]; rfl) (lenOf own_pd7 rfl) rfl (by exact Nat.le_of_eq rfl) (hb hby at_137) (by decide) (by decide) ?_
            intro T73 v73 L73 X73 hq73
            obtain ⟨rfl, N73q, hh73⟩ := hq73
            have N73 := Fr.app N59 N73q
            show own_Run p e below s _ _ _ (T73.setTop (mkF m 140 #[.val (.int i0), .val (.int i1), .val (.int i2), .val (.long j3), .second, .val (.int i4), .val (.int i5), .val (.int it), .val (.int bi), .val (.int si), .val (.int rr), .val (.long qq), .second, .val (.ref b54), .val (.int (1 : Int32)), .val (.long cd), .second, .val (.int (1 : Int32))] [(.int (if (bi < (cd.toInt32) ∧ ¬ (it < (cd.toInt32)) ∧ ((it - (cd.toInt32)) % si) = (0 : Int32)) then 1 else 0 : Int32))]))
            have q1 := own_isP r_it r_bi r_si r_rr r_qq r_cd hL hH
            refine own_st (fun t k => XS.iload X73.here hx rfl (hb hby at_140) rfl k) ?_
            show own_Run p e below s _ _ _ (T73.setTop (mkF m 142 #[.val (.int i0), .val (.int i1), .val (.int i2), .val (.long j3), .second, .val (.int i4), .val (.int i5), .val (.int it), .val (.int bi), .val (.int si), .val (.int rr), .val (.long qq), .second, .val (.ref b54), .val (.int (1 : Int32)), .val (.long cd), .second, .val (.int (1 : Int32))] [(.int (1 : Int32)), (.int (if (bi < (cd.toInt32) ∧ ¬ (it < (cd.toInt32)) ∧ ((it - (cd.toInt32)) % si) = (0 : Int32)) then 1 else 0 : Int32))]))
            refine own_st (fun t k => XS.icmpNo X73.here hx rfl (hb hby at_142) rfl (teq (own_isA q1 hR hQ hS : (if (bi < (cd.toInt32) ∧ ¬ (it < (cd.toInt32)) ∧ ((it - (cd.toInt32)) % si) = (0 : Int32)) then 1 else 0 : Int32) = (1 : Int32))).2 k) ?_
            show own_Run p e below s _ _ _ (T73.setTop (mkF m 145 #[.val (.int i0), .val (.int i1), .val (.int i2), .val (.long j3), .second, .val (.int i4), .val (.int i5), .val (.int it), .val (.int bi), .val (.int si), .val (.int rr), .val (.long qq), .second, .val (.ref b54), .val (.int (1 : Int32)), .val (.long cd), .second, .val (.int (1 : Int32))] []))
            refine own_st (fun t k => XS.iconst X73.here hx rfl (hb hby at_145) k) ?_
            show own_Run p e below s _ _ _ (T73.setTop (mkF m 146 #[.val (.int i0), .val (.int i1), .val (.int i2), .val (.long j3), .second, .val (.int i4), .val (.int i5), .val (.int it), .val (.int bi), .val (.int si), .val (.int rr), .val (.long qq), .second, .val (.ref b54), .val (.int (1 : Int32)), .val (.long cd), .second, .val (.int (1 : Int32))] [(.int (1 : Int32))]))
            refine own_st (fun t k => XS.goto X73.here hx rfl (pc0 := 146) (pc' := 150) rfl (hb hby at_146) (by decide) (by decide) k) ?_
            show own_Run p e below s _ _ _ (T73.setTop (mkF m 150 #[.val (.int i0), .val (.int i1), .val (.int i2), .val (.long j3), .second, .val (.int i4), .val (.int i5), .val (.int it), .val (.int bi), .val (.int si), .val (.int rr), .val (.long qq), .second, .val (.ref b54), .val (.int (1 : Int32)), .val (.long cd), .second, .val (.int (1 : Int32))] [(.int (1 : Int32))]))
            refine own_st (fun t k => XS.istore X73.here hx rfl (hb hby at_150) rfl (l' := #[.val (.int i0), .val (.int i1), .val (.int i2), .val (.long j3), .second, .val (.int i4), .val (.int i5), .val (.int it), .val (.int bi), .val (.int si), .val (.int rr), .val (.long qq), .second, .val (.ref b54), .val (.int (1 : Int32)), .val (.long cd), .second, .val (.int (1 : Int32))]) rfl k) ?_
            show own_Run p e below s _ _ _ (T73.setTop (mkF m 152 #[.val (.int i0), .val (.int i1), .val (.int i2), .val (.long j3), .second, .val (.int i4), .val (.int i5), .val (.int it), .val (.int bi), .val (.int si), .val (.int rr), .val (.long qq), .second, .val (.ref b54), .val (.int (1 : Int32)), .val (.long cd), .second, .val (.int (1 : Int32))] []))
            refine own_st (fun t k => XS.iload X73.here hx rfl (hb hby at_152) rfl k) ?_
            show own_Run p e below s _ _ _ (T73.setTop (mkF m 154 #[.val (.int i0), .val (.int i1), .val (.int i2), .val (.long j3), .second, .val (.int i4), .val (.int i5), .val (.int it), .val (.int bi), .val (.int si), .val (.int rr), .val (.long qq), .second, .val (.ref b54), .val (.int (1 : Int32)), .val (.long cd), .second, .val (.int (1 : Int32))] [(.int i5)]))
            refine own_st (fun t k => XS.iload X73.here hx rfl (hb hby at_154) rfl k) ?_
            show own_Run p e below s _ _ _ (T73.setTop (mkF m 156 #[.val (.int i0), .val (.int i1), .val (.int i2), .val (.long j3), .second, .val (.int i4), .val (.int i5), .val (.int it), .val (.int bi), .val (.int si), .val (.int rr), .val (.long qq), .second, .val (.ref b54), .val (.int (1 : Int32)), .val (.long cd), .second, .val (.int (1 : Int32))] [(.int it), (.int i5)]))
            by_cases hX : it < i5
            · skip
              refine own_st (fun t k => XS.icmpYes X73.here hx rfl (pc0 := 156) (pc' := 166) rfl (hb hby at_156) rfl (tlt (hX : it < i5)).2.2.1 (by decide) (by decide) k) ?_
              show own_Run p e below s _ _ _ (T73.setTop (mkF m 166 #[.val (.int i0), .val (.int i1), .val (.int i2), .val (.long j3), .second, .val (.int i4), .val (.int i5), .val (.int it), .val (.int bi), .val (.int si), .val (.int rr), .val (.long qq), .second, .val (.ref b54), .val (.int (1 : Int32)), .val (.long cd), .second, .val (.int (1 : Int32))] []))
              refine own_st (fun t k => XS.iload X73.here hx rfl (hb hby at_166) rfl k) ?_
              show own_Run p e below s _ _ _ (T73.setTop (mkF m 168 #[.val (.int i0), .val (.int i1), .val (.int i2), .val (.long j3), .second, .val (.int i4), .val (.int i5), .val (.int it), .val (.int bi), .val (.int si), .val (.int rr), .val (.long qq), .second, .val (.ref b54), .val (.int (1 : Int32)), .val (.long cd), .second, .val (.int (1 : Int32))] [(.int (1 : Int32))]))
              refine own_st (fun t k => XS.ifNo X73.here hx rfl (hb hby at_168) rfl ((if0 _ _).trans (feq (by decide : ¬ ((1 : Int32) = (0 : Int32)))).1) k) ?_
              show own_Run p e below s _ _ _ (T73.setTop (mkF m 171 #[.val (.int i0), .val (.int i1), .val (.int i2), .val (.long j3), .second, .val (.int i4), .val (.int i5), .val (.int it), .val (.int bi), .val (.int si), .val (.int rr), .val (.long qq), .second, .val (.ref b54), .val (.int (1 : Int32)), .val (.long cd), .second, .val (.int (1 : Int32))] []))
              refine own_st (fun t k => XS.aload X73.here hx rfl (hb hby at_171) rfl rfl k) ?_
              show own_Run p e below s _ _ _ (T73.setTop (mkF m 173 #[.val (.int i0), .val (.int i1), .val (.int i2), .val (.long j3), .second, .val (.int i4), .val (.int i5), .val (.int it), .val (.int bi), .val (.int si), .val (.int rr), .val (.long qq), .second, .val (.ref b54), .val (.int (1 : Int32)), .val (.long cd), .second, .val (.int (1 : Int32))] [(.ref b54)]))
              refine own_st (fun t k => XS.iload X73.here hx rfl (hb hby at_173) rfl k) ?_
              show own_Run p e below s _ _ _ (T73.setTop (mkF m 175 #[.val (.int i0), .val (.int i1), .val (.int i2), .val (.long j3), .second, .val (.int i4), .val (.int i5), .val (.int it), .val (.int bi), .val (.int si), .val (.int rr), .val (.long qq), .second, .val (.ref b54), .val (.int (1 : Int32)), .val (.long cd), .second, .val (.int (1 : Int32))] [(.int i5), (.ref b54)]))
              refine own_callV X73 hx hZ (y := (⟨"com/example/nudge_rank/nudgerank/topic/LdaParameters", "isSample", "(I)Z"⟩ : MethodName)) (C := "com/example/nudge_rank/nudgerank/topic/LdaParameters") hown (hw _ (List.mem_of_getElem? (i := 41) rfl)) (hw _ (List.mem_of_getElem? (i := 42) rfl)) (hw _ (List.mem_of_getElem? (i := 44) rfl)) (hw _ (List.mem_of_getElem? (i := 43) rfl)) (hw _ (List.mem_of_getElem? (i := 45) rfl)) (hw _ (List.mem_of_getElem? (i := 4) rfl)) (by decide) hh73 (a := b54) Q60 (argsL := [(.int i5)]) (rest := []) (W := 0) (own_rm6 l Z a0 hw [] b54 i5 it bi si T59.heap n0 (Nat.le_trans Z0 K64.1) Q61 Q62 Q63 (own_ne0 r_si)) (by decide) (by decide) (by rw [hml]; rfl) (lenOf own_pd7 rfl) rfl (by exact Nat.le_of_eq rfl) (hb hby at_175) (by decide) (by decide) ?_
              intro T74 v74 L74 X74 hq74
              obtain ⟨rfl, N74q, hh74⟩ := hq74
              have N74 := Fr.app N73 N74q
              show own_Run p e below s _ _ _ (T74.setTop (mkF m 178 #[.val (.int i0), .val (.int i1), .val (.int i2), .val (.long j3), .second, .val (.int i4), .val (.int i5), .val (.int it), .val (.int bi), .val (.int si), .val (.int rr), .val (.long qq), .second, .val (.ref b54), .val (.int (1 : Int32)), .val (.long cd), .second, .val (.int (1 : Int32))] [(.int (if (bi < i5 ∧ ¬ (it < i5) ∧ ((it - i5) % si) = (0 : Int32)) then 1 else 0 : Int32))]))
              refine own_st (fun t k => XS.ifNo X74.here hx rfl (hb hby at_178) rfl ((if0 _ _).trans (teq (own_isX1 hX : (if (bi < i5 ∧ ¬ (it < i5) ∧ ((it - i5) % si) = (0 : Int32)) then 1 else 0 : Int32) = (0 : Int32))).2) k) ?_
              show own_Run p e below s _ _ _ (T74.setTop (mkF m 181 #[.val (.int i0), .val (.int i1), .val (.int i2), .val (.long j3), .second, .val (.int i4), .val (.int i5), .val (.int it), .val (.int bi), .val (.int si), .val (.int rr), .val (.long qq), .second, .val (.ref b54), .val (.int (1 : Int32)), .val (.long cd), .second, .val (.int (1 : Int32))] []))
              refine own_st (fun t k => XS.iconst X74.here hx rfl (hb hby at_181) k) ?_
              show own_Run p e below s _ _ _ (T74.setTop (mkF m 182 #[.val (.int i0), .val (.int i1), .val (.int i2), .val (.long j3), .second, .val (.int i4), .val (.int i5), .val (.int it), .val (.int bi), .val (.int si), .val (.int rr), .val (.long qq), .second, .val (.ref b54), .val (.int (1 : Int32)), .val (.long cd), .second, .val (.int (1 : Int32))] [(.int (1 : Int32))]))
              refine own_st (fun t k => XS.goto X74.here hx rfl (pc0 := 182) (pc' := 186) rfl (hb hby at_182) (by decide) (by decide) k) ?_
              show own_Run p e below s _ _ _ (T74.setTop (mkF m 186 #[.val (.int i0), .val (.int i1), .val (.int i2), .val (.long j3), .second, .val (.int i4), .val (.int i5), .val (.int it), .val (.int bi), .val (.int si), .val (.int rr), .val (.long qq), .second, .val (.ref b54), .val (.int (1 : Int32)), .val (.long cd), .second, .val (.int (1 : Int32))] [(.int (1 : Int32))]))
              refine own_st (fun t k => XS.istore X74.here hx rfl (hb hby at_186) rfl (l' := #[.val (.int i0), .val (.int i1), .val (.int i2), .val (.long j3), .second, .val (.int i4), .val (.int i5), .val (.int it), .val (.int bi), .val (.int si), .val (.int rr), .val (.long qq), .second, .val (.ref b54), .val (.int (1 : Int32)), .val (.long cd), .second, .val (.int (1 : Int32))]) rfl k) ?_
              show own_Run p e below s _ _ _ (T74.setTop (mkF m 188 #[.val (.int i0), .val (.int i1), .val (.int i2), .val (.long j3), .second, .val (.int i4), .val (.int i5), .val (.int it), .val (.int bi), .val (.int si), .val (.int rr), .val (.long qq), .second, .val (.ref b54), .val (.int (1 : Int32)), .val (.long cd), .second, .val (.int (1 : Int32))] []))
              refine own_st (fun t k => XS.iload X74.here hx rfl (hb hby at_188) rfl k) ?_
              show own_Run p e below s _ _ _ (T74.setTop (mkF m 190 #[.val (.int i0), .val (.int i1), .val (.int i2), .val (.long j3), .second, .val (.int i4), .val (.int i5), .val (.int it), .val (.int bi), .val (.int si), .val (.int rr), .val (.long qq), .second, .val (.ref b54), .val (.int (1 : Int32)), .val (.long cd), .second, .val (.int (1 : Int32))] [(.int (1 : Int32))]))
              exact own_ret X74 hx hlk (t := .boolean) hret rfl (Or.inl ⟨rfl, by simp, _, rfl⟩) (hb hby at_190) (by decide) (by decide) ⟨rfl, N74⟩
            · skip
              refine own_st (fun t k => XS.icmpNo X73.here hx rfl (hb hby at_156) rfl (flt (hX : ¬ (it < i5))).2.2.1 k) ?_
              show own_Run p e below s _ _ _ (T73.setTop (mkF m 159 #[.val (.int i0), .val (.int i1), .val (.int i2), .val (.long j3), .second, .val (.int i4), .val (.int i5), .val (.int it), .val (.int bi), .val (.int si), .val (.int rr), .val (.long qq), .second, .val (.ref b54), .val (.int (1 : Int32)), .val (.long cd), .second, .val (.int (1 : Int32))] []))
              refine own_st (fun t k => XS.iload X73.here hx rfl (hb hby at_159) rfl k) ?_
              show own_Run p e below s _ _ _ (T73.setTop (mkF m 161 #[.val (.int i0), .val (.int i1), .val (.int i2), .val (.long j3), .second, .val (.int i4), .val (.int i5), .val (.int it), .val (.int bi), .val (.int si), .val (.int rr), .val (.long qq), .second, .val (.ref b54), .val (.int (1 : Int32)), .val (.long cd), .second, .val (.int (1 : Int32))] [(.int i5)]))
              refine own_st (fun t k => XS.iload X73.here hx rfl (hb hby at_161) rfl k) ?_
              show own_Run p e below s _ _ _ (T73.setTop (mkF m 163 #[.val (.int i0), .val (.int i1), .val (.int i2), .val (.long j3), .second, .val (.int i4), .val (.int i5), .val (.int it), .val (.int bi), .val (.int si), .val (.int rr), .val (.long qq), .second, .val (.ref b54), .val (.int (1 : Int32)), .val (.long cd), .second, .val (.int (1 : Int32))] [(.int bi), (.int i5)]))
              by_cases hY : bi < i5
              · skip
                refine own_st (fun t k => XS.icmpYes X73.here hx rfl (pc0 := 163) (pc' := 188) rfl (hb hby at_163) rfl (tlt (hY : bi < i5)).2.2.1 (by decide) (by decide) k) ?_
                show own_Run p e below s _ _ _ (T73.setTop (mkF m 188 #[.val (.int i0), .val (.int i1), .val (.int i2), .val (.long j3), .second, .val (.int i4), .val (.int i5), .val (.int it), .val (.int bi), .val (.int si), .val (.int rr), .val (.long qq), .second, .val (.ref b54), .val (.int (1 : Int32)), .val (.long cd), .second, .val (.int (1 : Int32))] []))
                refine own_st (fun t k => XS.iload X73.here hx rfl (hb hby at_188) rfl k) ?_
                show own_Run p e below s _ _ _ (T73.setTop (mkF m 190 #[.val (.int i0), .val (.int i1), .val (.int i2), .val (.long j3), .second, .val (.int i4), .val (.int i5), .val (.int it), .val (.int bi), .val (.int si), .val (.int rr), .val (.long qq), .second, .val (.ref b54), .val (.int (1 : Int32)), .val (.long cd), .second, .val (.int (1 : Int32))] [(.int (1 : Int32))]))
                exact own_ret X73 hx hlk (t := .boolean) hret rfl (Or.inl ⟨rfl, by simp, _, rfl⟩) (hb hby at_190) (by decide) (by decide) ⟨rfl, N73⟩
              · skip
                refine own_st (fun t k => XS.icmpNo X73.here hx rfl (hb hby at_163) rfl (flt (hY : ¬ (bi < i5))).2.2.1 k) ?_
                show own_Run p e below s _ _ _ (T73.setTop (mkF m 166 #[.val (.int i0), .val (.int i1), .val (.int i2), .val (.long j3), .second, .val (.int i4), .val (.int i5), .val (.int it), .val (.int bi), .val (.int si), .val (.int rr), .val (.long qq), .second, .val (.ref b54), .val (.int (1 : Int32)), .val (.long cd), .second, .val (.int (1 : Int32))] []))
                refine own_st (fun t k => XS.iload X73.here hx rfl (hb hby at_166) rfl k) ?_
                show own_Run p e below s _ _ _ (T73.setTop (mkF m 168 #[.val (.int i0), .val (.int i1), .val (.int i2), .val (.long j3), .second, .val (.int i4), .val (.int i5), .val (.int it), .val (.int bi), .val (.int si), .val (.int rr), .val (.long qq), .second, .val (.ref b54), .val (.int (1 : Int32)), .val (.long cd), .second, .val (.int (1 : Int32))] [(.int (1 : Int32))]))
                refine own_st (fun t k => XS.ifNo X73.here hx rfl (hb hby at_168) rfl ((if0 _ _).trans (feq (by decide : ¬ ((1 : Int32) = (0 : Int32)))).1) k) ?_
                show own_Run p e below s _ _ _ (T73.setTop (mkF m 171 #[.val (.int i0), .val (.int i1), .val (.int i2), .val (.long j3), .second, .val (.int i4), .val (.int i5), .val (.int it), .val (.int bi), .val (.int si), .val (.int rr), .val (.long qq), .second, .val (.ref b54), .val (.int (1 : Int32)), .val (.long cd), .second, .val (.int (1 : Int32))] []))
                refine own_st (fun t k => XS.aload X73.here hx rfl (hb hby at_171) rfl rfl k) ?_
                show own_Run p e below s _ _ _ (T73.setTop (mkF m 173 #[.val (.int i0), .val (.int i1), .val (.int i2), .val (.long j3), .second, .val (.int i4), .val (.int i5), .val (.int it), .val (.int bi), .val (.int si), .val (.int rr), .val (.long qq), .second, .val (.ref b54), .val (.int (1 : Int32)), .val (.long cd), .second, .val (.int (1 : Int32))] [(.ref b54)]))
                refine own_st (fun t k => XS.iload X73.here hx rfl (hb hby at_173) rfl k) ?_
                show own_Run p e below s _ _ _ (T73.setTop (mkF m 175 #[.val (.int i0), .val (.int i1), .val (.int i2), .val (.long j3), .second, .val (.int i4), .val (.int i5), .val (.int it), .val (.int bi), .val (.int si), .val (.int rr), .val (.long qq), .second, .val (.ref b54), .val (.int (1 : Int32)), .val (.long cd), .second, .val (.int (1 : Int32))] [(.int i5), (.ref b54)]))
                refine own_callV X73 hx hZ (y := (⟨"com/example/nudge_rank/nudgerank/topic/LdaParameters", "isSample", "(I)Z"⟩ : MethodName)) (C := "com/example/nudge_rank/nudgerank/topic/LdaParameters") hown (hw _ (List.mem_of_getElem? (i := 41) rfl)) (hw _ (List.mem_of_getElem? (i := 42) rfl)) (hw _ (List.mem_of_getElem? (i := 44) rfl)) (hw _ (List.mem_of_getElem? (i := 43) rfl)) (hw _ (List.mem_of_getElem? (i := 45) rfl)) (hw _ (List.mem_of_getElem? (i := 4) rfl)) (by decide) hh73 (a := b54) Q60 (argsL := [(.int i5)]) (rest := []) (W := 0) (own_rm6 l Z a0 hw [] b54 i5 it bi si T59.heap n0 (Nat.le_trans Z0 K64.1) Q61 Q62 Q63 (own_ne0 r_si)) (by decide) (by decide) (by rw [hml]; rfl) (lenOf own_pd7 rfl) rfl (by exact Nat.le_of_eq rfl) (hb hby at_175) (by decide) (by decide) ?_
                intro T75 v75 L75 X75 hq75
                obtain ⟨rfl, N75q, hh75⟩ := hq75
                have N75 := Fr.app N73 N75q
                show own_Run p e below s _ _ _ (T75.setTop (mkF m 178 #[.val (.int i0), .val (.int i1), .val (.int i2), .val (.long j3), .second, .val (.int i4), .val (.int i5), .val (.int it), .val (.int bi), .val (.int si), .val (.int rr), .val (.long qq), .second, .val (.ref b54), .val (.int (1 : Int32)), .val (.long cd), .second, .val (.int (1 : Int32))] [(.int (if (bi < i5 ∧ ¬ (it < i5) ∧ ((it - i5) % si) = (0 : Int32)) then 1 else 0 : Int32))]))
                refine own_st (fun t k => XS.ifNo X75.here hx rfl (hb hby at_178) rfl ((if0 _ _).trans (teq (own_isX2 hY : (if (bi < i5 ∧ ¬ (it < i5) ∧ ((it - i5) % si) = (0 : Int32)) then 1 else 0 : Int32) = (0 : Int32))).2) k) ?_
                show own_Run p e below s _ _ _ (T75.setTop (mkF m 181 #[.val (.int i0), .val (.int i1), .val (.int i2), .val (.long j3), .second, .val (.int i4), .val (.int i5), .val (.int it), .val (.int bi), .val (.int si), .val (.int rr), .val (.long qq), .second, .val (.ref b54), .val (.int (1 : Int32)), .val (.long cd), .second, .val (.int (1 : Int32))] []))
                refine own_st (fun t k => XS.iconst X75.here hx rfl (hb hby at_181) k) ?_
                show own_Run p e below s _ _ _ (T75.setTop (mkF m 182 #[.val (.int i0), .val (.int i1), .val (.int i2), .val (.long j3), .second, .val (.int i4), .val (.int i5), .val (.int it), .val (.int bi), .val (.int si), .val (.int rr), .val (.long qq), .second, .val (.ref b54), .val (.int (1 : Int32)), .val (.long cd), .second, .val (.int (1 : Int32))] [(.int (1 : Int32))]))
                refine own_st (fun t k => XS.goto X75.here hx rfl (pc0 := 182) (pc' := 186) rfl (hb hby at_182) (by decide) (by decide) k) ?_
                show own_Run p e below s _ _ _ (T75.setTop (mkF m 186 #[.val (.int i0), .val (.int i1), .val (.int i2), .val (.long j3), .second, .val (.int i4), .val (.int i5), .val (.int it), .val (.int bi), .val (.int si), .val (.int rr), .val (.long qq), .second, .val (.ref b54), .val (.int (1 : Int32)), .val (.long cd), .second, .val (.int (1 : Int32))] [(.int (1 : Int32))]))
                refine own_st (fun t k => XS.istore X75.here hx rfl (hb hby at_186) rfl (l' := #[.val (.int i0), .val (.int i1), .val (.int i2), .val (.long j3), .second, .val (.int i4), .val (.int i5), .val (.int it), .val (.int bi), .val (.int si), .val (.int rr), .val (.long qq), .second, .val (.ref b54), .val (.int (1 : Int32)), .val (.long cd), .second, .val (.int (1 : Int32))]) rfl k) ?_
                show own_Run p e below s _ _ _ (T75.setTop (mkF m 188 #[.val (.int i0), .val (.int i1), .val (.int i2), .val (.long j3), .second, .val (.int i4), .val (.int i5), .val (.int it), .val (.int bi), .val (.int si), .val (.int rr), .val (.long qq), .second, .val (.ref b54), .val (.int (1 : Int32)), .val (.long cd), .second, .val (.int (1 : Int32))] []))
                refine own_st (fun t k => XS.iload X75.here hx rfl (hb hby at_188) rfl k) ?_
                show own_Run p e below s _ _ _ (T75.setTop (mkF m 190 #[.val (.int i0), .val (.int i1), .val (.int i2), .val (.long j3), .second, .val (.int i4), .val (.int i5), .val (.int it), .val (.int bi), .val (.int si), .val (.int rr), .val (.long qq), .second, .val (.ref b54), .val (.int (1 : Int32)), .val (.long cd), .second, .val (.int (1 : Int32))] [(.int (1 : Int32))]))
                exact own_ret X75 hx hlk (t := .boolean) hret rfl (Or.inl ⟨rfl, by simp, _, rfl⟩) (hb hby at_190) (by decide) (by decide) ⟨rfl, N75⟩
          · skip
            refine own_st (fun t k => XS.ifYes X59.here hx rfl (pc0 := 122) (pc' := 129) rfl (hb hby at_122) rfl ((if0 _ _).trans (flt (fun q => hS ((lw_gt _ _).mp q) : ¬ ((0 : Int32) < (lcmpW cd (bi.toInt64))))).2.2.2) (by decide) (by decide) k) ?_
            show own_Run p e below s _ _ _ (T59.setTop (mkF m 129 #[.val (.int i0), .val (.int i1), .val (.int i2), .val (.long j3), .second, .val (.int i4), .val (.int i5), .val (.int it), .val (.int bi), .val (.int si), .val (.int rr), .val (.long qq), .second, .val (.ref b54), .val (.int (1 : Int32)), .val (.long cd), .second, .unset] []))
            refine own_st (fun t k => XS.iconst X59.here hx rfl (hb hby at_129) k) ?_
            show own_Run p e below s _ _ _ (T59.setTop (mkF m 130 #[.val (.int i0), .val (.int i1), .val (.int i2), .val (.long j3), .second, .val (.int i4), .val (.int i5), .val (.int it), .val (.int bi), .val (.int si), .val (.int rr), .val (.long qq), .second, .val (.ref b54), .val (.int (1 : Int32)), .val (.long cd), .second, .unset] [(.int (0 : Int32))]))
            refine own_st (fun t k => XS.istore X59.here hx rfl (hb hby at_130) rfl (l' := #[.val (.int i0), .val (.int i1), .val (.int i2), .val (.long j3), .second, .val (.int i4), .val (.int i5), .val (.int it), .val (.int bi), .val (.int si), .val (.int rr), .val (.long qq), .second, .val (.ref b54), .val (.int (1 : Int32)), .val (.long cd), .second, .val (.int (0 : Int32))]) rfl k) ?_
            show own_Run p e below s _ _ _ (T59.setTop (mkF m 132 #[.val (.int i0), .val (.int i1), .val (.int i2), .val (.long j3), .second, .val (.int i4), .val (.int i5), .val (.int it), .val (.int bi), .val (.int si), .val (.int rr), .val (.long qq), .second, .val (.ref b54), .val (.int (1 : Int32)), .val (.long cd), .second, .val (.int (0 : Int32))] []))
            refine own_st (fun t k => XS.aload X59.here hx rfl (hb hby at_132) rfl rfl k) ?_
            show own_Run p e below s _ _ _ (T59.setTop (mkF m 134 #[.val (.int i0), .val (.int i1), .val (.int i2), .val (.long j3), .second, .val (.int i4), .val (.int i5), .val (.int it), .val (.int bi), .val (.int si), .val (.int rr), .val (.long qq), .second, .val (.ref b54), .val (.int (1 : Int32)), .val (.long cd), .second, .val (.int (0 : Int32))] [(.ref b54)]))
            refine own_st (fun t k => XS.lload X59.here hx rfl (hb hby at_134) rfl k) ?_
            show own_Run p e below s _ _ _ (T59.setTop (mkF m 136 #[.val (.int i0), .val (.int i1), .val (.int i2), .val (.long j3), .second, .val (.int i4), .val (.int i5), .val (.int it), .val (.int bi), .val (.int si), .val (.int rr), .val (.long qq), .second, .val (.ref b54), .val (.int (1 : Int32)), .val (.long cd), .second, .val (.int (0 : Int32))] [(.long cd), (.ref b54)]))
            refine own_st (fun t k => XS.l2i X59.here hx rfl (hb hby at_136) rfl k) ?_
            show own_Run p e below s _ _ _ (T59.setTop (mkF m 137 #[.val (.int i0), .val (.int i1), .val (.int i2), .val (.long j3), .second, .val (.int i4), .val (.int i5), .val (.int it), .val (.int bi), .val (.int si), .val (.int rr), .val (.long qq), .second, .val (.ref b54), .val (.int (1 : Int32)), .val (.long cd), .second, .val (.int (0 : Int32))] [(.int (cd.toInt32)), (.ref b54)]))
            refine own_callV X59 hx hZ (y := (⟨"com/example/nudge_rank/nudgerank/topic/LdaParameters", "isSample", "(I)Z"⟩ : MethodName)) (C := "com/example/nudge_rank/nudgerank/topic/LdaParameters") hown (hw _ (List.mem_of_getElem? (i := 41) rfl)) (hw _ (List.mem_of_getElem? (i := 42) rfl)) (hw _ (List.mem_of_getElem? (i := 44) rfl)) (hw _ (List.mem_of_getElem? (i := 43) rfl)) (hw _ (List.mem_of_getElem? (i := 45) rfl)) (hw _ (List.mem_of_getElem? (i := 4) rfl)) (by decide) rfl (a := b54) Q60 (argsL := [(.int (cd.toInt32))]) (rest := []) (W := 0) (own_rm6 l Z a0 hw [] b54 (cd.toInt32) it bi si T59.heap n0 (Nat.le_trans Z0 K64.1) Q61 Q62 Q63 (own_ne0 r_si)) (by decide) (by decide) (by rw [hml]; rfl) (lenOf own_pd7 rfl) rfl (by exact Nat.le_of_eq rfl) (hb hby at_137) (by decide) (by decide) ?_
            intro T76 v76 L76 X76 hq76
            obtain ⟨rfl, N76q, hh76⟩ := hq76
            have N76 := Fr.app N59 N76q
            show own_Run p e below s _ _ _ (T76.setTop (mkF m 140 #[.val (.int i0), .val (.int i1), .val (.int i2), .val (.long j3), .second, .val (.int i4), .val (.int i5), .val (.int it), .val (.int bi), .val (.int si), .val (.int rr), .val (.long qq), .second, .val (.ref b54), .val (.int (1 : Int32)), .val (.long cd), .second, .val (.int (0 : Int32))] [(.int (if (bi < (cd.toInt32) ∧ ¬ (it < (cd.toInt32)) ∧ ((it - (cd.toInt32)) % si) = (0 : Int32)) then 1 else 0 : Int32))]))
            have q1 := own_isP r_it r_bi r_si r_rr r_qq r_cd hL hH
            refine own_st (fun t k => XS.iload X76.here hx rfl (hb hby at_140) rfl k) ?_
            show own_Run p e below s _ _ _ (T76.setTop (mkF m 142 #[.val (.int i0), .val (.int i1), .val (.int i2), .val (.long j3), .second, .val (.int i4), .val (.int i5), .val (.int it), .val (.int bi), .val (.int si), .val (.int rr), .val (.long qq), .second, .val (.ref b54), .val (.int (1 : Int32)), .val (.long cd), .second, .val (.int (0 : Int32))] [(.int (0 : Int32)), (.int (if (bi < (cd.toInt32) ∧ ¬ (it < (cd.toInt32)) ∧ ((it - (cd.toInt32)) % si) = (0 : Int32)) then 1 else 0 : Int32))]))
            refine own_st (fun t k => XS.icmpNo X76.here hx rfl (hb hby at_142) rfl (teq (own_isD q1 hS : (if (bi < (cd.toInt32) ∧ ¬ (it < (cd.toInt32)) ∧ ((it - (cd.toInt32)) % si) = (0 : Int32)) then 1 else 0 : Int32) = (0 : Int32))).2 k) ?_
            show own_Run p e below s _ _ _ (T76.setTop (mkF m 145 #[.val (.int i0), .val (.int i1), .val (.int i2), .val (.long j3), .second, .val (.int i4), .val (.int i5), .val (.int it), .val (.int bi), .val (.int si), .val (.int rr), .val (.long qq), .second, .val (.ref b54), .val (.int (1 : Int32)), .val (.long cd), .second, .val (.int (0 : Int32))] []))
            refine own_st (fun t k => XS.iconst X76.here hx rfl (hb hby at_145) k) ?_
            show own_Run p e below s _ _ _ (T76.setTop (mkF m 146 #[.val (.int i0), .val (.int i1), .val (.int i2), .val (.long j3), .second, .val (.int i4), .val (.int i5), .val (.int it), .val (.int bi), .val (.int si), .val (.int rr), .val (.long qq), .second, .val (.ref b54), .val (.int (1 : Int32)), .val (.long cd), .second, .val (.int (0 : Int32))] [(.int (1 : Int32))]))
            refine own_st (fun t k => XS.goto X76.here hx rfl (pc0 := 146) (pc' := 150) rfl (hb hby at_146) (by decide) (by decide) k) ?_
            show own_Run p e below s _ _ _ (T76.setTop (mkF m 150 #[.val (.int i0), .val (.int i1), .val (.int i2), .val (.long j3), .second, .val (.int i4), .val (.int i5), .val (.int it), .val (.int bi), .val (.int si), .val (.int rr), .val (.long qq), .second, .val (.ref b54), .val (.int (1 : Int32)), .val (.long cd), .second, .val (.int (0 : Int32))] [(.int (1 : Int32))]))
            refine own_st (fun t k => XS.istore X76.here hx rfl (hb hby at_150) rfl (l' := #[.val (.int i0), .val (.int i1), .val (.int i2), .val (.long j3), .second, .val (.int i4), .val (.int i5), .val (.int it), .val (.int bi), .val (.int si), .val (.int rr), .val (.long qq), .second, .val (.ref b54), .val (.int (1 : Int32)), .val (.long cd), .second, .val (.int (0 : Int32))]) rfl k) ?_
            show own_Run p e below s _ _ _ (T76.setTop (mkF m 152 #[.val (.int i0), .val (.int i1), .val (.int i2), .val (.long j3), .second, .val (.int i4), .val (.int i5), .val (.int it), .val (.int bi), .val (.int si), .val (.int rr), .val (.long qq), .second, .val (.ref b54), .val (.int (1 : Int32)), .val (.long cd), .second, .val (.int (0 : Int32))] []))
            refine own_st (fun t k => XS.iload X76.here hx rfl (hb hby at_152) rfl k) ?_
            show own_Run p e below s _ _ _ (T76.setTop (mkF m 154 #[.val (.int i0), .val (.int i1), .val (.int i2), .val (.long j3), .second, .val (.int i4), .val (.int i5), .val (.int it), .val (.int bi), .val (.int si), .val (.int rr), .val (.long qq), .second, .val (.ref b54), .val (.int (1 : Int32)), .val (.long cd), .second, .val (.int (0 : Int32))] [(.int i5)]))
            refine own_st (fun t k => XS.iload X76.here hx rfl (hb hby at_154) rfl k) ?_
            show own_Run p e below s _ _ _ (T76.setTop (mkF m 156 #[.val (.int i0), .val (.int i1), .val (.int i2), .val (.long j3), .second, .val (.int i4), .val (.int i5), .val (.int it), .val (.int bi), .val (.int si), .val (.int rr), .val (.long qq), .second, .val (.ref b54), .val (.int (1 : Int32)), .val (.long cd), .second, .val (.int (0 : Int32))] [(.int it), (.int i5)]))
            by_cases hX : it < i5
            · skip
              refine own_st (fun t k => XS.icmpYes X76.here hx rfl (pc0 := 156) (pc' := 166) rfl (hb hby at_156) rfl (tlt (hX : it < i5)).2.2.1 (by decide) (by decide) k) ?_
              show own_Run p e below s _ _ _ (T76.setTop (mkF m 166 #[.val (.int i0), .val (.int i1), .val (.int i2), .val (.long j3), .second, .val (.int i4), .val (.int i5), .val (.int it), .val (.int bi), .val (.int si), .val (.int rr), .val (.long qq), .second, .val (.ref b54), .val (.int (1 : Int32)), .val (.long cd), .second, .val (.int (0 : Int32))] []))
              refine own_st (fun t k => XS.iload X76.here hx rfl (hb hby at_166) rfl k) ?_
              show own_Run p e below s _ _ _ (T76.setTop (mkF m 168 #[.val (.int i0), .val (.int i1), .val (.int i2), .val (.long j3), .second, .val (.int i4), .val (.int i5), .val (.int it), .val (.int bi), .val (.int si), .val (.int rr), .val (.long qq), .second, .val (.ref b54), .val (.int (1 : Int32)), .val (.long cd), .second, .val (.int (0 : Int32))] [(.int (1 : Int32))]))
              refine own_st (fun t k => XS.ifNo X76.here hx rfl (hb hby at_168) rfl ((if0 _ _).trans (feq (by decide : ¬ ((1 : Int32) = (0 : Int32)))).1) k) ?_
              show own_Run p e below s _ _ _ (T76.setTop (mkF m 171 #[.val (.int i0), .val (.int i1), .val (.int i2), .val (.long j3), .second, .val (.int i4), .val (.int i5), .val (.int it), .val (.int bi), .val (.int si), .val (.int rr), .val (.long qq), .second, .val (.ref b54), .val (.int (1 : Int32)), .val (.long cd), .second, .val (.int (0 : Int32))] []))
              refine own_st (fun t k => XS.aload X76.here hx rfl (hb hby at_171) rfl rfl k) ?_
              show own_Run p e below s _ _ _ (T76.setTop (mkF m 173 #[.val (.int i0), .val (.int i1), .val (.int i2), .val (.long j3), .second, .val (.int i4), .val (.int i5), .val (.int it), .val (.int bi), .val (.int si), .val (.int rr), .val (.long qq), .second, .val (.ref b54), .val (.int (1 : Int32)), .val (.long cd), .second, .val (.int (0 : Int32))] [(.ref b54)]))
              refine own_st (fun t k => XS.iload X76.here hx rfl (hb hby at_173) rfl k) ?_
              show own_Run p e below s _ _ _ (T76.setTop (mkF m 175 #[.val (.int i0), .val (.int i1), .val (.int i2), .val (.long j3), .second, .val (.int i4), .val (.int i5), .val (.int it), .val (.int bi), .val (.int si), .val (.int rr), .val (.long qq), .second, .val (.ref b54), .val (.int (1 : Int32)), .val (.long cd), .second, .val (.int (0 : Int32))] [(.int i5), (.ref b54)]))
              refine own_callV X76 hx hZ (y := (⟨"com/example/nudge_rank/nudgerank/topic/LdaParameters", "isSample", "(I)Z"⟩ : MethodName)) (C := "com/example/nudge_rank/nudgerank/topic/LdaParameters") hown (hw _ (List.mem_of_getElem? (i := 41) rfl)) (hw _ (List.mem_of_getElem? (i := 42) rfl)) (hw _ (List.mem_of_getElem? (i := 44) rfl)) (hw _ (List.mem_of_getElem? (i := 43) rfl)) (hw _ (List.mem_of_getElem? (i := 45) rfl)) (hw _ (List.mem_of_getElem? (i := 4) rfl)) (by decide) hh76 (a := b54) Q60 (argsL := [(.int i5)]) (rest := []) (W := 0) (own_rm6 l Z a0 hw [] b54 i5 it bi si T59.heap n0 (Nat.le_trans Z0 K64.1) Q61 Q62 Q63 (own_ne0 r_si)) (by decide) (by decide) (by rw [hml]; rfl) (lenOf own_pd7 rfl) rfl (by exact Nat.le_of_eq rfl) (hb hby at_175) (by decide) (by decide) ?_
              intro T77 v77 L77 X77 hq77
              obtain ⟨rfl, N77q, hh77⟩ := hq77
              have N77 := Fr.app N76 N77q
              show own_Run p e below s _ _ _ (T77.setTop (mkF m 178 #[.val (.int i0), .val (.int i1), .val (.int i2), .val (.long j3), .second, .val (.int i4), .val (.int i5), .val (.int it), .val (.int bi), .val (.int si), .val (.int rr), .val (.long qq), .second, .val (.ref b54), .val (.int (1 : Int32)), .val (.long cd), .second, .val (.int (0 : Int32))] [(.int (if (bi < i5 ∧ ¬ (it < i5) ∧ ((it - i5) % si) = (0 : Int32)) then 1 else 0 : Int32))]))
              refine own_st (fun t k => XS.ifNo X77.here hx rfl (hb hby at_178) rfl ((if0 _ _).trans (teq (own_isX1 hX : (if (bi < i5 ∧ ¬ (it < i5) ∧ ((it - i5) % si) = (0 : Int32)) then 1 else 0 : Int32) = (0 : Int32))).2) k) ?_
              show own_Run p e below s _ _ _ (T77.setTop (mkF m 181 #[.val (.int i0), .val (.int i1), .val (.int i2), .val (.long j3), .second, .val (.int i4), .val (.int i5), .val (.int it), .val (.int bi), .val (.int si), .val (.int rr), .val (.long qq), .second, .val (.ref b54), .val (.int (1 : Int32)), .val (.long cd), .second, .val (.int (0 : Int32))] []))
              refine own_st (fun t k => XS.iconst X77.here hx rfl (hb hby at_181) k) ?_
              show own_Run p e below s _ _ _ (T77.setTop (mkF m 182 #[.val (.int i0), .val (.int i1), .val (.int i2), .val (.long j3), .second, .val (.int i4), .val (.int i5), .val (.int it), .val (.int bi), .val (.int si), .val (.int rr), .val (.long qq), .second, .val (.ref b54), .val (.int (1 : Int32)), .val (.long cd), .second, .val (.int (0 : Int32))] [(.int (1 : Int32))]))
              refine own_st (fun t k => XS.goto X77.here hx rfl (pc0 := 182) (pc' := 186) rfl (hb hby at_182) (by decide) (by decide) k) ?_
              show own_Run p e below s _ _ _ (T77.setTop (mkF m 186 #[.val (.int i0), .val (.int i1), .val (.int i2), .val (.long j3), .second, .val (.int i4), .val (.int i5), .val (.int it), .val (.int bi), .val (.int si), .val (.int rr), .val (.long qq), .second, .val (.ref b54), .val (.int (1 : Int32)), .val (.long cd), .second, .val (.int (0 : Int32))] [(.int (1 : Int32))]))
              refine own_st (fun t k => XS.istore X77.here hx rfl (hb hby at_186) rfl (l' := #[.val (.int i0), .val (.int i1), .val (.int i2), .val (.long j3), .second, .val (.int i4), .val (.int i5), .val (.int it), .val (.int bi), .val (.int si), .val (.int rr), .val (.long qq), .second, .val (.ref b54), .val (.int (1 : Int32)), .val (.long cd), .second, .val (.int (0 : Int32))]) rfl k) ?_
              show own_Run p e below s _ _ _ (T77.setTop (mkF m 188 #[.val (.int i0), .val (.int i1), .val (.int i2), .val (.long j3), .second, .val (.int i4), .val (.int i5), .val (.int it), .val (.int bi), .val (.int si), .val (.int rr), .val (.long qq), .second, .val (.ref b54), .val (.int (1 : Int32)), .val (.long cd), .second, .val (.int (0 : Int32))] []))
              refine own_st (fun t k => XS.iload X77.here hx rfl (hb hby at_188) rfl k) ?_
              show own_Run p e below s _ _ _ (T77.setTop (mkF m 190 #[.val (.int i0), .val (.int i1), .val (.int i2), .val (.long j3), .second, .val (.int i4), .val (.int i5), .val (.int it), .val (.int bi), .val (.int si), .val (.int rr), .val (.long qq), .second, .val (.ref b54), .val (.int (1 : Int32)), .val (.long cd), .second, .val (.int (0 : Int32))] [(.int (1 : Int32))]))
              exact own_ret X77 hx hlk (t := .boolean) hret rfl (Or.inl ⟨rfl, by simp, _, rfl⟩) (hb hby at_190) (by decide) (by decide) ⟨rfl, N77⟩
            · skip
              refine own_st (fun t k => XS.icmpNo X76.here hx rfl (hb hby at_156) rfl (flt (hX : ¬ (it < i5))).2.2.1 k) ?_
              show own_Run p e below s _ _ _ (T76.setTop (mkF m 159 #[.val (.int i0), .val (.int i1), .val (.int i2), .val (.long j3), .second, .val (.int i4), .val (.int i5), .val (.int it), .val (.int bi), .val (.int si), .val (.int rr), .val (.long qq), .second, .val (.ref b54), .val (.int (1 : Int32)), .val (.long cd), .second, .val (.int (0 : Int32))] []))
              refine own_st (fun t k => XS.iload X76.here hx rfl (hb hby at_159) rfl k) ?_
              show own_Run p e below s _ _ _ (T76.setTop (mkF m 161 #[.val (.int i0), .val (.int i1), .val (.int i2), .val (.long j3), .second, .val (.int i4), .val (.int i5), .val (.int it), .val (.int bi), .val (.int si), .val (.int rr), .val (.long qq), .second, .val (.ref b54), .val (.int (1 : Int32)), .val (.long cd), .second, .val (.int (0 : Int32))] [(.int i5)]))
              refine own_st (fun t k => XS.iload X76.here hx rfl (hb hby at_161) rfl k) ?_
              show own_Run p e below s _ _ _ (T76.setTop (mkF m 163 #[.val (.int i0), .val (.int i1), .val (.int i2), .val (.long j3), .second, .val (.int i4), .val (.int i5), .val (.int it), .val (.int bi), .val (.int si), .val (.int rr), .val (.long qq), .second, .val (.ref b54), .val (.int (1 : Int32)), .val (.long cd), .second, .val (.int (0 : Int32))] [(.int bi), (.int i5)]))
              by_cases hY : bi < i5
              · skip
                refine own_st (fun t k => XS.icmpYes X76.here hx rfl (pc0 := 163) (pc' := 188) rfl (hb hby at_163) rfl (tlt (hY : bi < i5)).2.2.1 (by decide) (by decide) k) ?_
                show own_Run p e below s _ _ _ (T76.setTop (mkF m 188 #[.val (.int i0), .val (.int i1), .val (.int i2), .val (.long j3), .second, .val (.int i4), .val (.int i5), .val (.int it), .val (.int bi), .val (.int si), .val (.int rr), .val (.long qq), .second, .val (.ref b54), .val (.int (1 : Int32)), .val (.long cd), .second, .val (.int (0 : Int32))] []))
                refine own_st (fun t k => XS.iload X76.here hx rfl (hb hby at_188) rfl k) ?_
                show own_Run p e below s _ _ _ (T76.setTop (mkF m 190 #[.val (.int i0), .val (.int i1), .val (.int i2), .val (.long j3), .second, .val (.int i4), .val (.int i5), .val (.int it), .val (.int bi), .val (.int si), .val (.int rr), .val (.long qq), .second, .val (.ref b54), .val (.int (1 : Int32)), .val (.long cd), .second, .val (.int (0 : Int32))] [(.int (1 : Int32))]))
                exact own_ret X76 hx hlk (t := .boolean) hret rfl (Or.inl ⟨rfl, by simp, _, rfl⟩) (hb hby at_190) (by decide) (by decide) ⟨rfl, N76⟩
              · skip
                refine own_st (fun t k => XS.icmpNo X76.here hx rfl (hb hby at_163) rfl (flt (hY : ¬ (bi < i5))).2.2.1 k) ?_
                show own_Run p e below s _ _ _ (T76.setTop (mkF m 166 #[.val (.int i0), .val (.int i1), .val (.int i2), .val (.long j3), .second, .val (.int i4), .val (.int i5), .val (.int it), .val (.int bi), .val (.int si), .val (.int rr), .val (.long qq), .second, .val (.ref b54), .val (.int (1 : Int32)), .val (.long cd), .second, .val (.int (0 : Int32))] []))
                refine own_st (fun t k => XS.iload X76.here hx rfl (hb hby at_166) rfl k) ?_
                show own_Run p e below s _ _ _ (T76.setTop (mkF m 168 #[.val (.int i0), .val (.int i1), .val (.int i2), .val (.long j3), .second, .val (.int i4), .val (.int i5), .val (.int it), .val (.int bi), .val (.int si), .val (.int rr), .val (.long qq), .second, .val (.ref b54), .val (.int (1 : Int32)), .val (.long cd), .second, .val (.int (0 : Int32))] [(.int (1 : Int32))]))
                refine own_st (fun t k => XS.ifNo X76.here hx rfl (hb hby at_168) rfl ((if0 _ _).trans (feq (by decide : ¬ ((1 : Int32) = (0 : Int32)))).1) k) ?_
                show own_Run p e below s _ _ _ (T76.setTop (mkF m 171 #[.val (.int i0), .val (.int i1), .val (.int i2), .val (.long j3), .second, .val (.int i4), .val (.int i5), .val (.int it), .val (.int bi), .val (.int si), .val (.int rr), .val (.long qq), .second, .val (.ref b54), .val (.int (1 : Int32)), .val (.long cd), .second, .val (.int (0 : Int32))] []))
                refine own_st (fun t k => XS.aload X76.here hx rfl (hb hby at_171) rfl rfl k) ?_
                show own_Run p e below s _ _ _ (T76.setTop (mkF m 173 #[.val (.int i0), .val (.int i1), .val (.int i2), .val (.long j3), .second, .val (.int i4), .val (.int i5), .val (.int it), .val (.int bi), .val (.int si), .val (.int rr), .val (.long qq), .second, .val (.ref b54), .val (.int (1 : Int32)), .val (.long cd), .second, .val (.int (0 : Int32))] [(.ref b54)]))
                refine own_st (fun t k => XS.iload X76.here hx rfl (hb hby at_173) rfl k) ?_
                show own_Run p e below s _ _ _ (T76.setTop (mkF m 175 #[.val (.int i0), .val (.int i1), .val (.int i2), .val (.long j3), .second, .val (.int i4), .val (.int i5), .val (.int it), .val (.int bi), .val (.int si), .val (.int rr), .val (.long qq), .second, .val (.ref b54), .val (.int (1 : Int32)), .val (.long cd), .second, .val (.int (0 : Int32))] [(.int i5), (.ref b54)]))
                refine own_callV X76 hx hZ (y := (⟨"com/example/nudge_rank/nudgerank/topic/LdaParameters", "isSample", "(I)Z"⟩ : MethodName)) (C := "com/example/nudge_rank/nudgerank/topic/LdaParameters") hown (hw _ (List.mem_of_getElem? (i := 41) rfl)) (hw _ (List.mem_of_getElem? (i := 42) rfl)) (hw _ (List.mem_of_getElem? (i := 44) rfl)) (hw _ (List.mem_of_getElem? (i := 43) rfl)) (hw _ (List.mem_of_getElem? (i := 45) rfl)) (hw _ (List.mem_of_getElem? (i := 4) rfl)) (by decide) hh76 (a := b54) Q60 (argsL := [(.int i5)]) (rest := []) (W := 0) (own_rm6 l Z a0 hw [] b54 i5 it bi si T59.heap n0 (Nat.le_trans Z0 K64.1) Q61 Q62 Q63 (own_ne0 r_si)) (by decide) (by decide) (by rw [hml]; rfl) (lenOf own_pd7 rfl) rfl (by exact Nat.le_of_eq rfl) (hb hby at_175) (by decide) (by decide) ?_
                intro T78 v78 L78 X78 hq78
                obtain ⟨rfl, N78q, hh78⟩ := hq78
                have N78 := Fr.app N76 N78q
                show own_Run p e below s _ _ _ (T78.setTop (mkF m 178 #[.val (.int i0), .val (.int i1), .val (.int i2), .val (.long j3), .second, .val (.int i4), .val (.int i5), .val (.int it), .val (.int bi), .val (.int si), .val (.int rr), .val (.long qq), .second, .val (.ref b54), .val (.int (1 : Int32)), .val (.long cd), .second, .val (.int (0 : Int32))] [(.int (if (bi < i5 ∧ ¬ (it < i5) ∧ ((it - i5) % si) = (0 : Int32)) then 1 else 0 : Int32))]))
                refine own_st (fun t k => XS.ifNo X78.here hx rfl (hb hby at_178) rfl ((if0 _ _).trans (teq (own_isX2 hY : (if (bi < i5 ∧ ¬ (it < i5) ∧ ((it - i5) % si) = (0 : Int32)) then 1 else 0 : Int32) = (0 : Int32))).2) k) ?_
                show own_Run p e below s _ _ _ (T78.setTop (mkF m 181 #[.val (.int i0), .val (.int i1), .val (.int i2), .val (.long j3), .second, .val (.int i4), .val (.int i5), .val (.int it), .val (.int bi), .val (.int si), .val (.int rr), .val (.long qq), .second, .val (.ref b54), .val (.int (1 : Int32)), .val (.long cd), .second, .val (.int (0 : Int32))] []))
                refine own_st (fun t k => XS.iconst X78.here hx rfl (hb hby at_181) k) ?_
                show own_Run p e below s _ _ _ (T78.setTop (mkF m 182 #[.val (.int i0), .val (.int i1), .val (.int i2), .val (.long j3), .second, .val (.int i4), .val (.int i5), .val (.int it), .val (.int bi), .val (.int si), .val (.int rr), .val (.long qq), .second, .val (.ref b54), .val (.int (1 : Int32)), .val (.long cd), .second, .val (.int (0 : Int32))] [(.int (1 : Int32))]))
                refine own_st (fun t k => XS.goto X78.here hx rfl (pc0 := 182) (pc' := 186) rfl (hb hby at_182) (by decide) (by decide) k) ?_
                show own_Run p e below s _ _ _ (T78.setTop (mkF m 186 #[.val (.int i0), .val (.int i1), .val (.int i2), .val (.long j3), .second, .val (.int i4), .val (.int i5), .val (.int it), .val (.int bi), .val (.int si), .val (.int rr), .val (.long qq), .second, .val (.ref b54), .val (.int (1 : Int32)), .val (.long cd), .second, .val (.int (0 : Int32))] [(.int (1 : Int32))]))
                refine own_st (fun t k => XS.istore X78.here hx rfl (hb hby at_186) rfl (l' := #[.val (.int i0), .val (.int i1), .val (.int i2), .val (.long j3), .second, .val (.int i4), .val (.int i5), .val (.int it), .val (.int bi), .val (.int si), .val (.int rr), .val (.long qq), .second, .val (.ref b54), .val (.int (1 : Int32)), .val (.long cd), .second, .val (.int (0 : Int32))]) rfl k) ?_
                show own_Run p e below s _ _ _ (T78.setTop (mkF m 188 #[.val (.int i0), .val (.int i1), .val (.int i2), .val (.long j3), .second, .val (.int i4), .val (.int i5), .val (.int it), .val (.int bi), .val (.int si), .val (.int rr), .val (.long qq), .second, .val (.ref b54), .val (.int (1 : Int32)), .val (.long cd), .second, .val (.int (0 : Int32))] []))
                refine own_st (fun t k => XS.iload X78.here hx rfl (hb hby at_188) rfl k) ?_
                show own_Run p e below s _ _ _ (T78.setTop (mkF m 190 #[.val (.int i0), .val (.int i1), .val (.int i2), .val (.long j3), .second, .val (.int i4), .val (.int i5), .val (.int it), .val (.int bi), .val (.int si), .val (.int rr), .val (.long qq), .second, .val (.ref b54), .val (.int (1 : Int32)), .val (.long cd), .second, .val (.int (0 : Int32))] [(.int (1 : Int32))]))
                exact own_ret X78 hx hlk (t := .boolean) hret rfl (Or.inl ⟨rfl, by simp, _, rfl⟩) (hb hby at_190) (by decide) (by decide) ⟨rfl, N78⟩
      · skip
        refine own_st (fun t k => XS.ifYes X59.here hx rfl (pc0 := 106) (pc' := 129) rfl (hb hby at_106) rfl ((if0 _ _).trans (feq (hR : ¬ (rr = (0 : Int32)))).2) (by decide) (by decide) k) ?_
        show own_Run p e below s _ _ _ (T59.setTop (mkF m 129 #[.val (.int i0), .val (.int i1), .val (.int i2), .val (.long j3), .second, .val (.int i4), .val (.int i5), .val (.int it), .val (.int bi), .val (.int si), .val (.int rr), .val (.long qq), .second, .val (.ref b54), .val (.int (1 : Int32)), .val (.long cd), .second, .unset] []))
        refine own_st (fun t k => XS.iconst X59.here hx rfl (hb hby at_129) k) ?_
        show own_Run p e below s _ _ _ (T59.setTop (mkF m 130 #[.val (.int i0), .val (.int i1), .val (.int i2), .val (.long j3), .second, .val (.int i4), .val (.int i5), .val (.int it), .val (.int bi), .val (.int si), .val (.int rr), .val (.long qq), .second, .val (.ref b54), .val (.int (1 : Int32)), .val (.long cd), .second, .unset] [(.int (0 : Int32))]))
        refine own_st (fun t k => XS.istore X59.here hx rfl (hb hby at_130) rfl (l' := #[.val (.int i0), .val (.int i1), .val (.int i2), .val (.long j3), .second, .val (.int i4), .val (.int i5), .val (.int it), .val (.int bi), .val (.int si), .val (.int rr), .val (.long qq), .second, .val (.ref b54), .val (.int (1 : Int32)), .val (.long cd), .second, .val (.int (0 : Int32))]) rfl k) ?_
        show own_Run p e below s _ _ _ (T59.setTop (mkF m 132 #[.val (.int i0), .val (.int i1), .val (.int i2), .val (.long j3), .second, .val (.int i4), .val (.int i5), .val (.int it), .val (.int bi), .val (.int si), .val (.int rr), .val (.long qq), .second, .val (.ref b54), .val (.int (1 : Int32)), .val (.long cd), .second, .val (.int (0 : Int32))] []))
        refine own_st (fun t k => XS.aload X59.here hx rfl (hb hby at_132) rfl rfl k) ?_
        show own_Run p e below s _ _ _ (T59.setTop (mkF m 134 #[.val (.int i0), .val (.int i1), .val (.int i2), .val (.long j3), .second, .val (.int i4), .val (.int i5), .val (.int it), .val (.int bi), .val (.int si), .val (.int rr), .val (.long qq), .second, .val (.ref b54), .val (.int (1 : Int32)), .val (.long cd), .second, .val (.int (0 : Int32))] [(.ref b54)]))
        refine own_st (fun t k => XS.lload X59.here hx rfl (hb hby at_134) rfl k) ?_
        show own_Run p e below s _ _ _ (T59.setTop (mkF m 136 #[.val (.int i0), .val (.int i1), .val (.int i2), .val (.long j3), .second, .val (.int i4), .val (.int i5), .val (.int it), .val (.int bi), .val (.int si), .val (.int rr), .val (.long qq), .second, .val (.ref b54), .val (.int (1 : Int32)), .val (.long cd), .second, .val (.int (0 : Int32))] [(.long cd), (.ref b54)]))
        refine own_st (fun t k => XS.l2i X59.here hx rfl (hb hby at_136) rfl k) ?_
        show own_Run p e below s _ _ _ (T59.setTop (mkF m 137 #[.val (.int i0), .val (.int i1), .val (.int i2), .val (.long j3), .second, .val (.int i4), .val (.int i5), .val (.int it), .val (.int bi), .val (.int si), .val (.int rr), .val (.long qq), .second, .val (.ref b54), .val (.int (1 : Int32)), .val (.long cd), .second, .val (.int (0 : Int32))] [(.int (cd.toInt32)), (.ref b54)]))
        refine own_callV X59 hx hZ (y := (⟨"com/example/nudge_rank/nudgerank/topic/LdaParameters", "isSample", "(I)Z"⟩ : MethodName)) (C := "com/example/nudge_rank/nudgerank/topic/LdaParameters") hown (hw _ (List.mem_of_getElem? (i := 41) rfl)) (hw _ (List.mem_of_getElem? (i := 42) rfl)) (hw _ (List.mem_of_getElem? (i := 44) rfl)) (hw _ (List.mem_of_getElem? (i := 43) rfl)) (hw _ (List.mem_of_getElem? (i := 45) rfl)) (hw _ (List.mem_of_getElem? (i := 4) rfl)) (by decide) rfl (a := b54) Q60 (argsL := [(.int (cd.toInt32))]) (rest := []) (W := 0) (own_rm6 l Z a0 hw [] b54 (cd.toInt32) it bi si T59.heap n0 (Nat.le_trans Z0 K64.1) Q61 Q62 Q63 (own_ne0 r_si)) (by decide) (by decide) (by rw [hml]; rfl) (lenOf own_pd7 rfl) rfl (by exact Nat.le_of_eq rfl) (hb hby at_137) (by decide) (by decide) ?_
        intro T79 v79 L79 X79 hq79
        obtain ⟨rfl, N79q, hh79⟩ := hq79
        have N79 := Fr.app N59 N79q
        show own_Run p e below s _ _ _ (T79.setTop (mkF m 140 #[.val (.int i0), .val (.int i1), .val (.int i2), .val (.long j3), .second, .val (.int i4), .val (.int i5), .val (.int it), .val (.int bi), .val (.int si), .val (.int rr), .val (.long qq), .second, .val (.ref b54), .val (.int (1 : Int32)), .val (.long cd), .second, .val (.int (0 : Int32))] [(.int (if (bi < (cd.toInt32) ∧ ¬ (it < (cd.toInt32)) ∧ ((it - (cd.toInt32)) % si) = (0 : Int32)) then 1 else 0 : Int32))]))
        have q1 := own_isP r_it r_bi r_si r_rr r_qq r_cd hL hH
        refine own_st (fun t k => XS.iload X79.here hx rfl (hb hby at_140) rfl k) ?_
        show own_Run p e below s _ _ _ (T79.setTop (mkF m 142 #[.val (.int i0), .val (.int i1), .val (.int i2), .val (.long j3), .second, .val (.int i4), .val (.int i5), .val (.int it), .val (.int bi), .val (.int si), .val (.int rr), .val (.long qq), .second, .val (.ref b54), .val (.int (1 : Int32)), .val (.long cd), .second, .val (.int (0 : Int32))] [(.int (0 : Int32)), (.int (if (bi < (cd.toInt32) ∧ ¬ (it < (cd.toInt32)) ∧ ((it - (cd.toInt32)) % si) = (0 : Int32)) then 1 else 0 : Int32))]))
        refine own_st (fun t k => XS.icmpNo X79.here hx rfl (hb hby at_142) rfl (teq (own_isB q1 hR : (if (bi < (cd.toInt32) ∧ ¬ (it < (cd.toInt32)) ∧ ((it - (cd.toInt32)) % si) = (0 : Int32)) then 1 else 0 : Int32) = (0 : Int32))).2 k) ?_
        show own_Run p e below s _ _ _ (T79.setTop (mkF m 145 #[.val (.int i0), .val (.int i1), .val (.int i2), .val (.long j3), .second, .val (.int i4), .val (.int i5), .val (.int it), .val (.int bi), .val (.int si), .val (.int rr), .val (.long qq), .second, .val (.ref b54), .val (.int (1 : Int32)), .val (.long cd), .second, .val (.int (0 : Int32))] []))
        refine own_st (fun t k => XS.iconst X79.here hx rfl (hb hby at_145) k) ?_
        show own_Run p e below s _ _ _ (T79.setTop (mkF m 146 #[.val (.int i0), .val (.int i1), .val (.int i2), .val (.long j3), .second, .val (.int i4), .val (.int i5), .val (.int it), .val (.int bi), .val (.int si), .val (.int rr), .val (.long qq), .second, .val (.ref b54), .val (.int (1 : Int32)), .val (.long cd), .second, .val (.int (0 : Int32))] [(.int (1 : Int32))]))
        refine own_st (fun t k => XS.goto X79.here hx rfl (pc0 := 146) (pc' := 150) rfl (hb hby at_146) (by decide) (by decide) k) ?_
        show own_Run p e below s _ _ _ (T79.setTop (mkF m 150 #[.val (.int i0), .val (.int i1), .val (.int i2), .val (.long j3), .second, .val (.int i4), .val (.int i5), .val (.int it), .val (.int bi), .val (.int si), .val (.int rr), .val (.long qq), .second, .val (.ref b54), .val (.int (1 : Int32)), .val (.long cd), .second, .val (.int (0 : Int32))] [(.int (1 : Int32))]))
        refine own_st (fun t k => XS.istore X79.here hx rfl (hb hby at_150) rfl (l' := #[.val (.int i0), .val (.int i1), .val (.int i2), .val (.long j3), .second, .val (.int i4), .val (.int i5), .val (.int it), .val (.int bi), .val (.int si), .val (.int rr), .val (.long qq), .second, .val (.ref b54), .val (.int (1 : Int32)), .val (.long cd), .second, .val (.int (0 : Int32))]) rfl k) ?_
        show own_Run p e below s _ _ _ (T79.setTop (mkF m 152 #[.val (.int i0), .val (.int i1), .val (.int i2), .val (.long j3), .second, .val (.int i4), .val (.int i5), .val (.int it), .val (.int bi), .val (.int si), .val (.int rr), .val (.long qq), .second, .val (.ref b54), .val (.int (1 : Int32)), .val (.long cd), .second, .val (.int (0 : Int32))] []))
        refine own_st (fun t k => XS.iload X79.here hx rfl (hb hby at_152) rfl k) ?_
        show own_Run p e below s _ _ _ (T79.setTop (mkF m 154 #[.val (.int i0), .val (.int i1), .val (.int i2), .val (.long j3), .second, .val (.int i4), .val (.int i5), .val (.int it), .val (.int bi), .val (.int si), .val (.int rr), .val (.long qq), .second, .val (.ref b54), .val (.int (1 : Int32)), .val (.long cd), .second, .val (.int (0 : Int32))] [(.int i5)]))
        refine own_st (fun t k => XS.iload X79.here hx rfl (hb hby at_154) rfl k) ?_
        show own_Run p e below s _ _ _ (T79.setTop (mkF m 156 #[.val (.int i0), .val (.int i1), .val (.int i2), .val (.long j3), .second, .val (.int i4), .val (.int i5), .val (.int it), .val (.int bi), .val (.int si), .val (.int rr), .val (.long qq), .second, .val (.ref b54), .val (.int (1 : Int32)), .val (.long cd), .second, .val (.int (0 : Int32))] [(.int it), (.int i5)]))
        by_cases hX : it < i5
        · skip
          refine own_st (fun t k => XS.icmpYes X79.here hx rfl (pc0 := 156) (pc' := 166) rfl (hb hby at_156) rfl (tlt (hX : it < i5)).2.2.1 (by decide) (by decide) k) ?_
          show own_Run p e below s _ _ _ (T79.setTop (mkF m 166 #[.val (.int i0), .val (.int i1), .val (.int i2), .val (.long j3), .second, .val (.int i4), .val (.int i5), .val (.int it), .val (.int bi), .val (.int si), .val (.int rr), .val (.long qq), .second, .val (.ref b54), .val (.int (1 : Int32)), .val (.long cd), .second, .val (.int (0 : Int32))] []))
          refine own_st (fun t k => XS.iload X79.here hx rfl (hb hby at_166) rfl k) ?_
          show own_Run p e below s _ _ _ (T79.setTop (mkF m 168 #[.val (.int i0), .val (.int i1), .val (.int i2), .val (.long j3), .second, .val (.int i4), .val (.int i5), .val (.int it), .val (.int bi), .val (.int si), .val (.int rr), .val (.long qq), .second, .val (.ref b54), .val (.int (1 : Int32)), .val (.long cd), .second, .val (.int (0 : Int32))] [(.int (1 : Int32))]))
          refine own_st (fun t k => XS.ifNo X79.here hx rfl (hb hby at_168) rfl ((if0 _ _).trans (feq (by decide : ¬ ((1 : Int32) = (0 : Int32)))).1) k) ?_
          show own_Run p e below s _ _ _ (T79.setTop (mkF m 171 #[.val (.int i0), .val (.int i1), .val (.int i2), .val (.long j3), .second, .val (.int i4), .val (.int i5), .val (.int it), .val (.int bi), .val (.int si), .val (.int rr), .val (.long qq), .second, .val (.ref b54), .val (.int (1 : Int32)), .val (.long cd), .second, .val (.int (0 : Int32))] []))
          refine own_st (fun t k => XS.aload X79.here hx rfl (hb hby at_171) rfl rfl k) ?_
          show own_Run p e below s _ _ _ (T79.setTop (mkF m 173 #[.val (.int i0), .val (.int i1), .val (.int i2), .val (.long j3), .second, .val (.int i4), .val (.int i5), .val (.int it), .val (.int bi), .val (.int si), .val (.int rr), .val (.long qq), .second, .val (.ref b54), .val (.int (1 : Int32)), .val (.long cd), .second, .val (.int (0 : Int32))] [(.ref b54)]))
          refine own_st (fun t k => XS.iload X79.here hx rfl (hb hby at_173) rfl k) ?_
          show own_Run p e below s _ _ _ (T79.setTop (mkF m 175 #[.val (.int i0), .val (.int i1), .val (.int i2), .val (.long j3), .second, .val (.int i4), .val (.int i5), .val (.int it), .val (.int bi), .val (.int si), .val (.int rr), .val (.long qq), .second, .val (.ref b54), .val (.int (1 : Int32)), .val (.long cd), .second, .val (.int (0 : Int32))] [(.int i5), (.ref b54)]))
          refine own_callV X79 hx hZ (y := (⟨"com/example/nudge_rank/nudgerank/topic/LdaParameters", "isSample", "(I)Z"⟩ : MethodName)) (C := "com/example/nudge_rank/nudgerank/topic/LdaParameters") hown (hw _ (List.mem_of_getElem? (i := 41) rfl)) (hw _ (List.mem_of_getElem? (i := 42) rfl)) (hw _ (List.mem_of_getElem? (i := 44) rfl)) (hw _ (List.mem_of_getElem? (i := 43) rfl)) (hw _ (List.mem_of_getElem? (i := 45) rfl)) (hw _ (List.mem_of_getElem? (i := 4) rfl)) (by decide) hh79 (a := b54) Q60 (argsL := [(.int i5)]) (rest := []) (W := 0) (own_rm6 l Z a0 hw [] b54 i5 it bi si T59.heap n0 (Nat.le_trans Z0 K64.1) Q61 Q62 Q63 (own_ne0 r_si)) (by decide) (by decide) (by rw [hml]; rfl) (lenOf own_pd7 rfl) rfl (by exact Nat.le_of_eq rfl) (hb hby at_175) (by decide) (by decide) ?_
          intro T80 v80 L80 X80 hq80
          obtain ⟨rfl, N80q, hh80⟩ := hq80
          have N80 := Fr.app N79 N80q
          show own_Run p e below s _ _ _ (T80.setTop (mkF m 178 #[.val (.int i0), .val (.int i1), .val (.int i2), .val (.long j3), .second, .val (.int i4), .val (.int i5), .val (.int it), .val (.int bi), .val (.int si), .val (.int rr), .val (.long qq), .second, .val (.ref b54), .val (.int (1 : Int32)), .val (.long cd), .second, .val (.int (0 : Int32))] [(.int (if (bi < i5 ∧ ¬ (it < i5) ∧ ((it - i5) % si) = (0 : Int32)) then 1 else 0 : Int32))]))
          refine own_st (fun t k => XS.ifNo X80.here hx rfl (hb hby at_178) rfl ((if0 _ _).trans (teq (own_isX1 hX : (if (bi < i5 ∧ ¬ (it < i5) ∧ ((it - i5) % si) = (0 : Int32)) then 1 else 0 : Int32) = (0 : Int32))).2) k) ?_
          show own_Run p e below s _ _ _ (T80.setTop (mkF m 181 #[.val (.int i0), .val (.int i1), .val (.int i2), .val (.long j3), .second, .val (.int i4), .val (.int i5), .val (.int it), .val (.int bi), .val (.int si), .val (.int rr), .val (.long qq), .second, .val (.ref b54), .val (.int (1 : Int32)), .val (.long cd), .second, .val (.int (0 : Int32))] []))
          refine own_st (fun t k => XS.iconst X80.here hx rfl (hb hby at_181) k) ?_
          show own_Run p e below s _ _ _ (T80.setTop (mkF m 182 #[.val (.int i0), .val (.int i1), .val (.int i2), .val (.long j3), .second, .val (.int i4), .val (.int i5), .val (.int it), .val (.int bi), .val (.int si), .val (.int rr), .val (.long qq), .second, .val (.ref b54), .val (.int (1 : Int32)), .val (.long cd), .second, .val (.int (0 : Int32))] [(.int (1 : Int32))]))
          refine own_st (fun t k => XS.goto X80.here hx rfl (pc0 := 182) (pc' := 186) rfl (hb hby at_182) (by decide) (by decide) k) ?_
          show own_Run p e below s _ _ _ (T80.setTop (mkF m 186 #[.val (.int i0), .val (.int i1), .val (.int i2), .val (.long j3), .second, .val (.int i4), .val (.int i5), .val (.int it), .val (.int bi), .val (.int si), .val (.int rr), .val (.long qq), .second, .val (.ref b54), .val (.int (1 : Int32)), .val (.long cd), .second, .val (.int (0 : Int32))] [(.int (1 : Int32))]))
          refine own_st (fun t k => XS.istore X80.here hx rfl (hb hby at_186) rfl (l' := #[.val (.int i0), .val (.int i1), .val (.int i2), .val (.long j3), .second, .val (.int i4), .val (.int i5), .val (.int it), .val (.int bi), .val (.int si), .val (.int rr), .val (.long qq), .second, .val (.ref b54), .val (.int (1 : Int32)), .val (.long cd), .second, .val (.int (0 : Int32))]) rfl k) ?_
          show own_Run p e below s _ _ _ (T80.setTop (mkF m 188 #[.val (.int i0), .val (.int i1), .val (.int i2), .val (.long j3), .second, .val (.int i4), .val (.int i5), .val (.int it), .val (.int bi), .val (.int si), .val (.int rr), .val (.long qq), .second, .val (.ref b54), .val (.int (1 : Int32)), .val (.long cd), .second, .val (.int (0 : Int32))] []))
          refine own_st (fun t k => XS.iload X80.here hx rfl (hb hby at_188) rfl k) ?_
          show own_Run p e below s _ _ _ (T80.setTop (mkF m 190 #[.val (.int i0), .val (.int i1), .val (.int i2), .val (.long j3), .second, .val (.int i4), .val (.int i5), .val (.int it), .val (.int bi), .val (.int si), .val (.int rr), .val (.long qq), .second, .val (.ref b54), .val (.int (1 : Int32)), .val (.long cd), .second, .val (.int (0 : Int32))] [(.int (1 : Int32))]))
          exact own_ret X80 hx hlk (t := .boolean) hret rfl (Or.inl ⟨rfl, by simp, _, rfl⟩) (hb hby at_190) (by decide) (by decide) ⟨rfl, N80⟩
        · skip
          refine own_st (fun t k => XS.icmpNo X79.here hx rfl (hb hby at_156) rfl (flt (hX : ¬ (it < i5))).2.2.1 k) ?_
          show own_Run p e below s _ _ _ (T79.setTop (mkF m 159 #[.val (.int i0), .val (.int i1), .val (.int i2), .val (.long j3), .second, .val (.int i4), .val (.int i5), .val (.int it), .val (.int bi), .val (.int si), .val (.int rr), .val (.long qq), .second, .val (.ref b54), .val (.int (1 : Int32)), .val (.long cd), .second, .val (.int (0 : Int32))] []))
          refine own_st (fun t k => XS.iload X79.here hx rfl (hb hby at_159) rfl k) ?_
          show own_Run p e below s _ _ _ (T79.setTop (mkF m 161 #[.val (.int i0), .val (.int i1), .val (.int i2), .val (.long j3), .second, .val (.int i4), .val (.int i5), .val (.int it), .val (.int bi), .val (.int si), .val (.int rr), .val (.long qq), .second, .val (.ref b54), .val (.int (1 : Int32)), .val (.long cd), .second, .val (.int (0 : Int32))] [(.int i5)]))
          refine own_st (fun t k => XS.iload X79.here hx rfl (hb hby at_161) rfl k) ?_
          show own_Run p e below s _ _ _ (T79.setTop (mkF m 163 #[.val (.int i0), .val (.int i1), .val (.int i2), .val (.long j3), .second, .val (.int i4), .val (.int i5), .val (.int it), .val (.int bi), .val (.int si), .val (.int rr), .val (.long qq), .second, .val (.ref b54), .val (.int (1 : Int32)), .val (.long cd), .second, .val (.int (0 : Int32))] [(.int bi), (.int i5)]))
          by_cases hY : bi < i5
          · skip
            refine own_st (fun t k => XS.icmpYes X79.here hx rfl (pc0 := 163) (pc' := 188) rfl (hb hby at_163) rfl (tlt (hY : bi < i5)).2.2.1 (by decide) (by decide) k) ?_
            show own_Run p e below s _ _ _ (T79.setTop (mkF m 188 #[.val (.int i0), .val (.int i1), .val (.int i2), .val (.long j3), .second, .val (.int i4), .val (.int i5), .val (.int it), .val (.int bi), .val (.int si), .val (.int rr), .val (.long qq), .second, .val (.ref b54), .val (.int (1 : Int32)), .val (.long cd), .second, .val (.int (0 : Int32))] []))
            refine own_st (fun t k => XS.iload X79.here hx rfl (hb hby at_188) rfl k) ?_
            show own_Run p e below s _ _ _ (T79.setTop (mkF m 190 #[.val (.int i0), .val (.int i1), .val (.int i2), .val (.long j3), .second, .val (.int i4), .val (.int i5), .val (.int it), .val (.int bi), .val (.int si), .val (.int rr), .val (.long qq), .second, .val (.ref b54), .val (.int (1 : Int32)), .val (.long cd), .second, .val (.int (0 : Int32))] [(.int (1 : Int32))]))
            exact own_ret X79 hx hlk (t := .boolean) hret rfl (Or.inl ⟨rfl, by simp, _, rfl⟩) (hb hby at_190) (by decide) (by decide) ⟨rfl, N79⟩
          · skip
            refine own_st (fun t k => XS.icmpNo X79.here hx rfl (hb hby at_163) rfl (flt (hY : ¬ (bi < i5))).2.2.1 k) ?_
            show own_Run p e below s _ _ _ (T79.setTop (mkF m 166 #[.val (.int i0), .val (.int i1), .val (.int i2), .val (.long j3), .second, .val (.int i4), .val (.int i5), .val (.int it), .val (.int bi), .val (.int si), .val (.int rr), .val (.long qq), .second, .val (.ref b54), .val (.int (1 : Int32)), .val (.long cd), .second, .val (.int (0 : Int32))] []))
            refine own_st (fun t k => XS.iload X79.here hx rfl (hb hby at_166) rfl k) ?_
            show own_Run p e below s _ _ _ (T79.setTop (mkF m 168 #[.val (.int i0), .val (.int i1), .val (.int i2), .val (.long j3), .second, .val (.int i4), .val (.int i5), .val (.int it), .val (.int bi), .val (.int si), .val (.int rr), .val (.long qq), .second, .val (.ref b54), .val (.int (1 : Int32)), .val (.long cd), .second, .val (.int (0 : Int32))] [(.int (1 : Int32))]))
            refine own_st (fun t k => XS.ifNo X79.here hx rfl (hb hby at_168) rfl ((if0 _ _).trans (feq (by decide : ¬ ((1 : Int32) = (0 : Int32)))).1) k) ?_
            show own_Run p e below s _ _ _ (T79.setTop (mkF m 171 #[.val (.int i0), .val (.int i1), .val (.int i2), .val (.long j3), .second, .val (.int i4), .val (.int i5), .val (.int it), .val (.int bi), .val (.int si), .val (.int rr), .val (.long qq), .second, .val (.ref b54), .val (.int (1 : Int32)), .val (.long cd), .second, .val (.int (0 : Int32))] []))
            refine own_st (fun t k => XS.aload X79.here hx rfl (hb hby at_171) rfl rfl k) ?_
            show own_Run p e below s _ _ _ (T79.setTop (mkF m 173 #[.val (.int i0), .val (.int i1), .val (.int i2), .val (.long j3), .second, .val (.int i4), .val (.int i5), .val (.int it), .val (.int bi), .val (.int si), .val (.int rr), .val (.long qq), .second, .val (.ref b54), .val (.int (1 : Int32)), .val (.long cd), .second, .val (.int (0 : Int32))] [(.ref b54)]))
            refine own_st (fun t k => XS.iload X79.here hx rfl (hb hby at_173) rfl k) ?_
            show own_Run p e below s _ _ _ (T79.setTop (mkF m 175 #[.val (.int i0), .val (.int i1), .val (.int i2), .val (.long j3), .second, .val (.int i4), .val (.int i5), .val (.int it), .val (.int bi), .val (.int si), .val (.int rr), .val (.long qq), .second, .val (.ref b54), .val (.int (1 : Int32)), .val (.long cd), .second, .val (.int (0 : Int32))] [(.int i5), (.ref b54)]))
            refine own_callV X79 hx hZ (y := (⟨"com/example/nudge_rank/nudgerank/topic/LdaParameters", "isSample", "(I)Z"⟩ : MethodName)) (C := "com/example/nudge_rank/nudgerank/topic/LdaParameters") hown (hw _ (List.mem_of_getElem? (i := 41) rfl)) (hw _ (List.mem_of_getElem? (i := 42) rfl)) (hw _ (List.mem_of_getElem? (i := 44) rfl)) (hw _ (List.mem_of_getElem? (i := 43) rfl)) (hw _ (List.mem_of_getElem? (i := 45) rfl)) (hw _ (List.mem_of_getElem? (i := 4) rfl)) (by decide) hh79 (a := b54) Q60 (argsL := [(.int i5)]) (rest := []) (W := 0) (own_rm6 l Z a0 hw [] b54 i5 it bi si T59.heap n0 (Nat.le_trans Z0 K64.1) Q61 Q62 Q63 (own_ne0 r_si)) (by decide) (by decide) (by rw [hml]; rfl) (lenOf own_pd7 rfl) rfl (by exact Nat.le_of_eq rfl) (hb hby at_175) (by decide) (by decide) ?_
            intro T81 v81 L81 X81 hq81
            obtain ⟨rfl, N81q, hh81⟩ := hq81
            have N81 := Fr.app N79 N81q
            show own_Run p e below s _ _ _ (T81.setTop (mkF m 178 #[.val (.int i0), .val (.int i1), .val (.int i2), .val (.long j3), .second, .val (.int i4), .val (.int i5), .val (.int it), .val (.int bi), .val (.int si), .val (.int rr), .val (.long qq), .second, .val (.ref b54), .val (.int (1 : Int32)), .val (.long cd), .second, .val (.int (0 : Int32))] [(.int (if (bi < i5 ∧ ¬ (it < i5) ∧ ((it - i5) % si) = (0 : Int32)) then 1 else 0 : Int32))]))
            refine own_st (fun t k => XS.ifNo X81.here hx rfl (hb hby at_178) rfl ((if0 _ _).trans (teq (own_isX2 hY : (if (bi < i5 ∧ ¬ (it < i5) ∧ ((it - i5) % si) = (0 : Int32)) then 1 else 0 : Int32) = (0 : Int32))).2) k) ?_
            show own_Run p e below s _ _ _ (T81.setTop (mkF m 181 #[.val (.int i0), .val (.int i1), .val (.int i2), .val (.long j3), .second, .val (.int i4), .val (.int i5), .val (.int it), .val (.int bi), .val (.int si), .val (.int rr), .val (.long qq), .second, .val (.ref b54), .val (.int (1 : Int32)), .val (.long cd), .second, .val (.int (0 : Int32))] []))
            refine own_st (fun t k => XS.iconst X81.here hx rfl (hb hby at_181) k) ?_
            show own_Run p e below s _ _ _ (T81.setTop (mkF m 182 #[.val (.int i0), .val (.int i1), .val (.int i2), .val (.long j3), .second, .val (.int i4), .val (.int i5), .val (.int it), .val (.int bi), .val (.int si), .val (.int rr), .val (.long qq), .second, .val (.ref b54), .val (.int (1 : Int32)), .val (.long cd), .second, .val (.int (0 : Int32))] [(.int (1 : Int32))]))
            refine own_st (fun t k => XS.goto X81.here hx rfl (pc0 := 182) (pc' := 186) rfl (hb hby at_182) (by decide) (by decide) k) ?_
            show own_Run p e below s _ _ _ (T81.setTop (mkF m 186 #[.val (.int i0), .val (.int i1), .val (.int i2), .val (.long j3), .second, .val (.int i4), .val (.int i5), .val (.int it), .val (.int bi), .val (.int si), .val (.int rr), .val (.long qq), .second, .val (.ref b54), .val (.int (1 : Int32)), .val (.long cd), .second, .val (.int (0 : Int32))] [(.int (1 : Int32))]))
            refine own_st (fun t k => XS.istore X81.here hx rfl (hb hby at_186) rfl (l' := #[.val (.int i0), .val (.int i1), .val (.int i2), .val (.long j3), .second, .val (.int i4), .val (.int i5), .val (.int it), .val (.int bi), .val (.int si), .val (.int rr), .val (.long qq), .second, .val (.ref b54), .val (.int (1 : Int32)), .val (.long cd), .second, .val (.int (0 : Int32))]) rfl k) ?_
            show own_Run p e below s _ _ _ (T81.setTop (mkF m 188 #[.val (.int i0), .val (.int i1), .val (.int i2), .val (.long j3), .second, .val (.int i4), .val (.int i5), .val (.int it), .val (.int bi), .val (.int si), .val (.int rr), .val (.long qq), .second, .val (.ref b54), .val (.int (1 : Int32)), .val (.long cd), .second, .val (.int (0 : Int32))] []))
            refine own_st (fun t k => XS.iload X81.here hx rfl (hb hby at_188) rfl k) ?_
            show own_Run p e below s _ _ _ (T81.setTop (mkF m 190 #[.val (.int i0), .val (.int i1), .val (.int i2), .val (.long j3), .second, .val (.int i4), .val (.int i5), .val (.int it), .val (.int bi), .val (.int si), .val (.int rr), .val (.long qq), .second, .val (.ref b54), .val (.int (1 : Int32)), .val (.long cd), .second, .val (.int (0 : Int32))] [(.int (1 : Int32))]))
            exact own_ret X81 hx hlk (t := .boolean) hret rfl (Or.inl ⟨rfl, by simp, _, rfl⟩) (hb hby at_190) (by decide) (by decide) ⟨rfl, N81⟩
set_option maxRecDepth 65536 in
set_option maxHeartbeats 40000000 in
theorem own_comes_1 {Post : Tables → Env → Array Value → State → Outcome → State → Prop} (hpost : ∀ tb e args s v u, (limb_1_1.after args s (.returned v) u = true ∧ limb_1_2.after args s (.returned v) u = true ∧ True) → FrameEnd s (.returned v) u (Jvm.fieldLocs frame_1_writes args s ++ Jvm.arrayLocs frame_1_arrays args s ++ Jvm.staticLocs frame_1_statics s) 16 128 → Post tb e args s (.returned v) u) :
    ArmFor flags0 classFile x code maxLocals ret World_1 tables_1 room_1 Calls_1 rest_1 Pre_1 Post := by
  intro l hfl _ _ p e ha hc hk s m args below hf hA hF happ hP
  obtain ⟨hcalls, hrest, hpre⟩ := hP
  obtain ⟨-, -, -, hnamed, -, -, -, hat⟩ := (Spec.applies_iff hf).mp happ
  obtain ⟨hg, hn⟩ := and_e (Cond.before_iff.mp (show (Jvm.Cond.and given_1 narrow_1).before args s = true from hpre))
  obtain ⟨gv1, gv2⟩ := and_e hg
  obtain ⟨gv3, gv4⟩ := and_e gv2
  obtain ⟨gv5, gv6⟩ := and_e gv4
  obtain ⟨gv7, gv8⟩ := and_e gv6
  obtain ⟨gv9, gv10⟩ := and_e gv8
  obtain ⟨gv11, gv12⟩ := and_e gv10
  obtain ⟨w0, w1, w2, w3, w4, w5, rfl⟩ : ∃ w0 w1 w2 w3 w4 w5 : Value, args = #[w0, w1, w2, w3, w4, w5] := by
    have hs : args.size = 6 := by simpa [Cond.value, given_1] using gv1
    obtain ⟨L⟩ := args
    match L, hs with
    | [w0, w1, w2, w3, w4, w5], _ => exact ⟨w0, w1, w2, w3, w4, w5, rfl⟩
  have hw := fun d (hd : d ∈ tables_1) => atoms_spec (ws := Jvm.Cond.code x code maxLocals ret :: tables_1) hat d (List.mem_cons_of_mem _ hd)
  have hfit : Fit s := fun {y c} hc i hi => by
    obtain ⟨ha, rfl⟩ := Array.getElem?_eq_some_iff.mp hc
    have q := List.all_eq_true.mp ((Array.all_eq_true_iff_forall_mem.mp hF) _ (Array.getElem_mem ha)) i (List.mem_range.mpr hi)
    simpa [Array.getElem?_eq_getElem hi] using q
  obtain ⟨i0, ei0⟩ := is_v gv3
  obtain rfl : w0 = (.int i0) := Option.some.inj ei0
  obtain ⟨i1, ei1⟩ := is_v gv5
  obtain rfl : w1 = (.int i1) := Option.some.inj ei1
  obtain ⟨i2, ei2⟩ := is_v gv7
  obtain rfl : w2 = (.int i2) := Option.some.inj ei2
  obtain ⟨i3, ei3⟩ := isL_v gv9
  obtain rfl : w3 = (.long i3) := Option.some.inj ei3
  obtain ⟨i4, ei4⟩ := is_v gv11
  obtain rfl : w4 = (.int i4) := Option.some.inj ei4
  obtain ⟨i5, ei5⟩ := is_v gv12
  obtain rfl : w5 = (.int i5) := Option.some.inj ei5
  obtain ⟨n, o, h1, h2, h3, _, L, rfl, ⟨rfl, N⟩, hq⟩ := own_rm0 l s _ hw tables_1 i0 i1 i2 i3 i4 i5 s.heap s.heap.size (Nat.le_refl _) (Old.start s)  p e ha hc hk s m _ below hf ((Spec.applies_iff_loose hf).mp happ).1 ⟨rfl, State.Warmed39.refl s, rfl⟩ trivial
  refine ⟨n, _, h1, h2, h3, hpost _ _ _ _ _ _ ⟨Cond.after_iff.mpr rfl, Cond.after_iff.mpr (eq_i res_at (Term.int_eval (1)) rfl), trivial⟩ ⟨hq.1, hq.2.1, (hq.2.2.sift fun y hy => Or.inr (N y hy)).mono (by decide) (by decide)⟩⟩
theorem main_1_1 : Claimed_1_1 := own_comes_1 fun _ _ _ _ _ _ h hF => ⟨h.1, hF⟩
theorem main_1_2 : Claimed_1_2 := own_comes_1 fun _ _ _ _ _ _ h hF => ⟨h.2.1, hF⟩
end Jvm.Pilot.@@N@@
namespace Jvm.Pilot.@@N@@
open Jvm Jvm.ClassFile Sem Op Lib Jvm.Free Jvm.Stand Jvm.Pilot.@@N@@.Jvm.D
/-! MADE BY PROGRAM (witnessworld.py) out of the Statement's table words and the real class files: 16 classes; the members and pool entries that the words name. The judged class is class 1, her method 1. -/
namespace start1
open Jvm.ClassFile
def u (s : String) : CpInfo := .utf8 (stringToUtf16 s)
/-- a pool by its gaps: so many unusable entries, then the entry; so many at the end -/
def gap : Nat → List CpInfo → List CpInfo
  | 0, r => r
  | n + 1, r => .unusable :: gap n r
def poolList (es : List (Nat × CpInfo)) (last : Nat) : List CpInfo := es.foldr (fun e r => gap e.1 (e.2 :: r)) (gap last [])
def pool (es : List (Nat × CpInfo)) (last : Nat) : Array CpInfo := ⟨poolList es last⟩
def fileOf (pool : Array CpInfo) (this : Nat) (attrs : Array Attribute := #[]) (ms : Array MethodInfo := #[]) (fl : Nat := 33) (sup : Nat := 0) (ifs : Array Nat := #[]) (fds : Array FieldInfo := #[]) : ClassFile where
  minorVersion := 0
  majorVersion := 65
  constantPool := pool
  accessFlags := fl
  thisClass := this
  superClass := sup
  interfaces := ifs
  fields := fds
  methods := ms
  attributes := attrs
def plain (name : String) (sup : Option ClassId) : Class where
  name := name
  kind := .ordinary
  loader := none
  accessFlags := 33
  super := sup
  interfaces := #[]
  cf := none
  fields := #[]
  methods := #[]
  instanceTypes := #[]
  staticTypes := #[]
  resolved := #[]
  callSites := []
  init := .initialized
  statics := none
  mirror := none

def pool0 : Array CpInfo := pool [(5, u "<init>"), (0, u "()V"), (1, .class_ 10), (1, u "java/lang/Object")] 113

def k0c0 : Code := { maxStack := 0, maxLocals := 1, code := object_method_1_code, exceptionTable := #[], attributes := #[] }
def k0m0 : Method := { name := "<init>", desc := "()V", sig := { parameters := [], returnType := none }, accessFlags := 1, code := some k0c0 }
/-- java/lang/Object -/
def k0 : Class := { plain "java/lang/Object" none with
  accessFlags := 33
  interfaces := #[]
  cf := some (fileOf pool0 8 #[] #[{ accessFlags := 1, nameIndex := 5, descriptorIndex := 6, attributes := #[] }] 33 0 #[] #[])
  fields := #[]
  methods := #[k0m0]
  instanceTypes := #[]
  staticTypes := #[]
  resolved := Array.replicate 124 none
  statics := none }

def pool1 : Array CpInfo := pool [(2, .class_ 4), (1, u "java/lang/Object"), (0, u "<init>"), (0, u "()V"), (0, .integer 2147483647), (2, .long 4294967296), (1, .class_ 13), (0, u "com/example/nudge_rank/nudgerank/topic/LdaParameters"), (0, .methodref 12 15), (0, .nameAndType 5 16), (0, u "(IDDIIIJ)V"), (0, .long 18446744071562067968), (1, .long 2147483647), (1, .methodref 12 22), (0, .nameAndType 23 24), (0, u "isSample"), (0, u "(I)Z"), (0, .class_ 26), (0, u "com/example/nudge_rank/nudgerank/topic/LdaParametersIsSamplePinLaw"), (2, u "law"), (0, u "(IIIJII)Z")] 3

def k1m0 : Method := { name := "<init>", desc := "()V", sig := { parameters := [], returnType := none }, accessFlags := 1, code := none }
def k1c1 : Code := { maxStack := 12, maxLocals := 18, code := code, exceptionTable := #[], attributes := #[] }
def k1m1 : Method := { name := "law", desc := "(IIIJII)Z", sig := { parameters := [.int, .int, .int, .long, .int, .int], returnType := some .boolean }, accessFlags := 9, code := some k1c1 }
/-- com/example/nudge_rank/nudgerank/topic/LdaParametersIsSamplePinLaw -/
def k1 : Class := { plain "com/example/nudge_rank/nudgerank/topic/LdaParametersIsSamplePinLaw" (some 0) with
  accessFlags := 49
  interfaces := #[]
  cf := some (fileOf pool1 25 #[] #[{ accessFlags := 1, nameIndex := 5, descriptorIndex := 6, attributes := #[] }, { accessFlags := 9, nameIndex := 29, descriptorIndex := 30, attributes := #[] }] 49 2 #[] #[])
  fields := #[]
  methods := #[k1m0, k1m1]
  instanceTypes := #[]
  staticTypes := #[]
  resolved := Array.replicate 34 none
  statics := none }

def pool2 : Array CpInfo := pool [(1, .methodref 2 3), (0, .class_ 4), (0, .nameAndType 5 6), (0, u "java/lang/Object"), (0, u "<init>"), (0, u "()V"), (0, .class_ 8), (0, u "java/lang/Record")] 13

def k2c0 : Code := { maxStack := 1, maxLocals := 1, code := jdk_30_method_1_code, exceptionTable := #[], attributes := #[] }
def k2m0 : Method := { name := "<init>", desc := "()V", sig := { parameters := [], returnType := none }, accessFlags := 4, code := some k2c0 }
/-- java/lang/Record -/
def k2 : Class := { plain "java/lang/Record" (some 0) with
  accessFlags := 1057
  interfaces := #[]
  cf := some (fileOf pool2 7 #[] #[{ accessFlags := 4, nameIndex := 5, descriptorIndex := 6, attributes := #[] }] 1057 2 #[] #[])
  fields := #[]
  methods := #[k2m0]
  instanceTypes := #[]
  staticTypes := #[]
  resolved := Array.replicate 22 none
  statics := none }

def pool3 : Array CpInfo := pool [(1, .methodref 2 3), (0, .class_ 4), (0, .nameAndType 5 6), (0, u "java/lang/Record"), (0, u "<init>"), (0, u "()V"), (7, .methodref 15 16), (0, .class_ 17), (0, .nameAndType 18 19), (0, u "java/lang/Double"), (0, u "isInfinite"), (0, u "(D)Z"), (26, .fieldref 47 48), (0, .class_ 49), (0, .nameAndType 50 51), (0, u "com/example/nudge_rank/nudgerank/topic/LdaParameters"), (0, u "topicCount"), (0, u "I"), (0, .fieldref 47 53), (0, .nameAndType 54 55), (0, u "alpha"), (0, u "D"), (0, .fieldref 47 57), (0, .nameAndType 58 55), (0, u "beta"), (0, .fieldref 47 60), (0, .nameAndType 61 51), (0, u "iterations"), (0, .fieldref 47 63), (0, .nameAndType 64 51), (0, u "burnIn"), (0, .fieldref 47 66), (0, .nameAndType 67 51), (0, u "sampleInterval"), (0, .fieldref 47 69), (0, .nameAndType 70 71), (0, u "seed"), (0, u "J"), (14, u "DEFAULT_TOPIC_COUNT"), (2, u "DEFAULT_BETA"), (2, u "DEFAULT_ITERATIONS"), (1, u "DEFAULT_SAMPLE_INTERVAL"), (1, u "DEFAULT_SEED"), (2, u "(IDDIIIJ)V"), (10, u "isSample"), (0, u "(I)Z")] 42

def k3c0 : Code := { maxStack := 7, maxLocals := 11, code := prog_20_method_1_code, exceptionTable := #[], attributes := #[] }
def k3m0 : Method := { name := "<init>", desc := "(IDDIIIJ)V", sig := { parameters := [.int, .double, .double, .int, .int, .int, .long], returnType := none }, accessFlags := 1, code := some k3c0 }
def k3c1 : Code := { maxStack := 2, maxLocals := 2, code := prog_20_method_5_code, exceptionTable := #[], attributes := #[] }
def k3m1 : Method := { name := "isSample", desc := "(I)Z", sig := { parameters := [.int], returnType := some .boolean }, accessFlags := 1, code := some k3c1 }
/-- com/example/nudge_rank/nudgerank/topic/LdaParameters -/
def k3 : Class := { plain "com/example/nudge_rank/nudgerank/topic/LdaParameters" (some 2) with
  accessFlags := 49
  interfaces := #[]
  cf := some (fileOf pool3 47 #[] #[{ accessFlags := 1, nameIndex := 5, descriptorIndex := 99, attributes := #[] }, { accessFlags := 1, nameIndex := 110, descriptorIndex := 111, attributes := #[] }] 49 2 #[] #[{ accessFlags := 18, nameIndex := 50, descriptorIndex := 51, attributes := #[] }, { accessFlags := 18, nameIndex := 54, descriptorIndex := 55, attributes := #[] }, { accessFlags := 18, nameIndex := 58, descriptorIndex := 55, attributes := #[] }, { accessFlags := 18, nameIndex := 61, descriptorIndex := 51, attributes := #[] }, { accessFlags := 18, nameIndex := 64, descriptorIndex := 51, attributes := #[] }, { accessFlags := 18, nameIndex := 67, descriptorIndex := 51, attributes := #[] }, { accessFlags := 18, nameIndex := 70, descriptorIndex := 71, attributes := #[] }, { accessFlags := 25, nameIndex := 86, descriptorIndex := 51, attributes := #[] }, { accessFlags := 25, nameIndex := 89, descriptorIndex := 55, attributes := #[] }, { accessFlags := 25, nameIndex := 92, descriptorIndex := 51, attributes := #[] }, { accessFlags := 25, nameIndex := 94, descriptorIndex := 51, attributes := #[] }, { accessFlags := 25, nameIndex := 96, descriptorIndex := 71, attributes := #[] }])
  fields := #[{ name := "topicCount", type := .int, accessFlags := 18, slot := 0, constantValue := 0 }, { name := "alpha", type := .double, accessFlags := 18, slot := 1, constantValue := 0 }, { name := "beta", type := .double, accessFlags := 18, slot := 2, constantValue := 0 }, { name := "iterations", type := .int, accessFlags := 18, slot := 3, constantValue := 0 }, { name := "burnIn", type := .int, accessFlags := 18, slot := 4, constantValue := 0 }, { name := "sampleInterval", type := .int, accessFlags := 18, slot := 5, constantValue := 0 }, { name := "seed", type := .long, accessFlags := 18, slot := 6, constantValue := 0 }, { name := "DEFAULT_TOPIC_COUNT", type := .int, accessFlags := 25, slot := 0, constantValue := 0 }, { name := "DEFAULT_BETA", type := .double, accessFlags := 25, slot := 1, constantValue := 0 }, { name := "DEFAULT_ITERATIONS", type := .int, accessFlags := 25, slot := 2, constantValue := 0 }, { name := "DEFAULT_SAMPLE_INTERVAL", type := .int, accessFlags := 25, slot := 3, constantValue := 0 }, { name := "DEFAULT_SEED", type := .long, accessFlags := 25, slot := 4, constantValue := 0 }]
  methods := #[k3m0, k3m1]
  instanceTypes := #[.int, .double, .double, .int, .int, .int, .long]
  staticTypes := #[.int, .double, .int, .int, .long]
  resolved := Array.replicate 154 none
  statics := none }

def pool4 : Array CpInfo := pool [(1, .class_ 2), (0, u "java/io/Serializable"), (0, .class_ 4), (0, u "java/lang/Object")] 2

/-- java/io/Serializable -/
def k4 : Class := { plain "java/io/Serializable" (some 0) with
  accessFlags := 1537
  interfaces := #[]
  cf := some (fileOf pool4 1 #[] #[] 1537 3 #[] #[])
  fields := #[]
  methods := #[]
  instanceTypes := #[]
  staticTypes := #[]
  resolved := Array.replicate 7 none
  statics := none }

def pool5 : Array CpInfo := pool [(2, .class_ 4), (1, u "java/lang/Object"), (0, u "<init>"), (0, u "()V"), (1, .class_ 10), (1, u "java/lang/Number"), (2, .class_ 14), (0, u "java/io/Serializable"), (0, u "serialVersionUID"), (0, u "J")] 20

def k5m0 : Method := { name := "<init>", desc := "()V", sig := { parameters := [], returnType := none }, accessFlags := 1, code := none }
/-- java/lang/Number -/
def k5 : Class := { plain "java/lang/Number" (some 0) with
  accessFlags := 1057
  interfaces := #[4]
  cf := some (fileOf pool5 8 #[] #[{ accessFlags := 1, nameIndex := 5, descriptorIndex := 6, attributes := #[] }] 1057 2 #[13] #[{ accessFlags := 26, nameIndex := 15, descriptorIndex := 16, attributes := #[] }])
  fields := #[{ name := "serialVersionUID", type := .long, accessFlags := 26, slot := 0, constantValue := 0 }]
  methods := #[k5m0]
  instanceTypes := #[]
  staticTypes := #[.long]
  resolved := Array.replicate 37 none
  statics := none }

def pool6 : Array CpInfo := pool [(1, .class_ 2), (0, u "java/lang/Comparable"), (0, .class_ 4), (0, u "java/lang/Object")] 7

/-- java/lang/Comparable -/
def k6 : Class := { plain "java/lang/Comparable" (some 0) with
  accessFlags := 1537
  interfaces := #[]
  cf := some (fileOf pool6 1 #[] #[] 1537 3 #[] #[])
  fields := #[]
  methods := #[]
  instanceTypes := #[]
  staticTypes := #[]
  resolved := Array.replicate 12 none
  statics := none }

def pool7 : Array CpInfo := pool [(1, .class_ 2), (0, u "java/lang/constant/Constable"), (0, .class_ 4), (0, u "java/lang/Object")] 6

/-- java/lang/constant/Constable -/
def k7 : Class := { plain "java/lang/constant/Constable" (some 0) with
  accessFlags := 1537
  interfaces := #[]
  cf := some (fileOf pool7 1 #[] #[] 1537 3 #[] #[])
  fields := #[]
  methods := #[]
  instanceTypes := #[]
  staticTypes := #[]
  resolved := Array.replicate 11 none
  statics := none }

def pool8 : Array CpInfo := pool [(1, .class_ 2), (0, u "java/lang/constant/ConstantDesc"), (0, .class_ 4), (0, u "java/lang/Object")] 32

/-- java/lang/constant/ConstantDesc -/
def k8 : Class := { plain "java/lang/constant/ConstantDesc" (some 0) with
  accessFlags := 1537
  interfaces := #[]
  cf := some (fileOf pool8 1 #[] #[] 1537 3 #[] #[])
  fields := #[]
  methods := #[]
  instanceTypes := #[]
  staticTypes := #[]
  resolved := Array.replicate 37 none
  statics := none }

def pool9 : Array CpInfo := pool [(1, .class_ 2), (0, u "java/lang/Double"), (11, u "(D)Z"), (8, .class_ 25), (1, u "java/lang/Math"), (12, .methodref 23 39), (0, .nameAndType 40 41), (0, u "abs"), (0, u "(D)D"), (69, .double 9218868437227405311), (2, .class_ 116), (1, u "java/lang/Number"), (3, u "value"), (0, u "D"), (5, u "isInfinite"), (45, u "TYPE"), (0, u "Ljava/lang/Class;"), (0, .class_ 176), (0, u "java/lang/Comparable"), (0, .class_ 178), (0, u "java/lang/constant/Constable"), (0, .class_ 180), (0, u "java/lang/constant/ConstantDesc"), (0, u "POSITIVE_INFINITY"), (3, u "NEGATIVE_INFINITY"), (2, u "NaN"), (2, u "MAX_VALUE"), (0, u "MIN_NORMAL"), (0, u "MIN_VALUE"), (2, u "SIZE"), (0, u "I"), (1, u "PRECISION"), (1, u "MAX_EXPONENT"), (1, u "MIN_EXPONENT"), (1, u "BYTES"), (3, u "serialVersionUID"), (0, u "J")] 79

def k9c0 : Code := { maxStack := 4, maxLocals := 2, code := jdk_117_method_7_code, exceptionTable := #[], attributes := #[] }
def k9m0 : Method := { name := "isInfinite", desc := "(D)Z", sig := { parameters := [.double], returnType := some .boolean }, accessFlags := 9, code := some k9c0 }
/-- java/lang/Double -/
def k9 : Class := { plain "java/lang/Double" (some 5) with
  accessFlags := 49
  interfaces := #[6, 7, 8]
  cf := some (fileOf pool9 1 #[] #[{ accessFlags := 9, nameIndex := 127, descriptorIndex := 14, attributes := #[] }] 49 114 #[175, 177, 179] #[{ accessFlags := 25, nameIndex := 181, descriptorIndex := 121, attributes := #[] }, { accessFlags := 25, nameIndex := 185, descriptorIndex := 121, attributes := #[] }, { accessFlags := 25, nameIndex := 188, descriptorIndex := 121, attributes := #[] }, { accessFlags := 25, nameIndex := 191, descriptorIndex := 121, attributes := #[] }, { accessFlags := 25, nameIndex := 192, descriptorIndex := 121, attributes := #[] }, { accessFlags := 25, nameIndex := 193, descriptorIndex := 121, attributes := #[] }, { accessFlags := 25, nameIndex := 196, descriptorIndex := 197, attributes := #[] }, { accessFlags := 25, nameIndex := 199, descriptorIndex := 197, attributes := #[] }, { accessFlags := 25, nameIndex := 201, descriptorIndex := 197, attributes := #[] }, { accessFlags := 25, nameIndex := 203, descriptorIndex := 197, attributes := #[] }, { accessFlags := 25, nameIndex := 205, descriptorIndex := 197, attributes := #[] }, { accessFlags := 25, nameIndex := 173, descriptorIndex := 174, attributes := #[] }, { accessFlags := 18, nameIndex := 120, descriptorIndex := 121, attributes := #[] }, { accessFlags := 26, nameIndex := 209, descriptorIndex := 210, attributes := #[] }])
  fields := #[{ name := "POSITIVE_INFINITY", type := .double, accessFlags := 25, slot := 0, constantValue := 0 }, { name := "NEGATIVE_INFINITY", type := .double, accessFlags := 25, slot := 1, constantValue := 0 }, { name := "NaN", type := .double, accessFlags := 25, slot := 2, constantValue := 0 }, { name := "MAX_VALUE", type := .double, accessFlags := 25, slot := 3, constantValue := 0 }, { name := "MIN_NORMAL", type := .double, accessFlags := 25, slot := 4, constantValue := 0 }, { name := "MIN_VALUE", type := .double, accessFlags := 25, slot := 5, constantValue := 0 }, { name := "SIZE", type := .int, accessFlags := 25, slot := 6, constantValue := 0 }, { name := "PRECISION", type := .int, accessFlags := 25, slot := 7, constantValue := 0 }, { name := "MAX_EXPONENT", type := .int, accessFlags := 25, slot := 8, constantValue := 0 }, { name := "MIN_EXPONENT", type := .int, accessFlags := 25, slot := 9, constantValue := 0 }, { name := "BYTES", type := .int, accessFlags := 25, slot := 10, constantValue := 0 }, { name := "TYPE", type := (.object "java/lang/Class"), accessFlags := 25, slot := 11, constantValue := 0 }, { name := "value", type := .double, accessFlags := 18, slot := 0, constantValue := 0 }, { name := "serialVersionUID", type := .long, accessFlags := 26, slot := 12, constantValue := 0 }]
  methods := #[k9m0]
  instanceTypes := #[.double]
  staticTypes := #[.double, .double, .double, .double, .double, .double, .int, .int, .int, .int, .int, (.object "java/lang/Class"), .long]
  resolved := Array.replicate 290 none
  statics := none }

def pool10 : Array CpInfo := pool [(1, .class_ 2), (0, u "java/lang/Math"), (1, .class_ 6), (1, u "java/lang/Object"), (0, u "<init>"), (0, u "()V"), (5, u "(D)D"), (83, .class_ 100), (1, u "java/lang/Math$RandomNumberGeneratorHolder"), (23, u "abs"), (47, u "negativeZeroFloatBits"), (0, u "J"), (2, u "negativeZeroDoubleBits"), (68, u "$assertionsDisabled"), (0, u "Z"), (91, u "twoToTheDoubleScaleDown"), (0, u "D"), (4, u "twoToTheDoubleScaleUp"), (9, u "E"), (3, u "PI"), (2, u "TAU"), (2, u "DEGREES_TO_RADIANS"), (0, u "RADIANS_TO_DEGREES")] 94

def k10m0 : Method := { name := "<init>", desc := "()V", sig := { parameters := [], returnType := none }, accessFlags := 2, code := none }
def k10c1 : Code := { maxStack := 4, maxLocals := 2, code := jdk_29_method_64_code, exceptionTable := #[], attributes := #[] }
def k10m1 : Method := { name := "abs", desc := "(D)D", sig := { parameters := [.double], returnType := some .double }, accessFlags := 9, code := some k10c1 }
/-- java/lang/Math -/
def k10 : Class := { plain "java/lang/Math" (some 0) with
  accessFlags := 49
  interfaces := #[]
  cf := some (fileOf pool10 1 #[.nestMembers #[98]] #[{ accessFlags := 2, nameIndex := 7, descriptorIndex := 8, attributes := #[] }, { accessFlags := 9, nameIndex := 124, descriptorIndex := 14, attributes := #[] }] 49 4 #[] #[{ accessFlags := 25, nameIndex := 354, descriptorIndex := 339, attributes := #[] }, { accessFlags := 25, nameIndex := 358, descriptorIndex := 339, attributes := #[] }, { accessFlags := 25, nameIndex := 361, descriptorIndex := 339, attributes := #[] }, { accessFlags := 26, nameIndex := 364, descriptorIndex := 339, attributes := #[] }, { accessFlags := 26, nameIndex := 365, descriptorIndex := 339, attributes := #[] }, { accessFlags := 26, nameIndex := 172, descriptorIndex := 173, attributes := #[] }, { accessFlags := 26, nameIndex := 176, descriptorIndex := 173, attributes := #[] }, { accessFlags := 8, nameIndex := 344, descriptorIndex := 339, attributes := #[] }, { accessFlags := 8, nameIndex := 338, descriptorIndex := 339, attributes := #[] }, { accessFlags := 4120, nameIndex := 245, descriptorIndex := 246, attributes := #[] }])
  fields := #[{ name := "E", type := .double, accessFlags := 25, slot := 0, constantValue := 0 }, { name := "PI", type := .double, accessFlags := 25, slot := 1, constantValue := 0 }, { name := "TAU", type := .double, accessFlags := 25, slot := 2, constantValue := 0 }, { name := "DEGREES_TO_RADIANS", type := .double, accessFlags := 26, slot := 3, constantValue := 0 }, { name := "RADIANS_TO_DEGREES", type := .double, accessFlags := 26, slot := 4, constantValue := 0 }, { name := "negativeZeroFloatBits", type := .long, accessFlags := 26, slot := 5, constantValue := 0 }, { name := "negativeZeroDoubleBits", type := .long, accessFlags := 26, slot := 6, constantValue := 0 }, { name := "twoToTheDoubleScaleUp", type := .double, accessFlags := 8, slot := 7, constantValue := 0 }, { name := "twoToTheDoubleScaleDown", type := .double, accessFlags := 8, slot := 8, constantValue := 0 }, { name := "$assertionsDisabled", type := .boolean, accessFlags := 4120, slot := 9, constantValue := 0 }]
  methods := #[k10m0, k10m1]
  instanceTypes := #[]
  staticTypes := #[.double, .double, .double, .double, .double, .long, .long, .double, .double, .boolean]
  resolved := Array.replicate 460 none
  statics := none }

def pool11 : Array CpInfo := pool [(1, u "java/lang/Cloneable"), (0, .class_ 1), (0, u "java/lang/Object"), (0, .class_ 3)] 3

/-- java/lang/Cloneable -/
def k11 : Class := { plain "java/lang/Cloneable" (some 0) with
  accessFlags := 1537
  interfaces := #[]
  cf := some (fileOf pool11 2 #[] #[] 1537 4 #[] #[])
  fields := #[]
  methods := #[]
  instanceTypes := #[]
  staticTypes := #[]
  resolved := Array.replicate 8 none
  statics := none }

/-- the primitive byte -/
def k12 : Class := { plain "byte" none with kind := .primitive 'B', accessFlags := 0x411 }
/-- [B -/
def k13 : Class := { plain "[B" (some 0) with kind := .array 12 .byte, interfaces := #[11, 4], accessFlags := 1041 }

/-- the primitive int -/
def k14 : Class := { plain "int" none with kind := .primitive 'I', accessFlags := 0x411 }
/-- [I -/
def k15 : Class := { plain "[I" (some 0) with kind := .array 14 .int, interfaces := #[11, 4], accessFlags := 1041 }

def heap : Heap := #[]
def classes : Array Class := #[k0, k1, k2, k3, k4, k5, k6, k7, k8, k9, k10, k11, k12, k13, k14, k15]
def interned : List (Array UInt16 × Addr) := []
def slotsUsed : Nat := 0
def theMethod : MethodId := ⟨1, 1⟩
def args0 : Array Value := #[.int 9, .int 5, .int 3, .long 2, .int 4, .int 4]
def aboutOver (below : List Frame) : State where
  vm := { classes := classes, interned := interned.toArray }
  heap := heap
  slotsUsed := slotsUsed
  threads := #[{ frames := .invoking theMethod args0 :: below }]
def below0 : List Frame := [.native { method := ⟨0, 0⟩, args := #[] }]
def about1 : State := aboutOver below0
def p0 : Program := .bare "" "" ""
def e0 : Env := launch0.env 0 0 0
theorem w_frames : about1.frames = Frame.invoking theMethod args0 :: below0 := rfl
set_option maxRecDepth 65536 in
theorem w_args : argsFit about1.vm theMethod args0 = true := by decide +kernel
set_option maxRecDepth 65536 in
theorem w_heap : heapFits about1 = true := by decide +kernel
set_option maxRecDepth 65536 in
theorem w_runnable : about1.curStatus? = some .runnable := by decide +kernel
set_option maxRecDepth 65536 in
theorem w_alone : about1.alone = true := by decide +kernel
set_option maxRecDepth 65536 in
theorem w_named : about1.methodNamed? x = some theMethod := by decide +kernel
set_option maxRecDepth 65536 in
theorem w_hears : about1.hears theMethod below0 = true := by decide +kernel
set_option maxRecDepth 65536 in
theorem w_ripe : about1.ripe theMethod args0 below0 = true := by decide +kernel
theorem w_running : about1.status = .running := rfl
set_option maxRecDepth 65536 in
theorem w_room : about1.hasRoom e0.platform room_1 = true :=
  launch0.hasRoom_least _ room_1 (by decide +kernel) (by decide +kernel) (by decide +kernel) (by decide +kernel) (by decide +kernel) (by decide +kernel)
theorem allAtoms_all (ts : List Jvm.Cond) (a : Array Jvm.Value) (st : Jvm.State) : (allAtoms ts).before a st = ts.all (fun c => c.before a st) := by
  induction ts with
  | nil => rfl
  | cons c t ih =>
    show (Jvm.Cond.and c (allAtoms t)).before a st = _
    rw [Jvm.Cond.before_and, ih, List.all_cons]
def words1 : List Jvm.Cond := Jvm.Cond.code x code maxLocals ret :: tables_1
/-- a 'code' word, met by the world's own term for the bytes: nothing is compared byte by byte -/
theorem code_word {y : MethodName} {bytes : ByteArray} {mx : Nat} {rt : Option FieldType} {a : Array Value} {s : State} {m : MethodId} {meth : Method} {c : Code} (h1 : s.methodNamed? y = some m) (h2 : s.vm.method? m = some meth) (h3 : meth.code = some c) (h4 : c.code = bytes)
    (h5 : (c.maxLocals == mx && c.exceptionTable.isEmpty && decide (c.maxStack ≤ mostOperands) && decide (meth.sig.returnType = rt) && !meth.locks && decide (parseMethodDescriptor y.desc = some meth.sig)) = true) : (Jvm.Cond.code y bytes mx rt).before a s = true := by
  simp only [Bool.and_eq_true, beq_iff_eq, Bool.not_eq_true', decide_eq_true_eq] at h5
  obtain ⟨⟨⟨⟨⟨g1, g2⟩, g3⟩, g4⟩, g5⟩, g6⟩ := h5
  simp [Cond.before, Cond.holds, Cond.value, h1, h2, h3, h4, g1, g2, g3, g4, g5, g6]
def isCode : Jvm.Cond → Bool
  | .code _ _ _ _ => true
  | _ => false
theorem all_split {L : List Jvm.Cond} {P : Jvm.Cond → Bool} (h1 : L.all (fun c => isCode c || P c) = true) (h2 : ∀ c ∈ L.filter isCode, P c = true) : L.all P = true := by
  refine List.all_eq_true.mpr fun c hc => ?_
  have h := List.all_eq_true.mp h1 c hc
  rcases Bool.eq_false_or_eq_true (isCode c) with hi | hi
  · exact h2 c (List.mem_filter.mpr ⟨hc, hi⟩)
  · simpa [hi] using h
set_option maxRecDepth 65536 in
theorem w_c0 : (Jvm.Cond.code x code maxLocals ret).before args0 about1 = true := code_word (m := ⟨1, 1⟩) (meth := k1m1) (c := k1c1) (by decide +kernel) rfl rfl rfl (by decide +kernel)
set_option maxRecDepth 65536 in
theorem w_c1 : (Jvm.Cond.code ({ cls := "com/example/nudge_rank/nudgerank/topic/LdaParameters", name := "<init>", desc := "(IDDIIIJ)V" } : Jvm.MethodName) prog_20_method_1_code (11 : Nat) (Option.none : Option Jvm.ClassFile.FieldType)).before args0 about1 = true := code_word (m := ⟨3, 0⟩) (meth := k3m0) (c := k3c0) (by decide +kernel) rfl rfl rfl (by decide +kernel)
set_option maxRecDepth 65536 in
theorem w_c2 : (Jvm.Cond.code ({ cls := "java/lang/Record", name := "<init>", desc := "()V" } : Jvm.MethodName) jdk_30_method_1_code (1 : Nat) (Option.none : Option Jvm.ClassFile.FieldType)).before args0 about1 = true := code_word (m := ⟨2, 0⟩) (meth := k2m0) (c := k2c0) (by decide +kernel) rfl rfl rfl (by decide +kernel)
set_option maxRecDepth 65536 in
theorem w_c3 : (Jvm.Cond.code ({ cls := "java/lang/Object", name := "<init>", desc := "()V" } : Jvm.MethodName) object_method_1_code (1 : Nat) (Option.none : Option Jvm.ClassFile.FieldType)).before args0 about1 = true := code_word (m := ⟨0, 0⟩) (meth := k0m0) (c := k0c0) (by decide +kernel) rfl rfl rfl (by decide +kernel)
set_option maxRecDepth 65536 in
theorem w_c4 : (Jvm.Cond.code ({ cls := "java/lang/Double", name := "isInfinite", desc := "(D)Z" } : Jvm.MethodName) jdk_117_method_7_code (2 : Nat) (Option.some Jvm.ClassFile.FieldType.boolean)).before args0 about1 = true := code_word (m := ⟨9, 0⟩) (meth := k9m0) (c := k9c0) (by decide +kernel) rfl rfl rfl (by decide +kernel)
set_option maxRecDepth 65536 in
theorem w_c5 : (Jvm.Cond.code ({ cls := "java/lang/Math", name := "abs", desc := "(D)D" } : Jvm.MethodName) jdk_29_method_64_code (2 : Nat) (Option.some Jvm.ClassFile.FieldType.double)).before args0 about1 = true := code_word (m := ⟨10, 1⟩) (meth := k10m1) (c := k10c1) (by decide +kernel) rfl rfl rfl (by decide +kernel)
set_option maxRecDepth 65536 in
theorem w_c6 : (Jvm.Cond.code ({ cls := "com/example/nudge_rank/nudgerank/topic/LdaParameters", name := "isSample", desc := "(I)Z" } : Jvm.MethodName) prog_20_method_5_code (2 : Nat) (Option.some Jvm.ClassFile.FieldType.boolean)).before args0 about1 = true := code_word (m := ⟨3, 1⟩) (meth := k3m1) (c := k3c1) (by decide +kernel) rfl rfl rfl (by decide +kernel)
def codes1 : List Jvm.Cond := [Jvm.Cond.code x code maxLocals ret, Jvm.Cond.code ({ cls := "com/example/nudge_rank/nudgerank/topic/LdaParameters", name := "<init>", desc := "(IDDIIIJ)V" } : Jvm.MethodName) prog_20_method_1_code (11 : Nat) (Option.none : Option Jvm.ClassFile.FieldType), Jvm.Cond.code ({ cls := "java/lang/Record", name := "<init>", desc := "()V" } : Jvm.MethodName) jdk_30_method_1_code (1 : Nat) (Option.none : Option Jvm.ClassFile.FieldType), Jvm.Cond.code ({ cls := "java/lang/Object", name := "<init>", desc := "()V" } : Jvm.MethodName) object_method_1_code (1 : Nat) (Option.none : Option Jvm.ClassFile.FieldType), Jvm.Cond.code ({ cls := "java/lang/Double", name := "isInfinite", desc := "(D)Z" } : Jvm.MethodName) jdk_117_method_7_code (2 : Nat) (Option.some Jvm.ClassFile.FieldType.boolean), Jvm.Cond.code ({ cls := "java/lang/Math", name := "abs", desc := "(D)D" } : Jvm.MethodName) jdk_29_method_64_code (2 : Nat) (Option.some Jvm.ClassFile.FieldType.double), Jvm.Cond.code ({ cls := "com/example/nudge_rank/nudgerank/topic/LdaParameters", name := "isSample", desc := "(I)Z" } : Jvm.MethodName) prog_20_method_5_code (2 : Nat) (Option.some Jvm.ClassFile.FieldType.boolean)]
set_option maxRecDepth 65536 in
theorem codes_eq : words1.filter isCode = codes1 := rfl
theorem w_codes : ∀ c ∈ words1.filter isCode, c.before args0 about1 = true := by
  rw [codes_eq]
  intro c hc
  simp only [codes1, List.mem_cons, List.not_mem_nil, or_false] at hc
  rcases hc with rfl | rfl | rfl | rfl | rfl | rfl | rfl
  · exact w_c0
  · exact w_c1
  · exact w_c2
  · exact w_c3
  · exact w_c4
  · exact w_c5
  · exact w_c6
set_option maxRecDepth 65536 in
theorem w_t1 : (words1.take 24).all (fun c => isCode c || c.before args0 about1) = true := by decide +kernel
set_option maxRecDepth 65536 in
theorem w_t2 : (words1.drop 24).all (fun c => isCode c || c.before args0 about1) = true := by decide +kernel
theorem w_tables : (allAtoms (Jvm.Cond.code x code maxLocals ret :: tables_1)).before args0 about1 = true := by
  rw [allAtoms_all]
  show words1.all (fun c => c.before args0 about1) = true
  refine all_split ?_ w_codes
  rw [← List.take_append_drop 24 words1, List.all_append, w_t1, w_t2]
  rfl
set_option maxRecDepth 65536 in
theorem w_case : (Jvm.Cond.and given_1 narrow_1).before args0 about1 = true := by decide +kernel
theorem w_applies : (headSpec (Jvm.Cond.code x code maxLocals ret :: tables_1) room_1).applies x e0.platform about1 = true :=
  (Spec.applies_iff w_frames).mpr ⟨w_running, w_runnable, w_alone, w_named, w_hears, w_ripe, w_room, w_tables⟩
theorem atStart : AtStart classFile x code maxLocals ret World_1 tables_1 room_1 Calls_1 rest_1 Pre_1 launch0 p0 e0 about1 theMethod args0 below0 :=
  ⟨lists_1, trivial, launch0.admits_env _ _ _, launch0.least_env, fairChoices_fair.cas, fairChoices_fair.clock, w_frames, w_args, w_heap, w_applies, trivial, trivial, w_case⟩
end start1
theorem witness_1 : WitnessClaimed_1 := ⟨start1.p0, start1.e0, start1.about1, start1.theMethod, start1.args0, start1.below0, start1.atStart⟩
end Jvm.Pilot.@@N@@
