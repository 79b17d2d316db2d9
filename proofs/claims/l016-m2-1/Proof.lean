import JvmDerived
import JvmDerived.Pilot.@@N@@Statement
import JvmDerived.Pilot.@@N@@Code
set_option linter.unusedVariables false
set_option linter.unusedSimpArgs false
namespace Jvm.Pilot.@@N@@
open Jvm Jvm.ClassFile Sem Op Lib Jvm.Free Jvm.Stand Jvm.LawKit Jvm.RoadKit Bundle Jvm.Pilot.@@N@@.Jvm.D
section OwnKit
variable {p : Program} {l : Launch} {e : Env} {R : Room} {s : State} {m : MethodId} {args : Array Value} {below : List Frame} {meth : Method} {c : Code} {T : State} {locs : List Loc} {cells slots : Nat} {Z : State} {a0 : Array Value} {h h0 : Heap} {pc : Nat} {Ls : Array Slot} {rest : List Value} {Q : Outcome → State → Prop}
def Go (p : Program) (e : Env) (below : List Frame) (T : State) (g : JFrame) (Q : Outcome → State → Prop) : Prop := ∃ s₂ o, Steps p.tables e below (T.setTop g) s₂ ∧ s₂.status = .running ∧ Ended s₂ below o ∧ Q o s₂
theorem Go.of {T' : State} {g g' : JFrame} (st : ∀ t, Steps p.tables e below (T'.setTop g') t → Steps p.tables e below (T.setTop g) t) (k : Go p e below T' g' Q) : Go p e below T g Q := by
  obtain ⟨a, b, h1, h2⟩ := k; exact ⟨a, b, st a h1, h2⟩
theorem o_iloadN (X : Stand p l e R s m args below meth c T locs cells slots) (hx : p.tables.exec = Jvm.exec) {k : Fin 4} {v : Int32} (hd : decode c.code pc = .ok (.iload_n k, 1)) (hl : Ls[k.val]? = some (.val (.int v))) (q : Go p e below T (mkF m (pc + 1) Ls (.int v :: rest)) Q) : Go p e below T (mkF m pc Ls (rest)) Q := Go.of (fun _ k => XS.iloadN X.here hx rfl hd hl k) q
theorem o_istoreN (X : Stand p l e R s m args below meth c T locs cells slots) (hx : p.tables.exec = Jvm.exec) {k : Fin 4} {v : Int32} {l' : Array Slot} (hd : decode c.code pc = .ok (.istore_n k, 1)) (hl : storeLocals Ls k.val (.int v) = some l') (q : Go p e below T (mkF m (pc + 1) l' (rest)) Q) : Go p e below T (mkF m pc Ls (.int v :: rest)) Q := Go.of (fun _ k => XS.istoreN X.here hx rfl hd rfl hl k) q
theorem o_aloadN (X : Stand p l e R s m args below meth c T locs cells slots) (hx : p.tables.exec = Jvm.exec) {k : Fin 4} {v : Value} (hd : decode c.code pc = .ok (.aload_n k, 1)) (hl : Ls[k.val]? = some (.val v)) (hv : v.isRef = true) (q : Go p e below T (mkF m (pc + 1) Ls (v :: rest)) Q) : Go p e below T (mkF m pc Ls (rest)) Q := Go.of (fun _ k => XS.aloadN X.here hx rfl hd hl hv k) q
theorem o_astoreN (X : Stand p l e R s m args below meth c T locs cells slots) (hx : p.tables.exec = Jvm.exec) {k : Fin 4} {v : Value} {l' : Array Slot} (hd : decode c.code pc = .ok (.astore_n k, 1)) (hv : v.isRef = true) (hl : storeLocals Ls k.val v = some l') (q : Go p e below T (mkF m (pc + 1) l' (rest)) Q) : Go p e below T (mkF m pc Ls (v :: rest)) Q := Go.of (fun _ k => XS.astoreN X.here hx rfl hd rfl hv hl k) q
theorem o_iconst (X : Stand p l e R s m args below meth c T locs cells slots) (hx : p.tables.exec = Jvm.exec) {i : Int} (v : Int32) (hd : decode c.code pc = .ok (.iconst i, 1)) (hv : Int32.ofInt i = v) (q : Go p e below T (mkF m (pc + 1) Ls (.int v :: rest)) Q) : Go p e below T (mkF m pc Ls rest) Q := by
  subst hv
  exact Go.of (fun _ k => XS.iconst X.here hx rfl hd k) q
theorem o_iand (X : Stand p l e R s m args below meth c T locs cells slots) (hx : p.tables.exec = Jvm.exec) {x y : Int32} (hd : decode c.code pc = .ok (.iand, 1)) (q : Go p e below T (mkF m (pc + 1) Ls (.int (x &&& y) :: rest)) Q) : Go p e below T (mkF m pc Ls (.int y :: .int x :: rest)) Q := Go.of (fun _ k => XS.iand X.here hx rfl hd rfl k) q
theorem o_irem (X : Stand p l e R s m args below meth c T locs cells slots) (hx : p.tables.exec = Jvm.exec) {x y : Int32} (hd : decode c.code pc = .ok (.irem, 1)) (hy : y ≠ 0) (q : Go p e below T (mkF m (pc + 1) Ls (.int (x % y) :: rest)) Q) : Go p e below T (mkF m pc Ls (.int y :: .int x :: rest)) Q := Go.of (fun _ k => iremM (g := mkF m pc Ls (.int y :: .int x :: rest)) X hx rfl hd rfl hy k) q
theorem o_goto (X : Stand p l e R s m args below meth c T locs cells slots) (hx : p.tables.exec = Jvm.exec) (pc' : Nat) {o : Int} (hd : decode c.code pc = .ok (.goto o, 3)) (ho : 0 ≤ (pc : Int) + o) (hp : ((pc : Int) + o).toNat = pc') (q : Go p e below T (mkF m pc' Ls rest) Q) : Go p e below T (mkF m pc Ls rest) Q := Go.of (fun _ k => XS.goto X.here hx rfl (pc0 := pc) rfl hd ho hp k) q
theorem o_ifYes (X : Stand p l e R s m args below meth c T locs cells slots) (hx : p.tables.exec = Jvm.exec) (pc' : Nat) {cd : ClassFile.Cond} {x : Int32} {o : Int} (hd : decode c.code pc = .ok (.ifCond cd o, 3)) (hc : ifCond.holds cd x = true) (ho : 0 ≤ (pc : Int) + o) (hp : ((pc : Int) + o).toNat = pc') (q : Go p e below T (mkF m pc' Ls rest) Q) : Go p e below T (mkF m pc Ls (.int x :: rest)) Q := Go.of (fun _ k => XS.ifYes X.here hx rfl (pc0 := pc) rfl hd rfl hc ho hp k) q
theorem o_ifNo (X : Stand p l e R s m args below meth c T locs cells slots) (hx : p.tables.exec = Jvm.exec) {cd : ClassFile.Cond} {x : Int32} {o : Int} (hd : decode c.code pc = .ok (.ifCond cd o, 3)) (hc : ifCond.holds cd x = false) (q : Go p e below T (mkF m (pc + 3) Ls rest) Q) : Go p e below T (mkF m pc Ls (.int x :: rest)) Q := Go.of (fun _ k => XS.ifNo X.here hx rfl hd rfl hc k) q
theorem o_icmpYes (X : Stand p l e R s m args below meth c T locs cells slots) (hx : p.tables.exec = Jvm.exec) (pc' : Nat) {cd : ClassFile.Cond} {x y : Int32} {o : Int} (hd : decode c.code pc = .ok (.if_icmp cd o, 3)) (hc : if_icmp.holds cd x y = true) (ho : 0 ≤ (pc : Int) + o) (hp : ((pc : Int) + o).toNat = pc') (q : Go p e below T (mkF m pc' Ls rest) Q) : Go p e below T (mkF m pc Ls (.int y :: .int x :: rest)) Q := Go.of (fun _ k => XS.icmpYes X.here hx rfl (pc0 := pc) rfl hd rfl hc ho hp k) q
theorem o_icmpNo (X : Stand p l e R s m args below meth c T locs cells slots) (hx : p.tables.exec = Jvm.exec) {cd : ClassFile.Cond} {x y : Int32} {o : Int} (hd : decode c.code pc = .ok (.if_icmp cd o, 3)) (hc : if_icmp.holds cd x y = false) (q : Go p e below T (mkF m (pc + 3) Ls rest) Q) : Go p e below T (mkF m pc Ls (.int y :: .int x :: rest)) Q := Go.of (fun _ k => XS.icmpNo X.here hx rfl hd rfl hc k) q
theorem o_tswIn (X : Stand p l e R s m args below meth c T locs cells slots) (hx : p.tables.exec = Jvm.exec) (pc' : Nat) {k k0 : Int32} {dflt low high : Int} {offs : Array Int} {len : Nat} {o : Int} (hd : decode c.code pc = .ok (.tableswitch dflt low high offs, len)) (hk : k = k0) (hin : ¬ (k0.toInt < low ∨ k0.toInt > high)) (hoff : offs[(k0.toInt - low).toNat]? = some o) (ho : 0 ≤ (pc : Int) + o) (hp : ((pc : Int) + o).toNat = pc') (q : Go p e below T (mkF m pc' Ls rest) Q) : Go p e below T (mkF m pc Ls (.int k :: rest)) Q := by
  subst hk
  exact Go.of (fun _ kk => XS.tswIn X.here hx rfl (pc0 := pc) rfl hd rfl hin hoff ho hp kk) q
theorem o_ldcI (X : Stand p l e R s m args below meth c T locs cells slots) (hx : p.tables.exec = Jvm.exec) (hZ : Z.Warmed39 s.vm) {own : String} {index : Nat} {v : Int32} (hown : s.vm.findClass own = some m.cls) (w : (Cond.constant own index v).before a0 Z = true) (hd : decode c.code pc = .ok (.ldc index, 2)) (q : Go p e below T (mkF m (pc + 2) Ls (.int v :: rest)) Q) : Go p e below T (mkF m pc Ls rest) Q := Go.of (fun t k => X.ldcInt hx hown (mvT hZ w) (g := mkF m pc Ls rest) rfl hd t k) q
theorem o_dload (X : Stand p l e R s m args below meth c T locs cells slots) (hx : p.tables.exec = Jvm.exec) {k : Nat} {v : UInt64} (hd : decode c.code pc = .ok (.dload k, 2)) (hl : Ls[k]? = some (.val (.double v))) (q : Go p e below T (mkF m (pc + 2) Ls (.double v :: rest)) Q) : Go p e below T (mkF m pc Ls (rest)) Q := Go.of (fun _ k => XS.dload X.here hx rfl hd hl k) q
theorem o_dloadN (X : Stand p l e R s m args below meth c T locs cells slots) (hx : p.tables.exec = Jvm.exec) {k : Fin 4} {v : UInt64} (hd : decode c.code pc = .ok (.dload_n k, 1)) (hl : Ls[k.val]? = some (.val (.double v))) (q : Go p e below T (mkF m (pc + 1) Ls (.double v :: rest)) Q) : Go p e below T (mkF m pc Ls (rest)) Q := Go.of (fun _ k => XS.dloadN X.here hx rfl hd hl k) q
theorem o_dstore (X : Stand p l e R s m args below meth c T locs cells slots) (hx : p.tables.exec = Jvm.exec) {k : Nat} {v : UInt64} {l' : Array Slot} (hd : decode c.code pc = .ok (.dstore k, 2)) (hl : storeLocals Ls k (.double v) = some l') (q : Go p e below T (mkF m (pc + 2) l' (rest)) Q) : Go p e below T (mkF m pc Ls (.double v :: rest)) Q := Go.of (fun _ k => XS.dstore X.here hx rfl hd rfl hl k) q
theorem o_dconst0 (X : Stand p l e R s m args below meth c T locs cells slots) (hx : p.tables.exec = Jvm.exec) (v : UInt64) (hd : decode c.code pc = .ok (.dconst 0, 1)) (hv : FP.dconst0 = v) (q : Go p e below T (mkF m (pc + 1) Ls (.double v :: rest)) Q) : Go p e below T (mkF m pc Ls (rest)) Q := Go.of (fun _ k => XS.dconst0 X.here hx rfl hd hv k) q
theorem o_i2d (X : Stand p l e R s m args below meth c T locs cells slots) (hx : p.tables.exec = Jvm.exec) {x : Int32} (v : UInt64) (hd : decode c.code pc = .ok (.i2d, 1)) (hv : FP.i2d x = v) (q : Go p e below T (mkF m (pc + 1) Ls (.double v :: rest)) Q) : Go p e below T (mkF m pc Ls (.int x :: rest)) Q := Go.of (fun _ k => XS.i2dS X.here hx rfl hd rfl hv k) q
theorem o_dcmp (X : Stand p l e R s m args below meth c T locs cells slots) (hx : p.tables.exec = Jvm.exec) {o : CmpOp} {x y : UInt64} (v : Int32) (hd : decode c.code pc = .ok (.dcmp o, 1)) (hv : cmpValue (FP.dcmp x y) o = v) (q : Go p e below T (mkF m (pc + 1) Ls (.int v :: rest)) Q) : Go p e below T (mkF m pc Ls (.double y :: .double x :: rest)) Q := Go.of (fun _ k => XS.dcmpS X.here hx rfl hd rfl hv k) q
theorem o_dsub (X : Stand p l e R s m args below meth c T locs cells slots) (hx : p.tables.exec = Jvm.exec) {x y : UInt64} (v : UInt64) (hd : decode c.code pc = .ok (.dsub, 1)) (hn : Jvm.Free.Fl.NoNaN64 (FP.dsub x y)) (hv : FP.dsub x y = v) (q : Go p e below T (mkF m (pc + 1) Ls (.double v :: rest)) Q) : Go p e below T (mkF m pc Ls (.double y :: .double x :: rest)) Q := Go.of (fun _ k => XS.dsubS X.here hx rfl hd rfl hn hv k) q
theorem o_ddiv (X : Stand p l e R s m args below meth c T locs cells slots) (hx : p.tables.exec = Jvm.exec) {x y : UInt64} (v : UInt64) (hd : decode c.code pc = .ok (.ddiv, 1)) (hn : Jvm.Free.Fl.NoNaN64 (FP.ddiv x y)) (hv : FP.ddiv x y = v) (q : Go p e below T (mkF m (pc + 1) Ls (.double v :: rest)) Q) : Go p e below T (mkF m pc Ls (.double y :: .double x :: rest)) Q := Go.of (fun _ k => XS.ddivS X.here hx rfl hd rfl hn hv k) q
theorem o_ldc2D (X : Stand p l e R s m args below meth c T locs cells slots) (hx : p.tables.exec = Jvm.exec) (hZ : Z.Warmed39 s.vm) {own : String} {index : Nat} {v : UInt64} (hown : s.vm.findClass own = some m.cls) (w : (Cond.constantDouble own index v).before a0 Z = true) (hd : decode c.code pc = .ok (.ldc2_w index, 3)) (q : Go p e below T (mkF m (pc + 3) Ls (.double v :: rest)) Q) : Go p e below T (mkF m pc Ls rest) Q := Go.of (fun t k => X.ldc2DoubleC hx hown (mvT hZ w) (g := mkF m pc Ls rest) rfl hd t k) q
theorem o_getS (X : Stand p l e R s m args below meth c T locs cells slots) (hx : p.tables.exec = Jvm.exec) (hZ : Z.Warmed39 s.vm) {own R0 O n d host : String} {index : Nat} (hown : s.vm.findClass own = some m.cls) (w : (Cond.fieldLink own index R0 n d).before a0 Z = true ∨ (Cond.fieldLinkNest own index R0 n d host).before a0 Z = true) (via : Via Z R0 O n d) (eT : T.heap = h) {v : Value} (F : Sta Z h O n d v) (hd : decode c.code pc = .ok (.getstatic index, 3))
    (q : ∀ T', Stand p l e R s m args below meth c T' locs cells slots → T'.heap = h → Go p e below T' (mkF m (pc + 3) Ls (v :: rest)) Q) : Go p e below T (mkF m pc Ls rest) Q := by
  obtain ⟨T', X', e', st⟩ := getS2 X hx hZ hown w via eT F (g := mkF m pc Ls rest) rfl hd
  exact Go.of st (q T' X' e')
theorem o_getF (X : Stand p l e R s m args below meth c T locs cells slots) (hx : p.tables.exec = Jvm.exec) (hZ : Z.Warmed39 s.vm) {own R0 O n d host : String} {index : Nat} (hown : s.vm.findClass own = some m.cls) (w : (Cond.fieldLink own index R0 n d).before a0 Z = true ∨ (Cond.fieldLinkNest own index R0 n d host).before a0 Z = true) (via : Via Z R0 O n d) (eT : T.heap = h) {a : Addr} {v : Value} (F : Fld Z h a O n d v) (hd : decode c.code pc = .ok (.getfield index, 3))
    (q : ∀ T', Stand p l e R s m args below meth c T' locs cells slots → T'.heap = h → Go p e below T' (mkF m (pc + 3) Ls (v :: rest)) Q) : Go p e below T (mkF m pc Ls (.ref a :: rest)) Q := by
  obtain ⟨T', X', e', st⟩ := getF X hx hZ hown w via eT F (g := mkF m pc Ls (.ref a :: rest)) rfl rfl hd
  exact Go.of st (q T' X' e')
def Lv (s : State) (Qc : Option Value → Heap → List Loc → Prop) (C S : Nat) (o : Outcome) (t : State) : Prop := ∃ v L, o = .returned v ∧ Qc v t.heap L ∧ FrameEnd s o t L C S
abbrev Ct (l : Launch) (Z : State) (y : MethodName) (bytes : ByteArray) (maxL : Nat) (ret : Option FieldType) (rm : Room) (ws : List Jvm.Cond) (as : Array Value) (h0 : Heap) (Qc : Option Value → Heap → List Loc → Prop) : Prop := MetFree l y (head1 (Jvm.Cond.code y bytes maxL ret :: ws) rm) (fun a U => a = as ∧ Z.Warmed39 U.vm ∧ U.heap = h0) (fun _ _ _ _ _ => True) (fun _ U o U' => ∃ v L, o = .returned v ∧ Qc v U'.heap L ∧ FrameEnd U o U' L rm.cells rm.slots)
theorem o_body {y : MethodName} {bytes : ByteArray} {maxL : Nat} {ret : Option FieldType} {rm : Room} {ws : List Jvm.Cond} {as : Array Value} {Qc : Option Value → Heap → List Loc → Prop} (hpl : plainFor y = true)
    (body : ∀ (p : Program) (e : Env) (s : State) (m : MethodId) (below : List Frame) (meth : Method) (c : Code) (s₁ : State), Stand p l e rm s m as below meth c s₁ [] 0 0 → p.tables.exec = Jvm.exec → c.code = bytes → c.maxLocals = maxL → meth.sig.returnType = ret → meth.locks = false → s.vm.findClass y.cls = some m.cls → meth.name = y.name → Z.Warmed39 s.vm → s₁.heap = h0 → Go p e below s₁ (entryFrame m as maxL) (Lv s Qc rm.cells rm.slots)) :
    Ct l Z y bytes maxL ret rm ws as h0 Qc := by
  refine MetFree.of_bodySF hpl hisR ?_
  intro p e s m args below meth c s₁ Bd hml0 hP hK
  obtain ⟨rfl, hZ, hh⟩ := hP
  exact body p e s m below meth c s₁ (Stand.of_body Bd) Bd.exec Bd.bytes hml0 Bd.returns Bd.notSynchronized (findClass_of_methodNamed Bd.named) (name_of_methodNamed Bd.named Bd.method).1 hZ (by rw [← hh, Bd.state]; rfl)
theorem o_top {g g' : JFrame} (q : g = g') (k : Go p e below T g' Q) : Go p e below T g Q := q ▸ k
theorem o_retV (X : Stand p l e R s m args below meth c T locs cells slots) (hx : p.tables.exec = Jvm.exec) {Qc : Option Value → Heap → List Loc → Prop} {C S : Nat} {w : Value} {t : FieldType} {i : Instr} (hret : meth.sig.returnType = some t) (hlk : meth.locks = false) (hn : narrow t w = w)
    (hi : (i = .ireturn ∧ (t = .int ∨ t = .boolean ∨ t = .byte ∨ t = .char ∨ t = .short) ∧ ∃ z, w = .int z) ∨ (i = .lreturn ∧ t = .long ∧ ∃ z, w = .long z) ∨ (i = .dreturn ∧ t = .double ∧ ∃ z, w = .double z) ∨ (i = .freturn ∧ t = .float ∧ ∃ z, w = .float z) ∨ (i = .areturn ∧ t.isReference = true ∧ w.isRef = true))
    (hd : decode c.code pc = .ok (i, 1)) (eT : T.heap = h) (q : Qc (some w) h locs) (hC : cells ≤ C) (hS : slots ≤ S) : Go p e below T (mkF m pc Ls (w :: rest)) (Lv s Qc C S) := by
  obtain ⟨fs, hr, hrun, hended, hW, hsame⟩ := X.leave (v := some w) (fun h => by rw [hret] at h; cases h) hlk
  refine ⟨_, _, retOut X hx hret hn hi hd hr, hrun, hended, some w, locs, rfl, ?_, ⟨_, rfl⟩, hW, hsame.mono hC hS⟩
  show Qc (some w) T.heap locs
  rw [eT]; exact q
theorem o_retI (X : Stand p l e R s m args below meth c T locs cells slots) (hx : p.tables.exec = Jvm.exec) {Qc : Option Value → Heap → List Loc → Prop} {C S : Nat} {z : Int32} (hret : meth.sig.returnType = some .int) (hlk : meth.locks = false) (hd : decode c.code pc = .ok (.ireturn, 1)) (eT : T.heap = h) (hC : cells ≤ C) (hS : slots ≤ S) (q : Qc (some (.int z)) h locs) : Go p e below T (mkF m pc Ls (.int z :: rest)) (Lv s Qc C S) := o_retV X hx hret hlk rfl (Or.inl ⟨rfl, Or.inl rfl, z, rfl⟩) hd eT q hC hS
theorem o_retD (X : Stand p l e R s m args below meth c T locs cells slots) (hx : p.tables.exec = Jvm.exec) {Qc : Option Value → Heap → List Loc → Prop} {C S : Nat} {z : UInt64} (hret : meth.sig.returnType = some .double) (hlk : meth.locks = false) (hd : decode c.code pc = .ok (.dreturn, 1)) (eT : T.heap = h) (hC : cells ≤ C) (hS : slots ≤ S) (q : Qc (some (.double z)) h locs) : Go p e below T (mkF m pc Ls (.double z :: rest)) (Lv s Qc C S) := o_retV X hx hret hlk rfl (Or.inr (Or.inr (Or.inl ⟨rfl, rfl, z, rfl⟩))) hd eT q hC hS
theorem o_retN (X : Stand p l e R s m args below meth c T locs cells slots) (hx : p.tables.exec = Jvm.exec) {Qc : Option Value → Heap → List Loc → Prop} {C S : Nat} {z : Int32} (t : FieldType) (hret : meth.sig.returnType = some t) (hlk : meth.locks = false) (ht : t = .boolean ∨ t = .byte ∨ t = .char ∨ t = .short) (hd : decode c.code pc = .ok (.ireturn, 1)) (eT : T.heap = h) (hC : cells ≤ C) (hS : slots ≤ S) (q : Qc (some (.int (nar t z))) h locs) : Go p e below T (mkF m pc Ls (.int z :: rest)) (Lv s Qc C S) := by
  obtain ⟨fs, hr, hrun, hended, hW, hsame⟩ := X.leave (v := some (.int (nar t z))) (fun h => by rw [hret] at h; cases h) hlk
  refine ⟨_, _, retN X hx hret ht hd hr, hrun, hended, some (.int (nar t z)), locs, rfl, ?_, ⟨_, rfl⟩, hW, hsame.mono hC hS⟩
  show Qc _ T.heap locs
  rw [eT]; exact q
theorem o_callV (X : Stand p l e R s m args below meth c T locs cells slots) (hx : p.tables.exec = Jvm.exec) (hZ : Z.Warmed39 s.vm) {y z : MethodName} {bytes : ByteArray} {maxL : Nat} {ret : Option FieldType} {rm : Room} {as : Array Value} {Qc : Option Value → Heap → List Loc → Prop} {own C : String} {index W : Nat} {argsL : List Value} {a : Addr} (hown : s.vm.findClass own = some m.cls) (wl : (Cond.methodLink own index y).before a0 Z = true) (wd : (Cond.declares y).before a0 Z = true) (hnf : NotFace s y) (wsel : (Cond.selects C y z).before a0 Z = true) (wi : (Cond.instanceMethod z).before a0 Z = true) (wz : (Cond.initialized z.cls).before a0 Z = true) (wc : (Cond.code z bytes maxL ret).before a0 Z = true) (hy : y.cls ≠ "java/lang/invoke/MethodHandle" ∧ y.cls ≠ "java/lang/invoke/VarHandle") (hM : Ct l Z z bytes maxL ret rm [] as h Qc) (eT : T.heap = h) (Ea : Exa Z h a C) (hsize : Ls.size = c.maxLocals) (hlen : ∀ sig, parseMethodDescriptor y.desc = some sig → argsL.length = sig.parameters.length) (has : (.ref a :: argsL).toArray = as) {st : List Value} (hst : st = argsL.reverse ++ .ref a :: rest) (hW : (rest.map fun v => v.category).sum ≤ W) (hd : decode c.code pc = .ok (.invokevirtual index, 3)) (hf : rm.frames + 1 ≤ R.frames) (hl : W + (maxL + 11) + rm.locals ≤ R.locals) (hc : cells + rm.cells ≤ R.cells) (hs : slots + rm.slots ≤ R.slots)
    (q : ∀ v T' h' L, Stand p l e R s m args below meth c T' (locs ++ L) (cells + rm.cells) (slots + rm.slots) → T'.heap = h' → Qc v h' L → Go p e below T' (mkF m (pc + 3) Ls (v.toList ++ rest)) Q) : Go p e below T (mkF m pc Ls st) Q := by
  obtain ⟨cq, kq, qa, qb, qc⟩ := isOf hZ eT Ea
  obtain ⟨v, vm₁, ⟨T', L', k', n'⟩, -, X', ⟨L, hQ, l1, y1, z1⟩, st'⟩ := X.virtualBack hx (y := y) (z := z) hown (mvT hZ wl) (mvT hZ wd) hnf (mvT hZ wsel) (mvT hZ wi) hy (backOf (W := W) hM hZ wc wz hf hl) qa qc (g := mkF m pc Ls st) rfl hsize (Steps.refl _) hlen hst (by show 2 * 0 + _ ≤ W; omega) hd (fun _ _ => ⟨has, eT, hc, hs⟩)
  dsimp only [Pt.U, Pt.locs, Pt.cells, Pt.slots] at X' l1 y1 z1 st' hQ
  subst l1 y1 z1
  exact Go.of (fun _ k => st'.trans k) (q v T' _ L X' rfl hQ)
theorem o_callVU (X : Stand p l e R s m args below meth c T locs cells slots) (hx : p.tables.exec = Jvm.exec) (hZ : Z.Warmed39 s.vm) {y z : MethodName} {bytes : ByteArray} {maxL : Nat} {ret : Option FieldType} {rm : Room} {as : Array Value} {Qc : Option Value → Heap → List Loc → Prop} {own C owner : String} {index W : Nat} {argsL : List Value} {a : Addr} (hown : s.vm.findClass own = some m.cls) (wl : (Cond.methodLink own index y).before a0 Z = true) (wsm : (Cond.sameMethod y.cls owner y.name y.desc).before a0 Z = true) (wd : (Cond.declares ⟨owner, y.name, y.desc⟩).before a0 Z = true) (wsel : (Cond.selects C y z).before a0 Z = true) (wi : (Cond.instanceMethod z).before a0 Z = true) (wz : (Cond.initialized z.cls).before a0 Z = true) (wc : (Cond.code z bytes maxL ret).before a0 Z = true) (hy : owner ≠ "java/lang/invoke/MethodHandle" ∧ owner ≠ "java/lang/invoke/VarHandle") (hM : Ct l Z z bytes maxL ret rm [] as h Qc) (eT : T.heap = h) (Ea : Exa Z h a C) (hsize : Ls.size = c.maxLocals) (hlen : ∀ sig, parseMethodDescriptor y.desc = some sig → argsL.length = sig.parameters.length) (has : (.ref a :: argsL).toArray = as) {st : List Value} (hst : st = argsL.reverse ++ .ref a :: rest) (hW : (rest.map fun v => v.category).sum ≤ W) (hd : decode c.code pc = .ok (.invokevirtual index, 3)) (hf : rm.frames + 1 ≤ R.frames) (hl : W + (maxL + 11) + rm.locals ≤ R.locals) (hc : cells + rm.cells ≤ R.cells) (hs : slots + rm.slots ≤ R.slots)
    (q : ∀ v T' h' L, Stand p l e R s m args below meth c T' (locs ++ L) (cells + rm.cells) (slots + rm.slots) → T'.heap = h' → Qc v h' L → Go p e below T' (mkF m (pc + 3) Ls (v.toList ++ rest)) Q) : Go p e below T (mkF m pc Ls st) Q := by
  obtain ⟨cq, kq, qa, qb, qc⟩ := isOf hZ eT Ea
  obtain ⟨v, vm₁, ⟨T', L', k', n'⟩, -, X', ⟨L, hQ, l1, y1, z1⟩, st'⟩ := X.virtualBackUp hx (x := y) (y := z) hown (mvT hZ wl) (mvT hZ wsm) (mvT hZ wd) hy (mvT hZ wsel) (mvT hZ wi) (backOf (W := W) hM hZ wc wz hf hl) qa qc (g := mkF m pc Ls st) rfl hsize (Steps.refl _) hlen hst (by show 2 * 0 + _ ≤ W; omega) hd (fun _ _ => ⟨has, eT, hc, hs⟩)
  dsimp only [Pt.U, Pt.locs, Pt.cells, Pt.slots] at X' l1 y1 z1 st' hQ
  subst l1 y1 z1
  exact Go.of (fun _ k => st'.trans k) (q v T' _ L X' rfl hQ)
theorem o_eqI {first s : State} {o : Option Outcome} {idx : List Nat} {a : Term} {n : Int32} (h : (Cond.eq a (.int n)).value args first o s idx = some true) : a.eval args first o idx s = some (.int n) := Cond.eq_int (beq_iff_eq.mpr h) rfl
end OwnKit

abbrev AlignSta (Z : State) (n : String) (w : Addr) : Prop := Sta Z Z.heap "com/example/handvisor/handvisor/Gravity$Align" n "Lcom/example/handvisor/handvisor/Gravity$Align;" (.ref w)
abbrev AlignExa (Z : State) (w : Addr) : Prop := Exa Z Z.heap w "com/example/handvisor/handvisor/Gravity$Align"
theorem o_b53 (p : Int32) : B53 p.toInt64 := by
  have h1 := Int32.le_toInt p
  have h2 := Int32.toInt_lt p
  have e := Int32.toInt_toInt64 p
  constructor <;> rw [e] <;> omega
theorem o_n0z : Jvm.Free.Fl.NoNaN64 0 := (Jvm.Free.Fl.noNaN64_iff _).mpr (by decide +kernel)
theorem o_nn (p : Int32) : Jvm.Free.Fl.NoNaN64 (FP.i2d p) := nn_w (i2d_w p)
theorem o_dz (p : Int32) : FP.dsub (FP.i2d p) 0 = FP.i2d p := by
  have h := dsub_w (o_b53 p) (b := 0) ⟨by decide, by decide⟩
  rw [l2d_zero] at h
  rw [i2d_w, h, Int64.sub_zero]
theorem o_ds (p : Int32) : FP.dsub (FP.i2d p) (FP.i2d p) = 0 := by
  rw [i2d_w, dsub_w (o_b53 p) (o_b53 p), Int64.sub_self, l2d_zero]
theorem o_val {a : Int64} (ha : a ≠ 0) (hb : B53 a) : ∃ s c q, FP.Core.val64 (FP.l2d a) = .fin s c q ∧ c < 2 ^ 53 ∧ 2 ^ 52 ≤ c ∧ (-52 : Int) ≤ q ∧ q ≤ 0 := by
  have hn : a.toInt.natAbs ≠ 0 := fun q => ha (Int64.toInt_inj.mp (Int.natAbs_eq_zero.mp q))
  have hl : a.toInt.natAbs < 2 ^ 53 := by have h1 := hb.1; have h2 := hb.2; omega
  have hv : FP.Core.val64 (FP.l2d a) = FP.Core.roundRatio FP.Core.b64 (decide (a.toInt < 0)) a.toInt.natAbs 1 0 := FP.Core.val64_l2d a
  rw [hv]
  generalize a.toInt.natAbs = n at hn hl
  have hk : n.log2 < 53 := (Nat.log2_lt hn).mpr hl
  have h1 := Nat.log2_self_le hn
  have h2 := Nat.lt_log2_self (n := n)
  have e1 : 2 ^ n.log2 * 2 ^ (52 - n.log2) = 2 ^ 52 := by rw [← Nat.pow_add]; congr 1; omega
  have e2 : 2 ^ (n.log2 + 1) * 2 ^ (52 - n.log2) = 2 ^ 53 := by rw [← Nat.pow_add]; congr 1; omega
  have c1 : 2 ^ 52 ≤ n * 2 ^ (52 - n.log2) := by rw [← e1]; exact Nat.mul_le_mul_right _ h1
  have c2 : n * 2 ^ (52 - n.log2) < 2 ^ 53 := by rw [← e2]; exact Nat.mul_lt_mul_of_pos_right h2 (Nat.two_pow_pos _)
  refine ⟨_, n * 2 ^ (52 - n.log2), -((52 - n.log2 : Nat) : Int), FP.Core.roundRatio_exact FP.Core.good_b64 (by decide) ⟨c2, ?_, ?_, Or.inr c1⟩ ?_, c2, c1, by omega, by omega⟩
  · show (-1074 : Int) ≤ _; omega
  · show _ ≤ (971 : Int); omega
  · rw [show ((0 : Int) - -((52 - n.log2 : Nat) : Int)).toNat = 52 - n.log2 by omega, show (-((52 - n.log2 : Nat) : Int) - 0).toNat = 0 by omega]; simp
theorem o_half {x : UInt64} {s : Bool} {c : Nat} {q : Int} (hv : FP.Core.val64 x = .fin s c q) (h1 : c < 2 ^ 53) (h2 : 2 ^ 52 ≤ c) (h3 : (-52 : Int) ≤ q) (h4 : q ≤ 0) :
    FP.Core.val64 (FP.ddiv x 4611686018427387904) = .fin s c (q - 1) ∧ FP.dsub x (FP.ddiv x 4611686018427387904) = FP.ddiv x 4611686018427387904 := by
  have hf : FP.Core.fits FP.Core.b64 (.fin s c (q - 1)) := ⟨h1, by show (-1074 : Int) ≤ _; omega, by show _ ≤ (971 : Int); omega, Or.inr h2⟩
  have hb : ∀ s : Bool, (s != false) = s := by decide
  have ht : FP.Core.val64 4611686018427387904 = .fin false (2 ^ 52) (-51) := by decide +kernel
  have hd : FP.Core.val64 (FP.ddiv x 4611686018427387904) = .fin s c (q - 1) := by
    refine (FP.Core.val64_ddiv x 4611686018427387904).trans ?_
    rw [hv, ht]
    show FP.Core.roundRatio FP.Core.b64 (s != false) c (2 ^ 52) (q - -51) = _
    rw [hb]
    refine FP.Core.roundRatio_exact FP.Core.good_b64 (by decide) hf ?_
    rw [show (q - -51 - (q - 1)).toNat = 52 by omega, show (q - 1 - (q - -51)).toNat = 0 by omega]
    simp
  refine ⟨hd, (FP.Core.val64_inj (by rw [hd]; exact FP.Core.Datum.noConfusion) ?_).symm⟩
  refine Eq.symm ((FP.Core.val64_dsub x (FP.ddiv x 4611686018427387904)).trans ?_)
  rw [hv, hd]
  have hu : FP.Core.sumUnits s c q (!s) c (q - 1) (q - 1) = FP.Core.signed s c := by
    show FP.Core.signed s (c * 2 ^ (q - (q - 1)).toNat) + FP.Core.signed (!s) (c * 2 ^ (q - 1 - (q - 1)).toNat) = FP.Core.signed s c
    rw [show (q - (q - 1)).toNat = 1 by omega, show (q - 1 - (q - 1)).toNat = 0 by omega]
    cases s
    · show ((c * 2 ^ 1 : Nat) : Int) + -((c * 2 ^ 0 : Nat) : Int) = (c : Int); omega
    · show -((c * 2 ^ 1 : Nat) : Int) + ((c * 2 ^ 0 : Nat) : Int) = -(c : Int); omega
  have hm : min q (q - 1) = q - 1 := by omega
  show FP.Core.round FP.Core.b64 (.fin (FP.Core.sumSign s (!s) (FP.Core.sumUnits s c q (!s) c (q - 1) (min q (q - 1)))) (FP.Core.sumUnits s c q (!s) c (q - 1) (min q (q - 1))).natAbs (min q (q - 1))) = _
  rw [hm, hu, FP.Core.natAbs_signed]
  have hc : 0 < c := Nat.lt_of_lt_of_le (by decide) h2
  have hs : FP.Core.sumSign s (!s) (FP.Core.signed s c) = s := by
    show (if FP.Core.signed s c = 0 then s && !s else decide (FP.Core.signed s c < 0)) = s
    rw [if_neg (fun e => absurd ((FP.Core.signed_eq_zero s c).mp e) (by omega)), FP.Core.signed_lt_zero s hc]
  rw [hs]
  exact FP.Core.round_of_fits FP.Core.good_b64 hf
theorem o_mid (p : Int32) : Jvm.Free.Fl.NoNaN64 (FP.ddiv (FP.i2d p) 4611686018427387904) ∧ FP.dsub (FP.i2d p) (FP.ddiv (FP.i2d p) 4611686018427387904) = FP.ddiv (FP.i2d p) 4611686018427387904 := by
  rw [i2d_w]
  by_cases h0 : p.toInt64 = 0
  · rw [h0, l2d_zero]; exact ⟨(Jvm.Free.Fl.noNaN64_iff _).mpr (by decide +kernel), by decide +kernel⟩
  · obtain ⟨s, c, q, hv, h1, h2, h3, h4⟩ := o_val h0 (o_b53 p)
    obtain ⟨k1, k2⟩ := o_half hv h1 h2 h3 h4
    exact ⟨Jvm.Free.Fl.val64_no.mpr (by rw [k1]; exact FP.Core.Datum.noConfusion), k2⟩
theorem o_pn_java_lang_Enum : plainName "java/lang/Enum" = true := by first | (simp [plainName, overriddenIn]; done) | decide +kernel
theorem o_d2_0 : decode jdk_37_method_2_code 0 = .ok (.aload_n 0, 1) := by decide +kernel
theorem o_d2_1 : decode jdk_37_method_2_code 1 = .ok (.getfield 7, 3) := by decide +kernel
theorem o_d2_4 : decode jdk_37_method_2_code 4 = .ok (.ireturn, 1) := by decide +kernel
set_option maxRecDepth 65536 in
set_option maxHeartbeats 40000000 in
theorem rmO (l : Launch) (Z : State) (a0 : Array Value) (hw : ∀ d ∈ tables_1, d.before a0 Z = true) (ws : List Jvm.Cond) (a1 : Addr) (k : Int32) (h0 : Heap) (n0 : Nat) (O0 : Old Z n0 h0) (F : Fld Z Z.heap a1 "java/lang/Enum" "ordinal" "I" (.int k)) :
    Ct l Z (⟨"java/lang/Enum", "ordinal", "()I"⟩ : MethodName) jdk_37_method_2_code 1 (some .int) ({ frames := 0, cells := 0, slots := 0, locals := 0 } : Room) ws #[(.ref a1)] h0 (fun v h L => v = some (.int k) ∧ Fr n0 L ∧ h0 = h) := by
  refine o_body (plainFor_of_name o_pn_java_lang_Enum) ?_
  intro p e s m below meth c s₁ X0 hx hby hml hret hlk hown hnm hZ e0
  have N0 := Fr.nil n0
  refine o_top (g' := (mkF m 0 #[.val (.ref a1)] [])) (by first | (simp [entryFrame, mkF, argsToLocals, Value.category]; done) | rfl) ?_
  refine o_aloadN (v := (.ref a1)) (pc := 0) X0 hx (hb hby o_d2_0) rfl rfl ?_
  refine o_getF (pc := 1) X0 hx hZ hown (host := "") (Or.inl (hw _ (List.mem_of_getElem? (i := 16) rfl))) Via.refl e0 (F.ext O0.2) (hb hby o_d2_1) fun T1 X1 e1 => ?_
  exact o_retI (pc := 4) X1 hx hret hlk (hb hby o_d2_4) e1 (by decide) (by decide) ⟨rfl, N0, rfl⟩
theorem o_pn_com_example_handvisor_handvisor_Gravity_Align : plainName "com/example/handvisor/handvisor/Gravity$Align" = true := by first | (simp [plainName, overriddenIn]; done) | decide +kernel
theorem o_d1_0 : decode prog_14_method_4_code 0 = .ok (.aload_n 0, 1) := by decide +kernel
theorem o_d1_1 : decode prog_14_method_4_code 1 = .ok (.invokevirtual 32, 3) := by decide +kernel
theorem o_pd0 : parseMethodDescriptor "()I" = some ⟨[], some .int⟩ := by decide +kernel
theorem o_d1_4 : decode prog_14_method_4_code 4 = .ok (.tableswitch 28 0 2 #[38, 42, 50], 28) := by decide +kernel
theorem o_d1_42 : decode prog_14_method_4_code 42 = .ok (.dconst 0, 1) := by decide +kernel
theorem o_d1_43 : decode prog_14_method_4_code 43 = .ok (.goto 12, 3) := by decide +kernel
theorem o_d1_55 : decode prog_14_method_4_code 55 = .ok (.dreturn, 1) := by decide +kernel
set_option maxRecDepth 65536 in
set_option maxHeartbeats 40000000 in
theorem rmF0 (l : Launch) (Z : State) (a0 : Array Value) (hw : ∀ d ∈ tables_1, d.before a0 Z = true) (ws : List Jvm.Cond) (a1 : Addr) (x : UInt64) (h0 : Heap) (n0 : Nat) (O0 : Old Z n0 h0) (Ea : AlignExa Z a1) (F : Fld Z Z.heap a1 "java/lang/Enum" "ordinal" "I" (.int (0 : Int32))) (hn : Jvm.Free.Fl.NoNaN64 (FP.ddiv x (4611686018427387904 : UInt64))) :
    Ct l Z (⟨"com/example/handvisor/handvisor/Gravity$Align", "offset", "(D)D"⟩ : MethodName) prog_14_method_4_code 3 (some .double) ({ frames := 1, cells := 0, slots := 0, locals := 12 } : Room) ws #[(.ref a1), (.double x)] h0 (fun v h L => v = some (.double (0 : UInt64)) ∧ Fr n0 L ∧ h0 = h) := by
  refine o_body (plainFor_of_name o_pn_com_example_handvisor_handvisor_Gravity_Align) ?_
  intro p e s m below meth c s₁ X0 hx hby hml hret hlk hown hnm hZ e0
  have N0 := Fr.nil n0
  refine o_top (g' := (mkF m 0 #[.val (.ref a1), .val (.double x), .second] [])) (by first | (simp [entryFrame, mkF, argsToLocals, Value.category]; done) | rfl) ?_
  refine o_aloadN (v := (.ref a1)) (pc := 0) X0 hx (hb hby o_d1_0) rfl rfl ?_
  refine o_callVU (pc := 1) X0 hx hZ (y := (⟨"com/example/handvisor/handvisor/Gravity$Align", "ordinal", "()I"⟩ : MethodName)) (z := (⟨"java/lang/Enum", "ordinal", "()I"⟩ : MethodName)) (C := "com/example/handvisor/handvisor/Gravity$Align") (owner := "java/lang/Enum") (a := a1) (argsL := []) (rest := []) hown (hw _ (List.mem_of_getElem? (i := 9) rfl)) (hw _ (List.mem_of_getElem? (i := 10) rfl)) (hw _ (List.mem_of_getElem? (i := 11) rfl)) (hw _ (List.mem_of_getElem? (i := 13) rfl)) (hw _ (List.mem_of_getElem? (i := 12) rfl)) (hw _ (List.mem_of_getElem? (i := 14) rfl)) (hw _ (List.mem_of_getElem? (i := 15) rfl)) (by decide) (rmO l Z a0 hw [] a1 (0 : Int32) h0 n0 O0 F) e0 (Ea.ext O0.2) (by rw [hml]; rfl) (lenOf o_pd0 rfl) (has := rfl) (hst := rfl) (W := 0) (by decide) (hb hby o_d1_1) (by decide) (by decide) (by decide) (by decide) fun v2 T2 h2 L2 X2 e2 q2 => ?_
  obtain ⟨rfl, N2q, rfl⟩ := q2
  have N2 := Fr.app N0 N2q
  show Go p e below T2 (mkF m 4 #[.val (.ref a1), .val (.double x), .second] [(.int (0 : Int32))]) _
  refine o_tswIn (pc := 4) X2 hx 42 (hb hby o_d1_4) (k0 := (0 : Int32)) (o := 38) rfl (by decide) rfl (by decide) (by decide) ?_
  refine o_dconst0 (pc := 42) X2 hx (0 : UInt64) (hb hby o_d1_42) rfl ?_
  refine o_goto (pc := 43) X2 hx 55 (hb hby o_d1_43) (by decide) (by decide) ?_
  exact o_retD (pc := 55) X2 hx hret hlk (hb hby o_d1_55) e2 (by decide) (by decide) ⟨rfl, N2, rfl⟩
theorem o_d1_46 : decode prog_14_method_4_code 46 = .ok (.dload_n 1, 1) := by decide +kernel
theorem o_d1_47 : decode prog_14_method_4_code 47 = .ok (.ldc2_w 41, 3) := by decide +kernel
theorem o_d1_50 : decode prog_14_method_4_code 50 = .ok (.ddiv, 1) := by decide +kernel
theorem o_d1_51 : decode prog_14_method_4_code 51 = .ok (.goto 4, 3) := by decide +kernel
set_option maxRecDepth 65536 in
set_option maxHeartbeats 40000000 in
theorem rmF1 (l : Launch) (Z : State) (a0 : Array Value) (hw : ∀ d ∈ tables_1, d.before a0 Z = true) (ws : List Jvm.Cond) (a1 : Addr) (x : UInt64) (h0 : Heap) (n0 : Nat) (O0 : Old Z n0 h0) (Ea : AlignExa Z a1) (F : Fld Z Z.heap a1 "java/lang/Enum" "ordinal" "I" (.int (1 : Int32))) (hn : Jvm.Free.Fl.NoNaN64 (FP.ddiv x (4611686018427387904 : UInt64))) :
    Ct l Z (⟨"com/example/handvisor/handvisor/Gravity$Align", "offset", "(D)D"⟩ : MethodName) prog_14_method_4_code 3 (some .double) ({ frames := 1, cells := 0, slots := 0, locals := 12 } : Room) ws #[(.ref a1), (.double x)] h0 (fun v h L => v = some (.double (FP.ddiv x (4611686018427387904 : UInt64))) ∧ Fr n0 L ∧ h0 = h) := by
  refine o_body (plainFor_of_name o_pn_com_example_handvisor_handvisor_Gravity_Align) ?_
  intro p e s m below meth c s₁ X0 hx hby hml hret hlk hown hnm hZ e0
  have N0 := Fr.nil n0
  refine o_top (g' := (mkF m 0 #[.val (.ref a1), .val (.double x), .second] [])) (by first | (simp [entryFrame, mkF, argsToLocals, Value.category]; done) | rfl) ?_
  refine o_aloadN (v := (.ref a1)) (pc := 0) X0 hx (hb hby o_d1_0) rfl rfl ?_
  refine o_callVU (pc := 1) X0 hx hZ (y := (⟨"com/example/handvisor/handvisor/Gravity$Align", "ordinal", "()I"⟩ : MethodName)) (z := (⟨"java/lang/Enum", "ordinal", "()I"⟩ : MethodName)) (C := "com/example/handvisor/handvisor/Gravity$Align") (owner := "java/lang/Enum") (a := a1) (argsL := []) (rest := []) hown (hw _ (List.mem_of_getElem? (i := 9) rfl)) (hw _ (List.mem_of_getElem? (i := 10) rfl)) (hw _ (List.mem_of_getElem? (i := 11) rfl)) (hw _ (List.mem_of_getElem? (i := 13) rfl)) (hw _ (List.mem_of_getElem? (i := 12) rfl)) (hw _ (List.mem_of_getElem? (i := 14) rfl)) (hw _ (List.mem_of_getElem? (i := 15) rfl)) (by decide) (rmO l Z a0 hw [] a1 (1 : Int32) h0 n0 O0 F) e0 (Ea.ext O0.2) (by rw [hml]; rfl) (lenOf o_pd0 rfl) (has := rfl) (hst := rfl) (W := 0) (by decide) (hb hby o_d1_1) (by decide) (by decide) (by decide) (by decide) fun v3 T3 h3 L3 X3 e3 q3 => ?_
  obtain ⟨rfl, N3q, rfl⟩ := q3
  have N3 := Fr.app N0 N3q
  show Go p e below T3 (mkF m 4 #[.val (.ref a1), .val (.double x), .second] [(.int (1 : Int32))]) _
  refine o_tswIn (pc := 4) X3 hx 46 (hb hby o_d1_4) (k0 := (1 : Int32)) (o := 42) rfl (by decide) rfl (by decide) (by decide) ?_
  refine o_dloadN (v := x) (pc := 46) X3 hx (hb hby o_d1_46) rfl ?_
  refine o_ldc2D (pc := 47) X3 hx hZ hown (hw _ (List.mem_of_getElem? (i := 22) rfl)) (hb hby o_d1_47) ?_
  refine o_ddiv (pc := 50) X3 hx (FP.ddiv x (4611686018427387904 : UInt64)) (hb hby o_d1_50) hn rfl ?_
  refine o_goto (pc := 51) X3 hx 55 (hb hby o_d1_51) (by decide) (by decide) ?_
  exact o_retD (pc := 55) X3 hx hret hlk (hb hby o_d1_55) e3 (by decide) (by decide) ⟨rfl, N3, rfl⟩
theorem o_d1_54 : decode prog_14_method_4_code 54 = .ok (.dload_n 1, 1) := by decide +kernel
set_option maxRecDepth 65536 in
set_option maxHeartbeats 40000000 in
theorem rmF2 (l : Launch) (Z : State) (a0 : Array Value) (hw : ∀ d ∈ tables_1, d.before a0 Z = true) (ws : List Jvm.Cond) (a1 : Addr) (x : UInt64) (h0 : Heap) (n0 : Nat) (O0 : Old Z n0 h0) (Ea : AlignExa Z a1) (F : Fld Z Z.heap a1 "java/lang/Enum" "ordinal" "I" (.int (2 : Int32))) (hn : Jvm.Free.Fl.NoNaN64 (FP.ddiv x (4611686018427387904 : UInt64))) :
    Ct l Z (⟨"com/example/handvisor/handvisor/Gravity$Align", "offset", "(D)D"⟩ : MethodName) prog_14_method_4_code 3 (some .double) ({ frames := 1, cells := 0, slots := 0, locals := 12 } : Room) ws #[(.ref a1), (.double x)] h0 (fun v h L => v = some (.double x) ∧ Fr n0 L ∧ h0 = h) := by
  refine o_body (plainFor_of_name o_pn_com_example_handvisor_handvisor_Gravity_Align) ?_
  intro p e s m below meth c s₁ X0 hx hby hml hret hlk hown hnm hZ e0
  have N0 := Fr.nil n0
  refine o_top (g' := (mkF m 0 #[.val (.ref a1), .val (.double x), .second] [])) (by first | (simp [entryFrame, mkF, argsToLocals, Value.category]; done) | rfl) ?_
  refine o_aloadN (v := (.ref a1)) (pc := 0) X0 hx (hb hby o_d1_0) rfl rfl ?_
  refine o_callVU (pc := 1) X0 hx hZ (y := (⟨"com/example/handvisor/handvisor/Gravity$Align", "ordinal", "()I"⟩ : MethodName)) (z := (⟨"java/lang/Enum", "ordinal", "()I"⟩ : MethodName)) (C := "com/example/handvisor/handvisor/Gravity$Align") (owner := "java/lang/Enum") (a := a1) (argsL := []) (rest := []) hown (hw _ (List.mem_of_getElem? (i := 9) rfl)) (hw _ (List.mem_of_getElem? (i := 10) rfl)) (hw _ (List.mem_of_getElem? (i := 11) rfl)) (hw _ (List.mem_of_getElem? (i := 13) rfl)) (hw _ (List.mem_of_getElem? (i := 12) rfl)) (hw _ (List.mem_of_getElem? (i := 14) rfl)) (hw _ (List.mem_of_getElem? (i := 15) rfl)) (by decide) (rmO l Z a0 hw [] a1 (2 : Int32) h0 n0 O0 F) e0 (Ea.ext O0.2) (by rw [hml]; rfl) (lenOf o_pd0 rfl) (has := rfl) (hst := rfl) (W := 0) (by decide) (hb hby o_d1_1) (by decide) (by decide) (by decide) (by decide) fun v4 T4 h4 L4 X4 e4 q4 => ?_
  obtain ⟨rfl, N4q, rfl⟩ := q4
  have N4 := Fr.app N0 N4q
  show Go p e below T4 (mkF m 4 #[.val (.ref a1), .val (.double x), .second] [(.int (2 : Int32))]) _
  refine o_tswIn (pc := 4) X4 hx 54 (hb hby o_d1_4) (k0 := (2 : Int32)) (o := 50) rfl (by decide) rfl (by decide) (by decide) ?_
  refine o_dloadN (v := x) (pc := 54) X4 hx (hb hby o_d1_54) rfl ?_
  exact o_retD (pc := 55) X4 hx hret hlk (hb hby o_d1_55) e4 (by decide) (by decide) ⟨rfl, N4, rfl⟩
theorem o_pn_com_example_handvisor_handvisor_GravityAlignOffsetPinLaw : plainName "com/example/handvisor/handvisor/GravityAlignOffsetPinLaw" = true := by first | (simp [plainName, overriddenIn]; done) | decide +kernel
theorem o_pd1 : parseMethodDescriptor "(D)D" = some ⟨[.double], some .double⟩ := by decide +kernel
set_option maxRecDepth 65536 in
set_option maxHeartbeats 40000000 in
theorem rm0 (l : Launch) (Z : State) (a0 : Array Value) (hw : ∀ d ∈ tables_1, d.before a0 Z = true) (ws : List Jvm.Cond) (p1 p2 : Int32) (w_START w_CENTER w_END : Addr) (h0 : Heap) (n0 : Nat) (O0 : Old Z n0 h0) (S_START : AlignSta Z "START" w_START) (S_CENTER : AlignSta Z "CENTER" w_CENTER) (S_END : AlignSta Z "END" w_END) (E_START : AlignExa Z w_START) (E_CENTER : AlignExa Z w_CENTER) (E_END : AlignExa Z w_END) (F_START_ordinal : Fld Z Z.heap w_START "java/lang/Enum" "ordinal" "I" (.int (0 : Int32))) (F_CENTER_ordinal : Fld Z Z.heap w_CENTER "java/lang/Enum" "ordinal" "I" (.int (1 : Int32))) (F_END_ordinal : Fld Z Z.heap w_END "java/lang/Enum" "ordinal" "I" (.int (2 : Int32))) :
    Ct l Z x code maxLocals ret room_1 ws #[(.int p1), (.int p2)] h0 (fun v h L => v = some (.int 1) ∧ Fr n0 L) := by
  refine o_body (plainFor_of_name o_pn_com_example_handvisor_handvisor_GravityAlignOffsetPinLaw) ?_
  intro p e s m below meth c s₁ X0 hx hby hml hret hlk hown hnm hZ e0
  have N0 := Fr.nil n0
  refine o_top (g' := (mkF m 0 #[.val (.int p1), .val (.int p2), .unset, .unset, .unset, .unset, .unset, .unset, .unset, .unset] [])) (by first | (simp [entryFrame, mkF, argsToLocals, Value.category, maxLocals]; done) | rfl) ?_
  refine o_iloadN (v := p1) (pc := 0) X0 hx (hb hby at_0) rfl ?_
  refine o_ldcI (pc := 1) X0 hx hZ hown (hw _ (List.mem_of_getElem? (i := 0) rfl)) (hb hby at_1) ?_
  refine o_iand (pc := 3) X0 hx (hb hby at_3) ?_
  refine o_iconst (pc := 4) X0 hx (3 : Int32) (hb hby at_4) rfl ?_
  refine o_irem (pc := 5) X0 hx (hb hby at_5) (by decide) ?_
  refine o_istoreN (l' := #[.val (.int p1), .val (.int p2), .val (.int ((p1 &&& (2147483647 : Int32)) % (3 : Int32))), .unset, .unset, .unset, .unset, .unset, .unset, .unset]) (pc := 6) X0 hx (hb hby at_6) rfl ?_
  refine o_iloadN (v := ((p1 &&& (2147483647 : Int32)) % (3 : Int32))) (pc := 7) X0 hx (hb hby at_7) rfl ?_
  by_cases hc5 : ((p1 &&& (2147483647 : Int32)) % (3 : Int32)) = (0 : Int32)
  · skip
    refine o_ifNo (pc := 8) X0 hx (hb hby at_8) ((if0 _ _).trans (teq hc5).2) ?_
    refine o_getS (pc := 11) X0 hx hZ hown (host := "") (Or.inl (hw _ (List.mem_of_getElem? (i := 1) rfl))) Via.refl e0 (S_START.ext O0.2) (hb hby at_11) fun T6 X6 e6 => ?_
    refine o_astoreN (l' := #[.val (.int p1), .val (.int p2), .val (.int ((p1 &&& (2147483647 : Int32)) % (3 : Int32))), .val (.ref w_START), .unset, .unset, .unset, .unset, .unset, .unset]) (pc := 14) X6 hx (hb hby at_14) rfl rfl ?_
    refine o_goto (pc := 15) X6 hx 34 (hb hby at_15) (by decide) (by decide) ?_
    refine o_iloadN (v := p2) (pc := 34) X6 hx (hb hby at_34) rfl ?_
    refine o_i2d (pc := 35) X6 hx (FP.i2d p2) (hb hby at_35) rfl ?_
    refine o_dstore (l' := #[.val (.int p1), .val (.int p2), .val (.int ((p1 &&& (2147483647 : Int32)) % (3 : Int32))), .val (.ref w_START), .val (.double (FP.i2d p2)), .second, .unset, .unset, .unset, .unset]) (pc := 36) X6 hx (hb hby at_36) rfl ?_
    refine o_aloadN (v := (.ref w_START)) (pc := 38) X6 hx (hb hby at_38) rfl rfl ?_
    refine o_dload (v := (FP.i2d p2)) (pc := 39) X6 hx (hb hby at_39) rfl ?_
    refine o_callV (pc := 41) X6 hx hZ (y := (⟨"com/example/handvisor/handvisor/Gravity$Align", "offset", "(D)D"⟩ : MethodName)) (z := (⟨"com/example/handvisor/handvisor/Gravity$Align", "offset", "(D)D"⟩ : MethodName)) (C := "com/example/handvisor/handvisor/Gravity$Align") (a := w_START) (argsL := [(.double (FP.i2d p2))]) (rest := []) hown (hw _ (List.mem_of_getElem? (i := 4) rfl)) (hw _ (List.mem_of_getElem? (i := 5) rfl)) (notFace_of_selects (args := #[]) (mvT hZ (hw _ (List.mem_of_getElem? (i := 7) rfl)))) (hw _ (List.mem_of_getElem? (i := 7) rfl)) (hw _ (List.mem_of_getElem? (i := 6) rfl)) (hw _ (List.mem_of_getElem? (i := 2) rfl)) (hw _ (List.mem_of_getElem? (i := 8) rfl)) (by decide) (rmF0 l Z a0 hw [] w_START (FP.i2d p2) h0 n0 O0 E_START F_START_ordinal (o_mid p2).1) e6 (E_START.ext O0.2) (by rw [hml]; rfl) (lenOf o_pd1 rfl) (has := rfl) (hst := rfl) (W := 0) (by decide) (hb hby at_41) (by decide) (by decide) (by decide) (by decide) fun v7 T7 h7 L7 X7 e7 q7 => ?_
    obtain ⟨rfl, N7q, rfl⟩ := q7
    have N7 := Fr.app N0 N7q
    show Go p e below T7 (mkF m 44 #[.val (.int p1), .val (.int p2), .val (.int ((p1 &&& (2147483647 : Int32)) % (3 : Int32))), .val (.ref w_START), .val (.double (FP.i2d p2)), .second, .unset, .unset, .unset, .unset] [(.double (0 : UInt64))]) _
    refine o_dstore (l' := #[.val (.int p1), .val (.int p2), .val (.int ((p1 &&& (2147483647 : Int32)) % (3 : Int32))), .val (.ref w_START), .val (.double (FP.i2d p2)), .second, .val (.double (0 : UInt64)), .second, .unset, .unset]) (pc := 44) X7 hx (hb hby at_44) rfl ?_
    refine o_dload (v := (FP.i2d p2)) (pc := 46) X7 hx (hb hby at_46) rfl ?_
    refine o_dload (v := (0 : UInt64)) (pc := 48) X7 hx (hb hby at_48) rfl ?_
    refine o_dsub (pc := 50) X7 hx (FP.i2d p2) (hb hby at_50) (by rw [o_dz]; exact o_nn p2) (o_dz p2) ?_
    refine o_dstore (l' := #[.val (.int p1), .val (.int p2), .val (.int ((p1 &&& (2147483647 : Int32)) % (3 : Int32))), .val (.ref w_START), .val (.double (FP.i2d p2)), .second, .val (.double (0 : UInt64)), .second, .val (.double (FP.i2d p2)), .second]) (pc := 51) X7 hx (hb hby at_51) rfl ?_
    refine o_iloadN (v := ((p1 &&& (2147483647 : Int32)) % (3 : Int32))) (pc := 53) X7 hx (hb hby at_53) rfl ?_
    refine o_ifNo (pc := 54) X7 hx (hb hby at_54) ((if0 _ _).trans (teq hc5).2) ?_
    refine o_dload (v := (0 : UInt64)) (pc := 57) X7 hx (hb hby at_57) rfl ?_
    refine o_dconst0 (pc := 59) X7 hx (0 : UInt64) (hb hby at_59) rfl ?_
    refine o_dcmp (pc := 60) X7 hx (0 : Int32) (hb hby at_60) (dcmpV_self o_n0z _) ?_
    refine o_ifNo (pc := 61) X7 hx (hb hby at_61) ((if0 _ _).trans (teq (by decide : (0 : Int32) = (0 : Int32))).2) ?_
    refine o_dload (v := (FP.i2d p2)) (pc := 64) X7 hx (hb hby at_64) rfl ?_
    refine o_dload (v := (FP.i2d p2)) (pc := 66) X7 hx (hb hby at_66) rfl ?_
    refine o_dcmp (pc := 68) X7 hx (0 : Int32) (hb hby at_68) (dcmpV_self (o_nn p2) _) ?_
    refine o_ifNo (pc := 69) X7 hx (hb hby at_69) ((if0 _ _).trans (teq (by decide : (0 : Int32) = (0 : Int32))).2) ?_
    refine o_iconst (pc := 72) X7 hx (1 : Int32) (hb hby at_72) rfl ?_
    refine o_goto (pc := 73) X7 hx 77 (hb hby at_73) (by decide) (by decide) ?_
    exact o_retN (pc := 77) X7 hx .boolean hret hlk (by simp) (hb hby at_77) e7 (by decide) (by decide) ⟨rfl, N7⟩
  · skip
    refine o_ifYes (pc := 8) X0 hx 18 (hb hby at_8) ((if0 _ _).trans (feq hc5).2) (by decide) (by decide) ?_
    refine o_iloadN (v := ((p1 &&& (2147483647 : Int32)) % (3 : Int32))) (pc := 18) X0 hx (hb hby at_18) rfl ?_
    refine o_iconst (pc := 19) X0 hx (1 : Int32) (hb hby at_19) rfl ?_
    by_cases hc8 : ((p1 &&& (2147483647 : Int32)) % (3 : Int32)) = (1 : Int32)
    · skip
      refine o_icmpNo (pc := 20) X0 hx (hb hby at_20) (teq hc8).2 ?_
      refine o_getS (pc := 23) X0 hx hZ hown (host := "") (Or.inl (hw _ (List.mem_of_getElem? (i := 20) rfl))) Via.refl e0 (S_CENTER.ext O0.2) (hb hby at_23) fun T9 X9 e9 => ?_
      refine o_astoreN (l' := #[.val (.int p1), .val (.int p2), .val (.int ((p1 &&& (2147483647 : Int32)) % (3 : Int32))), .val (.ref w_CENTER), .unset, .unset, .unset, .unset, .unset, .unset]) (pc := 26) X9 hx (hb hby at_26) rfl rfl ?_
      refine o_goto (pc := 27) X9 hx 34 (hb hby at_27) (by decide) (by decide) ?_
      refine o_iloadN (v := p2) (pc := 34) X9 hx (hb hby at_34) rfl ?_
      refine o_i2d (pc := 35) X9 hx (FP.i2d p2) (hb hby at_35) rfl ?_
      refine o_dstore (l' := #[.val (.int p1), .val (.int p2), .val (.int ((p1 &&& (2147483647 : Int32)) % (3 : Int32))), .val (.ref w_CENTER), .val (.double (FP.i2d p2)), .second, .unset, .unset, .unset, .unset]) (pc := 36) X9 hx (hb hby at_36) rfl ?_
      refine o_aloadN (v := (.ref w_CENTER)) (pc := 38) X9 hx (hb hby at_38) rfl rfl ?_
      refine o_dload (v := (FP.i2d p2)) (pc := 39) X9 hx (hb hby at_39) rfl ?_
      refine o_callV (pc := 41) X9 hx hZ (y := (⟨"com/example/handvisor/handvisor/Gravity$Align", "offset", "(D)D"⟩ : MethodName)) (z := (⟨"com/example/handvisor/handvisor/Gravity$Align", "offset", "(D)D"⟩ : MethodName)) (C := "com/example/handvisor/handvisor/Gravity$Align") (a := w_CENTER) (argsL := [(.double (FP.i2d p2))]) (rest := []) hown (hw _ (List.mem_of_getElem? (i := 4) rfl)) (hw _ (List.mem_of_getElem? (i := 5) rfl)) (notFace_of_selects (args := #[]) (mvT hZ (hw _ (List.mem_of_getElem? (i := 7) rfl)))) (hw _ (List.mem_of_getElem? (i := 7) rfl)) (hw _ (List.mem_of_getElem? (i := 6) rfl)) (hw _ (List.mem_of_getElem? (i := 2) rfl)) (hw _ (List.mem_of_getElem? (i := 8) rfl)) (by decide) (rmF1 l Z a0 hw [] w_CENTER (FP.i2d p2) h0 n0 O0 E_CENTER F_CENTER_ordinal (o_mid p2).1) e9 (E_CENTER.ext O0.2) (by rw [hml]; rfl) (lenOf o_pd1 rfl) (has := rfl) (hst := rfl) (W := 0) (by decide) (hb hby at_41) (by decide) (by decide) (by decide) (by decide) fun v10 T10 h10 L10 X10 e10 q10 => ?_
      obtain ⟨rfl, N10q, rfl⟩ := q10
      have N10 := Fr.app N0 N10q
      show Go p e below T10 (mkF m 44 #[.val (.int p1), .val (.int p2), .val (.int ((p1 &&& (2147483647 : Int32)) % (3 : Int32))), .val (.ref w_CENTER), .val (.double (FP.i2d p2)), .second, .unset, .unset, .unset, .unset] [(.double (FP.ddiv (FP.i2d p2) (4611686018427387904 : UInt64)))]) _
      refine o_dstore (l' := #[.val (.int p1), .val (.int p2), .val (.int ((p1 &&& (2147483647 : Int32)) % (3 : Int32))), .val (.ref w_CENTER), .val (.double (FP.i2d p2)), .second, .val (.double (FP.ddiv (FP.i2d p2) (4611686018427387904 : UInt64))), .second, .unset, .unset]) (pc := 44) X10 hx (hb hby at_44) rfl ?_
      refine o_dload (v := (FP.i2d p2)) (pc := 46) X10 hx (hb hby at_46) rfl ?_
      refine o_dload (v := (FP.ddiv (FP.i2d p2) (4611686018427387904 : UInt64))) (pc := 48) X10 hx (hb hby at_48) rfl ?_
      refine o_dsub (pc := 50) X10 hx (FP.ddiv (FP.i2d p2) (4611686018427387904 : UInt64)) (hb hby at_50) (by rw [(o_mid p2).2]; exact (o_mid p2).1) (o_mid p2).2 ?_
      refine o_dstore (l' := #[.val (.int p1), .val (.int p2), .val (.int ((p1 &&& (2147483647 : Int32)) % (3 : Int32))), .val (.ref w_CENTER), .val (.double (FP.i2d p2)), .second, .val (.double (FP.ddiv (FP.i2d p2) (4611686018427387904 : UInt64))), .second, .val (.double (FP.ddiv (FP.i2d p2) (4611686018427387904 : UInt64))), .second]) (pc := 51) X10 hx (hb hby at_51) rfl ?_
      refine o_iloadN (v := ((p1 &&& (2147483647 : Int32)) % (3 : Int32))) (pc := 53) X10 hx (hb hby at_53) rfl ?_
      refine o_ifYes (pc := 54) X10 hx 78 (hb hby at_54) ((if0 _ _).trans (feq hc5).2) (by decide) (by decide) ?_
      refine o_iloadN (v := ((p1 &&& (2147483647 : Int32)) % (3 : Int32))) (pc := 78) X10 hx (hb hby at_78) rfl ?_
      refine o_iconst (pc := 79) X10 hx (1 : Int32) (hb hby at_79) rfl ?_
      refine o_icmpNo (pc := 80) X10 hx (hb hby at_80) (teq hc8).2 ?_
      refine o_dload (v := (FP.ddiv (FP.i2d p2) (4611686018427387904 : UInt64))) (pc := 83) X10 hx (hb hby at_83) rfl ?_
      refine o_dload (v := (FP.ddiv (FP.i2d p2) (4611686018427387904 : UInt64))) (pc := 85) X10 hx (hb hby at_85) rfl ?_
      refine o_dcmp (pc := 87) X10 hx (0 : Int32) (hb hby at_87) (dcmpV_self (o_mid p2).1 _) ?_
      refine o_ifNo (pc := 88) X10 hx (hb hby at_88) ((if0 _ _).trans (teq (by decide : (0 : Int32) = (0 : Int32))).2) ?_
      refine o_iconst (pc := 91) X10 hx (1 : Int32) (hb hby at_91) rfl ?_
      refine o_goto (pc := 92) X10 hx 96 (hb hby at_92) (by decide) (by decide) ?_
      exact o_retN (pc := 96) X10 hx .boolean hret hlk (by simp) (hb hby at_96) e10 (by decide) (by decide) ⟨rfl, N10⟩
    · skip
      refine o_icmpYes (pc := 20) X0 hx 30 (hb hby at_20) (feq hc8).2 (by decide) (by decide) ?_
      refine o_getS (pc := 30) X0 hx hZ hown (host := "") (Or.inl (hw _ (List.mem_of_getElem? (i := 18) rfl))) Via.refl e0 (S_END.ext O0.2) (hb hby at_30) fun T11 X11 e11 => ?_
      refine o_astoreN (l' := #[.val (.int p1), .val (.int p2), .val (.int ((p1 &&& (2147483647 : Int32)) % (3 : Int32))), .val (.ref w_END), .unset, .unset, .unset, .unset, .unset, .unset]) (pc := 33) X11 hx (hb hby at_33) rfl rfl ?_
      refine o_iloadN (v := p2) (pc := 34) X11 hx (hb hby at_34) rfl ?_
      refine o_i2d (pc := 35) X11 hx (FP.i2d p2) (hb hby at_35) rfl ?_
      refine o_dstore (l' := #[.val (.int p1), .val (.int p2), .val (.int ((p1 &&& (2147483647 : Int32)) % (3 : Int32))), .val (.ref w_END), .val (.double (FP.i2d p2)), .second, .unset, .unset, .unset, .unset]) (pc := 36) X11 hx (hb hby at_36) rfl ?_
      refine o_aloadN (v := (.ref w_END)) (pc := 38) X11 hx (hb hby at_38) rfl rfl ?_
      refine o_dload (v := (FP.i2d p2)) (pc := 39) X11 hx (hb hby at_39) rfl ?_
      refine o_callV (pc := 41) X11 hx hZ (y := (⟨"com/example/handvisor/handvisor/Gravity$Align", "offset", "(D)D"⟩ : MethodName)) (z := (⟨"com/example/handvisor/handvisor/Gravity$Align", "offset", "(D)D"⟩ : MethodName)) (C := "com/example/handvisor/handvisor/Gravity$Align") (a := w_END) (argsL := [(.double (FP.i2d p2))]) (rest := []) hown (hw _ (List.mem_of_getElem? (i := 4) rfl)) (hw _ (List.mem_of_getElem? (i := 5) rfl)) (notFace_of_selects (args := #[]) (mvT hZ (hw _ (List.mem_of_getElem? (i := 7) rfl)))) (hw _ (List.mem_of_getElem? (i := 7) rfl)) (hw _ (List.mem_of_getElem? (i := 6) rfl)) (hw _ (List.mem_of_getElem? (i := 2) rfl)) (hw _ (List.mem_of_getElem? (i := 8) rfl)) (by decide) (rmF2 l Z a0 hw [] w_END (FP.i2d p2) h0 n0 O0 E_END F_END_ordinal (o_mid p2).1) e11 (E_END.ext O0.2) (by rw [hml]; rfl) (lenOf o_pd1 rfl) (has := rfl) (hst := rfl) (W := 0) (by decide) (hb hby at_41) (by decide) (by decide) (by decide) (by decide) fun v12 T12 h12 L12 X12 e12 q12 => ?_
      obtain ⟨rfl, N12q, rfl⟩ := q12
      have N12 := Fr.app N0 N12q
      show Go p e below T12 (mkF m 44 #[.val (.int p1), .val (.int p2), .val (.int ((p1 &&& (2147483647 : Int32)) % (3 : Int32))), .val (.ref w_END), .val (.double (FP.i2d p2)), .second, .unset, .unset, .unset, .unset] [(.double (FP.i2d p2))]) _
      refine o_dstore (l' := #[.val (.int p1), .val (.int p2), .val (.int ((p1 &&& (2147483647 : Int32)) % (3 : Int32))), .val (.ref w_END), .val (.double (FP.i2d p2)), .second, .val (.double (FP.i2d p2)), .second, .unset, .unset]) (pc := 44) X12 hx (hb hby at_44) rfl ?_
      refine o_dload (v := (FP.i2d p2)) (pc := 46) X12 hx (hb hby at_46) rfl ?_
      refine o_dload (v := (FP.i2d p2)) (pc := 48) X12 hx (hb hby at_48) rfl ?_
      refine o_dsub (pc := 50) X12 hx (0 : UInt64) (hb hby at_50) (by rw [o_ds]; exact o_n0z) (o_ds p2) ?_
      refine o_dstore (l' := #[.val (.int p1), .val (.int p2), .val (.int ((p1 &&& (2147483647 : Int32)) % (3 : Int32))), .val (.ref w_END), .val (.double (FP.i2d p2)), .second, .val (.double (FP.i2d p2)), .second, .val (.double (0 : UInt64)), .second]) (pc := 51) X12 hx (hb hby at_51) rfl ?_
      refine o_iloadN (v := ((p1 &&& (2147483647 : Int32)) % (3 : Int32))) (pc := 53) X12 hx (hb hby at_53) rfl ?_
      refine o_ifYes (pc := 54) X12 hx 78 (hb hby at_54) ((if0 _ _).trans (feq hc5).2) (by decide) (by decide) ?_
      refine o_iloadN (v := ((p1 &&& (2147483647 : Int32)) % (3 : Int32))) (pc := 78) X12 hx (hb hby at_78) rfl ?_
      refine o_iconst (pc := 79) X12 hx (1 : Int32) (hb hby at_79) rfl ?_
      refine o_icmpYes (pc := 80) X12 hx 97 (hb hby at_80) (feq hc8).2 (by decide) (by decide) ?_
      refine o_dload (v := (0 : UInt64)) (pc := 97) X12 hx (hb hby at_97) rfl ?_
      refine o_dconst0 (pc := 99) X12 hx (0 : UInt64) (hb hby at_99) rfl ?_
      refine o_dcmp (pc := 100) X12 hx (0 : Int32) (hb hby at_100) (dcmpV_self o_n0z _) ?_
      refine o_ifNo (pc := 101) X12 hx (hb hby at_101) ((if0 _ _).trans (teq (by decide : (0 : Int32) = (0 : Int32))).2) ?_
      refine o_dload (v := (FP.i2d p2)) (pc := 104) X12 hx (hb hby at_104) rfl ?_
      refine o_dload (v := (FP.i2d p2)) (pc := 106) X12 hx (hb hby at_106) rfl ?_
      refine o_dcmp (pc := 108) X12 hx (0 : Int32) (hb hby at_108) (dcmpV_self (o_nn p2) _) ?_
      refine o_ifNo (pc := 109) X12 hx (hb hby at_109) ((if0 _ _).trans (teq (by decide : (0 : Int32) = (0 : Int32))).2) ?_
      refine o_iconst (pc := 112) X12 hx (1 : Int32) (hb hby at_112) rfl ?_
      refine o_goto (pc := 113) X12 hx 117 (hb hby at_113) (by decide) (by decide) ?_
      exact o_retN (pc := 117) X12 hx .boolean hret hlk (by simp) (hb hby at_117) e12 (by decide) (by decide) ⟨rfl, N12⟩
set_option maxRecDepth 65536 in
set_option maxHeartbeats 40000000 in
theorem comes_1 {Post : Tables → Env → Array Value → State → Outcome → State → Prop} (hpost : ∀ tb e args s v u, (limb_1_1.after args s (.returned v) u = true ∧ limb_1_2.after args s (.returned v) u = true ∧ True) → FrameEnd s (.returned v) u (Jvm.fieldLocs frame_1_writes args s ++ Jvm.arrayLocs frame_1_arrays args s ++ Jvm.staticLocs frame_1_statics s) 0 0 → Post tb e args s (.returned v) u) :
    ArmFor flags0 classFile x code maxLocals ret World_1 tables_1 room_1 Calls_1 rest_1 Pre_1 Post := by
  intro l hfl _ _ p e ha hc hk s m args below hf hA hF happ hP
  obtain ⟨hcalls, hrest, hpre⟩ := hP
  obtain ⟨-, -, -, hnamed, -, -, -, hat⟩ := (Spec.applies_iff hf).mp happ
  obtain ⟨hg, hn⟩ := and_e (Cond.before_iff.mp (show (Jvm.Cond.and given_1 narrow_1).before args s = true from hpre))
  obtain ⟨g13, g14⟩ := and_e hg
  obtain ⟨g15, g16⟩ := and_e g14
  obtain ⟨g17, g18⟩ := and_e hn
  obtain ⟨g19, g20⟩ := and_e g18
  obtain ⟨g21, g22⟩ := and_e g20
  obtain ⟨g23, g24⟩ := and_e g22
  obtain ⟨g25, g26⟩ := and_e g24
  obtain ⟨w0, w1, rfl⟩ : ∃ w0 w1 : Value, args = #[w0, w1] := by
    have hs : args.size = 2 := by simpa [Cond.value, given_1] using g13
    obtain ⟨L⟩ := args
    match L, hs with
    | [w0, w1], _ => exact ⟨w0, w1, rfl⟩
  have hw := fun d (hd : d ∈ tables_1) => atoms_spec (ws := Jvm.Cond.code x code maxLocals ret :: tables_1) hat d (List.mem_cons_of_mem _ hd)
  have hfit : Fit s := fun {y c} hc i hi => by
    obtain ⟨ha, rfl⟩ := Array.getElem?_eq_some_iff.mp hc
    have q := List.all_eq_true.mp ((Array.all_eq_true_iff_forall_mem.mp hF) _ (Array.getElem_mem ha)) i (List.mem_range.mpr hi)
    simpa [Array.getElem?_eq_getElem hi] using q
  obtain ⟨i0, ei0⟩ := is_v g15
  obtain rfl : w0 = (.int i0) := Option.some.inj ei0
  obtain ⟨i1, ei1⟩ := is_v g16
  obtain rfl : w1 = (.int i1) := Option.some.inj ei1
  obtain ⟨w_START, ev_START⟩ := exa_v g17
  have S_START := Sta.start ev_START (Or.inr ⟨(hw _ (List.mem_of_getElem? (i := 2) rfl)), (hw _ (List.mem_of_getElem? (i := 3) rfl))⟩)
  have E_START := Exa.start ev_START g17
  obtain ⟨w_END, ev_END⟩ := exa_v g21
  have S_END := Sta.start ev_END (Or.inr ⟨(hw _ (List.mem_of_getElem? (i := 2) rfl)), (hw _ (List.mem_of_getElem? (i := 19) rfl))⟩)
  have E_END := Exa.start ev_END g21
  obtain ⟨w_CENTER, ev_CENTER⟩ := exa_v g25
  have S_CENTER := Sta.start ev_CENTER (Or.inr ⟨(hw _ (List.mem_of_getElem? (i := 2) rfl)), (hw _ (List.mem_of_getElem? (i := 21) rfl))⟩)
  have E_CENTER := Exa.start ev_CENTER g25
  have F_START_ordinal : Fld s s.heap w_START "java/lang/Enum" "ordinal" "I" (.int (0 : Int32)) := Fld.start ((fld_at ev_START).symm.trans (o_eqI g19))
  have F_END_ordinal : Fld s s.heap w_END "java/lang/Enum" "ordinal" "I" (.int (2 : Int32)) := Fld.start ((fld_at ev_END).symm.trans (o_eqI g23))
  have F_CENTER_ordinal : Fld s s.heap w_CENTER "java/lang/Enum" "ordinal" "I" (.int (1 : Int32)) := Fld.start ((fld_at ev_CENTER).symm.trans (o_eqI g26))
  obtain ⟨n, o, h1, h2, h3, _, L, rfl, ⟨rfl, N⟩, hq⟩ := rm0 l s _ hw tables_1 i0 i1 w_START w_CENTER w_END s.heap s.heap.size (Old.start s) S_START S_CENTER S_END E_START E_CENTER E_END F_START_ordinal F_CENTER_ordinal F_END_ordinal p e ha hc hk s m _ below hf ((Spec.applies_iff_loose hf).mp happ).1 ⟨rfl, State.Warmed39.refl s, rfl⟩ trivial
  refine ⟨n, _, h1, h2, h3, hpost _ _ _ _ _ _ ⟨Cond.after_iff.mpr rfl, Cond.after_iff.mpr (eq_i res_at (Term.int_eval (1)) rfl), trivial⟩ ⟨hq.1, hq.2.1, (hq.2.2.sift fun y hy => Or.inr (N y hy)).mono (by decide) (by decide)⟩⟩
theorem main_1_1 : Claimed_1_1 := comes_1 fun _ _ _ _ _ _ h hF => ⟨h.1, hF⟩
theorem main_1_2 : Claimed_1_2 := comes_1 fun _ _ _ _ _ _ h hF => ⟨h.2.1, hF⟩
end Jvm.Pilot.@@N@@
namespace Jvm.Pilot.@@N@@
open Jvm Jvm.ClassFile Sem Op Lib Jvm.Free Jvm.Stand Jvm.Pilot.@@N@@.Jvm.D
/-! MADE BY PROGRAM (witnessworld.py) out of the Statement's table words and the real class files: 12 classes; the members and pool entries that the words name. The judged class is class 1, her method 1. -/
namespace start1
open Jvm.ClassFile
def u (s : String) : CpInfo := .utf8 (stringToUtf16 s)
/-- a pool by its gaps: so many unusable entries, then the entry; so many at the end -/
def gap : Nat → List CpInfo → List CpInfo
  | 0, r => r
  | n + 1, r => .unusable :: gap n r
def poolList (es : List (Nat × CpInfo)) (last : Nat) : List CpInfo := es.foldr (fun e r => gap e.1 (e.2 :: r)) (gap last [])
def pool (es : List (Nat × CpInfo)) (last : Nat) : Array CpInfo := ⟨poolList es last⟩
def fileOf (pool : Array CpInfo) (this : Nat) (attrs : Array Attribute := #[]) (ms : Array MethodInfo := #[]) (fl : Nat := 33) (sup : Nat := 0) (ifs : Array Nat := #[]) (fds : Array FieldInfo := #[]) : ClassFile where
  minorVersion := 0
  majorVersion := 65
  constantPool := pool
  accessFlags := fl
  thisClass := this
  superClass := sup
  interfaces := ifs
  fields := fds
  methods := ms
  attributes := attrs
def plain (name : String) (sup : Option ClassId) : Class where
  name := name
  kind := .ordinary
  loader := none
  accessFlags := 33
  super := sup
  interfaces := #[]
  cf := none
  fields := #[]
  methods := #[]
  instanceTypes := #[]
  staticTypes := #[]
  resolved := #[]
  callSites := []
  init := .initialized
  statics := none
  mirror := none

def pool0 : Array CpInfo := pool [(5, u "<init>"), (0, u "()V"), (1, .class_ 10), (1, u "java/lang/Object")] 113

def k0m0 : Method := { name := "<init>", desc := "()V", sig := { parameters := [], returnType := none }, accessFlags := 1, code := none }
/-- java/lang/Object -/
def k0 : Class := { plain "java/lang/Object" none with
  accessFlags := 33
  interfaces := #[]
  cf := some (fileOf pool0 8 #[] #[{ accessFlags := 1, nameIndex := 5, descriptorIndex := 6, attributes := #[] }] 33 0 #[] #[])
  fields := #[]
  methods := #[k0m0]
  instanceTypes := #[]
  staticTypes := #[]
  resolved := Array.replicate 124 none
  statics := none }

def pool1 : Array CpInfo := pool [(2, .class_ 4), (1, u "java/lang/Object"), (0, u "<init>"), (0, u "()V"), (0, .integer 2147483647), (0, .fieldref 9 10), (0, .class_ 11), (0, .nameAndType 12 13), (0, u "com/example/handvisor/handvisor/Gravity$Align"), (0, u "START"), (0, u "Lcom/example/handvisor/handvisor/Gravity$Align;"), (0, .fieldref 9 15), (0, .nameAndType 16 13), (0, u "CENTER"), (0, .fieldref 9 18), (0, .nameAndType 19 13), (0, u "END"), (0, .methodref 9 21), (0, .nameAndType 22 23), (0, u "offset"), (0, u "(D)D"), (0, .class_ 25), (0, u "com/example/handvisor/handvisor/GravityAlignOffsetPinLaw"), (2, u "law"), (0, u "(II)Z")] 7

def k1m0 : Method := { name := "<init>", desc := "()V", sig := { parameters := [], returnType := none }, accessFlags := 1, code := none }
def k1c1 : Code := { maxStack := 4, maxLocals := 10, code := code, exceptionTable := #[], attributes := #[] }
def k1m1 : Method := { name := "law", desc := "(II)Z", sig := { parameters := [.int, .int], returnType := some .boolean }, accessFlags := 9, code := some k1c1 }
/-- com/example/handvisor/handvisor/GravityAlignOffsetPinLaw -/
def k1 : Class := { plain "com/example/handvisor/handvisor/GravityAlignOffsetPinLaw" (some 0) with
  accessFlags := 49
  interfaces := #[]
  cf := some (fileOf pool1 24 #[] #[{ accessFlags := 1, nameIndex := 5, descriptorIndex := 6, attributes := #[] }, { accessFlags := 9, nameIndex := 28, descriptorIndex := 29, attributes := #[] }] 49 2 #[] #[])
  fields := #[]
  methods := #[k1m0, k1m1]
  instanceTypes := #[]
  staticTypes := #[]
  resolved := Array.replicate 37 none
  statics := none }

def pool2 : Array CpInfo := pool [(1, .class_ 2), (0, u "java/lang/constant/Constable"), (0, .class_ 4), (0, u "java/lang/Object")] 6

/-- java/lang/constant/Constable -/
def k2 : Class := { plain "java/lang/constant/Constable" (some 0) with
  accessFlags := 1537
  interfaces := #[]
  cf := some (fileOf pool2 1 #[] #[] 1537 3 #[] #[])
  fields := #[]
  methods := #[]
  instanceTypes := #[]
  staticTypes := #[]
  resolved := Array.replicate 11 none
  statics := none }

def pool3 : Array CpInfo := pool [(1, .class_ 2), (0, u "java/lang/Comparable"), (0, .class_ 4), (0, u "java/lang/Object")] 7

/-- java/lang/Comparable -/
def k3 : Class := { plain "java/lang/Comparable" (some 0) with
  accessFlags := 1537
  interfaces := #[]
  cf := some (fileOf pool3 1 #[] #[] 1537 3 #[] #[])
  fields := #[]
  methods := #[]
  instanceTypes := #[]
  staticTypes := #[]
  resolved := Array.replicate 12 none
  statics := none }

def pool4 : Array CpInfo := pool [(1, .class_ 2), (0, u "java/io/Serializable"), (0, .class_ 4), (0, u "java/lang/Object")] 2

/-- java/io/Serializable -/
def k4 : Class := { plain "java/io/Serializable" (some 0) with
  accessFlags := 1537
  interfaces := #[]
  cf := some (fileOf pool4 1 #[] #[] 1537 3 #[] #[])
  fields := #[]
  methods := #[]
  instanceTypes := #[]
  staticTypes := #[]
  resolved := Array.replicate 7 none
  statics := none }

def pool5 : Array CpInfo := pool [(2, .class_ 4), (1, u "java/lang/Enum"), (0, u "name"), (0, u "Ljava/lang/String;"), (0, .fieldref 2 8), (0, .nameAndType 9 10), (0, u "ordinal"), (0, u "I"), (1, .class_ 14), (1, u "java/lang/Object"), (4, u "hash"), (86, .class_ 108), (1, u "java/lang/Enum$EnumDesc"), (2, .class_ 112), (0, u "java/lang/constant/Constable"), (0, .class_ 114), (0, u "java/lang/Comparable"), (0, .class_ 116), (0, u "java/io/Serializable"), (9, u "()I")] 77

def k5c0 : Code := { maxStack := 1, maxLocals := 1, code := jdk_37_method_2_code, exceptionTable := #[], attributes := #[] }
def k5m0 : Method := { name := "ordinal", desc := "()I", sig := { parameters := [], returnType := some .int }, accessFlags := 17, code := some k5c0 }
/-- java/lang/Enum -/
def k5 : Class := { plain "java/lang/Enum" (some 0) with
  accessFlags := 1057
  interfaces := #[2, 3, 4]
  cf := some (fileOf pool5 2 #[.nestMembers #[106]] #[{ accessFlags := 17, nameIndex := 9, descriptorIndex := 126, attributes := #[] }] 1057 12 #[111, 113, 115] #[{ accessFlags := 18, nameIndex := 5, descriptorIndex := 6, attributes := #[] }, { accessFlags := 18, nameIndex := 9, descriptorIndex := 10, attributes := #[] }, { accessFlags := 2, nameIndex := 19, descriptorIndex := 10, attributes := #[] }])
  fields := #[{ name := "name", type := (.object "java/lang/String"), accessFlags := 18, slot := 0, constantValue := 0 }, { name := "ordinal", type := .int, accessFlags := 18, slot := 1, constantValue := 0 }, { name := "hash", type := .int, accessFlags := 2, slot := 2, constantValue := 0 }]
  methods := #[k5m0]
  instanceTypes := #[(.object "java/lang/String"), .int, .int]
  staticTypes := #[]
  resolved := Array.replicate 204 none
  statics := none }

def pool6 : Array CpInfo := pool [(1, .class_ 2), (0, u "com/example/handvisor/handvisor/Gravity$Align"), (2, u "START"), (0, u "Lcom/example/handvisor/handvisor/Gravity$Align;"), (2, u "CENTER"), (2, u "END"), (2, u "$VALUES"), (0, u "[Lcom/example/handvisor/handvisor/Gravity$Align;"), (6, .class_ 25), (1, u "java/lang/Enum"), (6, .methodref 1 33), (0, .nameAndType 34 35), (0, u "ordinal"), (0, u "()I"), (5, .double 4611686018427387904), (16, u "offset"), (0, u "(D)D"), (6, .class_ 67), (0, u "com/example/handvisor/handvisor/Gravity")] 2

def k6c0 : Code := { maxStack := 4, maxLocals := 3, code := prog_14_method_4_code, exceptionTable := #[], attributes := #[] }
def k6m0 : Method := { name := "offset", desc := "(D)D", sig := { parameters := [.double], returnType := some .double }, accessFlags := 0, code := some k6c0 }
/-- com/example/handvisor/handvisor/Gravity$Align -/
def k6 : Class := { plain "com/example/handvisor/handvisor/Gravity$Align" (some 5) with
  accessFlags := 16432
  interfaces := #[]
  cf := some (fileOf pool6 1 #[.nestHost 66] #[{ accessFlags := 0, nameIndex := 58, descriptorIndex := 59, attributes := #[] }] 16432 23 #[] #[{ accessFlags := 16409, nameIndex := 5, descriptorIndex := 6, attributes := #[] }, { accessFlags := 16409, nameIndex := 9, descriptorIndex := 6, attributes := #[] }, { accessFlags := 16409, nameIndex := 12, descriptorIndex := 6, attributes := #[] }, { accessFlags := 4122, nameIndex := 15, descriptorIndex := 16, attributes := #[] }])
  fields := #[{ name := "START", type := (.object "com/example/handvisor/handvisor/Gravity$Align"), accessFlags := 16409, slot := 0, constantValue := 0 }, { name := "CENTER", type := (.object "com/example/handvisor/handvisor/Gravity$Align"), accessFlags := 16409, slot := 1, constantValue := 0 }, { name := "END", type := (.object "com/example/handvisor/handvisor/Gravity$Align"), accessFlags := 16409, slot := 2, constantValue := 0 }, { name := "$VALUES", type := (.array (.object "com/example/handvisor/handvisor/Gravity$Align")), accessFlags := 4122, slot := 3, constantValue := 0 }]
  methods := #[k6m0]
  instanceTypes := #[(.object "java/lang/String"), .int, .int]
  staticTypes := #[(.object "com/example/handvisor/handvisor/Gravity$Align"), (.object "com/example/handvisor/handvisor/Gravity$Align"), (.object "com/example/handvisor/handvisor/Gravity$Align"), (.array (.object "com/example/handvisor/handvisor/Gravity$Align"))]
  resolved := Array.replicate 70 none
  statics := some 0 }

def pool7 : Array CpInfo := pool [(1, u "java/lang/Cloneable"), (0, .class_ 1), (0, u "java/lang/Object"), (0, .class_ 3)] 3

/-- java/lang/Cloneable -/
def k7 : Class := { plain "java/lang/Cloneable" (some 0) with
  accessFlags := 1537
  interfaces := #[]
  cf := some (fileOf pool7 2 #[] #[] 1537 4 #[] #[])
  fields := #[]
  methods := #[]
  instanceTypes := #[]
  staticTypes := #[]
  resolved := Array.replicate 8 none
  statics := none }

/-- the primitive byte -/
def k8 : Class := { plain "byte" none with kind := .primitive 'B', accessFlags := 0x411 }
/-- [B -/
def k9 : Class := { plain "[B" (some 0) with kind := .array 8 .byte, interfaces := #[7, 4], accessFlags := 1041 }

/-- the primitive int -/
def k10 : Class := { plain "int" none with kind := .primitive 'I', accessFlags := 0x411 }
/-- [I -/
def k11 : Class := { plain "[I" (some 0) with kind := .array 10 .int, interfaces := #[7, 4], accessFlags := 1041 }

def heap : Heap := #[{ cls := 6, slots := #[.ref 1, .ref 3, .ref 2, .null], vm := .statics 6 },
  { cls := 6, slots := #[.null, .int 0, .int 0], vm := .none },
  { cls := 6, slots := #[.null, .int 2, .int 0], vm := .none },
  { cls := 6, slots := #[.null, .int 1, .int 0], vm := .none }]
def classes : Array Class := #[k0, k1, k2, k3, k4, k5, k6, k7, k8, k9, k10, k11]
def interned : List (Array UInt16 × Addr) := []
def slotsUsed : Nat := 13
def theMethod : MethodId := ⟨1, 1⟩
def args0 : Array Value := #[.int 5, .int 5]
def aboutOver (below : List Frame) : State where
  vm := { classes := classes, interned := interned.toArray }
  heap := heap
  slotsUsed := slotsUsed
  threads := #[{ frames := .invoking theMethod args0 :: below }]
def below0 : List Frame := [.native { method := ⟨0, 0⟩, args := #[] }]
def about1 : State := aboutOver below0
def p0 : Program := .bare "" "" ""
def e0 : Env := launch0.env 0 0 0
theorem w_frames : about1.frames = Frame.invoking theMethod args0 :: below0 := rfl
set_option maxRecDepth 65536 in
theorem w_args : argsFit about1.vm theMethod args0 = true := by decide +kernel
set_option maxRecDepth 65536 in
theorem w_heap : heapFits about1 = true := by decide +kernel
set_option maxRecDepth 65536 in
theorem w_runnable : about1.curStatus? = some .runnable := by decide +kernel
set_option maxRecDepth 65536 in
theorem w_alone : about1.alone = true := by decide +kernel
set_option maxRecDepth 65536 in
theorem w_named : about1.methodNamed? x = some theMethod := by decide +kernel
set_option maxRecDepth 65536 in
theorem w_hears : about1.hears theMethod below0 = true := by decide +kernel
set_option maxRecDepth 65536 in
theorem w_ripe : about1.ripe theMethod args0 below0 = true := by decide +kernel
theorem w_running : about1.status = .running := rfl
set_option maxRecDepth 65536 in
theorem w_room : about1.hasRoom e0.platform room_1 = true :=
  launch0.hasRoom_least _ room_1 (by decide +kernel) (by decide +kernel) (by decide +kernel) (by decide +kernel) (by decide +kernel) (by decide +kernel)
theorem allAtoms_all (ts : List Jvm.Cond) (a : Array Jvm.Value) (st : Jvm.State) : (allAtoms ts).before a st = ts.all (fun c => c.before a st) := by
  induction ts with
  | nil => rfl
  | cons c t ih =>
    show (Jvm.Cond.and c (allAtoms t)).before a st = _
    rw [Jvm.Cond.before_and, ih, List.all_cons]
def words1 : List Jvm.Cond := Jvm.Cond.code x code maxLocals ret :: tables_1
/-- a 'code' word, met by the world's own term for the bytes: nothing is compared byte by byte -/
theorem code_word {y : MethodName} {bytes : ByteArray} {mx : Nat} {rt : Option FieldType} {a : Array Value} {s : State} {m : MethodId} {meth : Method} {c : Code} (h1 : s.methodNamed? y = some m) (h2 : s.vm.method? m = some meth) (h3 : meth.code = some c) (h4 : c.code = bytes)
    (h5 : (c.maxLocals == mx && c.exceptionTable.isEmpty && decide (c.maxStack ≤ mostOperands) && decide (meth.sig.returnType = rt) && !meth.locks && decide (parseMethodDescriptor y.desc = some meth.sig)) = true) : (Jvm.Cond.code y bytes mx rt).before a s = true := by
  simp only [Bool.and_eq_true, beq_iff_eq, Bool.not_eq_true', decide_eq_true_eq] at h5
  obtain ⟨⟨⟨⟨⟨g1, g2⟩, g3⟩, g4⟩, g5⟩, g6⟩ := h5
  simp [Cond.before, Cond.holds, Cond.value, h1, h2, h3, h4, g1, g2, g3, g4, g5, g6]
def isCode : Jvm.Cond → Bool
  | .code _ _ _ _ => true
  | _ => false
theorem all_split {L : List Jvm.Cond} {P : Jvm.Cond → Bool} (h1 : L.all (fun c => isCode c || P c) = true) (h2 : ∀ c ∈ L.filter isCode, P c = true) : L.all P = true := by
  refine List.all_eq_true.mpr fun c hc => ?_
  have h := List.all_eq_true.mp h1 c hc
  rcases Bool.eq_false_or_eq_true (isCode c) with hi | hi
  · exact h2 c (List.mem_filter.mpr ⟨hc, hi⟩)
  · simpa [hi] using h
set_option maxRecDepth 65536 in
theorem w_c0 : (Jvm.Cond.code x code maxLocals ret).before args0 about1 = true := code_word (m := ⟨1, 1⟩) (meth := k1m1) (c := k1c1) (by decide +kernel) rfl rfl rfl (by decide +kernel)
set_option maxRecDepth 65536 in
theorem w_c1 : (Jvm.Cond.code ({ cls := "com/example/handvisor/handvisor/Gravity$Align", name := "offset", desc := "(D)D" } : Jvm.MethodName) prog_14_method_4_code (3 : Nat) (Option.some Jvm.ClassFile.FieldType.double)).before args0 about1 = true := code_word (m := ⟨6, 0⟩) (meth := k6m0) (c := k6c0) (by decide +kernel) rfl rfl rfl (by decide +kernel)
set_option maxRecDepth 65536 in
theorem w_c2 : (Jvm.Cond.code ({ cls := "java/lang/Enum", name := "ordinal", desc := "()I" } : Jvm.MethodName) jdk_37_method_2_code (1 : Nat) (Option.some Jvm.ClassFile.FieldType.int)).before args0 about1 = true := code_word (m := ⟨5, 0⟩) (meth := k5m0) (c := k5c0) (by decide +kernel) rfl rfl rfl (by decide +kernel)
def codes1 : List Jvm.Cond := [Jvm.Cond.code x code maxLocals ret, Jvm.Cond.code ({ cls := "com/example/handvisor/handvisor/Gravity$Align", name := "offset", desc := "(D)D" } : Jvm.MethodName) prog_14_method_4_code (3 : Nat) (Option.some Jvm.ClassFile.FieldType.double), Jvm.Cond.code ({ cls := "java/lang/Enum", name := "ordinal", desc := "()I" } : Jvm.MethodName) jdk_37_method_2_code (1 : Nat) (Option.some Jvm.ClassFile.FieldType.int)]
set_option maxRecDepth 65536 in
theorem codes_eq : words1.filter isCode = codes1 := rfl
theorem w_codes : ∀ c ∈ words1.filter isCode, c.before args0 about1 = true := by
  rw [codes_eq]
  intro c hc
  simp only [codes1, List.mem_cons, List.not_mem_nil, or_false] at hc
  rcases hc with rfl | rfl | rfl
  · exact w_c0
  · exact w_c1
  · exact w_c2
set_option maxRecDepth 65536 in
theorem w_t1 : words1.all (fun c => isCode c || c.before args0 about1) = true := by decide +kernel
theorem w_tables : (allAtoms (Jvm.Cond.code x code maxLocals ret :: tables_1)).before args0 about1 = true := by
  rw [allAtoms_all]
  show words1.all (fun c => c.before args0 about1) = true
  refine all_split ?_ w_codes
  rw [w_t1]
set_option maxRecDepth 65536 in
theorem w_case : (Jvm.Cond.and given_1 narrow_1).before args0 about1 = true := by decide +kernel
theorem w_applies : (headSpec (Jvm.Cond.code x code maxLocals ret :: tables_1) room_1).applies x e0.platform about1 = true :=
  (Spec.applies_iff w_frames).mpr ⟨w_running, w_runnable, w_alone, w_named, w_hears, w_ripe, w_room, w_tables⟩
theorem atStart : AtStart classFile x code maxLocals ret World_1 tables_1 room_1 Calls_1 rest_1 Pre_1 launch0 p0 e0 about1 theMethod args0 below0 :=
  ⟨lists_1, trivial, launch0.admits_env _ _ _, launch0.least_env, fairChoices_fair.cas, fairChoices_fair.clock, w_frames, w_args, w_heap, w_applies, trivial, trivial, w_case⟩
end start1
theorem witness_1 : WitnessClaimed_1 := ⟨start1.p0, start1.e0, start1.about1, start1.theMethod, start1.args0, start1.below0, start1.atStart⟩
end Jvm.Pilot.@@N@@
