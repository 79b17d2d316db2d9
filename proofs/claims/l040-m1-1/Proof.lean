import JvmDerived
import JvmDerived.Pilot.@@N@@Statement
import JvmDerived.Pilot.@@N@@Code
set_option linter.unusedVariables false
set_option linter.unusedSimpArgs false
namespace Jvm.Pilot.@@N@@
open Jvm Jvm.ClassFile Sem Op Lib Jvm.Free Jvm.Stand Jvm.LawKit Jvm.RoadKit Bundle Jvm.Pilot.@@N@@.Jvm.D
section OwnKit
variable {p : Program} {l : Launch} {e : Env} {R : Room} {s : State} {m : MethodId} {args : Array Value} {below : List Frame} {meth : Method} {c : Code} {T : State} {locs : List Loc} {cells slots : Nat} {Z : State} {a0 : Array Value} {h h0 : Heap} {pc : Nat} {Ls : Array Slot} {rest : List Value} {Q : Outcome → State → Prop}
def Go (p : Program) (e : Env) (below : List Frame) (T : State) (g : JFrame) (Q : Outcome → State → Prop) : Prop := ∃ s₂ o, Steps p.tables e below (T.setTop g) s₂ ∧ s₂.status = .running ∧ Ended s₂ below o ∧ Q o s₂
theorem Go.of {T' : State} {g g' : JFrame} (st : ∀ t, Steps p.tables e below (T'.setTop g') t → Steps p.tables e below (T.setTop g) t) (k : Go p e below T' g' Q) : Go p e below T g Q := by
  obtain ⟨a, b, h1, h2⟩ := k; exact ⟨a, b, st a h1, h2⟩
theorem o_iload (X : Stand p l e R s m args below meth c T locs cells slots) (hx : p.tables.exec = Jvm.exec) {k : Nat} {v : Int32} (hd : decode c.code pc = .ok (.iload k, 2)) (hl : Ls[k]? = some (.val (.int v))) (q : Go p e below T (mkF m (pc + 2) Ls (.int v :: rest)) Q) : Go p e below T (mkF m pc Ls (rest)) Q := Go.of (fun _ k => XS.iload X.here hx rfl hd hl k) q
theorem o_iloadN (X : Stand p l e R s m args below meth c T locs cells slots) (hx : p.tables.exec = Jvm.exec) {k : Fin 4} {v : Int32} (hd : decode c.code pc = .ok (.iload_n k, 1)) (hl : Ls[k.val]? = some (.val (.int v))) (q : Go p e below T (mkF m (pc + 1) Ls (.int v :: rest)) Q) : Go p e below T (mkF m pc Ls (rest)) Q := Go.of (fun _ k => XS.iloadN X.here hx rfl hd hl k) q
theorem o_istore (X : Stand p l e R s m args below meth c T locs cells slots) (hx : p.tables.exec = Jvm.exec) {k : Nat} {v : Int32} {l' : Array Slot} (hd : decode c.code pc = .ok (.istore k, 2)) (hl : storeLocals Ls k (.int v) = some l') (q : Go p e below T (mkF m (pc + 2) l' (rest)) Q) : Go p e below T (mkF m pc Ls (.int v :: rest)) Q := Go.of (fun _ k => XS.istore X.here hx rfl hd rfl hl k) q
theorem o_istoreN (X : Stand p l e R s m args below meth c T locs cells slots) (hx : p.tables.exec = Jvm.exec) {k : Fin 4} {v : Int32} {l' : Array Slot} (hd : decode c.code pc = .ok (.istore_n k, 1)) (hl : storeLocals Ls k.val (.int v) = some l') (q : Go p e below T (mkF m (pc + 1) l' (rest)) Q) : Go p e below T (mkF m pc Ls (.int v :: rest)) Q := Go.of (fun _ k => XS.istoreN X.here hx rfl hd rfl hl k) q
theorem o_aload (X : Stand p l e R s m args below meth c T locs cells slots) (hx : p.tables.exec = Jvm.exec) {k : Nat} {v : Value} (hd : decode c.code pc = .ok (.aload k, 2)) (hl : Ls[k]? = some (.val v)) (hv : v.isRef = true) (q : Go p e below T (mkF m (pc + 2) Ls (v :: rest)) Q) : Go p e below T (mkF m pc Ls (rest)) Q := Go.of (fun _ k => XS.aload X.here hx rfl hd hl hv k) q
theorem o_aloadN (X : Stand p l e R s m args below meth c T locs cells slots) (hx : p.tables.exec = Jvm.exec) {k : Fin 4} {v : Value} (hd : decode c.code pc = .ok (.aload_n k, 1)) (hl : Ls[k.val]? = some (.val v)) (hv : v.isRef = true) (q : Go p e below T (mkF m (pc + 1) Ls (v :: rest)) Q) : Go p e below T (mkF m pc Ls (rest)) Q := Go.of (fun _ k => XS.aloadN X.here hx rfl hd hl hv k) q
theorem o_astore (X : Stand p l e R s m args below meth c T locs cells slots) (hx : p.tables.exec = Jvm.exec) {k : Nat} {v : Value} {l' : Array Slot} (hd : decode c.code pc = .ok (.astore k, 2)) (hv : v.isRef = true) (hl : storeLocals Ls k v = some l') (q : Go p e below T (mkF m (pc + 2) l' (rest)) Q) : Go p e below T (mkF m pc Ls (v :: rest)) Q := Go.of (fun _ k => XS.astore X.here hx rfl hd rfl hv hl k) q
theorem o_iconst (X : Stand p l e R s m args below meth c T locs cells slots) (hx : p.tables.exec = Jvm.exec) {i : Int} (v : Int32) (hd : decode c.code pc = .ok (.iconst i, 1)) (hv : Int32.ofInt i = v) (q : Go p e below T (mkF m (pc + 1) Ls (.int v :: rest)) Q) : Go p e below T (mkF m pc Ls rest) Q := by
  subst hv
  exact Go.of (fun _ k => XS.iconst X.here hx rfl hd k) q
theorem o_sipush (X : Stand p l e R s m args below meth c T locs cells slots) (hx : p.tables.exec = Jvm.exec) {i : Int} (v : Int32) (hd : decode c.code pc = .ok (.sipush i, 3)) (hv : (Int16.ofInt i).toInt32 = v) (q : Go p e below T (mkF m (pc + 3) Ls (.int v :: rest)) Q) : Go p e below T (mkF m pc Ls rest) Q := by
  subst hv
  exact Go.of (fun _ k => XS.sipush X.here hx rfl hd k) q
theorem o_iadd (X : Stand p l e R s m args below meth c T locs cells slots) (hx : p.tables.exec = Jvm.exec) {x y : Int32} (hd : decode c.code pc = .ok (.iadd, 1)) (q : Go p e below T (mkF m (pc + 1) Ls (.int (x + y) :: rest)) Q) : Go p e below T (mkF m pc Ls (.int y :: .int x :: rest)) Q := Go.of (fun _ k => XS.iadd X.here hx rfl hd rfl k) q
theorem o_imul (X : Stand p l e R s m args below meth c T locs cells slots) (hx : p.tables.exec = Jvm.exec) {x y : Int32} (hd : decode c.code pc = .ok (.imul, 1)) (q : Go p e below T (mkF m (pc + 1) Ls (.int (x * y) :: rest)) Q) : Go p e below T (mkF m pc Ls (.int y :: .int x :: rest)) Q := Go.of (fun _ k => XS.imul X.here hx rfl hd rfl k) q
theorem o_iand (X : Stand p l e R s m args below meth c T locs cells slots) (hx : p.tables.exec = Jvm.exec) {x y : Int32} (hd : decode c.code pc = .ok (.iand, 1)) (q : Go p e below T (mkF m (pc + 1) Ls (.int (x &&& y) :: rest)) Q) : Go p e below T (mkF m pc Ls (.int y :: .int x :: rest)) Q := Go.of (fun _ k => XS.iand X.here hx rfl hd rfl k) q
theorem o_ishr (X : Stand p l e R s m args below meth c T locs cells slots) (hx : p.tables.exec = Jvm.exec) {x y : Int32} (hd : decode c.code pc = .ok (.ishr, 1)) (q : Go p e below T (mkF m (pc + 1) Ls (.int (x >>> (y &&& 31)) :: rest)) Q) : Go p e below T (mkF m pc Ls (.int y :: .int x :: rest)) Q := Go.of (fun _ k => XS.ishr X.here hx rfl hd rfl k) q
theorem o_goto (X : Stand p l e R s m args below meth c T locs cells slots) (hx : p.tables.exec = Jvm.exec) (pc' : Nat) {o : Int} (hd : decode c.code pc = .ok (.goto o, 3)) (ho : 0 ≤ (pc : Int) + o) (hp : ((pc : Int) + o).toNat = pc') (q : Go p e below T (mkF m pc' Ls rest) Q) : Go p e below T (mkF m pc Ls rest) Q := Go.of (fun _ k => XS.goto X.here hx rfl (pc0 := pc) rfl hd ho hp k) q
theorem o_ifYes (X : Stand p l e R s m args below meth c T locs cells slots) (hx : p.tables.exec = Jvm.exec) (pc' : Nat) {cd : ClassFile.Cond} {x : Int32} {o : Int} (hd : decode c.code pc = .ok (.ifCond cd o, 3)) (hc : ifCond.holds cd x = true) (ho : 0 ≤ (pc : Int) + o) (hp : ((pc : Int) + o).toNat = pc') (q : Go p e below T (mkF m pc' Ls rest) Q) : Go p e below T (mkF m pc Ls (.int x :: rest)) Q := Go.of (fun _ k => XS.ifYes X.here hx rfl (pc0 := pc) rfl hd rfl hc ho hp k) q
theorem o_ifNo (X : Stand p l e R s m args below meth c T locs cells slots) (hx : p.tables.exec = Jvm.exec) {cd : ClassFile.Cond} {x : Int32} {o : Int} (hd : decode c.code pc = .ok (.ifCond cd o, 3)) (hc : ifCond.holds cd x = false) (q : Go p e below T (mkF m (pc + 3) Ls rest) Q) : Go p e below T (mkF m pc Ls (.int x :: rest)) Q := Go.of (fun _ k => XS.ifNo X.here hx rfl hd rfl hc k) q
theorem o_icmpYes (X : Stand p l e R s m args below meth c T locs cells slots) (hx : p.tables.exec = Jvm.exec) (pc' : Nat) {cd : ClassFile.Cond} {x y : Int32} {o : Int} (hd : decode c.code pc = .ok (.if_icmp cd o, 3)) (hc : if_icmp.holds cd x y = true) (ho : 0 ≤ (pc : Int) + o) (hp : ((pc : Int) + o).toNat = pc') (q : Go p e below T (mkF m pc' Ls rest) Q) : Go p e below T (mkF m pc Ls (.int y :: .int x :: rest)) Q := Go.of (fun _ k => XS.icmpYes X.here hx rfl (pc0 := pc) rfl hd rfl hc ho hp k) q
theorem o_icmpNo (X : Stand p l e R s m args below meth c T locs cells slots) (hx : p.tables.exec = Jvm.exec) {cd : ClassFile.Cond} {x y : Int32} {o : Int} (hd : decode c.code pc = .ok (.if_icmp cd o, 3)) (hc : if_icmp.holds cd x y = false) (q : Go p e below T (mkF m (pc + 3) Ls rest) Q) : Go p e below T (mkF m pc Ls (.int y :: .int x :: rest)) Q := Go.of (fun _ k => XS.icmpNo X.here hx rfl hd rfl hc k) q
theorem o_acmp (X : Stand p l e R s m args below meth c T locs cells slots) (hx : p.tables.exec = Jvm.exec) (pc' : Nat) (same : Bool) {cd : ACond} {x y : Value} {o : Int} (h1 : x.isRef = true) (h2 : y.isRef = true) (hd : decode c.code pc = .ok (.if_acmp cd o, 3)) (hq : decide (x = y) = same) (ho : 0 ≤ (pc : Int) + o) (hp : pc' = if acV cd same = true then ((pc : Int) + o).toNat else pc + 3) (q : Go p e below T (mkF m pc' Ls rest) Q) : Go p e below T (mkF m pc Ls (y :: x :: rest)) Q := Go.of (fun _ k => Jvm.RoadKit.acmp (g := mkF m pc Ls (y :: x :: rest)) X hx rfl h1 h2 (pc0 := pc) rfl hd rfl hq ho hp k) q
theorem o_getS (X : Stand p l e R s m args below meth c T locs cells slots) (hx : p.tables.exec = Jvm.exec) (hZ : Z.Warmed39 s.vm) {own R0 O n d host : String} {index : Nat} (hown : s.vm.findClass own = some m.cls) (w : (Cond.fieldLink own index R0 n d).before a0 Z = true ∨ (Cond.fieldLinkNest own index R0 n d host).before a0 Z = true) (via : Via Z R0 O n d) (eT : T.heap = h) {v : Value} (F : Sta Z h O n d v) (hd : decode c.code pc = .ok (.getstatic index, 3))
    (q : ∀ T', Stand p l e R s m args below meth c T' locs cells slots → T'.heap = h → Go p e below T' (mkF m (pc + 3) Ls (v :: rest)) Q) : Go p e below T (mkF m pc Ls rest) Q := by
  obtain ⟨T', X', e', st⟩ := getS2 X hx hZ hown w via eT F (g := mkF m pc Ls rest) rfl hd
  exact Go.of st (q T' X' e')
def Lv (s : State) (Qc : Option Value → Heap → List Loc → Prop) (C S : Nat) (o : Outcome) (t : State) : Prop := ∃ v L, o = .returned v ∧ Qc v t.heap L ∧ FrameEnd s o t L C S
abbrev Ct (l : Launch) (Z : State) (y : MethodName) (bytes : ByteArray) (maxL : Nat) (ret : Option FieldType) (rm : Room) (ws : List Jvm.Cond) (as : Array Value) (h0 : Heap) (Qc : Option Value → Heap → List Loc → Prop) : Prop := MetFree l y (head1 (Jvm.Cond.code y bytes maxL ret :: ws) rm) (fun a U => a = as ∧ Z.Warmed39 U.vm ∧ U.heap = h0) (fun _ _ _ _ _ => True) (fun _ U o U' => ∃ v L, o = .returned v ∧ Qc v U'.heap L ∧ FrameEnd U o U' L rm.cells rm.slots)
theorem o_body {y : MethodName} {bytes : ByteArray} {maxL : Nat} {ret : Option FieldType} {rm : Room} {ws : List Jvm.Cond} {as : Array Value} {Qc : Option Value → Heap → List Loc → Prop} (hpl : plainFor y = true)
    (body : ∀ (p : Program) (e : Env) (s : State) (m : MethodId) (below : List Frame) (meth : Method) (c : Code) (s₁ : State), Stand p l e rm s m as below meth c s₁ [] 0 0 → p.tables.exec = Jvm.exec → c.code = bytes → c.maxLocals = maxL → meth.sig.returnType = ret → meth.locks = false → s.vm.findClass y.cls = some m.cls → meth.name = y.name → Z.Warmed39 s.vm → s₁.heap = h0 → Go p e below s₁ (entryFrame m as maxL) (Lv s Qc rm.cells rm.slots)) :
    Ct l Z y bytes maxL ret rm ws as h0 Qc := by
  refine MetFree.of_bodySF hpl hisR ?_
  intro p e s m args below meth c s₁ Bd hml0 hP hK
  obtain ⟨rfl, hZ, hh⟩ := hP
  exact body p e s m below meth c s₁ (Stand.of_body Bd) Bd.exec Bd.bytes hml0 Bd.returns Bd.notSynchronized (findClass_of_methodNamed Bd.named) (name_of_methodNamed Bd.named Bd.method).1 hZ (by rw [← hh, Bd.state]; rfl)
theorem o_top {g g' : JFrame} (q : g = g') (k : Go p e below T g' Q) : Go p e below T g Q := q ▸ k
theorem o_retV (X : Stand p l e R s m args below meth c T locs cells slots) (hx : p.tables.exec = Jvm.exec) {Qc : Option Value → Heap → List Loc → Prop} {C S : Nat} {w : Value} {t : FieldType} {i : Instr} (hret : meth.sig.returnType = some t) (hlk : meth.locks = false) (hn : narrow t w = w)
    (hi : (i = .ireturn ∧ (t = .int ∨ t = .boolean ∨ t = .byte ∨ t = .char ∨ t = .short) ∧ ∃ z, w = .int z) ∨ (i = .lreturn ∧ t = .long ∧ ∃ z, w = .long z) ∨ (i = .dreturn ∧ t = .double ∧ ∃ z, w = .double z) ∨ (i = .freturn ∧ t = .float ∧ ∃ z, w = .float z) ∨ (i = .areturn ∧ t.isReference = true ∧ w.isRef = true))
    (hd : decode c.code pc = .ok (i, 1)) (eT : T.heap = h) (q : Qc (some w) h locs) (hC : cells ≤ C) (hS : slots ≤ S) : Go p e below T (mkF m pc Ls (w :: rest)) (Lv s Qc C S) := by
  obtain ⟨fs, hr, hrun, hended, hW, hsame⟩ := X.leave (v := some w) (fun h => by rw [hret] at h; cases h) hlk
  refine ⟨_, _, retOut X hx hret hn hi hd hr, hrun, hended, some w, locs, rfl, ?_, ⟨_, rfl⟩, hW, hsame.mono hC hS⟩
  show Qc (some w) T.heap locs
  rw [eT]; exact q
theorem o_retA (X : Stand p l e R s m args below meth c T locs cells slots) (hx : p.tables.exec = Jvm.exec) {Qc : Option Value → Heap → List Loc → Prop} {C S : Nat} {w : Value} {t : FieldType} (hret : meth.sig.returnType = some t) (hlk : meth.locks = false) (ht : t.isReference = true) (hw : w.isRef = true) (hd : decode c.code pc = .ok (.areturn, 1)) (eT : T.heap = h) (hC : cells ≤ C) (hS : slots ≤ S) (q : Qc (some w) h locs) : Go p e below T (mkF m pc Ls (w :: rest)) (Lv s Qc C S) := o_retV X hx hret hlk (by rcases ref_cases hw with rfl | ⟨a, rfl⟩ <;> cases t <;> first | rfl | (cases ht; done)) (Or.inr (Or.inr (Or.inr (Or.inr ⟨rfl, ht, hw⟩)))) hd eT q hC hS
theorem o_retN (X : Stand p l e R s m args below meth c T locs cells slots) (hx : p.tables.exec = Jvm.exec) {Qc : Option Value → Heap → List Loc → Prop} {C S : Nat} {z : Int32} (t : FieldType) (hret : meth.sig.returnType = some t) (hlk : meth.locks = false) (ht : t = .boolean ∨ t = .byte ∨ t = .char ∨ t = .short) (hd : decode c.code pc = .ok (.ireturn, 1)) (eT : T.heap = h) (hC : cells ≤ C) (hS : slots ≤ S) (q : Qc (some (.int (nar t z))) h locs) : Go p e below T (mkF m pc Ls (.int z :: rest)) (Lv s Qc C S) := by
  obtain ⟨fs, hr, hrun, hended, hW, hsame⟩ := X.leave (v := some (.int (nar t z))) (fun h => by rw [hret] at h; cases h) hlk
  refine ⟨_, _, retN X hx hret ht hd hr, hrun, hended, some (.int (nar t z)), locs, rfl, ?_, ⟨_, rfl⟩, hW, hsame.mono hC hS⟩
  show Qc _ T.heap locs
  rw [eT]; exact q
theorem o_callS (X : Stand p l e R s m args below meth c T locs cells slots) (hx : p.tables.exec = Jvm.exec) (hZ : Z.Warmed39 s.vm) {y : MethodName} {bytes : ByteArray} {maxL : Nat} {ret : Option FieldType} {rm : Room} {as : Array Value} {Qc : Option Value → Heap → List Loc → Prop} {own : String} {index W : Nat} {argsL : List Value} (hown : s.vm.findClass own = some m.cls) (wl : (Cond.methodLink own index y).before a0 Z = true) (wst : (Cond.static y).before a0 Z = true) (wz : (Cond.initialized y.cls).before a0 Z = true) (wc : (Cond.code y bytes maxL ret).before a0 Z = true) (hy : y.cls ≠ "java/lang/invoke/MethodHandle" ∧ y.cls ≠ "java/lang/invoke/VarHandle") (hM : Ct l Z y bytes maxL ret rm [] as h Qc) (eT : T.heap = h) (hsize : Ls.size = c.maxLocals) (hlen : ∀ sig, parseMethodDescriptor y.desc = some sig → argsL.length = sig.parameters.length) (has : argsL.toArray = as) {st : List Value} (hst : st = argsL.reverse ++ rest) (hW : (rest.map fun v => v.category).sum ≤ W) (hd : decode c.code pc = .ok (.invokestatic index, 3)) (hf : rm.frames + 1 ≤ R.frames) (hl : W + (maxL + 11) + rm.locals ≤ R.locals) (hc : cells + rm.cells ≤ R.cells) (hs : slots + rm.slots ≤ R.slots)
    (q : ∀ v T' h' L, Stand p l e R s m args below meth c T' (locs ++ L) (cells + rm.cells) (slots + rm.slots) → T'.heap = h' → Qc v h' L → Go p e below T' (mkF m (pc + 3) Ls (v.toList ++ rest)) Q) : Go p e below T (mkF m pc Ls st) Q := by
  obtain ⟨v, vm₁, ⟨T', L', k', n'⟩, -, X', ⟨L, hQ, l1, y1, z1⟩, st'⟩ := Jvm.LawKit.callS X hx (y := y) hown (mvT hZ wl) (mvT hZ wst) (mvT hZ wz) (mvT hZ wc) hy (backOf (W := W) hM hZ wc wz hf hl) (g := mkF m pc Ls st) rfl hsize hlen hst (by show 2 * 0 + _ ≤ W; omega) hd (fun _ _ => ⟨has, eT, hc, hs⟩)
  dsimp only [Pt.U, Pt.locs, Pt.cells, Pt.slots] at X' l1 y1 z1 st' hQ
  subst l1 y1 z1
  exact Go.of st' (q v T' _ L X' rfl hQ)
theorem o_callV (X : Stand p l e R s m args below meth c T locs cells slots) (hx : p.tables.exec = Jvm.exec) (hZ : Z.Warmed39 s.vm) {y z : MethodName} {bytes : ByteArray} {maxL : Nat} {ret : Option FieldType} {rm : Room} {as : Array Value} {Qc : Option Value → Heap → List Loc → Prop} {own C : String} {index W : Nat} {argsL : List Value} {a : Addr} (hown : s.vm.findClass own = some m.cls) (wl : (Cond.methodLink own index y).before a0 Z = true) (wd : (Cond.declares y).before a0 Z = true) (hnf : NotFace s y) (wsel : (Cond.selects C y z).before a0 Z = true) (wi : (Cond.instanceMethod z).before a0 Z = true) (wz : (Cond.initialized z.cls).before a0 Z = true) (wc : (Cond.code z bytes maxL ret).before a0 Z = true) (hy : y.cls ≠ "java/lang/invoke/MethodHandle" ∧ y.cls ≠ "java/lang/invoke/VarHandle") (hM : Ct l Z z bytes maxL ret rm [] as h Qc) (eT : T.heap = h) (Ea : Exa Z h a C) (hsize : Ls.size = c.maxLocals) (hlen : ∀ sig, parseMethodDescriptor y.desc = some sig → argsL.length = sig.parameters.length) (has : (.ref a :: argsL).toArray = as) {st : List Value} (hst : st = argsL.reverse ++ .ref a :: rest) (hW : (rest.map fun v => v.category).sum ≤ W) (hd : decode c.code pc = .ok (.invokevirtual index, 3)) (hf : rm.frames + 1 ≤ R.frames) (hl : W + (maxL + 11) + rm.locals ≤ R.locals) (hc : cells + rm.cells ≤ R.cells) (hs : slots + rm.slots ≤ R.slots)
    (q : ∀ v T' h' L, Stand p l e R s m args below meth c T' (locs ++ L) (cells + rm.cells) (slots + rm.slots) → T'.heap = h' → Qc v h' L → Go p e below T' (mkF m (pc + 3) Ls (v.toList ++ rest)) Q) : Go p e below T (mkF m pc Ls st) Q := by
  obtain ⟨cq, kq, qa, qb, qc⟩ := isOf hZ eT Ea
  obtain ⟨v, vm₁, ⟨T', L', k', n'⟩, -, X', ⟨L, hQ, l1, y1, z1⟩, st'⟩ := X.virtualBack hx (y := y) (z := z) hown (mvT hZ wl) (mvT hZ wd) hnf (mvT hZ wsel) (mvT hZ wi) hy (backOf (W := W) hM hZ wc wz hf hl) qa qc (g := mkF m pc Ls st) rfl hsize (Steps.refl _) hlen hst (by show 2 * 0 + _ ≤ W; omega) hd (fun _ _ => ⟨has, eT, hc, hs⟩)
  dsimp only [Pt.U, Pt.locs, Pt.cells, Pt.slots] at X' l1 y1 z1 st' hQ
  subst l1 y1 z1
  exact Go.of (fun _ k => st'.trans k) (q v T' _ L X' rfl hQ)
theorem o_eqI {first s : State} {o : Option Outcome} {idx : List Nat} {a : Term} {n : Int32} (h : (Cond.eq a (.int n)).value args first o s idx = some true) : a.eval args first o idx s = some (.int n) := Cond.eq_int (beq_iff_eq.mpr h) rfl
end OwnKit

abbrev KSta (Z : State) (n : String) (w : Addr) : Prop := Sta Z Z.heap "com/example/muhasib/muhasib/resource/ResourceName$Kind" n "Lcom/example/muhasib/muhasib/resource/ResourceName$Kind;" (.ref w)
abbrev KExa (Z : State) (w : Addr) : Prop := Exa Z Z.heap w "com/example/muhasib/muhasib/resource/ResourceName$Kind"
def K (i : Int32) (o f p b : Addr) : Addr := if i = 0 then o else if i = 1 then f else if i = 2 then p else b
def M (a b o f p : Addr) : Int32 := if (a = f ∨ a = p) ∧ (b = o ∨ b = f) then 1 else 0
theorem o_pn_com_example_muhasib_muhasib_resource_KindMayStandUnderPinLaw : plainName "com/example/muhasib/muhasib/resource/KindMayStandUnderPinLaw" = true := by first | (simp [plainName, overriddenIn]; done) | decide +kernel
theorem o_d1_0 : decode method_2_code 0 = .ok (.iload_n 0, 1) := by decide +kernel
theorem o_d1_1 : decode method_2_code 1 = .ok (.ifCond .ne 7, 3) := by decide +kernel
theorem o_d1_4 : decode method_2_code 4 = .ok (.getstatic 7, 3) := by decide +kernel
theorem o_d1_7 : decode method_2_code 7 = .ok (.areturn, 1) := by decide +kernel
theorem o_d1_8 : decode method_2_code 8 = .ok (.iload_n 0, 1) := by decide +kernel
theorem o_d1_9 : decode method_2_code 9 = .ok (.iconst 1, 1) := by decide +kernel
theorem o_d1_10 : decode method_2_code 10 = .ok (.if_icmp .ne 7, 3) := by decide +kernel
theorem o_d1_13 : decode method_2_code 13 = .ok (.getstatic 13, 3) := by decide +kernel
theorem o_d1_16 : decode method_2_code 16 = .ok (.areturn, 1) := by decide +kernel
theorem o_d1_17 : decode method_2_code 17 = .ok (.iload_n 0, 1) := by decide +kernel
theorem o_d1_18 : decode method_2_code 18 = .ok (.iconst 2, 1) := by decide +kernel
theorem o_d1_19 : decode method_2_code 19 = .ok (.if_icmp .ne 7, 3) := by decide +kernel
theorem o_d1_22 : decode method_2_code 22 = .ok (.getstatic 16, 3) := by decide +kernel
theorem o_d1_25 : decode method_2_code 25 = .ok (.areturn, 1) := by decide +kernel
theorem o_d1_26 : decode method_2_code 26 = .ok (.getstatic 19, 3) := by decide +kernel
theorem o_d1_29 : decode method_2_code 29 = .ok (.areturn, 1) := by decide +kernel
set_option maxRecDepth 65536 in
set_option maxHeartbeats 40000000 in
theorem rm1 (l : Launch) (Z : State) (a0 : Array Value) (hw : ∀ d ∈ tables_1, d.before a0 Z = true) (ws : List Jvm.Cond) (p1 : Int32) (w_ORGANIZATION w_FOLDER w_PROJECT w_BILLING_ACCOUNT : Addr) (h0 : Heap) (n0 : Nat) (O0 : Old Z n0 h0) (S_ORGANIZATION : KSta Z "ORGANIZATION" w_ORGANIZATION) (S_FOLDER : KSta Z "FOLDER" w_FOLDER) (S_PROJECT : KSta Z "PROJECT" w_PROJECT) (S_BILLING_ACCOUNT : KSta Z "BILLING_ACCOUNT" w_BILLING_ACCOUNT) :
    Ct l Z (⟨"com/example/muhasib/muhasib/resource/KindMayStandUnderPinLaw", "kind", "(I)Lcom/example/muhasib/muhasib/resource/ResourceName$Kind;"⟩ : MethodName) method_2_code 1 (some (.object "com/example/muhasib/muhasib/resource/ResourceName$Kind")) ({ frames := 0, cells := 0, slots := 0, locals := 0 } : Room) ws #[(.int p1)] h0 (fun v h L => v = some (.ref (K p1 w_ORGANIZATION w_FOLDER w_PROJECT w_BILLING_ACCOUNT)) ∧ Fr n0 L ∧ h0 = h) := by
  refine o_body (plainFor_of_name o_pn_com_example_muhasib_muhasib_resource_KindMayStandUnderPinLaw) ?_
  intro p e s m below meth c s₁ X0 hx hby hml hret hlk hown hnm hZ e0
  have N0 := Fr.nil n0
  refine o_top (g' := (mkF m 0 #[.val (.int p1)] [])) (by first | (simp [entryFrame, mkF, argsToLocals, Value.category]; done) | rfl) ?_
  refine o_iloadN (v := p1) (pc := 0) X0 hx (hb hby o_d1_0) rfl ?_
  by_cases hc1 : p1 = (0 : Int32)
  · skip
    refine o_ifNo (pc := 1) X0 hx (hb hby o_d1_1) ((if0 _ _).trans (teq hc1).2) ?_
    refine o_getS (pc := 4) X0 hx hZ hown (host := "") (Or.inl (hw _ (List.mem_of_getElem? (i := 4) rfl))) Via.refl e0 (S_ORGANIZATION.ext O0.2) (hb hby o_d1_4) fun T2 X2 e2 => ?_
    exact o_retA (pc := 7) X2 hx hret hlk rfl rfl (hb hby o_d1_7) e2 (by decide) (by decide) ⟨by simp [K, hc1], N0, rfl⟩
  · skip
    refine o_ifYes (pc := 1) X0 hx 8 (hb hby o_d1_1) ((if0 _ _).trans (feq hc1).2) (by decide) (by decide) ?_
    refine o_iloadN (v := p1) (pc := 8) X0 hx (hb hby o_d1_8) rfl ?_
    refine o_iconst (pc := 9) X0 hx (1 : Int32) (hb hby o_d1_9) rfl ?_
    by_cases hc3 : p1 = (1 : Int32)
    · skip
      refine o_icmpNo (pc := 10) X0 hx (hb hby o_d1_10) (teq hc3).2 ?_
      refine o_getS (pc := 13) X0 hx hZ hown (host := "") (Or.inl (hw _ (List.mem_of_getElem? (i := 19) rfl))) Via.refl e0 (S_FOLDER.ext O0.2) (hb hby o_d1_13) fun T4 X4 e4 => ?_
      exact o_retA (pc := 16) X4 hx hret hlk rfl rfl (hb hby o_d1_16) e4 (by decide) (by decide) ⟨by simp [K, hc1, hc3], N0, rfl⟩
    · skip
      refine o_icmpYes (pc := 10) X0 hx 17 (hb hby o_d1_10) (feq hc3).2 (by decide) (by decide) ?_
      refine o_iloadN (v := p1) (pc := 17) X0 hx (hb hby o_d1_17) rfl ?_
      refine o_iconst (pc := 18) X0 hx (2 : Int32) (hb hby o_d1_18) rfl ?_
      by_cases hc5 : p1 = (2 : Int32)
      · skip
        refine o_icmpNo (pc := 19) X0 hx (hb hby o_d1_19) (teq hc5).2 ?_
        refine o_getS (pc := 22) X0 hx hZ hown (host := "") (Or.inl (hw _ (List.mem_of_getElem? (i := 18) rfl))) Via.refl e0 (S_PROJECT.ext O0.2) (hb hby o_d1_22) fun T6 X6 e6 => ?_
        exact o_retA (pc := 25) X6 hx hret hlk rfl rfl (hb hby o_d1_25) e6 (by decide) (by decide) ⟨by simp [K, hc1, hc3, hc5], N0, rfl⟩
      · skip
        refine o_icmpYes (pc := 19) X0 hx 26 (hb hby o_d1_19) (feq hc5).2 (by decide) (by decide) ?_
        refine o_getS (pc := 26) X0 hx hZ hown (host := "") (Or.inl (hw _ (List.mem_of_getElem? (i := 7) rfl))) Via.refl e0 (S_BILLING_ACCOUNT.ext O0.2) (hb hby o_d1_26) fun T7 X7 e7 => ?_
        exact o_retA (pc := 29) X7 hx hret hlk rfl rfl (hb hby o_d1_29) e7 (by decide) (by decide) ⟨by simp [K, hc1, hc3, hc5], N0, rfl⟩
theorem o_pn_com_example_muhasib_muhasib_resource_ResourceName_Kind : plainName "com/example/muhasib/muhasib/resource/ResourceName$Kind" = true := by first | (simp [plainName, overriddenIn]; done) | decide +kernel
theorem o_d2_0 : decode prog_13_method_4_code 0 = .ok (.aload_n 0, 1) := by decide +kernel
theorem o_d2_1 : decode prog_13_method_4_code 1 = .ok (.getstatic 9, 3) := by decide +kernel
theorem o_d2_4 : decode prog_13_method_4_code 4 = .ok (.if_acmp .eq 10, 3) := by decide +kernel
theorem o_d2_14 : decode prog_13_method_4_code 14 = .ok (.aload_n 1, 1) := by decide +kernel
theorem o_d2_15 : decode prog_13_method_4_code 15 = .ok (.getstatic 5, 3) := by decide +kernel
theorem o_d2_18 : decode prog_13_method_4_code 18 = .ok (.if_acmp .eq 10, 3) := by decide +kernel
theorem o_d2_28 : decode prog_13_method_4_code 28 = .ok (.iconst 1, 1) := by decide +kernel
theorem o_d2_29 : decode prog_13_method_4_code 29 = .ok (.goto 4, 3) := by decide +kernel
theorem o_d2_33 : decode prog_13_method_4_code 33 = .ok (.ireturn, 1) := by decide +kernel
theorem o_d2_21 : decode prog_13_method_4_code 21 = .ok (.aload_n 1, 1) := by decide +kernel
theorem o_d2_22 : decode prog_13_method_4_code 22 = .ok (.getstatic 9, 3) := by decide +kernel
theorem o_d2_25 : decode prog_13_method_4_code 25 = .ok (.if_acmp .ne 7, 3) := by decide +kernel
theorem o_d2_32 : decode prog_13_method_4_code 32 = .ok (.iconst 0, 1) := by decide +kernel
theorem o_d2_7 : decode prog_13_method_4_code 7 = .ok (.aload_n 0, 1) := by decide +kernel
theorem o_d2_8 : decode prog_13_method_4_code 8 = .ok (.getstatic 12, 3) := by decide +kernel
theorem o_d2_11 : decode prog_13_method_4_code 11 = .ok (.if_acmp .ne 21, 3) := by decide +kernel
set_option maxRecDepth 65536 in
set_option maxHeartbeats 40000000 in
theorem rm2 (l : Launch) (Z : State) (a0 : Array Value) (hw : ∀ d ∈ tables_1, d.before a0 Z = true) (ws : List Jvm.Cond) (a1 a2 : Addr) (w_ORGANIZATION w_FOLDER w_PROJECT w_BILLING_ACCOUNT : Addr) (h0 : Heap) (n0 : Nat) (O0 : Old Z n0 h0) (S_ORGANIZATION : KSta Z "ORGANIZATION" w_ORGANIZATION) (S_FOLDER : KSta Z "FOLDER" w_FOLDER) (S_PROJECT : KSta Z "PROJECT" w_PROJECT) (S_BILLING_ACCOUNT : KSta Z "BILLING_ACCOUNT" w_BILLING_ACCOUNT) :
    Ct l Z (⟨"com/example/muhasib/muhasib/resource/ResourceName$Kind", "mayStandUnder", "(Lcom/example/muhasib/muhasib/resource/ResourceName$Kind;)Z"⟩ : MethodName) prog_13_method_4_code 2 (some .boolean) ({ frames := 0, cells := 0, slots := 0, locals := 0 } : Room) ws #[(.ref a1), (.ref a2)] h0 (fun v h L => v = some (.int (M a1 a2 w_ORGANIZATION w_FOLDER w_PROJECT)) ∧ Fr n0 L ∧ h0 = h) := by
  refine o_body (plainFor_of_name o_pn_com_example_muhasib_muhasib_resource_ResourceName_Kind) ?_
  intro p e s m below meth c s₁ X0 hx hby hml hret hlk hown hnm hZ e0
  have N0 := Fr.nil n0
  refine o_top (g' := (mkF m 0 #[.val (.ref a1), .val (.ref a2)] [])) (by first | (simp [entryFrame, mkF, argsToLocals, Value.category]; done) | rfl) ?_
  refine o_aloadN (v := (.ref a1)) (pc := 0) X0 hx (hb hby o_d2_0) rfl rfl ?_
  refine o_getS (pc := 1) X0 hx hZ hown (host := "") (Or.inl (hw _ (List.mem_of_getElem? (i := 14) rfl))) Via.refl e0 (S_FOLDER.ext O0.2) (hb hby o_d2_1) fun T8 X8 e8 => ?_
  by_cases hc9 : a1 = w_FOLDER
  · skip
    refine o_acmp (x := (.ref a1)) (y := (.ref w_FOLDER)) (pc := 4) X8 hx 14 true rfl rfl (hb hby o_d2_4) (decide_eq_true (congrArg Value.ref hc9)) (by decide) (by decide) ?_
    refine o_aloadN (v := (.ref a2)) (pc := 14) X8 hx (hb hby o_d2_14) rfl rfl ?_
    refine o_getS (pc := 15) X8 hx hZ hown (host := "") (Or.inl (hw _ (List.mem_of_getElem? (i := 20) rfl))) Via.refl e8 (S_ORGANIZATION.ext O0.2) (hb hby o_d2_15) fun T10 X10 e10 => ?_
    by_cases hc11 : a2 = w_ORGANIZATION
    · skip
      refine o_acmp (x := (.ref a2)) (y := (.ref w_ORGANIZATION)) (pc := 18) X10 hx 28 true rfl rfl (hb hby o_d2_18) (decide_eq_true (congrArg Value.ref hc11)) (by decide) (by decide) ?_
      refine o_iconst (pc := 28) X10 hx (1 : Int32) (hb hby o_d2_28) rfl ?_
      refine o_goto (pc := 29) X10 hx 33 (hb hby o_d2_29) (by decide) (by decide) ?_
      exact o_retN (pc := 33) X10 hx .boolean hret hlk (by simp) (hb hby o_d2_33) e10 (by decide) (by decide) ⟨by simp [M, nar, hc11, hc9], N0, rfl⟩
    · skip
      refine o_acmp (x := (.ref a2)) (y := (.ref w_ORGANIZATION)) (pc := 18) X10 hx 21 false rfl rfl (hb hby o_d2_18) (decide_eq_false fun q => hc11 (Value.ref.inj q)) (by decide) (by decide) ?_
      refine o_aloadN (v := (.ref a2)) (pc := 21) X10 hx (hb hby o_d2_21) rfl rfl ?_
      refine o_getS (pc := 22) X10 hx hZ hown (host := "") (Or.inl (hw _ (List.mem_of_getElem? (i := 14) rfl))) Via.refl e10 (S_FOLDER.ext O0.2) (hb hby o_d2_22) fun T12 X12 e12 => ?_
      by_cases hc13 : a2 = w_FOLDER
      · skip
        refine o_acmp (x := (.ref a2)) (y := (.ref w_FOLDER)) (pc := 25) X12 hx 28 true rfl rfl (hb hby o_d2_25) (decide_eq_true (congrArg Value.ref hc13)) (by decide) (by decide) ?_
        refine o_iconst (pc := 28) X12 hx (1 : Int32) (hb hby o_d2_28) rfl ?_
        refine o_goto (pc := 29) X12 hx 33 (hb hby o_d2_29) (by decide) (by decide) ?_
        exact o_retN (pc := 33) X12 hx .boolean hret hlk (by simp) (hb hby o_d2_33) e12 (by decide) (by decide) ⟨by simp [M, nar, hc11, hc13, hc9], N0, rfl⟩
      · skip
        refine o_acmp (x := (.ref a2)) (y := (.ref w_FOLDER)) (pc := 25) X12 hx 32 false rfl rfl (hb hby o_d2_25) (decide_eq_false fun q => hc13 (Value.ref.inj q)) (by decide) (by decide) ?_
        refine o_iconst (pc := 32) X12 hx (0 : Int32) (hb hby o_d2_32) rfl ?_
        exact o_retN (pc := 33) X12 hx .boolean hret hlk (by simp) (hb hby o_d2_33) e12 (by decide) (by decide) ⟨by simp [M, nar, hc11, hc13, hc9], N0, rfl⟩
  · skip
    refine o_acmp (x := (.ref a1)) (y := (.ref w_FOLDER)) (pc := 4) X8 hx 7 false rfl rfl (hb hby o_d2_4) (decide_eq_false fun q => hc9 (Value.ref.inj q)) (by decide) (by decide) ?_
    refine o_aloadN (v := (.ref a1)) (pc := 7) X8 hx (hb hby o_d2_7) rfl rfl ?_
    refine o_getS (pc := 8) X8 hx hZ hown (host := "") (Or.inl (hw _ (List.mem_of_getElem? (i := 16) rfl))) Via.refl e8 (S_PROJECT.ext O0.2) (hb hby o_d2_8) fun T14 X14 e14 => ?_
    by_cases hc15 : a1 = w_PROJECT
    · skip
      refine o_acmp (x := (.ref a1)) (y := (.ref w_PROJECT)) (pc := 11) X14 hx 14 true rfl rfl (hb hby o_d2_11) (decide_eq_true (congrArg Value.ref hc15)) (by decide) (by decide) ?_
      refine o_aloadN (v := (.ref a2)) (pc := 14) X14 hx (hb hby o_d2_14) rfl rfl ?_
      refine o_getS (pc := 15) X14 hx hZ hown (host := "") (Or.inl (hw _ (List.mem_of_getElem? (i := 20) rfl))) Via.refl e14 (S_ORGANIZATION.ext O0.2) (hb hby o_d2_15) fun T16 X16 e16 => ?_
      by_cases hc17 : a2 = w_ORGANIZATION
      · skip
        refine o_acmp (x := (.ref a2)) (y := (.ref w_ORGANIZATION)) (pc := 18) X16 hx 28 true rfl rfl (hb hby o_d2_18) (decide_eq_true (congrArg Value.ref hc17)) (by decide) (by decide) ?_
        refine o_iconst (pc := 28) X16 hx (1 : Int32) (hb hby o_d2_28) rfl ?_
        refine o_goto (pc := 29) X16 hx 33 (hb hby o_d2_29) (by decide) (by decide) ?_
        exact o_retN (pc := 33) X16 hx .boolean hret hlk (by simp) (hb hby o_d2_33) e16 (by decide) (by decide) ⟨by simp [M, nar, hc15, hc17, hc9], N0, rfl⟩
      · skip
        refine o_acmp (x := (.ref a2)) (y := (.ref w_ORGANIZATION)) (pc := 18) X16 hx 21 false rfl rfl (hb hby o_d2_18) (decide_eq_false fun q => hc17 (Value.ref.inj q)) (by decide) (by decide) ?_
        refine o_aloadN (v := (.ref a2)) (pc := 21) X16 hx (hb hby o_d2_21) rfl rfl ?_
        refine o_getS (pc := 22) X16 hx hZ hown (host := "") (Or.inl (hw _ (List.mem_of_getElem? (i := 14) rfl))) Via.refl e16 (S_FOLDER.ext O0.2) (hb hby o_d2_22) fun T18 X18 e18 => ?_
        by_cases hc19 : a2 = w_FOLDER
        · skip
          refine o_acmp (x := (.ref a2)) (y := (.ref w_FOLDER)) (pc := 25) X18 hx 28 true rfl rfl (hb hby o_d2_25) (decide_eq_true (congrArg Value.ref hc19)) (by decide) (by decide) ?_
          refine o_iconst (pc := 28) X18 hx (1 : Int32) (hb hby o_d2_28) rfl ?_
          refine o_goto (pc := 29) X18 hx 33 (hb hby o_d2_29) (by decide) (by decide) ?_
          exact o_retN (pc := 33) X18 hx .boolean hret hlk (by simp) (hb hby o_d2_33) e18 (by decide) (by decide) ⟨by simp [M, nar, hc15, hc17, hc19, hc9], N0, rfl⟩
        · skip
          refine o_acmp (x := (.ref a2)) (y := (.ref w_FOLDER)) (pc := 25) X18 hx 32 false rfl rfl (hb hby o_d2_25) (decide_eq_false fun q => hc19 (Value.ref.inj q)) (by decide) (by decide) ?_
          refine o_iconst (pc := 32) X18 hx (0 : Int32) (hb hby o_d2_32) rfl ?_
          exact o_retN (pc := 33) X18 hx .boolean hret hlk (by simp) (hb hby o_d2_33) e18 (by decide) (by decide) ⟨by simp [M, nar, hc15, hc17, hc19, hc9], N0, rfl⟩
    · skip
      refine o_acmp (x := (.ref a1)) (y := (.ref w_PROJECT)) (pc := 11) X14 hx 32 false rfl rfl (hb hby o_d2_11) (decide_eq_false fun q => hc15 (Value.ref.inj q)) (by decide) (by decide) ?_
      refine o_iconst (pc := 32) X14 hx (0 : Int32) (hb hby o_d2_32) rfl ?_
      exact o_retN (pc := 33) X14 hx .boolean hret hlk (by simp) (hb hby o_d2_33) e14 (by decide) (by decide) ⟨by simp [M, nar, hc15, hc9], N0, rfl⟩
theorem and3 (x : Int32) : x &&& 3 = 0 ∨ x &&& 3 = 1 ∨ x &&& 3 = 2 ∨ x &&& 3 = 3 := by
  have h := c_mask x 3 2 (by decide) (by decide)
  have e0 : (0 : Int32).toInt = 0 := rfl
  have e1 : (1 : Int32).toInt = 1 := rfl
  have e2 : (2 : Int32).toInt = 2 := rfl
  have e3 : (3 : Int32).toInt = 3 := rfl
  simp only [← Int32.toInt_inj, e0, e1, e2, e3]
  omega
theorem table {c q : Int32} {o f p b : Addr} (hc : c = 0 ∨ c = 1 ∨ c = 2 ∨ c = 3) (hq : q = 0 ∨ q = 1 ∨ q = 2 ∨ q = 3) (h1 : o ≠ f) (h2 : o ≠ p) (h3 : o ≠ b) (h4 : f ≠ p) (h5 : f ≠ b) (h6 : p ≠ b) :
    M (K c o f p b) (K q o f p b) o f p = if ((816 : Int32) >>> (((c * 4) + q) &&& 31)) &&& 1 = 0 then 0 else 1 := by
  rcases hc with rfl | rfl | rfl | rfl <;> rcases hq with rfl | rfl | rfl | rfl <;> simp [K, M, h1, h2, h3, h4, h5, h6, h1.symm, h2.symm, h3.symm, h4.symm, h5.symm, h6.symm] <;> decide
theorem kexa {Z : State} {c : Int32} {o f p b : Addr} (ho : KExa Z o) (hf : KExa Z f) (hp : KExa Z p) (hb : KExa Z b) : KExa Z (K c o f p b) := by
  unfold K; split; · exact ho
  split; · exact hf
  split; · exact hp
  exact hb
theorem o_pd0 : parseMethodDescriptor "(I)Lcom/example/muhasib/muhasib/resource/ResourceName$Kind;" = some ⟨[.int], some (.object "com/example/muhasib/muhasib/resource/ResourceName$Kind")⟩ := by decide +kernel
theorem o_pd1 : parseMethodDescriptor "(Lcom/example/muhasib/muhasib/resource/ResourceName$Kind;)Z" = some ⟨[(.object "com/example/muhasib/muhasib/resource/ResourceName$Kind")], some .boolean⟩ := by decide +kernel
set_option maxRecDepth 65536 in
set_option maxHeartbeats 40000000 in
theorem rm0 (l : Launch) (Z : State) (a0 : Array Value) (hw : ∀ d ∈ tables_1, d.before a0 Z = true) (ws : List Jvm.Cond) (p1 p2 : Int32) (w_ORGANIZATION w_FOLDER w_PROJECT w_BILLING_ACCOUNT : Addr) (h0 : Heap) (n0 : Nat) (O0 : Old Z n0 h0) (S_ORGANIZATION : KSta Z "ORGANIZATION" w_ORGANIZATION) (S_FOLDER : KSta Z "FOLDER" w_FOLDER) (S_PROJECT : KSta Z "PROJECT" w_PROJECT) (S_BILLING_ACCOUNT : KSta Z "BILLING_ACCOUNT" w_BILLING_ACCOUNT) (E_ORGANIZATION : KExa Z w_ORGANIZATION) (E_FOLDER : KExa Z w_FOLDER) (E_PROJECT : KExa Z w_PROJECT) (E_BILLING_ACCOUNT : KExa Z w_BILLING_ACCOUNT) (n1 : w_ORGANIZATION ≠ w_FOLDER) (n2 : w_ORGANIZATION ≠ w_PROJECT) (n3 : w_ORGANIZATION ≠ w_BILLING_ACCOUNT) (n4 : w_FOLDER ≠ w_PROJECT) (n5 : w_FOLDER ≠ w_BILLING_ACCOUNT) (n6 : w_PROJECT ≠ w_BILLING_ACCOUNT) :
    Ct l Z x code maxLocals ret room_1 ws #[(.int p1), (.int p2)] h0 (fun v h L => v = some (.int 1) ∧ Fr n0 L) := by
  refine o_body (plainFor_of_name o_pn_com_example_muhasib_muhasib_resource_KindMayStandUnderPinLaw) ?_
  intro p e s m below meth c s₁ X0 hx hby hml hret hlk hown hnm hZ e0
  have N0 := Fr.nil n0
  refine o_top (g' := (mkF m 0 #[.val (.int p1), .val (.int p2), .unset, .unset, .unset, .unset, .unset, .unset] [])) (by first | (simp [entryFrame, mkF, argsToLocals, Value.category, maxLocals]; done) | rfl) ?_
  refine o_iloadN (v := p1) (pc := 0) X0 hx (hb hby at_0) rfl ?_
  refine o_iconst (pc := 1) X0 hx (3 : Int32) (hb hby at_1) rfl ?_
  refine o_iand (pc := 2) X0 hx (hb hby at_2) ?_
  refine o_istoreN (l' := #[.val (.int p1), .val (.int p2), .val (.int (p1 &&& (3 : Int32))), .unset, .unset, .unset, .unset, .unset]) (pc := 3) X0 hx (hb hby at_3) rfl ?_
  refine o_iloadN (v := p2) (pc := 4) X0 hx (hb hby at_4) rfl ?_
  refine o_iconst (pc := 5) X0 hx (3 : Int32) (hb hby at_5) rfl ?_
  refine o_iand (pc := 6) X0 hx (hb hby at_6) ?_
  refine o_istoreN (l' := #[.val (.int p1), .val (.int p2), .val (.int (p1 &&& (3 : Int32))), .val (.int (p2 &&& (3 : Int32))), .unset, .unset, .unset, .unset]) (pc := 7) X0 hx (hb hby at_7) rfl ?_
  refine o_sipush (pc := 8) X0 hx (816 : Int32) (hb hby at_8) rfl ?_
  refine o_istore (l' := #[.val (.int p1), .val (.int p2), .val (.int (p1 &&& (3 : Int32))), .val (.int (p2 &&& (3 : Int32))), .val (.int (816 : Int32)), .unset, .unset, .unset]) (pc := 11) X0 hx (hb hby at_11) rfl ?_
  refine o_iload (v := (816 : Int32)) (pc := 13) X0 hx (hb hby at_13) rfl ?_
  refine o_iloadN (v := (p1 &&& (3 : Int32))) (pc := 15) X0 hx (hb hby at_15) rfl ?_
  refine o_iconst (pc := 16) X0 hx (4 : Int32) (hb hby at_16) rfl ?_
  refine o_imul (pc := 17) X0 hx (hb hby at_17) ?_
  refine o_iloadN (v := (p2 &&& (3 : Int32))) (pc := 18) X0 hx (hb hby at_18) rfl ?_
  refine o_iadd (pc := 19) X0 hx (hb hby at_19) ?_
  refine o_ishr (pc := 20) X0 hx (hb hby at_20) ?_
  refine o_iconst (pc := 21) X0 hx (1 : Int32) (hb hby at_21) rfl ?_
  refine o_iand (pc := 22) X0 hx (hb hby at_22) ?_
  by_cases hc20 : (((816 : Int32) >>> ((((p1 &&& (3 : Int32)) * (4 : Int32)) + (p2 &&& (3 : Int32))) &&& 31)) &&& (1 : Int32)) = (0 : Int32)
  · skip
    refine o_ifYes (pc := 23) X0 hx 30 (hb hby at_23) ((if0 _ _).trans (teq hc20).1) (by decide) (by decide) ?_
    refine o_iconst (pc := 30) X0 hx (0 : Int32) (hb hby at_30) rfl ?_
    refine o_istore (l' := #[.val (.int p1), .val (.int p2), .val (.int (p1 &&& (3 : Int32))), .val (.int (p2 &&& (3 : Int32))), .val (.int (816 : Int32)), .val (.int (0 : Int32)), .unset, .unset]) (pc := 31) X0 hx (hb hby at_31) rfl ?_
    refine o_iloadN (v := (p1 &&& (3 : Int32))) (pc := 33) X0 hx (hb hby at_33) rfl ?_
    refine o_callS (pc := 34) X0 hx hZ (y := (⟨"com/example/muhasib/muhasib/resource/KindMayStandUnderPinLaw", "kind", "(I)Lcom/example/muhasib/muhasib/resource/ResourceName$Kind;"⟩ : MethodName)) (argsL := [(.int (p1 &&& (3 : Int32)))]) (rest := []) hown (hw _ (List.mem_of_getElem? (i := 0) rfl)) (hw _ (List.mem_of_getElem? (i := 1) rfl)) (hw _ (List.mem_of_getElem? (i := 2) rfl)) (hw _ (List.mem_of_getElem? (i := 3) rfl)) (by decide) (rm1 l Z a0 hw [] (p1 &&& (3 : Int32)) w_ORGANIZATION w_FOLDER w_PROJECT w_BILLING_ACCOUNT h0 n0 O0 S_ORGANIZATION S_FOLDER S_PROJECT S_BILLING_ACCOUNT) e0 (by rw [hml]; rfl) (lenOf o_pd0 rfl) (has := rfl) (hst := rfl) (W := 0) (by decide) (hb hby at_34) (by decide) (by decide) (by decide) (by decide) fun v21 T21 h21 L21 X21 e21 q21 => ?_
    obtain ⟨rfl, N21q, rfl⟩ := q21
    have N21 := Fr.app N0 N21q
    show Go p e below T21 (mkF m 37 #[.val (.int p1), .val (.int p2), .val (.int (p1 &&& (3 : Int32))), .val (.int (p2 &&& (3 : Int32))), .val (.int (816 : Int32)), .val (.int (0 : Int32)), .unset, .unset] [(.ref (K (p1 &&& (3 : Int32)) w_ORGANIZATION w_FOLDER w_PROJECT w_BILLING_ACCOUNT))]) _
    refine o_astore (l' := #[.val (.int p1), .val (.int p2), .val (.int (p1 &&& (3 : Int32))), .val (.int (p2 &&& (3 : Int32))), .val (.int (816 : Int32)), .val (.int (0 : Int32)), .val (.ref (K (p1 &&& (3 : Int32)) w_ORGANIZATION w_FOLDER w_PROJECT w_BILLING_ACCOUNT)), .unset]) (pc := 37) X21 hx (hb hby at_37) rfl rfl ?_
    refine o_iloadN (v := (p2 &&& (3 : Int32))) (pc := 39) X21 hx (hb hby at_39) rfl ?_
    refine o_callS (pc := 40) X21 hx hZ (y := (⟨"com/example/muhasib/muhasib/resource/KindMayStandUnderPinLaw", "kind", "(I)Lcom/example/muhasib/muhasib/resource/ResourceName$Kind;"⟩ : MethodName)) (argsL := [(.int (p2 &&& (3 : Int32)))]) (rest := []) hown (hw _ (List.mem_of_getElem? (i := 0) rfl)) (hw _ (List.mem_of_getElem? (i := 1) rfl)) (hw _ (List.mem_of_getElem? (i := 2) rfl)) (hw _ (List.mem_of_getElem? (i := 3) rfl)) (by decide) (rm1 l Z a0 hw [] (p2 &&& (3 : Int32)) w_ORGANIZATION w_FOLDER w_PROJECT w_BILLING_ACCOUNT h0 n0 O0 S_ORGANIZATION S_FOLDER S_PROJECT S_BILLING_ACCOUNT) e21 (by rw [hml]; rfl) (lenOf o_pd0 rfl) (has := rfl) (hst := rfl) (W := 0) (by decide) (hb hby at_40) (by decide) (by decide) (by decide) (by decide) fun v22 T22 h22 L22 X22 e22 q22 => ?_
    obtain ⟨rfl, N22q, rfl⟩ := q22
    have N22 := Fr.app N21 N22q
    show Go p e below T22 (mkF m 43 #[.val (.int p1), .val (.int p2), .val (.int (p1 &&& (3 : Int32))), .val (.int (p2 &&& (3 : Int32))), .val (.int (816 : Int32)), .val (.int (0 : Int32)), .val (.ref (K (p1 &&& (3 : Int32)) w_ORGANIZATION w_FOLDER w_PROJECT w_BILLING_ACCOUNT)), .unset] [(.ref (K (p2 &&& (3 : Int32)) w_ORGANIZATION w_FOLDER w_PROJECT w_BILLING_ACCOUNT))]) _
    refine o_astore (l' := #[.val (.int p1), .val (.int p2), .val (.int (p1 &&& (3 : Int32))), .val (.int (p2 &&& (3 : Int32))), .val (.int (816 : Int32)), .val (.int (0 : Int32)), .val (.ref (K (p1 &&& (3 : Int32)) w_ORGANIZATION w_FOLDER w_PROJECT w_BILLING_ACCOUNT)), .val (.ref (K (p2 &&& (3 : Int32)) w_ORGANIZATION w_FOLDER w_PROJECT w_BILLING_ACCOUNT))]) (pc := 43) X22 hx (hb hby at_43) rfl rfl ?_
    refine o_aload (v := (.ref (K (p1 &&& (3 : Int32)) w_ORGANIZATION w_FOLDER w_PROJECT w_BILLING_ACCOUNT))) (pc := 45) X22 hx (hb hby at_45) rfl rfl ?_
    refine o_aload (v := (.ref (K (p2 &&& (3 : Int32)) w_ORGANIZATION w_FOLDER w_PROJECT w_BILLING_ACCOUNT))) (pc := 47) X22 hx (hb hby at_47) rfl rfl ?_
    refine o_callV (pc := 49) X22 hx hZ (y := (⟨"com/example/muhasib/muhasib/resource/ResourceName$Kind", "mayStandUnder", "(Lcom/example/muhasib/muhasib/resource/ResourceName$Kind;)Z"⟩ : MethodName)) (z := (⟨"com/example/muhasib/muhasib/resource/ResourceName$Kind", "mayStandUnder", "(Lcom/example/muhasib/muhasib/resource/ResourceName$Kind;)Z"⟩ : MethodName)) (C := "com/example/muhasib/muhasib/resource/ResourceName$Kind") (a := (K (p1 &&& (3 : Int32)) w_ORGANIZATION w_FOLDER w_PROJECT w_BILLING_ACCOUNT)) (argsL := [(.ref (K (p2 &&& (3 : Int32)) w_ORGANIZATION w_FOLDER w_PROJECT w_BILLING_ACCOUNT))]) (rest := []) hown (hw _ (List.mem_of_getElem? (i := 9) rfl)) (hw _ (List.mem_of_getElem? (i := 10) rfl)) (notFace_of_selects (args := #[]) (mvT hZ (hw _ (List.mem_of_getElem? (i := 12) rfl)))) (hw _ (List.mem_of_getElem? (i := 12) rfl)) (hw _ (List.mem_of_getElem? (i := 11) rfl)) (hw _ (List.mem_of_getElem? (i := 5) rfl)) (hw _ (List.mem_of_getElem? (i := 13) rfl)) (by decide) (rm2 l Z a0 hw [] (K (p1 &&& (3 : Int32)) w_ORGANIZATION w_FOLDER w_PROJECT w_BILLING_ACCOUNT) (K (p2 &&& (3 : Int32)) w_ORGANIZATION w_FOLDER w_PROJECT w_BILLING_ACCOUNT) w_ORGANIZATION w_FOLDER w_PROJECT w_BILLING_ACCOUNT h0 n0 O0 S_ORGANIZATION S_FOLDER S_PROJECT S_BILLING_ACCOUNT) e22 ((kexa (c := (p1 &&& (3 : Int32))) E_ORGANIZATION E_FOLDER E_PROJECT E_BILLING_ACCOUNT).ext O0.2) (by rw [hml]; rfl) (lenOf o_pd1 rfl) (has := rfl) (hst := rfl) (W := 0) (by decide) (hb hby at_49) (by decide) (by decide) (by decide) (by decide) fun v23 T23 h23 L23 X23 e23 q23 => ?_
    obtain ⟨rfl, N23q, rfl⟩ := q23
    have N23 := Fr.app N22 N23q
    show Go p e below T23 (mkF m 52 #[.val (.int p1), .val (.int p2), .val (.int (p1 &&& (3 : Int32))), .val (.int (p2 &&& (3 : Int32))), .val (.int (816 : Int32)), .val (.int (0 : Int32)), .val (.ref (K (p1 &&& (3 : Int32)) w_ORGANIZATION w_FOLDER w_PROJECT w_BILLING_ACCOUNT)), .val (.ref (K (p2 &&& (3 : Int32)) w_ORGANIZATION w_FOLDER w_PROJECT w_BILLING_ACCOUNT))] [(.int (M (K (p1 &&& (3 : Int32)) w_ORGANIZATION w_FOLDER w_PROJECT w_BILLING_ACCOUNT) (K (p2 &&& (3 : Int32)) w_ORGANIZATION w_FOLDER w_PROJECT w_BILLING_ACCOUNT) w_ORGANIZATION w_FOLDER w_PROJECT))]) _
    refine o_iload (v := (0 : Int32)) (pc := 52) X23 hx (hb hby at_52) rfl ?_
    refine o_icmpNo (pc := 54) X23 hx (hb hby at_54) (teq (by rw [table (and3 p1) (and3 p2) n1 n2 n3 n4 n5 n6]; simp [hc20] : (M (K (p1 &&& (3 : Int32)) w_ORGANIZATION w_FOLDER w_PROJECT w_BILLING_ACCOUNT) (K (p2 &&& (3 : Int32)) w_ORGANIZATION w_FOLDER w_PROJECT w_BILLING_ACCOUNT) w_ORGANIZATION w_FOLDER w_PROJECT) = (0 : Int32))).2 ?_
    refine o_iconst (pc := 57) X23 hx (1 : Int32) (hb hby at_57) rfl ?_
    refine o_goto (pc := 58) X23 hx 62 (hb hby at_58) (by decide) (by decide) ?_
    exact o_retN (pc := 62) X23 hx .boolean hret hlk (by simp) (hb hby at_62) e23 (by decide) (by decide) ⟨rfl, N23⟩
  · skip
    refine o_ifNo (pc := 23) X0 hx (hb hby at_23) ((if0 _ _).trans (feq hc20).1) ?_
    refine o_iconst (pc := 26) X0 hx (1 : Int32) (hb hby at_26) rfl ?_
    refine o_goto (pc := 27) X0 hx 31 (hb hby at_27) (by decide) (by decide) ?_
    refine o_istore (l' := #[.val (.int p1), .val (.int p2), .val (.int (p1 &&& (3 : Int32))), .val (.int (p2 &&& (3 : Int32))), .val (.int (816 : Int32)), .val (.int (1 : Int32)), .unset, .unset]) (pc := 31) X0 hx (hb hby at_31) rfl ?_
    refine o_iloadN (v := (p1 &&& (3 : Int32))) (pc := 33) X0 hx (hb hby at_33) rfl ?_
    refine o_callS (pc := 34) X0 hx hZ (y := (⟨"com/example/muhasib/muhasib/resource/KindMayStandUnderPinLaw", "kind", "(I)Lcom/example/muhasib/muhasib/resource/ResourceName$Kind;"⟩ : MethodName)) (argsL := [(.int (p1 &&& (3 : Int32)))]) (rest := []) hown (hw _ (List.mem_of_getElem? (i := 0) rfl)) (hw _ (List.mem_of_getElem? (i := 1) rfl)) (hw _ (List.mem_of_getElem? (i := 2) rfl)) (hw _ (List.mem_of_getElem? (i := 3) rfl)) (by decide) (rm1 l Z a0 hw [] (p1 &&& (3 : Int32)) w_ORGANIZATION w_FOLDER w_PROJECT w_BILLING_ACCOUNT h0 n0 O0 S_ORGANIZATION S_FOLDER S_PROJECT S_BILLING_ACCOUNT) e0 (by rw [hml]; rfl) (lenOf o_pd0 rfl) (has := rfl) (hst := rfl) (W := 0) (by decide) (hb hby at_34) (by decide) (by decide) (by decide) (by decide) fun v24 T24 h24 L24 X24 e24 q24 => ?_
    obtain ⟨rfl, N24q, rfl⟩ := q24
    have N24 := Fr.app N0 N24q
    show Go p e below T24 (mkF m 37 #[.val (.int p1), .val (.int p2), .val (.int (p1 &&& (3 : Int32))), .val (.int (p2 &&& (3 : Int32))), .val (.int (816 : Int32)), .val (.int (1 : Int32)), .unset, .unset] [(.ref (K (p1 &&& (3 : Int32)) w_ORGANIZATION w_FOLDER w_PROJECT w_BILLING_ACCOUNT))]) _
    refine o_astore (l' := #[.val (.int p1), .val (.int p2), .val (.int (p1 &&& (3 : Int32))), .val (.int (p2 &&& (3 : Int32))), .val (.int (816 : Int32)), .val (.int (1 : Int32)), .val (.ref (K (p1 &&& (3 : Int32)) w_ORGANIZATION w_FOLDER w_PROJECT w_BILLING_ACCOUNT)), .unset]) (pc := 37) X24 hx (hb hby at_37) rfl rfl ?_
    refine o_iloadN (v := (p2 &&& (3 : Int32))) (pc := 39) X24 hx (hb hby at_39) rfl ?_
    refine o_callS (pc := 40) X24 hx hZ (y := (⟨"com/example/muhasib/muhasib/resource/KindMayStandUnderPinLaw", "kind", "(I)Lcom/example/muhasib/muhasib/resource/ResourceName$Kind;"⟩ : MethodName)) (argsL := [(.int (p2 &&& (3 : Int32)))]) (rest := []) hown (hw _ (List.mem_of_getElem? (i := 0) rfl)) (hw _ (List.mem_of_getElem? (i := 1) rfl)) (hw _ (List.mem_of_getElem? (i := 2) rfl)) (hw _ (List.mem_of_getElem? (i := 3) rfl)) (by decide) (rm1 l Z a0 hw [] (p2 &&& (3 : Int32)) w_ORGANIZATION w_FOLDER w_PROJECT w_BILLING_ACCOUNT h0 n0 O0 S_ORGANIZATION S_FOLDER S_PROJECT S_BILLING_ACCOUNT) e24 (by rw [hml]; rfl) (lenOf o_pd0 rfl) (has := rfl) (hst := rfl) (W := 0) (by decide) (hb hby at_40) (by decide) (by decide) (by decide) (by decide) fun v25 T25 h25 L25 X25 e25 q25 => ?_
    obtain ⟨rfl, N25q, rfl⟩ := q25
    have N25 := Fr.app N24 N25q
    show Go p e below T25 (mkF m 43 #[.val (.int p1), .val (.int p2), .val (.int (p1 &&& (3 : Int32))), .val (.int (p2 &&& (3 : Int32))), .val (.int (816 : Int32)), .val (.int (1 : Int32)), .val (.ref (K (p1 &&& (3 : Int32)) w_ORGANIZATION w_FOLDER w_PROJECT w_BILLING_ACCOUNT)), .unset] [(.ref (K (p2 &&& (3 : Int32)) w_ORGANIZATION w_FOLDER w_PROJECT w_BILLING_ACCOUNT))]) _
    refine o_astore (l' := #[.val (.int p1), .val (.int p2), .val (.int (p1 &&& (3 : Int32))), .val (.int (p2 &&& (3 : Int32))), .val (.int (816 : Int32)), .val (.int (1 : Int32)), .val (.ref (K (p1 &&& (3 : Int32)) w_ORGANIZATION w_FOLDER w_PROJECT w_BILLING_ACCOUNT)), .val (.ref (K (p2 &&& (3 : Int32)) w_ORGANIZATION w_FOLDER w_PROJECT w_BILLING_ACCOUNT))]) (pc := 43) X25 hx (hb hby at_43) rfl rfl ?_
    refine o_aload (v := (.ref (K (p1 &&& (3 : Int32)) w_ORGANIZATION w_FOLDER w_PROJECT w_BILLING_ACCOUNT))) (pc := 45) X25 hx (hb hby at_45) rfl rfl ?_
    refine o_aload (v := (.ref (K (p2 &&& (3 : Int32)) w_ORGANIZATION w_FOLDER w_PROJECT w_BILLING_ACCOUNT))) (pc := 47) X25 hx (hb hby at_47) rfl rfl ?_
    refine o_callV (pc := 49) X25 hx hZ (y := (⟨"com/example/muhasib/muhasib/resource/ResourceName$Kind", "mayStandUnder", "(Lcom/example/muhasib/muhasib/resource/ResourceName$Kind;)Z"⟩ : MethodName)) (z := (⟨"com/example/muhasib/muhasib/resource/ResourceName$Kind", "mayStandUnder", "(Lcom/example/muhasib/muhasib/resource/ResourceName$Kind;)Z"⟩ : MethodName)) (C := "com/example/muhasib/muhasib/resource/ResourceName$Kind") (a := (K (p1 &&& (3 : Int32)) w_ORGANIZATION w_FOLDER w_PROJECT w_BILLING_ACCOUNT)) (argsL := [(.ref (K (p2 &&& (3 : Int32)) w_ORGANIZATION w_FOLDER w_PROJECT w_BILLING_ACCOUNT))]) (rest := []) hown (hw _ (List.mem_of_getElem? (i := 9) rfl)) (hw _ (List.mem_of_getElem? (i := 10) rfl)) (notFace_of_selects (args := #[]) (mvT hZ (hw _ (List.mem_of_getElem? (i := 12) rfl)))) (hw _ (List.mem_of_getElem? (i := 12) rfl)) (hw _ (List.mem_of_getElem? (i := 11) rfl)) (hw _ (List.mem_of_getElem? (i := 5) rfl)) (hw _ (List.mem_of_getElem? (i := 13) rfl)) (by decide) (rm2 l Z a0 hw [] (K (p1 &&& (3 : Int32)) w_ORGANIZATION w_FOLDER w_PROJECT w_BILLING_ACCOUNT) (K (p2 &&& (3 : Int32)) w_ORGANIZATION w_FOLDER w_PROJECT w_BILLING_ACCOUNT) w_ORGANIZATION w_FOLDER w_PROJECT w_BILLING_ACCOUNT h0 n0 O0 S_ORGANIZATION S_FOLDER S_PROJECT S_BILLING_ACCOUNT) e25 ((kexa (c := (p1 &&& (3 : Int32))) E_ORGANIZATION E_FOLDER E_PROJECT E_BILLING_ACCOUNT).ext O0.2) (by rw [hml]; rfl) (lenOf o_pd1 rfl) (has := rfl) (hst := rfl) (W := 0) (by decide) (hb hby at_49) (by decide) (by decide) (by decide) (by decide) fun v26 T26 h26 L26 X26 e26 q26 => ?_
    obtain ⟨rfl, N26q, rfl⟩ := q26
    have N26 := Fr.app N25 N26q
    show Go p e below T26 (mkF m 52 #[.val (.int p1), .val (.int p2), .val (.int (p1 &&& (3 : Int32))), .val (.int (p2 &&& (3 : Int32))), .val (.int (816 : Int32)), .val (.int (1 : Int32)), .val (.ref (K (p1 &&& (3 : Int32)) w_ORGANIZATION w_FOLDER w_PROJECT w_BILLING_ACCOUNT)), .val (.ref (K (p2 &&& (3 : Int32)) w_ORGANIZATION w_FOLDER w_PROJECT w_BILLING_ACCOUNT))] [(.int (M (K (p1 &&& (3 : Int32)) w_ORGANIZATION w_FOLDER w_PROJECT w_BILLING_ACCOUNT) (K (p2 &&& (3 : Int32)) w_ORGANIZATION w_FOLDER w_PROJECT w_BILLING_ACCOUNT) w_ORGANIZATION w_FOLDER w_PROJECT))]) _
    refine o_iload (v := (1 : Int32)) (pc := 52) X26 hx (hb hby at_52) rfl ?_
    refine o_icmpNo (pc := 54) X26 hx (hb hby at_54) (teq (by rw [table (and3 p1) (and3 p2) n1 n2 n3 n4 n5 n6]; simp [hc20] : (M (K (p1 &&& (3 : Int32)) w_ORGANIZATION w_FOLDER w_PROJECT w_BILLING_ACCOUNT) (K (p2 &&& (3 : Int32)) w_ORGANIZATION w_FOLDER w_PROJECT w_BILLING_ACCOUNT) w_ORGANIZATION w_FOLDER w_PROJECT) = (1 : Int32))).2 ?_
    refine o_iconst (pc := 57) X26 hx (1 : Int32) (hb hby at_57) rfl ?_
    refine o_goto (pc := 58) X26 hx 62 (hb hby at_58) (by decide) (by decide) ?_
    exact o_retN (pc := 62) X26 hx .boolean hret hlk (by simp) (hb hby at_62) e26 (by decide) (by decide) ⟨rfl, N26⟩
set_option maxRecDepth 65536 in
set_option maxHeartbeats 40000000 in
theorem comes_1 {Post : Tables → Env → Array Value → State → Outcome → State → Prop} (hpost : ∀ tb e args s v u, (limb_1_1.after args s (.returned v) u = true ∧ limb_1_2.after args s (.returned v) u = true ∧ True) → FrameEnd s (.returned v) u (Jvm.fieldLocs frame_1_writes args s ++ Jvm.arrayLocs frame_1_arrays args s ++ Jvm.staticLocs frame_1_statics s) 0 0 → Post tb e args s (.returned v) u) :
    ArmFor flags0 classFile x code maxLocals ret World_1 tables_1 room_1 Calls_1 rest_1 Pre_1 Post := by
  intro l hfl _ _ p e ha hc hk s m args below hf hA hF happ hP
  obtain ⟨hcalls, hrest, hpre⟩ := hP
  obtain ⟨-, -, -, hnamed, -, -, -, hat⟩ := (Spec.applies_iff hf).mp happ
  obtain ⟨hg, hn⟩ := and_e (Cond.before_iff.mp (show (Jvm.Cond.and given_1 narrow_1).before args s = true from hpre))
  obtain ⟨g27, g28⟩ := and_e hg
  obtain ⟨g29, g30⟩ := and_e g28
  obtain ⟨g31, g32⟩ := and_e hn
  obtain ⟨g33, g34⟩ := and_e g32
  obtain ⟨g35, g36⟩ := and_e g34
  obtain ⟨g37, g38⟩ := and_e g36
  obtain ⟨g39, g40⟩ := and_e g38
  obtain ⟨g41, g42⟩ := and_e g40
  obtain ⟨g43, g44⟩ := and_e g42
  obtain ⟨w0, w1, rfl⟩ : ∃ w0 w1 : Value, args = #[w0, w1] := by
    have hs : args.size = 2 := by simpa [Cond.value, given_1] using g27
    obtain ⟨L⟩ := args
    match L, hs with
    | [w0, w1], _ => exact ⟨w0, w1, rfl⟩
  have hw := fun d (hd : d ∈ tables_1) => atoms_spec (ws := Jvm.Cond.code x code maxLocals ret :: tables_1) hat d (List.mem_cons_of_mem _ hd)
  have hfit : Fit s := fun {y c} hc i hi => by
    obtain ⟨ha, rfl⟩ := Array.getElem?_eq_some_iff.mp hc
    have q := List.all_eq_true.mp ((Array.all_eq_true_iff_forall_mem.mp hF) _ (Array.getElem_mem ha)) i (List.mem_range.mpr hi)
    simpa [Array.getElem?_eq_getElem hi] using q
  obtain ⟨i0, ei0⟩ := is_v g29
  obtain rfl : w0 = (.int i0) := Option.some.inj ei0
  obtain ⟨i1, ei1⟩ := is_v g30
  obtain rfl : w1 = (.int i1) := Option.some.inj ei1
  obtain ⟨w_ORGANIZATION, ev_ORGANIZATION⟩ := exa_v g31
  have S_ORGANIZATION := Sta.start ev_ORGANIZATION (Or.inr ⟨(hw _ (List.mem_of_getElem? (i := 5) rfl)), (hw _ (List.mem_of_getElem? (i := 6) rfl))⟩)
  have E_ORGANIZATION := Exa.start ev_ORGANIZATION g31
  obtain ⟨w_BILLING_ACCOUNT, ev_BILLING_ACCOUNT⟩ := exa_v g33
  have S_BILLING_ACCOUNT := Sta.start ev_BILLING_ACCOUNT (Or.inr ⟨(hw _ (List.mem_of_getElem? (i := 5) rfl)), (hw _ (List.mem_of_getElem? (i := 8) rfl))⟩)
  have E_BILLING_ACCOUNT := Exa.start ev_BILLING_ACCOUNT g33
  obtain ⟨w_FOLDER, ev_FOLDER⟩ := exa_v g35
  have S_FOLDER := Sta.start ev_FOLDER (Or.inr ⟨(hw _ (List.mem_of_getElem? (i := 5) rfl)), (hw _ (List.mem_of_getElem? (i := 15) rfl))⟩)
  have E_FOLDER := Exa.start ev_FOLDER g35
  obtain ⟨w_PROJECT, ev_PROJECT⟩ := exa_v g41
  have S_PROJECT := Sta.start ev_PROJECT (Or.inr ⟨(hw _ (List.mem_of_getElem? (i := 5) rfl)), (hw _ (List.mem_of_getElem? (i := 17) rfl))⟩)
  have E_PROJECT := Exa.start ev_PROJECT g41
  have F_ORGANIZATION_ordinal : Fld s s.heap w_ORGANIZATION "java/lang/Enum" "ordinal" "I" (.int (0 : Int32)) := Fld.start ((fld_at ev_ORGANIZATION).symm.trans (o_eqI g37))
  have F_FOLDER_ordinal : Fld s s.heap w_FOLDER "java/lang/Enum" "ordinal" "I" (.int (1 : Int32)) := Fld.start ((fld_at ev_FOLDER).symm.trans (o_eqI g39))
  have F_PROJECT_ordinal : Fld s s.heap w_PROJECT "java/lang/Enum" "ordinal" "I" (.int (2 : Int32)) := Fld.start ((fld_at ev_PROJECT).symm.trans (o_eqI g43))
  have F_BILLING_ACCOUNT_ordinal : Fld s s.heap w_BILLING_ACCOUNT "java/lang/Enum" "ordinal" "I" (.int (3 : Int32)) := Fld.start ((fld_at ev_BILLING_ACCOUNT).symm.trans (o_eqI g44))
  obtain ⟨n, o, h1, h2, h3, _, L, rfl, ⟨rfl, N⟩, hq⟩ := rm0 l s _ hw tables_1 i0 i1 w_ORGANIZATION w_FOLDER w_PROJECT w_BILLING_ACCOUNT s.heap s.heap.size (Old.start s) S_ORGANIZATION S_FOLDER S_PROJECT S_BILLING_ACCOUNT E_ORGANIZATION E_FOLDER E_PROJECT E_BILLING_ACCOUNT (Fld.ne F_ORGANIZATION_ordinal F_FOLDER_ordinal (by simp)) (Fld.ne F_ORGANIZATION_ordinal F_PROJECT_ordinal (by simp)) (Fld.ne F_ORGANIZATION_ordinal F_BILLING_ACCOUNT_ordinal (by simp)) (Fld.ne F_FOLDER_ordinal F_PROJECT_ordinal (by simp)) (Fld.ne F_FOLDER_ordinal F_BILLING_ACCOUNT_ordinal (by simp)) (Fld.ne F_PROJECT_ordinal F_BILLING_ACCOUNT_ordinal (by simp)) p e ha hc hk s m _ below hf ((Spec.applies_iff_loose hf).mp happ).1 ⟨rfl, State.Warmed39.refl s, rfl⟩ trivial
  refine ⟨n, _, h1, h2, h3, hpost _ _ _ _ _ _ ⟨Cond.after_iff.mpr rfl, Cond.after_iff.mpr (eq_i res_at (Term.int_eval (1)) rfl), trivial⟩ ⟨hq.1, hq.2.1, (hq.2.2.sift fun y hy => Or.inr (N y hy)).mono (by decide) (by decide)⟩⟩
theorem main_1_1 : Claimed_1_1 := comes_1 fun _ _ _ _ _ _ h hF => ⟨h.1, hF⟩
theorem main_1_2 : Claimed_1_2 := comes_1 fun _ _ _ _ _ _ h hF => ⟨h.2.1, hF⟩
end Jvm.Pilot.@@N@@
namespace Jvm.Pilot.@@N@@
open Jvm Jvm.ClassFile Sem Op Lib Jvm.Free Jvm.Stand Jvm.Pilot.@@N@@.Jvm.D
/-! MADE BY PROGRAM (witnessworld.py) out of the Statement's table words and the real class files: 12 classes; the members and pool entries that the words name. The judged class is class 1, her method 2. -/
namespace start1
open Jvm.ClassFile
def u (s : String) : CpInfo := .utf8 (stringToUtf16 s)
/-- a pool by its gaps: so many unusable entries, then the entry; so many at the end -/
def gap : Nat → List CpInfo → List CpInfo
  | 0, r => r
  | n + 1, r => .unusable :: gap n r
def poolList (es : List (Nat × CpInfo)) (last : Nat) : List CpInfo := es.foldr (fun e r => gap e.1 (e.2 :: r)) (gap last [])
def pool (es : List (Nat × CpInfo)) (last : Nat) : Array CpInfo := ⟨poolList es last⟩
def fileOf (pool : Array CpInfo) (this : Nat) (attrs : Array Attribute := #[]) (ms : Array MethodInfo := #[]) (fl : Nat := 33) (sup : Nat := 0) (ifs : Array Nat := #[]) (fds : Array FieldInfo := #[]) : ClassFile where
  minorVersion := 0
  majorVersion := 65
  constantPool := pool
  accessFlags := fl
  thisClass := this
  superClass := sup
  interfaces := ifs
  fields := fds
  methods := ms
  attributes := attrs
def plain (name : String) (sup : Option ClassId) : Class where
  name := name
  kind := .ordinary
  loader := none
  accessFlags := 33
  super := sup
  interfaces := #[]
  cf := none
  fields := #[]
  methods := #[]
  instanceTypes := #[]
  staticTypes := #[]
  resolved := #[]
  callSites := []
  init := .initialized
  statics := none
  mirror := none

def pool0 : Array CpInfo := pool [(5, u "<init>"), (0, u "()V"), (1, .class_ 10), (1, u "java/lang/Object")] 113

def k0m0 : Method := { name := "<init>", desc := "()V", sig := { parameters := [], returnType := none }, accessFlags := 1, code := none }
/-- java/lang/Object -/
def k0 : Class := { plain "java/lang/Object" none with
  accessFlags := 33
  interfaces := #[]
  cf := some (fileOf pool0 8 #[] #[{ accessFlags := 1, nameIndex := 5, descriptorIndex := 6, attributes := #[] }] 33 0 #[] #[])
  fields := #[]
  methods := #[k0m0]
  instanceTypes := #[]
  staticTypes := #[]
  resolved := Array.replicate 124 none
  statics := none }

def pool1 : Array CpInfo := pool [(2, .class_ 4), (1, u "java/lang/Object"), (0, u "<init>"), (0, u "()V"), (0, .fieldref 8 9), (0, .class_ 10), (0, .nameAndType 11 12), (0, u "com/example/muhasib/muhasib/resource/ResourceName$Kind"), (0, u "ORGANIZATION"), (0, u "Lcom/example/muhasib/muhasib/resource/ResourceName$Kind;"), (0, .fieldref 8 14), (0, .nameAndType 15 12), (0, u "FOLDER"), (0, .fieldref 8 17), (0, .nameAndType 18 12), (0, u "PROJECT"), (0, .fieldref 8 20), (0, .nameAndType 21 12), (0, u "BILLING_ACCOUNT"), (0, .methodref 23 24), (0, .class_ 25), (0, .nameAndType 26 27), (0, u "com/example/muhasib/muhasib/resource/KindMayStandUnderPinLaw"), (0, u "kind"), (0, u "(I)Lcom/example/muhasib/muhasib/resource/ResourceName$Kind;"), (0, .methodref 8 29), (0, .nameAndType 30 31), (0, u "mayStandUnder"), (0, u "(Lcom/example/muhasib/muhasib/resource/ResourceName$Kind;)Z"), (3, u "law"), (0, u "(II)Z")] 6

def k1m0 : Method := { name := "<init>", desc := "()V", sig := { parameters := [], returnType := none }, accessFlags := 2, code := none }
def k1c1 : Code := { maxStack := 2, maxLocals := 1, code := method_2_code, exceptionTable := #[], attributes := #[] }
def k1m1 : Method := { name := "kind", desc := "(I)Lcom/example/muhasib/muhasib/resource/ResourceName$Kind;", sig := { parameters := [.int], returnType := some (.object "com/example/muhasib/muhasib/resource/ResourceName$Kind") }, accessFlags := 10, code := some k1c1 }
def k1c2 : Code := { maxStack := 3, maxLocals := 8, code := code, exceptionTable := #[], attributes := #[] }
def k1m2 : Method := { name := "law", desc := "(II)Z", sig := { parameters := [.int, .int], returnType := some .boolean }, accessFlags := 9, code := some k1c2 }
/-- com/example/muhasib/muhasib/resource/KindMayStandUnderPinLaw -/
def k1 : Class := { plain "com/example/muhasib/muhasib/resource/KindMayStandUnderPinLaw" (some 0) with
  accessFlags := 49
  interfaces := #[]
  cf := some (fileOf pool1 23 #[] #[{ accessFlags := 2, nameIndex := 5, descriptorIndex := 6, attributes := #[] }, { accessFlags := 10, nameIndex := 26, descriptorIndex := 27, attributes := #[] }, { accessFlags := 9, nameIndex := 35, descriptorIndex := 36, attributes := #[] }] 49 2 #[] #[])
  fields := #[]
  methods := #[k1m0, k1m1, k1m2]
  instanceTypes := #[]
  staticTypes := #[]
  resolved := Array.replicate 43 none
  statics := none }

def pool2 : Array CpInfo := pool [(1, .class_ 2), (0, u "java/lang/constant/Constable"), (0, .class_ 4), (0, u "java/lang/Object")] 6

/-- java/lang/constant/Constable -/
def k2 : Class := { plain "java/lang/constant/Constable" (some 0) with
  accessFlags := 1537
  interfaces := #[]
  cf := some (fileOf pool2 1 #[] #[] 1537 3 #[] #[])
  fields := #[]
  methods := #[]
  instanceTypes := #[]
  staticTypes := #[]
  resolved := Array.replicate 11 none
  statics := none }

def pool3 : Array CpInfo := pool [(1, .class_ 2), (0, u "java/lang/Comparable"), (0, .class_ 4), (0, u "java/lang/Object")] 7

/-- java/lang/Comparable -/
def k3 : Class := { plain "java/lang/Comparable" (some 0) with
  accessFlags := 1537
  interfaces := #[]
  cf := some (fileOf pool3 1 #[] #[] 1537 3 #[] #[])
  fields := #[]
  methods := #[]
  instanceTypes := #[]
  staticTypes := #[]
  resolved := Array.replicate 12 none
  statics := none }

def pool4 : Array CpInfo := pool [(1, .class_ 2), (0, u "java/io/Serializable"), (0, .class_ 4), (0, u "java/lang/Object")] 2

/-- java/io/Serializable -/
def k4 : Class := { plain "java/io/Serializable" (some 0) with
  accessFlags := 1537
  interfaces := #[]
  cf := some (fileOf pool4 1 #[] #[] 1537 3 #[] #[])
  fields := #[]
  methods := #[]
  instanceTypes := #[]
  staticTypes := #[]
  resolved := Array.replicate 7 none
  statics := none }

def pool5 : Array CpInfo := pool [(2, .class_ 4), (1, u "java/lang/Enum"), (0, u "name"), (0, u "Ljava/lang/String;"), (2, u "ordinal"), (0, u "I"), (1, .class_ 14), (1, u "java/lang/Object"), (4, u "hash"), (86, .class_ 108), (1, u "java/lang/Enum$EnumDesc"), (2, .class_ 112), (0, u "java/lang/constant/Constable"), (0, .class_ 114), (0, u "java/lang/Comparable"), (0, .class_ 116), (0, u "java/io/Serializable")] 87

/-- java/lang/Enum -/
def k5 : Class := { plain "java/lang/Enum" (some 0) with
  accessFlags := 1057
  interfaces := #[2, 3, 4]
  cf := some (fileOf pool5 2 #[.nestMembers #[106]] #[] 1057 12 #[111, 113, 115] #[{ accessFlags := 18, nameIndex := 5, descriptorIndex := 6, attributes := #[] }, { accessFlags := 18, nameIndex := 9, descriptorIndex := 10, attributes := #[] }, { accessFlags := 2, nameIndex := 19, descriptorIndex := 10, attributes := #[] }])
  fields := #[{ name := "name", type := (.object "java/lang/String"), accessFlags := 18, slot := 0, constantValue := 0 }, { name := "ordinal", type := .int, accessFlags := 18, slot := 1, constantValue := 0 }, { name := "hash", type := .int, accessFlags := 2, slot := 2, constantValue := 0 }]
  methods := #[]
  instanceTypes := #[(.object "java/lang/String"), .int, .int]
  staticTypes := #[]
  resolved := Array.replicate 204 none
  statics := none }

def pool6 : Array CpInfo := pool [(1, .class_ 2), (0, u "com/example/muhasib/muhasib/resource/ResourceName"), (0, .class_ 4), (0, u "com/example/muhasib/muhasib/resource/ResourceName$Kind"), (0, .fieldref 3 6), (0, .nameAndType 7 8), (0, u "ORGANIZATION"), (0, u "Lcom/example/muhasib/muhasib/resource/ResourceName$Kind;"), (0, .fieldref 3 10), (0, .nameAndType 11 8), (0, u "FOLDER"), (0, .fieldref 3 13), (0, .nameAndType 14 8), (0, u "PROJECT"), (2, u "BILLING_ACCOUNT"), (2, u "$VALUES"), (0, u "[Lcom/example/muhasib/muhasib/resource/ResourceName$Kind;"), (6, .class_ 30), (1, u "java/lang/Enum"), (8, u "collection"), (0, u "Ljava/lang/String;"), (8, u "idPattern"), (0, u "Ljava/util/regex/Pattern;"), (30, u "mayStandUnder"), (0, u "(Lcom/example/muhasib/muhasib/resource/ResourceName$Kind;)Z")] 9

def k6c0 : Code := { maxStack := 2, maxLocals := 2, code := prog_13_method_4_code, exceptionTable := #[], attributes := #[] }
def k6m0 : Method := { name := "mayStandUnder", desc := "(Lcom/example/muhasib/muhasib/resource/ResourceName$Kind;)Z", sig := { parameters := [(.object "com/example/muhasib/muhasib/resource/ResourceName$Kind")], returnType := some .boolean }, accessFlags := 1, code := some k6c0 }
/-- com/example/muhasib/muhasib/resource/ResourceName$Kind -/
def k6 : Class := { plain "com/example/muhasib/muhasib/resource/ResourceName$Kind" (some 5) with
  accessFlags := 16433
  interfaces := #[]
  cf := some (fileOf pool6 3 #[.nestHost 1] #[{ accessFlags := 1, nameIndex := 81, descriptorIndex := 82, attributes := #[] }] 16433 28 #[] #[{ accessFlags := 16409, nameIndex := 7, descriptorIndex := 8, attributes := #[] }, { accessFlags := 16409, nameIndex := 11, descriptorIndex := 8, attributes := #[] }, { accessFlags := 16409, nameIndex := 14, descriptorIndex := 8, attributes := #[] }, { accessFlags := 16409, nameIndex := 17, descriptorIndex := 8, attributes := #[] }, { accessFlags := 18, nameIndex := 39, descriptorIndex := 40, attributes := #[] }, { accessFlags := 18, nameIndex := 49, descriptorIndex := 50, attributes := #[] }, { accessFlags := 4122, nameIndex := 20, descriptorIndex := 21, attributes := #[] }])
  fields := #[{ name := "ORGANIZATION", type := (.object "com/example/muhasib/muhasib/resource/ResourceName$Kind"), accessFlags := 16409, slot := 0, constantValue := 0 }, { name := "FOLDER", type := (.object "com/example/muhasib/muhasib/resource/ResourceName$Kind"), accessFlags := 16409, slot := 1, constantValue := 0 }, { name := "PROJECT", type := (.object "com/example/muhasib/muhasib/resource/ResourceName$Kind"), accessFlags := 16409, slot := 2, constantValue := 0 }, { name := "BILLING_ACCOUNT", type := (.object "com/example/muhasib/muhasib/resource/ResourceName$Kind"), accessFlags := 16409, slot := 3, constantValue := 0 }, { name := "collection", type := (.object "java/lang/String"), accessFlags := 18, slot := 3, constantValue := 0 }, { name := "idPattern", type := (.object "java/util/regex/Pattern"), accessFlags := 18, slot := 4, constantValue := 0 }, { name := "$VALUES", type := (.array (.object "com/example/muhasib/muhasib/resource/ResourceName$Kind")), accessFlags := 4122, slot := 4, constantValue := 0 }]
  methods := #[k6m0]
  instanceTypes := #[(.object "java/lang/String"), .int, .int, (.object "java/lang/String"), (.object "java/util/regex/Pattern")]
  staticTypes := #[(.object "com/example/muhasib/muhasib/resource/ResourceName$Kind"), (.object "com/example/muhasib/muhasib/resource/ResourceName$Kind"), (.object "com/example/muhasib/muhasib/resource/ResourceName$Kind"), (.object "com/example/muhasib/muhasib/resource/ResourceName$Kind"), (.array (.object "com/example/muhasib/muhasib/resource/ResourceName$Kind"))]
  resolved := Array.replicate 92 none
  statics := some 0 }

def pool7 : Array CpInfo := pool [(1, u "java/lang/Cloneable"), (0, .class_ 1), (0, u "java/lang/Object"), (0, .class_ 3)] 3

/-- java/lang/Cloneable -/
def k7 : Class := { plain "java/lang/Cloneable" (some 0) with
  accessFlags := 1537
  interfaces := #[]
  cf := some (fileOf pool7 2 #[] #[] 1537 4 #[] #[])
  fields := #[]
  methods := #[]
  instanceTypes := #[]
  staticTypes := #[]
  resolved := Array.replicate 8 none
  statics := none }

/-- the primitive byte -/
def k8 : Class := { plain "byte" none with kind := .primitive 'B', accessFlags := 0x411 }
/-- [B -/
def k9 : Class := { plain "[B" (some 0) with kind := .array 8 .byte, interfaces := #[7, 4], accessFlags := 1041 }

/-- the primitive int -/
def k10 : Class := { plain "int" none with kind := .primitive 'I', accessFlags := 0x411 }
/-- [I -/
def k11 : Class := { plain "[I" (some 0) with kind := .array 10 .int, interfaces := #[7, 4], accessFlags := 1041 }

def heap : Heap := #[{ cls := 6, slots := #[.ref 1, .ref 3, .ref 4, .ref 2, .null], vm := .statics 6 },
  { cls := 6, slots := #[.null, .int 0, .int 0, .null, .null], vm := .none },
  { cls := 6, slots := #[.null, .int 3, .int 0, .null, .null], vm := .none },
  { cls := 6, slots := #[.null, .int 1, .int 0, .null, .null], vm := .none },
  { cls := 6, slots := #[.null, .int 2, .int 0, .null, .null], vm := .none }]
def classes : Array Class := #[k0, k1, k2, k3, k4, k5, k6, k7, k8, k9, k10, k11]
def interned : List (Array UInt16 × Addr) := []
def slotsUsed : Nat := 25
def theMethod : MethodId := ⟨1, 2⟩
def args0 : Array Value := #[.int 5, .int 5]
def aboutOver (below : List Frame) : State where
  vm := { classes := classes, interned := interned.toArray }
  heap := heap
  slotsUsed := slotsUsed
  threads := #[{ frames := .invoking theMethod args0 :: below }]
def below0 : List Frame := [.native { method := ⟨0, 0⟩, args := #[] }]
def about1 : State := aboutOver below0
def p0 : Program := .bare "" "" ""
def e0 : Env := launch0.env 0 0 0
theorem w_frames : about1.frames = Frame.invoking theMethod args0 :: below0 := rfl
set_option maxRecDepth 65536 in
theorem w_args : argsFit about1.vm theMethod args0 = true := by decide +kernel
set_option maxRecDepth 65536 in
theorem w_heap : heapFits about1 = true := by decide +kernel
set_option maxRecDepth 65536 in
theorem w_runnable : about1.curStatus? = some .runnable := by decide +kernel
set_option maxRecDepth 65536 in
theorem w_alone : about1.alone = true := by decide +kernel
set_option maxRecDepth 65536 in
theorem w_named : about1.methodNamed? x = some theMethod := by decide +kernel
set_option maxRecDepth 65536 in
theorem w_hears : about1.hears theMethod below0 = true := by decide +kernel
set_option maxRecDepth 65536 in
theorem w_ripe : about1.ripe theMethod args0 below0 = true := by decide +kernel
theorem w_running : about1.status = .running := rfl
set_option maxRecDepth 65536 in
theorem w_room : about1.hasRoom e0.platform room_1 = true :=
  launch0.hasRoom_least _ room_1 (by decide +kernel) (by decide +kernel) (by decide +kernel) (by decide +kernel) (by decide +kernel) (by decide +kernel)
theorem allAtoms_all (ts : List Jvm.Cond) (a : Array Jvm.Value) (st : Jvm.State) : (allAtoms ts).before a st = ts.all (fun c => c.before a st) := by
  induction ts with
  | nil => rfl
  | cons c t ih =>
    show (Jvm.Cond.and c (allAtoms t)).before a st = _
    rw [Jvm.Cond.before_and, ih, List.all_cons]
def words1 : List Jvm.Cond := Jvm.Cond.code x code maxLocals ret :: tables_1
/-- a 'code' word, met by the world's own term for the bytes: nothing is compared byte by byte -/
theorem code_word {y : MethodName} {bytes : ByteArray} {mx : Nat} {rt : Option FieldType} {a : Array Value} {s : State} {m : MethodId} {meth : Method} {c : Code} (h1 : s.methodNamed? y = some m) (h2 : s.vm.method? m = some meth) (h3 : meth.code = some c) (h4 : c.code = bytes)
    (h5 : (c.maxLocals == mx && c.exceptionTable.isEmpty && decide (c.maxStack ≤ mostOperands) && decide (meth.sig.returnType = rt) && !meth.locks && decide (parseMethodDescriptor y.desc = some meth.sig)) = true) : (Jvm.Cond.code y bytes mx rt).before a s = true := by
  simp only [Bool.and_eq_true, beq_iff_eq, Bool.not_eq_true', decide_eq_true_eq] at h5
  obtain ⟨⟨⟨⟨⟨g1, g2⟩, g3⟩, g4⟩, g5⟩, g6⟩ := h5
  simp [Cond.before, Cond.holds, Cond.value, h1, h2, h3, h4, g1, g2, g3, g4, g5, g6]
def isCode : Jvm.Cond → Bool
  | .code _ _ _ _ => true
  | _ => false
theorem all_split {L : List Jvm.Cond} {P : Jvm.Cond → Bool} (h1 : L.all (fun c => isCode c || P c) = true) (h2 : ∀ c ∈ L.filter isCode, P c = true) : L.all P = true := by
  refine List.all_eq_true.mpr fun c hc => ?_
  have h := List.all_eq_true.mp h1 c hc
  rcases Bool.eq_false_or_eq_true (isCode c) with hi | hi
  · exact h2 c (List.mem_filter.mpr ⟨hc, hi⟩)
  · simpa [hi] using h
set_option maxRecDepth 65536 in
theorem w_c0 : (Jvm.Cond.code x code maxLocals ret).before args0 about1 = true := code_word (m := ⟨1, 2⟩) (meth := k1m2) (c := k1c2) (by decide +kernel) rfl rfl rfl (by decide +kernel)
set_option maxRecDepth 65536 in
theorem w_c1 : (Jvm.Cond.code ({ cls := "com/example/muhasib/muhasib/resource/KindMayStandUnderPinLaw", name := "kind", desc := "(I)Lcom/example/muhasib/muhasib/resource/ResourceName$Kind;" } : Jvm.MethodName) method_2_code (1 : Nat) (Option.some (Jvm.ClassFile.FieldType.object "com/example/muhasib/muhasib/resource/ResourceName$Kind"))).before args0 about1 = true := code_word (m := ⟨1, 1⟩) (meth := k1m1) (c := k1c1) (by decide +kernel) rfl rfl rfl (by decide +kernel)
set_option maxRecDepth 65536 in
theorem w_c2 : (Jvm.Cond.code ({ cls := "com/example/muhasib/muhasib/resource/ResourceName$Kind", name := "mayStandUnder", desc := "(Lcom/example/muhasib/muhasib/resource/ResourceName$Kind;)Z" } : Jvm.MethodName) prog_13_method_4_code (2 : Nat) (Option.some Jvm.ClassFile.FieldType.boolean)).before args0 about1 = true := code_word (m := ⟨6, 0⟩) (meth := k6m0) (c := k6c0) (by decide +kernel) rfl rfl rfl (by decide +kernel)
def codes1 : List Jvm.Cond := [Jvm.Cond.code x code maxLocals ret, Jvm.Cond.code ({ cls := "com/example/muhasib/muhasib/resource/KindMayStandUnderPinLaw", name := "kind", desc := "(I)Lcom/example/muhasib/muhasib/resource/ResourceName$Kind;" } : Jvm.MethodName) method_2_code (1 : Nat) (Option.some (Jvm.ClassFile.FieldType.object "com/example/muhasib/muhasib/resource/ResourceName$Kind")), Jvm.Cond.code ({ cls := "com/example/muhasib/muhasib/resource/ResourceName$Kind", name := "mayStandUnder", desc := "(Lcom/example/muhasib/muhasib/resource/ResourceName$Kind;)Z" } : Jvm.MethodName) prog_13_method_4_code (2 : Nat) (Option.some Jvm.ClassFile.FieldType.boolean)]
set_option maxRecDepth 65536 in
theorem codes_eq : words1.filter isCode = codes1 := rfl
theorem w_codes : ∀ c ∈ words1.filter isCode, c.before args0 about1 = true := by
  rw [codes_eq]
  intro c hc
  simp only [codes1, List.mem_cons, List.not_mem_nil, or_false] at hc
  rcases hc with rfl | rfl | rfl
  · exact w_c0
  · exact w_c1
  · exact w_c2
set_option maxRecDepth 65536 in
theorem w_t1 : words1.all (fun c => isCode c || c.before args0 about1) = true := by decide +kernel
theorem w_tables : (allAtoms (Jvm.Cond.code x code maxLocals ret :: tables_1)).before args0 about1 = true := by
  rw [allAtoms_all]
  show words1.all (fun c => c.before args0 about1) = true
  refine all_split ?_ w_codes
  rw [w_t1]
set_option maxRecDepth 65536 in
theorem w_case : (Jvm.Cond.and given_1 narrow_1).before args0 about1 = true := by decide +kernel
theorem w_applies : (headSpec (Jvm.Cond.code x code maxLocals ret :: tables_1) room_1).applies x e0.platform about1 = true :=
  (Spec.applies_iff w_frames).mpr ⟨w_running, w_runnable, w_alone, w_named, w_hears, w_ripe, w_room, w_tables⟩
theorem atStart : AtStart classFile x code maxLocals ret World_1 tables_1 room_1 Calls_1 rest_1 Pre_1 launch0 p0 e0 about1 theMethod args0 below0 :=
  ⟨lists_1, trivial, launch0.admits_env _ _ _, launch0.least_env, fairChoices_fair.cas, fairChoices_fair.clock, w_frames, w_args, w_heap, w_applies, trivial, trivial, w_case⟩
end start1
theorem witness_1 : WitnessClaimed_1 := ⟨start1.p0, start1.e0, start1.about1, start1.theMethod, start1.args0, start1.below0, start1.atStart⟩
end Jvm.Pilot.@@N@@
