import JvmDerived
import JvmDerived.Pilot.@@N@@Statement
import JvmDerived.Pilot.@@N@@Code
set_option linter.unusedVariables false
set_option linter.unusedSimpArgs false
namespace Jvm.Pilot.@@N@@
open Jvm Jvm.ClassFile Sem Op Lib Jvm.Free Jvm.Stand Jvm.LawKit Jvm.RoadKit Bundle Jvm.Pilot.@@N@@.Jvm.D
section OwnKit
variable {p : Program} {l : Launch} {e : Env} {R : Room} {s : State} {m : MethodId} {args : Array Value} {below : List Frame} {meth : Method} {c : Code} {T : State} {locs : List Loc} {cells slots : Nat} {Z : State} {a0 : Array Value} {h h0 : Heap} {pc : Nat} {Ls : Array Slot} {rest : List Value} {Q : Outcome → State → Prop}
def Go (p : Program) (e : Env) (below : List Frame) (T : State) (g : JFrame) (Q : Outcome → State → Prop) : Prop := ∃ s₂ o, Steps p.tables e below (T.setTop g) s₂ ∧ s₂.status = .running ∧ Ended s₂ below o ∧ Q o s₂
theorem Go.of {T' : State} {g g' : JFrame} (st : ∀ t, Steps p.tables e below (T'.setTop g') t → Steps p.tables e below (T.setTop g) t) (k : Go p e below T' g' Q) : Go p e below T g Q := by
  obtain ⟨a, b, h1, h2⟩ := k; exact ⟨a, b, st a h1, h2⟩
theorem o_iloadN (X : Stand p l e R s m args below meth c T locs cells slots) (hx : p.tables.exec = Jvm.exec) {k : Fin 4} {v : Int32} (hd : decode c.code pc = .ok (.iload_n k, 1)) (hl : Ls[k.val]? = some (.val (.int v))) (q : Go p e below T (mkF m (pc + 1) Ls (.int v :: rest)) Q) : Go p e below T (mkF m pc Ls (rest)) Q := Go.of (fun _ k => XS.iloadN X.here hx rfl hd hl k) q
theorem o_istoreN (X : Stand p l e R s m args below meth c T locs cells slots) (hx : p.tables.exec = Jvm.exec) {k : Fin 4} {v : Int32} {l' : Array Slot} (hd : decode c.code pc = .ok (.istore_n k, 1)) (hl : storeLocals Ls k.val (.int v) = some l') (q : Go p e below T (mkF m (pc + 1) l' (rest)) Q) : Go p e below T (mkF m pc Ls (.int v :: rest)) Q := Go.of (fun _ k => XS.istoreN X.here hx rfl hd rfl hl k) q
theorem o_aload (X : Stand p l e R s m args below meth c T locs cells slots) (hx : p.tables.exec = Jvm.exec) {k : Nat} {v : Value} (hd : decode c.code pc = .ok (.aload k, 2)) (hl : Ls[k]? = some (.val v)) (hv : v.isRef = true) (q : Go p e below T (mkF m (pc + 2) Ls (v :: rest)) Q) : Go p e below T (mkF m pc Ls (rest)) Q := Go.of (fun _ k => XS.aload X.here hx rfl hd hl hv k) q
theorem o_aloadN (X : Stand p l e R s m args below meth c T locs cells slots) (hx : p.tables.exec = Jvm.exec) {k : Fin 4} {v : Value} (hd : decode c.code pc = .ok (.aload_n k, 1)) (hl : Ls[k.val]? = some (.val v)) (hv : v.isRef = true) (q : Go p e below T (mkF m (pc + 1) Ls (v :: rest)) Q) : Go p e below T (mkF m pc Ls (rest)) Q := Go.of (fun _ k => XS.aloadN X.here hx rfl hd hl hv k) q
theorem o_astore (X : Stand p l e R s m args below meth c T locs cells slots) (hx : p.tables.exec = Jvm.exec) {k : Nat} {v : Value} {l' : Array Slot} (hd : decode c.code pc = .ok (.astore k, 2)) (hv : v.isRef = true) (hl : storeLocals Ls k v = some l') (q : Go p e below T (mkF m (pc + 2) l' (rest)) Q) : Go p e below T (mkF m pc Ls (v :: rest)) Q := Go.of (fun _ k => XS.astore X.here hx rfl hd rfl hv hl k) q
theorem o_astoreN (X : Stand p l e R s m args below meth c T locs cells slots) (hx : p.tables.exec = Jvm.exec) {k : Fin 4} {v : Value} {l' : Array Slot} (hd : decode c.code pc = .ok (.astore_n k, 1)) (hv : v.isRef = true) (hl : storeLocals Ls k.val v = some l') (q : Go p e below T (mkF m (pc + 1) l' (rest)) Q) : Go p e below T (mkF m pc Ls (v :: rest)) Q := Go.of (fun _ k => XS.astoreN X.here hx rfl hd rfl hv hl k) q
theorem o_iconst (X : Stand p l e R s m args below meth c T locs cells slots) (hx : p.tables.exec = Jvm.exec) {i : Int} (v : Int32) (hd : decode c.code pc = .ok (.iconst i, 1)) (hv : Int32.ofInt i = v) (q : Go p e below T (mkF m (pc + 1) Ls (.int v :: rest)) Q) : Go p e below T (mkF m pc Ls rest) Q := by
  subst hv
  exact Go.of (fun _ k => XS.iconst X.here hx rfl hd k) q
theorem o_iadd (X : Stand p l e R s m args below meth c T locs cells slots) (hx : p.tables.exec = Jvm.exec) {x y : Int32} (hd : decode c.code pc = .ok (.iadd, 1)) (q : Go p e below T (mkF m (pc + 1) Ls (.int (x + y) :: rest)) Q) : Go p e below T (mkF m pc Ls (.int y :: .int x :: rest)) Q := Go.of (fun _ k => XS.iadd X.here hx rfl hd rfl k) q
theorem o_iand (X : Stand p l e R s m args below meth c T locs cells slots) (hx : p.tables.exec = Jvm.exec) {x y : Int32} (hd : decode c.code pc = .ok (.iand, 1)) (q : Go p e below T (mkF m (pc + 1) Ls (.int (x &&& y) :: rest)) Q) : Go p e below T (mkF m pc Ls (.int y :: .int x :: rest)) Q := Go.of (fun _ k => XS.iand X.here hx rfl hd rfl k) q
theorem o_irem (X : Stand p l e R s m args below meth c T locs cells slots) (hx : p.tables.exec = Jvm.exec) {x y : Int32} (hd : decode c.code pc = .ok (.irem, 1)) (hy : y ≠ 0) (q : Go p e below T (mkF m (pc + 1) Ls (.int (x % y) :: rest)) Q) : Go p e below T (mkF m pc Ls (.int y :: .int x :: rest)) Q := Go.of (fun _ k => iremM (g := mkF m pc Ls (.int y :: .int x :: rest)) X hx rfl hd rfl hy k) q
theorem o_iinc (X : Stand p l e R s m args below meth c T locs cells slots) (hx : p.tables.exec = Jvm.exec) {k : Nat} {cst : Int} {x : Int32} {l' : Array Slot} (d : Int32) (hd : decode c.code pc = .ok (.iinc k cst, 3)) (hv : Int32.ofInt cst = d) (hl : Ls[k]? = some (.val (.int x))) (hl' : storeLocals Ls k (.int (x + d)) = some l') (q : Go p e below T (mkF m (pc + 3) l' rest) Q) : Go p e below T (mkF m pc Ls rest) Q := by
  subst hv
  exact Go.of (fun _ k => XS.iinc X.here hx rfl hd hl hl' k) q
theorem o_goto (X : Stand p l e R s m args below meth c T locs cells slots) (hx : p.tables.exec = Jvm.exec) (pc' : Nat) {o : Int} (hd : decode c.code pc = .ok (.goto o, 3)) (ho : 0 ≤ (pc : Int) + o) (hp : ((pc : Int) + o).toNat = pc') (q : Go p e below T (mkF m pc' Ls rest) Q) : Go p e below T (mkF m pc Ls rest) Q := Go.of (fun _ k => XS.goto X.here hx rfl (pc0 := pc) rfl hd ho hp k) q
theorem o_icmpYes (X : Stand p l e R s m args below meth c T locs cells slots) (hx : p.tables.exec = Jvm.exec) (pc' : Nat) {cd : ClassFile.Cond} {x y : Int32} {o : Int} (hd : decode c.code pc = .ok (.if_icmp cd o, 3)) (hc : if_icmp.holds cd x y = true) (ho : 0 ≤ (pc : Int) + o) (hp : ((pc : Int) + o).toNat = pc') (q : Go p e below T (mkF m pc' Ls rest) Q) : Go p e below T (mkF m pc Ls (.int y :: .int x :: rest)) Q := Go.of (fun _ k => XS.icmpYes X.here hx rfl (pc0 := pc) rfl hd rfl hc ho hp k) q
theorem o_icmpNo (X : Stand p l e R s m args below meth c T locs cells slots) (hx : p.tables.exec = Jvm.exec) {cd : ClassFile.Cond} {x y : Int32} {o : Int} (hd : decode c.code pc = .ok (.if_icmp cd o, 3)) (hc : if_icmp.holds cd x y = false) (q : Go p e below T (mkF m (pc + 3) Ls rest) Q) : Go p e below T (mkF m pc Ls (.int y :: .int x :: rest)) Q := Go.of (fun _ k => XS.icmpNo X.here hx rfl hd rfl hc k) q
theorem o_acmp (X : Stand p l e R s m args below meth c T locs cells slots) (hx : p.tables.exec = Jvm.exec) (pc' : Nat) (same : Bool) {cd : ACond} {x y : Value} {o : Int} (h1 : x.isRef = true) (h2 : y.isRef = true) (hd : decode c.code pc = .ok (.if_acmp cd o, 3)) (hq : decide (x = y) = same) (ho : 0 ≤ (pc : Int) + o) (hp : pc' = if acV cd same = true then ((pc : Int) + o).toNat else pc + 3) (q : Go p e below T (mkF m pc' Ls rest) Q) : Go p e below T (mkF m pc Ls (y :: x :: rest)) Q := Go.of (fun _ k => Jvm.RoadKit.acmp (g := mkF m pc Ls (y :: x :: rest)) X hx rfl h1 h2 (pc0 := pc) rfl hd rfl hq ho hp k) q
theorem o_ldcI (X : Stand p l e R s m args below meth c T locs cells slots) (hx : p.tables.exec = Jvm.exec) (hZ : Z.Warmed39 s.vm) {own : String} {index : Nat} {v : Int32} (hown : s.vm.findClass own = some m.cls) (w : (Cond.constant own index v).before a0 Z = true) (hd : decode c.code pc = .ok (.ldc index, 2)) (q : Go p e below T (mkF m (pc + 2) Ls (.int v :: rest)) Q) : Go p e below T (mkF m pc Ls rest) Q := Go.of (fun t k => X.ldcInt hx hown (mvT hZ w) (g := mkF m pc Ls rest) rfl hd t k) q
theorem o_getS (X : Stand p l e R s m args below meth c T locs cells slots) (hx : p.tables.exec = Jvm.exec) (hZ : Z.Warmed39 s.vm) {own R0 O n d host : String} {index : Nat} (hown : s.vm.findClass own = some m.cls) (w : (Cond.fieldLink own index R0 n d).before a0 Z = true ∨ (Cond.fieldLinkNest own index R0 n d host).before a0 Z = true) (via : Via Z R0 O n d) (eT : T.heap = h) {v : Value} (F : Sta Z h O n d v) (hd : decode c.code pc = .ok (.getstatic index, 3))
    (q : ∀ T', Stand p l e R s m args below meth c T' locs cells slots → T'.heap = h → Go p e below T' (mkF m (pc + 3) Ls (v :: rest)) Q) : Go p e below T (mkF m pc Ls rest) Q := by
  obtain ⟨T', X', e', st⟩ := getS2 X hx hZ hown w via eT F (g := mkF m pc Ls rest) rfl hd
  exact Go.of st (q T' X' e')
theorem o_getF (X : Stand p l e R s m args below meth c T locs cells slots) (hx : p.tables.exec = Jvm.exec) (hZ : Z.Warmed39 s.vm) {own R0 O n d host : String} {index : Nat} (hown : s.vm.findClass own = some m.cls) (w : (Cond.fieldLink own index R0 n d).before a0 Z = true ∨ (Cond.fieldLinkNest own index R0 n d host).before a0 Z = true) (via : Via Z R0 O n d) (eT : T.heap = h) {a : Addr} {v : Value} (F : Fld Z h a O n d v) (hd : decode c.code pc = .ok (.getfield index, 3))
    (q : ∀ T', Stand p l e R s m args below meth c T' locs cells slots → T'.heap = h → Go p e below T' (mkF m (pc + 3) Ls (v :: rest)) Q) : Go p e below T (mkF m pc Ls (.ref a :: rest)) Q := by
  obtain ⟨T', X', e', st⟩ := getF X hx hZ hown w via eT F (g := mkF m pc Ls (.ref a :: rest)) rfl rfl hd
  exact Go.of st (q T' X' e')
theorem o_cast (X : Stand p l e R s m args below meth c T locs cells slots) (hx : p.tables.exec = Jvm.exec) (hZ : Z.Warmed39 s.vm) {own K : String} {index : Nat} (hown : s.vm.findClass own = some m.cls) (w : (Cond.classLink own index K).before a0 Z = true) (eT : T.heap = h) {a : Addr} (F : Ins Z h a K true) (hd : decode c.code pc = .ok (.checkcast index, 3))
    (q : ∀ T', Stand p l e R s m args below meth c T' locs cells slots → T'.heap = h → Go p e below T' (mkF m (pc + 3) Ls (.ref a :: rest)) Q) : Go p e below T (mkF m pc Ls (.ref a :: rest)) Q := by
  obtain ⟨T', X', e', st⟩ := castY X hx hZ hown w eT F (g := mkF m pc Ls (.ref a :: rest)) rfl rfl hd
  exact Go.of st (q T' X' e')
theorem o_aaload (X : Stand p l e R s m args below meth c T locs cells slots) (hx : p.tables.exec = Jvm.exec) (hZ : Z.Warmed39 s.vm) (eT : T.heap = h) {a : Addr} {k : ClassId} {z j : Int32} {vs : List Value} {dv v : Value} {ty : FieldType} (A : Arv Z h a k ty z vs dv) (hty : ty.isReference = true) (hj : ¬ j < 0 ∧ j < z) (hv : vs.getD j.toNatClampNeg dv = v) (hd : decode c.code pc = .ok (.aaload, 1)) (q : Go p e below T (mkF m (pc + 1) Ls (v :: rest)) Q) : Go p e below T (mkF m pc Ls (.int j :: .ref a :: rest)) Q := by
  obtain ⟨cl, Ar, q1, S, N, H, G⟩ := A
  have hin := inb_of S hj
  exact Go.of (fun t k => X.aaload hx (j := j) (v := v) (by rw [eT]; exact Ar.1) (State.isArrayOf_alike hZ.alike Ar.2.1) hty Ar.2.2 hin (H.at hin hv) (g := mkF m pc Ls (.int j :: .ref a :: rest)) rfl rfl hd t k) q
theorem o_arraylength (X : Stand p l e R s m args below meth c T locs cells slots) (hx : p.tables.exec = Jvm.exec) (hZ : Z.Warmed39 s.vm) (eT : T.heap = h) {a : Addr} {k : ClassId} {z : Int32} {vs : List Value} {dv : Value} {ty : FieldType} (A : Arv Z h a k ty z vs dv) (hd : decode c.code pc = .ok (.arraylength, 1)) (q : Go p e below T (mkF m (pc + 1) Ls (.int z :: rest)) Q) : Go p e below T (mkF m pc Ls (.ref a :: rest)) Q := by
  obtain ⟨cl, Ar, q1, S, N, H, G⟩ := A
  refine Go.of (fun t k => X.arraylength hx (by rw [eT]; exact Ar.1) (State.isArrayOf_alike hZ.alike Ar.2.1) (g := mkF m pc Ls (.ref a :: rest)) rfl rfl hd t k) ?_
  rw [len_of S N]; exact q
def Lv (s : State) (Qc : Option Value → Heap → List Loc → Prop) (C S : Nat) (o : Outcome) (t : State) : Prop := ∃ v L, o = .returned v ∧ Qc v t.heap L ∧ FrameEnd s o t L C S
abbrev Ct (l : Launch) (Z : State) (y : MethodName) (bytes : ByteArray) (maxL : Nat) (ret : Option FieldType) (rm : Room) (ws : List Jvm.Cond) (as : Array Value) (h0 : Heap) (Qc : Option Value → Heap → List Loc → Prop) : Prop := MetFree l y (head1 (Jvm.Cond.code y bytes maxL ret :: ws) rm) (fun a U => a = as ∧ Z.Warmed39 U.vm ∧ U.heap = h0) (fun _ _ _ _ _ => True) (fun _ U o U' => ∃ v L, o = .returned v ∧ Qc v U'.heap L ∧ FrameEnd U o U' L rm.cells rm.slots)
theorem o_body {y : MethodName} {bytes : ByteArray} {maxL : Nat} {ret : Option FieldType} {rm : Room} {ws : List Jvm.Cond} {as : Array Value} {Qc : Option Value → Heap → List Loc → Prop} (hpl : plainFor y = true)
    (body : ∀ (p : Program) (e : Env) (s : State) (m : MethodId) (below : List Frame) (meth : Method) (c : Code) (s₁ : State), Stand p l e rm s m as below meth c s₁ [] 0 0 → p.tables.exec = Jvm.exec → c.code = bytes → c.maxLocals = maxL → meth.sig.returnType = ret → meth.locks = false → s.vm.findClass y.cls = some m.cls → meth.name = y.name → Z.Warmed39 s.vm → s₁.heap = h0 → Go p e below s₁ (entryFrame m as maxL) (Lv s Qc rm.cells rm.slots)) :
    Ct l Z y bytes maxL ret rm ws as h0 Qc := by
  refine MetFree.of_bodySF hpl hisR ?_
  intro p e s m args below meth c s₁ Bd hml0 hP hK
  obtain ⟨rfl, hZ, hh⟩ := hP
  exact body p e s m below meth c s₁ (Stand.of_body Bd) Bd.exec Bd.bytes hml0 Bd.returns Bd.notSynchronized (findClass_of_methodNamed Bd.named) (name_of_methodNamed Bd.named Bd.method).1 hZ (by rw [← hh, Bd.state]; rfl)
theorem o_top {g g' : JFrame} (q : g = g') (k : Go p e below T g' Q) : Go p e below T g Q := q ▸ k
theorem o_retV (X : Stand p l e R s m args below meth c T locs cells slots) (hx : p.tables.exec = Jvm.exec) {Qc : Option Value → Heap → List Loc → Prop} {C S : Nat} {w : Value} {t : FieldType} {i : Instr} (hret : meth.sig.returnType = some t) (hlk : meth.locks = false) (hn : narrow t w = w)
    (hi : (i = .ireturn ∧ (t = .int ∨ t = .boolean ∨ t = .byte ∨ t = .char ∨ t = .short) ∧ ∃ z, w = .int z) ∨ (i = .lreturn ∧ t = .long ∧ ∃ z, w = .long z) ∨ (i = .dreturn ∧ t = .double ∧ ∃ z, w = .double z) ∨ (i = .freturn ∧ t = .float ∧ ∃ z, w = .float z) ∨ (i = .areturn ∧ t.isReference = true ∧ w.isRef = true))
    (hd : decode c.code pc = .ok (i, 1)) (eT : T.heap = h) (q : Qc (some w) h locs) (hC : cells ≤ C) (hS : slots ≤ S) : Go p e below T (mkF m pc Ls (w :: rest)) (Lv s Qc C S) := by
  obtain ⟨fs, hr, hrun, hended, hW, hsame⟩ := X.leave (v := some w) (fun h => by rw [hret] at h; cases h) hlk
  refine ⟨_, _, retOut X hx hret hn hi hd hr, hrun, hended, some w, locs, rfl, ?_, ⟨_, rfl⟩, hW, hsame.mono hC hS⟩
  show Qc (some w) T.heap locs
  rw [eT]; exact q
theorem o_retI (X : Stand p l e R s m args below meth c T locs cells slots) (hx : p.tables.exec = Jvm.exec) {Qc : Option Value → Heap → List Loc → Prop} {C S : Nat} {z : Int32} (hret : meth.sig.returnType = some .int) (hlk : meth.locks = false) (hd : decode c.code pc = .ok (.ireturn, 1)) (eT : T.heap = h) (hC : cells ≤ C) (hS : slots ≤ S) (q : Qc (some (.int z)) h locs) : Go p e below T (mkF m pc Ls (.int z :: rest)) (Lv s Qc C S) := o_retV X hx hret hlk rfl (Or.inl ⟨rfl, Or.inl rfl, z, rfl⟩) hd eT q hC hS
theorem o_retA (X : Stand p l e R s m args below meth c T locs cells slots) (hx : p.tables.exec = Jvm.exec) {Qc : Option Value → Heap → List Loc → Prop} {C S : Nat} {w : Value} {t : FieldType} (hret : meth.sig.returnType = some t) (hlk : meth.locks = false) (ht : t.isReference = true) (hw : w.isRef = true) (hd : decode c.code pc = .ok (.areturn, 1)) (eT : T.heap = h) (hC : cells ≤ C) (hS : slots ≤ S) (q : Qc (some w) h locs) : Go p e below T (mkF m pc Ls (w :: rest)) (Lv s Qc C S) := o_retV X hx hret hlk (by rcases ref_cases hw with rfl | ⟨a, rfl⟩ <;> cases t <;> first | rfl | (cases ht; done)) (Or.inr (Or.inr (Or.inr (Or.inr ⟨rfl, ht, hw⟩)))) hd eT q hC hS
theorem o_retN (X : Stand p l e R s m args below meth c T locs cells slots) (hx : p.tables.exec = Jvm.exec) {Qc : Option Value → Heap → List Loc → Prop} {C S : Nat} {z : Int32} (t : FieldType) (hret : meth.sig.returnType = some t) (hlk : meth.locks = false) (ht : t = .boolean ∨ t = .byte ∨ t = .char ∨ t = .short) (hd : decode c.code pc = .ok (.ireturn, 1)) (eT : T.heap = h) (hC : cells ≤ C) (hS : slots ≤ S) (q : Qc (some (.int (nar t z))) h locs) : Go p e below T (mkF m pc Ls (.int z :: rest)) (Lv s Qc C S) := by
  obtain ⟨fs, hr, hrun, hended, hW, hsame⟩ := X.leave (v := some (.int (nar t z))) (fun h => by rw [hret] at h; cases h) hlk
  refine ⟨_, _, retN X hx hret ht hd hr, hrun, hended, some (.int (nar t z)), locs, rfl, ?_, ⟨_, rfl⟩, hW, hsame.mono hC hS⟩
  show Qc _ T.heap locs
  rw [eT]; exact q
theorem o_callS (X : Stand p l e R s m args below meth c T locs cells slots) (hx : p.tables.exec = Jvm.exec) (hZ : Z.Warmed39 s.vm) {y : MethodName} {bytes : ByteArray} {maxL : Nat} {ret : Option FieldType} {rm : Room} {as : Array Value} {Qc : Option Value → Heap → List Loc → Prop} {own : String} {index W : Nat} {argsL : List Value} (hown : s.vm.findClass own = some m.cls) (wl : (Cond.methodLink own index y).before a0 Z = true) (wst : (Cond.static y).before a0 Z = true) (wz : (Cond.initialized y.cls).before a0 Z = true) (wc : (Cond.code y bytes maxL ret).before a0 Z = true) (hy : y.cls ≠ "java/lang/invoke/MethodHandle" ∧ y.cls ≠ "java/lang/invoke/VarHandle") (hM : Ct l Z y bytes maxL ret rm [] as h Qc) (eT : T.heap = h) (hsize : Ls.size = c.maxLocals) (hlen : ∀ sig, parseMethodDescriptor y.desc = some sig → argsL.length = sig.parameters.length) (has : argsL.toArray = as) {st : List Value} (hst : st = argsL.reverse ++ rest) (hW : (rest.map fun v => v.category).sum ≤ W) (hd : decode c.code pc = .ok (.invokestatic index, 3)) (hf : rm.frames + 1 ≤ R.frames) (hl : W + (maxL + 11) + rm.locals ≤ R.locals) (hc : cells + rm.cells ≤ R.cells) (hs : slots + rm.slots ≤ R.slots)
    (q : ∀ v T' h' L, Stand p l e R s m args below meth c T' (locs ++ L) (cells + rm.cells) (slots + rm.slots) → T'.heap = h' → Qc v h' L → Go p e below T' (mkF m (pc + 3) Ls (v.toList ++ rest)) Q) : Go p e below T (mkF m pc Ls st) Q := by
  obtain ⟨v, vm₁, ⟨T', L', k', n'⟩, -, X', ⟨L, hQ, l1, y1, z1⟩, st'⟩ := Jvm.LawKit.callS X hx (y := y) hown (mvT hZ wl) (mvT hZ wst) (mvT hZ wz) (mvT hZ wc) hy (backOf (W := W) hM hZ wc wz hf hl) (g := mkF m pc Ls st) rfl hsize hlen hst (by show 2 * 0 + _ ≤ W; omega) hd (fun _ _ => ⟨has, eT, hc, hs⟩)
  dsimp only [Pt.U, Pt.locs, Pt.cells, Pt.slots] at X' l1 y1 z1 st' hQ
  subst l1 y1 z1
  exact Go.of st' (q v T' _ L X' rfl hQ)
theorem o_callV (X : Stand p l e R s m args below meth c T locs cells slots) (hx : p.tables.exec = Jvm.exec) (hZ : Z.Warmed39 s.vm) {y z : MethodName} {bytes : ByteArray} {maxL : Nat} {ret : Option FieldType} {rm : Room} {as : Array Value} {Qc : Option Value → Heap → List Loc → Prop} {own C : String} {index W : Nat} {argsL : List Value} {a : Addr} (hown : s.vm.findClass own = some m.cls) (wl : (Cond.methodLink own index y).before a0 Z = true) (wd : (Cond.declares y).before a0 Z = true) (hnf : NotFace s y) (wsel : (Cond.selects C y z).before a0 Z = true) (wi : (Cond.instanceMethod z).before a0 Z = true) (wz : (Cond.initialized z.cls).before a0 Z = true) (wc : (Cond.code z bytes maxL ret).before a0 Z = true) (hy : y.cls ≠ "java/lang/invoke/MethodHandle" ∧ y.cls ≠ "java/lang/invoke/VarHandle") (hM : Ct l Z z bytes maxL ret rm [] as h Qc) (eT : T.heap = h) (Ea : Exa Z h a C) (hsize : Ls.size = c.maxLocals) (hlen : ∀ sig, parseMethodDescriptor y.desc = some sig → argsL.length = sig.parameters.length) (has : (.ref a :: argsL).toArray = as) {st : List Value} (hst : st = argsL.reverse ++ .ref a :: rest) (hW : (rest.map fun v => v.category).sum ≤ W) (hd : decode c.code pc = .ok (.invokevirtual index, 3)) (hf : rm.frames + 1 ≤ R.frames) (hl : W + (maxL + 11) + rm.locals ≤ R.locals) (hc : cells + rm.cells ≤ R.cells) (hs : slots + rm.slots ≤ R.slots)
    (q : ∀ v T' h' L, Stand p l e R s m args below meth c T' (locs ++ L) (cells + rm.cells) (slots + rm.slots) → T'.heap = h' → Qc v h' L → Go p e below T' (mkF m (pc + 3) Ls (v.toList ++ rest)) Q) : Go p e below T (mkF m pc Ls st) Q := by
  obtain ⟨cq, kq, qa, qb, qc⟩ := isOf hZ eT Ea
  obtain ⟨v, vm₁, ⟨T', L', k', n'⟩, -, X', ⟨L, hQ, l1, y1, z1⟩, st'⟩ := X.virtualBack hx (y := y) (z := z) hown (mvT hZ wl) (mvT hZ wd) hnf (mvT hZ wsel) (mvT hZ wi) hy (backOf (W := W) hM hZ wc wz hf hl) qa qc (g := mkF m pc Ls st) rfl hsize (Steps.refl _) hlen hst (by show 2 * 0 + _ ≤ W; omega) hd (fun _ _ => ⟨has, eT, hc, hs⟩)
  dsimp only [Pt.U, Pt.locs, Pt.cells, Pt.slots] at X' l1 y1 z1 st' hQ
  subst l1 y1 z1
  exact Go.of (fun _ k => st'.trans k) (q v T' _ L X' rfl hQ)
theorem o_keep0 {h' : Heap} (K : Keep h h' []) : Ext h h' := ⟨K.1, fun x c q => K.2.1 x c q nin0⟩
theorem o_eqI {first s : State} {o : Option Outcome} {idx : List Nat} {a : Term} {n : Int32} (h : (Cond.eq a (.int n)).value args first o s idx = some true) : a.eval args first o idx s = some (.int n) := Cond.eq_int (beq_iff_eq.mpr h) rfl
theorem o_len {s : State} {t : Term} {a : Addr} {cl : Cell} {z : Int32} (et : t.eval args s none [] s = some (.ref a)) (ha : s.arrayAt? a = some cl) (h : (Term.length t).eval args s none [] s = some (.int z)) : cl.slots.size < 2 ^ 31 ∧ cl.slots.size.toInt32 = z := by
  have q : cl.slots.size < 2 ^ 31 := SBG.length_lt et ha h
  exact ⟨q, by simpa using Option.some.inj ((len_f et ha q).symm.trans h)⟩
theorem o_eqR {first s : State} {o : Option Outcome} {idx : List Nat} {a b : Term} {w : Addr} (h : (Cond.eq a b).value args first o s idx = some true) (hb : b.eval args first o idx s = some (.ref w)) : a.eval args first o idx s = some (.ref w) := by
  obtain ⟨x, y, e1, e2, k1, k2⟩ := cmp_v (Or.inl h)
  cases hb.symm.trans e2
  rw [e1, gotT (eq_R e1 e2 k2.2 rfl) h]
theorem o_clone (X : Stand p l e R s m args below meth c T locs cells slots) (hx : p.tables.exec = Jvm.exec) (hZ : Z.Warmed39 s.vm) {own ad : String} {index : Nat} (hown : s.vm.findClass own = some m.cls) (w1 : (Cond.methodLink own index ⟨ad, "clone", "()Ljava/lang/Object;"⟩).before a0 Z = true) (w2 : (Cond.sameMethod ad "java/lang/Object" "clone" "()Ljava/lang/Object;").before a0 Z = true) (w3 : (Cond.native ⟨"java/lang/Object", "clone", "()Ljava/lang/Object;"⟩).before a0 Z = true) (w4 : (Cond.instanceMethod ⟨"java/lang/Object", "clone", "()Ljava/lang/Object;"⟩).before a0 Z = true) (w5 : (Cond.selects ad ⟨ad, "clone", "()Ljava/lang/Object;"⟩ ⟨"java/lang/Object", "clone", "()Ljava/lang/Object;"⟩).before a0 Z = true) (w6 : (Cond.castable ad "java/lang/Cloneable").before a0 Z = true)
    (eT : T.heap = h) {a : Addr} {k : ClassId} {ty : FieldType} {z : Int32} {vs : List Value} {dv : Value} (F : Arv Z h a k ty z vs dv) (E : Exa Z h a ad) (hsize : Ls.size = c.maxLocals) (hd : decode c.code pc = .ok (.invokevirtual index, 3)) (hf : 1 ≤ R.frames) {W : Nat} (cap : Nat) (hW : (rest.map fun v => v.category).sum ≤ W) (hl : W + 14 ≤ R.locals) (hcap : z.toNatClampNeg ≤ cap) (hc : cells + 1 ≤ R.cells) (hsl : slots + cap ≤ R.slots)
    (q : ∀ T' h' b, Stand p l e R s m args below meth c T' locs (cells + 1) (slots + cap) → T'.heap = h' → h.size ≤ b → Ext h h' → Arv Z h' b k ty z vs dv → Exa Z h' b ad → Go p e below T' (mkF m (pc + 3) Ls (.ref b :: rest)) Q) : Go p e below T (mkF m pc Ls (.ref a :: rest)) Q := by
  obtain ⟨T', h', X', e', ex, A', E', st⟩ := cloneH X hx hZ hown w1 w2 w3 w4 w5 w6 eT F.arh E (g := mkF m pc Ls (.ref a :: rest)) rfl hsize rfl hd hf (W := W) (by show 2 * 0 + _ ≤ W; omega) hl hcap hc hsl
  exact Go.of st (q T' h' _ X' e' (Nat.le_refl _) ex A' E')
end OwnKit

abbrev IsolationLevelSta (Z : State) (n : String) (w : Addr) : Prop := Sta Z Z.heap "com/example/twinstate/twinstate/IsolationLevel" n "Lcom/example/twinstate/twinstate/IsolationLevel;" (.ref w)
abbrev IsolationLevelExa (Z : State) (w : Addr) : Prop := Exa Z Z.heap w "com/example/twinstate/twinstate/IsolationLevel"
theorem rem3 (x : Int32) : (x &&& 2147483647) % 3 = 0 ∨ (x &&& 2147483647) % 3 = 1 ∨ (x &&& 2147483647) % 3 = 2 := by
  have h := c_mask x 2147483647 31 (by decide) (by decide)
  have g := (c_irem (x &&& 2147483647) 3 3 (by decide)).1 (by rw [h]; omega)
  have e0 : (0 : Int32).toInt = 0 := rfl
  have e1 : (1 : Int32).toInt = 1 := rfl
  have e2 : (2 : Int32).toInt = 2 := rfl
  simp only [← Int32.toInt_inj, e0, e1, e2]
  omega
def K (i : Int32) (a b c : Addr) : Addr := if i = 1 then a else if i = 2 then b else c
theorem three (x : Int32) : (x &&& 2147483647) % 3 + 1 = 1 ∨ (x &&& 2147483647) % 3 + 1 = 2 ∨ (x &&& 2147483647) % 3 + 1 = 3 := by
  rcases rem3 x with h | h | h <;> rw [h] <;> decide
-- 
theorem o_pn_com_example_twinstate_twinstate_IsolationLevel : plainName "com/example/twinstate/twinstate/IsolationLevel" = true := by first | (simp [plainName, overriddenIn]; done) | decide +kernel
theorem o_d2_0 : decode prog_4_method_1_code 0 = .ok (.getstatic 13, 3) := by decide +kernel
theorem o_d2_3 : decode prog_4_method_1_code 3 = .ok (.invokevirtual 17, 3) := by decide +kernel
theorem o_d2_6 : decode prog_4_method_1_code 6 = .ok (.checkcast 18, 3) := by decide +kernel
theorem o_d2_9 : decode prog_4_method_1_code 9 = .ok (.areturn, 1) := by decide +kernel
set_option maxRecDepth 65536 in
set_option maxHeartbeats 40000000 in
theorem rm2 (l : Launch) (Z : State) (a0 : Array Value) (hw : ∀ d ∈ tables_1, d.before a0 Z = true) (ws : List Jvm.Cond) (wv : Addr) (kv : ClassId) (w_READ_UNCOMMITTED w_READ_COMMITTED w_REPEATABLE_READ : Addr) (h0 : Heap) (n0 : Nat) (O0 : Old Z n0 h0) (SV : Sta Z Z.heap "com/example/twinstate/twinstate/IsolationLevel" "$VALUES" "[Lcom/example/twinstate/twinstate/IsolationLevel;" (.ref wv)) (YV : Exa Z Z.heap wv "[Lcom/example/twinstate/twinstate/IsolationLevel;") (VV : Arv Z Z.heap wv kv (.object "com/example/twinstate/twinstate/IsolationLevel") (3 : Int32) [(.ref w_READ_UNCOMMITTED), (.ref w_READ_COMMITTED), (.ref w_REPEATABLE_READ)] .null) :
    Ct l Z (⟨"com/example/twinstate/twinstate/IsolationLevel", "values", "()[Lcom/example/twinstate/twinstate/IsolationLevel;"⟩ : MethodName) prog_4_method_1_code 0 (some (.array (.object "com/example/twinstate/twinstate/IsolationLevel"))) ({ frames := 1, cells := 1, slots := 3, locals := 14 } : Room) ws #[] h0 (fun v h L => ∃ b, v = some (.ref b) ∧ h0.size ≤ b ∧ Fr n0 L ∧ Ext h0 h ∧ Arv Z h b kv (.object "com/example/twinstate/twinstate/IsolationLevel") (3 : Int32) [(.ref w_READ_UNCOMMITTED), (.ref w_READ_COMMITTED), (.ref w_REPEATABLE_READ)] .null) := by
  refine o_body (plainFor_of_name o_pn_com_example_twinstate_twinstate_IsolationLevel) ?_
  intro p e s m below meth c s₁ X0 hx hby hml hret hlk hown hnm hZ e0
  have N0 := Fr.nil n0
  refine o_top (g' := (mkF m 0 #[] [])) (by first | (simp [entryFrame, mkF, argsToLocals, Value.category]; done) | rfl) ?_
  refine o_getS (pc := 0) X0 hx hZ hown (host := "") (Or.inl (hw _ (List.mem_of_getElem? (i := 8) rfl))) Via.refl e0 (SV.ext O0.2) (hb hby o_d2_0) fun T1 X1 e1 => ?_
  refine o_clone (pc := 3) X1 hx hZ hown (hw _ (List.mem_of_getElem? (i := 10) rfl)) (hw _ (List.mem_of_getElem? (i := 11) rfl)) (hw _ (List.mem_of_getElem? (i := 15) rfl)) (hw _ (List.mem_of_getElem? (i := 13) rfl)) (hw _ (List.mem_of_getElem? (i := 14) rfl)) (hw _ (List.mem_of_getElem? (i := 16) rfl)) e1 (VV.ext O0.2) (YV.ext O0.2) (by rw [hml]; rfl) (hb hby o_d2_3) (by decide) (W := 0) 3 (Nat.le_of_ble_eq_true rfl) (by decide) (by decide) (by decide) (by decide) fun T2 h2 b2 X2 e2 g2 E2 V2 Y2 => ?_
  have O3 := O0.ext E2
  have K3 : Keep h0 h2 [] := (Keep.refl h0 []).ext E2
  refine o_cast (pc := 6) X2 hx hZ hown (hw _ (List.mem_of_getElem? (i := 21) rfl)) e2 (Ins.self Y2) (hb hby o_d2_6) fun T4 X4 e4 => ?_
  exact o_retA (pc := 9) X4 hx hret hlk rfl rfl (hb hby o_d2_9) e4 (by decide) (by decide) ⟨b2, rfl, (Nat.le_trans (Keep.refl h0 []).1 g2), N0, o_keep0 K3, V2⟩
theorem o_d1_0 : decode prog_4_method_7_code 0 = .ok (.invokestatic 40, 3) := by decide +kernel
theorem o_pd0 : parseMethodDescriptor "()[Lcom/example/twinstate/twinstate/IsolationLevel;" = some ⟨[], some (.array (.object "com/example/twinstate/twinstate/IsolationLevel"))⟩ := by decide +kernel
theorem o_d1_3 : decode prog_4_method_7_code 3 = .ok (.astore_n 1, 1) := by decide +kernel
theorem o_d1_4 : decode prog_4_method_7_code 4 = .ok (.aload_n 1, 1) := by decide +kernel
theorem o_d1_5 : decode prog_4_method_7_code 5 = .ok (.arraylength, 1) := by decide +kernel
theorem o_d1_6 : decode prog_4_method_7_code 6 = .ok (.istore_n 2, 1) := by decide +kernel
theorem o_d1_7 : decode prog_4_method_7_code 7 = .ok (.iconst 0, 1) := by decide +kernel
theorem o_d1_8 : decode prog_4_method_7_code 8 = .ok (.istore_n 3, 1) := by decide +kernel
theorem o_d1_9 : decode prog_4_method_7_code 9 = .ok (.iload_n 3, 1) := by decide +kernel
theorem o_d1_10 : decode prog_4_method_7_code 10 = .ok (.iload_n 2, 1) := by decide +kernel
theorem o_d1_11 : decode prog_4_method_7_code 11 = .ok (.if_icmp .ge 26, 3) := by decide +kernel
theorem o_d1_14 : decode prog_4_method_7_code 14 = .ok (.aload_n 1, 1) := by decide +kernel
theorem o_d1_15 : decode prog_4_method_7_code 15 = .ok (.iload_n 3, 1) := by decide +kernel
theorem o_d1_16 : decode prog_4_method_7_code 16 = .ok (.aaload, 1) := by decide +kernel
theorem o_d1_17 : decode prog_4_method_7_code 17 = .ok (.astore 4, 2) := by decide +kernel
theorem o_d1_19 : decode prog_4_method_7_code 19 = .ok (.aload 4, 2) := by decide +kernel
theorem o_d1_21 : decode prog_4_method_7_code 21 = .ok (.getfield 36, 3) := by decide +kernel
theorem o_d1_24 : decode prog_4_method_7_code 24 = .ok (.iload_n 0, 1) := by decide +kernel
theorem o_d1_25 : decode prog_4_method_7_code 25 = .ok (.if_icmp .ne 6, 3) := by decide +kernel
theorem o_d1_28 : decode prog_4_method_7_code 28 = .ok (.aload 4, 2) := by decide +kernel
theorem o_d1_30 : decode prog_4_method_7_code 30 = .ok (.areturn, 1) := by decide +kernel
theorem o_d1_31 : decode prog_4_method_7_code 31 = .ok (.iinc 3 1, 3) := by decide +kernel
theorem o_d1_34 : decode prog_4_method_7_code 34 = .ok (.goto (-25), 3) := by decide +kernel
set_option maxRecDepth 65536 in
set_option maxHeartbeats 40000000 in
theorem rm1 (l : Launch) (Z : State) (a0 : Array Value) (hw : ∀ d ∈ tables_1, d.before a0 Z = true) (ws : List Jvm.Cond) (p1 : Int32) (wv : Addr) (kv : ClassId) (w_READ_UNCOMMITTED w_READ_COMMITTED w_REPEATABLE_READ : Addr) (h0 : Heap) (n0 : Nat) (O0 : Old Z n0 h0) (SV : Sta Z Z.heap "com/example/twinstate/twinstate/IsolationLevel" "$VALUES" "[Lcom/example/twinstate/twinstate/IsolationLevel;" (.ref wv)) (YV : Exa Z Z.heap wv "[Lcom/example/twinstate/twinstate/IsolationLevel;") (VV : Arv Z Z.heap wv kv (.object "com/example/twinstate/twinstate/IsolationLevel") (3 : Int32) [(.ref w_READ_UNCOMMITTED), (.ref w_READ_COMMITTED), (.ref w_REPEATABLE_READ)] .null) (F_READ_UNCOMMITTED_code : Fld Z Z.heap w_READ_UNCOMMITTED "com/example/twinstate/twinstate/IsolationLevel" "code" "I" (.int (1 : Int32))) (F_READ_COMMITTED_code : Fld Z Z.heap w_READ_COMMITTED "com/example/twinstate/twinstate/IsolationLevel" "code" "I" (.int (2 : Int32))) (F_REPEATABLE_READ_code : Fld Z Z.heap w_REPEATABLE_READ "com/example/twinstate/twinstate/IsolationLevel" "code" "I" (.int (3 : Int32))) (hp : p1 = 1 ∨ p1 = 2 ∨ p1 = 3) :
    Ct l Z (⟨"com/example/twinstate/twinstate/IsolationLevel", "fromCode", "(I)Lcom/example/twinstate/twinstate/IsolationLevel;"⟩ : MethodName) prog_4_method_7_code 5 (some (.object "com/example/twinstate/twinstate/IsolationLevel")) ({ frames := 2, cells := 1, slots := 3, locals := 25 } : Room) ws #[(.int p1)] h0 (fun v h L => v = some (.ref (K p1 w_READ_UNCOMMITTED w_READ_COMMITTED w_REPEATABLE_READ)) ∧ Fr n0 L ∧ Ext h0 h) := by
  refine o_body (plainFor_of_name o_pn_com_example_twinstate_twinstate_IsolationLevel) ?_
  intro p e s m below meth c s₁ X0 hx hby hml hret hlk hown hnm hZ e0
  have N0 := Fr.nil n0
  refine o_top (g' := (mkF m 0 #[.val (.int p1), .unset, .unset, .unset, .unset] [])) (by first | (simp [entryFrame, mkF, argsToLocals, Value.category]; done) | rfl) ?_
  refine o_callS (pc := 0) X0 hx hZ (y := (⟨"com/example/twinstate/twinstate/IsolationLevel", "values", "()[Lcom/example/twinstate/twinstate/IsolationLevel;"⟩ : MethodName)) (argsL := []) (rest := []) hown (hw _ (List.mem_of_getElem? (i := 5) rfl)) (hw _ (List.mem_of_getElem? (i := 6) rfl)) (hw _ (List.mem_of_getElem? (i := 3) rfl)) (hw _ (List.mem_of_getElem? (i := 7) rfl)) (by decide) (rm2 l Z a0 hw [] wv kv w_READ_UNCOMMITTED w_READ_COMMITTED w_REPEATABLE_READ h0 n0 O0 SV YV VV ) e0 (by rw [hml]; rfl) (lenOf o_pd0 rfl) (has := rfl) (hst := rfl) (W := 0) (Nat.le_of_ble_eq_true rfl) (hb hby o_d1_0) (by decide) (by decide) (by decide) (by decide) fun v5 T5 h5 L5 X5 e5 q5 => ?_
  obtain ⟨b5, rfl, g5, N5q, E5, V5⟩ := q5
  have N5 := Fr.app N0 N5q
  have O6 := O0.ext E5
  have K6 : Keep h0 h5 [] := (Keep.refl h0 []).ext E5
  show Go p e below T5 (mkF m 3 #[.val (.int p1), .unset, .unset, .unset, .unset] [(.ref b5)]) _
  refine o_astoreN (l' := #[.val (.int p1), .val (.ref b5), .unset, .unset, .unset]) (pc := 3) X5 hx (hb hby o_d1_3) rfl rfl ?_
  refine o_aloadN (v := (.ref b5)) (pc := 4) X5 hx (hb hby o_d1_4) rfl rfl ?_
  refine o_arraylength (pc := 5) X5 hx hZ e5 V5 (hb hby o_d1_5) ?_
  refine o_istoreN (l' := #[.val (.int p1), .val (.ref b5), .val (.int (3 : Int32)), .unset, .unset]) (pc := 6) X5 hx (hb hby o_d1_6) rfl ?_
  refine o_iconst (pc := 7) X5 hx (0 : Int32) (hb hby o_d1_7) rfl ?_
  refine o_istoreN (l' := #[.val (.int p1), .val (.ref b5), .val (.int (3 : Int32)), .val (.int (0 : Int32)), .unset]) (pc := 8) X5 hx (hb hby o_d1_8) rfl ?_
  refine o_iloadN (v := (0 : Int32)) (pc := 9) X5 hx (hb hby o_d1_9) rfl ?_
  refine o_iloadN (v := (3 : Int32)) (pc := 10) X5 hx (hb hby o_d1_10) rfl ?_
  refine o_icmpNo (pc := 11) X5 hx (hb hby o_d1_11) (tlt (by decide : (0 : Int32) < (3 : Int32))).2.1 ?_
  refine o_aloadN (v := (.ref b5)) (pc := 14) X5 hx (hb hby o_d1_14) rfl rfl ?_
  refine o_iloadN (v := (0 : Int32)) (pc := 15) X5 hx (hb hby o_d1_15) rfl ?_
  refine o_aaload (v := (.ref w_READ_UNCOMMITTED)) (pc := 16) X5 hx hZ e5 V5 rfl ⟨by decide, by decide⟩ rfl (hb hby o_d1_16) ?_
  refine o_astore (l' := #[.val (.int p1), .val (.ref b5), .val (.int (3 : Int32)), .val (.int (0 : Int32)), .val (.ref w_READ_UNCOMMITTED)]) (pc := 17) X5 hx (hb hby o_d1_17) rfl rfl ?_
  refine o_aload (v := (.ref w_READ_UNCOMMITTED)) (pc := 19) X5 hx (hb hby o_d1_19) rfl rfl ?_
  refine o_getF (pc := 21) X5 hx hZ hown (host := "") (Or.inl (hw _ (List.mem_of_getElem? (i := 23) rfl))) Via.refl e5 (F_READ_UNCOMMITTED_code.ext O6.2) (hb hby o_d1_21) fun T7 X7 e7 => ?_
  refine o_iloadN (v := p1) (pc := 24) X7 hx (hb hby o_d1_24) rfl ?_
  by_cases hc8 : (1 : Int32) = p1
  · skip
    refine o_icmpNo (pc := 25) X7 hx (hb hby o_d1_25) (teq hc8).2 ?_
    refine o_aload (v := (.ref w_READ_UNCOMMITTED)) (pc := 28) X7 hx (hb hby o_d1_28) rfl rfl ?_
    exact o_retA (pc := 30) X7 hx hret hlk rfl rfl (hb hby o_d1_30) e7 (by decide) (by decide) ⟨by simp [K, ← hc8], N5, o_keep0 K6⟩
  · skip
    refine o_icmpYes (pc := 25) X7 hx 31 (hb hby o_d1_25) (feq hc8).2 (by decide) (by decide) ?_
    refine o_iinc (x := (0 : Int32)) (l' := #[.val (.int p1), .val (.ref b5), .val (.int (3 : Int32)), .val (.int ((0 : Int32) + (1 : Int32))), .val (.ref w_READ_UNCOMMITTED)]) (pc := 31) X7 hx (1 : Int32) (hb hby o_d1_31) rfl rfl rfl ?_
    rw [show ((0 : Int32) + (1 : Int32)) = (1 : Int32) from rfl]
    refine o_goto (pc := 34) X7 hx 9 (hb hby o_d1_34) (by decide) (by decide) ?_
    refine o_iloadN (v := (1 : Int32)) (pc := 9) X7 hx (hb hby o_d1_9) rfl ?_
    refine o_iloadN (v := (3 : Int32)) (pc := 10) X7 hx (hb hby o_d1_10) rfl ?_
    refine o_icmpNo (pc := 11) X7 hx (hb hby o_d1_11) (tlt (by decide : (1 : Int32) < (3 : Int32))).2.1 ?_
    refine o_aloadN (v := (.ref b5)) (pc := 14) X7 hx (hb hby o_d1_14) rfl rfl ?_
    refine o_iloadN (v := (1 : Int32)) (pc := 15) X7 hx (hb hby o_d1_15) rfl ?_
    refine o_aaload (v := (.ref w_READ_COMMITTED)) (pc := 16) X7 hx hZ e7 V5 rfl ⟨by decide, by decide⟩ rfl (hb hby o_d1_16) ?_
    refine o_astore (l' := #[.val (.int p1), .val (.ref b5), .val (.int (3 : Int32)), .val (.int (1 : Int32)), .val (.ref w_READ_COMMITTED)]) (pc := 17) X7 hx (hb hby o_d1_17) rfl rfl ?_
    refine o_aload (v := (.ref w_READ_COMMITTED)) (pc := 19) X7 hx (hb hby o_d1_19) rfl rfl ?_
    refine o_getF (pc := 21) X7 hx hZ hown (host := "") (Or.inl (hw _ (List.mem_of_getElem? (i := 23) rfl))) Via.refl e7 (F_READ_COMMITTED_code.ext O6.2) (hb hby o_d1_21) fun T9 X9 e9 => ?_
    refine o_iloadN (v := p1) (pc := 24) X9 hx (hb hby o_d1_24) rfl ?_
    by_cases hc10 : (2 : Int32) = p1
    · skip
      refine o_icmpNo (pc := 25) X9 hx (hb hby o_d1_25) (teq hc10).2 ?_
      refine o_aload (v := (.ref w_READ_COMMITTED)) (pc := 28) X9 hx (hb hby o_d1_28) rfl rfl ?_
      exact o_retA (pc := 30) X9 hx hret hlk rfl rfl (hb hby o_d1_30) e9 (by decide) (by decide) ⟨by simp [K, Ne.symm hc8, ← hc10], N5, o_keep0 K6⟩
    · skip
      refine o_icmpYes (pc := 25) X9 hx 31 (hb hby o_d1_25) (feq hc10).2 (by decide) (by decide) ?_
      refine o_iinc (x := (1 : Int32)) (l' := #[.val (.int p1), .val (.ref b5), .val (.int (3 : Int32)), .val (.int ((1 : Int32) + (1 : Int32))), .val (.ref w_READ_COMMITTED)]) (pc := 31) X9 hx (1 : Int32) (hb hby o_d1_31) rfl rfl rfl ?_
      rw [show ((1 : Int32) + (1 : Int32)) = (2 : Int32) from rfl]
      refine o_goto (pc := 34) X9 hx 9 (hb hby o_d1_34) (by decide) (by decide) ?_
      refine o_iloadN (v := (2 : Int32)) (pc := 9) X9 hx (hb hby o_d1_9) rfl ?_
      refine o_iloadN (v := (3 : Int32)) (pc := 10) X9 hx (hb hby o_d1_10) rfl ?_
      refine o_icmpNo (pc := 11) X9 hx (hb hby o_d1_11) (tlt (by decide : (2 : Int32) < (3 : Int32))).2.1 ?_
      refine o_aloadN (v := (.ref b5)) (pc := 14) X9 hx (hb hby o_d1_14) rfl rfl ?_
      refine o_iloadN (v := (2 : Int32)) (pc := 15) X9 hx (hb hby o_d1_15) rfl ?_
      refine o_aaload (v := (.ref w_REPEATABLE_READ)) (pc := 16) X9 hx hZ e9 V5 rfl ⟨by decide, by decide⟩ rfl (hb hby o_d1_16) ?_
      refine o_astore (l' := #[.val (.int p1), .val (.ref b5), .val (.int (3 : Int32)), .val (.int (2 : Int32)), .val (.ref w_REPEATABLE_READ)]) (pc := 17) X9 hx (hb hby o_d1_17) rfl rfl ?_
      refine o_aload (v := (.ref w_REPEATABLE_READ)) (pc := 19) X9 hx (hb hby o_d1_19) rfl rfl ?_
      refine o_getF (pc := 21) X9 hx hZ hown (host := "") (Or.inl (hw _ (List.mem_of_getElem? (i := 23) rfl))) Via.refl e9 (F_REPEATABLE_READ_code.ext O6.2) (hb hby o_d1_21) fun T11 X11 e11 => ?_
      refine o_iloadN (v := p1) (pc := 24) X11 hx (hb hby o_d1_24) rfl ?_
      by_cases hc12 : (3 : Int32) = p1
      · skip
        refine o_icmpNo (pc := 25) X11 hx (hb hby o_d1_25) (teq hc12).2 ?_
        refine o_aload (v := (.ref w_REPEATABLE_READ)) (pc := 28) X11 hx (hb hby o_d1_28) rfl rfl ?_
        exact o_retA (pc := 30) X11 hx hret hlk rfl rfl (hb hby o_d1_30) e11 (by decide) (by decide) ⟨by simp [K, Ne.symm hc8, Ne.symm hc10, ← hc12], N5, o_keep0 K6⟩
      · skip
        refine o_icmpYes (pc := 25) X11 hx 31 (hb hby o_d1_25) (feq hc12).2 (by decide) (by decide) ?_
        refine o_iinc (x := (2 : Int32)) (l' := #[.val (.int p1), .val (.ref b5), .val (.int (3 : Int32)), .val (.int ((2 : Int32) + (1 : Int32))), .val (.ref w_REPEATABLE_READ)]) (pc := 31) X11 hx (1 : Int32) (hb hby o_d1_31) rfl rfl rfl ?_
        rw [show ((2 : Int32) + (1 : Int32)) = (3 : Int32) from rfl]
        refine o_goto (pc := 34) X11 hx 9 (hb hby o_d1_34) (by decide) (by decide) ?_
        refine o_iloadN (v := (3 : Int32)) (pc := 9) X11 hx (hb hby o_d1_9) rfl ?_
        refine o_iloadN (v := (3 : Int32)) (pc := 10) X11 hx (hb hby o_d1_10) rfl ?_
        refine o_icmpYes (pc := 11) X11 hx 37 (hb hby o_d1_11) (flt (by decide : ¬ ((3 : Int32) < (3 : Int32)))).2.1 (by decide) (by decide) ?_
        exfalso; rcases hp with h | h | h; exact hc8 h.symm; exact hc10 h.symm; exact hc12 h.symm
theorem o_d3_0 : decode prog_4_method_5_code 0 = .ok (.aload_n 0, 1) := by decide +kernel
theorem o_d3_1 : decode prog_4_method_5_code 1 = .ok (.getfield 36, 3) := by decide +kernel
theorem o_d3_4 : decode prog_4_method_5_code 4 = .ok (.ireturn, 1) := by decide +kernel
set_option maxRecDepth 65536 in
set_option maxHeartbeats 40000000 in
theorem rm3 (l : Launch) (Z : State) (a0 : Array Value) (hw : ∀ d ∈ tables_1, d.before a0 Z = true) (ws : List Jvm.Cond) (a1 : Addr) (k : Int32) (h0 : Heap) (n0 : Nat) (O0 : Old Z n0 h0) (F : Fld Z Z.heap a1 "com/example/twinstate/twinstate/IsolationLevel" "code" "I" (.int k)) :
    Ct l Z (⟨"com/example/twinstate/twinstate/IsolationLevel", "code", "()I"⟩ : MethodName) prog_4_method_5_code 1 (some .int) ({ frames := 0, cells := 0, slots := 0, locals := 0 } : Room) ws #[(.ref a1)] h0 (fun v h L => v = some (.int k) ∧ Fr n0 L ∧ h0 = h) := by
  refine o_body (plainFor_of_name o_pn_com_example_twinstate_twinstate_IsolationLevel) ?_
  intro p e s m below meth c s₁ X0 hx hby hml hret hlk hown hnm hZ e0
  have N0 := Fr.nil n0
  refine o_top (g' := (mkF m 0 #[.val (.ref a1)] [])) (by first | (simp [entryFrame, mkF, argsToLocals, Value.category]; done) | rfl) ?_
  refine o_aloadN (v := (.ref a1)) (pc := 0) X0 hx (hb hby o_d3_0) rfl rfl ?_
  refine o_getF (pc := 1) X0 hx hZ hown (host := "") (Or.inl (hw _ (List.mem_of_getElem? (i := 23) rfl))) Via.refl e0 (F.ext O0.2) (hb hby o_d3_1) fun T13 X13 e13 => ?_
  exact o_retI (pc := 4) X13 hx hret hlk (hb hby o_d3_4) e13 (by decide) (by decide) ⟨rfl, N0, rfl⟩
theorem o_pn_com_example_twinstate_twinstate_IsolationLevelFromCodePinLaw : plainName "com/example/twinstate/twinstate/IsolationLevelFromCodePinLaw" = true := by first | (simp [plainName, overriddenIn]; done) | decide +kernel
theorem o_pd1 : parseMethodDescriptor "(I)Lcom/example/twinstate/twinstate/IsolationLevel;" = some ⟨[.int], some (.object "com/example/twinstate/twinstate/IsolationLevel")⟩ := by decide +kernel
theorem o_pd2 : parseMethodDescriptor "()I" = some ⟨[], some .int⟩ := by decide +kernel
set_option maxRecDepth 65536 in
set_option maxHeartbeats 40000000 in
theorem rm0 (l : Launch) (Z : State) (a0 : Array Value) (hw : ∀ d ∈ tables_1, d.before a0 Z = true) (ws : List Jvm.Cond) (p1 : Int32) (wv : Addr) (kv : ClassId) (w_READ_UNCOMMITTED w_READ_COMMITTED w_REPEATABLE_READ : Addr) (h0 : Heap) (n0 : Nat) (O0 : Old Z n0 h0) (S_READ_UNCOMMITTED : IsolationLevelSta Z "READ_UNCOMMITTED" w_READ_UNCOMMITTED) (S_READ_COMMITTED : IsolationLevelSta Z "READ_COMMITTED" w_READ_COMMITTED) (S_REPEATABLE_READ : IsolationLevelSta Z "REPEATABLE_READ" w_REPEATABLE_READ) (E_READ_UNCOMMITTED : IsolationLevelExa Z w_READ_UNCOMMITTED) (E_READ_COMMITTED : IsolationLevelExa Z w_READ_COMMITTED) (E_REPEATABLE_READ : IsolationLevelExa Z w_REPEATABLE_READ) (SV : Sta Z Z.heap "com/example/twinstate/twinstate/IsolationLevel" "$VALUES" "[Lcom/example/twinstate/twinstate/IsolationLevel;" (.ref wv)) (YV : Exa Z Z.heap wv "[Lcom/example/twinstate/twinstate/IsolationLevel;") (VV : Arv Z Z.heap wv kv (.object "com/example/twinstate/twinstate/IsolationLevel") (3 : Int32) [(.ref w_READ_UNCOMMITTED), (.ref w_READ_COMMITTED), (.ref w_REPEATABLE_READ)] .null) (F_READ_UNCOMMITTED_code : Fld Z Z.heap w_READ_UNCOMMITTED "com/example/twinstate/twinstate/IsolationLevel" "code" "I" (.int (1 : Int32))) (F_READ_COMMITTED_code : Fld Z Z.heap w_READ_COMMITTED "com/example/twinstate/twinstate/IsolationLevel" "code" "I" (.int (2 : Int32))) (F_REPEATABLE_READ_code : Fld Z Z.heap w_REPEATABLE_READ "com/example/twinstate/twinstate/IsolationLevel" "code" "I" (.int (3 : Int32))) :
    Ct l Z x code maxLocals ret room_1 ws #[(.int p1)] h0 (fun v h L => v = some (.int 1) ∧ Fr n0 L) := by
  refine o_body (plainFor_of_name o_pn_com_example_twinstate_twinstate_IsolationLevelFromCodePinLaw) ?_
  intro p e s m below meth c s₁ X0 hx hby hml hret hlk hown hnm hZ e0
  have N0 := Fr.nil n0
  refine o_top (g' := (mkF m 0 #[.val (.int p1), .unset, .unset, .unset] [])) (by first | (simp [entryFrame, mkF, argsToLocals, Value.category, maxLocals]; done) | rfl) ?_
  refine o_iloadN (v := p1) (pc := 0) X0 hx (hb hby at_0) rfl ?_
  refine o_ldcI (pc := 1) X0 hx hZ hown (hw _ (List.mem_of_getElem? (i := 0) rfl)) (hb hby at_1) ?_
  refine o_iand (pc := 3) X0 hx (hb hby at_3) ?_
  refine o_iconst (pc := 4) X0 hx (3 : Int32) (hb hby at_4) rfl ?_
  refine o_irem (pc := 5) X0 hx (hb hby at_5) (by decide) ?_
  refine o_iconst (pc := 6) X0 hx (1 : Int32) (hb hby at_6) rfl ?_
  refine o_iadd (pc := 7) X0 hx (hb hby at_7) ?_
  refine o_istoreN (l' := #[.val (.int p1), .val (.int (((p1 &&& (2147483647 : Int32)) % (3 : Int32)) + (1 : Int32))), .unset, .unset]) (pc := 8) X0 hx (hb hby at_8) rfl ?_
  rcases three p1 with hk | hk | hk
  · skip
    refine o_iloadN (v := (((p1 &&& (2147483647 : Int32)) % (3 : Int32)) + (1 : Int32))) (pc := 9) X0 hx (hb hby at_9) rfl ?_
    refine o_callS (pc := 10) X0 hx hZ (y := (⟨"com/example/twinstate/twinstate/IsolationLevel", "fromCode", "(I)Lcom/example/twinstate/twinstate/IsolationLevel;"⟩ : MethodName)) (argsL := [(.int (((p1 &&& (2147483647 : Int32)) % (3 : Int32)) + (1 : Int32)))]) (rest := []) hown (hw _ (List.mem_of_getElem? (i := 1) rfl)) (hw _ (List.mem_of_getElem? (i := 2) rfl)) (hw _ (List.mem_of_getElem? (i := 3) rfl)) (hw _ (List.mem_of_getElem? (i := 4) rfl)) (by decide) (rm1 l Z a0 hw [] (((p1 &&& (2147483647 : Int32)) % (3 : Int32)) + (1 : Int32)) wv kv w_READ_UNCOMMITTED w_READ_COMMITTED w_REPEATABLE_READ h0 n0 O0 SV YV VV F_READ_UNCOMMITTED_code F_READ_COMMITTED_code F_REPEATABLE_READ_code (three p1)) e0 (by rw [hml]; rfl) (lenOf o_pd1 rfl) (has := rfl) (hst := rfl) (W := 0) (Nat.le_of_ble_eq_true rfl) (hb hby at_10) (by decide) (by decide) (by decide) (by decide) fun v14 T14 h14 L14 X14 e14 q14 => ?_
    obtain ⟨r14, N14q, E14⟩ := q14
    rw [show K (((p1 &&& (2147483647 : Int32)) % (3 : Int32)) + (1 : Int32)) w_READ_UNCOMMITTED w_READ_COMMITTED w_REPEATABLE_READ = w_READ_UNCOMMITTED from by rw [hk]; rfl] at r14
    subst r14
    have N14 := Fr.app N0 N14q
    have O15 := O0.ext E14
    show Go p e below T14 (mkF m 13 #[.val (.int p1), .val (.int (((p1 &&& (2147483647 : Int32)) % (3 : Int32)) + (1 : Int32))), .unset, .unset] [(.ref w_READ_UNCOMMITTED)]) _
    refine o_astoreN (l' := #[.val (.int p1), .val (.int (((p1 &&& (2147483647 : Int32)) % (3 : Int32)) + (1 : Int32))), .val (.ref w_READ_UNCOMMITTED), .unset]) (pc := 13) X14 hx (hb hby at_13) rfl rfl ?_
    refine o_iloadN (v := (((p1 &&& (2147483647 : Int32)) % (3 : Int32)) + (1 : Int32))) (pc := 14) X14 hx (hb hby at_14) rfl ?_
    refine o_iconst (pc := 15) X14 hx (1 : Int32) (hb hby at_15) rfl ?_
    refine o_icmpNo (pc := 16) X14 hx (hb hby at_16) (teq (by rw [hk]; first | done | decide : (((p1 &&& (2147483647 : Int32)) % (3 : Int32)) + (1 : Int32)) = (1 : Int32))).2 ?_
    refine o_getS (pc := 19) X14 hx hZ hown (host := "") (Or.inl (hw _ (List.mem_of_getElem? (i := 25) rfl))) Via.refl e14 (S_READ_UNCOMMITTED.ext O15.2) (hb hby at_19) fun T16 X16 e16 => ?_
    refine o_astoreN (l' := #[.val (.int p1), .val (.int (((p1 &&& (2147483647 : Int32)) % (3 : Int32)) + (1 : Int32))), .val (.ref w_READ_UNCOMMITTED), .val (.ref w_READ_UNCOMMITTED)]) (pc := 22) X16 hx (hb hby at_22) rfl rfl ?_
    refine o_goto (pc := 23) X16 hx 42 (hb hby at_23) (by decide) (by decide) ?_
    refine o_aloadN (v := (.ref w_READ_UNCOMMITTED)) (pc := 42) X16 hx (hb hby at_42) rfl rfl ?_
    refine o_aloadN (v := (.ref w_READ_UNCOMMITTED)) (pc := 43) X16 hx (hb hby at_43) rfl rfl ?_
    refine o_acmp (x := (.ref w_READ_UNCOMMITTED)) (y := (.ref w_READ_UNCOMMITTED)) (pc := 44) X16 hx 47 true rfl rfl (hb hby at_44) (decide_eq_true rfl) (by decide) (by decide) ?_
    refine o_aloadN (v := (.ref w_READ_UNCOMMITTED)) (pc := 47) X16 hx (hb hby at_47) rfl rfl ?_
    refine o_callV (pc := 48) X16 hx hZ (y := (⟨"com/example/twinstate/twinstate/IsolationLevel", "code", "()I"⟩ : MethodName)) (z := (⟨"com/example/twinstate/twinstate/IsolationLevel", "code", "()I"⟩ : MethodName)) (C := "com/example/twinstate/twinstate/IsolationLevel") (a := w_READ_UNCOMMITTED) (argsL := []) (rest := []) hown (hw _ (List.mem_of_getElem? (i := 26) rfl)) (hw _ (List.mem_of_getElem? (i := 27) rfl)) (notFace_of_selects (args := #[]) (mvT hZ (hw _ (List.mem_of_getElem? (i := 29) rfl)))) (hw _ (List.mem_of_getElem? (i := 29) rfl)) (hw _ (List.mem_of_getElem? (i := 28) rfl)) (hw _ (List.mem_of_getElem? (i := 3) rfl)) (hw _ (List.mem_of_getElem? (i := 30) rfl)) (by decide) (rm3 l Z a0 hw [] w_READ_UNCOMMITTED (1 : Int32) h14 n0 O15 F_READ_UNCOMMITTED_code) e16 (E_READ_UNCOMMITTED.ext O15.2) (by rw [hml]; rfl) (lenOf o_pd2 rfl) (has := rfl) (hst := rfl) (W := 0) (Nat.le_of_ble_eq_true rfl) (hb hby at_48) (by decide) (by decide) (by decide) (by decide) fun v17 T17 h17 L17 X17 e17 q17 => ?_
    obtain ⟨rfl, N17q, rfl⟩ := q17
    have N17 := Fr.app N14 N17q
    show Go p e below T17 (mkF m 51 #[.val (.int p1), .val (.int (((p1 &&& (2147483647 : Int32)) % (3 : Int32)) + (1 : Int32))), .val (.ref w_READ_UNCOMMITTED), .val (.ref w_READ_UNCOMMITTED)] [(.int (1 : Int32))]) _
    refine o_iloadN (v := (((p1 &&& (2147483647 : Int32)) % (3 : Int32)) + (1 : Int32))) (pc := 51) X17 hx (hb hby at_51) rfl ?_
    refine o_icmpNo (pc := 52) X17 hx (hb hby at_52) (teq (by rw [hk]; first | done | decide : (1 : Int32) = (((p1 &&& (2147483647 : Int32)) % (3 : Int32)) + (1 : Int32)))).2 ?_
    refine o_iconst (pc := 55) X17 hx (1 : Int32) (hb hby at_55) rfl ?_
    refine o_goto (pc := 56) X17 hx 60 (hb hby at_56) (by decide) (by decide) ?_
    exact o_retN (pc := 60) X17 hx .boolean hret hlk (by simp) (hb hby at_60) e17 (by decide) (by decide) ⟨rfl, N17⟩
  · skip
    refine o_iloadN (v := (((p1 &&& (2147483647 : Int32)) % (3 : Int32)) + (1 : Int32))) (pc := 9) X0 hx (hb hby at_9) rfl ?_
    refine o_callS (pc := 10) X0 hx hZ (y := (⟨"com/example/twinstate/twinstate/IsolationLevel", "fromCode", "(I)Lcom/example/twinstate/twinstate/IsolationLevel;"⟩ : MethodName)) (argsL := [(.int (((p1 &&& (2147483647 : Int32)) % (3 : Int32)) + (1 : Int32)))]) (rest := []) hown (hw _ (List.mem_of_getElem? (i := 1) rfl)) (hw _ (List.mem_of_getElem? (i := 2) rfl)) (hw _ (List.mem_of_getElem? (i := 3) rfl)) (hw _ (List.mem_of_getElem? (i := 4) rfl)) (by decide) (rm1 l Z a0 hw [] (((p1 &&& (2147483647 : Int32)) % (3 : Int32)) + (1 : Int32)) wv kv w_READ_UNCOMMITTED w_READ_COMMITTED w_REPEATABLE_READ h0 n0 O0 SV YV VV F_READ_UNCOMMITTED_code F_READ_COMMITTED_code F_REPEATABLE_READ_code (three p1)) e0 (by rw [hml]; rfl) (lenOf o_pd1 rfl) (has := rfl) (hst := rfl) (W := 0) (Nat.le_of_ble_eq_true rfl) (hb hby at_10) (by decide) (by decide) (by decide) (by decide) fun v18 T18 h18 L18 X18 e18 q18 => ?_
    obtain ⟨r18, N18q, E18⟩ := q18
    rw [show K (((p1 &&& (2147483647 : Int32)) % (3 : Int32)) + (1 : Int32)) w_READ_UNCOMMITTED w_READ_COMMITTED w_REPEATABLE_READ = w_READ_COMMITTED from by rw [hk]; rfl] at r18
    subst r18
    have N18 := Fr.app N0 N18q
    have O19 := O0.ext E18
    show Go p e below T18 (mkF m 13 #[.val (.int p1), .val (.int (((p1 &&& (2147483647 : Int32)) % (3 : Int32)) + (1 : Int32))), .unset, .unset] [(.ref w_READ_COMMITTED)]) _
    refine o_astoreN (l' := #[.val (.int p1), .val (.int (((p1 &&& (2147483647 : Int32)) % (3 : Int32)) + (1 : Int32))), .val (.ref w_READ_COMMITTED), .unset]) (pc := 13) X18 hx (hb hby at_13) rfl rfl ?_
    refine o_iloadN (v := (((p1 &&& (2147483647 : Int32)) % (3 : Int32)) + (1 : Int32))) (pc := 14) X18 hx (hb hby at_14) rfl ?_
    refine o_iconst (pc := 15) X18 hx (1 : Int32) (hb hby at_15) rfl ?_
    refine o_icmpYes (pc := 16) X18 hx 26 (hb hby at_16) (feq (by rw [hk]; first | done | decide : ¬ ((((p1 &&& (2147483647 : Int32)) % (3 : Int32)) + (1 : Int32)) = (1 : Int32)))).2 (by decide) (by decide) ?_
    refine o_iloadN (v := (((p1 &&& (2147483647 : Int32)) % (3 : Int32)) + (1 : Int32))) (pc := 26) X18 hx (hb hby at_26) rfl ?_
    refine o_iconst (pc := 27) X18 hx (2 : Int32) (hb hby at_27) rfl ?_
    refine o_icmpNo (pc := 28) X18 hx (hb hby at_28) (teq (by rw [hk]; first | done | decide : (((p1 &&& (2147483647 : Int32)) % (3 : Int32)) + (1 : Int32)) = (2 : Int32))).2 ?_
    refine o_getS (pc := 31) X18 hx hZ hown (host := "") (Or.inl (hw _ (List.mem_of_getElem? (i := 32) rfl))) Via.refl e18 (S_READ_COMMITTED.ext O19.2) (hb hby at_31) fun T20 X20 e20 => ?_
    refine o_astoreN (l' := #[.val (.int p1), .val (.int (((p1 &&& (2147483647 : Int32)) % (3 : Int32)) + (1 : Int32))), .val (.ref w_READ_COMMITTED), .val (.ref w_READ_COMMITTED)]) (pc := 34) X20 hx (hb hby at_34) rfl rfl ?_
    refine o_goto (pc := 35) X20 hx 42 (hb hby at_35) (by decide) (by decide) ?_
    refine o_aloadN (v := (.ref w_READ_COMMITTED)) (pc := 42) X20 hx (hb hby at_42) rfl rfl ?_
    refine o_aloadN (v := (.ref w_READ_COMMITTED)) (pc := 43) X20 hx (hb hby at_43) rfl rfl ?_
    refine o_acmp (x := (.ref w_READ_COMMITTED)) (y := (.ref w_READ_COMMITTED)) (pc := 44) X20 hx 47 true rfl rfl (hb hby at_44) (decide_eq_true rfl) (by decide) (by decide) ?_
    refine o_aloadN (v := (.ref w_READ_COMMITTED)) (pc := 47) X20 hx (hb hby at_47) rfl rfl ?_
    refine o_callV (pc := 48) X20 hx hZ (y := (⟨"com/example/twinstate/twinstate/IsolationLevel", "code", "()I"⟩ : MethodName)) (z := (⟨"com/example/twinstate/twinstate/IsolationLevel", "code", "()I"⟩ : MethodName)) (C := "com/example/twinstate/twinstate/IsolationLevel") (a := w_READ_COMMITTED) (argsL := []) (rest := []) hown (hw _ (List.mem_of_getElem? (i := 26) rfl)) (hw _ (List.mem_of_getElem? (i := 27) rfl)) (notFace_of_selects (args := #[]) (mvT hZ (hw _ (List.mem_of_getElem? (i := 29) rfl)))) (hw _ (List.mem_of_getElem? (i := 29) rfl)) (hw _ (List.mem_of_getElem? (i := 28) rfl)) (hw _ (List.mem_of_getElem? (i := 3) rfl)) (hw _ (List.mem_of_getElem? (i := 30) rfl)) (by decide) (rm3 l Z a0 hw [] w_READ_COMMITTED (2 : Int32) h18 n0 O19 F_READ_COMMITTED_code) e20 (E_READ_COMMITTED.ext O19.2) (by rw [hml]; rfl) (lenOf o_pd2 rfl) (has := rfl) (hst := rfl) (W := 0) (Nat.le_of_ble_eq_true rfl) (hb hby at_48) (by decide) (by decide) (by decide) (by decide) fun v21 T21 h21 L21 X21 e21 q21 => ?_
    obtain ⟨rfl, N21q, rfl⟩ := q21
    have N21 := Fr.app N18 N21q
    show Go p e below T21 (mkF m 51 #[.val (.int p1), .val (.int (((p1 &&& (2147483647 : Int32)) % (3 : Int32)) + (1 : Int32))), .val (.ref w_READ_COMMITTED), .val (.ref w_READ_COMMITTED)] [(.int (2 : Int32))]) _
    refine o_iloadN (v := (((p1 &&& (2147483647 : Int32)) % (3 : Int32)) + (1 : Int32))) (pc := 51) X21 hx (hb hby at_51) rfl ?_
    refine o_icmpNo (pc := 52) X21 hx (hb hby at_52) (teq (by rw [hk]; first | done | decide : (2 : Int32) = (((p1 &&& (2147483647 : Int32)) % (3 : Int32)) + (1 : Int32)))).2 ?_
    refine o_iconst (pc := 55) X21 hx (1 : Int32) (hb hby at_55) rfl ?_
    refine o_goto (pc := 56) X21 hx 60 (hb hby at_56) (by decide) (by decide) ?_
    exact o_retN (pc := 60) X21 hx .boolean hret hlk (by simp) (hb hby at_60) e21 (by decide) (by decide) ⟨rfl, N21⟩
  · skip
    refine o_iloadN (v := (((p1 &&& (2147483647 : Int32)) % (3 : Int32)) + (1 : Int32))) (pc := 9) X0 hx (hb hby at_9) rfl ?_
    refine o_callS (pc := 10) X0 hx hZ (y := (⟨"com/example/twinstate/twinstate/IsolationLevel", "fromCode", "(I)Lcom/example/twinstate/twinstate/IsolationLevel;"⟩ : MethodName)) (argsL := [(.int (((p1 &&& (2147483647 : Int32)) % (3 : Int32)) + (1 : Int32)))]) (rest := []) hown (hw _ (List.mem_of_getElem? (i := 1) rfl)) (hw _ (List.mem_of_getElem? (i := 2) rfl)) (hw _ (List.mem_of_getElem? (i := 3) rfl)) (hw _ (List.mem_of_getElem? (i := 4) rfl)) (by decide) (rm1 l Z a0 hw [] (((p1 &&& (2147483647 : Int32)) % (3 : Int32)) + (1 : Int32)) wv kv w_READ_UNCOMMITTED w_READ_COMMITTED w_REPEATABLE_READ h0 n0 O0 SV YV VV F_READ_UNCOMMITTED_code F_READ_COMMITTED_code F_REPEATABLE_READ_code (three p1)) e0 (by rw [hml]; rfl) (lenOf o_pd1 rfl) (has := rfl) (hst := rfl) (W := 0) (Nat.le_of_ble_eq_true rfl) (hb hby at_10) (by decide) (by decide) (by decide) (by decide) fun v22 T22 h22 L22 X22 e22 q22 => ?_
    obtain ⟨r22, N22q, E22⟩ := q22
    rw [show K (((p1 &&& (2147483647 : Int32)) % (3 : Int32)) + (1 : Int32)) w_READ_UNCOMMITTED w_READ_COMMITTED w_REPEATABLE_READ = w_REPEATABLE_READ from by rw [hk]; rfl] at r22
    subst r22
    have N22 := Fr.app N0 N22q
    have O23 := O0.ext E22
    show Go p e below T22 (mkF m 13 #[.val (.int p1), .val (.int (((p1 &&& (2147483647 : Int32)) % (3 : Int32)) + (1 : Int32))), .unset, .unset] [(.ref w_REPEATABLE_READ)]) _
    refine o_astoreN (l' := #[.val (.int p1), .val (.int (((p1 &&& (2147483647 : Int32)) % (3 : Int32)) + (1 : Int32))), .val (.ref w_REPEATABLE_READ), .unset]) (pc := 13) X22 hx (hb hby at_13) rfl rfl ?_
    refine o_iloadN (v := (((p1 &&& (2147483647 : Int32)) % (3 : Int32)) + (1 : Int32))) (pc := 14) X22 hx (hb hby at_14) rfl ?_
    refine o_iconst (pc := 15) X22 hx (1 : Int32) (hb hby at_15) rfl ?_
    refine o_icmpYes (pc := 16) X22 hx 26 (hb hby at_16) (feq (by rw [hk]; first | done | decide : ¬ ((((p1 &&& (2147483647 : Int32)) % (3 : Int32)) + (1 : Int32)) = (1 : Int32)))).2 (by decide) (by decide) ?_
    refine o_iloadN (v := (((p1 &&& (2147483647 : Int32)) % (3 : Int32)) + (1 : Int32))) (pc := 26) X22 hx (hb hby at_26) rfl ?_
    refine o_iconst (pc := 27) X22 hx (2 : Int32) (hb hby at_27) rfl ?_
    refine o_icmpYes (pc := 28) X22 hx 38 (hb hby at_28) (feq (by rw [hk]; first | done | decide : ¬ ((((p1 &&& (2147483647 : Int32)) % (3 : Int32)) + (1 : Int32)) = (2 : Int32)))).2 (by decide) (by decide) ?_
    refine o_getS (pc := 38) X22 hx hZ hown (host := "") (Or.inl (hw _ (List.mem_of_getElem? (i := 31) rfl))) Via.refl e22 (S_REPEATABLE_READ.ext O23.2) (hb hby at_38) fun T24 X24 e24 => ?_
    refine o_astoreN (l' := #[.val (.int p1), .val (.int (((p1 &&& (2147483647 : Int32)) % (3 : Int32)) + (1 : Int32))), .val (.ref w_REPEATABLE_READ), .val (.ref w_REPEATABLE_READ)]) (pc := 41) X24 hx (hb hby at_41) rfl rfl ?_
    refine o_aloadN (v := (.ref w_REPEATABLE_READ)) (pc := 42) X24 hx (hb hby at_42) rfl rfl ?_
    refine o_aloadN (v := (.ref w_REPEATABLE_READ)) (pc := 43) X24 hx (hb hby at_43) rfl rfl ?_
    refine o_acmp (x := (.ref w_REPEATABLE_READ)) (y := (.ref w_REPEATABLE_READ)) (pc := 44) X24 hx 47 true rfl rfl (hb hby at_44) (decide_eq_true rfl) (by decide) (by decide) ?_
    refine o_aloadN (v := (.ref w_REPEATABLE_READ)) (pc := 47) X24 hx (hb hby at_47) rfl rfl ?_
    refine o_callV (pc := 48) X24 hx hZ (y := (⟨"com/example/twinstate/twinstate/IsolationLevel", "code", "()I"⟩ : MethodName)) (z := (⟨"com/example/twinstate/twinstate/IsolationLevel", "code", "()I"⟩ : MethodName)) (C := "com/example/twinstate/twinstate/IsolationLevel") (a := w_REPEATABLE_READ) (argsL := []) (rest := []) hown (hw _ (List.mem_of_getElem? (i := 26) rfl)) (hw _ (List.mem_of_getElem? (i := 27) rfl)) (notFace_of_selects (args := #[]) (mvT hZ (hw _ (List.mem_of_getElem? (i := 29) rfl)))) (hw _ (List.mem_of_getElem? (i := 29) rfl)) (hw _ (List.mem_of_getElem? (i := 28) rfl)) (hw _ (List.mem_of_getElem? (i := 3) rfl)) (hw _ (List.mem_of_getElem? (i := 30) rfl)) (by decide) (rm3 l Z a0 hw [] w_REPEATABLE_READ (3 : Int32) h22 n0 O23 F_REPEATABLE_READ_code) e24 (E_REPEATABLE_READ.ext O23.2) (by rw [hml]; rfl) (lenOf o_pd2 rfl) (has := rfl) (hst := rfl) (W := 0) (Nat.le_of_ble_eq_true rfl) (hb hby at_48) (by decide) (by decide) (by decide) (by decide) fun v25 T25 h25 L25 X25 e25 q25 => ?_
    obtain ⟨rfl, N25q, rfl⟩ := q25
    have N25 := Fr.app N22 N25q
    show Go p e below T25 (mkF m 51 #[.val (.int p1), .val (.int (((p1 &&& (2147483647 : Int32)) % (3 : Int32)) + (1 : Int32))), .val (.ref w_REPEATABLE_READ), .val (.ref w_REPEATABLE_READ)] [(.int (3 : Int32))]) _
    refine o_iloadN (v := (((p1 &&& (2147483647 : Int32)) % (3 : Int32)) + (1 : Int32))) (pc := 51) X25 hx (hb hby at_51) rfl ?_
    refine o_icmpNo (pc := 52) X25 hx (hb hby at_52) (teq (by rw [hk]; first | done | decide : (3 : Int32) = (((p1 &&& (2147483647 : Int32)) % (3 : Int32)) + (1 : Int32)))).2 ?_
    refine o_iconst (pc := 55) X25 hx (1 : Int32) (hb hby at_55) rfl ?_
    refine o_goto (pc := 56) X25 hx 60 (hb hby at_56) (by decide) (by decide) ?_
    exact o_retN (pc := 60) X25 hx .boolean hret hlk (by simp) (hb hby at_60) e25 (by decide) (by decide) ⟨rfl, N25⟩
set_option maxRecDepth 65536 in
set_option maxHeartbeats 40000000 in
theorem comes_1 {Post : Tables → Env → Array Value → State → Outcome → State → Prop} (hpost : ∀ tb e args s v u, (limb_1_1.after args s (.returned v) u = true ∧ limb_1_2.after args s (.returned v) u = true ∧ True) → FrameEnd s (.returned v) u (Jvm.fieldLocs frame_1_writes args s ++ Jvm.arrayLocs frame_1_arrays args s ++ Jvm.staticLocs frame_1_statics s) 16 128 → Post tb e args s (.returned v) u) :
    ArmFor flags0 classFile x code maxLocals ret World_1 tables_1 room_1 Calls_1 rest_1 Pre_1 Post := by
  intro l hfl _ _ p e ha hc hk s m args below hf hA hF happ hP
  obtain ⟨hcalls, hrest, hpre⟩ := hP
  obtain ⟨-, -, -, hnamed, -, -, -, hat⟩ := (Spec.applies_iff hf).mp happ
  obtain ⟨hg, hn⟩ := and_e (Cond.before_iff.mp (show (Jvm.Cond.and given_1 narrow_1).before args s = true from hpre))
  obtain ⟨g26, g27⟩ := and_e hg
  obtain ⟨g28, g29⟩ := and_e hn
  obtain ⟨g30, g31⟩ := and_e g29
  obtain ⟨g32, g33⟩ := and_e g31
  obtain ⟨g34, g35⟩ := and_e g33
  obtain ⟨g36, g37⟩ := and_e g35
  obtain ⟨g38, g39⟩ := and_e g37
  obtain ⟨g40, g41⟩ := and_e g39
  obtain ⟨g42, g43⟩ := and_e g41
  obtain ⟨g44, g45⟩ := and_e g43
  obtain ⟨g46, g47⟩ := and_e g45
  obtain ⟨g48, g49⟩ := and_e g47
  obtain ⟨w0, rfl⟩ : ∃ w0 : Value, args = #[w0] := by
    have hs : args.size = 1 := by simpa [Cond.value, given_1] using g26
    obtain ⟨L⟩ := args
    match L, hs with
    | [w0], _ => exact ⟨w0, rfl⟩
  have hw := fun d (hd : d ∈ tables_1) => atoms_spec (ws := Jvm.Cond.code x code maxLocals ret :: tables_1) hat d (List.mem_cons_of_mem _ hd)
  have hfit : Fit s := fun {y c} hc i hi => by
    obtain ⟨ha, rfl⟩ := Array.getElem?_eq_some_iff.mp hc
    have q := List.all_eq_true.mp ((Array.all_eq_true_iff_forall_mem.mp hF) _ (Array.getElem_mem ha)) i (List.mem_range.mpr hi)
    simpa [Array.getElem?_eq_getElem hi] using q
  obtain ⟨i0, ei0⟩ := is_v g27
  obtain rfl : w0 = (.int i0) := Option.some.inj ei0
  obtain ⟨w_READ_UNCOMMITTED, ev_READ_UNCOMMITTED⟩ := exa_v g34
  have S_READ_UNCOMMITTED := Sta.start ev_READ_UNCOMMITTED (Or.inr ⟨(hw _ (List.mem_of_getElem? (i := 3) rfl)), (hw _ (List.mem_of_getElem? (i := 17) rfl))⟩)
  have E_READ_UNCOMMITTED := Exa.start ev_READ_UNCOMMITTED g34
  obtain ⟨w_READ_COMMITTED, ev_READ_COMMITTED⟩ := exa_v g38
  have S_READ_COMMITTED := Sta.start ev_READ_COMMITTED (Or.inr ⟨(hw _ (List.mem_of_getElem? (i := 3) rfl)), (hw _ (List.mem_of_getElem? (i := 18) rfl))⟩)
  have E_READ_COMMITTED := Exa.start ev_READ_COMMITTED g38
  obtain ⟨w_REPEATABLE_READ, ev_REPEATABLE_READ⟩ := exa_v g42
  have S_REPEATABLE_READ := Sta.start ev_REPEATABLE_READ (Or.inr ⟨(hw _ (List.mem_of_getElem? (i := 3) rfl)), (hw _ (List.mem_of_getElem? (i := 19) rfl))⟩)
  have E_REPEATABLE_READ := Exa.start ev_REPEATABLE_READ g42
  have F_READ_UNCOMMITTED_code : Fld s s.heap w_READ_UNCOMMITTED "com/example/twinstate/twinstate/IsolationLevel" "code" "I" (.int (1 : Int32)) := Fld.start ((fld_at ev_READ_UNCOMMITTED).symm.trans (o_eqI g46))
  have F_READ_COMMITTED_code : Fld s s.heap w_READ_COMMITTED "com/example/twinstate/twinstate/IsolationLevel" "code" "I" (.int (2 : Int32)) := Fld.start ((fld_at ev_READ_COMMITTED).symm.trans (o_eqI g48))
  have F_REPEATABLE_READ_code : Fld s s.heap w_REPEATABLE_READ "com/example/twinstate/twinstate/IsolationLevel" "code" "I" (.int (3 : Int32)) := Fld.start ((fld_at ev_REPEATABLE_READ).symm.trans (o_eqI g49))
  obtain ⟨wv, evv⟩ := exa_v g30
  have SV := Sta.start evv (Or.inr ⟨(hw _ (List.mem_of_getElem? (i := 3) rfl)), (hw _ (List.mem_of_getElem? (i := 9) rfl))⟩)
  have YV := Exa.start evv g30
  obtain ⟨cv, AV⟩ := Arr.start evv g28
  obtain ⟨lv1, lv2⟩ := o_len evv (AV.fin (Vm.Alike.refl _)) (o_eqI g32)
  have el0 := (elem_in (o_eqR g36 ev_READ_UNCOMMITTED) evv rfl AV.1).2
  have el1 := (elem_in (o_eqR g40 ev_READ_COMMITTED) evv rfl AV.1).2
  have el2 := (elem_in (o_eqR g44 ev_REPEATABLE_READ) evv rfl AV.1).2
  have VV : Arv s s.heap wv cv.cls (.object "com/example/twinstate/twinstate/IsolationLevel") (3 : Int32) [(.ref w_READ_UNCOMMITTED), (.ref w_READ_COMMITTED), (.ref w_REPEATABLE_READ)] .null := Arv.start hfit AV lv1 lv2 (by decide) rfl ⟨el0, el1, el2, trivial⟩
  obtain ⟨n, o, h1, h2, h3, _, L, rfl, ⟨rfl, N⟩, hq⟩ := rm0 l s _ hw tables_1 i0 wv cv.cls w_READ_UNCOMMITTED w_READ_COMMITTED w_REPEATABLE_READ s.heap s.heap.size (Old.start s) S_READ_UNCOMMITTED S_READ_COMMITTED S_REPEATABLE_READ E_READ_UNCOMMITTED E_READ_COMMITTED E_REPEATABLE_READ SV YV VV F_READ_UNCOMMITTED_code F_READ_COMMITTED_code F_REPEATABLE_READ_code p e ha hc hk s m _ below hf ((Spec.applies_iff_loose hf).mp happ).1 ⟨rfl, State.Warmed39.refl s, rfl⟩ trivial
  refine ⟨n, _, h1, h2, h3, hpost _ _ _ _ _ _ ⟨Cond.after_iff.mpr rfl, Cond.after_iff.mpr (eq_i res_at (Term.int_eval (1)) rfl), trivial⟩ ⟨hq.1, hq.2.1, (hq.2.2.sift fun y hy => Or.inr (N y hy)).mono (by decide) (by decide)⟩⟩
theorem main_1_1 : Claimed_1_1 := comes_1 fun _ _ _ _ _ _ h hF => ⟨h.1, hF⟩
theorem main_1_2 : Claimed_1_2 := comes_1 fun _ _ _ _ _ _ h hF => ⟨h.2.1, hF⟩
end Jvm.Pilot.@@N@@
namespace Jvm.Pilot.@@N@@
open Jvm Jvm.ClassFile Sem Op Lib Jvm.Free Jvm.Stand Jvm.Pilot.@@N@@.Jvm.D
/-! MADE BY PROGRAM (witnessworld.py) out of the Statement's table words and the real class files: 13 classes; the members and pool entries that the words name. The judged class is class 1, her method 1. -/
namespace start1
open Jvm.ClassFile
def u (s : String) : CpInfo := .utf8 (stringToUtf16 s)
/-- a pool by its gaps: so many unusable entries, then the entry; so many at the end -/
def gap : Nat → List CpInfo → List CpInfo
  | 0, r => r
  | n + 1, r => .unusable :: gap n r
def poolList (es : List (Nat × CpInfo)) (last : Nat) : List CpInfo := es.foldr (fun e r => gap e.1 (e.2 :: r)) (gap last [])
def pool (es : List (Nat × CpInfo)) (last : Nat) : Array CpInfo := ⟨poolList es last⟩
def fileOf (pool : Array CpInfo) (this : Nat) (attrs : Array Attribute := #[]) (ms : Array MethodInfo := #[]) (fl : Nat := 33) (sup : Nat := 0) (ifs : Array Nat := #[]) (fds : Array FieldInfo := #[]) : ClassFile where
  minorVersion := 0
  majorVersion := 65
  constantPool := pool
  accessFlags := fl
  thisClass := this
  superClass := sup
  interfaces := ifs
  fields := fds
  methods := ms
  attributes := attrs
def plain (name : String) (sup : Option ClassId) : Class where
  name := name
  kind := .ordinary
  loader := none
  accessFlags := 33
  super := sup
  interfaces := #[]
  cf := none
  fields := #[]
  methods := #[]
  instanceTypes := #[]
  staticTypes := #[]
  resolved := #[]
  callSites := []
  init := .initialized
  statics := none
  mirror := none

def pool0 : Array CpInfo := pool [(5, u "<init>"), (0, u "()V"), (1, .class_ 10), (1, u "java/lang/Object"), (85, u "clone"), (0, u "()Ljava/lang/Object;")] 26

def k0m0 : Method := { name := "<init>", desc := "()V", sig := { parameters := [], returnType := none }, accessFlags := 1, code := none }
def k0m1 : Method := { name := "clone", desc := "()Ljava/lang/Object;", sig := { parameters := [], returnType := some (.object "java/lang/Object") }, accessFlags := 260, code := none }
/-- java/lang/Object -/
def k0 : Class := { plain "java/lang/Object" none with
  accessFlags := 33
  interfaces := #[]
  cf := some (fileOf pool0 8 #[] #[{ accessFlags := 1, nameIndex := 5, descriptorIndex := 6, attributes := #[] }, { accessFlags := 260, nameIndex := 96, descriptorIndex := 97, attributes := #[] }] 33 0 #[] #[])
  fields := #[]
  methods := #[k0m0, k0m1]
  instanceTypes := #[]
  staticTypes := #[]
  resolved := Array.replicate 124 none
  statics := none }

def pool1 : Array CpInfo := pool [(2, .class_ 4), (1, u "java/lang/Object"), (0, u "<init>"), (0, u "()V"), (0, .integer 2147483647), (0, .methodref 9 10), (0, .class_ 11), (0, .nameAndType 12 13), (0, u "com/example/twinstate/twinstate/IsolationLevel"), (0, u "fromCode"), (0, u "(I)Lcom/example/twinstate/twinstate/IsolationLevel;"), (0, .fieldref 9 15), (0, .nameAndType 16 17), (0, u "READ_UNCOMMITTED"), (0, u "Lcom/example/twinstate/twinstate/IsolationLevel;"), (0, .fieldref 9 19), (0, .nameAndType 20 17), (0, u "READ_COMMITTED"), (0, .fieldref 9 22), (0, .nameAndType 23 17), (0, u "REPEATABLE_READ"), (0, .methodref 9 25), (0, .nameAndType 26 27), (0, u "code"), (0, u "()I"), (0, .class_ 29), (0, u "com/example/twinstate/twinstate/IsolationLevelFromCodePinLaw"), (2, u "law"), (0, u "(I)Z")] 3

def k1m0 : Method := { name := "<init>", desc := "()V", sig := { parameters := [], returnType := none }, accessFlags := 1, code := none }
def k1c1 : Code := { maxStack := 2, maxLocals := 4, code := code, exceptionTable := #[], attributes := #[] }
def k1m1 : Method := { name := "law", desc := "(I)Z", sig := { parameters := [.int], returnType := some .boolean }, accessFlags := 9, code := some k1c1 }
/-- com/example/twinstate/twinstate/IsolationLevelFromCodePinLaw -/
def k1 : Class := { plain "com/example/twinstate/twinstate/IsolationLevelFromCodePinLaw" (some 0) with
  accessFlags := 49
  interfaces := #[]
  cf := some (fileOf pool1 28 #[] #[{ accessFlags := 1, nameIndex := 5, descriptorIndex := 6, attributes := #[] }, { accessFlags := 9, nameIndex := 32, descriptorIndex := 33, attributes := #[] }] 49 2 #[] #[])
  fields := #[]
  methods := #[k1m0, k1m1]
  instanceTypes := #[]
  staticTypes := #[]
  resolved := Array.replicate 37 none
  statics := none }

def pool2 : Array CpInfo := pool [(1, .class_ 2), (0, u "java/lang/constant/Constable"), (0, .class_ 4), (0, u "java/lang/Object")] 6

/-- java/lang/constant/Constable -/
def k2 : Class := { plain "java/lang/constant/Constable" (some 0) with
  accessFlags := 1537
  interfaces := #[]
  cf := some (fileOf pool2 1 #[] #[] 1537 3 #[] #[])
  fields := #[]
  methods := #[]
  instanceTypes := #[]
  staticTypes := #[]
  resolved := Array.replicate 11 none
  statics := none }

def pool3 : Array CpInfo := pool [(1, .class_ 2), (0, u "java/lang/Comparable"), (0, .class_ 4), (0, u "java/lang/Object")] 7

/-- java/lang/Comparable -/
def k3 : Class := { plain "java/lang/Comparable" (some 0) with
  accessFlags := 1537
  interfaces := #[]
  cf := some (fileOf pool3 1 #[] #[] 1537 3 #[] #[])
  fields := #[]
  methods := #[]
  instanceTypes := #[]
  staticTypes := #[]
  resolved := Array.replicate 12 none
  statics := none }

def pool4 : Array CpInfo := pool [(1, .class_ 2), (0, u "java/io/Serializable"), (0, .class_ 4), (0, u "java/lang/Object")] 2

/-- java/io/Serializable -/
def k4 : Class := { plain "java/io/Serializable" (some 0) with
  accessFlags := 1537
  interfaces := #[]
  cf := some (fileOf pool4 1 #[] #[] 1537 3 #[] #[])
  fields := #[]
  methods := #[]
  instanceTypes := #[]
  staticTypes := #[]
  resolved := Array.replicate 7 none
  statics := none }

def pool5 : Array CpInfo := pool [(2, .class_ 4), (1, u "java/lang/Enum"), (0, u "name"), (0, u "Ljava/lang/String;"), (2, u "ordinal"), (0, u "I"), (1, .class_ 14), (1, u "java/lang/Object"), (4, u "hash"), (86, .class_ 108), (1, u "java/lang/Enum$EnumDesc"), (2, .class_ 112), (0, u "java/lang/constant/Constable"), (0, .class_ 114), (0, u "java/lang/Comparable"), (0, .class_ 116), (0, u "java/io/Serializable")] 87

/-- java/lang/Enum -/
def k5 : Class := { plain "java/lang/Enum" (some 0) with
  accessFlags := 1057
  interfaces := #[2, 3, 4]
  cf := some (fileOf pool5 2 #[.nestMembers #[106]] #[] 1057 12 #[111, 113, 115] #[{ accessFlags := 18, nameIndex := 5, descriptorIndex := 6, attributes := #[] }, { accessFlags := 18, nameIndex := 9, descriptorIndex := 10, attributes := #[] }, { accessFlags := 2, nameIndex := 19, descriptorIndex := 10, attributes := #[] }])
  fields := #[{ name := "name", type := (.object "java/lang/String"), accessFlags := 18, slot := 0, constantValue := 0 }, { name := "ordinal", type := .int, accessFlags := 18, slot := 1, constantValue := 0 }, { name := "hash", type := .int, accessFlags := 2, slot := 2, constantValue := 0 }]
  methods := #[]
  instanceTypes := #[(.object "java/lang/String"), .int, .int]
  staticTypes := #[]
  resolved := Array.replicate 204 none
  statics := none }

def pool6 : Array CpInfo := pool [(1, .class_ 2), (0, u "com/example/twinstate/twinstate/IsolationLevel"), (2, u "READ_UNCOMMITTED"), (0, u "Lcom/example/twinstate/twinstate/IsolationLevel;"), (2, u "READ_COMMITTED"), (2, u "REPEATABLE_READ"), (0, .fieldref 1 14), (0, .nameAndType 15 16), (0, u "$VALUES"), (0, u "[Lcom/example/twinstate/twinstate/IsolationLevel;"), (0, .methodref 18 19), (0, .class_ 16), (0, .nameAndType 20 21), (0, u "clone"), (0, u "()Ljava/lang/Object;"), (1, .class_ 25), (1, u "java/lang/Enum"), (8, u "optionName"), (0, u "Ljava/lang/String;"), (0, .fieldref 1 37), (0, .nameAndType 38 39), (0, u "code"), (0, u "I"), (0, .methodref 1 41), (0, .nameAndType 42 43), (0, u "values"), (0, u "()[Lcom/example/twinstate/twinstate/IsolationLevel;"), (67, u "()I"), (2, u "fromCode"), (0, u "(I)Lcom/example/twinstate/twinstate/IsolationLevel;")] 36

def k6c0 : Code := { maxStack := 1, maxLocals := 0, code := prog_4_method_1_code, exceptionTable := #[], attributes := #[] }
def k6m0 : Method := { name := "values", desc := "()[Lcom/example/twinstate/twinstate/IsolationLevel;", sig := { parameters := [], returnType := some (.array (.object "com/example/twinstate/twinstate/IsolationLevel")) }, accessFlags := 9, code := some k6c0 }
def k6c1 : Code := { maxStack := 1, maxLocals := 1, code := prog_4_method_5_code, exceptionTable := #[], attributes := #[] }
def k6m1 : Method := { name := "code", desc := "()I", sig := { parameters := [], returnType := some .int }, accessFlags := 1, code := some k6c1 }
def k6c2 : Code := { maxStack := 3, maxLocals := 5, code := prog_4_method_7_code, exceptionTable := #[], attributes := #[] }
def k6m2 : Method := { name := "fromCode", desc := "(I)Lcom/example/twinstate/twinstate/IsolationLevel;", sig := { parameters := [.int], returnType := some (.object "com/example/twinstate/twinstate/IsolationLevel") }, accessFlags := 9, code := some k6c2 }
/-- com/example/twinstate/twinstate/IsolationLevel -/
def k6 : Class := { plain "com/example/twinstate/twinstate/IsolationLevel" (some 5) with
  accessFlags := 16433
  interfaces := #[]
  cf := some (fileOf pool6 1 #[] #[{ accessFlags := 9, nameIndex := 42, descriptorIndex := 43, attributes := #[] }, { accessFlags := 1, nameIndex := 38, descriptorIndex := 111, attributes := #[] }, { accessFlags := 9, nameIndex := 114, descriptorIndex := 115, attributes := #[] }] 16433 23 #[] #[{ accessFlags := 16409, nameIndex := 5, descriptorIndex := 6, attributes := #[] }, { accessFlags := 16409, nameIndex := 9, descriptorIndex := 6, attributes := #[] }, { accessFlags := 16409, nameIndex := 12, descriptorIndex := 6, attributes := #[] }, { accessFlags := 18, nameIndex := 34, descriptorIndex := 35, attributes := #[] }, { accessFlags := 18, nameIndex := 38, descriptorIndex := 39, attributes := #[] }, { accessFlags := 4122, nameIndex := 15, descriptorIndex := 16, attributes := #[] }])
  fields := #[{ name := "READ_UNCOMMITTED", type := (.object "com/example/twinstate/twinstate/IsolationLevel"), accessFlags := 16409, slot := 0, constantValue := 0 }, { name := "READ_COMMITTED", type := (.object "com/example/twinstate/twinstate/IsolationLevel"), accessFlags := 16409, slot := 1, constantValue := 0 }, { name := "REPEATABLE_READ", type := (.object "com/example/twinstate/twinstate/IsolationLevel"), accessFlags := 16409, slot := 2, constantValue := 0 }, { name := "optionName", type := (.object "java/lang/String"), accessFlags := 18, slot := 3, constantValue := 0 }, { name := "code", type := .int, accessFlags := 18, slot := 4, constantValue := 0 }, { name := "$VALUES", type := (.array (.object "com/example/twinstate/twinstate/IsolationLevel")), accessFlags := 4122, slot := 3, constantValue := 0 }]
  methods := #[k6m0, k6m1, k6m2]
  instanceTypes := #[(.object "java/lang/String"), .int, .int, (.object "java/lang/String"), .int]
  staticTypes := #[(.object "com/example/twinstate/twinstate/IsolationLevel"), (.object "com/example/twinstate/twinstate/IsolationLevel"), (.object "com/example/twinstate/twinstate/IsolationLevel"), (.array (.object "com/example/twinstate/twinstate/IsolationLevel"))]
  resolved := Array.replicate 152 none
  statics := some 0 }

def pool7 : Array CpInfo := pool [(1, .class_ 2), (0, u "java/lang/Cloneable"), (0, .class_ 4), (0, u "java/lang/Object")] 2

/-- java/lang/Cloneable -/
def k7 : Class := { plain "java/lang/Cloneable" (some 0) with
  accessFlags := 1537
  interfaces := #[]
  cf := some (fileOf pool7 1 #[] #[] 1537 3 #[] #[])
  fields := #[]
  methods := #[]
  instanceTypes := #[]
  staticTypes := #[]
  resolved := Array.replicate 7 none
  statics := none }

/-- the primitive byte -/
def k8 : Class := { plain "byte" none with kind := .primitive 'B', accessFlags := 0x411 }
/-- [B -/
def k9 : Class := { plain "[B" (some 0) with kind := .array 8 .byte, interfaces := #[7, 4], accessFlags := 1041 }

/-- the primitive int -/
def k10 : Class := { plain "int" none with kind := .primitive 'I', accessFlags := 0x411 }
/-- [I -/
def k11 : Class := { plain "[I" (some 0) with kind := .array 10 .int, interfaces := #[7, 4], accessFlags := 1041 }

/-- [Lcom/example/twinstate/twinstate/IsolationLevel; -/
def k12 : Class := { plain "[Lcom/example/twinstate/twinstate/IsolationLevel;" (some 0) with kind := .array 6 (.object "com/example/twinstate/twinstate/IsolationLevel"), interfaces := #[7, 4], accessFlags := 1041 }

def heap : Heap := #[{ cls := 6, slots := #[.ref 2, .ref 3, .ref 4, .ref 1], vm := .statics 6 },
  { cls := 12, slots := #[.ref 2, .ref 3, .ref 4], vm := .none },
  { cls := 6, slots := #[.null, .int 0, .int 0, .null, .int 1], vm := .none },
  { cls := 6, slots := #[.null, .int 0, .int 0, .null, .int 2], vm := .none },
  { cls := 6, slots := #[.null, .int 0, .int 0, .null, .int 3], vm := .none }]
def classes : Array Class := #[k0, k1, k2, k3, k4, k5, k6, k7, k8, k9, k10, k11, k12]
def interned : List (Array UInt16 × Addr) := []
def slotsUsed : Nat := 22
def theMethod : MethodId := ⟨1, 1⟩
def args0 : Array Value := #[.int 5]
def aboutOver (below : List Frame) : State where
  vm := { classes := classes, interned := interned.toArray }
  heap := heap
  slotsUsed := slotsUsed
  threads := #[{ frames := .invoking theMethod args0 :: below }]
def below0 : List Frame := [.native { method := ⟨0, 0⟩, args := #[] }]
def about1 : State := aboutOver below0
def p0 : Program := .bare "" "" ""
def e0 : Env := launch0.env 0 0 0
theorem w_frames : about1.frames = Frame.invoking theMethod args0 :: below0 := rfl
set_option maxRecDepth 65536 in
theorem w_args : argsFit about1.vm theMethod args0 = true := by decide +kernel
set_option maxRecDepth 65536 in
theorem w_heap : heapFits about1 = true := by decide +kernel
set_option maxRecDepth 65536 in
theorem w_runnable : about1.curStatus? = some .runnable := by decide +kernel
set_option maxRecDepth 65536 in
theorem w_alone : about1.alone = true := by decide +kernel
set_option maxRecDepth 65536 in
theorem w_named : about1.methodNamed? x = some theMethod := by decide +kernel
set_option maxRecDepth 65536 in
theorem w_hears : about1.hears theMethod below0 = true := by decide +kernel
set_option maxRecDepth 65536 in
theorem w_ripe : about1.ripe theMethod args0 below0 = true := by decide +kernel
theorem w_running : about1.status = .running := rfl
set_option maxRecDepth 65536 in
theorem w_room : about1.hasRoom e0.platform room_1 = true :=
  launch0.hasRoom_least _ room_1 (by decide +kernel) (by decide +kernel) (by decide +kernel) (by decide +kernel) (by decide +kernel) (by decide +kernel)
theorem allAtoms_all (ts : List Jvm.Cond) (a : Array Jvm.Value) (st : Jvm.State) : (allAtoms ts).before a st = ts.all (fun c => c.before a st) := by
  induction ts with
  | nil => rfl
  | cons c t ih =>
    show (Jvm.Cond.and c (allAtoms t)).before a st = _
    rw [Jvm.Cond.before_and, ih, List.all_cons]
def words1 : List Jvm.Cond := Jvm.Cond.code x code maxLocals ret :: tables_1
/-- a 'code' word, met by the world's own term for the bytes: nothing is compared byte by byte -/
theorem code_word {y : MethodName} {bytes : ByteArray} {mx : Nat} {rt : Option FieldType} {a : Array Value} {s : State} {m : MethodId} {meth : Method} {c : Code} (h1 : s.methodNamed? y = some m) (h2 : s.vm.method? m = some meth) (h3 : meth.code = some c) (h4 : c.code = bytes)
    (h5 : (c.maxLocals == mx && c.exceptionTable.isEmpty && decide (c.maxStack ≤ mostOperands) && decide (meth.sig.returnType = rt) && !meth.locks && decide (parseMethodDescriptor y.desc = some meth.sig)) = true) : (Jvm.Cond.code y bytes mx rt).before a s = true := by
  simp only [Bool.and_eq_true, beq_iff_eq, Bool.not_eq_true', decide_eq_true_eq] at h5
  obtain ⟨⟨⟨⟨⟨g1, g2⟩, g3⟩, g4⟩, g5⟩, g6⟩ := h5
  simp [Cond.before, Cond.holds, Cond.value, h1, h2, h3, h4, g1, g2, g3, g4, g5, g6]
def isCode : Jvm.Cond → Bool
  | .code _ _ _ _ => true
  | _ => false
theorem all_split {L : List Jvm.Cond} {P : Jvm.Cond → Bool} (h1 : L.all (fun c => isCode c || P c) = true) (h2 : ∀ c ∈ L.filter isCode, P c = true) : L.all P = true := by
  refine List.all_eq_true.mpr fun c hc => ?_
  have h := List.all_eq_true.mp h1 c hc
  rcases Bool.eq_false_or_eq_true (isCode c) with hi | hi
  · exact h2 c (List.mem_filter.mpr ⟨hc, hi⟩)
  · simpa [hi] using h
set_option maxRecDepth 65536 in
theorem w_c0 : (Jvm.Cond.code x code maxLocals ret).before args0 about1 = true := code_word (m := ⟨1, 1⟩) (meth := k1m1) (c := k1c1) (by decide +kernel) rfl rfl rfl (by decide +kernel)
set_option maxRecDepth 65536 in
theorem w_c1 : (Jvm.Cond.code ({ cls := "com/example/twinstate/twinstate/IsolationLevel", name := "fromCode", desc := "(I)Lcom/example/twinstate/twinstate/IsolationLevel;" } : Jvm.MethodName) prog_4_method_7_code (5 : Nat) (Option.some (Jvm.ClassFile.FieldType.object "com/example/twinstate/twinstate/IsolationLevel"))).before args0 about1 = true := code_word (m := ⟨6, 2⟩) (meth := k6m2) (c := k6c2) (by decide +kernel) rfl rfl rfl (by decide +kernel)
set_option maxRecDepth 65536 in
theorem w_c2 : (Jvm.Cond.code ({ cls := "com/example/twinstate/twinstate/IsolationLevel", name := "values", desc := "()[Lcom/example/twinstate/twinstate/IsolationLevel;" } : Jvm.MethodName) prog_4_method_1_code (0 : Nat) (Option.some (Jvm.ClassFile.FieldType.array (Jvm.ClassFile.FieldType.object "com/example/twinstate/twinstate/IsolationLevel")))).before args0 about1 = true := code_word (m := ⟨6, 0⟩) (meth := k6m0) (c := k6c0) (by decide +kernel) rfl rfl rfl (by decide +kernel)
set_option maxRecDepth 65536 in
theorem w_c3 : (Jvm.Cond.code ({ cls := "com/example/twinstate/twinstate/IsolationLevel", name := "code", desc := "()I" } : Jvm.MethodName) prog_4_method_5_code (1 : Nat) (Option.some Jvm.ClassFile.FieldType.int)).before args0 about1 = true := code_word (m := ⟨6, 1⟩) (meth := k6m1) (c := k6c1) (by decide +kernel) rfl rfl rfl (by decide +kernel)
def codes1 : List Jvm.Cond := [Jvm.Cond.code x code maxLocals ret, Jvm.Cond.code ({ cls := "com/example/twinstate/twinstate/IsolationLevel", name := "fromCode", desc := "(I)Lcom/example/twinstate/twinstate/IsolationLevel;" } : Jvm.MethodName) prog_4_method_7_code (5 : Nat) (Option.some (Jvm.ClassFile.FieldType.object "com/example/twinstate/twinstate/IsolationLevel")), Jvm.Cond.code ({ cls := "com/example/twinstate/twinstate/IsolationLevel", name := "values", desc := "()[Lcom/example/twinstate/twinstate/IsolationLevel;" } : Jvm.MethodName) prog_4_method_1_code (0 : Nat) (Option.some (Jvm.ClassFile.FieldType.array (Jvm.ClassFile.FieldType.object "com/example/twinstate/twinstate/IsolationLevel"))), Jvm.Cond.code ({ cls := "com/example/twinstate/twinstate/IsolationLevel", name := "code", desc := "()I" } : Jvm.MethodName) prog_4_method_5_code (1 : Nat) (Option.some Jvm.ClassFile.FieldType.int)]
set_option maxRecDepth 65536 in
theorem codes_eq : words1.filter isCode = codes1 := rfl
theorem w_codes : ∀ c ∈ words1.filter isCode, c.before args0 about1 = true := by
  rw [codes_eq]
  intro c hc
  simp only [codes1, List.mem_cons, List.not_mem_nil, or_false] at hc
  rcases hc with rfl | rfl | rfl | rfl
  · exact w_c0
  · exact w_c1
  · exact w_c2
  · exact w_c3
set_option maxRecDepth 65536 in
theorem w_t1 : (words1.take 24).all (fun c => isCode c || c.before args0 about1) = true := by decide +kernel
set_option maxRecDepth 65536 in
theorem w_t2 : (words1.drop 24).all (fun c => isCode c || c.before args0 about1) = true := by decide +kernel
theorem w_tables : (allAtoms (Jvm.Cond.code x code maxLocals ret :: tables_1)).before args0 about1 = true := by
  rw [allAtoms_all]
  show words1.all (fun c => c.before args0 about1) = true
  refine all_split ?_ w_codes
  rw [← List.take_append_drop 24 words1, List.all_append, w_t1, w_t2]
  rfl
set_option maxRecDepth 65536 in
theorem w_case : (Jvm.Cond.and given_1 narrow_1).before args0 about1 = true := by decide +kernel
theorem w_applies : (headSpec (Jvm.Cond.code x code maxLocals ret :: tables_1) room_1).applies x e0.platform about1 = true :=
  (Spec.applies_iff w_frames).mpr ⟨w_running, w_runnable, w_alone, w_named, w_hears, w_ripe, w_room, w_tables⟩
theorem atStart : AtStart classFile x code maxLocals ret World_1 tables_1 room_1 Calls_1 rest_1 Pre_1 launch0 p0 e0 about1 theMethod args0 below0 :=
  ⟨lists_1, trivial, launch0.admits_env _ _ _, launch0.least_env, fairChoices_fair.cas, fairChoices_fair.clock, w_frames, w_args, w_heap, w_applies, trivial, trivial, w_case⟩
end start1
theorem witness_1 : WitnessClaimed_1 := ⟨start1.p0, start1.e0, start1.about1, start1.theMethod, start1.args0, start1.below0, start1.atStart⟩
end Jvm.Pilot.@@N@@
