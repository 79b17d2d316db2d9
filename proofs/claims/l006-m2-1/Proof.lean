import JvmDerived
import JvmDerived.Pilot.@@N@@Statement
import JvmDerived.Pilot.@@N@@Code
set_option linter.unusedVariables false
set_option linter.unusedSimpArgs false
namespace Jvm.Pilot.@@N@@
open Jvm Jvm.ClassFile Sem Op Lib Jvm.Free Jvm.Stand Jvm.LawKit Jvm.RoadKit Bundle Jvm.Pilot.@@N@@.Jvm.D
section OwnKit
variable {p : Program} {l : Launch} {e : Env} {R : Room} {s : State} {m : MethodId} {args : Array Value} {below : List Frame} {meth : Method} {c : Code} {T : State} {locs : List Loc} {cells slots : Nat} {Z : State} {a0 : Array Value} {h h0 : Heap} {pc : Nat} {Ls : Array Slot} {rest : List Value} {Q : Outcome → State → Prop}
def Go (p : Program) (e : Env) (below : List Frame) (T : State) (g : JFrame) (Q : Outcome → State → Prop) : Prop := ∃ s₂ o, Steps p.tables e below (T.setTop g) s₂ ∧ s₂.status = .running ∧ Ended s₂ below o ∧ Q o s₂
theorem Go.of {T' : State} {g g' : JFrame} (st : ∀ t, Steps p.tables e below (T'.setTop g') t → Steps p.tables e below (T.setTop g) t) (k : Go p e below T' g' Q) : Go p e below T g Q := by
  obtain ⟨a, b, h1, h2⟩ := k; exact ⟨a, b, st a h1, h2⟩
theorem o_iload (X : Stand p l e R s m args below meth c T locs cells slots) (hx : p.tables.exec = Jvm.exec) {k : Nat} {v : Int32} (hd : decode c.code pc = .ok (.iload k, 2)) (hl : Ls[k]? = some (.val (.int v))) (q : Go p e below T (mkF m (pc + 2) Ls (.int v :: rest)) Q) : Go p e below T (mkF m pc Ls (rest)) Q := Go.of (fun _ k => XS.iload X.here hx rfl hd hl k) q
theorem o_istore (X : Stand p l e R s m args below meth c T locs cells slots) (hx : p.tables.exec = Jvm.exec) {k : Nat} {v : Int32} {l' : Array Slot} (hd : decode c.code pc = .ok (.istore k, 2)) (hl : storeLocals Ls k (.int v) = some l') (q : Go p e below T (mkF m (pc + 2) l' (rest)) Q) : Go p e below T (mkF m pc Ls (.int v :: rest)) Q := Go.of (fun _ k => XS.istore X.here hx rfl hd rfl hl k) q
theorem o_istoreN (X : Stand p l e R s m args below meth c T locs cells slots) (hx : p.tables.exec = Jvm.exec) {k : Fin 4} {v : Int32} {l' : Array Slot} (hd : decode c.code pc = .ok (.istore_n k, 1)) (hl : storeLocals Ls k.val (.int v) = some l') (q : Go p e below T (mkF m (pc + 1) l' (rest)) Q) : Go p e below T (mkF m pc Ls (.int v :: rest)) Q := Go.of (fun _ k => XS.istoreN X.here hx rfl hd rfl hl k) q
theorem o_lload (X : Stand p l e R s m args below meth c T locs cells slots) (hx : p.tables.exec = Jvm.exec) {k : Nat} {v : Int64} (hd : decode c.code pc = .ok (.lload k, 2)) (hl : Ls[k]? = some (.val (.long v))) (q : Go p e below T (mkF m (pc + 2) Ls (.long v :: rest)) Q) : Go p e below T (mkF m pc Ls (rest)) Q := Go.of (fun _ k => XS.lload X.here hx rfl hd hl k) q
theorem o_lloadN (X : Stand p l e R s m args below meth c T locs cells slots) (hx : p.tables.exec = Jvm.exec) {k : Fin 4} {v : Int64} (hd : decode c.code pc = .ok (.lload_n k, 1)) (hl : Ls[k.val]? = some (.val (.long v))) (q : Go p e below T (mkF m (pc + 1) Ls (.long v :: rest)) Q) : Go p e below T (mkF m pc Ls (rest)) Q := Go.of (fun _ k => XS.lloadN X.here hx rfl hd hl k) q
theorem o_lstore (X : Stand p l e R s m args below meth c T locs cells slots) (hx : p.tables.exec = Jvm.exec) {k : Nat} {v : Int64} {l' : Array Slot} (hd : decode c.code pc = .ok (.lstore k, 2)) (hl : storeLocals Ls k (.long v) = some l') (q : Go p e below T (mkF m (pc + 2) l' (rest)) Q) : Go p e below T (mkF m pc Ls (.long v :: rest)) Q := Go.of (fun _ k => XS.lstore X.here hx rfl hd rfl hl k) q
theorem o_aload (X : Stand p l e R s m args below meth c T locs cells slots) (hx : p.tables.exec = Jvm.exec) {k : Nat} {v : Value} (hd : decode c.code pc = .ok (.aload k, 2)) (hl : Ls[k]? = some (.val v)) (hv : v.isRef = true) (q : Go p e below T (mkF m (pc + 2) Ls (v :: rest)) Q) : Go p e below T (mkF m pc Ls (rest)) Q := Go.of (fun _ k => XS.aload X.here hx rfl hd hl hv k) q
theorem o_aloadN (X : Stand p l e R s m args below meth c T locs cells slots) (hx : p.tables.exec = Jvm.exec) {k : Fin 4} {v : Value} (hd : decode c.code pc = .ok (.aload_n k, 1)) (hl : Ls[k.val]? = some (.val v)) (hv : v.isRef = true) (q : Go p e below T (mkF m (pc + 1) Ls (v :: rest)) Q) : Go p e below T (mkF m pc Ls (rest)) Q := Go.of (fun _ k => XS.aloadN X.here hx rfl hd hl hv k) q
theorem o_astore (X : Stand p l e R s m args below meth c T locs cells slots) (hx : p.tables.exec = Jvm.exec) {k : Nat} {v : Value} {l' : Array Slot} (hd : decode c.code pc = .ok (.astore k, 2)) (hv : v.isRef = true) (hl : storeLocals Ls k v = some l') (q : Go p e below T (mkF m (pc + 2) l' (rest)) Q) : Go p e below T (mkF m pc Ls (v :: rest)) Q := Go.of (fun _ k => XS.astore X.here hx rfl hd rfl hv hl k) q
theorem o_astoreN (X : Stand p l e R s m args below meth c T locs cells slots) (hx : p.tables.exec = Jvm.exec) {k : Fin 4} {v : Value} {l' : Array Slot} (hd : decode c.code pc = .ok (.astore_n k, 1)) (hv : v.isRef = true) (hl : storeLocals Ls k.val v = some l') (q : Go p e below T (mkF m (pc + 1) l' (rest)) Q) : Go p e below T (mkF m pc Ls (v :: rest)) Q := Go.of (fun _ k => XS.astoreN X.here hx rfl hd rfl hv hl k) q
theorem o_iconst (X : Stand p l e R s m args below meth c T locs cells slots) (hx : p.tables.exec = Jvm.exec) {i : Int} (v : Int32) (hd : decode c.code pc = .ok (.iconst i, 1)) (hv : Int32.ofInt i = v) (q : Go p e below T (mkF m (pc + 1) Ls (.int v :: rest)) Q) : Go p e below T (mkF m pc Ls rest) Q := by
  subst hv
  exact Go.of (fun _ k => XS.iconst X.here hx rfl hd k) q
theorem o_sipush (X : Stand p l e R s m args below meth c T locs cells slots) (hx : p.tables.exec = Jvm.exec) {i : Int} (v : Int32) (hd : decode c.code pc = .ok (.sipush i, 3)) (hv : (Int16.ofInt i).toInt32 = v) (q : Go p e below T (mkF m (pc + 3) Ls (.int v :: rest)) Q) : Go p e below T (mkF m pc Ls rest) Q := by
  subst hv
  exact Go.of (fun _ k => XS.sipush X.here hx rfl hd k) q
theorem o_aconst_null (X : Stand p l e R s m args below meth c T locs cells slots) (hx : p.tables.exec = Jvm.exec)  (hd : decode c.code pc = .ok (.aconst_null, 1)) (q : Go p e below T (mkF m (pc + 1) Ls (.null :: rest)) Q) : Go p e below T (mkF m pc Ls (rest)) Q := Go.of (fun _ k => XS.aconstNull X.here hx rfl hd k) q
theorem o_iadd (X : Stand p l e R s m args below meth c T locs cells slots) (hx : p.tables.exec = Jvm.exec) {x y : Int32} (hd : decode c.code pc = .ok (.iadd, 1)) (q : Go p e below T (mkF m (pc + 1) Ls (.int (x + y) :: rest)) Q) : Go p e below T (mkF m pc Ls (.int y :: .int x :: rest)) Q := Go.of (fun _ k => XS.iadd X.here hx rfl hd rfl k) q
theorem o_iand (X : Stand p l e R s m args below meth c T locs cells slots) (hx : p.tables.exec = Jvm.exec) {x y : Int32} (hd : decode c.code pc = .ok (.iand, 1)) (q : Go p e below T (mkF m (pc + 1) Ls (.int (x &&& y) :: rest)) Q) : Go p e below T (mkF m pc Ls (.int y :: .int x :: rest)) Q := Go.of (fun _ k => XS.iand X.here hx rfl hd rfl k) q
theorem o_l2i (X : Stand p l e R s m args below meth c T locs cells slots) (hx : p.tables.exec = Jvm.exec) {v : Int64} (hd : decode c.code pc = .ok (.l2i, 1)) (q : Go p e below T (mkF m (pc + 1) Ls (.int (v.toInt32) :: rest)) Q) : Go p e below T (mkF m pc Ls (.long v :: rest)) Q := Go.of (fun _ k => XS.l2i X.here hx rfl hd rfl k) q
theorem o_lcmp (X : Stand p l e R s m args below meth c T locs cells slots) (hx : p.tables.exec = Jvm.exec) {x y : Int64} (hd : decode c.code pc = .ok (.lcmp, 1)) (q : Go p e below T (mkF m (pc + 1) Ls (.int (lcmpW x y) :: rest)) Q) : Go p e below T (mkF m pc Ls (.long y :: .long x :: rest)) Q := Go.of (fun _ k => XS.lcmp X.here hx rfl hd rfl k) q
theorem o_dup (X : Stand p l e R s m args below meth c T locs cells slots) (hx : p.tables.exec = Jvm.exec) {v : Value} (hd : decode c.code pc = .ok (.dup, 1)) (hc : v.category = 1) (q : Go p e below T (mkF m (pc + 1) Ls (v :: v :: rest)) Q) : Go p e below T (mkF m pc Ls (v :: rest)) Q := Go.of (fun _ k => XS.dup X.here hx rfl hd rfl hc k) q
theorem o_goto (X : Stand p l e R s m args below meth c T locs cells slots) (hx : p.tables.exec = Jvm.exec) (pc' : Nat) {o : Int} (hd : decode c.code pc = .ok (.goto o, 3)) (ho : 0 ≤ (pc : Int) + o) (hp : ((pc : Int) + o).toNat = pc') (q : Go p e below T (mkF m pc' Ls rest) Q) : Go p e below T (mkF m pc Ls rest) Q := Go.of (fun _ k => XS.goto X.here hx rfl (pc0 := pc) rfl hd ho hp k) q
theorem o_ifYes (X : Stand p l e R s m args below meth c T locs cells slots) (hx : p.tables.exec = Jvm.exec) (pc' : Nat) {cd : ClassFile.Cond} {x : Int32} {o : Int} (hd : decode c.code pc = .ok (.ifCond cd o, 3)) (hc : ifCond.holds cd x = true) (ho : 0 ≤ (pc : Int) + o) (hp : ((pc : Int) + o).toNat = pc') (q : Go p e below T (mkF m pc' Ls rest) Q) : Go p e below T (mkF m pc Ls (.int x :: rest)) Q := Go.of (fun _ k => XS.ifYes X.here hx rfl (pc0 := pc) rfl hd rfl hc ho hp k) q
theorem o_ifNo (X : Stand p l e R s m args below meth c T locs cells slots) (hx : p.tables.exec = Jvm.exec) {cd : ClassFile.Cond} {x : Int32} {o : Int} (hd : decode c.code pc = .ok (.ifCond cd o, 3)) (hc : ifCond.holds cd x = false) (q : Go p e below T (mkF m (pc + 3) Ls rest) Q) : Go p e below T (mkF m pc Ls (.int x :: rest)) Q := Go.of (fun _ k => XS.ifNo X.here hx rfl hd rfl hc k) q
theorem o_icmpNo (X : Stand p l e R s m args below meth c T locs cells slots) (hx : p.tables.exec = Jvm.exec) {cd : ClassFile.Cond} {x y : Int32} {o : Int} (hd : decode c.code pc = .ok (.if_icmp cd o, 3)) (hc : if_icmp.holds cd x y = false) (q : Go p e below T (mkF m (pc + 3) Ls rest) Q) : Go p e below T (mkF m pc Ls (.int y :: .int x :: rest)) Q := Go.of (fun _ k => XS.icmpNo X.here hx rfl hd rfl hc k) q
theorem o_ldc2J (X : Stand p l e R s m args below meth c T locs cells slots) (hx : p.tables.exec = Jvm.exec) (hZ : Z.Warmed39 s.vm) {own : String} {index : Nat} {v : Int64} (hown : s.vm.findClass own = some m.cls) (w : (Cond.constantLong own index v).before a0 Z = true) (hd : decode c.code pc = .ok (.ldc2_w index, 3)) (q : Go p e below T (mkF m (pc + 3) Ls (.long v :: rest)) Q) : Go p e below T (mkF m pc Ls rest) Q := Go.of (fun t k => X.ldc2Long hx hown (mvT hZ w) (g := mkF m pc Ls rest) rfl hd t k) q
theorem o_getS (X : Stand p l e R s m args below meth c T locs cells slots) (hx : p.tables.exec = Jvm.exec) (hZ : Z.Warmed39 s.vm) {own R0 O n d host : String} {index : Nat} (hown : s.vm.findClass own = some m.cls) (w : (Cond.fieldLink own index R0 n d).before a0 Z = true ∨ (Cond.fieldLinkNest own index R0 n d host).before a0 Z = true) (via : Via Z R0 O n d) (eT : T.heap = h) {v : Value} (F : Sta Z h O n d v) (hd : decode c.code pc = .ok (.getstatic index, 3))
    (q : ∀ T', Stand p l e R s m args below meth c T' locs cells slots → T'.heap = h → Go p e below T' (mkF m (pc + 3) Ls (v :: rest)) Q) : Go p e below T (mkF m pc Ls rest) Q := by
  obtain ⟨T', X', e', st⟩ := getS2 X hx hZ hown w via eT F (g := mkF m pc Ls rest) rfl hd
  exact Go.of st (q T' X' e')
theorem o_getF (X : Stand p l e R s m args below meth c T locs cells slots) (hx : p.tables.exec = Jvm.exec) (hZ : Z.Warmed39 s.vm) {own R0 O n d host : String} {index : Nat} (hown : s.vm.findClass own = some m.cls) (w : (Cond.fieldLink own index R0 n d).before a0 Z = true ∨ (Cond.fieldLinkNest own index R0 n d host).before a0 Z = true) (via : Via Z R0 O n d) (eT : T.heap = h) {a : Addr} {v : Value} (F : Fld Z h a O n d v) (hd : decode c.code pc = .ok (.getfield index, 3))
    (q : ∀ T', Stand p l e R s m args below meth c T' locs cells slots → T'.heap = h → Go p e below T' (mkF m (pc + 3) Ls (v :: rest)) Q) : Go p e below T (mkF m pc Ls (.ref a :: rest)) Q := by
  obtain ⟨T', X', e', st⟩ := getF X hx hZ hown w via eT F (g := mkF m pc Ls (.ref a :: rest)) rfl rfl hd
  exact Go.of st (q T' X' e')
theorem o_putF (X : Stand p l e R s m args below meth c T locs cells slots) (hx : p.tables.exec = Jvm.exec) (hZ : Z.Warmed39 s.vm) {own R0 O n d host C : String} {index kk : Nat} {ty : FieldType} (hown : s.vm.findClass own = some m.cls) (w : (Cond.fieldLink own index R0 n d).before a0 Z = true ∨ (Cond.fieldLinkNest own index R0 n d host).before a0 Z = true) (via : Via Z R0 O n d) (eT : T.heap = h) {a : Addr} {v old : Value} (F : Fld Z h a O n d old) (E : Exa Z h a C) (L : (Cond.lays C O n d).before a0 Z = true ∨ ((Cond.laysFinal C O n d).before a0 Z = true ∧ own = O ∧ meth.name = "<init>")) (wi : (Cond.instantiable C kk).before a0 Z = true)
    (hty : parseFieldDescriptor d = some ty) (hn : narrow ty v = v) (hf : fits ty v = true) (hd : decode c.code pc = .ok (.putfield index, 3))
    (q : ∀ T' h', Stand p l e R s m args below meth c T' (locs ++ [⟨a, Jvm.RoadKit.slotOf Z O n d⟩]) cells slots → T'.heap = h' → Wr h h' a (Jvm.RoadKit.slotOf Z O n d) v → Go p e below T' (mkF m (pc + 3) Ls rest) Q) : Go p e below T (mkF m pc Ls (v :: .ref a :: rest)) Q := by
  obtain ⟨T', h', X', e', W, st⟩ := putF X hx hZ hown w via eT F E L wi hty hn hf (g := mkF m pc Ls (v :: .ref a :: rest)) rfl rfl hd
  exact Go.of st (q T' h' X' e' W)
theorem o_new (X : Stand p l e R s m args below meth c T locs cells slots) (hx : p.tables.exec = Jvm.exec) (hZ : Z.Warmed39 s.vm) {own C : String} {index n : Nat} (hown : s.vm.findClass own = some m.cls) (w : (Cond.classLink own index C).before a0 Z = true) (wi : (Cond.instantiable C n).before a0 Z = true) (wz : (Cond.initialized C).before a0 Z = true) (eT : T.heap = h) (hd : decode c.code pc = .ok (.new index, 3)) (hc : cells + 1 ≤ R.cells) (hl : slots + n ≤ R.slots)
    (q : ∀ T' h' a, Stand p l e R s m args below meth c T' locs (cells + 1) (slots + n) → T'.heap = h' → h.size ≤ a → Ext h h' → Exa Z h' a C → (∀ {O nm d : String} {ty : FieldType}, Laid Z a0 C O nm d → parseFieldDescriptor d = some ty → Fld Z h' a O nm d (defaultValue ty)) → Unt h' a → Go p e below T' (mkF m (pc + 3) Ls (.ref a :: rest)) Q) : Go p e below T (mkF m pc Ls rest) Q := by
  obtain ⟨T', h', X', e', E, A, D, U, st⟩ := newO X hx hZ hown w wi wz eT (g := mkF m pc Ls rest) rfl hd hc hl
  exact Go.of st (q T' h' _ X' e' (Nat.le_refl _) E A D U)
theorem o_initO (X : Stand p l e R s m args below meth c T locs cells slots) (hx : p.tables.exec = Jvm.exec) (hZ : Z.Warmed39 s.vm) {own : String} {idx : Nat} (hown : s.vm.findClass own = some m.cls) (w1 : (Cond.methodLink own idx Lib.objectInit).before a0 Z = true) (w2 : (Cond.instanceMethod Lib.objectInit).before a0 Z = true) (w3 : (Cond.code Lib.objectInit ⟨#[0xb1]⟩ 1 none).before a0 Z = true) (eT : T.heap = h) (hsize : Ls.size = c.maxLocals) {a : Addr} (hd : decode c.code pc = .ok (.invokespecial idx, 3)) (hf : 1 ≤ R.frames) {W : Nat} (hW : (rest.map fun v => v.category).sum ≤ W) (hl : W + 12 ≤ R.locals)
    (q : ∀ T', Stand p l e R s m args below meth c T' locs cells slots → T'.heap = h → Go p e below T' (mkF m (pc + 3) Ls rest) Q) : Go p e below T (mkF m pc Ls (.ref a :: rest)) Q := by
  obtain ⟨T', X', e', st⟩ := initO X hx hZ hown w1 w2 w3 eT (g := mkF m pc Ls (.ref a :: rest)) rfl hsize rfl hd hf (W := W) (by show 2 * 0 + _ ≤ W; omega) hl
  exact Go.of st (q T' X' e')
theorem o_cast (X : Stand p l e R s m args below meth c T locs cells slots) (hx : p.tables.exec = Jvm.exec) (hZ : Z.Warmed39 s.vm) {own K : String} {index : Nat} (hown : s.vm.findClass own = some m.cls) (w : (Cond.classLink own index K).before a0 Z = true) (eT : T.heap = h) {a : Addr} (F : Ins Z h a K true) (hd : decode c.code pc = .ok (.checkcast index, 3))
    (q : ∀ T', Stand p l e R s m args below meth c T' locs cells slots → T'.heap = h → Go p e below T' (mkF m (pc + 3) Ls (.ref a :: rest)) Q) : Go p e below T (mkF m pc Ls (.ref a :: rest)) Q := by
  obtain ⟨T', X', e', st⟩ := castY X hx hZ hown w eT F (g := mkF m pc Ls (.ref a :: rest)) rfl rfl hd
  exact Go.of st (q T' X' e')
theorem o_instY (X : Stand p l e R s m args below meth c T locs cells slots) (hx : p.tables.exec = Jvm.exec) (hZ : Z.Warmed39 s.vm) {own K : String} {index : Nat} (hown : s.vm.findClass own = some m.cls) (w : (Cond.classLink own index K).before a0 Z = true) (eT : T.heap = h) {a : Addr} (F : Ins Z h a K true) (hd : decode c.code pc = .ok (.instanceof index, 3))
    (q : ∀ T', Stand p l e R s m args below meth c T' locs cells slots → T'.heap = h → Go p e below T' (mkF m (pc + 3) Ls (.int 1 :: rest)) Q) : Go p e below T (mkF m pc Ls (.ref a :: rest)) Q := by
  obtain ⟨T', X', e', st⟩ := instY X hx hZ hown w eT F (g := mkF m pc Ls (.ref a :: rest)) rfl rfl hd
  exact Go.of st (q T' X' e')
theorem o_instNo (X : Stand p l e R s m args below meth c T locs cells slots) (hx : p.tables.exec = Jvm.exec) (hZ : Z.Warmed39 s.vm) {own K C : String} {index : Nat} (hown : s.vm.findClass own = some m.cls) (w : (Cond.classLink own index K).before a0 Z = true) (eT : T.heap = h) {a : Addr} (E : Exa Z h a C) (F : ∃ c t, Z.vm.findClass C = some c ∧ Z.vm.findClass K = some t ∧ Z.vm.assignable c t = false) (hd : decode c.code pc = .ok (.instanceof index, 3))
    (q : ∀ T', Stand p l e R s m args below meth c T' locs cells slots → T'.heap = h → Go p e below T' (mkF m (pc + 3) Ls (.int 0 :: rest)) Q) : Go p e below T (mkF m pc Ls (.ref a :: rest)) Q := by
  obtain ⟨T', X', e', st⟩ := instNo X hx hZ hown w eT E F (g := mkF m pc Ls (.ref a :: rest)) rfl rfl hd
  exact Go.of st (q T' X' e')
theorem o_instNull (X : Stand p l e R s m args below meth c T locs cells slots) (hx : p.tables.exec = Jvm.exec) {index : Nat} (hd : decode c.code pc = .ok (.instanceof index, 3)) (q : Go p e below T (mkF m (pc + 3) Ls (.int 0 :: rest)) Q) : Go p e below T (mkF m pc Ls (.null :: rest)) Q := Go.of (fun t k => X.instanceofNull hx (g := mkF m pc Ls (.null :: rest)) rfl rfl hd t k) q
def Lv (s : State) (Qc : Option Value → Heap → List Loc → Prop) (C S : Nat) (o : Outcome) (t : State) : Prop := ∃ v L, o = .returned v ∧ Qc v t.heap L ∧ FrameEnd s o t L C S
abbrev Ct (l : Launch) (Z : State) (y : MethodName) (bytes : ByteArray) (maxL : Nat) (ret : Option FieldType) (rm : Room) (ws : List Jvm.Cond) (as : Array Value) (h0 : Heap) (Qc : Option Value → Heap → List Loc → Prop) : Prop := MetFree l y (head1 (Jvm.Cond.code y bytes maxL ret :: ws) rm) (fun a U => a = as ∧ Z.Warmed39 U.vm ∧ U.heap = h0) (fun _ _ _ _ _ => True) (fun _ U o U' => ∃ v L, o = .returned v ∧ Qc v U'.heap L ∧ FrameEnd U o U' L rm.cells rm.slots)
theorem Ct.mono {y : MethodName} {bytes : ByteArray} {maxL : Nat} {ret : Option FieldType} {rm : Room} {ws : List Jvm.Cond} {as : Array Value} {Q1 Q2 : Option Value → Heap → List Loc → Prop} (k : Ct l Z y bytes maxL ret rm ws as h0 Q1) (w : ∀ v h L, Q1 v h L → Q2 v h L) : Ct l Z y bytes maxL ret rm ws as h0 Q2 := by
  intro p e ha hc hk s m args below hf happ hP hK
  obtain ⟨n, o, h1, h2, h3, v, L, h4, h5, h6⟩ := k p e ha hc hk s m args below hf happ hP hK
  exact ⟨n, o, h1, h2, h3, v, L, h4, w _ _ _ h5, h6⟩
theorem o_body {y : MethodName} {bytes : ByteArray} {maxL : Nat} {ret : Option FieldType} {rm : Room} {ws : List Jvm.Cond} {as : Array Value} {Qc : Option Value → Heap → List Loc → Prop} (hpl : plainFor y = true)
    (body : ∀ (p : Program) (e : Env) (s : State) (m : MethodId) (below : List Frame) (meth : Method) (c : Code) (s₁ : State), Stand p l e rm s m as below meth c s₁ [] 0 0 → p.tables.exec = Jvm.exec → c.code = bytes → c.maxLocals = maxL → meth.sig.returnType = ret → meth.locks = false → s.vm.findClass y.cls = some m.cls → meth.name = y.name → Z.Warmed39 s.vm → s₁.heap = h0 → Go p e below s₁ (entryFrame m as maxL) (Lv s Qc rm.cells rm.slots)) :
    Ct l Z y bytes maxL ret rm ws as h0 Qc := by
  refine MetFree.of_bodySF hpl hisR ?_
  intro p e s m args below meth c s₁ Bd hml0 hP hK
  obtain ⟨rfl, hZ, hh⟩ := hP
  exact body p e s m below meth c s₁ (Stand.of_body Bd) Bd.exec Bd.bytes hml0 Bd.returns Bd.notSynchronized (findClass_of_methodNamed Bd.named) (name_of_methodNamed Bd.named Bd.method).1 hZ (by rw [← hh, Bd.state]; rfl)
theorem o_top {g g' : JFrame} (q : g = g') (k : Go p e below T g' Q) : Go p e below T g Q := q ▸ k
theorem o_retV (X : Stand p l e R s m args below meth c T locs cells slots) (hx : p.tables.exec = Jvm.exec) {Qc : Option Value → Heap → List Loc → Prop} {C S : Nat} {w : Value} {t : FieldType} {i : Instr} (hret : meth.sig.returnType = some t) (hlk : meth.locks = false) (hn : narrow t w = w)
    (hi : (i = .ireturn ∧ (t = .int ∨ t = .boolean ∨ t = .byte ∨ t = .char ∨ t = .short) ∧ ∃ z, w = .int z) ∨ (i = .lreturn ∧ t = .long ∧ ∃ z, w = .long z) ∨ (i = .dreturn ∧ t = .double ∧ ∃ z, w = .double z) ∨ (i = .freturn ∧ t = .float ∧ ∃ z, w = .float z) ∨ (i = .areturn ∧ t.isReference = true ∧ w.isRef = true))
    (hd : decode c.code pc = .ok (i, 1)) (eT : T.heap = h) (q : Qc (some w) h locs) (hC : cells ≤ C) (hS : slots ≤ S) : Go p e below T (mkF m pc Ls (w :: rest)) (Lv s Qc C S) := by
  obtain ⟨fs, hr, hrun, hended, hW, hsame⟩ := X.leave (v := some w) (fun h => by rw [hret] at h; cases h) hlk
  refine ⟨_, _, retOut X hx hret hn hi hd hr, hrun, hended, some w, locs, rfl, ?_, ⟨_, rfl⟩, hW, hsame.mono hC hS⟩
  show Qc (some w) T.heap locs
  rw [eT]; exact q
theorem o_retA (X : Stand p l e R s m args below meth c T locs cells slots) (hx : p.tables.exec = Jvm.exec) {Qc : Option Value → Heap → List Loc → Prop} {C S : Nat} {w : Value} {t : FieldType} (hret : meth.sig.returnType = some t) (hlk : meth.locks = false) (ht : t.isReference = true) (hw : w.isRef = true) (hd : decode c.code pc = .ok (.areturn, 1)) (eT : T.heap = h) (hC : cells ≤ C) (hS : slots ≤ S) (q : Qc (some w) h locs) : Go p e below T (mkF m pc Ls (w :: rest)) (Lv s Qc C S) := o_retV X hx hret hlk (by rcases ref_cases hw with rfl | ⟨a, rfl⟩ <;> cases t <;> first | rfl | (cases ht; done)) (Or.inr (Or.inr (Or.inr (Or.inr ⟨rfl, ht, hw⟩)))) hd eT q hC hS
theorem o_retN (X : Stand p l e R s m args below meth c T locs cells slots) (hx : p.tables.exec = Jvm.exec) {Qc : Option Value → Heap → List Loc → Prop} {C S : Nat} {z : Int32} (t : FieldType) (hret : meth.sig.returnType = some t) (hlk : meth.locks = false) (ht : t = .boolean ∨ t = .byte ∨ t = .char ∨ t = .short) (hd : decode c.code pc = .ok (.ireturn, 1)) (eT : T.heap = h) (hC : cells ≤ C) (hS : slots ≤ S) (q : Qc (some (.int (nar t z))) h locs) : Go p e below T (mkF m pc Ls (.int z :: rest)) (Lv s Qc C S) := by
  obtain ⟨fs, hr, hrun, hended, hW, hsame⟩ := X.leave (v := some (.int (nar t z))) (fun h => by rw [hret] at h; cases h) hlk
  refine ⟨_, _, retN X hx hret ht hd hr, hrun, hended, some (.int (nar t z)), locs, rfl, ?_, ⟨_, rfl⟩, hW, hsame.mono hC hS⟩
  show Qc _ T.heap locs
  rw [eT]; exact q
theorem o_ret0 (X : Stand p l e R s m args below meth c T locs cells slots) (hx : p.tables.exec = Jvm.exec) {Qc : Option Value → Heap → List Loc → Prop} {C S : Nat} (hret : meth.sig.returnType = none) (hlk : meth.locks = false) (hd : decode c.code pc = .ok (.return_, 1)) (eT : T.heap = h) (hC : cells ≤ C) (hS : slots ≤ S) (q : Qc none h locs) : Go p e below T (mkF m pc Ls []) (Lv s Qc C S) := by
  obtain ⟨fs, hr, hrun, hended, hW, hsame⟩ := X.leave (v := none) (fun _ => rfl) hlk
  refine ⟨_, _, X.returnOut hx hret hd hr, hrun, hended, none, locs, rfl, ?_, ⟨_, rfl⟩, hW, hsame.mono hC hS⟩
  show Qc none T.heap locs
  rw [eT]; exact q
theorem o_callS (X : Stand p l e R s m args below meth c T locs cells slots) (hx : p.tables.exec = Jvm.exec) (hZ : Z.Warmed39 s.vm) {y : MethodName} {bytes : ByteArray} {maxL : Nat} {ret : Option FieldType} {rm : Room} {as : Array Value} {Qc : Option Value → Heap → List Loc → Prop} {own : String} {index W : Nat} {argsL : List Value} (hown : s.vm.findClass own = some m.cls) (wl : (Cond.methodLink own index y).before a0 Z = true) (wst : (Cond.static y).before a0 Z = true) (wz : (Cond.initialized y.cls).before a0 Z = true) (wc : (Cond.code y bytes maxL ret).before a0 Z = true) (hy : y.cls ≠ "java/lang/invoke/MethodHandle" ∧ y.cls ≠ "java/lang/invoke/VarHandle") (hM : Ct l Z y bytes maxL ret rm [] as h Qc) (eT : T.heap = h) (hsize : Ls.size = c.maxLocals) (hlen : ∀ sig, parseMethodDescriptor y.desc = some sig → argsL.length = sig.parameters.length) (has : argsL.toArray = as) {st : List Value} (hst : st = argsL.reverse ++ rest) (hW : (rest.map fun v => v.category).sum ≤ W) (hd : decode c.code pc = .ok (.invokestatic index, 3)) (hf : rm.frames + 1 ≤ R.frames) (hl : W + (maxL + 11) + rm.locals ≤ R.locals) (hc : cells + rm.cells ≤ R.cells) (hs : slots + rm.slots ≤ R.slots)
    (q : ∀ v T' h' L, Stand p l e R s m args below meth c T' (locs ++ L) (cells + rm.cells) (slots + rm.slots) → T'.heap = h' → Qc v h' L → Go p e below T' (mkF m (pc + 3) Ls (v.toList ++ rest)) Q) : Go p e below T (mkF m pc Ls st) Q := by
  obtain ⟨v, vm₁, ⟨T', L', k', n'⟩, -, X', ⟨L, hQ, l1, y1, z1⟩, st'⟩ := Jvm.LawKit.callS X hx (y := y) hown (mvT hZ wl) (mvT hZ wst) (mvT hZ wz) (mvT hZ wc) hy (backOf (W := W) hM hZ wc wz hf hl) (g := mkF m pc Ls st) rfl hsize hlen hst (by show 2 * 0 + _ ≤ W; omega) hd (fun _ _ => ⟨has, eT, hc, hs⟩)
  dsimp only [Pt.U, Pt.locs, Pt.cells, Pt.slots] at X' l1 y1 z1 st' hQ
  subst l1 y1 z1
  exact Go.of st' (q v T' _ L X' rfl hQ)
theorem o_callN (X : Stand p l e R s m args below meth c T locs cells slots) (hx : p.tables.exec = Jvm.exec) (hZ : Z.Warmed39 s.vm) {y : MethodName} {bytes : ByteArray} {maxL : Nat} {rm : Room} {as : Array Value} {Qc : Option Value → Heap → List Loc → Prop} {own : String} {index W : Nat} {argsL : List Value} {a : Addr} (hy1 : y.name = "<init>") (hown : s.vm.findClass own = some m.cls) (wl : (Cond.methodLink own index y).before a0 Z = true) (wi : (Cond.instanceMethod y).before a0 Z = true) (wz : (Cond.initialized y.cls).before a0 Z = true) (wc : (Cond.code y bytes maxL none).before a0 Z = true) (hy : y.cls ≠ "java/lang/invoke/MethodHandle" ∧ y.cls ≠ "java/lang/invoke/VarHandle") (hM : Ct l Z y bytes maxL none rm [] as h Qc) (eT : T.heap = h) (hsize : Ls.size = c.maxLocals) (hlen : ∀ sig, parseMethodDescriptor y.desc = some sig → argsL.length = sig.parameters.length) (has : (.ref a :: argsL).toArray = as) {st : List Value} (hst : st = argsL.reverse ++ .ref a :: rest) (hW : (rest.map fun v => v.category).sum ≤ W) (hd : decode c.code pc = .ok (.invokespecial index, 3)) (hf : rm.frames + 1 ≤ R.frames) (hl : W + (maxL + 11) + rm.locals ≤ R.locals) (hc : cells + rm.cells ≤ R.cells) (hs : slots + rm.slots ≤ R.slots)
    (q : ∀ v T' h' L, Stand p l e R s m args below meth c T' (locs ++ L) (cells + rm.cells) (slots + rm.slots) → T'.heap = h' → Qc v h' L → Go p e below T' (mkF m (pc + 3) Ls (v.toList ++ rest)) Q) : Go p e below T (mkF m pc Ls st) Q := by
  obtain ⟨v, vm₁, ⟨T', L', k', n'⟩, -, X', ⟨L, hQ, l1, y1, z1⟩, st'⟩ := X.specialBack hx (y := y) hy1 hown (mvT hZ wl) (mvT hZ wi) (mvT hZ wc) hy (backOf (W := W) hM hZ wc wz hf hl) (g := mkF m pc Ls st) rfl hsize (Steps.refl _) (a := a) hlen hst (by show 2 * 0 + _ ≤ W; omega) hd (fun _ _ => ⟨has, eT, hc, hs⟩)
  dsimp only [Pt.U, Pt.locs, Pt.cells, Pt.slots] at X' l1 y1 z1 st' hQ
  subst l1 y1 z1
  exact Go.of (fun _ k => st'.trans k) (q v T' _ L X' rfl hQ)
theorem o_callV (X : Stand p l e R s m args below meth c T locs cells slots) (hx : p.tables.exec = Jvm.exec) (hZ : Z.Warmed39 s.vm) {y z : MethodName} {bytes : ByteArray} {maxL : Nat} {ret : Option FieldType} {rm : Room} {as : Array Value} {Qc : Option Value → Heap → List Loc → Prop} {own C : String} {index W : Nat} {argsL : List Value} {a : Addr} (hown : s.vm.findClass own = some m.cls) (wl : (Cond.methodLink own index y).before a0 Z = true) (wd : (Cond.declares y).before a0 Z = true) (hnf : NotFace s y) (wsel : (Cond.selects C y z).before a0 Z = true) (wi : (Cond.instanceMethod z).before a0 Z = true) (wz : (Cond.initialized z.cls).before a0 Z = true) (wc : (Cond.code z bytes maxL ret).before a0 Z = true) (hy : y.cls ≠ "java/lang/invoke/MethodHandle" ∧ y.cls ≠ "java/lang/invoke/VarHandle") (hM : Ct l Z z bytes maxL ret rm [] as h Qc) (eT : T.heap = h) (Ea : Exa Z h a C) (hsize : Ls.size = c.maxLocals) (hlen : ∀ sig, parseMethodDescriptor y.desc = some sig → argsL.length = sig.parameters.length) (has : (.ref a :: argsL).toArray = as) {st : List Value} (hst : st = argsL.reverse ++ .ref a :: rest) (hW : (rest.map fun v => v.category).sum ≤ W) (hd : decode c.code pc = .ok (.invokevirtual index, 3)) (hf : rm.frames + 1 ≤ R.frames) (hl : W + (maxL + 11) + rm.locals ≤ R.locals) (hc : cells + rm.cells ≤ R.cells) (hs : slots + rm.slots ≤ R.slots)
    (q : ∀ v T' h' L, Stand p l e R s m args below meth c T' (locs ++ L) (cells + rm.cells) (slots + rm.slots) → T'.heap = h' → Qc v h' L → Go p e below T' (mkF m (pc + 3) Ls (v.toList ++ rest)) Q) : Go p e below T (mkF m pc Ls st) Q := by
  obtain ⟨cq, kq, qa, qb, qc⟩ := isOf hZ eT Ea
  obtain ⟨v, vm₁, ⟨T', L', k', n'⟩, -, X', ⟨L, hQ, l1, y1, z1⟩, st'⟩ := X.virtualBack hx (y := y) (z := z) hown (mvT hZ wl) (mvT hZ wd) hnf (mvT hZ wsel) (mvT hZ wi) hy (backOf (W := W) hM hZ wc wz hf hl) qa qc (g := mkF m pc Ls st) rfl hsize (Steps.refl _) hlen hst (by show 2 * 0 + _ ≤ W; omega) hd (fun _ _ => ⟨has, eT, hc, hs⟩)
  dsimp only [Pt.U, Pt.locs, Pt.cells, Pt.slots] at X' l1 y1 z1 st' hQ
  subst l1 y1 z1
  exact Go.of (fun _ k => st'.trans k) (q v T' _ L X' rfl hQ)
theorem o_n0 {n0 : Nat} (O : Old Z n0 h) : n0 ≤ h.size := O.1 ▸ O.2.1
theorem o_keep0 {h' : Heap} (K : Keep h h' []) : Ext h h' := ⟨K.1, fun x c q => K.2.1 x c q nin0⟩
theorem o_eqI {first s : State} {o : Option Outcome} {idx : List Nat} {a : Term} {n : Int32} (h : (Cond.eq a (.int n)).value args first o s idx = some true) : a.eval args first o idx s = some (.int n) := Cond.eq_int (beq_iff_eq.mpr h) rfl
theorem o_noUp {vm : Vm} {b t : ClassId} {k : Class} (hk : vm.classes[b]? = some k) (ne : b ≠ t) (hs : k.super = none) : ∀ f, vm.isSubclassAux f b t = false
  | 0 => rfl
  | f + 1 => by unfold Vm.isSubclassAux; simp [ne, hk, hs]
theorem o_flat {vm : Vm} {b t : ClassId} {k k' : Class} (hk : vm.classes[b]? = some k) (hk' : vm.classes[t]? = some k') (q : k.kind = .ordinary) (q' : k'.kind = .ordinary) (i : k'.isInterface = false) (ne : b ≠ t) (no : ∀ f, vm.isSubclassAux f b t = false) : vm.assignable b t = false := by
  unfold Vm.assignable Vm.assignableAux Vm.isSubclass
  simp [ne, hk, hk', q, q', i, no]
theorem o_nsRoot {O K : String} {n : Nat} (w : (Cond.noSuperclass O).before a0 Z = true) (wk : (Cond.instantiable K n).before a0 Z = true) (hn : O ≠ K) : NS Z O K := by
  obtain ⟨b, k, fO, hk, hs, -⟩ := Cond.noSuperclass_spec w
  obtain ⟨t, -, fK, -⟩ := Cond.instantiable_spec wk
  exact ⟨b, t, fO, fK, o_noUp hk (ids_ne fO fK hn) hs⟩
theorem o_nsNo {C S K : String} {n : Nat} (w : (Cond.superclass C S).before a0 Z = true) (wk : (Cond.instantiable K n).before a0 Z = true) (N : NS Z C K) (hn : C ≠ K) : ∃ c t, Z.vm.findClass C = some c ∧ Z.vm.findClass K = some t ∧ Z.vm.assignable c t = false := by
  obtain ⟨b, t, fC, fK, no⟩ := N
  obtain ⟨-, k, -, -, hk, -, -, q, -⟩ := Cond.superclass_spec fC w
  obtain ⟨_, k', fK', hk', q', fl, -⟩ := Cond.instantiable_spec wk
  rw [fK] at fK'
  cases fK'
  exact ⟨b, t, fC, fK, o_flat hk hk' q q' (Bool.or_eq_false_iff.mp fl).1 (ids_ne fC fK hn) no⟩
theorem o_aaloadA (X : Stand p l e R s m args below meth c T locs cells slots) (hx : p.tables.exec = Jvm.exec) (hZ : Z.Warmed39 s.vm) (eT : T.heap = h) {a : Addr} {j : Int32} {cl : Cell} {v : Value} {ty : FieldType} (A : Arr Z h a cl ty) (hty : ty.isReference = true) (hin : ¬ (j < 0 ∨ cl.slots.size ≤ j.toNatClampNeg)) (hv : cl.slots[j.toNatClampNeg]? = some v) (hd : decode c.code pc = .ok (.aaload, 1)) (q : Go p e below T (mkF m (pc + 1) Ls (v :: rest)) Q) : Go p e below T (mkF m pc Ls (.int j :: .ref a :: rest)) Q := Go.of (fun t k => X.aaload hx (j := j) (v := v) (by rw [eT]; exact A.1) (State.isArrayOf_alike hZ.alike A.2.1) hty A.2.2 hin hv (g := mkF m pc Ls (.int j :: .ref a :: rest)) rfl rfl hd t k) q
theorem o_len {s : State} {t : Term} {a : Addr} {cl : Cell} {z : Int32} (et : t.eval args s none [] s = some (.ref a)) (ha : s.arrayAt? a = some cl) (h : (Term.length t).eval args s none [] s = some (.int z)) : cl.slots.size < 2 ^ 31 ∧ cl.slots.size.toInt32 = z := by
  have q : cl.slots.size < 2 ^ 31 := SBG.length_lt et ha h
  exact ⟨q, by simpa using Option.some.inj ((len_f et ha q).symm.trans h)⟩
theorem o_sub {s : State} {a b : Term} {idx : List Nat} {x y : Int32} (ha : a.eval args s none idx s = some (.int x)) (hb : b.eval args s none idx s = some (.int y)) : (Term.sub a b).eval args s none idx s = some (.int (x - y)) := by simp [Term.eval, ha, hb]
end OwnKit

theorem o_pn_java_lang_Number : plainName "java/lang/Number" = true := by first | (simp [plainName, overriddenIn]; done) | decide +kernel
theorem o_d6_0 : decode jdk_18_method_1_code 0 = .ok (.aload_n 0, 1) := by decide +kernel
theorem o_d6_1 : decode jdk_18_method_1_code 1 = .ok (.invokespecial 1, 3) := by decide +kernel
theorem o_d6_4 : decode jdk_18_method_1_code 4 = .ok (.return_, 1) := by decide +kernel
set_option maxRecDepth 65536 in
set_option maxHeartbeats 40000000 in
theorem rmNumber (l : Launch) (Z : State) (a0 : Array Value) (hw : ∀ d ∈ tables_1, d.before a0 Z = true) (ws : List Jvm.Cond) (a1 : Addr) (h0 : Heap) (n0 : Nat) (O0 : Old Z n0 h0) :
    Ct l Z (⟨"java/lang/Number", "<init>", "()V"⟩ : MethodName) jdk_18_method_1_code 1 none ({ frames := 1, cells := 0, slots := 0, locals := 12 } : Room) ws #[(.ref a1)] h0 (fun v h L => v = none ∧ Fr n0 L ∧ h0 = h) := by
  refine o_body (plainFor_of_name o_pn_java_lang_Number) ?_
  intro p e s m below meth c s₁ X0 hx hby hml hret hlk hown hnm hZ e0
  have N0 := Fr.nil n0
  refine o_top (g' := (mkF m 0 #[.val (.ref a1)] [])) (by first | (simp [entryFrame, mkF, argsToLocals, Value.category]; done) | rfl) ?_
  refine o_aloadN (v := (.ref a1)) (pc := 0) X0 hx (hb hby o_d6_0) rfl rfl ?_
  refine o_initO (pc := 1) X0 hx hZ hown (hw _ (List.mem_of_getElem? (i := 43) rfl)) (hw _ (List.mem_of_getElem? (i := 7) rfl)) (hw _ (List.mem_of_getElem? (i := 8) rfl)) e0 (by rw [hml]; rfl) (hb hby o_d6_1) (by decide) (W := 0) (Nat.le_of_ble_eq_true rfl) (by decide) fun T1 X1 e1 => ?_
  exact o_ret0 (pc := 4) X1 hx hret hlk (hb hby o_d6_4) e1 (by decide) (by decide) ⟨rfl, N0, rfl⟩
theorem o_pn_java_lang_Long : plainName "java/lang/Long" = true := by first | (simp [plainName, overriddenIn]; done) | decide +kernel
theorem o_d5_0 : decode jdk_35_method_26_code 0 = .ok (.aload_n 0, 1) := by decide +kernel
theorem o_d5_1 : decode jdk_35_method_26_code 1 = .ok (.invokespecial 270, 3) := by decide +kernel
theorem o_pd0 : parseMethodDescriptor "()V" = some ⟨[], none⟩ := by decide +kernel
theorem o_d5_4 : decode jdk_35_method_26_code 4 = .ok (.aload_n 0, 1) := by decide +kernel
theorem o_d5_5 : decode jdk_35_method_26_code 5 = .ok (.lload_n 1, 1) := by decide +kernel
theorem o_d5_6 : decode jdk_35_method_26_code 6 = .ok (.putfield 273, 3) := by decide +kernel
theorem o_d5_9 : decode jdk_35_method_26_code 9 = .ok (.return_, 1) := by decide +kernel
set_option maxRecDepth 65536 in
set_option maxHeartbeats 40000000 in
theorem rmLong (l : Launch) (Z : State) (a0 : Array Value) (hw : ∀ d ∈ tables_1, d.before a0 Z = true) (ws : List Jvm.Cond) (a1 : Addr) (q1 : Int64) (h0 : Heap) (n0 : Nat) (O0 : Old Z n0 h0) (E1 : Exa Z h0 a1 "java/lang/Long") (G0 : Fld Z h0 a1 "java/lang/Long" "value" "J" (.long (0 : Int64))) (g1 : n0 ≤ a1) :
    Ct l Z (⟨"java/lang/Long", "<init>", "(J)V"⟩ : MethodName) jdk_35_method_26_code 3 none ({ frames := 2, cells := 0, slots := 0, locals := 24 } : Room) ws #[(.ref a1), (.long q1)] h0 (fun v h L => v = none ∧ Fr n0 L ∧ Keep h0 h [a1] ∧ Fld Z h a1 "java/lang/Long" "value" "J" (.long q1)) := by
  refine o_body (plainFor_of_name o_pn_java_lang_Long) ?_
  intro p e s m below meth c s₁ X0 hx hby hml hret hlk hown hnm hZ e0
  have N0 := Fr.nil n0
  refine o_top (g' := (mkF m 0 #[.val (.ref a1), .val (.long q1), .second] [])) (by first | (simp [entryFrame, mkF, argsToLocals, Value.category]; done) | rfl) ?_
  refine o_aloadN (v := (.ref a1)) (pc := 0) X0 hx (hb hby o_d5_0) rfl rfl ?_
  refine o_callN (pc := 1) X0 hx hZ (y := (⟨"java/lang/Number", "<init>", "()V"⟩ : MethodName)) (a := a1) (argsL := []) (rest := []) rfl hown (hw _ (List.mem_of_getElem? (i := 37) rfl)) (hw _ (List.mem_of_getElem? (i := 38) rfl)) (hw _ (List.mem_of_getElem? (i := 41) rfl)) (hw _ (List.mem_of_getElem? (i := 42) rfl)) (by decide) (rmNumber l Z a0 hw [] a1 h0 n0 O0) e0 (by rw [hml]; rfl) (lenOf o_pd0 rfl) (has := rfl) (hst := rfl) (W := 0) (Nat.le_of_ble_eq_true rfl) (hb hby o_d5_1) (by decide) (by decide) (by decide) (by decide) fun v2 T2 h2 L2 X2 e2 q2 => ?_
  obtain ⟨rfl, N2q, rfl⟩ := q2
  have N2 := Fr.app N0 N2q
  show Go p e below T2 (mkF m 4 #[.val (.ref a1), .val (.long q1), .second] []) _
  refine o_aloadN (v := (.ref a1)) (pc := 4) X2 hx (hb hby o_d5_4) rfl rfl ?_
  refine o_lloadN (v := q1) (pc := 5) X2 hx (hb hby o_d5_5) rfl ?_
  refine o_putF (pc := 6) X2 hx hZ hown (host := "") (Or.inl (hw _ (List.mem_of_getElem? (i := 44) rfl))) Via.refl e2 G0 E1 (Or.inr ⟨(hw _ (List.mem_of_getElem? (i := 45) rfl)), rfl, hnm⟩) (hw _ (List.mem_of_getElem? (i := 32) rfl)) (ty := .long) (by decide) rfl rfl (hb hby o_d5_6) fun T3 h3 X3 e3 W3 => ?_
  have F3 := Fld.same W3 G0
  have N3 := Fr.snoc X3 N2 g1
  have O4 := O0.wr W3 g1
  have K4 : Keep h0 h3 [a1] := (Keep.refl h0 [a1]).wr W3 (Or.inl (List.mem_of_getElem? (i := 0) rfl))
  exact o_ret0 (pc := 9) X3 hx hret hlk (hb hby o_d5_9) e3 (by decide) (by decide) ⟨rfl, N3, K4, F3⟩
theorem lc_in {q : Int64} {cl : Cell} (hs : cl.slots.size = (256 : Int32).toNatClampNeg) (h1 : ¬ lcmpW q (-128 : Int64) < 0) (h2 : ¬ 0 < lcmpW q (127 : Int64)) : ¬ ((q.toInt32 + 128) < 0 ∨ cl.slots.size ≤ (q.toInt32 + 128).toNatClampNeg) ∧ (q.toInt32 + 128 - 128).toInt64 = q := by
  rw [lw_lt, Int64.lt_iff_toInt_lt] at h1
  rw [lw_gt, Int64.lt_iff_toInt_lt] at h2
  have e1 : (-128 : Int64).toInt = -128 := rfl
  have e2 : (127 : Int64).toInt = 127 := rfl
  have e3 : (128 : Int32).toInt = 128 := rfl
  have e4 : (256 : Int32).toNatClampNeg = 256 := rfl
  have e5 : (0 : Int32).toInt = 0 := rfl
  have g1 := c_l2i q
  have g2 := rng32 q.toInt32
  have g3 := c_iadd q.toInt32 128
  have g4 := rng32 (q.toInt32 + 128)
  rw [e1] at h1
  rw [e2] at h2
  rw [e3] at g3
  refine ⟨?_, ?_⟩
  · rw [hs, e4, Int32.lt_iff_toInt_lt, e5]
    simp only [Int32.toNatClampNeg]
    omega
  · rw [show q.toInt32 + 128 - 128 = q.toInt32 from by rw [← Int32.toInt_inj]; have g5 := c_isub (q.toInt32 + 128) 128; have g6 := rng32 (q.toInt32 + 128 - 128); rw [e3] at g5; omega]
    rw [← Int64.toInt_inj, c_i2l]
    omega
theorem o_d3_0 : decode jdk_35_method_24_code 0 = .ok (.sipush 128, 3) := by decide +kernel
theorem o_d3_3 : decode jdk_35_method_24_code 3 = .ok (.istore_n 2, 1) := by decide +kernel
theorem o_d3_4 : decode jdk_35_method_24_code 4 = .ok (.lload_n 0, 1) := by decide +kernel
theorem o_d3_5 : decode jdk_35_method_24_code 5 = .ok (.ldc2_w 230, 3) := by decide +kernel
theorem o_d3_8 : decode jdk_35_method_24_code 8 = .ok (.lcmp, 1) := by decide +kernel
theorem o_d3_9 : decode jdk_35_method_24_code 9 = .ok (.ifCond .lt 22, 3) := by decide +kernel
theorem o_d3_31 : decode jdk_35_method_24_code 31 = .ok (.new 1, 3) := by decide +kernel
theorem o_d3_34 : decode jdk_35_method_24_code 34 = .ok (.dup, 1) := by decide +kernel
theorem o_d3_35 : decode jdk_35_method_24_code 35 = .ok (.lload_n 0, 1) := by decide +kernel
theorem o_d3_36 : decode jdk_35_method_24_code 36 = .ok (.invokespecial 240, 3) := by decide +kernel
theorem o_pd1 : parseMethodDescriptor "(J)V" = some ⟨[.long], none⟩ := by decide +kernel
theorem o_d3_39 : decode jdk_35_method_24_code 39 = .ok (.areturn, 1) := by decide +kernel
theorem o_d3_12 : decode jdk_35_method_24_code 12 = .ok (.lload_n 0, 1) := by decide +kernel
theorem o_d3_13 : decode jdk_35_method_24_code 13 = .ok (.ldc2_w 232, 3) := by decide +kernel
theorem o_d3_16 : decode jdk_35_method_24_code 16 = .ok (.lcmp, 1) := by decide +kernel
theorem o_d3_17 : decode jdk_35_method_24_code 17 = .ok (.ifCond .gt 14, 3) := by decide +kernel
theorem o_d3_20 : decode jdk_35_method_24_code 20 = .ok (.getstatic 234, 3) := by decide +kernel
theorem o_d3_23 : decode jdk_35_method_24_code 23 = .ok (.lload_n 0, 1) := by decide +kernel
theorem o_d3_24 : decode jdk_35_method_24_code 24 = .ok (.l2i, 1) := by decide +kernel
theorem o_d3_25 : decode jdk_35_method_24_code 25 = .ok (.sipush 128, 3) := by decide +kernel
theorem o_d3_28 : decode jdk_35_method_24_code 28 = .ok (.iadd, 1) := by decide +kernel
theorem o_d3_29 : decode jdk_35_method_24_code 29 = .ok (.aaload, 1) := by decide +kernel
theorem o_d3_30 : decode jdk_35_method_24_code 30 = .ok (.areturn, 1) := by decide +kernel
set_option maxRecDepth 65536 in
set_option maxHeartbeats 40000000 in
theorem rmValueOf (l : Launch) (Z : State) (a0 : Array Value) (hw : ∀ d ∈ tables_1, d.before a0 Z = true) (ws : List Jvm.Cond) (q1 : Int64) (wl : Addr) (cl : Cell) (h0 : Heap) (n0 : Nat) (O0 : Old Z n0 h0) (LS : Sta Z Z.heap "java/lang/Long$LongCache" "cache" "[Ljava/lang/Long;" (.ref wl)) (LB : Bxs Z wl cl "java/lang/Long" "J" 256 (fun j => .long (j - 128).toInt64)) :
    Ct l Z (⟨"java/lang/Long", "valueOf", "(J)Ljava/lang/Long;"⟩ : MethodName) jdk_35_method_24_code 3 (some (.object "java/lang/Long")) ({ frames := 3, cells := 1, slots := 1, locals := 39 } : Room) ws #[(.long q1)] h0 (fun v h L => ∃ b, v = some (.ref b) ∧ Fr n0 L ∧ Ext h0 h ∧ Exa Z h b "java/lang/Long" ∧ Fld Z h b "java/lang/Long" "value" "J" (.long q1)) := by
  refine o_body (plainFor_of_name o_pn_java_lang_Long) ?_
  intro p e s m below meth c s₁ X0 hx hby hml hret hlk hown hnm hZ e0
  have N0 := Fr.nil n0
  refine o_top (g' := (mkF m 0 #[.val (.long q1), .second, .unset] [])) (by first | (simp [entryFrame, mkF, argsToLocals, Value.category]; done) | rfl) ?_
  refine o_sipush (pc := 0) X0 hx (128 : Int32) (hb hby o_d3_0) rfl ?_
  refine o_istoreN (l' := #[.val (.long q1), .second, .val (.int (128 : Int32))]) (pc := 3) X0 hx (hb hby o_d3_3) rfl ?_
  refine o_lloadN (v := q1) (pc := 4) X0 hx (hb hby o_d3_4) rfl ?_
  refine o_ldc2J (pc := 5) X0 hx hZ hown (hw _ (List.mem_of_getElem? (i := 17) rfl)) (hb hby o_d3_5) ?_
  refine o_lcmp (pc := 8) X0 hx (hb hby o_d3_8) ?_
  by_cases hc5 : (lcmpW q1 (-128 : Int64)) < (0 : Int32)
  · skip
    refine o_ifYes (pc := 9) X0 hx 31 (hb hby o_d3_9) ((if0 _ _).trans (tlt hc5).1) (by decide) (by decide) ?_
    refine o_new (pc := 31) X0 hx hZ hown (hw _ (List.mem_of_getElem? (i := 31) rfl)) (hw _ (List.mem_of_getElem? (i := 32) rfl)) (hw _ (List.mem_of_getElem? (i := 15) rfl)) e0 (hb hby o_d3_31) (by decide) (by decide) fun T6 h6 b6 X6 e6 g6 E6 A6 D6 U6 => ?_
    have O7 := O0.ext E6
    have K7 : Keep h0 h6 [] := (Keep.refl h0 []).ext E6
    have F6_value : Fld Z h6 b6 "java/lang/Long" "value" "J" (.long (0 : Int64)) := D6 (Or.inr (hw _ (List.mem_of_getElem? (i := 45) rfl))) (ty := .long) (by decide)
    refine o_dup (pc := 34) X6 hx (hb hby o_d3_34) rfl ?_
    refine o_lloadN (v := q1) (pc := 35) X6 hx (hb hby o_d3_35) rfl ?_
    refine o_callN (pc := 36) X6 hx hZ (y := (⟨"java/lang/Long", "<init>", "(J)V"⟩ : MethodName)) (a := b6) (argsL := [(.long q1)]) (rest := [(.ref b6)]) rfl hown (hw _ (List.mem_of_getElem? (i := 33) rfl)) (hw _ (List.mem_of_getElem? (i := 34) rfl)) (hw _ (List.mem_of_getElem? (i := 15) rfl)) (hw _ (List.mem_of_getElem? (i := 36) rfl)) (by decide) (rmLong l Z a0 hw [] b6 q1 h6 n0 O7 A6 F6_value (Nat.le_trans (o_n0 O0) g6)) e6 (by rw [hml]; rfl) (lenOf o_pd1 rfl) (has := rfl) (hst := rfl) (W := 1) (Nat.le_of_ble_eq_true rfl) (hb hby o_d3_36) (by decide) (by decide) (by decide) (by decide) fun v8 T8 h8 L8 X8 e8 q8 => ?_
    obtain ⟨rfl, N8q, Kc8, Fn8_0⟩ := q8
    have N8 := Fr.app N0 N8q
    have O9 := O7.keep Kc8 (allS (Nat.le_trans (o_n0 O0) g6) all0)
    have K9 : Keep h0 h8 [] := K7.trans Kc8 (allS (Or.inr (Nat.le_trans (Keep.refl h0 []).1 g6)) all0)
    show Go p e below T8 (mkF m 39 #[.val (.long q1), .second, .val (.int (128 : Int32))] [(.ref b6)]) _
    exact o_retA (pc := 39) X8 hx hret hlk rfl rfl (hb hby o_d3_39) e8 (by decide) (by decide) ⟨b6, rfl, N8, o_keep0 K9, (A6.keep Kc8), Fn8_0⟩
  · skip
    refine o_ifNo (pc := 9) X0 hx (hb hby o_d3_9) ((if0 _ _).trans (flt hc5).1) ?_
    refine o_lloadN (v := q1) (pc := 12) X0 hx (hb hby o_d3_12) rfl ?_
    refine o_ldc2J (pc := 13) X0 hx hZ hown (hw _ (List.mem_of_getElem? (i := 18) rfl)) (hb hby o_d3_13) ?_
    refine o_lcmp (pc := 16) X0 hx (hb hby o_d3_16) ?_
    by_cases hc10 : (0 : Int32) < (lcmpW q1 (127 : Int64))
    · skip
      refine o_ifYes (pc := 17) X0 hx 31 (hb hby o_d3_17) ((if0 _ _).trans (tlt hc10).2.2.1) (by decide) (by decide) ?_
      refine o_new (pc := 31) X0 hx hZ hown (hw _ (List.mem_of_getElem? (i := 31) rfl)) (hw _ (List.mem_of_getElem? (i := 32) rfl)) (hw _ (List.mem_of_getElem? (i := 15) rfl)) e0 (hb hby o_d3_31) (by decide) (by decide) fun T11 h11 b11 X11 e11 g11 E11 A11 D11 U11 => ?_
      have O12 := O0.ext E11
      have K12 : Keep h0 h11 [] := (Keep.refl h0 []).ext E11
      have F11_value : Fld Z h11 b11 "java/lang/Long" "value" "J" (.long (0 : Int64)) := D11 (Or.inr (hw _ (List.mem_of_getElem? (i := 45) rfl))) (ty := .long) (by decide)
      refine o_dup (pc := 34) X11 hx (hb hby o_d3_34) rfl ?_
      refine o_lloadN (v := q1) (pc := 35) X11 hx (hb hby o_d3_35) rfl ?_
      refine o_callN (pc := 36) X11 hx hZ (y := (⟨"java/lang/Long", "<init>", "(J)V"⟩ : MethodName)) (a := b11) (argsL := [(.long q1)]) (rest := [(.ref b11)]) rfl hown (hw _ (List.mem_of_getElem? (i := 33) rfl)) (hw _ (List.mem_of_getElem? (i := 34) rfl)) (hw _ (List.mem_of_getElem? (i := 15) rfl)) (hw _ (List.mem_of_getElem? (i := 36) rfl)) (by decide) (rmLong l Z a0 hw [] b11 q1 h11 n0 O12 A11 F11_value (Nat.le_trans (o_n0 O0) g11)) e11 (by rw [hml]; rfl) (lenOf o_pd1 rfl) (has := rfl) (hst := rfl) (W := 1) (Nat.le_of_ble_eq_true rfl) (hb hby o_d3_36) (by decide) (by decide) (by decide) (by decide) fun v13 T13 h13 L13 X13 e13 q13 => ?_
      obtain ⟨rfl, N13q, Kc13, Fn13_0⟩ := q13
      have N13 := Fr.app N0 N13q
      have O14 := O12.keep Kc13 (allS (Nat.le_trans (o_n0 O0) g11) all0)
      have K14 : Keep h0 h13 [] := K12.trans Kc13 (allS (Or.inr (Nat.le_trans (Keep.refl h0 []).1 g11)) all0)
      show Go p e below T13 (mkF m 39 #[.val (.long q1), .second, .val (.int (128 : Int32))] [(.ref b11)]) _
      exact o_retA (pc := 39) X13 hx hret hlk rfl rfl (hb hby o_d3_39) e13 (by decide) (by decide) ⟨b11, rfl, N13, o_keep0 K14, (A11.keep Kc13), Fn13_0⟩
    · skip
      refine o_ifNo (pc := 17) X0 hx (hb hby o_d3_17) ((if0 _ _).trans (flt hc10).2.2.1) ?_
      refine o_getS (pc := 20) X0 hx hZ hown (host := "") (Or.inl (hw _ (List.mem_of_getElem? (i := 19) rfl))) Via.refl e0 (LS.ext O0.2) (hb hby o_d3_20) fun T15 X15 e15 => ?_
      refine o_lloadN (v := q1) (pc := 23) X15 hx (hb hby o_d3_23) rfl ?_
      refine o_l2i (pc := 24) X15 hx (hb hby o_d3_24) ?_
      refine o_sipush (pc := 25) X15 hx (128 : Int32) (hb hby o_d3_25) rfl ?_
      refine o_iadd (pc := 28) X15 hx (hb hby o_d3_28) ?_
      have lc16 := lc_in LB.2.1 hc5 hc10
      obtain ⟨b16, hb16, Eb16, Fb16⟩ := LB.2.2.2 _ lc16.1
      dsimp only at Fb16
      rw [lc16.2] at Fb16
      refine o_aaloadA (pc := 29) X15 hx hZ e15 (LB.ext O0.2).1 rfl lc16.1 hb16 (hb hby o_d3_29) ?_
      exact o_retA (pc := 30) X15 hx hret hlk rfl rfl (hb hby o_d3_30) e15 (by decide) (by decide) ⟨b16, rfl, N0, o_keep0 (Keep.refl h0 []), (Eb16.ext O0.2), (Fb16.ext O0.2)⟩
theorem o_pn_com_example_retain_retain_session_QueueLimits : plainName "com/example/retain/retain/session/QueueLimits" = true := by first | (simp [plainName, overriddenIn]; done) | decide +kernel
theorem o_d1_0 : decode prog_71_method_1_code 0 = .ok (.aload_n 0, 1) := by decide +kernel
theorem o_d1_1 : decode prog_71_method_1_code 1 = .ok (.invokespecial 1, 3) := by decide +kernel
theorem o_d1_4 : decode prog_71_method_1_code 4 = .ok (.aload_n 0, 1) := by decide +kernel
theorem o_d1_5 : decode prog_71_method_1_code 5 = .ok (.lload_n 1, 1) := by decide +kernel
theorem o_d1_6 : decode prog_71_method_1_code 6 = .ok (.putfield 7, 3) := by decide +kernel
theorem o_d1_9 : decode prog_71_method_1_code 9 = .ok (.aload_n 0, 1) := by decide +kernel
theorem o_d1_10 : decode prog_71_method_1_code 10 = .ok (.lload_n 3, 1) := by decide +kernel
theorem o_d1_11 : decode prog_71_method_1_code 11 = .ok (.putfield 13, 3) := by decide +kernel
theorem o_d1_14 : decode prog_71_method_1_code 14 = .ok (.return_, 1) := by decide +kernel
set_option maxRecDepth 65536 in
set_option maxHeartbeats 40000000 in
theorem rm1 (l : Launch) (Z : State) (a0 : Array Value) (hw : ∀ d ∈ tables_1, d.before a0 Z = true) (ws : List Jvm.Cond) (a1 : Addr) (q1 q2 : Int64) (h0 : Heap) (n0 : Nat) (O0 : Old Z n0 h0) (E1 : Exa Z h0 a1 "com/example/retain/retain/session/QueueLimits") (G0 : Fld Z h0 a1 "com/example/retain/retain/session/QueueLimits" "maxMessages" "J" (.long (0 : Int64))) (G1 : Fld Z h0 a1 "com/example/retain/retain/session/QueueLimits" "maxBytes" "J" (.long (0 : Int64))) (g1 : n0 ≤ a1) :
    Ct l Z (⟨"com/example/retain/retain/session/QueueLimits", "<init>", "(JJ)V"⟩ : MethodName) prog_71_method_1_code 5 none ({ frames := 1, cells := 0, slots := 0, locals := 12 } : Room) ws #[(.ref a1), (.long q1), (.long q2)] h0 (fun v h L => v = none ∧ Fr n0 L ∧ Keep h0 h [a1] ∧ Fld Z h a1 "com/example/retain/retain/session/QueueLimits" "maxMessages" "J" (.long q1) ∧ Fld Z h a1 "com/example/retain/retain/session/QueueLimits" "maxBytes" "J" (.long q2)) := by
  refine o_body (plainFor_of_name o_pn_com_example_retain_retain_session_QueueLimits) ?_
  intro p e s m below meth c s₁ X0 hx hby hml hret hlk hown hnm hZ e0
  have N0 := Fr.nil n0
  refine o_top (g' := (mkF m 0 #[.val (.ref a1), .val (.long q1), .second, .val (.long q2), .second] [])) (by first | (simp [entryFrame, mkF, argsToLocals, Value.category]; done) | rfl) ?_
  refine o_aloadN (v := (.ref a1)) (pc := 0) X0 hx (hb hby o_d1_0) rfl rfl ?_
  refine o_initO (pc := 1) X0 hx hZ hown (hw _ (List.mem_of_getElem? (i := 6) rfl)) (hw _ (List.mem_of_getElem? (i := 7) rfl)) (hw _ (List.mem_of_getElem? (i := 8) rfl)) e0 (by rw [hml]; rfl) (hb hby o_d1_1) (by decide) (W := 0) (Nat.le_of_ble_eq_true rfl) (by decide) fun T17 X17 e17 => ?_
  refine o_aloadN (v := (.ref a1)) (pc := 4) X17 hx (hb hby o_d1_4) rfl rfl ?_
  refine o_lloadN (v := q1) (pc := 5) X17 hx (hb hby o_d1_5) rfl ?_
  refine o_putF (pc := 6) X17 hx hZ hown (host := "") (Or.inl (hw _ (List.mem_of_getElem? (i := 9) rfl))) Via.refl e17 G0 E1 (Or.inr ⟨(hw _ (List.mem_of_getElem? (i := 10) rfl)), rfl, hnm⟩) (hw _ (List.mem_of_getElem? (i := 1) rfl)) (ty := .long) (by decide) rfl rfl (hb hby o_d1_6) fun T18 h18 X18 e18 W18 => ?_
  have F18 := Fld.same W18 G0
  have N18 := Fr.snoc X18 N0 g1
  have O19 := O0.wr W18 g1
  have K19 : Keep h0 h18 [a1] := (Keep.refl h0 [a1]).wr W18 (Or.inl (List.mem_of_getElem? (i := 0) rfl))
  refine o_aloadN (v := (.ref a1)) (pc := 9) X18 hx (hb hby o_d1_9) rfl rfl ?_
  refine o_lloadN (v := q2) (pc := 10) X18 hx (hb hby o_d1_10) rfl ?_
  refine o_putF (pc := 11) X18 hx hZ hown (host := "") (Or.inl (hw _ (List.mem_of_getElem? (i := 11) rfl))) Via.refl e18 (G1.other W18 (Or.inr (slot_ne (C := "com/example/retain/retain/session/QueueLimits") (Or.inr (hw _ (List.mem_of_getElem? (i := 12) rfl))) (Or.inr (hw _ (List.mem_of_getElem? (i := 10) rfl))) (by decide) (t := .long) (t' := .long) (by decide) (by decide)))) (E1.wr W18) (Or.inr ⟨(hw _ (List.mem_of_getElem? (i := 12) rfl)), rfl, hnm⟩) (hw _ (List.mem_of_getElem? (i := 1) rfl)) (ty := .long) (by decide) rfl rfl (hb hby o_d1_11) fun T20 h20 X20 e20 W20 => ?_
  have F20 := Fld.same W20 (G1.other W18 (Or.inr (slot_ne (C := "com/example/retain/retain/session/QueueLimits") (Or.inr (hw _ (List.mem_of_getElem? (i := 12) rfl))) (Or.inr (hw _ (List.mem_of_getElem? (i := 10) rfl))) (by decide) (t := .long) (t' := .long) (by decide) (by decide))))
  have N20 := Fr.snoc X20 N18 g1
  have O21 := O19.wr W20 g1
  have K21 : Keep h0 h20 [a1] := K19.wr W20 (Or.inl (List.mem_of_getElem? (i := 0) rfl))
  exact o_ret0 (pc := 14) X20 hx hret hlk (hb hby o_d1_14) e20 (by decide) (by decide) ⟨rfl, N20, K21, (F18.other W20 (Or.inr (slot_ne (C := "com/example/retain/retain/session/QueueLimits") (Or.inr (hw _ (List.mem_of_getElem? (i := 10) rfl))) (Or.inr (hw _ (List.mem_of_getElem? (i := 12) rfl))) (by decide) (t := .long) (t' := .long) (by decide) (by decide)))), F20⟩
theorem o_d4_0 : decode prog_71_method_4_code 0 = .ok (.aload_n 1, 1) := by decide +kernel
theorem o_d4_1 : decode prog_71_method_4_code 1 = .ok (.instanceof 8, 3) := by decide +kernel
theorem o_d4_4 : decode prog_71_method_4_code 4 = .ok (.ifCond .eq 36, 3) := by decide +kernel
theorem o_d4_7 : decode prog_71_method_4_code 7 = .ok (.aload_n 1, 1) := by decide +kernel
theorem o_d4_8 : decode prog_71_method_4_code 8 = .ok (.checkcast 8, 3) := by decide +kernel
theorem o_d4_11 : decode prog_71_method_4_code 11 = .ok (.astore_n 2, 1) := by decide +kernel
theorem o_d4_12 : decode prog_71_method_4_code 12 = .ok (.aload_n 2, 1) := by decide +kernel
theorem o_d4_13 : decode prog_71_method_4_code 13 = .ok (.getfield 7, 3) := by decide +kernel
theorem o_d4_16 : decode prog_71_method_4_code 16 = .ok (.aload_n 0, 1) := by decide +kernel
theorem o_d4_17 : decode prog_71_method_4_code 17 = .ok (.getfield 7, 3) := by decide +kernel
theorem o_d4_20 : decode prog_71_method_4_code 20 = .ok (.lcmp, 1) := by decide +kernel
theorem o_d4_21 : decode prog_71_method_4_code 21 = .ok (.ifCond .ne 19, 3) := by decide +kernel
theorem o_d4_24 : decode prog_71_method_4_code 24 = .ok (.aload_n 2, 1) := by decide +kernel
theorem o_d4_25 : decode prog_71_method_4_code 25 = .ok (.getfield 13, 3) := by decide +kernel
theorem o_d4_28 : decode prog_71_method_4_code 28 = .ok (.aload_n 0, 1) := by decide +kernel
theorem o_d4_29 : decode prog_71_method_4_code 29 = .ok (.getfield 13, 3) := by decide +kernel
theorem o_d4_32 : decode prog_71_method_4_code 32 = .ok (.lcmp, 1) := by decide +kernel
theorem o_d4_33 : decode prog_71_method_4_code 33 = .ok (.ifCond .ne 7, 3) := by decide +kernel
theorem o_d4_36 : decode prog_71_method_4_code 36 = .ok (.iconst 1, 1) := by decide +kernel
theorem o_d4_37 : decode prog_71_method_4_code 37 = .ok (.goto 4, 3) := by decide +kernel
theorem o_d4_41 : decode prog_71_method_4_code 41 = .ok (.ireturn, 1) := by decide +kernel
theorem o_d4_40 : decode prog_71_method_4_code 40 = .ok (.iconst 0, 1) := by decide +kernel
set_option maxRecDepth 65536 in
set_option maxHeartbeats 40000000 in
theorem rm4q (l : Launch) (Z : State) (a0 : Array Value) (hw : ∀ d ∈ tables_1, d.before a0 Z = true) (ws : List Jvm.Cond) (a1 a2 : Addr) (x1 y1 x2 y2 : Int64) (h0 : Heap) (n0 : Nat) (O0 : Old Z n0 h0) (E2 : Exa Z h0 a2 "com/example/retain/retain/session/QueueLimits") (Ma1m : Fld Z h0 a1 "com/example/retain/retain/session/QueueLimits" "maxMessages" "J" (.long x1)) (Ma1b : Fld Z h0 a1 "com/example/retain/retain/session/QueueLimits" "maxBytes" "J" (.long y1)) (Ma2m : Fld Z h0 a2 "com/example/retain/retain/session/QueueLimits" "maxMessages" "J" (.long x2)) (Ma2b : Fld Z h0 a2 "com/example/retain/retain/session/QueueLimits" "maxBytes" "J" (.long y2)) :
    Ct l Z (⟨"com/example/retain/retain/session/QueueLimits", "equals", "(Ljava/lang/Object;)Z"⟩ : MethodName) prog_71_method_4_code 3 (some .boolean) ({ frames := 0, cells := 0, slots := 0, locals := 0 } : Room) ws #[(.ref a1), (.ref a2)] h0 (fun v h L => v = some (.int (if x2 = x1 ∧ y2 = y1 then 1 else 0)) ∧ Fr n0 L ∧ h0 = h) := by
  refine o_body (plainFor_of_name o_pn_com_example_retain_retain_session_QueueLimits) ?_
  intro p e s m below meth c s₁ X0 hx hby hml hret hlk hown hnm hZ e0
  have N0 := Fr.nil n0
  refine o_top (g' := (mkF m 0 #[.val (.ref a1), .val (.ref a2), .unset] [])) (by first | (simp [entryFrame, mkF, argsToLocals, Value.category]; done) | rfl) ?_
  refine o_aloadN (v := (.ref a2)) (pc := 0) X0 hx (hb hby o_d4_0) rfl rfl ?_
  refine o_instY (pc := 1) X0 hx hZ hown (hw _ (List.mem_of_getElem? (i := 26) rfl)) e0 (Ins.self E2) (hb hby o_d4_1) fun T22 X22 e22 => ?_
  refine o_ifNo (pc := 4) X22 hx (hb hby o_d4_4) ((if0 _ _).trans (feq (by decide : ¬ ((1 : Int32) = (0 : Int32)))).1) ?_
  refine o_aloadN (v := (.ref a2)) (pc := 7) X22 hx (hb hby o_d4_7) rfl rfl ?_
  refine o_cast (pc := 8) X22 hx hZ hown (hw _ (List.mem_of_getElem? (i := 26) rfl)) e22 (Ins.self E2) (hb hby o_d4_8) fun T23 X23 e23 => ?_
  refine o_astoreN (l' := #[.val (.ref a1), .val (.ref a2), .val (.ref a2)]) (pc := 11) X23 hx (hb hby o_d4_11) rfl rfl ?_
  refine o_aloadN (v := (.ref a2)) (pc := 12) X23 hx (hb hby o_d4_12) rfl rfl ?_
  refine o_getF (pc := 13) X23 hx hZ hown (host := "") (Or.inl (hw _ (List.mem_of_getElem? (i := 9) rfl))) Via.refl e23 Ma2m (hb hby o_d4_13) fun T24 X24 e24 => ?_
  refine o_aloadN (v := (.ref a1)) (pc := 16) X24 hx (hb hby o_d4_16) rfl rfl ?_
  refine o_getF (pc := 17) X24 hx hZ hown (host := "") (Or.inl (hw _ (List.mem_of_getElem? (i := 9) rfl))) Via.refl e24 Ma1m (hb hby o_d4_17) fun T25 X25 e25 => ?_
  refine o_lcmp (pc := 20) X25 hx (hb hby o_d4_20) ?_
  by_cases hc26 : (lcmpW x2 x1) = (0 : Int32)
  · skip
    refine o_ifNo (pc := 21) X25 hx (hb hby o_d4_21) ((if0 _ _).trans (teq hc26).2) ?_
    refine o_aloadN (v := (.ref a2)) (pc := 24) X25 hx (hb hby o_d4_24) rfl rfl ?_
    refine o_getF (pc := 25) X25 hx hZ hown (host := "") (Or.inl (hw _ (List.mem_of_getElem? (i := 11) rfl))) Via.refl e25 Ma2b (hb hby o_d4_25) fun T27 X27 e27 => ?_
    refine o_aloadN (v := (.ref a1)) (pc := 28) X27 hx (hb hby o_d4_28) rfl rfl ?_
    refine o_getF (pc := 29) X27 hx hZ hown (host := "") (Or.inl (hw _ (List.mem_of_getElem? (i := 11) rfl))) Via.refl e27 Ma1b (hb hby o_d4_29) fun T28 X28 e28 => ?_
    refine o_lcmp (pc := 32) X28 hx (hb hby o_d4_32) ?_
    by_cases hc29 : (lcmpW y2 y1) = (0 : Int32)
    · skip
      refine o_ifNo (pc := 33) X28 hx (hb hby o_d4_33) ((if0 _ _).trans (teq hc29).2) ?_
      refine o_iconst (pc := 36) X28 hx (1 : Int32) (hb hby o_d4_36) rfl ?_
      refine o_goto (pc := 37) X28 hx 41 (hb hby o_d4_37) (by decide) (by decide) ?_
      exact o_retN (pc := 41) X28 hx .boolean hret hlk (by simp) (hb hby o_d4_41) e28 (by decide) (by decide) ⟨by rw [if_pos ⟨(lw_eq _ _).mp hc26, (lw_eq _ _).mp hc29⟩]; rfl, N0, rfl⟩
    · skip
      refine o_ifYes (pc := 33) X28 hx 40 (hb hby o_d4_33) ((if0 _ _).trans (feq hc29).2) (by decide) (by decide) ?_
      refine o_iconst (pc := 40) X28 hx (0 : Int32) (hb hby o_d4_40) rfl ?_
      exact o_retN (pc := 41) X28 hx .boolean hret hlk (by simp) (hb hby o_d4_41) e28 (by decide) (by decide) ⟨by rw [if_neg fun q => hc29 ((lw_eq _ _).mpr q.2)]; rfl, N0, rfl⟩
  · skip
    refine o_ifYes (pc := 21) X25 hx 40 (hb hby o_d4_21) ((if0 _ _).trans (feq hc26).2) (by decide) (by decide) ?_
    refine o_iconst (pc := 40) X25 hx (0 : Int32) (hb hby o_d4_40) rfl ?_
    exact o_retN (pc := 41) X25 hx .boolean hret hlk (by simp) (hb hby o_d4_41) e25 (by decide) (by decide) ⟨by rw [if_neg fun q => hc26 ((lw_eq _ _).mpr q.1)]; rfl, N0, rfl⟩
set_option maxRecDepth 65536 in
set_option maxHeartbeats 40000000 in
theorem rm4n (l : Launch) (Z : State) (a0 : Array Value) (hw : ∀ d ∈ tables_1, d.before a0 Z = true) (ws : List Jvm.Cond) (a1 : Addr) (h0 : Heap) (n0 : Nat) (O0 : Old Z n0 h0) :
    Ct l Z (⟨"com/example/retain/retain/session/QueueLimits", "equals", "(Ljava/lang/Object;)Z"⟩ : MethodName) prog_71_method_4_code 3 (some .boolean) ({ frames := 0, cells := 0, slots := 0, locals := 0 } : Room) ws #[(.ref a1), .null] h0 (fun v h L => v = some (.int 0) ∧ Fr n0 L ∧ h0 = h) := by
  refine o_body (plainFor_of_name o_pn_com_example_retain_retain_session_QueueLimits) ?_
  intro p e s m below meth c s₁ X0 hx hby hml hret hlk hown hnm hZ e0
  have N0 := Fr.nil n0
  refine o_top (g' := (mkF m 0 #[.val (.ref a1), .val .null, .unset] [])) (by first | (simp [entryFrame, mkF, argsToLocals, Value.category]; done) | rfl) ?_
  refine o_aloadN (v := .null) (pc := 0) X0 hx (hb hby o_d4_0) rfl rfl ?_
  refine o_instNull (pc := 1) X0 hx (hb hby o_d4_1) ?_
  refine o_ifYes (pc := 4) X0 hx 40 (hb hby o_d4_4) ((if0 _ _).trans (teq (by decide : (0 : Int32) = (0 : Int32))).1) (by decide) (by decide) ?_
  refine o_iconst (pc := 40) X0 hx (0 : Int32) (hb hby o_d4_40) rfl ?_
  exact o_retN (pc := 41) X0 hx .boolean hret hlk (by simp) (hb hby o_d4_41) e0 (by decide) (by decide) ⟨rfl, N0, rfl⟩
set_option maxRecDepth 65536 in
set_option maxHeartbeats 40000000 in
theorem rm4l (l : Launch) (Z : State) (a0 : Array Value) (hw : ∀ d ∈ tables_1, d.before a0 Z = true) (ws : List Jvm.Cond) (a1 a2 : Addr) (h0 : Heap) (n0 : Nat) (O0 : Old Z n0 h0) (E2 : Exa Z h0 a2 "java/lang/Long") :
    Ct l Z (⟨"com/example/retain/retain/session/QueueLimits", "equals", "(Ljava/lang/Object;)Z"⟩ : MethodName) prog_71_method_4_code 3 (some .boolean) ({ frames := 0, cells := 0, slots := 0, locals := 0 } : Room) ws #[(.ref a1), (.ref a2)] h0 (fun v h L => v = some (.int 0) ∧ Fr n0 L ∧ h0 = h) := by
  refine o_body (plainFor_of_name o_pn_com_example_retain_retain_session_QueueLimits) ?_
  intro p e s m below meth c s₁ X0 hx hby hml hret hlk hown hnm hZ e0
  have N0 := Fr.nil n0
  refine o_top (g' := (mkF m 0 #[.val (.ref a1), .val (.ref a2), .unset] [])) (by first | (simp [entryFrame, mkF, argsToLocals, Value.category]; done) | rfl) ?_
  refine o_aloadN (v := (.ref a2)) (pc := 0) X0 hx (hb hby o_d4_0) rfl rfl ?_
  refine o_instNo (pc := 1) X0 hx hZ hown (hw _ (List.mem_of_getElem? (i := 26) rfl)) e0 E2 (o_nsNo (hw _ (List.mem_of_getElem? (i := 28) rfl)) (hw _ (List.mem_of_getElem? (i := 1) rfl)) (NS.step (hw _ (List.mem_of_getElem? (i := 28) rfl)) (NS.step (hw _ (List.mem_of_getElem? (i := 29) rfl)) (o_nsRoot (hw _ (List.mem_of_getElem? (i := 30) rfl)) (hw _ (List.mem_of_getElem? (i := 1) rfl)) (by decide)) (by decide)) (by decide)) (by decide)) (hb hby o_d4_1) fun T30 X30 e30 => ?_
  refine o_ifYes (pc := 4) X30 hx 40 (hb hby o_d4_4) ((if0 _ _).trans (teq (by decide : (0 : Int32) = (0 : Int32))).1) (by decide) (by decide) ?_
  refine o_iconst (pc := 40) X30 hx (0 : Int32) (hb hby o_d4_40) rfl ?_
  exact o_retN (pc := 41) X30 hx .boolean hret hlk (by simp) (hb hby o_d4_41) e30 (by decide) (by decide) ⟨rfl, N0, rfl⟩
theorem o_pd2 : parseMethodDescriptor "(JJ)V" = some ⟨[.long, .long], none⟩ := by decide +kernel
theorem o_pd3 : parseMethodDescriptor "(J)Ljava/lang/Long;" = some ⟨[.long], some (.object "java/lang/Long")⟩ := by decide +kernel
theorem o_pd4 : parseMethodDescriptor "(Ljava/lang/Object;)Z" = some ⟨[(.object "java/lang/Object")], some .boolean⟩ := by decide +kernel
theorem o_pn_com_example_retain_retain_session_QueueLimitsEqualsPinLaw : plainName "com/example/retain/retain/session/QueueLimitsEqualsPinLaw" = true := by first | (simp [plainName, overriddenIn]; done) | decide +kernel
set_option maxRecDepth 65536 in
set_option maxHeartbeats 40000000 in
theorem rm0 (l : Launch) (Z : State) (a0 : Array Value) (hw : ∀ d ∈ tables_1, d.before a0 Z = true) (ws : List Jvm.Cond) (q1 q2 q3 q4 : Int64) (p5 : Int32) (wl : Addr) (cl : Cell) (h0 : Heap) (n0 : Nat) (O0 : Old Z n0 h0) (LS : Sta Z Z.heap "java/lang/Long$LongCache" "cache" "[Ljava/lang/Long;" (.ref wl)) (LB : Bxs Z wl cl "java/lang/Long" "J" 256 (fun j => .long (j - 128).toInt64)) :
    Ct l Z x code maxLocals ret room_1 ws #[(.long q1), (.long q2), (.long q3), (.long q4), (.int p5)] h0 (fun v h L => v = some (.int 1) ∧ Fr n0 L) := by
  refine o_body (plainFor_of_name o_pn_com_example_retain_retain_session_QueueLimitsEqualsPinLaw) ?_
  intro p e s m below meth c s₁ X0 hx hby hml hret hlk hown hnm hZ e0
  have N0 := Fr.nil n0
  refine o_top (g' := (mkF m 0 #[.val (.long q1), .second, .val (.long q2), .second, .val (.long q3), .second, .val (.long q4), .second, .val (.int p5), .unset, .unset, .unset, .unset, .unset, .unset, .unset, .unset, .unset, .unset, .unset, .unset] [])) (by first | (simp [entryFrame, mkF, argsToLocals, Value.category, maxLocals]; done) | rfl) ?_
  have tail : ∀ (c5 d5 : Int64), Go p e below s₁ (mkF m 30 #[.val (.long q1), .second, .val (.long q2), .second, .val (.long q3), .second, .val (.long q4), .second, .val (.int p5), .val (.long c5), .second, .val (.long d5), .second, .unset, .unset, .unset, .unset, .unset, .unset, .unset, .unset] []) (Lv s (fun v h L => v = some (.int 1) ∧ Fr n0 L) room_1.cells room_1.slots) := by
    intro c5 d5
    refine o_new (pc := 30) X0 hx hZ hown (hw _ (List.mem_of_getElem? (i := 0) rfl)) (hw _ (List.mem_of_getElem? (i := 1) rfl)) (hw _ (List.mem_of_getElem? (i := 2) rfl)) e0 (hb hby at_30) (by decide) (by decide) fun T31 h31 b31 X31 e31 g31 E31 A31 D31 U31 => ?_
    have O32 := O0.ext E31
    have F31_maxMessages : Fld Z h31 b31 "com/example/retain/retain/session/QueueLimits" "maxMessages" "J" (.long (0 : Int64)) := D31 (Or.inr (hw _ (List.mem_of_getElem? (i := 10) rfl))) (ty := .long) (by decide)
    have F31_maxBytes : Fld Z h31 b31 "com/example/retain/retain/session/QueueLimits" "maxBytes" "J" (.long (0 : Int64)) := D31 (Or.inr (hw _ (List.mem_of_getElem? (i := 12) rfl))) (ty := .long) (by decide)
    refine o_dup (pc := 33) X31 hx (hb hby at_33) rfl ?_
    refine o_lloadN (v := q1) (pc := 34) X31 hx (hb hby at_34) rfl ?_
    refine o_lloadN (v := q2) (pc := 35) X31 hx (hb hby at_35) rfl ?_
    refine o_callN (pc := 36) X31 hx hZ (y := (⟨"com/example/retain/retain/session/QueueLimits", "<init>", "(JJ)V"⟩ : MethodName)) (a := b31) (argsL := [(.long q1), (.long q2)]) (rest := [(.ref b31)]) rfl hown (hw _ (List.mem_of_getElem? (i := 3) rfl)) (hw _ (List.mem_of_getElem? (i := 4) rfl)) (hw _ (List.mem_of_getElem? (i := 2) rfl)) (hw _ (List.mem_of_getElem? (i := 5) rfl)) (by decide) (rm1 l Z a0 hw [] b31 q1 q2 h31 n0 O32 A31 F31_maxMessages F31_maxBytes (Nat.le_trans (o_n0 O0) g31)) e31 (by rw [hml]; rfl) (lenOf o_pd2 rfl) (has := rfl) (hst := rfl) (W := 1) (Nat.le_of_ble_eq_true rfl) (hb hby at_36) (by decide) (by decide) (by decide) (by decide) fun v33 T33 h33 L33 X33 e33 q33 => ?_
    obtain ⟨rfl, N33q, Kc33, Fn33_0, Fn33_1⟩ := q33
    have N33 := Fr.app N0 N33q
    have O34 := O32.keep Kc33 (allS (Nat.le_trans (o_n0 O0) g31) all0)
    show Go p e below T33 (mkF m 39 #[.val (.long q1), .second, .val (.long q2), .second, .val (.long q3), .second, .val (.long q4), .second, .val (.int p5), .val (.long c5), .second, .val (.long d5), .second, .unset, .unset, .unset, .unset, .unset, .unset, .unset, .unset] [(.ref b31)]) _
    refine o_astore (l' := #[.val (.long q1), .second, .val (.long q2), .second, .val (.long q3), .second, .val (.long q4), .second, .val (.int p5), .val (.long c5), .second, .val (.long d5), .second, .val (.ref b31), .unset, .unset, .unset, .unset, .unset, .unset, .unset]) (pc := 39) X33 hx (hb hby at_39) rfl rfl ?_
    refine o_new (pc := 41) X33 hx hZ hown (hw _ (List.mem_of_getElem? (i := 0) rfl)) (hw _ (List.mem_of_getElem? (i := 1) rfl)) (hw _ (List.mem_of_getElem? (i := 2) rfl)) e33 (hb hby at_41) (by decide) (by decide) fun T35 h35 b35 X35 e35 g35 E35 A35 D35 U35 => ?_
    have O36 := O34.ext E35
    have F35_maxMessages : Fld Z h35 b35 "com/example/retain/retain/session/QueueLimits" "maxMessages" "J" (.long (0 : Int64)) := D35 (Or.inr (hw _ (List.mem_of_getElem? (i := 10) rfl))) (ty := .long) (by decide)
    have F35_maxBytes : Fld Z h35 b35 "com/example/retain/retain/session/QueueLimits" "maxBytes" "J" (.long (0 : Int64)) := D35 (Or.inr (hw _ (List.mem_of_getElem? (i := 12) rfl))) (ty := .long) (by decide)
    refine o_dup (pc := 44) X35 hx (hb hby at_44) rfl ?_
    refine o_lload (v := c5) (pc := 45) X35 hx (hb hby at_45) rfl ?_
    refine o_lload (v := d5) (pc := 47) X35 hx (hb hby at_47) rfl ?_
    refine o_callN (pc := 49) X35 hx hZ (y := (⟨"com/example/retain/retain/session/QueueLimits", "<init>", "(JJ)V"⟩ : MethodName)) (a := b35) (argsL := [(.long c5), (.long d5)]) (rest := [(.ref b35)]) rfl hown (hw _ (List.mem_of_getElem? (i := 3) rfl)) (hw _ (List.mem_of_getElem? (i := 4) rfl)) (hw _ (List.mem_of_getElem? (i := 2) rfl)) (hw _ (List.mem_of_getElem? (i := 5) rfl)) (by decide) (rm1 l Z a0 hw [] b35 c5 d5 h35 n0 O36 A35 F35_maxMessages F35_maxBytes (Nat.le_trans (o_n0 O34) g35)) e35 (by rw [hml]; rfl) (lenOf o_pd2 rfl) (has := rfl) (hst := rfl) (W := 1) (Nat.le_of_ble_eq_true rfl) (hb hby at_49) (by decide) (by decide) (by decide) (by decide) fun v37 T37 h37 L37 X37 e37 q37 => ?_
    obtain ⟨rfl, N37q, Kc37, Fn37_0, Fn37_1⟩ := q37
    have N37 := Fr.app N33 N37q
    have O38 := O36.keep Kc37 (allS (Nat.le_trans (o_n0 O34) g35) all0)
    show Go p e below T37 (mkF m 52 #[.val (.long q1), .second, .val (.long q2), .second, .val (.long q3), .second, .val (.long q4), .second, .val (.int p5), .val (.long c5), .second, .val (.long d5), .second, .val (.ref b31), .unset, .unset, .unset, .unset, .unset, .unset, .unset] [(.ref b35)]) _
    refine o_astore (l' := #[.val (.long q1), .second, .val (.long q2), .second, .val (.long q3), .second, .val (.long q4), .second, .val (.int p5), .val (.long c5), .second, .val (.long d5), .second, .val (.ref b31), .val (.ref b35), .unset, .unset, .unset, .unset, .unset, .unset]) (pc := 52) X37 hx (hb hby at_52) rfl rfl ?_
    refine o_lloadN (v := q1) (pc := 54) X37 hx (hb hby at_54) rfl ?_
    refine o_lload (v := c5) (pc := 55) X37 hx (hb hby at_55) rfl ?_
    refine o_lcmp (pc := 57) X37 hx (hb hby at_57) ?_
    by_cases hc39 : (lcmpW q1 c5) = (0 : Int32)
    · skip
      refine o_ifNo (pc := 58) X37 hx (hb hby at_58) ((if0 _ _).trans (teq hc39).2) ?_
      refine o_lloadN (v := q2) (pc := 61) X37 hx (hb hby at_61) rfl ?_
      refine o_lload (v := d5) (pc := 62) X37 hx (hb hby at_62) rfl ?_
      refine o_lcmp (pc := 64) X37 hx (hb hby at_64) ?_
      by_cases hc40 : (lcmpW q2 d5) = (0 : Int32)
      · skip
        refine o_ifNo (pc := 65) X37 hx (hb hby at_65) ((if0 _ _).trans (teq hc40).2) ?_
        refine o_iconst (pc := 68) X37 hx (1 : Int32) (hb hby at_68) rfl ?_
        refine o_goto (pc := 69) X37 hx 73 (hb hby at_69) (by decide) (by decide) ?_
        refine o_istore (l' := #[.val (.long q1), .second, .val (.long q2), .second, .val (.long q3), .second, .val (.long q4), .second, .val (.int p5), .val (.long c5), .second, .val (.long d5), .second, .val (.ref b31), .val (.ref b35), .val (.int (1 : Int32)), .unset, .unset, .unset, .unset, .unset]) (pc := 73) X37 hx (hb hby at_73) rfl ?_
        refine o_iload (v := p5) (pc := 75) X37 hx (hb hby at_75) rfl ?_
        refine o_iconst (pc := 77) X37 hx (4 : Int32) (hb hby at_77) rfl ?_
        refine o_iand (pc := 78) X37 hx (hb hby at_78) ?_
        by_cases hc41 : (p5 &&& (4 : Int32)) = (0 : Int32)
        · skip
          refine o_ifYes (pc := 79) X37 hx 88 (hb hby at_79) ((if0 _ _).trans (teq hc41).1) (by decide) (by decide) ?_
          refine o_lloadN (v := q1) (pc := 88) X37 hx (hb hby at_88) rfl ?_
          refine o_callS (pc := 89) X37 hx hZ (y := (⟨"java/lang/Long", "valueOf", "(J)Ljava/lang/Long;"⟩ : MethodName)) (argsL := [(.long q1)]) (rest := []) hown (hw _ (List.mem_of_getElem? (i := 13) rfl)) (hw _ (List.mem_of_getElem? (i := 14) rfl)) (hw _ (List.mem_of_getElem? (i := 15) rfl)) (hw _ (List.mem_of_getElem? (i := 16) rfl)) (by decide) (rmValueOf l Z a0 hw [] q1 wl cl h37 n0 O38 LS LB) e37 (by rw [hml]; rfl) (lenOf o_pd3 rfl) (has := rfl) (hst := rfl) (W := 0) (Nat.le_of_ble_eq_true rfl) (hb hby at_89) (by decide) (by decide) (by decide) (by decide) fun v42 T42 h42 L42 X42 e42 q42 => ?_
          obtain ⟨b42, rfl, N42q, E42, Ex42, Fx42⟩ := q42
          have N42 := Fr.app N37 N42q
          have O43 := O38.ext E42
          show Go p e below T42 (mkF m 92 #[.val (.long q1), .second, .val (.long q2), .second, .val (.long q3), .second, .val (.long q4), .second, .val (.int p5), .val (.long c5), .second, .val (.long d5), .second, .val (.ref b31), .val (.ref b35), .val (.int (1 : Int32)), .unset, .unset, .unset, .unset, .unset] [(.ref b42)]) _
          refine o_astore (l' := #[.val (.long q1), .second, .val (.long q2), .second, .val (.long q3), .second, .val (.long q4), .second, .val (.int p5), .val (.long c5), .second, .val (.long d5), .second, .val (.ref b31), .val (.ref b35), .val (.int (1 : Int32)), .val (.ref b42), .unset, .unset, .unset, .unset]) (pc := 92) X42 hx (hb hby at_92) rfl rfl ?_
          refine o_aload (v := (.ref b31)) (pc := 94) X42 hx (hb hby at_94) rfl rfl ?_
          refine o_aload (v := (.ref b35)) (pc := 96) X42 hx (hb hby at_96) rfl rfl ?_
          refine o_callV (pc := 98) X42 hx hZ (y := (⟨"com/example/retain/retain/session/QueueLimits", "equals", "(Ljava/lang/Object;)Z"⟩ : MethodName)) (z := (⟨"com/example/retain/retain/session/QueueLimits", "equals", "(Ljava/lang/Object;)Z"⟩ : MethodName)) (C := "com/example/retain/retain/session/QueueLimits") (a := b31) (argsL := [(.ref b35)]) (rest := []) hown (hw _ (List.mem_of_getElem? (i := 21) rfl)) (hw _ (List.mem_of_getElem? (i := 22) rfl)) (notFace_of_selects (args := #[]) (mvT hZ (hw _ (List.mem_of_getElem? (i := 24) rfl)))) (hw _ (List.mem_of_getElem? (i := 24) rfl)) (hw _ (List.mem_of_getElem? (i := 23) rfl)) (hw _ (List.mem_of_getElem? (i := 2) rfl)) (hw _ (List.mem_of_getElem? (i := 25) rfl)) (by decide) (rm4q l Z a0 hw [] b31 b35 q1 q2 c5 d5 h42 n0 O43 ((A35.keep Kc37).ext E42) (((Fn33_0.ext E35).keep Kc37 (ninS (Nat.ne_of_lt (Nat.lt_of_lt_of_le (A31.keep Kc33).lt g35)) nin0)).ext E42) (((Fn33_1.ext E35).keep Kc37 (ninS (Nat.ne_of_lt (Nat.lt_of_lt_of_le (A31.keep Kc33).lt g35)) nin0)).ext E42) (Fn37_0.ext E42) (Fn37_1.ext E42)) e42 ((((A31.keep Kc33).ext E35).keep Kc37).ext E42) (by rw [hml]; rfl) (lenOf o_pd4 rfl) (has := rfl) (hst := rfl) (W := 0) (Nat.le_of_ble_eq_true rfl) (hb hby at_98) (by decide) (by decide) (by decide) (by decide) fun v44 T44 h44 L44 X44 e44 q44 => ?_
          obtain ⟨rfl, N44q, rfl⟩ := q44
          have N44 := Fr.app N42 N44q
          show Go p e below T44 (mkF m 101 #[.val (.long q1), .second, .val (.long q2), .second, .val (.long q3), .second, .val (.long q4), .second, .val (.int p5), .val (.long c5), .second, .val (.long d5), .second, .val (.ref b31), .val (.ref b35), .val (.int (1 : Int32)), .val (.ref b42), .unset, .unset, .unset, .unset] [(.int (if c5 = q1 ∧ d5 = q2 then 1 else 0))]) _
          refine o_istore (l' := #[.val (.long q1), .second, .val (.long q2), .second, .val (.long q3), .second, .val (.long q4), .second, .val (.int p5), .val (.long c5), .second, .val (.long d5), .second, .val (.ref b31), .val (.ref b35), .val (.int (1 : Int32)), .val (.ref b42), .val (.int (if c5 = q1 ∧ d5 = q2 then 1 else 0)), .unset, .unset, .unset]) (pc := 101) X44 hx (hb hby at_101) rfl ?_
          refine o_aload (v := (.ref b35)) (pc := 103) X44 hx (hb hby at_103) rfl rfl ?_
          refine o_aload (v := (.ref b31)) (pc := 105) X44 hx (hb hby at_105) rfl rfl ?_
          refine o_callV (pc := 107) X44 hx hZ (y := (⟨"com/example/retain/retain/session/QueueLimits", "equals", "(Ljava/lang/Object;)Z"⟩ : MethodName)) (z := (⟨"com/example/retain/retain/session/QueueLimits", "equals", "(Ljava/lang/Object;)Z"⟩ : MethodName)) (C := "com/example/retain/retain/session/QueueLimits") (a := b35) (argsL := [(.ref b31)]) (rest := []) hown (hw _ (List.mem_of_getElem? (i := 21) rfl)) (hw _ (List.mem_of_getElem? (i := 22) rfl)) (notFace_of_selects (args := #[]) (mvT hZ (hw _ (List.mem_of_getElem? (i := 24) rfl)))) (hw _ (List.mem_of_getElem? (i := 24) rfl)) (hw _ (List.mem_of_getElem? (i := 23) rfl)) (hw _ (List.mem_of_getElem? (i := 2) rfl)) (hw _ (List.mem_of_getElem? (i := 25) rfl)) (by decide) (rm4q l Z a0 hw [] b35 b31 c5 d5 q1 q2 h42 n0 O43 ((((A31.keep Kc33).ext E35).keep Kc37).ext E42) (Fn37_0.ext E42) (Fn37_1.ext E42) (((Fn33_0.ext E35).keep Kc37 (ninS (Nat.ne_of_lt (Nat.lt_of_lt_of_le (A31.keep Kc33).lt g35)) nin0)).ext E42) (((Fn33_1.ext E35).keep Kc37 (ninS (Nat.ne_of_lt (Nat.lt_of_lt_of_le (A31.keep Kc33).lt g35)) nin0)).ext E42)) e44 ((A35.keep Kc37).ext E42) (by rw [hml]; rfl) (lenOf o_pd4 rfl) (has := rfl) (hst := rfl) (W := 0) (Nat.le_of_ble_eq_true rfl) (hb hby at_107) (by decide) (by decide) (by decide) (by decide) fun v45 T45 h45 L45 X45 e45 q45 => ?_
          obtain ⟨rfl, N45q, rfl⟩ := q45
          have N45 := Fr.app N44 N45q
          show Go p e below T45 (mkF m 110 #[.val (.long q1), .second, .val (.long q2), .second, .val (.long q3), .second, .val (.long q4), .second, .val (.int p5), .val (.long c5), .second, .val (.long d5), .second, .val (.ref b31), .val (.ref b35), .val (.int (1 : Int32)), .val (.ref b42), .val (.int (if c5 = q1 ∧ d5 = q2 then 1 else 0)), .unset, .unset, .unset] [(.int (if q1 = c5 ∧ q2 = d5 then 1 else 0))]) _
          refine o_istore (l' := #[.val (.long q1), .second, .val (.long q2), .second, .val (.long q3), .second, .val (.long q4), .second, .val (.int p5), .val (.long c5), .second, .val (.long d5), .second, .val (.ref b31), .val (.ref b35), .val (.int (1 : Int32)), .val (.ref b42), .val (.int (if c5 = q1 ∧ d5 = q2 then 1 else 0)), .val (.int (if q1 = c5 ∧ q2 = d5 then 1 else 0)), .unset, .unset]) (pc := 110) X45 hx (hb hby at_110) rfl ?_
          refine o_aload (v := (.ref b31)) (pc := 112) X45 hx (hb hby at_112) rfl rfl ?_
          refine o_aload (v := (.ref b31)) (pc := 114) X45 hx (hb hby at_114) rfl rfl ?_
          refine o_callV (pc := 116) X45 hx hZ (y := (⟨"com/example/retain/retain/session/QueueLimits", "equals", "(Ljava/lang/Object;)Z"⟩ : MethodName)) (z := (⟨"com/example/retain/retain/session/QueueLimits", "equals", "(Ljava/lang/Object;)Z"⟩ : MethodName)) (C := "com/example/retain/retain/session/QueueLimits") (a := b31) (argsL := [(.ref b31)]) (rest := []) hown (hw _ (List.mem_of_getElem? (i := 21) rfl)) (hw _ (List.mem_of_getElem? (i := 22) rfl)) (notFace_of_selects (args := #[]) (mvT hZ (hw _ (List.mem_of_getElem? (i := 24) rfl)))) (hw _ (List.mem_of_getElem? (i := 24) rfl)) (hw _ (List.mem_of_getElem? (i := 23) rfl)) (hw _ (List.mem_of_getElem? (i := 2) rfl)) (hw _ (List.mem_of_getElem? (i := 25) rfl)) (by decide) (rm4q l Z a0 hw [] b31 b31 q1 q2 q1 q2 h42 n0 O43 ((((A31.keep Kc33).ext E35).keep Kc37).ext E42) (((Fn33_0.ext E35).keep Kc37 (ninS (Nat.ne_of_lt (Nat.lt_of_lt_of_le (A31.keep Kc33).lt g35)) nin0)).ext E42) (((Fn33_1.ext E35).keep Kc37 (ninS (Nat.ne_of_lt (Nat.lt_of_lt_of_le (A31.keep Kc33).lt g35)) nin0)).ext E42) (((Fn33_0.ext E35).keep Kc37 (ninS (Nat.ne_of_lt (Nat.lt_of_lt_of_le (A31.keep Kc33).lt g35)) nin0)).ext E42) (((Fn33_1.ext E35).keep Kc37 (ninS (Nat.ne_of_lt (Nat.lt_of_lt_of_le (A31.keep Kc33).lt g35)) nin0)).ext E42)) e45 ((((A31.keep Kc33).ext E35).keep Kc37).ext E42) (by rw [hml]; rfl) (lenOf o_pd4 rfl) (has := rfl) (hst := rfl) (W := 0) (Nat.le_of_ble_eq_true rfl) (hb hby at_116) (by decide) (by decide) (by decide) (by decide) fun v46 T46 h46 L46 X46 e46 q46 => ?_
          obtain ⟨rfl, N46q, rfl⟩ := q46
          have N46 := Fr.app N45 N46q
          show Go p e below T46 (mkF m 119 #[.val (.long q1), .second, .val (.long q2), .second, .val (.long q3), .second, .val (.long q4), .second, .val (.int p5), .val (.long c5), .second, .val (.long d5), .second, .val (.ref b31), .val (.ref b35), .val (.int (1 : Int32)), .val (.ref b42), .val (.int (if c5 = q1 ∧ d5 = q2 then 1 else 0)), .val (.int (if q1 = c5 ∧ q2 = d5 then 1 else 0)), .unset, .unset] [(.int (if q1 = q1 ∧ q2 = q2 then 1 else 0))]) _
          refine o_istore (l' := #[.val (.long q1), .second, .val (.long q2), .second, .val (.long q3), .second, .val (.long q4), .second, .val (.int p5), .val (.long c5), .second, .val (.long d5), .second, .val (.ref b31), .val (.ref b35), .val (.int (1 : Int32)), .val (.ref b42), .val (.int (if c5 = q1 ∧ d5 = q2 then 1 else 0)), .val (.int (if q1 = c5 ∧ q2 = d5 then 1 else 0)), .val (.int (if q1 = q1 ∧ q2 = q2 then 1 else 0)), .unset]) (pc := 119) X46 hx (hb hby at_119) rfl ?_
          refine o_aload (v := (.ref b31)) (pc := 121) X46 hx (hb hby at_121) rfl rfl ?_
          refine o_aload (v := (.ref b42)) (pc := 123) X46 hx (hb hby at_123) rfl rfl ?_
          refine o_callV (pc := 125) X46 hx hZ (y := (⟨"com/example/retain/retain/session/QueueLimits", "equals", "(Ljava/lang/Object;)Z"⟩ : MethodName)) (z := (⟨"com/example/retain/retain/session/QueueLimits", "equals", "(Ljava/lang/Object;)Z"⟩ : MethodName)) (C := "com/example/retain/retain/session/QueueLimits") (a := b31) (argsL := [(.ref b42)]) (rest := []) hown (hw _ (List.mem_of_getElem? (i := 21) rfl)) (hw _ (List.mem_of_getElem? (i := 22) rfl)) (notFace_of_selects (args := #[]) (mvT hZ (hw _ (List.mem_of_getElem? (i := 24) rfl)))) (hw _ (List.mem_of_getElem? (i := 24) rfl)) (hw _ (List.mem_of_getElem? (i := 23) rfl)) (hw _ (List.mem_of_getElem? (i := 2) rfl)) (hw _ (List.mem_of_getElem? (i := 25) rfl)) (by decide) (rm4l l Z a0 hw [] b31 b42 h42 n0 O43 Ex42) e46 ((((A31.keep Kc33).ext E35).keep Kc37).ext E42) (by rw [hml]; rfl) (lenOf o_pd4 rfl) (has := rfl) (hst := rfl) (W := 0) (Nat.le_of_ble_eq_true rfl) (hb hby at_125) (by decide) (by decide) (by decide) (by decide) fun v47 T47 h47 L47 X47 e47 q47 => ?_
          obtain ⟨rfl, N47q, rfl⟩ := q47
          have N47 := Fr.app N46 N47q
          show Go p e below T47 (mkF m 128 #[.val (.long q1), .second, .val (.long q2), .second, .val (.long q3), .second, .val (.long q4), .second, .val (.int p5), .val (.long c5), .second, .val (.long d5), .second, .val (.ref b31), .val (.ref b35), .val (.int (1 : Int32)), .val (.ref b42), .val (.int (if c5 = q1 ∧ d5 = q2 then 1 else 0)), .val (.int (if q1 = c5 ∧ q2 = d5 then 1 else 0)), .val (.int (if q1 = q1 ∧ q2 = q2 then 1 else 0)), .unset] [(.int (0 : Int32))]) _
          refine o_istore (l' := #[.val (.long q1), .second, .val (.long q2), .second, .val (.long q3), .second, .val (.long q4), .second, .val (.int p5), .val (.long c5), .second, .val (.long d5), .second, .val (.ref b31), .val (.ref b35), .val (.int (1 : Int32)), .val (.ref b42), .val (.int (if c5 = q1 ∧ d5 = q2 then 1 else 0)), .val (.int (if q1 = c5 ∧ q2 = d5 then 1 else 0)), .val (.int (if q1 = q1 ∧ q2 = q2 then 1 else 0)), .val (.int (0 : Int32))]) (pc := 128) X47 hx (hb hby at_128) rfl ?_
          refine o_iload (v := (if c5 = q1 ∧ d5 = q2 then 1 else 0)) (pc := 130) X47 hx (hb hby at_130) rfl ?_
          refine o_iload (v := (1 : Int32)) (pc := 132) X47 hx (hb hby at_132) rfl ?_
          refine o_icmpNo (pc := 134) X47 hx (hb hby at_134) (teq (if_pos ⟨((lw_eq _ _).mp hc39).symm, ((lw_eq _ _).mp hc40).symm⟩ : (if c5 = q1 ∧ d5 = q2 then 1 else 0) = (1 : Int32))).2 ?_
          refine o_iload (v := (if q1 = c5 ∧ q2 = d5 then 1 else 0)) (pc := 137) X47 hx (hb hby at_137) rfl ?_
          refine o_iload (v := (1 : Int32)) (pc := 139) X47 hx (hb hby at_139) rfl ?_
          refine o_icmpNo (pc := 141) X47 hx (hb hby at_141) (teq (if_pos ⟨((lw_eq _ _).mp hc39), ((lw_eq _ _).mp hc40)⟩ : (if q1 = c5 ∧ q2 = d5 then 1 else 0) = (1 : Int32))).2 ?_
          refine o_iload (v := (if q1 = q1 ∧ q2 = q2 then 1 else 0)) (pc := 144) X47 hx (hb hby at_144) rfl ?_
          refine o_ifNo (pc := 146) X47 hx (hb hby at_146) ((if0 _ _).trans (feq (by rw [if_pos ⟨rfl, rfl⟩]; decide : ¬ ((if q1 = q1 ∧ q2 = q2 then 1 else 0) = (0 : Int32)))).1) ?_
          refine o_iload (v := (0 : Int32)) (pc := 149) X47 hx (hb hby at_149) rfl ?_
          refine o_ifNo (pc := 151) X47 hx (hb hby at_151) ((if0 _ _).trans (teq (by decide : (0 : Int32) = (0 : Int32))).2) ?_
          refine o_iconst (pc := 154) X47 hx (1 : Int32) (hb hby at_154) rfl ?_
          refine o_goto (pc := 155) X47 hx 159 (hb hby at_155) (by decide) (by decide) ?_
          exact o_retN (pc := 159) X47 hx .boolean hret hlk (by simp) (hb hby at_159) e47 (by decide) (by decide) ⟨rfl, N47⟩
        · skip
          refine o_ifNo (pc := 79) X37 hx (hb hby at_79) ((if0 _ _).trans (feq hc41).1) ?_
          refine o_aconst_null (pc := 82) X37 hx (hb hby at_82) ?_
          refine o_astore (l' := #[.val (.long q1), .second, .val (.long q2), .second, .val (.long q3), .second, .val (.long q4), .second, .val (.int p5), .val (.long c5), .second, .val (.long d5), .second, .val (.ref b31), .val (.ref b35), .val (.int (1 : Int32)), .val .null, .unset, .unset, .unset, .unset]) (pc := 83) X37 hx (hb hby at_83) rfl rfl ?_
          refine o_goto (pc := 85) X37 hx 94 (hb hby at_85) (by decide) (by decide) ?_
          refine o_aload (v := (.ref b31)) (pc := 94) X37 hx (hb hby at_94) rfl rfl ?_
          refine o_aload (v := (.ref b35)) (pc := 96) X37 hx (hb hby at_96) rfl rfl ?_
          refine o_callV (pc := 98) X37 hx hZ (y := (⟨"com/example/retain/retain/session/QueueLimits", "equals", "(Ljava/lang/Object;)Z"⟩ : MethodName)) (z := (⟨"com/example/retain/retain/session/QueueLimits", "equals", "(Ljava/lang/Object;)Z"⟩ : MethodName)) (C := "com/example/retain/retain/session/QueueLimits") (a := b31) (argsL := [(.ref b35)]) (rest := []) hown (hw _ (List.mem_of_getElem? (i := 21) rfl)) (hw _ (List.mem_of_getElem? (i := 22) rfl)) (notFace_of_selects (args := #[]) (mvT hZ (hw _ (List.mem_of_getElem? (i := 24) rfl)))) (hw _ (List.mem_of_getElem? (i := 24) rfl)) (hw _ (List.mem_of_getElem? (i := 23) rfl)) (hw _ (List.mem_of_getElem? (i := 2) rfl)) (hw _ (List.mem_of_getElem? (i := 25) rfl)) (by decide) (rm4q l Z a0 hw [] b31 b35 q1 q2 c5 d5 h37 n0 O38 (A35.keep Kc37) ((Fn33_0.ext E35).keep Kc37 (ninS (Nat.ne_of_lt (Nat.lt_of_lt_of_le (A31.keep Kc33).lt g35)) nin0)) ((Fn33_1.ext E35).keep Kc37 (ninS (Nat.ne_of_lt (Nat.lt_of_lt_of_le (A31.keep Kc33).lt g35)) nin0)) Fn37_0 Fn37_1) e37 (((A31.keep Kc33).ext E35).keep Kc37) (by rw [hml]; rfl) (lenOf o_pd4 rfl) (has := rfl) (hst := rfl) (W := 0) (Nat.le_of_ble_eq_true rfl) (hb hby at_98) (by decide) (by decide) (by decide) (by decide) fun v48 T48 h48 L48 X48 e48 q48 => ?_
          obtain ⟨rfl, N48q, rfl⟩ := q48
          have N48 := Fr.app N37 N48q
          show Go p e below T48 (mkF m 101 #[.val (.long q1), .second, .val (.long q2), .second, .val (.long q3), .second, .val (.long q4), .second, .val (.int p5), .val (.long c5), .second, .val (.long d5), .second, .val (.ref b31), .val (.ref b35), .val (.int (1 : Int32)), .val .null, .unset, .unset, .unset, .unset] [(.int (if c5 = q1 ∧ d5 = q2 then 1 else 0))]) _
          refine o_istore (l' := #[.val (.long q1), .second, .val (.long q2), .second, .val (.long q3), .second, .val (.long q4), .second, .val (.int p5), .val (.long c5), .second, .val (.long d5), .second, .val (.ref b31), .val (.ref b35), .val (.int (1 : Int32)), .val .null, .val (.int (if c5 = q1 ∧ d5 = q2 then 1 else 0)), .unset, .unset, .unset]) (pc := 101) X48 hx (hb hby at_101) rfl ?_
          refine o_aload (v := (.ref b35)) (pc := 103) X48 hx (hb hby at_103) rfl rfl ?_
          refine o_aload (v := (.ref b31)) (pc := 105) X48 hx (hb hby at_105) rfl rfl ?_
          refine o_callV (pc := 107) X48 hx hZ (y := (⟨"com/example/retain/retain/session/QueueLimits", "equals", "(Ljava/lang/Object;)Z"⟩ : MethodName)) (z := (⟨"com/example/retain/retain/session/QueueLimits", "equals", "(Ljava/lang/Object;)Z"⟩ : MethodName)) (C := "com/example/retain/retain/session/QueueLimits") (a := b35) (argsL := [(.ref b31)]) (rest := []) hown (hw _ (List.mem_of_getElem? (i := 21) rfl)) (hw _ (List.mem_of_getElem? (i := 22) rfl)) (notFace_of_selects (args := #[]) (mvT hZ (hw _ (List.mem_of_getElem? (i := 24) rfl)))) (hw _ (List.mem_of_getElem? (i := 24) rfl)) (hw _ (List.mem_of_getElem? (i := 23) rfl)) (hw _ (List.mem_of_getElem? (i := 2) rfl)) (hw _ (List.mem_of_getElem? (i := 25) rfl)) (by decide) (rm4q l Z a0 hw [] b35 b31 c5 d5 q1 q2 h37 n0 O38 (((A31.keep Kc33).ext E35).keep Kc37) Fn37_0 Fn37_1 ((Fn33_0.ext E35).keep Kc37 (ninS (Nat.ne_of_lt (Nat.lt_of_lt_of_le (A31.keep Kc33).lt g35)) nin0)) ((Fn33_1.ext E35).keep Kc37 (ninS (Nat.ne_of_lt (Nat.lt_of_lt_of_le (A31.keep Kc33).lt g35)) nin0))) e48 (A35.keep Kc37) (by rw [hml]; rfl) (lenOf o_pd4 rfl) (has := rfl) (hst := rfl) (W := 0) (Nat.le_of_ble_eq_true rfl) (hb hby at_107) (by decide) (by decide) (by decide) (by decide) fun v49 T49 h49 L49 X49 e49 q49 => ?_
          obtain ⟨rfl, N49q, rfl⟩ := q49
          have N49 := Fr.app N48 N49q
          show Go p e below T49 (mkF m 110 #[.val (.long q1), .second, .val (.long q2), .second, .val (.long q3), .second, .val (.long q4), .second, .val (.int p5), .val (.long c5), .second, .val (.long d5), .second, .val (.ref b31), .val (.ref b35), .val (.int (1 : Int32)), .val .null, .val (.int (if c5 = q1 ∧ d5 = q2 then 1 else 0)), .unset, .unset, .unset] [(.int (if q1 = c5 ∧ q2 = d5 then 1 else 0))]) _
          refine o_istore (l' := #[.val (.long q1), .second, .val (.long q2), .second, .val (.long q3), .second, .val (.long q4), .second, .val (.int p5), .val (.long c5), .second, .val (.long d5), .second, .val (.ref b31), .val (.ref b35), .val (.int (1 : Int32)), .val .null, .val (.int (if c5 = q1 ∧ d5 = q2 then 1 else 0)), .val (.int (if q1 = c5 ∧ q2 = d5 then 1 else 0)), .unset, .unset]) (pc := 110) X49 hx (hb hby at_110) rfl ?_
          refine o_aload (v := (.ref b31)) (pc := 112) X49 hx (hb hby at_112) rfl rfl ?_
          refine o_aload (v := (.ref b31)) (pc := 114) X49 hx (hb hby at_114) rfl rfl ?_
          refine o_callV (pc := 116) X49 hx hZ (y := (⟨"com/example/retain/retain/session/QueueLimits", "equals", "(Ljava/lang/Object;)Z"⟩ : MethodName)) (z := (⟨"com/example/retain/retain/session/QueueLimits", "equals", "(Ljava/lang/Object;)Z"⟩ : MethodName)) (C := "com/example/retain/retain/session/QueueLimits") (a := b31) (argsL := [(.ref b31)]) (rest := []) hown (hw _ (List.mem_of_getElem? (i := 21) rfl)) (hw _ (List.mem_of_getElem? (i := 22) rfl)) (notFace_of_selects (args := #[]) (mvT hZ (hw _ (List.mem_of_getElem? (i := 24) rfl)))) (hw _ (List.mem_of_getElem? (i := 24) rfl)) (hw _ (List.mem_of_getElem? (i := 23) rfl)) (hw _ (List.mem_of_getElem? (i := 2) rfl)) (hw _ (List.mem_of_getElem? (i := 25) rfl)) (by decide) (rm4q l Z a0 hw [] b31 b31 q1 q2 q1 q2 h37 n0 O38 (((A31.keep Kc33).ext E35).keep Kc37) ((Fn33_0.ext E35).keep Kc37 (ninS (Nat.ne_of_lt (Nat.lt_of_lt_of_le (A31.keep Kc33).lt g35)) nin0)) ((Fn33_1.ext E35).keep Kc37 (ninS (Nat.ne_of_lt (Nat.lt_of_lt_of_le (A31.keep Kc33).lt g35)) nin0)) ((Fn33_0.ext E35).keep Kc37 (ninS (Nat.ne_of_lt (Nat.lt_of_lt_of_le (A31.keep Kc33).lt g35)) nin0)) ((Fn33_1.ext E35).keep Kc37 (ninS (Nat.ne_of_lt (Nat.lt_of_lt_of_le (A31.keep Kc33).lt g35)) nin0))) e49 (((A31.keep Kc33).ext E35).keep Kc37) (by rw [hml]; rfl) (lenOf o_pd4 rfl) (has := rfl) (hst := rfl) (W := 0) (Nat.le_of_ble_eq_true rfl) (hb hby at_116) (by decide) (by decide) (by decide) (by decide) fun v50 T50 h50 L50 X50 e50 q50 => ?_
          obtain ⟨rfl, N50q, rfl⟩ := q50
          have N50 := Fr.app N49 N50q
          show Go p e below T50 (mkF m 119 #[.val (.long q1), .second, .val (.long q2), .second, .val (.long q3), .second, .val (.long q4), .second, .val (.int p5), .val (.long c5), .second, .val (.long d5), .second, .val (.ref b31), .val (.ref b35), .val (.int (1 : Int32)), .val .null, .val (.int (if c5 = q1 ∧ d5 = q2 then 1 else 0)), .val (.int (if q1 = c5 ∧ q2 = d5 then 1 else 0)), .unset, .unset] [(.int (if q1 = q1 ∧ q2 = q2 then 1 else 0))]) _
          refine o_istore (l' := #[.val (.long q1), .second, .val (.long q2), .second, .val (.long q3), .second, .val (.long q4), .second, .val (.int p5), .val (.long c5), .second, .val (.long d5), .second, .val (.ref b31), .val (.ref b35), .val (.int (1 : Int32)), .val .null, .val (.int (if c5 = q1 ∧ d5 = q2 then 1 else 0)), .val (.int (if q1 = c5 ∧ q2 = d5 then 1 else 0)), .val (.int (if q1 = q1 ∧ q2 = q2 then 1 else 0)), .unset]) (pc := 119) X50 hx (hb hby at_119) rfl ?_
          refine o_aload (v := (.ref b31)) (pc := 121) X50 hx (hb hby at_121) rfl rfl ?_
          refine o_aload (v := .null) (pc := 123) X50 hx (hb hby at_123) rfl rfl ?_
          refine o_callV (pc := 125) X50 hx hZ (y := (⟨"com/example/retain/retain/session/QueueLimits", "equals", "(Ljava/lang/Object;)Z"⟩ : MethodName)) (z := (⟨"com/example/retain/retain/session/QueueLimits", "equals", "(Ljava/lang/Object;)Z"⟩ : MethodName)) (C := "com/example/retain/retain/session/QueueLimits") (a := b31) (argsL := [.null]) (rest := []) hown (hw _ (List.mem_of_getElem? (i := 21) rfl)) (hw _ (List.mem_of_getElem? (i := 22) rfl)) (notFace_of_selects (args := #[]) (mvT hZ (hw _ (List.mem_of_getElem? (i := 24) rfl)))) (hw _ (List.mem_of_getElem? (i := 24) rfl)) (hw _ (List.mem_of_getElem? (i := 23) rfl)) (hw _ (List.mem_of_getElem? (i := 2) rfl)) (hw _ (List.mem_of_getElem? (i := 25) rfl)) (by decide) (rm4n l Z a0 hw [] b31 h37 n0 O38) e50 (((A31.keep Kc33).ext E35).keep Kc37) (by rw [hml]; rfl) (lenOf o_pd4 rfl) (has := rfl) (hst := rfl) (W := 0) (Nat.le_of_ble_eq_true rfl) (hb hby at_125) (by decide) (by decide) (by decide) (by decide) fun v51 T51 h51 L51 X51 e51 q51 => ?_
          obtain ⟨rfl, N51q, rfl⟩ := q51
          have N51 := Fr.app N50 N51q
          show Go p e below T51 (mkF m 128 #[.val (.long q1), .second, .val (.long q2), .second, .val (.long q3), .second, .val (.long q4), .second, .val (.int p5), .val (.long c5), .second, .val (.long d5), .second, .val (.ref b31), .val (.ref b35), .val (.int (1 : Int32)), .val .null, .val (.int (if c5 = q1 ∧ d5 = q2 then 1 else 0)), .val (.int (if q1 = c5 ∧ q2 = d5 then 1 else 0)), .val (.int (if q1 = q1 ∧ q2 = q2 then 1 else 0)), .unset] [(.int (0 : Int32))]) _
          refine o_istore (l' := #[.val (.long q1), .second, .val (.long q2), .second, .val (.long q3), .second, .val (.long q4), .second, .val (.int p5), .val (.long c5), .second, .val (.long d5), .second, .val (.ref b31), .val (.ref b35), .val (.int (1 : Int32)), .val .null, .val (.int (if c5 = q1 ∧ d5 = q2 then 1 else 0)), .val (.int (if q1 = c5 ∧ q2 = d5 then 1 else 0)), .val (.int (if q1 = q1 ∧ q2 = q2 then 1 else 0)), .val (.int (0 : Int32))]) (pc := 128) X51 hx (hb hby at_128) rfl ?_
          refine o_iload (v := (if c5 = q1 ∧ d5 = q2 then 1 else 0)) (pc := 130) X51 hx (hb hby at_130) rfl ?_
          refine o_iload (v := (1 : Int32)) (pc := 132) X51 hx (hb hby at_132) rfl ?_
          refine o_icmpNo (pc := 134) X51 hx (hb hby at_134) (teq (if_pos ⟨((lw_eq _ _).mp hc39).symm, ((lw_eq _ _).mp hc40).symm⟩ : (if c5 = q1 ∧ d5 = q2 then 1 else 0) = (1 : Int32))).2 ?_
          refine o_iload (v := (if q1 = c5 ∧ q2 = d5 then 1 else 0)) (pc := 137) X51 hx (hb hby at_137) rfl ?_
          refine o_iload (v := (1 : Int32)) (pc := 139) X51 hx (hb hby at_139) rfl ?_
          refine o_icmpNo (pc := 141) X51 hx (hb hby at_141) (teq (if_pos ⟨((lw_eq _ _).mp hc39), ((lw_eq _ _).mp hc40)⟩ : (if q1 = c5 ∧ q2 = d5 then 1 else 0) = (1 : Int32))).2 ?_
          refine o_iload (v := (if q1 = q1 ∧ q2 = q2 then 1 else 0)) (pc := 144) X51 hx (hb hby at_144) rfl ?_
          refine o_ifNo (pc := 146) X51 hx (hb hby at_146) ((if0 _ _).trans (feq (by rw [if_pos ⟨rfl, rfl⟩]; decide : ¬ ((if q1 = q1 ∧ q2 = q2 then 1 else 0) = (0 : Int32)))).1) ?_
          refine o_iload (v := (0 : Int32)) (pc := 149) X51 hx (hb hby at_149) rfl ?_
          refine o_ifNo (pc := 151) X51 hx (hb hby at_151) ((if0 _ _).trans (teq (by decide : (0 : Int32) = (0 : Int32))).2) ?_
          refine o_iconst (pc := 154) X51 hx (1 : Int32) (hb hby at_154) rfl ?_
          refine o_goto (pc := 155) X51 hx 159 (hb hby at_155) (by decide) (by decide) ?_
          exact o_retN (pc := 159) X51 hx .boolean hret hlk (by simp) (hb hby at_159) e51 (by decide) (by decide) ⟨rfl, N51⟩
      · skip
        refine o_ifYes (pc := 65) X37 hx 72 (hb hby at_65) ((if0 _ _).trans (feq hc40).2) (by decide) (by decide) ?_
        refine o_iconst (pc := 72) X37 hx (0 : Int32) (hb hby at_72) rfl ?_
        refine o_istore (l' := #[.val (.long q1), .second, .val (.long q2), .second, .val (.long q3), .second, .val (.long q4), .second, .val (.int p5), .val (.long c5), .second, .val (.long d5), .second, .val (.ref b31), .val (.ref b35), .val (.int (0 : Int32)), .unset, .unset, .unset, .unset, .unset]) (pc := 73) X37 hx (hb hby at_73) rfl ?_
        refine o_iload (v := p5) (pc := 75) X37 hx (hb hby at_75) rfl ?_
        refine o_iconst (pc := 77) X37 hx (4 : Int32) (hb hby at_77) rfl ?_
        refine o_iand (pc := 78) X37 hx (hb hby at_78) ?_
        by_cases hc52 : (p5 &&& (4 : Int32)) = (0 : Int32)
        · skip
          refine o_ifYes (pc := 79) X37 hx 88 (hb hby at_79) ((if0 _ _).trans (teq hc52).1) (by decide) (by decide) ?_
          refine o_lloadN (v := q1) (pc := 88) X37 hx (hb hby at_88) rfl ?_
          refine o_callS (pc := 89) X37 hx hZ (y := (⟨"java/lang/Long", "valueOf", "(J)Ljava/lang/Long;"⟩ : MethodName)) (argsL := [(.long q1)]) (rest := []) hown (hw _ (List.mem_of_getElem? (i := 13) rfl)) (hw _ (List.mem_of_getElem? (i := 14) rfl)) (hw _ (List.mem_of_getElem? (i := 15) rfl)) (hw _ (List.mem_of_getElem? (i := 16) rfl)) (by decide) (rmValueOf l Z a0 hw [] q1 wl cl h37 n0 O38 LS LB) e37 (by rw [hml]; rfl) (lenOf o_pd3 rfl) (has := rfl) (hst := rfl) (W := 0) (Nat.le_of_ble_eq_true rfl) (hb hby at_89) (by decide) (by decide) (by decide) (by decide) fun v53 T53 h53 L53 X53 e53 q53 => ?_
          obtain ⟨b53, rfl, N53q, E53, Ex53, Fx53⟩ := q53
          have N53 := Fr.app N37 N53q
          have O54 := O38.ext E53
          show Go p e below T53 (mkF m 92 #[.val (.long q1), .second, .val (.long q2), .second, .val (.long q3), .second, .val (.long q4), .second, .val (.int p5), .val (.long c5), .second, .val (.long d5), .second, .val (.ref b31), .val (.ref b35), .val (.int (0 : Int32)), .unset, .unset, .unset, .unset, .unset] [(.ref b53)]) _
          refine o_astore (l' := #[.val (.long q1), .second, .val (.long q2), .second, .val (.long q3), .second, .val (.long q4), .second, .val (.int p5), .val (.long c5), .second, .val (.long d5), .second, .val (.ref b31), .val (.ref b35), .val (.int (0 : Int32)), .val (.ref b53), .unset, .unset, .unset, .unset]) (pc := 92) X53 hx (hb hby at_92) rfl rfl ?_
          refine o_aload (v := (.ref b31)) (pc := 94) X53 hx (hb hby at_94) rfl rfl ?_
          refine o_aload (v := (.ref b35)) (pc := 96) X53 hx (hb hby at_96) rfl rfl ?_
          refine o_callV (pc := 98) X53 hx hZ (y := (⟨"com/example/retain/retain/session/QueueLimits", "equals", "(Ljava/lang/Object;)Z"⟩ : MethodName)) (z := (⟨"com/example/retain/retain/session/QueueLimits", "equals", "(Ljava/lang/Object;)Z"⟩ : MethodName)) (C := "com/example/retain/retain/session/QueueLimits") (a := b31) (argsL := [(.ref b35)]) (rest := []) hown (hw _ (List.mem_of_getElem? (i := 21) rfl)) (hw _ (List.mem_of_getElem? (i := 22) rfl)) (notFace_of_selects (args := #[]) (mvT hZ (hw _ (List.mem_of_getElem? (i := 24) rfl)))) (hw _ (List.mem_of_getElem? (i := 24) rfl)) (hw _ (List.mem_of_getElem? (i := 23) rfl)) (hw _ (List.mem_of_getElem? (i := 2) rfl)) (hw _ (List.mem_of_getElem? (i := 25) rfl)) (by decide) (rm4q l Z a0 hw [] b31 b35 q1 q2 c5 d5 h53 n0 O54 ((A35.keep Kc37).ext E53) (((Fn33_0.ext E35).keep Kc37 (ninS (Nat.ne_of_lt (Nat.lt_of_lt_of_le (A31.keep Kc33).lt g35)) nin0)).ext E53) (((Fn33_1.ext E35).keep Kc37 (ninS (Nat.ne_of_lt (Nat.lt_of_lt_of_le (A31.keep Kc33).lt g35)) nin0)).ext E53) (Fn37_0.ext E53) (Fn37_1.ext E53)) e53 ((((A31.keep Kc33).ext E35).keep Kc37).ext E53) (by rw [hml]; rfl) (lenOf o_pd4 rfl) (has := rfl) (hst := rfl) (W := 0) (Nat.le_of_ble_eq_true rfl) (hb hby at_98) (by decide) (by decide) (by decide) (by decide) fun v55 T55 h55 L55 X55 e55 q55 => ?_
          obtain ⟨rfl, N55q, rfl⟩ := q55
          have N55 := Fr.app N53 N55q
          show Go p e below T55 (mkF m 101 #[.val (.long q1), .second, .val (.long q2), .second, .val (.long q3), .second, .val (.long q4), .second, .val (.int p5), .val (.long c5), .second, .val (.long d5), .second, .val (.ref b31), .val (.ref b35), .val (.int (0 : Int32)), .val (.ref b53), .unset, .unset, .unset, .unset] [(.int (if c5 = q1 ∧ d5 = q2 then 1 else 0))]) _
          refine o_istore (l' := #[.val (.long q1), .second, .val (.long q2), .second, .val (.long q3), .second, .val (.long q4), .second, .val (.int p5), .val (.long c5), .second, .val (.long d5), .second, .val (.ref b31), .val (.ref b35), .val (.int (0 : Int32)), .val (.ref b53), .val (.int (if c5 = q1 ∧ d5 = q2 then 1 else 0)), .unset, .unset, .unset]) (pc := 101) X55 hx (hb hby at_101) rfl ?_
          refine o_aload (v := (.ref b35)) (pc := 103) X55 hx (hb hby at_103) rfl rfl ?_
          refine o_aload (v := (.ref b31)) (pc := 105) X55 hx (hb hby at_105) rfl rfl ?_
          refine o_callV (pc := 107) X55 hx hZ (y := (⟨"com/example/retain/retain/session/QueueLimits", "equals", "(Ljava/lang/Object;)Z"⟩ : MethodName)) (z := (⟨"com/example/retain/retain/session/QueueLimits", "equals", "(Ljava/lang/Object;)Z"⟩ : MethodName)) (C := "com/example/retain/retain/session/QueueLimits") (a := b35) (argsL := [(.ref b31)]) (rest := []) hown (hw _ (List.mem_of_getElem? (i := 21) rfl)) (hw _ (List.mem_of_getElem? (i := 22) rfl)) (notFace_of_selects (args := #[]) (mvT hZ (hw _ (List.mem_of_getElem? (i := 24) rfl)))) (hw _ (List.mem_of_getElem? (i := 24) rfl)) (hw _ (List.mem_of_getElem? (i := 23) rfl)) (hw _ (List.mem_of_getElem? (i := 2) rfl)) (hw _ (List.mem_of_getElem? (i := 25) rfl)) (by decide) (rm4q l Z a0 hw [] b35 b31 c5 d5 q1 q2 h53 n0 O54 ((((A31.keep Kc33).ext E35).keep Kc37).ext E53) (Fn37_0.ext E53) (Fn37_1.ext E53) (((Fn33_0.ext E35).keep Kc37 (ninS (Nat.ne_of_lt (Nat.lt_of_lt_of_le (A31.keep Kc33).lt g35)) nin0)).ext E53) (((Fn33_1.ext E35).keep Kc37 (ninS (Nat.ne_of_lt (Nat.lt_of_lt_of_le (A31.keep Kc33).lt g35)) nin0)).ext E53)) e55 ((A35.keep Kc37).ext E53) (by rw [hml]; rfl) (lenOf o_pd4 rfl) (has := rfl) (hst := rfl) (W := 0) (Nat.le_of_ble_eq_true rfl) (hb hby at_107) (by decide) (by decide) (by decide) (by decide) fun v56 T56 h56 L56 X56 e56 q56 => ?_
          obtain ⟨rfl, N56q, rfl⟩ := q56
          have N56 := Fr.app N55 N56q
          show Go p e below T56 (mkF m 110 #[.val (.long q1), .second, .val (.long q2), .second, .val (.long q3), .second, .val (.long q4), .second, .val (.int p5), .val (.long c5), .second, .val (.long d5), .second, .val (.ref b31), .val (.ref b35), .val (.int (0 : Int32)), .val (.ref b53), .val (.int (if c5 = q1 ∧ d5 = q2 then 1 else 0)), .unset, .unset, .unset] [(.int (if q1 = c5 ∧ q2 = d5 then 1 else 0))]) _
          refine o_istore (l' := #[.val (.long q1), .second, .val (.long q2), .second, .val (.long q3), .second, .val (.long q4), .second, .val (.int p5), .val (.long c5), .second, .val (.long d5), .second, .val (.ref b31), .val (.ref b35), .val (.int (0 : Int32)), .val (.ref b53), .val (.int (if c5 = q1 ∧ d5 = q2 then 1 else 0)), .val (.int (if q1 = c5 ∧ q2 = d5 then 1 else 0)), .unset, .unset]) (pc := 110) X56 hx (hb hby at_110) rfl ?_
          refine o_aload (v := (.ref b31)) (pc := 112) X56 hx (hb hby at_112) rfl rfl ?_
          refine o_aload (v := (.ref b31)) (pc := 114) X56 hx (hb hby at_114) rfl rfl ?_
          refine o_callV (pc := 116) X56 hx hZ (y := (⟨"com/example/retain/retain/session/QueueLimits", "equals", "(Ljava/lang/Object;)Z"⟩ : MethodName)) (z := (⟨"com/example/retain/retain/session/QueueLimits", "equals", "(Ljava/lang/Object;)Z"⟩ : MethodName)) (C := "com/example/retain/retain/session/QueueLimits") (a := b31) (argsL := [(.ref b31)]) (rest := []) hown (hw _ (List.mem_of_getElem? (i := 21) rfl)) (hw _ (List.mem_of_getElem? (i := 22) rfl)) (notFace_of_selects (args := #[]) (mvT hZ (hw _ (List.mem_of_getElem? (i := 24) rfl)))) (hw _ (List.mem_of_getElem? (i := 24) rfl)) (hw _ (List.mem_of_getElem? (i := 23) rfl)) (hw _ (List.mem_of_getElem? (i := 2) rfl)) (hw _ (List.mem_of_getElem? (i := 25) rfl)) (by decide) (rm4q l Z a0 hw [] b31 b31 q1 q2 q1 q2 h53 n0 O54 ((((A31.keep Kc33).ext E35).keep Kc37).ext E53) (((Fn33_0.ext E35).keep Kc37 (ninS (Nat.ne_of_lt (Nat.lt_of_lt_of_le (A31.keep Kc33).lt g35)) nin0)).ext E53) (((Fn33_1.ext E35).keep Kc37 (ninS (Nat.ne_of_lt (Nat.lt_of_lt_of_le (A31.keep Kc33).lt g35)) nin0)).ext E53) (((Fn33_0.ext E35).keep Kc37 (ninS (Nat.ne_of_lt (Nat.lt_of_lt_of_le (A31.keep Kc33).lt g35)) nin0)).ext E53) (((Fn33_1.ext E35).keep Kc37 (ninS (Nat.ne_of_lt (Nat.lt_of_lt_of_le (A31.keep Kc33).lt g35)) nin0)).ext E53)) e56 ((((A31.keep Kc33).ext E35).keep Kc37).ext E53) (by rw [hml]; rfl) (lenOf o_pd4 rfl) (has := rfl) (hst := rfl) (W := 0) (Nat.le_of_ble_eq_true rfl) (hb hby at_116) (by decide) (by decide) (by decide) (by decide) fun v57 T57 h57 L57 X57 e57 q57 => ?_
          obtain ⟨rfl, N57q, rfl⟩ := q57
          have N57 := Fr.app N56 N57q
          show Go p e below T57 (mkF m 119 #[.val (.long q1), .second, .val (.long q2), .second, .val (.long q3), .second, .val (.long q4), .second, .val (.int p5), .val (.long c5), .second, .val (.long d5), .second, .val (.ref b31), .val (.ref b35), .val (.int (0 : Int32)), .val (.ref b53), .val (.int (if c5 = q1 ∧ d5 = q2 then 1 else 0)), .val (.int (if q1 = c5 ∧ q2 = d5 then 1 else 0)), .unset, .unset] [(.int (if q1 = q1 ∧ q2 = q2 then 1 else 0))]) _
          refine o_istore (l' := #[.val (.long q1), .second, .val (.long q2), .second, .val (.long q3), .second, .val (.long q4), .second, .val (.int p5), .val (.long c5), .second, .val (.long d5), .second, .val (.ref b31), .val (.ref b35), .val (.int (0 : Int32)), .val (.ref b53), .val (.int (if c5 = q1 ∧ d5 = q2 then 1 else 0)), .val (.int (if q1 = c5 ∧ q2 = d5 then 1 else 0)), .val (.int (if q1 = q1 ∧ q2 = q2 then 1 else 0)), .unset]) (pc := 119) X57 hx (hb hby at_119) rfl ?_
          refine o_aload (v := (.ref b31)) (pc := 121) X57 hx (hb hby at_121) rfl rfl ?_
          refine o_aload (v := (.ref b53)) (pc := 123) X57 hx (hb hby at_123) rfl rfl ?_
          refine o_callV (pc := 125) X57 hx hZ (y := (⟨"com/example/retain/retain/session/QueueLimits", "equals", "(Ljava/lang/Object;)Z"⟩ : MethodName)) (z := (⟨"com/example/retain/retain/session/QueueLimits", "equals", "(Ljava/lang/Object;)Z"⟩ : MethodName)) (C := "com/example/retain/retain/session/QueueLimits") (a := b31) (argsL := [(.ref b53)]) (rest := []) hown (hw _ (List.mem_of_getElem? (i := 21) rfl)) (hw _ (List.mem_of_getElem? (i := 22) rfl)) (notFace_of_selects (args := #[]) (mvT hZ (hw _ (List.mem_of_getElem? (i := 24) rfl)))) (hw _ (List.mem_of_getElem? (i := 24) rfl)) (hw _ (List.mem_of_getElem? (i := 23) rfl)) (hw _ (List.mem_of_getElem? (i := 2) rfl)) (hw _ (List.mem_of_getElem? (i := 25) rfl)) (by decide) (rm4l l Z a0 hw [] b31 b53 h53 n0 O54 Ex53) e57 ((((A31.keep Kc33).ext E35).keep Kc37).ext E53) (by rw [hml]; rfl) (lenOf o_pd4 rfl) (has := rfl) (hst := rfl) (W := 0) (Nat.le_of_ble_eq_true rfl) (hb hby at_125) (by decide) (by decide) (by decide) (by decide) fun v58 T58 h58 L58 X58 e58 q58 => ?_
          obtain ⟨rfl, N58q, rfl⟩ := q58
          have N58 := Fr.app N57 N58q
          show Go p e below T58 (mkF m 128 #[.val (.long q1), .second, .val (.long q2), .second, .val (.long q3), .second, .val (.long q4), .second, .val (.int p5), .val (.long c5), .second, .val (.long d5), .second, .val (.ref b31), .val (.ref b35), .val (.int (0 : Int32)), .val (.ref b53), .val (.int (if c5 = q1 ∧ d5 = q2 then 1 else 0)), .val (.int (if q1 = c5 ∧ q2 = d5 then 1 else 0)), .val (.int (if q1 = q1 ∧ q2 = q2 then 1 else 0)), .unset] [(.int (0 : Int32))]) _
          refine o_istore (l' := #[.val (.long q1), .second, .val (.long q2), .second, .val (.long q3), .second, .val (.long q4), .second, .val (.int p5), .val (.long c5), .second, .val (.long d5), .second, .val (.ref b31), .val (.ref b35), .val (.int (0 : Int32)), .val (.ref b53), .val (.int (if c5 = q1 ∧ d5 = q2 then 1 else 0)), .val (.int (if q1 = c5 ∧ q2 = d5 then 1 else 0)), .val (.int (if q1 = q1 ∧ q2 = q2 then 1 else 0)), .val (.int (0 : Int32))]) (pc := 128) X58 hx (hb hby at_128) rfl ?_
          refine o_iload (v := (if c5 = q1 ∧ d5 = q2 then 1 else 0)) (pc := 130) X58 hx (hb hby at_130) rfl ?_
          refine o_iload (v := (0 : Int32)) (pc := 132) X58 hx (hb hby at_132) rfl ?_
          refine o_icmpNo (pc := 134) X58 hx (hb hby at_134) (teq (if_neg fun q => hc40 ((lw_eq _ _).mpr q.2.symm) : (if c5 = q1 ∧ d5 = q2 then 1 else 0) = (0 : Int32))).2 ?_
          refine o_iload (v := (if q1 = c5 ∧ q2 = d5 then 1 else 0)) (pc := 137) X58 hx (hb hby at_137) rfl ?_
          refine o_iload (v := (0 : Int32)) (pc := 139) X58 hx (hb hby at_139) rfl ?_
          refine o_icmpNo (pc := 141) X58 hx (hb hby at_141) (teq (if_neg fun q => hc40 ((lw_eq _ _).mpr q.2) : (if q1 = c5 ∧ q2 = d5 then 1 else 0) = (0 : Int32))).2 ?_
          refine o_iload (v := (if q1 = q1 ∧ q2 = q2 then 1 else 0)) (pc := 144) X58 hx (hb hby at_144) rfl ?_
          refine o_ifNo (pc := 146) X58 hx (hb hby at_146) ((if0 _ _).trans (feq (by rw [if_pos ⟨rfl, rfl⟩]; decide : ¬ ((if q1 = q1 ∧ q2 = q2 then 1 else 0) = (0 : Int32)))).1) ?_
          refine o_iload (v := (0 : Int32)) (pc := 149) X58 hx (hb hby at_149) rfl ?_
          refine o_ifNo (pc := 151) X58 hx (hb hby at_151) ((if0 _ _).trans (teq (by decide : (0 : Int32) = (0 : Int32))).2) ?_
          refine o_iconst (pc := 154) X58 hx (1 : Int32) (hb hby at_154) rfl ?_
          refine o_goto (pc := 155) X58 hx 159 (hb hby at_155) (by decide) (by decide) ?_
          exact o_retN (pc := 159) X58 hx .boolean hret hlk (by simp) (hb hby at_159) e58 (by decide) (by decide) ⟨rfl, N58⟩
        · skip
          refine o_ifNo (pc := 79) X37 hx (hb hby at_79) ((if0 _ _).trans (feq hc52).1) ?_
          refine o_aconst_null (pc := 82) X37 hx (hb hby at_82) ?_
          refine o_astore (l' := #[.val (.long q1), .second, .val (.long q2), .second, .val (.long q3), .second, .val (.long q4), .second, .val (.int p5), .val (.long c5), .second, .val (.long d5), .second, .val (.ref b31), .val (.ref b35), .val (.int (0 : Int32)), .val .null, .unset, .unset, .unset, .unset]) (pc := 83) X37 hx (hb hby at_83) rfl rfl ?_
          refine o_goto (pc := 85) X37 hx 94 (hb hby at_85) (by decide) (by decide) ?_
          refine o_aload (v := (.ref b31)) (pc := 94) X37 hx (hb hby at_94) rfl rfl ?_
          refine o_aload (v := (.ref b35)) (pc := 96) X37 hx (hb hby at_96) rfl rfl ?_
          refine o_callV (pc := 98) X37 hx hZ (y := (⟨"com/example/retain/retain/session/QueueLimits", "equals", "(Ljava/lang/Object;)Z"⟩ : MethodName)) (z := (⟨"com/example/retain/retain/session/QueueLimits", "equals", "(Ljava/lang/Object;)Z"⟩ : MethodName)) (C := "com/example/retain/retain/session/QueueLimits") (a := b31) (argsL := [(.ref b35)]) (rest := []) hown (hw _ (List.mem_of_getElem? (i := 21) rfl)) (hw _ (List.mem_of_getElem? (i := 22) rfl)) (notFace_of_selects (args := #[]) (mvT hZ (hw _ (List.mem_of_getElem? (i := 24) rfl)))) (hw _ (List.mem_of_getElem? (i := 24) rfl)) (hw _ (List.mem_of_getElem? (i := 23) rfl)) (hw _ (List.mem_of_getElem? (i := 2) rfl)) (hw _ (List.mem_of_getElem? (i := 25) rfl)) (by decide) (rm4q l Z a0 hw [] b31 b35 q1 q2 c5 d5 h37 n0 O38 (A35.keep Kc37) ((Fn33_0.ext E35).keep Kc37 (ninS (Nat.ne_of_lt (Nat.lt_of_lt_of_le (A31.keep Kc33).lt g35)) nin0)) ((Fn33_1.ext E35).keep Kc37 (ninS (Nat.ne_of_lt (Nat.lt_of_lt_of_le (A31.keep Kc33).lt g35)) nin0)) Fn37_0 Fn37_1) e37 (((A31.keep Kc33).ext E35).keep Kc37) (by rw [hml]; rfl) (lenOf o_pd4 rfl) (has := rfl) (hst := rfl) (W := 0) (Nat.le_of_ble_eq_true rfl) (hb hby at_98) (by decide) (by decide) (by decide) (by decide) fun v59 T59 h59 L59 X59 e59 q59 => ?_
          obtain ⟨rfl, N59q, rfl⟩ := q59
          have N59 := Fr.app N37 N59q
          show Go p e below T59 (mkF m 101 #[.val (.long q1), .second, .val (.long q2), .second, .val (.long q3), .second, .val (.long q4), .second, .val (.int p5), .val (.long c5), .second, .val (.long d5), .second, .val (.ref b31), .val (.ref b35), .val (.int (0 : Int32)), .val .null, .unset, .unset, .unset, .unset] [(.int (if c5 = q1 ∧ d5 = q2 then 1 else 0))]) _
          refine o_istore (l' := #[.val (.long q1), .second, .val (.long q2), .second, .val (.long q3), .second, .val (.long q4), .second, .val (.int p5), .val (.long c5), .second, .val (.long d5), .second, .val (.ref b31), .val (.ref b35), .val (.int (0 : Int32)), .val .null, .val (.int (if c5 = q1 ∧ d5 = q2 then 1 else 0)), .unset, .unset, .unset]) (pc := 101) X59 hx (hb hby at_101) rfl ?_
          refine o_aload (v := (.ref b35)) (pc := 103) X59 hx (hb hby at_103) rfl rfl ?_
          refine o_aload (v := (.ref b31)) (pc := 105) X59 hx (hb hby at_105) rfl rfl ?_
          refine o_callV (pc := 107) X59 hx hZ (y := (⟨"com/example/retain/retain/session/QueueLimits", "equals", "(Ljava/lang/Object;)Z"⟩ : MethodName)) (z := (⟨"com/example/retain/retain/session/QueueLimits", "equals", "(Ljava/lang/Object;)Z"⟩ : MethodName)) (C := "com/example/retain/retain/session/QueueLimits") (a := b35) (argsL := [(.ref b31)]) (rest := []) hown (hw _ (List.mem_of_getElem? (i := 21) rfl)) (hw _ (List.mem_of_getElem? (i := 22) rfl)) (notFace_of_selects (args := #[]) (mvT hZ (hw _ (List.mem_of_getElem? (i := 24) rfl)))) (hw _ (List.mem_of_getElem? (i := 24) rfl)) (hw _ (List.mem_of_getElem? (i := 23) rfl)) (hw _ (List.mem_of_getElem? (i := 2) rfl)) (hw _ (List.mem_of_getElem? (i := 25) rfl)) (by decide) (rm4q l Z a0 hw [] b35 b31 c5 d5 q1 q2 h37 n0 O38 (((A31.keep Kc33).ext E35).keep Kc37) Fn37_0 Fn37_1 ((Fn33_0.ext E35).keep Kc37 (ninS (Nat.ne_of_lt (Nat.lt_of_lt_of_le (A31.keep Kc33).lt g35)) nin0)) ((Fn33_1.ext E35).keep Kc37 (ninS (Nat.ne_of_lt (Nat.lt_of_lt_of_le (A31.keep Kc33).lt g35)) nin0))) e59 (A35.keep Kc37) (by rw [hml]; rfl) (lenOf o_pd4 rfl) (has := rfl) (hst := rfl) (W := 0) (Nat.le_of_ble_eq_true rfl) (hb hby at_107) (by decide) (by decide) (by decide) (by decide) fun v60 T60 h60 L60 X60 e60 q60 => ?_
          obtain ⟨rfl, N60q, rfl⟩ := q60
          have N60 := Fr.app N59 N60q
          show Go p e below T60 (mkF m 110 #[.val (.long q1), .second, .val (.long q2), .second, .val (.long q3), .second, .val (.long q4), .second, .val (.int p5), .val (.long c5), .second, .val (.long d5), .second, .val (.ref b31), .val (.ref b35), .val (.int (0 : Int32)), .val .null, .val (.int (if c5 = q1 ∧ d5 = q2 then 1 else 0)), .unset, .unset, .unset] [(.int (if q1 = c5 ∧ q2 = d5 then 1 else 0))]) _
          refine o_istore (l' := #[.val (.long q1), .second, .val (.long q2), .second, .val (.long q3), .second, .val (.long q4), .second, .val (.int p5), .val (.long c5), .second, .val (.long d5), .second, .val (.ref b31), .val (.ref b35), .val (.int (0 : Int32)), .val .null, .val (.int (if c5 = q1 ∧ d5 = q2 then 1 else 0)), .val (.int (if q1 = c5 ∧ q2 = d5 then 1 else 0)), .unset, .unset]) (pc := 110) X60 hx (hb hby at_110) rfl ?_
          refine o_aload (v := (.ref b31)) (pc := 112) X60 hx (hb hby at_112) rfl rfl ?_
          refine o_aload (v := (.ref b31)) (pc := 114) X60 hx (hb hby at_114) rfl rfl ?_
          refine o_callV (pc := 116) X60 hx hZ (y := (⟨"com/example/retain/retain/session/QueueLimits", "equals", "(Ljava/lang/Object;)Z"⟩ : MethodName)) (z := (⟨"com/example/retain/retain/session/QueueLimits", "equals", "(Ljava/lang/Object;)Z"⟩ : MethodName)) (C := "com/example/retain/retain/session/QueueLimits") (a := b31) (argsL := [(.ref b31)]) (rest := []) hown (hw _ (List.mem_of_getElem? (i := 21) rfl)) (hw _ (List.mem_of_getElem? (i := 22) rfl)) (notFace_of_selects (args := #[]) (mvT hZ (hw _ (List.mem_of_getElem? (i := 24) rfl)))) (hw _ (List.mem_of_getElem? (i := 24) rfl)) (hw _ (List.mem_of_getElem? (i := 23) rfl)) (hw _ (List.mem_of_getElem? (i := 2) rfl)) (hw _ (List.mem_of_getElem? (i := 25) rfl)) (by decide) (rm4q l Z a0 hw [] b31 b31 q1 q2 q1 q2 h37 n0 O38 (((A31.keep Kc33).ext E35).keep Kc37) ((Fn33_0.ext E35).keep Kc37 (ninS (Nat.ne_of_lt (Nat.lt_of_lt_of_le (A31.keep Kc33).lt g35)) nin0)) ((Fn33_1.ext E35).keep Kc37 (ninS (Nat.ne_of_lt (Nat.lt_of_lt_of_le (A31.keep Kc33).lt g35)) nin0)) ((Fn33_0.ext E35).keep Kc37 (ninS (Nat.ne_of_lt (Nat.lt_of_lt_of_le (A31.keep Kc33).lt g35)) nin0)) ((Fn33_1.ext E35).keep Kc37 (ninS (Nat.ne_of_lt (Nat.lt_of_lt_of_le (A31.keep Kc33).lt g35)) nin0))) e60 (((A31.keep Kc33).ext E35).keep Kc37) (by rw [hml]; rfl) (lenOf o_pd4 rfl) (has := rfl) (hst := rfl) (W := 0) (Nat.le_of_ble_eq_true rfl) (hb hby at_116) (by decide) (by decide) (by decide) (by decide) fun v61 T61 h61 L61 X61 e61 q61 => ?_
          obtain ⟨rfl, N61q, rfl⟩ := q61
          have N61 := Fr.app N60 N61q
          show Go p e below T61 (mkF m 119 #[.val (.long q1), .second, .val (.long q2), .second, .val (.long q3), .second, .val (.long q4), .second, .val (.int p5), .val (.long c5), .second, .val (.long d5), .second, .val (.ref b31), .val (.ref b35), .val (.int (0 : Int32)), .val .null, .val (.int (if c5 = q1 ∧ d5 = q2 then 1 else 0)), .val (.int (if q1 = c5 ∧ q2 = d5 then 1 else 0)), .unset, .unset] [(.int (if q1 = q1 ∧ q2 = q2 then 1 else 0))]) _
          refine o_istore (l' := #[.val (.long q1), .second, .val (.long q2), .second, .val (.long q3), .second, .val (.long q4), .second, .val (.int p5), .val (.long c5), .second, .val (.long d5), .second, .val (.ref b31), .val (.ref b35), .val (.int (0 : Int32)), .val .null, .val (.int (if c5 = q1 ∧ d5 = q2 then 1 else 0)), .val (.int (if q1 = c5 ∧ q2 = d5 then 1 else 0)), .val (.int (if q1 = q1 ∧ q2 = q2 then 1 else 0)), .unset]) (pc := 119) X61 hx (hb hby at_119) rfl ?_
          refine o_aload (v := (.ref b31)) (pc := 121) X61 hx (hb hby at_121) rfl rfl ?_
          refine o_aload (v := .null) (pc := 123) X61 hx (hb hby at_123) rfl rfl ?_
          refine o_callV (pc := 125) X61 hx hZ (y := (⟨"com/example/retain/retain/session/QueueLimits", "equals", "(Ljava/lang/Object;)Z"⟩ : MethodName)) (z := (⟨"com/example/retain/retain/session/QueueLimits", "equals", "(Ljava/lang/Object;)Z"⟩ : MethodName)) (C := "com/example/retain/retain/session/QueueLimits") (a := b31) (argsL := [.null]) (rest := []) hown (hw _ (List.mem_of_getElem? (i := 21) rfl)) (hw _ (List.mem_of_getElem? (i := 22) rfl)) (notFace_of_selects (args := #[]) (mvT hZ (hw _ (List.mem_of_getElem? (i := 24) rfl)))) (hw _ (List.mem_of_getElem? (i := 24) rfl)) (hw _ (List.mem_of_getElem? (i := 23) rfl)) (hw _ (List.mem_of_getElem? (i := 2) rfl)) (hw _ (List.mem_of_getElem? (i := 25) rfl)) (by decide) (rm4n l Z a0 hw [] b31 h37 n0 O38) e61 (((A31.keep Kc33).ext E35).keep Kc37) (by rw [hml]; rfl) (lenOf o_pd4 rfl) (has := rfl) (hst := rfl) (W := 0) (Nat.le_of_ble_eq_true rfl) (hb hby at_125) (by decide) (by decide) (by decide) (by decide) fun v62 T62 h62 L62 X62 e62 q62 => ?_
          obtain ⟨rfl, N62q, rfl⟩ := q62
          have N62 := Fr.app N61 N62q
          show Go p e below T62 (mkF m 128 #[.val (.long q1), .second, .val (.long q2), .second, .val (.long q3), .second, .val (.long q4), .second, .val (.int p5), .val (.long c5), .second, .val (.long d5), .second, .val (.ref b31), .val (.ref b35), .val (.int (0 : Int32)), .val .null, .val (.int (if c5 = q1 ∧ d5 = q2 then 1 else 0)), .val (.int (if q1 = c5 ∧ q2 = d5 then 1 else 0)), .val (.int (if q1 = q1 ∧ q2 = q2 then 1 else 0)), .unset] [(.int (0 : Int32))]) _
          refine o_istore (l' := #[.val (.long q1), .second, .val (.long q2), .second, .val (.long q3), .second, .val (.long q4), .second, .val (.int p5), .val (.long c5), .second, .val (.long d5), .second, .val (.ref b31), .val (.ref b35), .val (.int (0 : Int32)), .val .null, .val (.int (if c5 = q1 ∧ d5 = q2 then 1 else 0)), .val (.int (if q1 = c5 ∧ q2 = d5 then 1 else 0)), .val (.int (if q1 = q1 ∧ q2 = q2 then 1 else 0)), .val (.int (0 : Int32))]) (pc := 128) X62 hx (hb hby at_128) rfl ?_
          refine o_iload (v := (if c5 = q1 ∧ d5 = q2 then 1 else 0)) (pc := 130) X62 hx (hb hby at_130) rfl ?_
          refine o_iload (v := (0 : Int32)) (pc := 132) X62 hx (hb hby at_132) rfl ?_
          refine o_icmpNo (pc := 134) X62 hx (hb hby at_134) (teq (if_neg fun q => hc40 ((lw_eq _ _).mpr q.2.symm) : (if c5 = q1 ∧ d5 = q2 then 1 else 0) = (0 : Int32))).2 ?_
          refine o_iload (v := (if q1 = c5 ∧ q2 = d5 then 1 else 0)) (pc := 137) X62 hx (hb hby at_137) rfl ?_
          refine o_iload (v := (0 : Int32)) (pc := 139) X62 hx (hb hby at_139) rfl ?_
          refine o_icmpNo (pc := 141) X62 hx (hb hby at_141) (teq (if_neg fun q => hc40 ((lw_eq _ _).mpr q.2) : (if q1 = c5 ∧ q2 = d5 then 1 else 0) = (0 : Int32))).2 ?_
          refine o_iload (v := (if q1 = q1 ∧ q2 = q2 then 1 else 0)) (pc := 144) X62 hx (hb hby at_144) rfl ?_
          refine o_ifNo (pc := 146) X62 hx (hb hby at_146) ((if0 _ _).trans (feq (by rw [if_pos ⟨rfl, rfl⟩]; decide : ¬ ((if q1 = q1 ∧ q2 = q2 then 1 else 0) = (0 : Int32)))).1) ?_
          refine o_iload (v := (0 : Int32)) (pc := 149) X62 hx (hb hby at_149) rfl ?_
          refine o_ifNo (pc := 151) X62 hx (hb hby at_151) ((if0 _ _).trans (teq (by decide : (0 : Int32) = (0 : Int32))).2) ?_
          refine o_iconst (pc := 154) X62 hx (1 : Int32) (hb hby at_154) rfl ?_
          refine o_goto (pc := 155) X62 hx 159 (hb hby at_155) (by decide) (by decide) ?_
          exact o_retN (pc := 159) X62 hx .boolean hret hlk (by simp) (hb hby at_159) e62 (by decide) (by decide) ⟨rfl, N62⟩
    · skip
      refine o_ifYes (pc := 58) X37 hx 72 (hb hby at_58) ((if0 _ _).trans (feq hc39).2) (by decide) (by decide) ?_
      refine o_iconst (pc := 72) X37 hx (0 : Int32) (hb hby at_72) rfl ?_
      refine o_istore (l' := #[.val (.long q1), .second, .val (.long q2), .second, .val (.long q3), .second, .val (.long q4), .second, .val (.int p5), .val (.long c5), .second, .val (.long d5), .second, .val (.ref b31), .val (.ref b35), .val (.int (0 : Int32)), .unset, .unset, .unset, .unset, .unset]) (pc := 73) X37 hx (hb hby at_73) rfl ?_
      refine o_iload (v := p5) (pc := 75) X37 hx (hb hby at_75) rfl ?_
      refine o_iconst (pc := 77) X37 hx (4 : Int32) (hb hby at_77) rfl ?_
      refine o_iand (pc := 78) X37 hx (hb hby at_78) ?_
      by_cases hc63 : (p5 &&& (4 : Int32)) = (0 : Int32)
      · skip
        refine o_ifYes (pc := 79) X37 hx 88 (hb hby at_79) ((if0 _ _).trans (teq hc63).1) (by decide) (by decide) ?_
        refine o_lloadN (v := q1) (pc := 88) X37 hx (hb hby at_88) rfl ?_
        refine o_callS (pc := 89) X37 hx hZ (y := (⟨"java/lang/Long", "valueOf", "(J)Ljava/lang/Long;"⟩ : MethodName)) (argsL := [(.long q1)]) (rest := []) hown (hw _ (List.mem_of_getElem? (i := 13) rfl)) (hw _ (List.mem_of_getElem? (i := 14) rfl)) (hw _ (List.mem_of_getElem? (i := 15) rfl)) (hw _ (List.mem_of_getElem? (i := 16) rfl)) (by decide) (rmValueOf l Z a0 hw [] q1 wl cl h37 n0 O38 LS LB) e37 (by rw [hml]; rfl) (lenOf o_pd3 rfl) (has := rfl) (hst := rfl) (W := 0) (Nat.le_of_ble_eq_true rfl) (hb hby at_89) (by decide) (by decide) (by decide) (by decide) fun v64 T64 h64 L64 X64 e64 q64 => ?_
        obtain ⟨b64, rfl, N64q, E64, Ex64, Fx64⟩ := q64
        have N64 := Fr.app N37 N64q
        have O65 := O38.ext E64
        show Go p e below T64 (mkF m 92 #[.val (.long q1), .second, .val (.long q2), .second, .val (.long q3), .second, .val (.long q4), .second, .val (.int p5), .val (.long c5), .second, .val (.long d5), .second, .val (.ref b31), .val (.ref b35), .val (.int (0 : Int32)), .unset, .unset, .unset, .unset, .unset] [(.ref b64)]) _
        refine o_astore (l' := #[.val (.long q1), .second, .val (.long q2), .second, .val (.long q3), .second, .val (.long q4), .second, .val (.int p5), .val (.long c5), .second, .val (.long d5), .second, .val (.ref b31), .val (.ref b35), .val (.int (0 : Int32)), .val (.ref b64), .unset, .unset, .unset, .unset]) (pc := 92) X64 hx (hb hby at_92) rfl rfl ?_
        refine o_aload (v := (.ref b31)) (pc := 94) X64 hx (hb hby at_94) rfl rfl ?_
        refine o_aload (v := (.ref b35)) (pc := 96) X64 hx (hb hby at_96) rfl rfl ?_
        refine o_callV (pc := 98) X64 hx hZ (y := (⟨"com/example/retain/retain/session/QueueLimits", "equals", "(Ljava/lang/Object;)Z"⟩ : MethodName)) (z := (⟨"com/example/retain/retain/session/QueueLimits", "equals", "(Ljava/lang/Object;)Z"⟩ : MethodName)) (C := "com/example/retain/retain/session/QueueLimits") (a := b31) (argsL := [(.ref b35)]) (rest := []) hown (hw _ (List.mem_of_getElem? (i := 21) rfl)) (hw _ (List.mem_of_getElem? (i := 22) rfl)) (notFace_of_selects (args := #[]) (mvT hZ (hw _ (List.mem_of_getElem? (i := 24) rfl)))) (hw _ (List.mem_of_getElem? (i := 24) rfl)) (hw _ (List.mem_of_getElem? (i := 23) rfl)) (hw _ (List.mem_of_getElem? (i := 2) rfl)) (hw _ (List.mem_of_getElem? (i := 25) rfl)) (by decide) (rm4q l Z a0 hw [] b31 b35 q1 q2 c5 d5 h64 n0 O65 ((A35.keep Kc37).ext E64) (((Fn33_0.ext E35).keep Kc37 (ninS (Nat.ne_of_lt (Nat.lt_of_lt_of_le (A31.keep Kc33).lt g35)) nin0)).ext E64) (((Fn33_1.ext E35).keep Kc37 (ninS (Nat.ne_of_lt (Nat.lt_of_lt_of_le (A31.keep Kc33).lt g35)) nin0)).ext E64) (Fn37_0.ext E64) (Fn37_1.ext E64)) e64 ((((A31.keep Kc33).ext E35).keep Kc37).ext E64) (by rw [hml]; rfl) (lenOf o_pd4 rfl) (has := rfl) (hst := rfl) (W := 0) (Nat.le_of_ble_eq_true rfl) (hb hby at_98) (by decide) (by decide) (by decide) (by decide) fun v66 T66 h66 L66 X66 e66 q66 => ?_
        obtain ⟨rfl, N66q, rfl⟩ := q66
        have N66 := Fr.app N64 N66q
        show Go p e below T66 (mkF m 101 #[.val (.long q1), .second, .val (.long q2), .second, .val (.long q3), .second, .val (.long q4), .second, .val (.int p5), .val (.long c5), .second, .val (.long d5), .second, .val (.ref b31), .val (.ref b35), .val (.int (0 : Int32)), .val (.ref b64), .unset, .unset, .unset, .unset] [(.int (if c5 = q1 ∧ d5 = q2 then 1 else 0))]) _
        refine o_istore (l' := #[.val (.long q1), .second, .val (.long q2), .second, .val (.long q3), .second, .val (.long q4), .second, .val (.int p5), .val (.long c5), .second, .val (.long d5), .second, .val (.ref b31), .val (.ref b35), .val (.int (0 : Int32)), .val (.ref b64), .val (.int (if c5 = q1 ∧ d5 = q2 then 1 else 0)), .unset, .unset, .unset]) (pc := 101) X66 hx (hb hby at_101) rfl ?_
        refine o_aload (v := (.ref b35)) (pc := 103) X66 hx (hb hby at_103) rfl rfl ?_
        refine o_aload (v := (.ref b31)) (pc := 105) X66 hx (hb hby at_105) rfl rfl ?_
        refine o_callV (pc := 107) X66 hx hZ (y := (⟨"com/example/retain/retain/session/QueueLimits", "equals", "(Ljava/lang/Object;)Z"⟩ : MethodName)) (z := (⟨"com/example/retain/retain/session/QueueLimits", "equals", "(Ljava/lang/Object;)Z"⟩ : MethodName)) (C := "com/example/retain/retain/session/QueueLimits") (a := b35) (argsL := [(.ref b31)]) (rest := []) hown (hw _ (List.mem_of_getElem? (i := 21) rfl)) (hw _ (List.mem_of_getElem? (i := 22) rfl)) (notFace_of_selects (args := #[]) (mvT hZ (hw _ (List.mem_of_getElem? (i := 24) rfl)))) (hw _ (List.mem_of_getElem? (i := 24) rfl)) (hw _ (List.mem_of_getElem? (i := 23) rfl)) (hw _ (List.mem_of_getElem? (i := 2) rfl)) (hw _ (List.mem_of_getElem? (i := 25) rfl)) (by decide) (rm4q l Z a0 hw [] b35 b31 c5 d5 q1 q2 h64 n0 O65 ((((A31.keep Kc33).ext E35).keep Kc37).ext E64) (Fn37_0.ext E64) (Fn37_1.ext E64) (((Fn33_0.ext E35).keep Kc37 (ninS (Nat.ne_of_lt (Nat.lt_of_lt_of_le (A31.keep Kc33).lt g35)) nin0)).ext E64) (((Fn33_1.ext E35).keep Kc37 (ninS (Nat.ne_of_lt (Nat.lt_of_lt_of_le (A31.keep Kc33).lt g35)) nin0)).ext E64)) e66 ((A35.keep Kc37).ext E64) (by rw [hml]; rfl) (lenOf o_pd4 rfl) (has := rfl) (hst := rfl) (W := 0) (Nat.le_of_ble_eq_true rfl) (hb hby at_107) (by decide) (by decide) (by decide) (by decide) fun v67 T67 h67 L67 X67 e67 q67 => ?_
        obtain ⟨rfl, N67q, rfl⟩ := q67
        have N67 := Fr.app N66 N67q
        show Go p e below T67 (mkF m 110 #[.val (.long q1), .second, .val (.long q2), .second, .val (.long q3), .second, .val (.long q4), .second, .val (.int p5), .val (.long c5), .second, .val (.long d5), .second, .val (.ref b31), .val (.ref b35), .val (.int (0 : Int32)), .val (.ref b64), .val (.int (if c5 = q1 ∧ d5 = q2 then 1 else 0)), .unset, .unset, .unset] [(.int (if q1 = c5 ∧ q2 = d5 then 1 else 0))]) _
        refine o_istore (l' := #[.val (.long q1), .second, .val (.long q2), .second, .val (.long q3), .second, .val (.long q4), .second, .val (.int p5), .val (.long c5), .second, .val (.long d5), .second, .val (.ref b31), .val (.ref b35), .val (.int (0 : Int32)), .val (.ref b64), .val (.int (if c5 = q1 ∧ d5 = q2 then 1 else 0)), .val (.int (if q1 = c5 ∧ q2 = d5 then 1 else 0)), .unset, .unset]) (pc := 110) X67 hx (hb hby at_110) rfl ?_
        refine o_aload (v := (.ref b31)) (pc := 112) X67 hx (hb hby at_112) rfl rfl ?_
        refine o_aload (v := (.ref b31)) (pc := 114) X67 hx (hb hby at_114) rfl rfl ?_
        refine o_callV (pc := 116) X67 hx hZ (y := (⟨"com/example/retain/retain/session/QueueLimits", "equals", "(Ljava/lang/Object;)Z"⟩ : MethodName)) (z := (⟨"com/example/retain/retain/session/QueueLimits", "equals", "(Ljava/lang/Object;)Z"⟩ : MethodName)) (C := "com/example/retain/retain/session/QueueLimits") (a := b31) (argsL := [(.ref b31)]) (rest := []) hown (hw _ (List.mem_of_getElem? (i := 21) rfl)) (hw _ (List.mem_of_getElem? (i := 22) rfl)) (notFace_of_selects (args := #[]) (mvT hZ (hw _ (List.mem_of_getElem? (i := 24) rfl)))) (hw _ (List.mem_of_getElem? (i := 24) rfl)) (hw _ (List.mem_of_getElem? (i := 23) rfl)) (hw _ (List.mem_of_getElem? (i := 2) rfl)) (hw _ (List.mem_of_getElem? (i := 25) rfl)) (by decide) (rm4q l Z a0 hw [] b31 b31 q1 q2 q1 q2 h64 n0 O65 ((((A31.keep Kc33).ext E35).keep Kc37).ext E64) (((Fn33_0.ext E35).keep Kc37 (ninS (Nat.ne_of_lt (Nat.lt_of_lt_of_le (A31.keep Kc33).lt g35)) nin0)).ext E64) (((Fn33_1.ext E35).keep Kc37 (ninS (Nat.ne_of_lt (Nat.lt_of_lt_of_le (A31.keep Kc33).lt g35)) nin0)).ext E64) (((Fn33_0.ext E35).keep Kc37 (ninS (Nat.ne_of_lt (Nat.lt_of_lt_of_le (A31.keep Kc33).lt g35)) nin0)).ext E64) (((Fn33_1.ext E35).keep Kc37 (ninS (Nat.ne_of_lt (Nat.lt_of_lt_of_le (A31.keep Kc33).lt g35)) nin0)).ext E64)) e67 ((((A31.keep Kc33).ext E35).keep Kc37).ext E64) (by rw [hml]; rfl) (lenOf o_pd4 rfl) (has := rfl) (hst := rfl) (W := 0) (Nat.le_of_ble_eq_true rfl) (hb hby at_116) (by decide) (by decide) (by decide) (by decide) fun v68 T68 h68 L68 X68 e68 q68 => ?_
        obtain ⟨rfl, N68q, rfl⟩ := q68
        have N68 := Fr.app N67 N68q
        show Go p e below T68 (mkF m 119 #[.val (.long q1), .second, .val (.long q2), .second, .val (.long q3), .second, .val (.long q4), .second, .val (.int p5), .val (.long c5), .second, .val (.long d5), .second, .val (.ref b31), .val (.ref b35), .val (.int (0 : Int32)), .val (.ref b64), .val (.int (if c5 = q1 ∧ d5 = q2 then 1 else 0)), .val (.int (if q1 = c5 ∧ q2 = d5 then 1 else 0)), .unset, .unset] [(.int (if q1 = q1 ∧ q2 = q2 then 1 else 0))]) _
        refine o_istore (l' := #[.val (.long q1), .second, .val (.long q2), .second, .val (.long q3), .second, .val (.long q4), .second, .val (.int p5), .val (.long c5), .second, .val (.long d5), .second, .val (.ref b31), .val (.ref b35), .val (.int (0 : Int32)), .val (.ref b64), .val (.int (if c5 = q1 ∧ d5 = q2 then 1 else 0)), .val (.int (if q1 = c5 ∧ q2 = d5 then 1 else 0)), .val (.int (if q1 = q1 ∧ q2 = q2 then 1 else 0)), .unset]) (pc := 119) X68 hx (hb hby at_119) rfl ?_
        refine o_aload (v := (.ref b31)) (pc := 121) X68 hx (hb hby at_121) rfl rfl ?_
        refine o_aload (v := (.ref b64)) (pc := 123) X68 hx (hb hby at_123) rfl rfl ?_
        refine o_callV (pc := 125) X68 hx hZ (y := (⟨"com/example/retain/retain/session/QueueLimits", "equals", "(Ljava/lang/Object;)Z"⟩ : MethodName)) (z := (⟨"com/example/retain/retain/session/QueueLimits", "equals", "(Ljava/lang/Object;)Z"⟩ : MethodName)) (C := "com/example/retain/retain/session/QueueLimits") (a := b31) (argsL := [(.ref b64)]) (rest := []) hown (hw _ (List.mem_of_getElem? (i := 21) rfl)) (hw _ (List.mem_of_getElem? (i := 22) rfl)) (notFace_of_selects (args := #[]) (mvT hZ (hw _ (List.mem_of_getElem? (i := 24) rfl)))) (hw _ (List.mem_of_getElem? (i := 24) rfl)) (hw _ (List.mem_of_getElem? (i := 23) rfl)) (hw _ (List.mem_of_getElem? (i := 2) rfl)) (hw _ (List.mem_of_getElem? (i := 25) rfl)) (by decide) (rm4l l Z a0 hw [] b31 b64 h64 n0 O65 Ex64) e68 ((((A31.keep Kc33).ext E35).keep Kc37).ext E64) (by rw [hml]; rfl) (lenOf o_pd4 rfl) (has := rfl) (hst := rfl) (W := 0) (Nat.le_of_ble_eq_true rfl) (hb hby at_125) (by decide) (by decide) (by decide) (by decide) fun v69 T69 h69 L69 X69 e69 q69 => ?_
        obtain ⟨rfl, N69q, rfl⟩ := q69
        have N69 := Fr.app N68 N69q
        show Go p e below T69 (mkF m 128 #[.val (.long q1), .second, .val (.long q2), .second, .val (.long q3), .second, .val (.long q4), .second, .val (.int p5), .val (.long c5), .second, .val (.long d5), .second, .val (.ref b31), .val (.ref b35), .val (.int (0 : Int32)), .val (.ref b64), .val (.int (if c5 = q1 ∧ d5 = q2 then 1 else 0)), .val (.int (if q1 = c5 ∧ q2 = d5 then 1 else 0)), .val (.int (if q1 = q1 ∧ q2 = q2 then 1 else 0)), .unset] [(.int (0 : Int32))]) _
        refine o_istore (l' := #[.val (.long q1), .second, .val (.long q2), .second, .val (.long q3), .second, .val (.long q4), .second, .val (.int p5), .val (.long c5), .second, .val (.long d5), .second, .val (.ref b31), .val (.ref b35), .val (.int (0 : Int32)), .val (.ref b64), .val (.int (if c5 = q1 ∧ d5 = q2 then 1 else 0)), .val (.int (if q1 = c5 ∧ q2 = d5 then 1 else 0)), .val (.int (if q1 = q1 ∧ q2 = q2 then 1 else 0)), .val (.int (0 : Int32))]) (pc := 128) X69 hx (hb hby at_128) rfl ?_
        refine o_iload (v := (if c5 = q1 ∧ d5 = q2 then 1 else 0)) (pc := 130) X69 hx (hb hby at_130) rfl ?_
        refine o_iload (v := (0 : Int32)) (pc := 132) X69 hx (hb hby at_132) rfl ?_
        refine o_icmpNo (pc := 134) X69 hx (hb hby at_134) (teq (if_neg fun q => hc39 ((lw_eq _ _).mpr q.1.symm) : (if c5 = q1 ∧ d5 = q2 then 1 else 0) = (0 : Int32))).2 ?_
        refine o_iload (v := (if q1 = c5 ∧ q2 = d5 then 1 else 0)) (pc := 137) X69 hx (hb hby at_137) rfl ?_
        refine o_iload (v := (0 : Int32)) (pc := 139) X69 hx (hb hby at_139) rfl ?_
        refine o_icmpNo (pc := 141) X69 hx (hb hby at_141) (teq (if_neg fun q => hc39 ((lw_eq _ _).mpr q.1) : (if q1 = c5 ∧ q2 = d5 then 1 else 0) = (0 : Int32))).2 ?_
        refine o_iload (v := (if q1 = q1 ∧ q2 = q2 then 1 else 0)) (pc := 144) X69 hx (hb hby at_144) rfl ?_
        refine o_ifNo (pc := 146) X69 hx (hb hby at_146) ((if0 _ _).trans (feq (by rw [if_pos ⟨rfl, rfl⟩]; decide : ¬ ((if q1 = q1 ∧ q2 = q2 then 1 else 0) = (0 : Int32)))).1) ?_
        refine o_iload (v := (0 : Int32)) (pc := 149) X69 hx (hb hby at_149) rfl ?_
        refine o_ifNo (pc := 151) X69 hx (hb hby at_151) ((if0 _ _).trans (teq (by decide : (0 : Int32) = (0 : Int32))).2) ?_
        refine o_iconst (pc := 154) X69 hx (1 : Int32) (hb hby at_154) rfl ?_
        refine o_goto (pc := 155) X69 hx 159 (hb hby at_155) (by decide) (by decide) ?_
        exact o_retN (pc := 159) X69 hx .boolean hret hlk (by simp) (hb hby at_159) e69 (by decide) (by decide) ⟨rfl, N69⟩
      · skip
        refine o_ifNo (pc := 79) X37 hx (hb hby at_79) ((if0 _ _).trans (feq hc63).1) ?_
        refine o_aconst_null (pc := 82) X37 hx (hb hby at_82) ?_
        refine o_astore (l' := #[.val (.long q1), .second, .val (.long q2), .second, .val (.long q3), .second, .val (.long q4), .second, .val (.int p5), .val (.long c5), .second, .val (.long d5), .second, .val (.ref b31), .val (.ref b35), .val (.int (0 : Int32)), .val .null, .unset, .unset, .unset, .unset]) (pc := 83) X37 hx (hb hby at_83) rfl rfl ?_
        refine o_goto (pc := 85) X37 hx 94 (hb hby at_85) (by decide) (by decide) ?_
        refine o_aload (v := (.ref b31)) (pc := 94) X37 hx (hb hby at_94) rfl rfl ?_
        refine o_aload (v := (.ref b35)) (pc := 96) X37 hx (hb hby at_96) rfl rfl ?_
        refine o_callV (pc := 98) X37 hx hZ (y := (⟨"com/example/retain/retain/session/QueueLimits", "equals", "(Ljava/lang/Object;)Z"⟩ : MethodName)) (z := (⟨"com/example/retain/retain/session/QueueLimits", "equals", "(Ljava/lang/Object;)Z"⟩ : MethodName)) (C := "com/example/retain/retain/session/QueueLimits") (a := b31) (argsL := [(.ref b35)]) (rest := []) hown (hw _ (List.mem_of_getElem? (i := 21) rfl)) (hw _ (List.mem_of_getElem? (i := 22) rfl)) (notFace_of_selects (args := #[]) (mvT hZ (hw _ (List.mem_of_getElem? (i := 24) rfl)))) (hw _ (List.mem_of_getElem? (i := 24) rfl)) (hw _ (List.mem_of_getElem? (i := 23) rfl)) (hw _ (List.mem_of_getElem? (i := 2) rfl)) (hw _ (List.mem_of_getElem? (i := 25) rfl)) (by decide) (rm4q l Z a0 hw [] b31 b35 q1 q2 c5 d5 h37 n0 O38 (A35.keep Kc37) ((Fn33_0.ext E35).keep Kc37 (ninS (Nat.ne_of_lt (Nat.lt_of_lt_of_le (A31.keep Kc33).lt g35)) nin0)) ((Fn33_1.ext E35).keep Kc37 (ninS (Nat.ne_of_lt (Nat.lt_of_lt_of_le (A31.keep Kc33).lt g35)) nin0)) Fn37_0 Fn37_1) e37 (((A31.keep Kc33).ext E35).keep Kc37) (by rw [hml]; rfl) (lenOf o_pd4 rfl) (has := rfl) (hst := rfl) (W := 0) (Nat.le_of_ble_eq_true rfl) (hb hby at_98) (by decide) (by decide) (by decide) (by decide) fun v70 T70 h70 L70 X70 e70 q70 => ?_
        obtain ⟨rfl, N70q, rfl⟩ := q70
        have N70 := Fr.app N37 N70q
        show Go p e below T70 (mkF m 101 #[.val (.long q1), .second, .val (.long q2), .second, .val (.long q3), .second, .val (.long q4), .second, .val (.int p5), .val (.long c5), .second, .val (.long d5), .second, .val (.ref b31), .val (.ref b35), .val (.int (0 : Int32)), .val .null, .unset, .unset, .unset, .unset] [(.int (if c5 = q1 ∧ d5 = q2 then 1 else 0))]) _
        refine o_istore (l' := #[.val (.long q1), .second, .val (.long q2), .second, .val (.long q3), .second, .val (.long q4), .second, .val (.int p5), .val (.long c5), .second, .val (.long d5), .second, .val (.ref b31), .val (.ref b35), .val (.int (0 : Int32)), .val .null, .val (.int (if c5 = q1 ∧ d5 = q2 then 1 else 0)), .unset, .unset, .unset]) (pc := 101) X70 hx (hb hby at_101) rfl ?_
        refine o_aload (v := (.ref b35)) (pc := 103) X70 hx (hb hby at_103) rfl rfl ?_
        refine o_aload (v := (.ref b31)) (pc := 105) X70 hx (hb hby at_105) rfl rfl ?_
        refine o_callV (pc := 107) X70 hx hZ (y := (⟨"com/example/retain/retain/session/QueueLimits", "equals", "(Ljava/lang/Object;)Z"⟩ : MethodName)) (z := (⟨"com/example/retain/retain/session/QueueLimits", "equals", "(Ljava/lang/Object;)Z"⟩ : MethodName)) (C := "com/example/retain/retain/session/QueueLimits") (a := b35) (argsL := [(.ref b31)]) (rest := []) hown (hw _ (List.mem_of_getElem? (i := 21) rfl)) (hw _ (List.mem_of_getElem? (i := 22) rfl)) (notFace_of_selects (args := #[]) (mvT hZ (hw _ (List.mem_of_getElem? (i := 24) rfl)))) (hw _ (List.mem_of_getElem? (i := 24) rfl)) (hw _ (List.mem_of_getElem? (i := 23) rfl)) (hw _ (List.mem_of_getElem? (i := 2) rfl)) (hw _ (List.mem_of_getElem? (i := 25) rfl)) (by decide) (rm4q l Z a0 hw [] b35 b31 c5 d5 q1 q2 h37 n0 O38 (((A31.keep Kc33).ext E35).keep Kc37) Fn37_0 Fn37_1 ((Fn33_0.ext E35).keep Kc37 (ninS (Nat.ne_of_lt (Nat.lt_of_lt_of_le (A31.keep Kc33).lt g35)) nin0)) ((Fn33_1.ext E35).keep Kc37 (ninS (Nat.ne_of_lt (Nat.lt_of_lt_of_le (A31.keep Kc33).lt g35)) nin0))) e70 (A35.keep Kc37) (by rw [hml]; rfl) (lenOf o_pd4 rfl) (has := rfl) (hst := rfl) (W := 0) (Nat.le_of_ble_eq_true rfl) (hb hby at_107) (by decide) (by decide) (by decide) (by decide) fun v71 T71 h71 L71 X71 e71 q71 => ?_
        obtain ⟨rfl, N71q, rfl⟩ := q71
        have N71 := Fr.app N70 N71q
        show Go p e below T71 (mkF m 110 #[.val (.long q1), .second, .val (.long q2), .second, .val (.long q3), .second, .val (.long q4), .second, .val (.int p5), .val (.long c5), .second, .val (.long d5), .second, .val (.ref b31), .val (.ref b35), .val (.int (0 : Int32)), .val .null, .val (.int (if c5 = q1 ∧ d5 = q2 then 1 else 0)), .unset, .unset, .unset] [(.int (if q1 = c5 ∧ q2 = d5 then 1 else 0))]) _
        refine o_istore (l' := #[.val (.long q1), .second, .val (.long q2), .second, .val (.long q3), .second, .val (.long q4), .second, .val (.int p5), .val (.long c5), .second, .val (.long d5), .second, .val (.ref b31), .val (.ref b35), .val (.int (0 : Int32)), .val .null, .val (.int (if c5 = q1 ∧ d5 = q2 then 1 else 0)), .val (.int (if q1 = c5 ∧ q2 = d5 then 1 else 0)), .unset, .unset]) (pc := 110) X71 hx (hb hby at_110) rfl ?_
        refine o_aload (v := (.ref b31)) (pc := 112) X71 hx (hb hby at_112) rfl rfl ?_
        refine o_aload (v := (.ref b31)) (pc := 114) X71 hx (hb hby at_114) rfl rfl ?_
        refine o_callV (pc := 116) X71 hx hZ (y := (⟨"com/example/retain/retain/session/QueueLimits", "equals", "(Ljava/lang/Object;)Z"⟩ : MethodName)) (z := (⟨"com/example/retain/retain/session/QueueLimits", "equals", "(Ljava/lang/Object;)Z"⟩ : MethodName)) (C := "com/example/retain/retain/session/QueueLimits") (a := b31) (argsL := [(.ref b31)]) (rest := []) hown (hw _ (List.mem_of_getElem? (i := 21) rfl)) (hw _ (List.mem_of_getElem? (i := 22) rfl)) (notFace_of_selects (args := #[]) (mvT hZ (hw _ (List.mem_of_getElem? (i := 24) rfl)))) (hw _ (List.mem_of_getElem? (i := 24) rfl)) (hw _ (List.mem_of_getElem? (i := 23) rfl)) (hw _ (List.mem_of_getElem? (i := 2) rfl)) (hw _ (List.mem_of_getElem? (i := 25) rfl)) (by decide) (rm4q l Z a0 hw [] b31 b31 q1 q2 q1 q2 h37 n0 O38 (((A31.keep Kc33).ext E35).keep Kc37) ((Fn33_0.ext E35).keep Kc37 (ninS (Nat.ne_of_lt (Nat.lt_of_lt_of_le (A31.keep Kc33).lt g35)) nin0)) ((Fn33_1.ext E35).keep Kc37 (ninS (Nat.ne_of_lt (Nat.lt_of_lt_of_le (A31.keep Kc33).lt g35)) nin0)) ((Fn33_0.ext E35).keep Kc37 (ninS (Nat.ne_of_lt (Nat.lt_of_lt_of_le (A31.keep Kc33).lt g35)) nin0)) ((Fn33_1.ext E35).keep Kc37 (ninS (Nat.ne_of_lt (Nat.lt_of_lt_of_le (A31.keep Kc33).lt g35)) nin0))) e71 (((A31.keep Kc33).ext E35).keep Kc37) (by rw [hml]; rfl) (lenOf o_pd4 rfl) (has := rfl) (hst := rfl) (W := 0) (Nat.le_of_ble_eq_true rfl) (hb hby at_116) (by decide) (by decide) (by decide) (by decide) fun v72 T72 h72 L72 X72 e72 q72 => ?_
        obtain ⟨rfl, N72q, rfl⟩ := q72
        have N72 := Fr.app N71 N72q
        show Go p e below T72 (mkF m 119 #[.val (.long q1), .second, .val (.long q2), .second, .val (.long q3), .second, .val (.long q4), .second, .val (.int p5), .val (.long c5), .second, .val (.long d5), .second, .val (.ref b31), .val (.ref b35), .val (.int (0 : Int32)), .val .null, .val (.int (if c5 = q1 ∧ d5 = q2 then 1 else 0)), .val (.int (if q1 = c5 ∧ q2 = d5 then 1 else 0)), .unset, .unset] [(.int (if q1 = q1 ∧ q2 = q2 then 1 else 0))]) _
        refine o_istore (l' := #[.val (.long q1), .second, .val (.long q2), .second, .val (.long q3), .second, .val (.long q4), .second, .val (.int p5), .val (.long c5), .second, .val (.long d5), .second, .val (.ref b31), .val (.ref b35), .val (.int (0 : Int32)), .val .null, .val (.int (if c5 = q1 ∧ d5 = q2 then 1 else 0)), .val (.int (if q1 = c5 ∧ q2 = d5 then 1 else 0)), .val (.int (if q1 = q1 ∧ q2 = q2 then 1 else 0)), .unset]) (pc := 119) X72 hx (hb hby at_119) rfl ?_
        refine o_aload (v := (.ref b31)) (pc := 121) X72 hx (hb hby at_121) rfl rfl ?_
        refine o_aload (v := .null) (pc := 123) X72 hx (hb hby at_123) rfl rfl ?_
        refine o_callV (pc := 125) X72 hx hZ (y := (⟨"com/example/retain/retain/session/QueueLimits", "equals", "(Ljava/lang/Object;)Z"⟩ : MethodName)) (z := (⟨"com/example/retain/retain/session/QueueLimits", "equals", "(Ljava/lang/Object;)Z"⟩ : MethodName)) (C := "com/example/retain/retain/session/QueueLimits") (a := b31) (argsL := [.null]) (rest := []) hown (hw _ (List.mem_of_getElem? (i := 21) rfl)) (hw _ (List.mem_of_getElem? (i := 22) rfl)) (notFace_of_selects (args := #[]) (mvT hZ (hw _ (List.mem_of_getElem? (i := 24) rfl)))) (hw _ (List.mem_of_getElem? (i := 24) rfl)) (hw _ (List.mem_of_getElem? (i := 23) rfl)) (hw _ (List.mem_of_getElem? (i := 2) rfl)) (hw _ (List.mem_of_getElem? (i := 25) rfl)) (by decide) (rm4n l Z a0 hw [] b31 h37 n0 O38) e72 (((A31.keep Kc33).ext E35).keep Kc37) (by rw [hml]; rfl) (lenOf o_pd4 rfl) (has := rfl) (hst := rfl) (W := 0) (Nat.le_of_ble_eq_true rfl) (hb hby at_125) (by decide) (by decide) (by decide) (by decide) fun v73 T73 h73 L73 X73 e73 q73 => ?_
        obtain ⟨rfl, N73q, rfl⟩ := q73
        have N73 := Fr.app N72 N73q
        show Go p e below T73 (mkF m 128 #[.val (.long q1), .second, .val (.long q2), .second, .val (.long q3), .second, .val (.long q4), .second, .val (.int p5), .val (.long c5), .second, .val (.long d5), .second, .val (.ref b31), .val (.ref b35), .val (.int (0 : Int32)), .val .null, .val (.int (if c5 = q1 ∧ d5 = q2 then 1 else 0)), .val (.int (if q1 = c5 ∧ q2 = d5 then 1 else 0)), .val (.int (if q1 = q1 ∧ q2 = q2 then 1 else 0)), .unset] [(.int (0 : Int32))]) _
        refine o_istore (l' := #[.val (.long q1), .second, .val (.long q2), .second, .val (.long q3), .second, .val (.long q4), .second, .val (.int p5), .val (.long c5), .second, .val (.long d5), .second, .val (.ref b31), .val (.ref b35), .val (.int (0 : Int32)), .val .null, .val (.int (if c5 = q1 ∧ d5 = q2 then 1 else 0)), .val (.int (if q1 = c5 ∧ q2 = d5 then 1 else 0)), .val (.int (if q1 = q1 ∧ q2 = q2 then 1 else 0)), .val (.int (0 : Int32))]) (pc := 128) X73 hx (hb hby at_128) rfl ?_
        refine o_iload (v := (if c5 = q1 ∧ d5 = q2 then 1 else 0)) (pc := 130) X73 hx (hb hby at_130) rfl ?_
        refine o_iload (v := (0 : Int32)) (pc := 132) X73 hx (hb hby at_132) rfl ?_
        refine o_icmpNo (pc := 134) X73 hx (hb hby at_134) (teq (if_neg fun q => hc39 ((lw_eq _ _).mpr q.1.symm) : (if c5 = q1 ∧ d5 = q2 then 1 else 0) = (0 : Int32))).2 ?_
        refine o_iload (v := (if q1 = c5 ∧ q2 = d5 then 1 else 0)) (pc := 137) X73 hx (hb hby at_137) rfl ?_
        refine o_iload (v := (0 : Int32)) (pc := 139) X73 hx (hb hby at_139) rfl ?_
        refine o_icmpNo (pc := 141) X73 hx (hb hby at_141) (teq (if_neg fun q => hc39 ((lw_eq _ _).mpr q.1) : (if q1 = c5 ∧ q2 = d5 then 1 else 0) = (0 : Int32))).2 ?_
        refine o_iload (v := (if q1 = q1 ∧ q2 = q2 then 1 else 0)) (pc := 144) X73 hx (hb hby at_144) rfl ?_
        refine o_ifNo (pc := 146) X73 hx (hb hby at_146) ((if0 _ _).trans (feq (by rw [if_pos ⟨rfl, rfl⟩]; decide : ¬ ((if q1 = q1 ∧ q2 = q2 then 1 else 0) = (0 : Int32)))).1) ?_
        refine o_iload (v := (0 : Int32)) (pc := 149) X73 hx (hb hby at_149) rfl ?_
        refine o_ifNo (pc := 151) X73 hx (hb hby at_151) ((if0 _ _).trans (teq (by decide : (0 : Int32) = (0 : Int32))).2) ?_
        refine o_iconst (pc := 154) X73 hx (1 : Int32) (hb hby at_154) rfl ?_
        refine o_goto (pc := 155) X73 hx 159 (hb hby at_155) (by decide) (by decide) ?_
        exact o_retN (pc := 159) X73 hx .boolean hret hlk (by simp) (hb hby at_159) e73 (by decide) (by decide) ⟨rfl, N73⟩
  refine o_iload (v := p5) (pc := 0) X0 hx (hb hby at_0) rfl ?_
  refine o_iconst (pc := 2) X0 hx (1 : Int32) (hb hby at_2) rfl ?_
  refine o_iand (pc := 3) X0 hx (hb hby at_3) ?_
  by_cases hc74 : (p5 &&& (1 : Int32)) = (0 : Int32)
  · skip
    refine o_ifYes (pc := 4) X0 hx 11 (hb hby at_4) ((if0 _ _).trans (teq hc74).1) (by decide) (by decide) ?_
    refine o_lload (v := q3) (pc := 11) X0 hx (hb hby at_11) rfl ?_
    refine o_lstore (l' := #[.val (.long q1), .second, .val (.long q2), .second, .val (.long q3), .second, .val (.long q4), .second, .val (.int p5), .val (.long q3), .second, .unset, .unset, .unset, .unset, .unset, .unset, .unset, .unset, .unset, .unset]) (pc := 13) X0 hx (hb hby at_13) rfl ?_
    refine o_iload (v := p5) (pc := 15) X0 hx (hb hby at_15) rfl ?_
    refine o_iconst (pc := 17) X0 hx (2 : Int32) (hb hby at_17) rfl ?_
    refine o_iand (pc := 18) X0 hx (hb hby at_18) ?_
    by_cases hc75 : (p5 &&& (2 : Int32)) = (0 : Int32)
    · skip
      refine o_ifYes (pc := 19) X0 hx 26 (hb hby at_19) ((if0 _ _).trans (teq hc75).1) (by decide) (by decide) ?_
      refine o_lload (v := q4) (pc := 26) X0 hx (hb hby at_26) rfl ?_
      refine o_lstore (l' := #[.val (.long q1), .second, .val (.long q2), .second, .val (.long q3), .second, .val (.long q4), .second, .val (.int p5), .val (.long q3), .second, .val (.long q4), .second, .unset, .unset, .unset, .unset, .unset, .unset, .unset, .unset]) (pc := 28) X0 hx (hb hby at_28) rfl ?_
      exact tail q3 q4
    · skip
      refine o_ifNo (pc := 19) X0 hx (hb hby at_19) ((if0 _ _).trans (feq hc75).1) ?_
      refine o_lloadN (v := q2) (pc := 22) X0 hx (hb hby at_22) rfl ?_
      refine o_goto (pc := 23) X0 hx 28 (hb hby at_23) (by decide) (by decide) ?_
      refine o_lstore (l' := #[.val (.long q1), .second, .val (.long q2), .second, .val (.long q3), .second, .val (.long q4), .second, .val (.int p5), .val (.long q3), .second, .val (.long q2), .second, .unset, .unset, .unset, .unset, .unset, .unset, .unset, .unset]) (pc := 28) X0 hx (hb hby at_28) rfl ?_
      exact tail q3 q2
  · skip
    refine o_ifNo (pc := 4) X0 hx (hb hby at_4) ((if0 _ _).trans (feq hc74).1) ?_
    refine o_lloadN (v := q1) (pc := 7) X0 hx (hb hby at_7) rfl ?_
    refine o_goto (pc := 8) X0 hx 13 (hb hby at_8) (by decide) (by decide) ?_
    refine o_lstore (l' := #[.val (.long q1), .second, .val (.long q2), .second, .val (.long q3), .second, .val (.long q4), .second, .val (.int p5), .val (.long q1), .second, .unset, .unset, .unset, .unset, .unset, .unset, .unset, .unset, .unset, .unset]) (pc := 13) X0 hx (hb hby at_13) rfl ?_
    refine o_iload (v := p5) (pc := 15) X0 hx (hb hby at_15) rfl ?_
    refine o_iconst (pc := 17) X0 hx (2 : Int32) (hb hby at_17) rfl ?_
    refine o_iand (pc := 18) X0 hx (hb hby at_18) ?_
    by_cases hc76 : (p5 &&& (2 : Int32)) = (0 : Int32)
    · skip
      refine o_ifYes (pc := 19) X0 hx 26 (hb hby at_19) ((if0 _ _).trans (teq hc76).1) (by decide) (by decide) ?_
      refine o_lload (v := q4) (pc := 26) X0 hx (hb hby at_26) rfl ?_
      refine o_lstore (l' := #[.val (.long q1), .second, .val (.long q2), .second, .val (.long q3), .second, .val (.long q4), .second, .val (.int p5), .val (.long q1), .second, .val (.long q4), .second, .unset, .unset, .unset, .unset, .unset, .unset, .unset, .unset]) (pc := 28) X0 hx (hb hby at_28) rfl ?_
      exact tail q1 q4
    · skip
      refine o_ifNo (pc := 19) X0 hx (hb hby at_19) ((if0 _ _).trans (feq hc76).1) ?_
      refine o_lloadN (v := q2) (pc := 22) X0 hx (hb hby at_22) rfl ?_
      refine o_goto (pc := 23) X0 hx 28 (hb hby at_23) (by decide) (by decide) ?_
      refine o_lstore (l' := #[.val (.long q1), .second, .val (.long q2), .second, .val (.long q3), .second, .val (.long q4), .second, .val (.int p5), .val (.long q1), .second, .val (.long q2), .second, .unset, .unset, .unset, .unset, .unset, .unset, .unset, .unset]) (pc := 28) X0 hx (hb hby at_28) rfl ?_
      exact tail q1 q2
set_option maxRecDepth 65536 in
set_option maxHeartbeats 40000000 in
theorem comes_1 {Post : Tables → Env → Array Value → State → Outcome → State → Prop} (hpost : ∀ tb e args s v u, (limb_1_1.after args s (.returned v) u = true ∧ limb_1_2.after args s (.returned v) u = true ∧ True) → FrameEnd s (.returned v) u (Jvm.fieldLocs frame_1_writes args s ++ Jvm.arrayLocs frame_1_arrays args s ++ Jvm.staticLocs frame_1_statics s) 16 128 → Post tb e args s (.returned v) u) :
    ArmFor flags0 classFile x code maxLocals ret World_1 tables_1 room_1 Calls_1 rest_1 Pre_1 Post := by
  intro l hfl _ _ p e ha hc hk s m args below hf hA hF happ hP
  obtain ⟨hcalls, hrest, hpre⟩ := hP
  obtain ⟨-, -, -, hnamed, -, -, -, hat⟩ := (Spec.applies_iff hf).mp happ
  obtain ⟨hg, hn⟩ := and_e (Cond.before_iff.mp (show (Jvm.Cond.and given_1 narrow_1).before args s = true from hpre))
  obtain ⟨g77, g78⟩ := and_e hg
  obtain ⟨g79, g80⟩ := and_e g78
  obtain ⟨g81, g82⟩ := and_e g80
  obtain ⟨g83, g84⟩ := and_e g82
  obtain ⟨g85, g86⟩ := and_e g84
  obtain ⟨w0, w1, w2, w3, w4, rfl⟩ : ∃ w0 w1 w2 w3 w4 : Value, args = #[w0, w1, w2, w3, w4] := by
    have hs : args.size = 5 := by simpa [Cond.value, given_1] using g77
    obtain ⟨L⟩ := args
    match L, hs with
    | [w0, w1, w2, w3, w4], _ => exact ⟨w0, w1, w2, w3, w4, rfl⟩
  have hw := fun d (hd : d ∈ tables_1) => atoms_spec (ws := Jvm.Cond.code x code maxLocals ret :: tables_1) hat d (List.mem_cons_of_mem _ hd)
  have hfit : Fit s := fun {y c} hc i hi => by
    obtain ⟨ha, rfl⟩ := Array.getElem?_eq_some_iff.mp hc
    have q := List.all_eq_true.mp ((Array.all_eq_true_iff_forall_mem.mp hF) _ (Array.getElem_mem ha)) i (List.mem_range.mpr hi)
    simpa [Array.getElem?_eq_getElem hi] using q
  obtain ⟨i0, ei0⟩ := isL_v g79
  obtain rfl : w0 = (.long i0) := Option.some.inj ei0
  obtain ⟨i1, ei1⟩ := isL_v g81
  obtain rfl : w1 = (.long i1) := Option.some.inj ei1
  obtain ⟨i2, ei2⟩ := isL_v g83
  obtain rfl : w2 = (.long i2) := Option.some.inj ei2
  obtain ⟨i3, ei3⟩ := isL_v g85
  obtain rfl : w3 = (.long i3) := Option.some.inj ei3
  obtain ⟨i4, ei4⟩ := is_v g86
  obtain rfl : w4 = (.int i4) := Option.some.inj ei4
  obtain ⟨hsets, hown0⟩ := atoms_of _ (rest_1_c_eq ▸ (show rest_1_c.before _ s = true from hrest))
  obtain ⟨wl, evl⟩ := exa_v (Cond.before_iff.mp (hsets _ (List.mem_of_getElem? (i := 3) rfl)))
  have LS := Sta.start evl (Or.inl (hsets _ (List.mem_of_getElem? (i := 1) rfl)))
  obtain ⟨cl, LA⟩ := Arr.start evl (Cond.before_iff.mp (hsets _ (List.mem_of_getElem? (i := 2) rfl)))
  have ll := o_eqI (Cond.before_iff.mp (hsets _ (List.mem_of_getElem? (i := 4) rfl)))
  obtain ⟨ll1, ll2⟩ := o_len evl (LA.fin (Vm.Alike.refl _)) ll
  have LB : Bxs s wl cl "java/lang/Long" "J" 256 (fun j => .long (j - 128).toInt64) := Bxs.start (fun _ => evl) LA ll1 ll2 (by decide) (Cond.before_iff.mp (hsets _ (List.mem_of_getElem? (i := 5) rfl))) (fun X j hj h => eqv_l (i2l_at (o_sub (idx_at hj) rfl)) h)
  obtain ⟨n, o, h1, h2, h3, _, L, rfl, ⟨rfl, N⟩, hq⟩ := rm0 l s _ hw tables_1 i0 i1 i2 i3 i4 wl cl s.heap s.heap.size (Old.start s) LS LB p e ha hc hk s m _ below hf ((Spec.applies_iff_loose hf).mp happ).1 ⟨rfl, State.Warmed39.refl s, rfl⟩ trivial
  refine ⟨n, _, h1, h2, h3, hpost _ _ _ _ _ _ ⟨Cond.after_iff.mpr rfl, Cond.after_iff.mpr (eq_i res_at (Term.int_eval (1)) rfl), trivial⟩ ⟨hq.1, hq.2.1, (hq.2.2.sift fun y hy => Or.inr (N y hy)).mono (by decide) (by decide)⟩⟩
theorem main_1_1 : Claimed_1_1 := comes_1 fun _ _ _ _ _ _ h hF => ⟨h.1, hF⟩
theorem main_1_2 : Claimed_1_2 := comes_1 fun _ _ _ _ _ _ h hF => ⟨h.2.1, hF⟩
end Jvm.Pilot.@@N@@
namespace Jvm.Pilot.@@N@@
open Jvm Jvm.ClassFile Sem Op Lib Jvm.Free Jvm.Stand Jvm.Pilot.@@N@@.Jvm.D
/-! MADE BY PROGRAM (witnessworld.py) out of the Statement's table words and the real class files: 16 classes; the members and pool entries that the words name. The judged class is class 1, her method 1. -/
namespace start1
open Jvm.ClassFile
def u (s : String) : CpInfo := .utf8 (stringToUtf16 s)
/-- a pool by its gaps: so many unusable entries, then the entry; so many at the end -/
def gap : Nat → List CpInfo → List CpInfo
  | 0, r => r
  | n + 1, r => .unusable :: gap n r
def poolList (es : List (Nat × CpInfo)) (last : Nat) : List CpInfo := es.foldr (fun e r => gap e.1 (e.2 :: r)) (gap last [])
def pool (es : List (Nat × CpInfo)) (last : Nat) : Array CpInfo := ⟨poolList es last⟩
def fileOf (pool : Array CpInfo) (this : Nat) (attrs : Array Attribute := #[]) (ms : Array MethodInfo := #[]) (fl : Nat := 33) (sup : Nat := 0) (ifs : Array Nat := #[]) (fds : Array FieldInfo := #[]) : ClassFile where
  minorVersion := 0
  majorVersion := 65
  constantPool := pool
  accessFlags := fl
  thisClass := this
  superClass := sup
  interfaces := ifs
  fields := fds
  methods := ms
  attributes := attrs
def plain (name : String) (sup : Option ClassId) : Class where
  name := name
  kind := .ordinary
  loader := none
  accessFlags := 33
  super := sup
  interfaces := #[]
  cf := none
  fields := #[]
  methods := #[]
  instanceTypes := #[]
  staticTypes := #[]
  resolved := #[]
  callSites := []
  init := .initialized
  statics := none
  mirror := none

def pool0 : Array CpInfo := pool [(5, u "<init>"), (0, u "()V"), (1, .class_ 10), (1, u "java/lang/Object")] 113

def k0c0 : Code := { maxStack := 0, maxLocals := 1, code := object_method_1_code, exceptionTable := #[], attributes := #[] }
def k0m0 : Method := { name := "<init>", desc := "()V", sig := { parameters := [], returnType := none }, accessFlags := 1, code := some k0c0 }
/-- java/lang/Object -/
def k0 : Class := { plain "java/lang/Object" none with
  accessFlags := 33
  interfaces := #[]
  cf := some (fileOf pool0 8 #[] #[{ accessFlags := 1, nameIndex := 5, descriptorIndex := 6, attributes := #[] }] 33 0 #[] #[])
  fields := #[]
  methods := #[k0m0]
  instanceTypes := #[]
  staticTypes := #[]
  resolved := Array.replicate 124 none
  statics := none }

def pool1 : Array CpInfo := pool [(2, .class_ 4), (1, u "java/lang/Object"), (0, u "<init>"), (0, u "()V"), (0, .class_ 8), (0, u "com/example/retain/retain/session/QueueLimits"), (0, .methodref 7 10), (0, .nameAndType 5 11), (0, u "(JJ)V"), (0, .methodref 13 14), (0, .class_ 15), (0, .nameAndType 16 17), (0, u "java/lang/Long"), (0, u "valueOf"), (0, u "(J)Ljava/lang/Long;"), (0, .methodref 7 19), (0, .nameAndType 20 21), (0, u "equals"), (0, u "(Ljava/lang/Object;)Z"), (0, .class_ 23), (0, u "com/example/retain/retain/session/QueueLimitsEqualsPinLaw"), (2, u "law"), (0, u "(JJJJI)Z")] 3

def k1m0 : Method := { name := "<init>", desc := "()V", sig := { parameters := [], returnType := none }, accessFlags := 1, code := none }
def k1c1 : Code := { maxStack := 6, maxLocals := 21, code := code, exceptionTable := #[], attributes := #[] }
def k1m1 : Method := { name := "law", desc := "(JJJJI)Z", sig := { parameters := [.long, .long, .long, .long, .int], returnType := some .boolean }, accessFlags := 9, code := some k1c1 }
/-- com/example/retain/retain/session/QueueLimitsEqualsPinLaw -/
def k1 : Class := { plain "com/example/retain/retain/session/QueueLimitsEqualsPinLaw" (some 0) with
  accessFlags := 49
  interfaces := #[]
  cf := some (fileOf pool1 22 #[] #[{ accessFlags := 1, nameIndex := 5, descriptorIndex := 6, attributes := #[] }, { accessFlags := 9, nameIndex := 26, descriptorIndex := 27, attributes := #[] }] 49 2 #[] #[])
  fields := #[]
  methods := #[k1m0, k1m1]
  instanceTypes := #[]
  staticTypes := #[]
  resolved := Array.replicate 31 none
  statics := none }

def pool2 : Array CpInfo := pool [(1, .methodref 2 3), (0, .class_ 4), (0, .nameAndType 5 6), (0, u "java/lang/Object"), (0, u "<init>"), (0, u "()V"), (0, .fieldref 8 9), (0, .class_ 10), (0, .nameAndType 11 12), (0, u "com/example/retain/retain/session/QueueLimits"), (0, u "maxMessages"), (0, u "J"), (0, .fieldref 8 14), (0, .nameAndType 15 12), (0, u "maxBytes"), (13, u "(JJ)V"), (2, u "NONE"), (0, u "Lcom/example/retain/retain/session/QueueLimits;"), (0, u "NO_LIMIT"), (12, u "equals"), (0, u "(Ljava/lang/Object;)Z")] 21

def k2c0 : Code := { maxStack := 3, maxLocals := 5, code := prog_71_method_1_code, exceptionTable := #[], attributes := #[] }
def k2m0 : Method := { name := "<init>", desc := "(JJ)V", sig := { parameters := [.long, .long], returnType := none }, accessFlags := 1, code := some k2c0 }
def k2c1 : Code := { maxStack := 4, maxLocals := 3, code := prog_71_method_4_code, exceptionTable := #[], attributes := #[] }
def k2m1 : Method := { name := "equals", desc := "(Ljava/lang/Object;)Z", sig := { parameters := [(.object "java/lang/Object")], returnType := some .boolean }, accessFlags := 1, code := some k2c1 }
/-- com/example/retain/retain/session/QueueLimits -/
def k2 : Class := { plain "com/example/retain/retain/session/QueueLimits" (some 0) with
  accessFlags := 33
  interfaces := #[]
  cf := some (fileOf pool2 8 #[] #[{ accessFlags := 1, nameIndex := 5, descriptorIndex := 29, attributes := #[] }, { accessFlags := 1, nameIndex := 47, descriptorIndex := 48, attributes := #[] }] 33 2 #[] #[{ accessFlags := 25, nameIndex := 34, descriptorIndex := 12, attributes := #[] }, { accessFlags := 25, nameIndex := 32, descriptorIndex := 33, attributes := #[] }, { accessFlags := 18, nameIndex := 11, descriptorIndex := 12, attributes := #[] }, { accessFlags := 18, nameIndex := 15, descriptorIndex := 12, attributes := #[] }])
  fields := #[{ name := "NO_LIMIT", type := .long, accessFlags := 25, slot := 0, constantValue := 0 }, { name := "NONE", type := (.object "com/example/retain/retain/session/QueueLimits"), accessFlags := 25, slot := 1, constantValue := 0 }, { name := "maxMessages", type := .long, accessFlags := 18, slot := 0, constantValue := 0 }, { name := "maxBytes", type := .long, accessFlags := 18, slot := 1, constantValue := 0 }]
  methods := #[k2m0, k2m1]
  instanceTypes := #[.long, .long]
  staticTypes := #[.long, (.object "com/example/retain/retain/session/QueueLimits")]
  resolved := Array.replicate 70 none
  statics := none }

def pool3 : Array CpInfo := pool [(1, .class_ 2), (0, u "java/io/Serializable"), (0, .class_ 4), (0, u "java/lang/Object")] 2

/-- java/io/Serializable -/
def k3 : Class := { plain "java/io/Serializable" (some 0) with
  accessFlags := 1537
  interfaces := #[]
  cf := some (fileOf pool3 1 #[] #[] 1537 3 #[] #[])
  fields := #[]
  methods := #[]
  instanceTypes := #[]
  staticTypes := #[]
  resolved := Array.replicate 7 none
  statics := none }

def pool4 : Array CpInfo := pool [(1, .methodref 2 3), (0, .class_ 4), (0, .nameAndType 5 6), (0, u "java/lang/Object"), (0, u "<init>"), (0, u "()V"), (1, .class_ 10), (1, u "java/lang/Number"), (2, .class_ 14), (0, u "java/io/Serializable"), (0, u "serialVersionUID"), (0, u "J")] 20

def k4c0 : Code := { maxStack := 1, maxLocals := 1, code := jdk_18_method_1_code, exceptionTable := #[], attributes := #[] }
def k4m0 : Method := { name := "<init>", desc := "()V", sig := { parameters := [], returnType := none }, accessFlags := 1, code := some k4c0 }
/-- java/lang/Number -/
def k4 : Class := { plain "java/lang/Number" (some 0) with
  accessFlags := 1057
  interfaces := #[3]
  cf := some (fileOf pool4 8 #[] #[{ accessFlags := 1, nameIndex := 5, descriptorIndex := 6, attributes := #[] }] 1057 2 #[13] #[{ accessFlags := 26, nameIndex := 15, descriptorIndex := 16, attributes := #[] }])
  fields := #[{ name := "serialVersionUID", type := .long, accessFlags := 26, slot := 0, constantValue := 0 }]
  methods := #[k4m0]
  instanceTypes := #[]
  staticTypes := #[.long]
  resolved := Array.replicate 37 none
  statics := none }

def pool5 : Array CpInfo := pool [(1, .class_ 2), (0, u "java/lang/Comparable"), (0, .class_ 4), (0, u "java/lang/Object")] 7

/-- java/lang/Comparable -/
def k5 : Class := { plain "java/lang/Comparable" (some 0) with
  accessFlags := 1537
  interfaces := #[]
  cf := some (fileOf pool5 1 #[] #[] 1537 3 #[] #[])
  fields := #[]
  methods := #[]
  instanceTypes := #[]
  staticTypes := #[]
  resolved := Array.replicate 12 none
  statics := none }

def pool6 : Array CpInfo := pool [(1, .class_ 2), (0, u "java/lang/constant/Constable"), (0, .class_ 4), (0, u "java/lang/Object")] 6

/-- java/lang/constant/Constable -/
def k6 : Class := { plain "java/lang/constant/Constable" (some 0) with
  accessFlags := 1537
  interfaces := #[]
  cf := some (fileOf pool6 1 #[] #[] 1537 3 #[] #[])
  fields := #[]
  methods := #[]
  instanceTypes := #[]
  staticTypes := #[]
  resolved := Array.replicate 11 none
  statics := none }

def pool7 : Array CpInfo := pool [(1, .class_ 2), (0, u "java/lang/constant/ConstantDesc"), (0, .class_ 4), (0, u "java/lang/Object")] 32

/-- java/lang/constant/ConstantDesc -/
def k7 : Class := { plain "java/lang/constant/ConstantDesc" (some 0) with
  accessFlags := 1537
  interfaces := #[]
  cf := some (fileOf pool7 1 #[] #[] 1537 3 #[] #[])
  fields := #[]
  methods := #[]
  instanceTypes := #[]
  staticTypes := #[]
  resolved := Array.replicate 37 none
  statics := none }

def pool8 : Array CpInfo := pool [(1, .class_ 2), (0, u "java/lang/Long"), (55, .nameAndType 59 60), (0, u "<init>"), (0, u "()V"), (24, u "valueOf"), (143, u "(J)Ljava/lang/Long;"), (0, .long 18446744073709551488), (1, .long 127), (1, .fieldref 235 236), (0, .class_ 237), (0, .nameAndType 238 239), (0, u "java/lang/Long$LongCache"), (0, u "cache"), (0, u "[Ljava/lang/Long;"), (0, .methodref 1 241), (0, .nameAndType 59 242), (0, u "(J)V"), (27, .methodref 271 58), (0, .class_ 272), (0, u "java/lang/Number"), (0, .fieldref 1 274), (0, .nameAndType 275 276), (0, u "value"), (0, u "J"), (84, u "TYPE"), (0, u "Ljava/lang/Class;"), (0, .class_ 364), (0, u "java/lang/Comparable"), (0, .class_ 366), (0, u "java/lang/constant/Constable"), (0, .class_ 368), (0, u "java/lang/constant/ConstantDesc"), (0, u "MIN_VALUE"), (1, u "MAX_VALUE"), (4, u "SIZE"), (0, u "I"), (1, u "BYTES"), (1, u "serialVersionUID")] 142

def k8c0 : Code := { maxStack := 4, maxLocals := 3, code := jdk_35_method_24_code, exceptionTable := #[], attributes := #[] }
def k8m0 : Method := { name := "valueOf", desc := "(J)Ljava/lang/Long;", sig := { parameters := [.long], returnType := some (.object "java/lang/Long") }, accessFlags := 9, code := some k8c0 }
def k8c1 : Code := { maxStack := 3, maxLocals := 3, code := jdk_35_method_26_code, exceptionTable := #[], attributes := #[] }
def k8m1 : Method := { name := "<init>", desc := "(J)V", sig := { parameters := [.long], returnType := none }, accessFlags := 1, code := some k8c1 }
/-- java/lang/Long -/
def k8 : Class := { plain "java/lang/Long" (some 4) with
  accessFlags := 49
  interfaces := #[5, 6, 7]
  cf := some (fileOf pool8 1 #[.nestMembers #[235]] #[{ accessFlags := 9, nameIndex := 85, descriptorIndex := 229, attributes := #[] }, { accessFlags := 1, nameIndex := 59, descriptorIndex := 242, attributes := #[] }] 49 271 #[363, 365, 367] #[{ accessFlags := 25, nameIndex := 369, descriptorIndex := 276, attributes := #[] }, { accessFlags := 25, nameIndex := 371, descriptorIndex := 276, attributes := #[] }, { accessFlags := 25, nameIndex := 361, descriptorIndex := 362, attributes := #[] }, { accessFlags := 18, nameIndex := 275, descriptorIndex := 276, attributes := #[] }, { accessFlags := 25, nameIndex := 376, descriptorIndex := 377, attributes := #[] }, { accessFlags := 25, nameIndex := 379, descriptorIndex := 377, attributes := #[] }, { accessFlags := 26, nameIndex := 381, descriptorIndex := 276, attributes := #[] }])
  fields := #[{ name := "MIN_VALUE", type := .long, accessFlags := 25, slot := 0, constantValue := 0 }, { name := "MAX_VALUE", type := .long, accessFlags := 25, slot := 1, constantValue := 0 }, { name := "TYPE", type := (.object "java/lang/Class"), accessFlags := 25, slot := 2, constantValue := 0 }, { name := "value", type := .long, accessFlags := 18, slot := 0, constantValue := 0 }, { name := "SIZE", type := .int, accessFlags := 25, slot := 3, constantValue := 0 }, { name := "BYTES", type := .int, accessFlags := 25, slot := 4, constantValue := 0 }, { name := "serialVersionUID", type := .long, accessFlags := 26, slot := 5, constantValue := 0 }]
  methods := #[k8m0, k8m1]
  instanceTypes := #[.long]
  staticTypes := #[.long, .long, (.object "java/lang/Class"), .int, .int, .long]
  resolved := Array.replicate 524 none
  statics := none }

def pool9 : Array CpInfo := pool [(2, .class_ 4), (1, u "java/lang/Object"), (0, u "<init>"), (0, u "()V"), (0, .class_ 8), (0, u "java/lang/Long"), (7, .class_ 18), (1, u "java/lang/Long$LongCache"), (0, u "$assertionsDisabled"), (0, u "Z"), (8, u "archivedCache"), (0, u "[Ljava/lang/Long;"), (7, u "cache")] 24

def k9m0 : Method := { name := "<init>", desc := "()V", sig := { parameters := [], returnType := none }, accessFlags := 2, code := none }
/-- java/lang/Long$LongCache -/
def k9 : Class := { plain "java/lang/Long$LongCache" (some 0) with
  accessFlags := 48
  interfaces := #[]
  cf := some (fileOf pool9 16 #[.nestHost 7] #[{ accessFlags := 2, nameIndex := 5, descriptorIndex := 6, attributes := #[] }] 48 2 #[] #[{ accessFlags := 24, nameIndex := 38, descriptorIndex := 30, attributes := #[] }, { accessFlags := 8, nameIndex := 29, descriptorIndex := 30, attributes := #[] }, { accessFlags := 4120, nameIndex := 19, descriptorIndex := 20, attributes := #[] }])
  fields := #[{ name := "cache", type := (.array (.object "java/lang/Long")), accessFlags := 24, slot := 0, constantValue := 0 }, { name := "archivedCache", type := (.array (.object "java/lang/Long")), accessFlags := 8, slot := 1, constantValue := 0 }, { name := "$assertionsDisabled", type := .boolean, accessFlags := 4120, slot := 2, constantValue := 0 }]
  methods := #[k9m0]
  instanceTypes := #[]
  staticTypes := #[(.array (.object "java/lang/Long")), (.array (.object "java/lang/Long")), .boolean]
  resolved := Array.replicate 63 none
  statics := some 0 }

def pool10 : Array CpInfo := pool [(1, u "java/lang/Cloneable"), (0, .class_ 1), (0, u "java/lang/Object"), (0, .class_ 3)] 3

/-- java/lang/Cloneable -/
def k10 : Class := { plain "java/lang/Cloneable" (some 0) with
  accessFlags := 1537
  interfaces := #[]
  cf := some (fileOf pool10 2 #[] #[] 1537 4 #[] #[])
  fields := #[]
  methods := #[]
  instanceTypes := #[]
  staticTypes := #[]
  resolved := Array.replicate 8 none
  statics := none }

/-- the primitive byte -/
def k11 : Class := { plain "byte" none with kind := .primitive 'B', accessFlags := 0x411 }
/-- [B -/
def k12 : Class := { plain "[B" (some 0) with kind := .array 11 .byte, interfaces := #[10, 3], accessFlags := 1041 }

/-- the primitive int -/
def k13 : Class := { plain "int" none with kind := .primitive 'I', accessFlags := 0x411 }
/-- [I -/
def k14 : Class := { plain "[I" (some 0) with kind := .array 13 .int, interfaces := #[10, 3], accessFlags := 1041 }

/-- [Ljava/lang/Long; -/
def k15 : Class := { plain "[Ljava/lang/Long;" (some 0) with kind := .array 8 (.object "java/lang/Long"), interfaces := #[10, 3], accessFlags := 1041 }

def heap : Heap := #[{ cls := 9, slots := #[.ref 1, .null, .int 0], vm := .statics 9 },
  { cls := 15, slots := #[.ref 2, .ref 3, .ref 4, .ref 5, .ref 6, .ref 7, .ref 8, .ref 9, .ref 10, .ref 11, .ref 12, .ref 13, .ref 14, .ref 15, .ref 16, .ref 17, .ref 18, .ref 19, .ref 20, .ref 21, .ref 22, .ref 23, .ref 24, .ref 25, .ref 26, .ref 27, .ref 28, .ref 29, .ref 30, .ref 31, .ref 32, .ref 33, .ref 34, .ref 35, .ref 36, .ref 37, .ref 38, .ref 39, .ref 40, .ref 41, .ref 42, .ref 43, .ref 44, .ref 45, .ref 46, .ref 47, .ref 48, .ref 49, .ref 50, .ref 51, .ref 52, .ref 53, .ref 54, .ref 55, .ref 56, .ref 57, .ref 58, .ref 59, .ref 60, .ref 61, .ref 62, .ref 63, .ref 64, .ref 65, .ref 66, .ref 67, .ref 68, .ref 69, .ref 70, .ref 71, .ref 72, .ref 73, .ref 74, .ref 75, .ref 76, .ref 77, .ref 78, .ref 79, .ref 80, .ref 81, .ref 82, .ref 83, .ref 84, .ref 85, .ref 86, .ref 87, .ref 88, .ref 89, .ref 90, .ref 91, .ref 92, .ref 93, .ref 94, .ref 95, .ref 96, .ref 97, .ref 98, .ref 99, .ref 100, .ref 101, .ref 102, .ref 103, .ref 104, .ref 105, .ref 106, .ref 107, .ref 108, .ref 109, .ref 110, .ref 111, .ref 112, .ref 113, .ref 114, .ref 115, .ref 116, .ref 117, .ref 118, .ref 119, .ref 120, .ref 121, .ref 122, .ref 123, .ref 124, .ref 125, .ref 126, .ref 127, .ref 128, .ref 129, .ref 130, .ref 131, .ref 132, .ref 133, .ref 134, .ref 135, .ref 136, .ref 137, .ref 138, .ref 139, .ref 140, .ref 141, .ref 142, .ref 143, .ref 144, .ref 145, .ref 146, .ref 147, .ref 148, .ref 149, .ref 150, .ref 151, .ref 152, .ref 153, .ref 154, .ref 155, .ref 156, .ref 157, .ref 158, .ref 159, .ref 160, .ref 161, .ref 162, .ref 163, .ref 164, .ref 165, .ref 166, .ref 167, .ref 168, .ref 169, .ref 170, .ref 171, .ref 172, .ref 173, .ref 174, .ref 175, .ref 176, .ref 177, .ref 178, .ref 179, .ref 180, .ref 181, .ref 182, .ref 183, .ref 184, .ref 185, .ref 186, .ref 187, .ref 188, .ref 189, .ref 190, .ref 191, .ref 192, .ref 193, .ref 194, .ref 195, .ref 196, .ref 197, .ref 198, .ref 199, .ref 200, .ref 201, .ref 202, .ref 203, .ref 204, .ref 205, .ref 206, .ref 207, .ref 208, .ref 209, .ref 210, .ref 211, .ref 212, .ref 213, .ref 214, .ref 215, .ref 216, .ref 217, .ref 218, .ref 219, .ref 220, .ref 221, .ref 222, .ref 223, .ref 224, .ref 225, .ref 226, .ref 227, .ref 228, .ref 229, .ref 230, .ref 231, .ref 232, .ref 233, .ref 234, .ref 235, .ref 236, .ref 237, .ref 238, .ref 239, .ref 240, .ref 241, .ref 242, .ref 243, .ref 244, .ref 245, .ref 246, .ref 247, .ref 248, .ref 249, .ref 250, .ref 251, .ref 252, .ref 253, .ref 254, .ref 255, .ref 256, .ref 257], vm := .none },
  { cls := 8, slots := #[.long (-128)], vm := .none },
  { cls := 8, slots := #[.long (-127)], vm := .none },
  { cls := 8, slots := #[.long (-126)], vm := .none },
  { cls := 8, slots := #[.long (-125)], vm := .none },
  { cls := 8, slots := #[.long (-124)], vm := .none },
  { cls := 8, slots := #[.long (-123)], vm := .none },
  { cls := 8, slots := #[.long (-122)], vm := .none },
  { cls := 8, slots := #[.long (-121)], vm := .none },
  { cls := 8, slots := #[.long (-120)], vm := .none },
  { cls := 8, slots := #[.long (-119)], vm := .none },
  { cls := 8, slots := #[.long (-118)], vm := .none },
  { cls := 8, slots := #[.long (-117)], vm := .none },
  { cls := 8, slots := #[.long (-116)], vm := .none },
  { cls := 8, slots := #[.long (-115)], vm := .none },
  { cls := 8, slots := #[.long (-114)], vm := .none },
  { cls := 8, slots := #[.long (-113)], vm := .none },
  { cls := 8, slots := #[.long (-112)], vm := .none },
  { cls := 8, slots := #[.long (-111)], vm := .none },
  { cls := 8, slots := #[.long (-110)], vm := .none },
  { cls := 8, slots := #[.long (-109)], vm := .none },
  { cls := 8, slots := #[.long (-108)], vm := .none },
  { cls := 8, slots := #[.long (-107)], vm := .none },
  { cls := 8, slots := #[.long (-106)], vm := .none },
  { cls := 8, slots := #[.long (-105)], vm := .none },
  { cls := 8, slots := #[.long (-104)], vm := .none },
  { cls := 8, slots := #[.long (-103)], vm := .none },
  { cls := 8, slots := #[.long (-102)], vm := .none },
  { cls := 8, slots := #[.long (-101)], vm := .none },
  { cls := 8, slots := #[.long (-100)], vm := .none },
  { cls := 8, slots := #[.long (-99)], vm := .none },
  { cls := 8, slots := #[.long (-98)], vm := .none },
  { cls := 8, slots := #[.long (-97)], vm := .none },
  { cls := 8, slots := #[.long (-96)], vm := .none },
  { cls := 8, slots := #[.long (-95)], vm := .none },
  { cls := 8, slots := #[.long (-94)], vm := .none },
  { cls := 8, slots := #[.long (-93)], vm := .none },
  { cls := 8, slots := #[.long (-92)], vm := .none },
  { cls := 8, slots := #[.long (-91)], vm := .none },
  { cls := 8, slots := #[.long (-90)], vm := .none },
  { cls := 8, slots := #[.long (-89)], vm := .none },
  { cls := 8, slots := #[.long (-88)], vm := .none },
  { cls := 8, slots := #[.long (-87)], vm := .none },
  { cls := 8, slots := #[.long (-86)], vm := .none },
  { cls := 8, slots := #[.long (-85)], vm := .none },
  { cls := 8, slots := #[.long (-84)], vm := .none },
  { cls := 8, slots := #[.long (-83)], vm := .none },
  { cls := 8, slots := #[.long (-82)], vm := .none },
  { cls := 8, slots := #[.long (-81)], vm := .none },
  { cls := 8, slots := #[.long (-80)], vm := .none },
  { cls := 8, slots := #[.long (-79)], vm := .none },
  { cls := 8, slots := #[.long (-78)], vm := .none },
  { cls := 8, slots := #[.long (-77)], vm := .none },
  { cls := 8, slots := #[.long (-76)], vm := .none },
  { cls := 8, slots := #[.long (-75)], vm := .none },
  { cls := 8, slots := #[.long (-74)], vm := .none },
  { cls := 8, slots := #[.long (-73)], vm := .none },
  { cls := 8, slots := #[.long (-72)], vm := .none },
  { cls := 8, slots := #[.long (-71)], vm := .none },
  { cls := 8, slots := #[.long (-70)], vm := .none },
  { cls := 8, slots := #[.long (-69)], vm := .none },
  { cls := 8, slots := #[.long (-68)], vm := .none },
  { cls := 8, slots := #[.long (-67)], vm := .none },
  { cls := 8, slots := #[.long (-66)], vm := .none },
  { cls := 8, slots := #[.long (-65)], vm := .none },
  { cls := 8, slots := #[.long (-64)], vm := .none },
  { cls := 8, slots := #[.long (-63)], vm := .none },
  { cls := 8, slots := #[.long (-62)], vm := .none },
  { cls := 8, slots := #[.long (-61)], vm := .none },
  { cls := 8, slots := #[.long (-60)], vm := .none },
  { cls := 8, slots := #[.long (-59)], vm := .none },
  { cls := 8, slots := #[.long (-58)], vm := .none },
  { cls := 8, slots := #[.long (-57)], vm := .none },
  { cls := 8, slots := #[.long (-56)], vm := .none },
  { cls := 8, slots := #[.long (-55)], vm := .none },
  { cls := 8, slots := #[.long (-54)], vm := .none },
  { cls := 8, slots := #[.long (-53)], vm := .none },
  { cls := 8, slots := #[.long (-52)], vm := .none },
  { cls := 8, slots := #[.long (-51)], vm := .none },
  { cls := 8, slots := #[.long (-50)], vm := .none },
  { cls := 8, slots := #[.long (-49)], vm := .none },
  { cls := 8, slots := #[.long (-48)], vm := .none },
  { cls := 8, slots := #[.long (-47)], vm := .none },
  { cls := 8, slots := #[.long (-46)], vm := .none },
  { cls := 8, slots := #[.long (-45)], vm := .none },
  { cls := 8, slots := #[.long (-44)], vm := .none },
  { cls := 8, slots := #[.long (-43)], vm := .none },
  { cls := 8, slots := #[.long (-42)], vm := .none },
  { cls := 8, slots := #[.long (-41)], vm := .none },
  { cls := 8, slots := #[.long (-40)], vm := .none },
  { cls := 8, slots := #[.long (-39)], vm := .none },
  { cls := 8, slots := #[.long (-38)], vm := .none },
  { cls := 8, slots := #[.long (-37)], vm := .none },
  { cls := 8, slots := #[.long (-36)], vm := .none },
  { cls := 8, slots := #[.long (-35)], vm := .none },
  { cls := 8, slots := #[.long (-34)], vm := .none },
  { cls := 8, slots := #[.long (-33)], vm := .none },
  { cls := 8, slots := #[.long (-32)], vm := .none },
  { cls := 8, slots := #[.long (-31)], vm := .none },
  { cls := 8, slots := #[.long (-30)], vm := .none },
  { cls := 8, slots := #[.long (-29)], vm := .none },
  { cls := 8, slots := #[.long (-28)], vm := .none },
  { cls := 8, slots := #[.long (-27)], vm := .none },
  { cls := 8, slots := #[.long (-26)], vm := .none },
  { cls := 8, slots := #[.long (-25)], vm := .none },
  { cls := 8, slots := #[.long (-24)], vm := .none },
  { cls := 8, slots := #[.long (-23)], vm := .none },
  { cls := 8, slots := #[.long (-22)], vm := .none },
  { cls := 8, slots := #[.long (-21)], vm := .none },
  { cls := 8, slots := #[.long (-20)], vm := .none },
  { cls := 8, slots := #[.long (-19)], vm := .none },
  { cls := 8, slots := #[.long (-18)], vm := .none },
  { cls := 8, slots := #[.long (-17)], vm := .none },
  { cls := 8, slots := #[.long (-16)], vm := .none },
  { cls := 8, slots := #[.long (-15)], vm := .none },
  { cls := 8, slots := #[.long (-14)], vm := .none },
  { cls := 8, slots := #[.long (-13)], vm := .none },
  { cls := 8, slots := #[.long (-12)], vm := .none },
  { cls := 8, slots := #[.long (-11)], vm := .none },
  { cls := 8, slots := #[.long (-10)], vm := .none },
  { cls := 8, slots := #[.long (-9)], vm := .none },
  { cls := 8, slots := #[.long (-8)], vm := .none },
  { cls := 8, slots := #[.long (-7)], vm := .none },
  { cls := 8, slots := #[.long (-6)], vm := .none },
  { cls := 8, slots := #[.long (-5)], vm := .none },
  { cls := 8, slots := #[.long (-4)], vm := .none },
  { cls := 8, slots := #[.long (-3)], vm := .none },
  { cls := 8, slots := #[.long (-2)], vm := .none },
  { cls := 8, slots := #[.long (-1)], vm := .none },
  { cls := 8, slots := #[.long 0], vm := .none },
  { cls := 8, slots := #[.long 1], vm := .none },
  { cls := 8, slots := #[.long 2], vm := .none },
  { cls := 8, slots := #[.long 3], vm := .none },
  { cls := 8, slots := #[.long 4], vm := .none },
  { cls := 8, slots := #[.long 5], vm := .none },
  { cls := 8, slots := #[.long 6], vm := .none },
  { cls := 8, slots := #[.long 7], vm := .none },
  { cls := 8, slots := #[.long 8], vm := .none },
  { cls := 8, slots := #[.long 9], vm := .none },
  { cls := 8, slots := #[.long 10], vm := .none },
  { cls := 8, slots := #[.long 11], vm := .none },
  { cls := 8, slots := #[.long 12], vm := .none },
  { cls := 8, slots := #[.long 13], vm := .none },
  { cls := 8, slots := #[.long 14], vm := .none },
  { cls := 8, slots := #[.long 15], vm := .none },
  { cls := 8, slots := #[.long 16], vm := .none },
  { cls := 8, slots := #[.long 17], vm := .none },
  { cls := 8, slots := #[.long 18], vm := .none },
  { cls := 8, slots := #[.long 19], vm := .none },
  { cls := 8, slots := #[.long 20], vm := .none },
  { cls := 8, slots := #[.long 21], vm := .none },
  { cls := 8, slots := #[.long 22], vm := .none },
  { cls := 8, slots := #[.long 23], vm := .none },
  { cls := 8, slots := #[.long 24], vm := .none },
  { cls := 8, slots := #[.long 25], vm := .none },
  { cls := 8, slots := #[.long 26], vm := .none },
  { cls := 8, slots := #[.long 27], vm := .none },
  { cls := 8, slots := #[.long 28], vm := .none },
  { cls := 8, slots := #[.long 29], vm := .none },
  { cls := 8, slots := #[.long 30], vm := .none },
  { cls := 8, slots := #[.long 31], vm := .none },
  { cls := 8, slots := #[.long 32], vm := .none },
  { cls := 8, slots := #[.long 33], vm := .none },
  { cls := 8, slots := #[.long 34], vm := .none },
  { cls := 8, slots := #[.long 35], vm := .none },
  { cls := 8, slots := #[.long 36], vm := .none },
  { cls := 8, slots := #[.long 37], vm := .none },
  { cls := 8, slots := #[.long 38], vm := .none },
  { cls := 8, slots := #[.long 39], vm := .none },
  { cls := 8, slots := #[.long 40], vm := .none },
  { cls := 8, slots := #[.long 41], vm := .none },
  { cls := 8, slots := #[.long 42], vm := .none },
  { cls := 8, slots := #[.long 43], vm := .none },
  { cls := 8, slots := #[.long 44], vm := .none },
  { cls := 8, slots := #[.long 45], vm := .none },
  { cls := 8, slots := #[.long 46], vm := .none },
  { cls := 8, slots := #[.long 47], vm := .none },
  { cls := 8, slots := #[.long 48], vm := .none },
  { cls := 8, slots := #[.long 49], vm := .none },
  { cls := 8, slots := #[.long 50], vm := .none },
  { cls := 8, slots := #[.long 51], vm := .none },
  { cls := 8, slots := #[.long 52], vm := .none },
  { cls := 8, slots := #[.long 53], vm := .none },
  { cls := 8, slots := #[.long 54], vm := .none },
  { cls := 8, slots := #[.long 55], vm := .none },
  { cls := 8, slots := #[.long 56], vm := .none },
  { cls := 8, slots := #[.long 57], vm := .none },
  { cls := 8, slots := #[.long 58], vm := .none },
  { cls := 8, slots := #[.long 59], vm := .none },
  { cls := 8, slots := #[.long 60], vm := .none },
  { cls := 8, slots := #[.long 61], vm := .none },
  { cls := 8, slots := #[.long 62], vm := .none },
  { cls := 8, slots := #[.long 63], vm := .none },
  { cls := 8, slots := #[.long 64], vm := .none },
  { cls := 8, slots := #[.long 65], vm := .none },
  { cls := 8, slots := #[.long 66], vm := .none },
  { cls := 8, slots := #[.long 67], vm := .none },
  { cls := 8, slots := #[.long 68], vm := .none },
  { cls := 8, slots := #[.long 69], vm := .none },
  { cls := 8, slots := #[.long 70], vm := .none },
  { cls := 8, slots := #[.long 71], vm := .none },
  { cls := 8, slots := #[.long 72], vm := .none },
  { cls := 8, slots := #[.long 73], vm := .none },
  { cls := 8, slots := #[.long 74], vm := .none },
  { cls := 8, slots := #[.long 75], vm := .none },
  { cls := 8, slots := #[.long 76], vm := .none },
  { cls := 8, slots := #[.long 77], vm := .none },
  { cls := 8, slots := #[.long 78], vm := .none },
  { cls := 8, slots := #[.long 79], vm := .none },
  { cls := 8, slots := #[.long 80], vm := .none },
  { cls := 8, slots := #[.long 81], vm := .none },
  { cls := 8, slots := #[.long 82], vm := .none },
  { cls := 8, slots := #[.long 83], vm := .none },
  { cls := 8, slots := #[.long 84], vm := .none },
  { cls := 8, slots := #[.long 85], vm := .none },
  { cls := 8, slots := #[.long 86], vm := .none },
  { cls := 8, slots := #[.long 87], vm := .none },
  { cls := 8, slots := #[.long 88], vm := .none },
  { cls := 8, slots := #[.long 89], vm := .none },
  { cls := 8, slots := #[.long 90], vm := .none },
  { cls := 8, slots := #[.long 91], vm := .none },
  { cls := 8, slots := #[.long 92], vm := .none },
  { cls := 8, slots := #[.long 93], vm := .none },
  { cls := 8, slots := #[.long 94], vm := .none },
  { cls := 8, slots := #[.long 95], vm := .none },
  { cls := 8, slots := #[.long 96], vm := .none },
  { cls := 8, slots := #[.long 97], vm := .none },
  { cls := 8, slots := #[.long 98], vm := .none },
  { cls := 8, slots := #[.long 99], vm := .none },
  { cls := 8, slots := #[.long 100], vm := .none },
  { cls := 8, slots := #[.long 101], vm := .none },
  { cls := 8, slots := #[.long 102], vm := .none },
  { cls := 8, slots := #[.long 103], vm := .none },
  { cls := 8, slots := #[.long 104], vm := .none },
  { cls := 8, slots := #[.long 105], vm := .none },
  { cls := 8, slots := #[.long 106], vm := .none },
  { cls := 8, slots := #[.long 107], vm := .none },
  { cls := 8, slots := #[.long 108], vm := .none },
  { cls := 8, slots := #[.long 109], vm := .none },
  { cls := 8, slots := #[.long 110], vm := .none },
  { cls := 8, slots := #[.long 111], vm := .none },
  { cls := 8, slots := #[.long 112], vm := .none },
  { cls := 8, slots := #[.long 113], vm := .none },
  { cls := 8, slots := #[.long 114], vm := .none },
  { cls := 8, slots := #[.long 115], vm := .none },
  { cls := 8, slots := #[.long 116], vm := .none },
  { cls := 8, slots := #[.long 117], vm := .none },
  { cls := 8, slots := #[.long 118], vm := .none },
  { cls := 8, slots := #[.long 119], vm := .none },
  { cls := 8, slots := #[.long 120], vm := .none },
  { cls := 8, slots := #[.long 121], vm := .none },
  { cls := 8, slots := #[.long 122], vm := .none },
  { cls := 8, slots := #[.long 123], vm := .none },
  { cls := 8, slots := #[.long 124], vm := .none },
  { cls := 8, slots := #[.long 125], vm := .none },
  { cls := 8, slots := #[.long 126], vm := .none },
  { cls := 8, slots := #[.long 127], vm := .none }]
def classes : Array Class := #[k0, k1, k2, k3, k4, k5, k6, k7, k8, k9, k10, k11, k12, k13, k14, k15]
def interned : List (Array UInt16 × Addr) := []
def slotsUsed : Nat := 515
def theMethod : MethodId := ⟨1, 1⟩
def args0 : Array Value := #[.long 5, .long 5, .long 5, .long 5, .int 5]
def aboutOver (below : List Frame) : State where
  vm := { classes := classes, interned := interned.toArray }
  heap := heap
  slotsUsed := slotsUsed
  threads := #[{ frames := .invoking theMethod args0 :: below }]
def below0 : List Frame := [.native { method := ⟨0, 0⟩, args := #[] }]
def about1 : State := aboutOver below0
def p0 : Program := .bare "" "" ""
def e0 : Env := launch0.env 0 0 0
theorem w_frames : about1.frames = Frame.invoking theMethod args0 :: below0 := rfl
set_option maxRecDepth 65536 in
theorem w_args : argsFit about1.vm theMethod args0 = true := by decide +kernel
set_option maxRecDepth 65536 in
theorem w_heap : heapFits about1 = true := by decide +kernel
set_option maxRecDepth 65536 in
theorem w_runnable : about1.curStatus? = some .runnable := by decide +kernel
set_option maxRecDepth 65536 in
theorem w_alone : about1.alone = true := by decide +kernel
set_option maxRecDepth 65536 in
theorem w_named : about1.methodNamed? x = some theMethod := by decide +kernel
set_option maxRecDepth 65536 in
theorem w_hears : about1.hears theMethod below0 = true := by decide +kernel
set_option maxRecDepth 65536 in
theorem w_ripe : about1.ripe theMethod args0 below0 = true := by decide +kernel
theorem w_running : about1.status = .running := rfl
set_option maxRecDepth 65536 in
theorem w_room : about1.hasRoom e0.platform room_1 = true :=
  launch0.hasRoom_least _ room_1 (by decide +kernel) (by decide +kernel) (by decide +kernel) (by decide +kernel) (by decide +kernel) (by decide +kernel)
theorem allAtoms_all (ts : List Jvm.Cond) (a : Array Jvm.Value) (st : Jvm.State) : (allAtoms ts).before a st = ts.all (fun c => c.before a st) := by
  induction ts with
  | nil => rfl
  | cons c t ih =>
    show (Jvm.Cond.and c (allAtoms t)).before a st = _
    rw [Jvm.Cond.before_and, ih, List.all_cons]
def words1 : List Jvm.Cond := Jvm.Cond.code x code maxLocals ret :: tables_1
/-- a 'code' word, met by the world's own term for the bytes: nothing is compared byte by byte -/
theorem code_word {y : MethodName} {bytes : ByteArray} {mx : Nat} {rt : Option FieldType} {a : Array Value} {s : State} {m : MethodId} {meth : Method} {c : Code} (h1 : s.methodNamed? y = some m) (h2 : s.vm.method? m = some meth) (h3 : meth.code = some c) (h4 : c.code = bytes)
    (h5 : (c.maxLocals == mx && c.exceptionTable.isEmpty && decide (c.maxStack ≤ mostOperands) && decide (meth.sig.returnType = rt) && !meth.locks && decide (parseMethodDescriptor y.desc = some meth.sig)) = true) : (Jvm.Cond.code y bytes mx rt).before a s = true := by
  simp only [Bool.and_eq_true, beq_iff_eq, Bool.not_eq_true', decide_eq_true_eq] at h5
  obtain ⟨⟨⟨⟨⟨g1, g2⟩, g3⟩, g4⟩, g5⟩, g6⟩ := h5
  simp [Cond.before, Cond.holds, Cond.value, h1, h2, h3, h4, g1, g2, g3, g4, g5, g6]
def isCode : Jvm.Cond → Bool
  | .code _ _ _ _ => true
  | _ => false
theorem all_split {L : List Jvm.Cond} {P : Jvm.Cond → Bool} (h1 : L.all (fun c => isCode c || P c) = true) (h2 : ∀ c ∈ L.filter isCode, P c = true) : L.all P = true := by
  refine List.all_eq_true.mpr fun c hc => ?_
  have h := List.all_eq_true.mp h1 c hc
  rcases Bool.eq_false_or_eq_true (isCode c) with hi | hi
  · exact h2 c (List.mem_filter.mpr ⟨hc, hi⟩)
  · simpa [hi] using h
set_option maxRecDepth 65536 in
theorem w_c0 : (Jvm.Cond.code x code maxLocals ret).before args0 about1 = true := code_word (m := ⟨1, 1⟩) (meth := k1m1) (c := k1c1) (by decide +kernel) rfl rfl rfl (by decide +kernel)
set_option maxRecDepth 65536 in
theorem w_c1 : (Jvm.Cond.code ({ cls := "com/example/retain/retain/session/QueueLimits", name := "<init>", desc := "(JJ)V" } : Jvm.MethodName) prog_71_method_1_code (5 : Nat) (Option.none : Option Jvm.ClassFile.FieldType)).before args0 about1 = true := code_word (m := ⟨2, 0⟩) (meth := k2m0) (c := k2c0) (by decide +kernel) rfl rfl rfl (by decide +kernel)
set_option maxRecDepth 65536 in
theorem w_c2 : (Jvm.Cond.code ({ cls := "java/lang/Object", name := "<init>", desc := "()V" } : Jvm.MethodName) object_method_1_code (1 : Nat) (Option.none : Option Jvm.ClassFile.FieldType)).before args0 about1 = true := code_word (m := ⟨0, 0⟩) (meth := k0m0) (c := k0c0) (by decide +kernel) rfl rfl rfl (by decide +kernel)
set_option maxRecDepth 65536 in
theorem w_c3 : (Jvm.Cond.code ({ cls := "java/lang/Long", name := "valueOf", desc := "(J)Ljava/lang/Long;" } : Jvm.MethodName) jdk_35_method_24_code (3 : Nat) (Option.some (Jvm.ClassFile.FieldType.object "java/lang/Long"))).before args0 about1 = true := code_word (m := ⟨8, 0⟩) (meth := k8m0) (c := k8c0) (by decide +kernel) rfl rfl rfl (by decide +kernel)
set_option maxRecDepth 65536 in
theorem w_c4 : (Jvm.Cond.code ({ cls := "com/example/retain/retain/session/QueueLimits", name := "equals", desc := "(Ljava/lang/Object;)Z" } : Jvm.MethodName) prog_71_method_4_code (3 : Nat) (Option.some Jvm.ClassFile.FieldType.boolean)).before args0 about1 = true := code_word (m := ⟨2, 1⟩) (meth := k2m1) (c := k2c1) (by decide +kernel) rfl rfl rfl (by decide +kernel)
set_option maxRecDepth 65536 in
theorem w_c5 : (Jvm.Cond.code ({ cls := "java/lang/Long", name := "<init>", desc := "(J)V" } : Jvm.MethodName) jdk_35_method_26_code (3 : Nat) (Option.none : Option Jvm.ClassFile.FieldType)).before args0 about1 = true := code_word (m := ⟨8, 1⟩) (meth := k8m1) (c := k8c1) (by decide +kernel) rfl rfl rfl (by decide +kernel)
set_option maxRecDepth 65536 in
theorem w_c6 : (Jvm.Cond.code ({ cls := "java/lang/Number", name := "<init>", desc := "()V" } : Jvm.MethodName) jdk_18_method_1_code (1 : Nat) (Option.none : Option Jvm.ClassFile.FieldType)).before args0 about1 = true := code_word (m := ⟨4, 0⟩) (meth := k4m0) (c := k4c0) (by decide +kernel) rfl rfl rfl (by decide +kernel)
def codes1 : List Jvm.Cond := [Jvm.Cond.code x code maxLocals ret, Jvm.Cond.code ({ cls := "com/example/retain/retain/session/QueueLimits", name := "<init>", desc := "(JJ)V" } : Jvm.MethodName) prog_71_method_1_code (5 : Nat) (Option.none : Option Jvm.ClassFile.FieldType), Jvm.Cond.code ({ cls := "java/lang/Object", name := "<init>", desc := "()V" } : Jvm.MethodName) object_method_1_code (1 : Nat) (Option.none : Option Jvm.ClassFile.FieldType), Jvm.Cond.code ({ cls := "java/lang/Long", name := "valueOf", desc := "(J)Ljava/lang/Long;" } : Jvm.MethodName) jdk_35_method_24_code (3 : Nat) (Option.some (Jvm.ClassFile.FieldType.object "java/lang/Long")), Jvm.Cond.code ({ cls := "com/example/retain/retain/session/QueueLimits", name := "equals", desc := "(Ljava/lang/Object;)Z" } : Jvm.MethodName) prog_71_method_4_code (3 : Nat) (Option.some Jvm.ClassFile.FieldType.boolean), Jvm.Cond.code ({ cls := "java/lang/Long", name := "<init>", desc := "(J)V" } : Jvm.MethodName) jdk_35_method_26_code (3 : Nat) (Option.none : Option Jvm.ClassFile.FieldType), Jvm.Cond.code ({ cls := "java/lang/Number", name := "<init>", desc := "()V" } : Jvm.MethodName) jdk_18_method_1_code (1 : Nat) (Option.none : Option Jvm.ClassFile.FieldType)]
set_option maxRecDepth 65536 in
theorem codes_eq : words1.filter isCode = codes1 := rfl
theorem w_codes : ∀ c ∈ words1.filter isCode, c.before args0 about1 = true := by
  rw [codes_eq]
  intro c hc
  simp only [codes1, List.mem_cons, List.not_mem_nil, or_false] at hc
  rcases hc with rfl | rfl | rfl | rfl | rfl | rfl | rfl
  · exact w_c0
  · exact w_c1
  · exact w_c2
  · exact w_c3
  · exact w_c4
  · exact w_c5
  · exact w_c6
set_option maxRecDepth 65536 in
theorem w_t1 : (words1.take 24).all (fun c => isCode c || c.before args0 about1) = true := by decide +kernel
set_option maxRecDepth 65536 in
theorem w_t2 : (words1.drop 24).all (fun c => isCode c || c.before args0 about1) = true := by decide +kernel
theorem w_tables : (allAtoms (Jvm.Cond.code x code maxLocals ret :: tables_1)).before args0 about1 = true := by
  rw [allAtoms_all]
  show words1.all (fun c => c.before args0 about1) = true
  refine all_split ?_ w_codes
  rw [← List.take_append_drop 24 words1, List.all_append, w_t1, w_t2]
  rfl
set_option maxRecDepth 65536 in
theorem w_rest : rest_1_c.before args0 about1 = true := by decide +kernel
set_option maxRecDepth 65536 in
theorem w_case : (Jvm.Cond.and given_1 narrow_1).before args0 about1 = true := by decide +kernel
theorem w_applies : (headSpec (Jvm.Cond.code x code maxLocals ret :: tables_1) room_1).applies x e0.platform about1 = true :=
  (Spec.applies_iff w_frames).mpr ⟨w_running, w_runnable, w_alone, w_named, w_hears, w_ripe, w_room, w_tables⟩
theorem atStart : AtStart classFile x code maxLocals ret World_1 tables_1 room_1 Calls_1 rest_1 Pre_1 launch0 p0 e0 about1 theMethod args0 below0 :=
  ⟨lists_1, trivial, launch0.admits_env _ _ _, launch0.least_env, fairChoices_fair.cas, fairChoices_fair.clock, w_frames, w_args, w_heap, w_applies, trivial, w_rest, w_case⟩
end start1
theorem witness_1 : WitnessClaimed_1 := ⟨start1.p0, start1.e0, start1.about1, start1.theMethod, start1.args0, start1.below0, start1.atStart⟩
end Jvm.Pilot.@@N@@
