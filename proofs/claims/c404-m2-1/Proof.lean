import JvmDerived
import JvmDerived.Pilot.@@N@@Statement
import JvmDerived.Pilot.@@N@@Code
set_option linter.unusedVariables false
set_option linter.unusedSimpArgs false
namespace Jvm.Pilot.@@N@@
open Jvm Jvm.ClassFile Sem Op Lib Jvm.Free Jvm.Stand Jvm.LawKit Jvm.RoadKit Bundle Jvm.Pilot.@@N@@.Jvm.D
def Go (p : Program) (e : Env) (below : List Frame) (s : State) (Q : Option Value → Heap → List Loc → Prop) (C S : Nat) (V : State) : Prop :=
  ∃ (U : State) (o : Outcome), Steps p.tables e below V U ∧ U.status = .running ∧ Ended U below o ∧ ∃ v L, o = .returned v ∧ Q v U.heap L ∧ FrameEnd s o U L C S
def Ga (p : Program) (e : Env) (below : List Frame) (s : State) (Q : Option Value → Heap → List Loc → Prop) (C S : Nat) (T : State) (m : MethodId) (pc : Nat) (Ls : Array Slot) (st : List Value) : Prop :=
  Go p e below s Q C S (T.setTop (mkF m pc Ls st))
abbrev Ct (l : Launch) (Z : State) (y : MethodName) (bytes : ByteArray) (maxL : Nat) (ret : Option FieldType) (ws : List Jvm.Cond) (rm : Room) (as' : Array Value) (h0 : Heap) (Q : Option Value → Heap → List Loc → Prop) : Prop :=
  MetFree l y (head1 (Jvm.Cond.code y bytes maxL ret :: ws) rm) (fun a U => a = as' ∧ Z.Warmed39 U.vm ∧ U.heap = h0) (fun _ _ _ _ _ => True) (fun _ U o U' => ∃ v L, o = .returned v ∧ Q v U'.heap L ∧ FrameEnd U o U' L rm.cells rm.slots)
section GoKit
variable {p : Program} {l : Launch} {e : Env} {R : Room} {s : State} {m : MethodId} {args : Array Value} {below : List Frame} {meth : Method} {c : Code} {T T' : State} {locs : List Loc} {cells slots : Nat} {Q : Option Value → Heap → List Loc → Prop} {C S : Nat} {Z : State} {a0 : Array Value} {h : Heap} {pc q pc' : Nat} {Ls Ls' : Array Slot} {st st' : List Value} {own : String}
theorem Ga.stp (k : ∀ t, Steps p.tables e below (T'.setTop (mkF m pc' Ls' st')) t → Steps p.tables e below (T.setTop (mkF m pc Ls st)) t) (g : Ga p e below s Q C S T' m pc' Ls' st') : Ga p e below s Q C S T m pc Ls st := by
  obtain ⟨U, o, h, r⟩ := g
  exact ⟨U, o, k _ h, r⟩
theorem own_body {y : MethodName} {bytes : ByteArray} {maxL : Nat} {ret : Option FieldType} {ws : List Jvm.Cond} {rm : Room} {h0 : Heap} {as' : Array Value} (hpl : plainFor y = true) (hef : ∀ m, entryFrame m as' maxL = mkF m 0 Ls [])
    (body : ∀ (p : Program) (e : Env) (s : State) (m : MethodId) (below : List Frame) (meth : Method) (c : Code) (T : State), p.tables.exec = Jvm.exec → c.code = bytes → c.maxLocals = maxL → Z.Warmed39 s.vm → s.vm.findClass y.cls = some m.cls → meth.name = y.name → meth.sig.returnType = ret → meth.locks = false →
      Stand p l e rm s m as' below meth c T [] 0 0 → T.heap = h0 → Ga p e below s Q rm.cells rm.slots T m 0 Ls []) : Ct l Z y bytes maxL ret ws rm as' h0 Q := by
  refine MetFree.of_bodySF hpl hisR ?_
  intro p e s m args below meth c s₁ Bd hml0 hP hK
  obtain ⟨rfl, hZ, hh⟩ := hP
  have X0 : Stand p l e rm s m args below meth c s₁ [] 0 0 := Stand.of_body Bd
  have e0 : s₁.heap = h0 := by rw [← hh, Bd.state]; rfl
  obtain ⟨U, o, g1, g2⟩ := body p e s m below meth c s₁ Bd.exec Bd.bytes hml0 hZ (findClass_of_methodNamed Bd.named) (name_of_methodNamed Bd.named Bd.method).1 Bd.returns (BodyLoose.notSynchronized Bd) X0 e0
  exact ⟨U, o, castTop (hef m) g1, g2⟩
theorem Ga.out (X : Stand p l e R s m args below meth c T locs cells slots) {v : Option Value} (hlk : meth.locks = false) (hv : meth.sig.returnType = none → v = none) (hc : cells ≤ C) (hs : slots ≤ S) (hq : Q v T.heap locs)
    (k : ∀ fs, (∀ (f : JFrame) (acts : List Action), f.method = m → f.locked = none → f.entered = [] → (doReturn e (T.setTop f) acts v).1 = T.setFrames fs) → Steps p.tables e below (T.setTop (mkF m pc Ls st)) (T.setFrames fs)) : Ga p e below s Q C S T m pc Ls st := by
  obtain ⟨fs, hr, hrun, hended, hW, hsame⟩ := X.leave (v := v) hv hlk
  exact ⟨_, _, k fs hr, hrun, hended, _, _, rfl, hq, ⟨_, rfl⟩, hW, hsame.mono hc hs⟩
theorem g_iloadN (X : Stand p l e R s m args below meth c T locs cells slots) (hx : p.tables.exec = Jvm.exec) {k : Fin 4} {v : Int32} (hd : decode c.code pc = .ok (.iload_n k, 1)) (hp : pc + 1 = q) (hl : Ls[k.val]? = some (.val (.int v))) (g : Ga p e below s Q C S T m q Ls (.int v :: st)) : Ga p e below s Q C S T m pc Ls st := by
  subst hp
  exact Ga.stp (fun _ k => XS.iloadN X.here hx rfl hd hl k) g
theorem g_iload (X : Stand p l e R s m args below meth c T locs cells slots) (hx : p.tables.exec = Jvm.exec) {k : Nat} {v : Int32} (hd : decode c.code pc = .ok (.iload k, 2)) (hp : pc + 2 = q) (hl : Ls[k]? = some (.val (.int v))) (g : Ga p e below s Q C S T m q Ls (.int v :: st)) : Ga p e below s Q C S T m pc Ls st := by
  subst hp
  exact Ga.stp (fun _ k => XS.iload X.here hx rfl hd hl k) g
theorem g_aloadN (X : Stand p l e R s m args below meth c T locs cells slots) (hx : p.tables.exec = Jvm.exec) {k : Fin 4} {v : Value} (hd : decode c.code pc = .ok (.aload_n k, 1)) (hp : pc + 1 = q) (hl : Ls[k.val]? = some (.val v)) (hv : v.isRef = true) (g : Ga p e below s Q C S T m q Ls (v :: st)) : Ga p e below s Q C S T m pc Ls st := by
  subst hp
  exact Ga.stp (fun _ k => XS.aloadN X.here hx rfl hd hl hv k) g
theorem g_aload (X : Stand p l e R s m args below meth c T locs cells slots) (hx : p.tables.exec = Jvm.exec) {k : Nat} {v : Value} (hd : decode c.code pc = .ok (.aload k, 2)) (hp : pc + 2 = q) (hl : Ls[k]? = some (.val v)) (hv : v.isRef = true) (g : Ga p e below s Q C S T m q Ls (v :: st)) : Ga p e below s Q C S T m pc Ls st := by
  subst hp
  exact Ga.stp (fun _ k => XS.aload X.here hx rfl hd hl hv k) g
theorem g_istoreN (X : Stand p l e R s m args below meth c T locs cells slots) (hx : p.tables.exec = Jvm.exec) {k : Fin 4} {x : Int32} (hd : decode c.code pc = .ok (.istore_n k, 1)) (hp : pc + 1 = q) (hl : storeLocals Ls k.val (.int x) = some Ls') (g : Ga p e below s Q C S T m q Ls' st) : Ga p e below s Q C S T m pc Ls (.int x :: st) := by
  subst hp
  exact Ga.stp (fun _ k => XS.istoreN X.here hx rfl hd rfl hl k) g
theorem g_astore (X : Stand p l e R s m args below meth c T locs cells slots) (hx : p.tables.exec = Jvm.exec) {k : Nat} {x : Value} (hd : decode c.code pc = .ok (.astore k, 2)) (hp : pc + 2 = q) (hv : x.isRef = true) (hl : storeLocals Ls k x = some Ls') (g : Ga p e below s Q C S T m q Ls' st) : Ga p e below s Q C S T m pc Ls (x :: st) := by
  subst hp
  exact Ga.stp (fun _ k => XS.astore X.here hx rfl hd rfl hv hl k) g
theorem g_iconst (X : Stand p l e R s m args below meth c T locs cells slots) (hx : p.tables.exec = Jvm.exec) {i : Int} {r : Int32} (hd : decode c.code pc = .ok (.iconst i, 1)) (hp : pc + 1 = q) (hr : Int32.ofInt i = r) (g : Ga p e below s Q C S T m q Ls (.int r :: st)) : Ga p e below s Q C S T m pc Ls st := by
  subst hp hr
  exact Ga.stp (fun _ k => XS.iconst X.here hx rfl hd k) g
theorem g_iand (X : Stand p l e R s m args below meth c T locs cells slots) (hx : p.tables.exec = Jvm.exec) {x y r : Int32} (hd : decode c.code pc = .ok (.iand, 1)) (hp : pc + 1 = q) (hr : x &&& y = r) (g : Ga p e below s Q C S T m q Ls (.int r :: st)) : Ga p e below s Q C S T m pc Ls (.int y :: .int x :: st) := by
  subst hp hr
  exact Ga.stp (fun _ k => XS.iand X.here hx rfl hd rfl k) g
theorem g_dup (X : Stand p l e R s m args below meth c T locs cells slots) (hx : p.tables.exec = Jvm.exec) {x : Value} (hd : decode c.code pc = .ok (.dup, 1)) (hp : pc + 1 = q) (hc : x.category = 1) (g : Ga p e below s Q C S T m q Ls (x :: x :: st)) : Ga p e below s Q C S T m pc Ls (x :: st) := by
  subst hp
  exact Ga.stp (fun _ k => XS.dup X.here hx rfl hd rfl hc k) g
theorem g_goto (X : Stand p l e R s m args below meth c T locs cells slots) (hx : p.tables.exec = Jvm.exec) {o : Int} (hd : decode c.code pc = .ok (.goto o, 3)) (ho : 0 ≤ (pc : Int) + o) (hp : ((pc : Int) + o).toNat = q) (g : Ga p e below s Q C S T m q Ls st) : Ga p e below s Q C S T m pc Ls st :=
  Ga.stp (fun _ k => XS.goto X.here hx rfl rfl hd ho hp k) g
theorem g_ifN (X : Stand p l e R s m args below meth c T locs cells slots) (hx : p.tables.exec = Jvm.exec) {cd : ClassFile.Cond} {x : Int32} {o : Int} (hd : decode c.code pc = .ok (.ifCond cd o, 3)) (hp : pc + 3 = q) (hc : ifCond.holds cd x = false) (g : Ga p e below s Q C S T m q Ls st) : Ga p e below s Q C S T m pc Ls (.int x :: st) := by
  subst hp
  exact Ga.stp (fun _ k => XS.ifNo X.here hx rfl hd rfl hc k) g
theorem g_icmpY (X : Stand p l e R s m args below meth c T locs cells slots) (hx : p.tables.exec = Jvm.exec) {cd : ClassFile.Cond} {x y : Int32} {o : Int} (hd : decode c.code pc = .ok (.if_icmp cd o, 3)) (hc : if_icmp.holds cd x y = true) (ho : 0 ≤ (pc : Int) + o) (hp : ((pc : Int) + o).toNat = q) (g : Ga p e below s Q C S T m q Ls st) : Ga p e below s Q C S T m pc Ls (.int y :: .int x :: st) :=
  Ga.stp (fun _ k => XS.icmpYes X.here hx rfl rfl hd rfl hc ho hp k) g
theorem g_icmpN (X : Stand p l e R s m args below meth c T locs cells slots) (hx : p.tables.exec = Jvm.exec) {cd : ClassFile.Cond} {x y : Int32} {o : Int} (hd : decode c.code pc = .ok (.if_icmp cd o, 3)) (hp : pc + 3 = q) (hc : if_icmp.holds cd x y = false) (g : Ga p e below s Q C S T m q Ls st) : Ga p e below s Q C S T m pc Ls (.int y :: .int x :: st) := by
  subst hp
  exact Ga.stp (fun _ k => XS.icmpNo X.here hx rfl hd rfl hc k) g
theorem g_retI (X : Stand p l e R s m args below meth c T locs cells slots) (hx : p.tables.exec = Jvm.exec) {z : Int32} (hret : meth.sig.returnType = some .int) (hlk : meth.locks = false) (hd : decode c.code pc = .ok (.ireturn, 1)) (hc : cells ≤ C) (hs : slots ≤ S) (hq : Q (some (.int z)) T.heap locs) : Ga p e below s Q C S T m pc Ls (.int z :: st) :=
  Ga.out X hlk (fun h => by rw [hret] at h; cases h) hc hs hq fun fs hr => retOut X hx hret rfl (Or.inl ⟨rfl, Or.inl rfl, z, rfl⟩) hd hr
theorem g_retN (X : Stand p l e R s m args below meth c T locs cells slots) (hx : p.tables.exec = Jvm.exec) {z r : Int32} {t : FieldType} (hret : meth.sig.returnType = some t) (ht : t = .boolean ∨ t = .byte ∨ t = .char ∨ t = .short) (hlk : meth.locks = false) (hd : decode c.code pc = .ok (.ireturn, 1)) (hr : nar t z = r) (hc : cells ≤ C) (hs : slots ≤ S) (hq : Q (some (.int r)) T.heap locs) : Ga p e below s Q C S T m pc Ls (.int z :: st) := by
  subst hr
  exact Ga.out X hlk (fun h => by rw [hret] at h; cases h) hc hs hq fun fs hr => retN X hx hret ht hd hr
theorem g_retR (X : Stand p l e R s m args below meth c T locs cells slots) (hx : p.tables.exec = Jvm.exec) {w : Value} {t : FieldType} (hret : meth.sig.returnType = some t) (hlk : meth.locks = false) (ht : t.isReference = true) (hn : narrow t w = w) (hw : w.isRef = true) (hd : decode c.code pc = .ok (.areturn, 1)) (hc : cells ≤ C) (hs : slots ≤ S) (hq : Q (some w) T.heap locs) : Ga p e below s Q C S T m pc Ls (w :: st) :=
  Ga.out X hlk (fun h => by rw [hret] at h; cases h) hc hs hq fun fs hr => retOut X hx hret hn (Or.inr (Or.inr (Or.inr (Or.inr ⟨rfl, ht, hw⟩)))) hd hr
theorem g_ret (X : Stand p l e R s m args below meth c T locs cells slots) (hx : p.tables.exec = Jvm.exec) (hret : meth.sig.returnType = none) (hlk : meth.locks = false) (hd : decode c.code pc = .ok (.return_, 1)) (hc : cells ≤ C) (hs : slots ≤ S) (hq : Q none T.heap locs) : Ga p e below s Q C S T m pc Ls [] :=
  Ga.out X hlk (fun _ => rfl) hc hs hq fun fs hr => X.returnOut hx hret hd hr
theorem g_ldcI (X : Stand p l e R s m args below meth c T locs cells slots) (hx : p.tables.exec = Jvm.exec) (hZ : Z.Warmed39 s.vm) (hown : s.vm.findClass own = some m.cls) {index : Nat} {v : Int32} (w : (Cond.constant own index v).before a0 Z = true) (hd : decode c.code pc = .ok (.ldc index, 2)) (hp : pc + 2 = q) (g : Ga p e below s Q C S T m q Ls (.int v :: st)) : Ga p e below s Q C S T m pc Ls st := by
  subst hp
  exact Ga.stp (fun t k => X.ldcInt hx hown (mvT hZ w) (g := mkF m pc Ls st) rfl hd t k) g
theorem g_new (X : Stand p l e R s m args below meth c T locs cells slots) (hx : p.tables.exec = Jvm.exec) (hZ : Z.Warmed39 s.vm) (hown : s.vm.findClass own = some m.cls) {K : String} {index n : Nat} (w : (Cond.classLink own index K).before a0 Z = true) (wi : (Cond.instantiable K n).before a0 Z = true) (wz : (Cond.initialized K).before a0 Z = true) (eT : T.heap = h)
    (hd : decode c.code pc = .ok (.new index, 3)) (hp : pc + 3 = q) (hc : cells + 1 ≤ R.cells) (hl : slots + n ≤ R.slots)
    (k : ∀ T' h' b, Stand p l e R s m args below meth c T' locs (cells + 1) (slots + n) → T'.heap = h' → b = h.size → Ext h h' → Exa Z h' b K → (∀ {O nm d : String} {ty : FieldType}, Laid Z a0 K O nm d → parseFieldDescriptor d = some ty → Fld Z h' b O nm d (defaultValue ty)) → Ga p e below s Q C S T' m q Ls (.ref b :: st)) : Ga p e below s Q C S T m pc Ls st := by
  subst hp
  obtain ⟨T', h', X', e', E', A', D', -, sx⟩ := newO X hx hZ hown w wi wz eT (g := mkF m pc Ls st) rfl hd hc hl
  exact Ga.stp sx (k T' h' _ X' e' rfl E' A' D')
theorem g_getF (X : Stand p l e R s m args below meth c T locs cells slots) (hx : p.tables.exec = Jvm.exec) (hZ : Z.Warmed39 s.vm) (hown : s.vm.findClass own = some m.cls) {R0 O n d host : String} {index : Nat} (w : (Cond.fieldLink own index R0 n d).before a0 Z = true ∨ (Cond.fieldLinkNest own index R0 n d host).before a0 Z = true) (via : Via Z R0 O n d) (eT : T.heap = h) {a : Addr} {v : Value} (F : Fld Z h a O n d v)
    (hd : decode c.code pc = .ok (.getfield index, 3)) (hp : pc + 3 = q) (k : ∀ T', Stand p l e R s m args below meth c T' locs cells slots → T'.heap = h → Ga p e below s Q C S T' m q Ls (v :: st)) : Ga p e below s Q C S T m pc Ls (.ref a :: st) := by
  subst hp
  obtain ⟨T', X', e', sx⟩ := getF X hx hZ hown w via eT F (g := mkF m pc Ls (.ref a :: st)) rfl rfl hd
  exact Ga.stp sx (k T' X' e')
theorem g_putF (X : Stand p l e R s m args below meth c T locs cells slots) (hx : p.tables.exec = Jvm.exec) (hZ : Z.Warmed39 s.vm) (hown : s.vm.findClass own = some m.cls) {R0 O n d host K : String} {index kk : Nat} {ty : FieldType} (w : (Cond.fieldLink own index R0 n d).before a0 Z = true ∨ (Cond.fieldLinkNest own index R0 n d host).before a0 Z = true) (via : Via Z R0 O n d) (eT : T.heap = h) {a : Addr} {v old : Value} (F : Fld Z h a O n d old) (E : Exa Z h a K)
    (L : (Cond.lays K O n d).before a0 Z = true ∨ ((Cond.laysFinal K O n d).before a0 Z = true ∧ own = O ∧ meth.name = "<init>")) (wi : (Cond.instantiable K kk).before a0 Z = true) (hty : parseFieldDescriptor d = some ty) (hn : narrow ty v = v) (hf : fits ty v = true)
    (hd : decode c.code pc = .ok (.putfield index, 3)) (hp : pc + 3 = q) (k : ∀ T' h', Stand p l e R s m args below meth c T' (locs ++ [⟨a, Jvm.RoadKit.slotOf Z O n d⟩]) cells slots → T'.heap = h' → Wr h h' a (Jvm.RoadKit.slotOf Z O n d) v → Fld Z h' a O n d v → Ga p e below s Q C S T' m q Ls st) : Ga p e below s Q C S T m pc Ls (v :: .ref a :: st) := by
  subst hp
  obtain ⟨T', h', X', e', W', sx⟩ := putF X hx hZ hown w via eT F E L wi hty hn hf (g := mkF m pc Ls (v :: .ref a :: st)) rfl rfl hd
  exact Ga.stp sx (k T' h' X' e' W' (F.same W'))
theorem g_initO (X : Stand p l e R s m args below meth c T locs cells slots) (hx : p.tables.exec = Jvm.exec) (hZ : Z.Warmed39 s.vm) (hown : s.vm.findClass own = some m.cls) {idx : Nat} (w1 : (Cond.methodLink own idx Lib.objectInit).before a0 Z = true) (w2 : (Cond.instanceMethod Lib.objectInit).before a0 Z = true) (w3 : (Cond.code Lib.objectInit ⟨#[0xb1]⟩ 1 none).before a0 Z = true) (eT : T.heap = h) (hsz : Ls.size = c.maxLocals) {a : Addr}
    (hd : decode c.code pc = .ok (.invokespecial idx, 3)) (hp : pc + 3 = q) (hf : 1 ≤ R.frames) {W : Nat} (hW : (st.map fun v => v.category).sum ≤ W) (hl : W + 12 ≤ R.locals) (k : ∀ T', Stand p l e R s m args below meth c T' locs cells slots → T'.heap = h → Ga p e below s Q C S T' m q Ls st) : Ga p e below s Q C S T m pc Ls (.ref a :: st) := by
  subst hp
  obtain ⟨T', X', e', sx⟩ := initO X hx hZ hown w1 w2 w3 eT (g := mkF m pc Ls (.ref a :: st)) rfl hsz rfl hd hf (W := W) (by show 2 * 0 + _ ≤ _; omega) hl
  exact Ga.stp sx (k T' X' e')
theorem g_static (X : Stand p l e R s m args below meth c T locs cells slots) (hx : p.tables.exec = Jvm.exec) (hZ : Z.Warmed39 s.vm) (hown : s.vm.findClass own = some m.cls) {index : Nat} {y : MethodName} {ret : Option FieldType} {bytes : ByteArray} {maxL : Nat} {rm : Room} {as' : Array Value} {Q' : Option Value → Heap → List Loc → Prop} (w1 : (Cond.methodLink own index y).before a0 Z = true) (w2 : (Cond.static y).before a0 Z = true) (w3 : (Cond.initialized y.cls).before a0 Z = true) (w4 : (Cond.code y bytes maxL ret).before a0 Z = true) (hy : y.cls ≠ "java/lang/invoke/MethodHandle" ∧ y.cls ≠ "java/lang/invoke/VarHandle")
    (hM : Ct l Z y bytes maxL ret [] rm as' h Q') (hsz : Ls.size = c.maxLocals) (eT : T.heap = h) (argsL : List Value) {rest : List Value} (has : as' = argsL.toArray) (hst : st = argsL.reverse ++ rest) {W : Nat} (hW : (rest.map fun v => v.category).sum ≤ W) (hf : rm.frames + 1 ≤ R.frames) (hl : W + (maxL + 11) + rm.locals ≤ R.locals) (hcl : cells + rm.cells ≤ R.cells) (hsl : slots + rm.slots ≤ R.slots) (hlen : ∀ sig, parseMethodDescriptor y.desc = some sig → argsL.length = sig.parameters.length) (hd : decode c.code pc = .ok (.invokestatic index, 3)) (hp : pc + 3 = q) (k : ∀ v T' L, Stand p l e R s m args below meth c T' (locs ++ L) (cells + rm.cells) (slots + rm.slots) → Q' v T'.heap L → Ga p e below s Q C S T' m q Ls (v.toList ++ rest)) : Ga p e below s Q C S T m pc Ls st := by
  subst hp has hst
  obtain ⟨_, _, ⟨T', L', k', n'⟩, -, X', ⟨Lc, hQ', l1, y1, z1⟩, sx⟩ := Jvm.LawKit.callS X hx (y := y) hown (mvT hZ w1) (mvT hZ w2) (mvT hZ w3) (mvT hZ w4) hy (backOf (W := W) hM hZ w4 w3 hf hl) (g := mkF m pc Ls (argsL.reverse ++ rest)) rfl hsz (argsL := argsL) (rest := rest) hlen rfl (by show 2 * 0 + _ ≤ _; omega) hd (fun _ _ => ⟨rfl, eT, hcl, hsl⟩)
  dsimp only [Pt.U, Pt.locs, Pt.cells, Pt.slots] at X' l1 y1 z1 sx hQ'
  subst l1 y1 z1
  exact Ga.stp sx (k _ T' Lc X' hQ')
theorem g_special (X : Stand p l e R s m args below meth c T locs cells slots) (hx : p.tables.exec = Jvm.exec) (hZ : Z.Warmed39 s.vm) (hown : s.vm.findClass own = some m.cls) {index : Nat} {y : MethodName} {bytes : ByteArray} {maxL : Nat} {rm : Room} {as' : Array Value} {Q' : Option Value → Heap → List Loc → Prop} (hy1 : y.name = "<init>") (w1 : (Cond.methodLink own index y).before a0 Z = true) (w2 : (Cond.instanceMethod y).before a0 Z = true) (w3 : (Cond.initialized y.cls).before a0 Z = true) (w4 : (Cond.code y bytes maxL none).before a0 Z = true) (hy : y.cls ≠ "java/lang/invoke/MethodHandle" ∧ y.cls ≠ "java/lang/invoke/VarHandle") {a : Addr}
    (hM : Ct l Z y bytes maxL none [] rm as' h Q') (hsz : Ls.size = c.maxLocals) (eT : T.heap = h) (argsL : List Value) {rest : List Value} (has : as' = (.ref a :: argsL).toArray) (hst : st = argsL.reverse ++ .ref a :: rest) {W : Nat} (hW : (rest.map fun v => v.category).sum ≤ W) (hf : rm.frames + 1 ≤ R.frames) (hl : W + (maxL + 11) + rm.locals ≤ R.locals) (hcl : cells + rm.cells ≤ R.cells) (hsl : slots + rm.slots ≤ R.slots) (hlen : ∀ sig, parseMethodDescriptor y.desc = some sig → argsL.length = sig.parameters.length) (hd : decode c.code pc = .ok (.invokespecial index, 3)) (hp : pc + 3 = q) (k : ∀ v T' L, Stand p l e R s m args below meth c T' (locs ++ L) (cells + rm.cells) (slots + rm.slots) → Q' v T'.heap L → Ga p e below s Q C S T' m q Ls (v.toList ++ rest)) : Ga p e below s Q C S T m pc Ls st := by
  subst hp has hst
  obtain ⟨_, _, ⟨T', L', k', n'⟩, -, X', ⟨Lc, hQ', l1, y1, z1⟩, sx⟩ := X.specialBack hx (y := y) hy1 hown (mvT hZ w1) (mvT hZ w2) (mvT hZ w4) hy (backOf (W := W) hM hZ w4 w3 hf hl) (g := mkF m pc Ls (argsL.reverse ++ .ref a :: rest)) rfl hsz (Steps.refl _) (a := a) (argsL := argsL) (rest := rest) hlen rfl (by show 2 * 0 + _ ≤ _; omega) hd (fun _ _ => ⟨rfl, eT, hcl, hsl⟩)
  dsimp only [Pt.U, Pt.locs, Pt.cells, Pt.slots] at X' l1 y1 z1 sx hQ'
  subst l1 y1 z1
  exact Ga.stp (fun _ kk => sx.trans kk) (k _ T' Lc X' hQ')
theorem g_virtual (X : Stand p l e R s m args below meth c T locs cells slots) (hx : p.tables.exec = Jvm.exec) (hZ : Z.Warmed39 s.vm) (hown : s.vm.findClass own = some m.cls) {index : Nat} {y z : MethodName} {K : String} {ret : Option FieldType} {bytes : ByteArray} {maxL : Nat} {rm : Room} {as' : Array Value} {Q' : Option Value → Heap → List Loc → Prop} (w1 : (Cond.methodLink own index y).before a0 Z = true) (w2 : (Cond.declares y).before a0 Z = true) (nf : NotFace s y) (w3 : (Cond.selects K y z).before a0 Z = true) (w4 : (Cond.instanceMethod z).before a0 Z = true) (w5 : (Cond.initialized z.cls).before a0 Z = true) (w6 : (Cond.code z bytes maxL ret).before a0 Z = true) (hy : y.cls ≠ "java/lang/invoke/MethodHandle" ∧ y.cls ≠ "java/lang/invoke/VarHandle") {a : Addr} (E : Exa Z h a K)
    (hM : Ct l Z z bytes maxL ret [] rm as' h Q') (hsz : Ls.size = c.maxLocals) (eT : T.heap = h) (argsL : List Value) {rest : List Value} (has : as' = (.ref a :: argsL).toArray) (hst : st = argsL.reverse ++ .ref a :: rest) {W : Nat} (hW : (rest.map fun v => v.category).sum ≤ W) (hf : rm.frames + 1 ≤ R.frames) (hl : W + (maxL + 11) + rm.locals ≤ R.locals) (hcl : cells + rm.cells ≤ R.cells) (hsl : slots + rm.slots ≤ R.slots) (hlen : ∀ sig, parseMethodDescriptor y.desc = some sig → argsL.length = sig.parameters.length) (hd : decode c.code pc = .ok (.invokevirtual index, 3)) (hp : pc + 3 = q) (k : ∀ v T' L, Stand p l e R s m args below meth c T' (locs ++ L) (cells + rm.cells) (slots + rm.slots) → Q' v T'.heap L → Ga p e below s Q C S T' m q Ls (v.toList ++ rest)) : Ga p e below s Q C S T m pc Ls st := by
  subst hp has hst
  obtain ⟨cq, kq, qa, qb, qc⟩ := isOf hZ eT E
  obtain ⟨_, _, ⟨T', L', k', n'⟩, -, X', ⟨Lc, hQ', l1, y1, z1⟩, sx⟩ := X.virtualBack hx (y := y) (z := z) hown (mvT hZ w1) (mvT hZ w2) nf (mvT hZ w3) (mvT hZ w4) hy (backOf (W := W) hM hZ w6 w5 hf hl) qa qc (g := mkF m pc Ls (argsL.reverse ++ .ref a :: rest)) rfl hsz (Steps.refl _) (argsL := argsL) (rest := rest) hlen rfl (by show 2 * 0 + _ ≤ _; omega) hd (fun _ _ => ⟨rfl, eT, hcl, hsl⟩)
  dsimp only [Pt.U, Pt.locs, Pt.cells, Pt.slots] at X' l1 y1 z1 sx hQ'
  subst l1 y1 z1
  exact Ga.stp (fun _ kk => sx.trans kk) (k _ T' Lc X' hQ')
variable {ka : ClassId} {ty : FieldType} {z j : Int32} {vs : List Value} {dv : Value} {a : Addr}
theorem own_ne {b : Addr} (h1 : a < h.size) (h2 : b = h.size) : a ≠ b := Nat.ne_of_lt (h2 ▸ h1)
theorem own_neK {b : Addr} (h1 : a < h.size) (h2 : h.size ≤ b) : a ≠ b := Nat.ne_of_lt (Nat.lt_of_lt_of_le h1 h2)
end GoKit

theorem own_irrI (x : Int32) : ¬ x < x := Int32.lt_irrefl
theorem own_irrJ (x : Int64) : ¬ x < x := Int64.lt_irrefl
theorem own_narc (x : Int32) : nar .char (x &&& (255 : Int32)) = (x &&& (255 : Int32)) := i2c_mask x
theorem own_nar (x : Int32) : nar .byte x = x.toInt8.toInt32 := rfl
theorem own_bb (x : Int32) : x.toInt8.toInt32.toInt8.toInt32 = x.toInt8.toInt32 := by simp
theorem own_nb {h : Heap} {b b' y : Addr} (hb : b' = b ∨ h.size ≤ b') (lt : y < h.size) (ne : y ≠ b) : y ≠ b' := hb.elim (fun q => q ▸ ne) (fun q => Nat.ne_of_lt (Nat.lt_of_lt_of_le lt q))
theorem own_ng {h : Heap} {b b' : Addr} {n0 : Nat} (hb : b' = b ∨ h.size ≤ b') (g : n0 ≤ b) (Z : n0 ≤ h.size) : n0 ≤ b' := hb.elim (fun q => q ▸ g) (fun q => Nat.le_trans Z q)
theorem own_insK {Z : State} {h h' : Heap} {a : Addr} {C : String} {ws : List Addr} (F : Ins Z h a C true) (K : Keep h h' ws) : Ins Z h' a C true := by
  obtain ⟨cell, cT, h1, h2, h3⟩ := F
  obtain ⟨c', q1, q2, q3, -⟩ := K.2.2 _ _ h1
  exact ⟨c', cT, q1, h2, by rw [q2, q3]; exact h3⟩
theorem d_jdk_29_m_65_0 : decode jdk_29_method_65_code 0 = .ok (.iload_n 0, 1) := by decide +kernel
theorem d_jdk_29_m_65_1 : decode jdk_29_method_65_code 1 = .ok (.iload_n 1, 1) := by decide +kernel
theorem d_jdk_29_m_65_2 : decode jdk_29_method_65_code 2 = .ok (.if_icmp .lt 7, 3) := by decide +kernel
theorem d_jdk_29_m_65_9 : decode jdk_29_method_65_code 9 = .ok (.iload_n 1, 1) := by decide +kernel
theorem d_jdk_29_m_65_10 : decode jdk_29_method_65_code 10 = .ok (.ireturn, 1) := by decide +kernel
theorem d_jdk_29_m_65_5 : decode jdk_29_method_65_code 5 = .ok (.iload_n 0, 1) := by decide +kernel
theorem d_jdk_29_m_65_6 : decode jdk_29_method_65_code 6 = .ok (.goto 4, 3) := by decide +kernel
theorem d_jdk_30_m_1_0 : decode jdk_30_method_1_code 0 = .ok (.aload_n 0, 1) := by decide +kernel
theorem d_jdk_30_m_1_1 : decode jdk_30_method_1_code 1 = .ok (.invokespecial 1, 3) := by decide +kernel
theorem d_jdk_30_m_1_4 : decode jdk_30_method_1_code 4 = .ok (.return_, 1) := by decide +kernel
theorem d_prog_3_m_1_0 : decode prog_3_method_1_code 0 = .ok (.aload_n 0, 1) := by decide +kernel
theorem d_prog_3_m_1_1 : decode prog_3_method_1_code 1 = .ok (.invokespecial 1, 3) := by decide +kernel
theorem d_prog_3_m_1_4 : decode prog_3_method_1_code 4 = .ok (.iload_n 1, 1) := by decide +kernel
theorem d_prog_3_m_1_5 : decode prog_3_method_1_code 5 = .ok (.iconst 1, 1) := by decide +kernel
theorem d_prog_3_m_1_6 : decode prog_3_method_1_code 6 = .ok (.if_icmp .lt 8, 3) := by decide +kernel
theorem d_prog_3_m_1_9 : decode prog_3_method_1_code 9 = .ok (.iload_n 2, 1) := by decide +kernel
theorem d_prog_3_m_1_10 : decode prog_3_method_1_code 10 = .ok (.iconst 1, 1) := by decide +kernel
theorem d_prog_3_m_1_11 : decode prog_3_method_1_code 11 = .ok (.if_icmp .ge 18, 3) := by decide +kernel
theorem d_prog_3_m_1_29 : decode prog_3_method_1_code 29 = .ok (.aload_n 0, 1) := by decide +kernel
theorem d_prog_3_m_1_30 : decode prog_3_method_1_code 30 = .ok (.iload_n 1, 1) := by decide +kernel
theorem d_prog_3_m_1_31 : decode prog_3_method_1_code 31 = .ok (.putfield 16, 3) := by decide +kernel
theorem d_prog_3_m_1_34 : decode prog_3_method_1_code 34 = .ok (.aload_n 0, 1) := by decide +kernel
theorem d_prog_3_m_1_35 : decode prog_3_method_1_code 35 = .ok (.iload_n 2, 1) := by decide +kernel
theorem d_prog_3_m_1_36 : decode prog_3_method_1_code 36 = .ok (.putfield 22, 3) := by decide +kernel
theorem d_prog_3_m_1_39 : decode prog_3_method_1_code 39 = .ok (.return_, 1) := by decide +kernel
theorem d_prog_12_m_1_0 : decode prog_12_method_1_code 0 = .ok (.aload_n 0, 1) := by decide +kernel
theorem d_prog_12_m_1_1 : decode prog_12_method_1_code 1 = .ok (.invokespecial 1, 3) := by decide +kernel
theorem d_prog_12_m_1_4 : decode prog_12_method_1_code 4 = .ok (.iload_n 1, 1) := by decide +kernel
theorem d_prog_12_m_1_5 : decode prog_12_method_1_code 5 = .ok (.ifCond .lt 18, 3) := by decide +kernel
theorem d_prog_12_m_1_8 : decode prog_12_method_1_code 8 = .ok (.iload_n 2, 1) := by decide +kernel
theorem d_prog_12_m_1_9 : decode prog_12_method_1_code 9 = .ok (.ifCond .lt 14, 3) := by decide +kernel
theorem d_prog_12_m_1_12 : decode prog_12_method_1_code 12 = .ok (.iload_n 3, 1) := by decide +kernel
theorem d_prog_12_m_1_13 : decode prog_12_method_1_code 13 = .ok (.iconst 1, 1) := by decide +kernel
theorem d_prog_12_m_1_14 : decode prog_12_method_1_code 14 = .ok (.if_icmp .lt 9, 3) := by decide +kernel
theorem d_prog_12_m_1_17 : decode prog_12_method_1_code 17 = .ok (.iload 4, 2) := by decide +kernel
theorem d_prog_12_m_1_19 : decode prog_12_method_1_code 19 = .ok (.iconst 1, 1) := by decide +kernel
theorem d_prog_12_m_1_20 : decode prog_12_method_1_code 20 = .ok (.if_icmp .ge 21, 3) := by decide +kernel
theorem d_prog_12_m_1_41 : decode prog_12_method_1_code 41 = .ok (.aload_n 0, 1) := by decide +kernel
theorem d_prog_12_m_1_42 : decode prog_12_method_1_code 42 = .ok (.iload_n 1, 1) := by decide +kernel
theorem d_prog_12_m_1_43 : decode prog_12_method_1_code 43 = .ok (.putfield 16, 3) := by decide +kernel
theorem d_prog_12_m_1_46 : decode prog_12_method_1_code 46 = .ok (.aload_n 0, 1) := by decide +kernel
theorem d_prog_12_m_1_47 : decode prog_12_method_1_code 47 = .ok (.iload_n 2, 1) := by decide +kernel
theorem d_prog_12_m_1_48 : decode prog_12_method_1_code 48 = .ok (.putfield 22, 3) := by decide +kernel
theorem d_prog_12_m_1_51 : decode prog_12_method_1_code 51 = .ok (.aload_n 0, 1) := by decide +kernel
theorem d_prog_12_m_1_52 : decode prog_12_method_1_code 52 = .ok (.iload_n 3, 1) := by decide +kernel
theorem d_prog_12_m_1_53 : decode prog_12_method_1_code 53 = .ok (.putfield 25, 3) := by decide +kernel
theorem d_prog_12_m_1_56 : decode prog_12_method_1_code 56 = .ok (.aload_n 0, 1) := by decide +kernel
theorem d_prog_12_m_1_57 : decode prog_12_method_1_code 57 = .ok (.iload 4, 2) := by decide +kernel
theorem d_prog_12_m_1_59 : decode prog_12_method_1_code 59 = .ok (.putfield 28, 3) := by decide +kernel
theorem d_prog_12_m_1_62 : decode prog_12_method_1_code 62 = .ok (.return_, 1) := by decide +kernel
theorem d_prog_3_m_5_0 : decode prog_3_method_5_code 0 = .ok (.aload_n 0, 1) := by decide +kernel
theorem d_prog_3_m_5_1 : decode prog_3_method_5_code 1 = .ok (.getfield 16, 3) := by decide +kernel
theorem d_prog_3_m_5_4 : decode prog_3_method_5_code 4 = .ok (.ireturn, 1) := by decide +kernel
theorem d_prog_3_m_6_0 : decode prog_3_method_6_code 0 = .ok (.aload_n 0, 1) := by decide +kernel
theorem d_prog_3_m_6_1 : decode prog_3_method_6_code 1 = .ok (.getfield 22, 3) := by decide +kernel
theorem d_prog_3_m_6_4 : decode prog_3_method_6_code 4 = .ok (.ireturn, 1) := by decide +kernel
theorem d_prog_12_m_6_0 : decode prog_12_method_6_code 0 = .ok (.aload_n 0, 1) := by decide +kernel
theorem d_prog_12_m_6_1 : decode prog_12_method_6_code 1 = .ok (.getfield 16, 3) := by decide +kernel
theorem d_prog_12_m_6_4 : decode prog_12_method_6_code 4 = .ok (.ireturn, 1) := by decide +kernel
theorem d_prog_12_m_7_0 : decode prog_12_method_7_code 0 = .ok (.aload_n 0, 1) := by decide +kernel
theorem d_prog_12_m_7_1 : decode prog_12_method_7_code 1 = .ok (.getfield 22, 3) := by decide +kernel
theorem d_prog_12_m_7_4 : decode prog_12_method_7_code 4 = .ok (.ireturn, 1) := by decide +kernel
theorem d_prog_12_m_8_0 : decode prog_12_method_8_code 0 = .ok (.aload_n 0, 1) := by decide +kernel
theorem d_prog_12_m_8_1 : decode prog_12_method_8_code 1 = .ok (.getfield 25, 3) := by decide +kernel
theorem d_prog_12_m_8_4 : decode prog_12_method_8_code 4 = .ok (.ireturn, 1) := by decide +kernel
theorem d_prog_12_m_9_0 : decode prog_12_method_9_code 0 = .ok (.aload_n 0, 1) := by decide +kernel
theorem d_prog_12_m_9_1 : decode prog_12_method_9_code 1 = .ok (.getfield 28, 3) := by decide +kernel
theorem d_prog_12_m_9_4 : decode prog_12_method_9_code 4 = .ok (.ireturn, 1) := by decide +kernel
theorem d_prog_15_m_1_0 : decode prog_15_method_1_code 0 = .ok (.aload_n 0, 1) := by decide +kernel
theorem d_prog_15_m_1_1 : decode prog_15_method_1_code 1 = .ok (.invokespecial 1, 3) := by decide +kernel
theorem d_prog_15_m_1_4 : decode prog_15_method_1_code 4 = .ok (.return_, 1) := by decide +kernel
theorem d_prog_15_m_2_0 : decode prog_15_method_2_code 0 = .ok (.new 7, 3) := by decide +kernel
theorem d_prog_15_m_2_3 : decode prog_15_method_2_code 3 = .ok (.dup, 1) := by decide +kernel
theorem d_prog_15_m_2_4 : decode prog_15_method_2_code 4 = .ok (.iconst 0, 1) := by decide +kernel
theorem d_prog_15_m_2_5 : decode prog_15_method_2_code 5 = .ok (.iconst 0, 1) := by decide +kernel
theorem d_prog_15_m_2_6 : decode prog_15_method_2_code 6 = .ok (.aload_n 1, 1) := by decide +kernel
theorem d_prog_15_m_2_7 : decode prog_15_method_2_code 7 = .ok (.invokevirtual 9, 3) := by decide +kernel
theorem d_prog_15_m_2_10 : decode prog_15_method_2_code 10 = .ok (.aload_n 1, 1) := by decide +kernel
theorem d_prog_15_m_2_11 : decode prog_15_method_2_code 11 = .ok (.invokevirtual 15, 3) := by decide +kernel
theorem d_prog_15_m_2_14 : decode prog_15_method_2_code 14 = .ok (.invokespecial 18, 3) := by decide +kernel
theorem d_prog_15_m_2_17 : decode prog_15_method_2_code 17 = .ok (.areturn, 1) := by decide +kernel
theorem pd_0 : parseMethodDescriptor "()V" = some ⟨[], none⟩ := by decide +kernel
theorem pd_1 : parseMethodDescriptor "()I" = some ⟨[], some .int⟩ := by decide +kernel
theorem pd_2 : parseMethodDescriptor "(IIII)V" = some ⟨[.int, .int, .int, .int], none⟩ := by decide +kernel
theorem pd_3 : parseMethodDescriptor "(II)I" = some ⟨[.int, .int], some .int⟩ := by decide +kernel
theorem pd_4 : parseMethodDescriptor "(II)V" = some ⟨[.int, .int], none⟩ := by decide +kernel
theorem pd_5 : parseMethodDescriptor "(Lcom/example/cropmark/cropmark/iiif/Dimensions;)Lcom/example/cropmark/cropmark/iiif/PixelRegion;" = some ⟨[(.object "com/example/cropmark/cropmark/iiif/Dimensions")], some (.object "com/example/cropmark/cropmark/iiif/PixelRegion")⟩ := by decide +kernel
theorem pn_0 : plainName "java/lang/Record" = true := by first | (simp [plainName, overriddenIn]; done) | decide +kernel
theorem pn_1 : plainName "com/example/cropmark/cropmark/iiif/Dimensions" = true := by first | (simp [plainName, overriddenIn]; done) | decide +kernel
theorem pn_2 : plainName "com/example/cropmark/cropmark/iiif/PixelRegion" = true := by first | (simp [plainName, overriddenIn]; done) | decide +kernel
theorem pn_3 : plainName "com/example/cropmark/cropmark/iiif/Region$Full" = true := by first | (simp [plainName, overriddenIn]; done) | decide +kernel
theorem pn_4 : plainName "com/example/cropmark/cropmark/iiif/FullWithinPinLaw" = true := by first | (simp [plainName, overriddenIn]; done) | decide +kernel
theorem own_lt32 {x y : Int32} : x < y ↔ x.toInt < y.toInt := Int32.lt_iff_toInt_lt
theorem own_eq32 {x y : Int32} : x = y ↔ x.toInt = y.toInt := Int32.toInt_inj.symm
theorem own_i0 : (0 : Int32).toInt = 0 := rfl
theorem own_i1 : (1 : Int32).toInt = 1 := rfl
theorem own_nat {j z : Int32} (h0 : ¬ j < 0) (h : j < z) : j.toNatClampNeg < z.toNatClampNeg := by
  have a := nat_of h0
  have hz : ¬ z < 0 := by rw [own_lt32] at *; rw [own_i0] at *; omega
  have b := nat_of hz
  rw [own_lt32] at h; omega
theorem own_mx {x v : Int32} (h : (x &&& (2147483647 : Int32)) = v) : ¬ v < (0 : Int32) := by
  have e := c_mask x 2147483647 31 (by decide) (by decide)
  rw [h] at e; rw [own_lt32, own_i0]; omega
theorem own_mx1 {x v : Int32} (h : (x &&& (2147483647 : Int32)) = v) (h0 : ¬ v = 0) : ¬ v < (1 : Int32) := by
  have e := c_mask x 2147483647 31 (by decide) (by decide)
  rw [h] at e; rw [own_eq32, own_i0] at h0; rw [own_lt32, own_i1]; omega
theorem own_rem3 {x v : Int32} (h0 : ¬ x < (0 : Int32)) (h : (x % (3 : Int32)) = v) : v = (0 : Int32) ∨ v = (1 : Int32) ∨ v = (2 : Int32) := by
  have e := (c_irem x 3 3 rfl).1 (by rw [own_lt32, own_i0] at h0; omega)
  rw [h] at e
  have : v.toInt = 0 ∨ v.toInt = 1 ∨ v.toInt = 2 := by omega
  rcases this with q | q | q
  · left; exact Int32.toInt_inj.mp q
  · right; left; exact Int32.toInt_inj.mp q
  · right; right; exact Int32.toInt_inj.mp q
theorem own_ushr0 (x q : Int32) (k : Nat) (hk : q.toBitVec.toNat % 32 = k) (hk0 : 0 < k) : ¬ ((x.toUInt32 >>> (q &&& 31).toUInt32).toInt32) < (0 : Int32) := by
  have e := c_iushr x q k hk hk0
  rw [own_lt32, e, own_i0]
  have : 0 ≤ (x.toInt % 4294967296) / ((2 ^ k : Nat) : Int) := Int.ediv_nonneg (Int.emod_nonneg _ (by decide)) (Int.natCast_nonneg _)
  omega
theorem own_max1 {v r : Int32} (h : (if (1 : Int32) < v then v else (1 : Int32)) = r) : ¬ r < (1 : Int32) := by
  split at h
  · rename_i q; subst h; exact Int32.not_lt.mpr (Int32.le_of_lt q)
  · subst h; decide

def Q_mmax (Z : State) (x : Int32) (y : Int32) (h0 : Heap) (n0 : Nat) (v : Option Value) (h : Heap) (L : List Loc) : Prop := v = some (.int (if x < y then y else x)) ∧ Fr n0 L ∧ h = h0
theorem ef_mmax (m : MethodId) (x0 : Int32) (x1 : Int32) : entryFrame m #[(.int x0), (.int x1)] 2 = mkF m 0 #[.val (.int x0), .val (.int x1)] [] := by first | (simp [entryFrame, mkF, argsToLocals, Value.category]; done) | rfl
set_option maxRecDepth 65536 in
set_option maxHeartbeats 40000000 in
theorem rm_mmax (l : Launch) (Z : State) (a0 : Array Value) (hw : ∀ d ∈ tables_1, d.before a0 Z = true) (x : Int32) (y : Int32) (h0 : Heap) (n0 : Nat) (Z0 : n0 ≤ h0.size) :
    Ct l Z (⟨"java/lang/Math", "max", "(II)I"⟩ : MethodName) jdk_29_method_65_code 2 (some .int) [] ({ frames := 0, cells := 0, slots := 0, locals := 0 } : Room) #[(.int x), (.int y)] h0 (Q_mmax Z x y h0 n0) := by
  refine own_body (Jvm.Free.JP.mathPlain rfl (by decide +kernel)) (fun m => ef_mmax m x y) ?_
  intro p e s m below meth c T0 hx hby hml hZ hown hnm hret hlk X0 e0
  have N0 := Fr.nil n0
  refine g_iloadN X0 hx (hb hby d_jdk_29_m_65_0) rfl rfl ?_
  refine g_iloadN X0 hx (hb hby d_jdk_29_m_65_1) rfl rfl ?_
  by_cases hc2 : x < y
  · skip
    refine g_icmpY X0 hx (q := 9) (hb hby d_jdk_29_m_65_2) (XT.ii_lt_t hc2) (by decide) (by decide) ?_
    refine g_iloadN X0 hx (hb hby d_jdk_29_m_65_9) rfl rfl ?_
    exact g_retI X0 hx hret hlk (hb hby d_jdk_29_m_65_10) (by decide) (by decide) (by rw [e0]; exact ⟨(by simp [hc2]), N0, rfl⟩)
  · skip
    refine g_icmpN X0 hx (hb hby d_jdk_29_m_65_2) rfl (XT.ii_lt_f hc2) ?_
    refine g_iloadN X0 hx (hb hby d_jdk_29_m_65_5) rfl rfl ?_
    refine g_goto X0 hx (q := 10) (hb hby d_jdk_29_m_65_6) (by decide) (by decide) ?_
    exact g_retI X0 hx hret hlk (hb hby d_jdk_29_m_65_10) (by decide) (by decide) (by rw [e0]; exact ⟨(by simp [hc2]), N0, rfl⟩)
def Q_rec (Z : State) (a : Addr) (h0 : Heap) (n0 : Nat) (v : Option Value) (h : Heap) (L : List Loc) : Prop := v = none ∧ Fr n0 L ∧ h = h0
theorem ef_rec (m : MethodId) (x0 : Addr) : entryFrame m #[(.ref x0)] 1 = mkF m 0 #[.val (.ref x0)] [] := by first | (simp [entryFrame, mkF, argsToLocals, Value.category]; done) | rfl
set_option maxRecDepth 65536 in
set_option maxHeartbeats 40000000 in
theorem rm_rec (l : Launch) (Z : State) (a0 : Array Value) (hw : ∀ d ∈ tables_1, d.before a0 Z = true) (a : Addr) (h0 : Heap) (n0 : Nat) (Z0 : n0 ≤ h0.size) :
    Ct l Z (⟨"java/lang/Record", "<init>", "()V"⟩ : MethodName) jdk_30_method_1_code 1 none [] ({ frames := 1, cells := 0, slots := 0, locals := 12 } : Room) #[(.ref a)] h0 (Q_rec Z a h0 n0) := by
  refine own_body (plainFor_of_name pn_0) (fun m => ef_rec m a) ?_
  intro p e s m below meth c T0 hx hby hml hZ hown hnm hret hlk X0 e0
  have N0 := Fr.nil n0
  refine g_aloadN X0 hx (hb hby d_jdk_30_m_1_0) rfl rfl rfl ?_
  refine g_initO X0 hx hZ hown (hw _ (List.mem_of_getElem? (i := 16) rfl)) (hw _ (List.mem_of_getElem? (i := 17) rfl)) (hw _ (List.mem_of_getElem? (i := 18) rfl)) e0 (by rw [hml]; rfl) (hb hby d_jdk_30_m_1_1) rfl (by decide) (W := 0) (Nat.le_of_eq rfl) (by decide) fun T1 X1 e1 => ?_
  exact g_ret X1 hx hret hlk (hb hby d_jdk_30_m_1_4) (by decide) (by decide) (by rw [e1]; exact ⟨rfl, N0, rfl⟩)
def Q_dini (Z : State) (a : Addr) (w : Int32) (ht : Int32) (h0 : Heap) (n0 : Nat) (v : Option Value) (h : Heap) (L : List Loc) : Prop := v = none ∧ Fr n0 L ∧ Keep h0 h [a] ∧ Exa Z h a "com/example/cropmark/cropmark/iiif/Dimensions" ∧ Fld Z h a "com/example/cropmark/cropmark/iiif/Dimensions" "width" "I" (.int w) ∧ Fld Z h a "com/example/cropmark/cropmark/iiif/Dimensions" "height" "I" (.int ht)
theorem ef_dini (m : MethodId) (x0 : Addr) (x1 : Int32) (x2 : Int32) : entryFrame m #[(.ref x0), (.int x1), (.int x2)] 3 = mkF m 0 #[.val (.ref x0), .val (.int x1), .val (.int x2)] [] := by first | (simp [entryFrame, mkF, argsToLocals, Value.category]; done) | rfl
set_option maxRecDepth 65536 in
set_option maxHeartbeats 40000000 in
theorem rm_dini (l : Launch) (Z : State) (a0 : Array Value) (hw : ∀ d ∈ tables_1, d.before a0 Z = true) (a : Addr) (w : Int32) (ht : Int32) (h0 : Heap) (n0 : Nat) (Z0 : n0 ≤ h0.size) (F_width_a : Fld Z h0 a "com/example/cropmark/cropmark/iiif/Dimensions" "width" "I" (.int (0 : Int32))) (F_height_a : Fld Z h0 a "com/example/cropmark/cropmark/iiif/Dimensions" "height" "I" (.int (0 : Int32))) (E_a : Exa Z h0 a "com/example/cropmark/cropmark/iiif/Dimensions") (g_a : n0 ≤ a) (hw1 : ¬ w < (1 : Int32)) (hh1 : ¬ ht < (1 : Int32)) :
    Ct l Z (⟨"com/example/cropmark/cropmark/iiif/Dimensions", "<init>", "(II)V"⟩ : MethodName) prog_3_method_1_code 3 none [] ({ frames := 2, cells := 0, slots := 0, locals := 24 } : Room) #[(.ref a), (.int w), (.int ht)] h0 (Q_dini Z a w ht h0 n0) := by
  refine own_body (plainFor_of_name pn_1) (fun m => ef_dini m a w ht) ?_
  intro p e s m below meth c T0 hx hby hml hZ hown hnm hret hlk X0 e0
  have N0 := Fr.nil n0
  refine g_aloadN X0 hx (hb hby d_prog_3_m_1_0) rfl rfl rfl ?_
  refine g_special X0 hx hZ hown rfl (hw _ (List.mem_of_getElem? (i := 11) rfl)) (hw _ (List.mem_of_getElem? (i := 12) rfl)) (hw _ (List.mem_of_getElem? (i := 14) rfl)) (hw _ (List.mem_of_getElem? (i := 15) rfl)) (by decide) (a := a) (rm_rec l Z a0 hw a h0 n0 Z0) (by rw [hml]; rfl) e0 [] rfl rfl (W := 0) (Nat.le_of_eq rfl) (by decide) (by decide) (by decide) (by decide) (lenOf pd_0 rfl) (hb hby d_prog_3_m_1_1) rfl fun v1 T1 L1 X1 hQ1 => ?_
  obtain ⟨rfl, Nq1, eh1⟩ := hQ1
  have N1 := Fr.app N0 Nq1
  show Ga _ _ _ _ _ _ _ _ _ _ _ []
  refine g_iloadN X1 hx (hb hby d_prog_3_m_1_4) rfl rfl ?_
  refine g_iconst X1 hx (r := (1 : Int32)) (hb hby d_prog_3_m_1_5) rfl rfl ?_
  have hc6 : ¬ w < (1 : Int32) := hw1
  refine g_icmpN X1 hx (hb hby d_prog_3_m_1_6) rfl (XT.ii_lt_f hc6) ?_
  refine g_iloadN X1 hx (hb hby d_prog_3_m_1_9) rfl rfl ?_
  refine g_iconst X1 hx (r := (1 : Int32)) (hb hby d_prog_3_m_1_10) rfl rfl ?_
  have hc11 : ¬ ht < (1 : Int32) := hh1
  refine g_icmpY X1 hx (q := 29) (hb hby d_prog_3_m_1_11) (XT.ii_ge_t hc11) (by decide) (by decide) ?_
  refine g_aloadN X1 hx (hb hby d_prog_3_m_1_29) rfl rfl rfl ?_
  refine g_iloadN X1 hx (hb hby d_prog_3_m_1_30) rfl rfl ?_
  refine g_putF X1 hx hZ hown (host := "") (Or.inl (hw _ (List.mem_of_getElem? (i := 19) rfl))) Via.refl eh1 F_width_a E_a (Or.inr ⟨(hw _ (List.mem_of_getElem? (i := 20) rfl)), rfl, hnm⟩) (hw _ (List.mem_of_getElem? (i := 6) rfl)) (ty := .int) (by decide) rfl rfl (hb hby d_prog_3_m_1_31) rfl fun T2 h2 X2 e2 W2 F2 => ?_
  have kk2 : Keep h0 h2 [a] := (Keep.refl h0 [a]).wr W2 (Or.inl (by simp))
  have N2 := Fr.snoc X2 N1 g_a
  have Z2 : n0 ≤ h2.size := by rw [W2.size]; exact Z0
  refine g_aloadN X2 hx (hb hby d_prog_3_m_1_34) rfl rfl rfl ?_
  refine g_iloadN X2 hx (hb hby d_prog_3_m_1_35) rfl rfl ?_
  have f4 : Fld Z h2 a "com/example/cropmark/cropmark/iiif/Dimensions" "height" "I" (.int (0 : Int32)) := (F_height_a.other W2 (Or.inr (slot_ne (Or.inr (hw _ (List.mem_of_getElem? (i := 22) rfl))) (Or.inr (hw _ (List.mem_of_getElem? (i := 20) rfl))) (by decide) (t := .int) (t' := .int) (by decide) (by decide))))
  have f5 : Exa Z h2 a "com/example/cropmark/cropmark/iiif/Dimensions" := (E_a.wr W2)
  refine g_putF X2 hx hZ hown (host := "") (Or.inl (hw _ (List.mem_of_getElem? (i := 21) rfl))) Via.refl e2 f4 f5 (Or.inr ⟨(hw _ (List.mem_of_getElem? (i := 22) rfl)), rfl, hnm⟩) (hw _ (List.mem_of_getElem? (i := 6) rfl)) (ty := .int) (by decide) rfl rfl (hb hby d_prog_3_m_1_36) rfl fun T3 h3 X3 e3 W3 F3 => ?_
  have kk3 : Keep h0 h3 [a] := kk2.wr W3 (Or.inl (by simp))
  have N3 := Fr.snoc X3 N2 g_a
  have Z3 : n0 ≤ h3.size := by rw [W3.size]; exact Z2
  have f6 : Exa Z h3 a "com/example/cropmark/cropmark/iiif/Dimensions" := (f5.wr W3)
  have f7 : Fld Z h3 a "com/example/cropmark/cropmark/iiif/Dimensions" "width" "I" (.int w) := (F2.other W3 (Or.inr (slot_ne (Or.inr (hw _ (List.mem_of_getElem? (i := 20) rfl))) (Or.inr (hw _ (List.mem_of_getElem? (i := 22) rfl))) (by decide) (t := .int) (t' := .int) (by decide) (by decide))))
  exact g_ret X3 hx hret hlk (hb hby d_prog_3_m_1_39) (by decide) (by decide) (by rw [e3]; exact ⟨rfl, N3, kk3, f6, f7, F3⟩)
def Q_pini (Z : State) (a : Addr) (x : Int32) (y : Int32) (w : Int32) (ht : Int32) (h0 : Heap) (n0 : Nat) (v : Option Value) (h : Heap) (L : List Loc) : Prop := v = none ∧ Fr n0 L ∧ Keep h0 h [a] ∧ Exa Z h a "com/example/cropmark/cropmark/iiif/PixelRegion" ∧ Fld Z h a "com/example/cropmark/cropmark/iiif/PixelRegion" "x" "I" (.int x) ∧ Fld Z h a "com/example/cropmark/cropmark/iiif/PixelRegion" "y" "I" (.int y) ∧ Fld Z h a "com/example/cropmark/cropmark/iiif/PixelRegion" "width" "I" (.int w) ∧ Fld Z h a "com/example/cropmark/cropmark/iiif/PixelRegion" "height" "I" (.int ht)
theorem ef_pini (m : MethodId) (x0 : Addr) (x1 : Int32) (x2 : Int32) (x3 : Int32) (x4 : Int32) : entryFrame m #[(.ref x0), (.int x1), (.int x2), (.int x3), (.int x4)] 5 = mkF m 0 #[.val (.ref x0), .val (.int x1), .val (.int x2), .val (.int x3), .val (.int x4)] [] := by first | (simp [entryFrame, mkF, argsToLocals, Value.category]; done) | rfl
set_option maxRecDepth 65536 in
set_option maxHeartbeats 40000000 in
theorem rm_pini (l : Launch) (Z : State) (a0 : Array Value) (hw : ∀ d ∈ tables_1, d.before a0 Z = true) (a : Addr) (x : Int32) (y : Int32) (w : Int32) (ht : Int32) (h0 : Heap) (n0 : Nat) (Z0 : n0 ≤ h0.size) (F_x_a : Fld Z h0 a "com/example/cropmark/cropmark/iiif/PixelRegion" "x" "I" (.int (0 : Int32))) (F_y_a : Fld Z h0 a "com/example/cropmark/cropmark/iiif/PixelRegion" "y" "I" (.int (0 : Int32))) (F_width_a : Fld Z h0 a "com/example/cropmark/cropmark/iiif/PixelRegion" "width" "I" (.int (0 : Int32))) (F_height_a : Fld Z h0 a "com/example/cropmark/cropmark/iiif/PixelRegion" "height" "I" (.int (0 : Int32))) (E_a : Exa Z h0 a "com/example/cropmark/cropmark/iiif/PixelRegion") (g_a : n0 ≤ a) (hx0 : ¬ x < (0 : Int32)) (hy0 : ¬ y < (0 : Int32)) (hw1 : ¬ w < (1 : Int32)) (hh1 : ¬ ht < (1 : Int32)) :
    Ct l Z (⟨"com/example/cropmark/cropmark/iiif/PixelRegion", "<init>", "(IIII)V"⟩ : MethodName) prog_12_method_1_code 5 none [] ({ frames := 2, cells := 0, slots := 0, locals := 24 } : Room) #[(.ref a), (.int x), (.int y), (.int w), (.int ht)] h0 (Q_pini Z a x y w ht h0 n0) := by
  refine own_body (plainFor_of_name pn_2) (fun m => ef_pini m a x y w ht) ?_
  intro p e s m below meth c T0 hx hby hml hZ hown hnm hret hlk X0 e0
  have N0 := Fr.nil n0
  refine g_aloadN X0 hx (hb hby d_prog_12_m_1_0) rfl rfl rfl ?_
  refine g_special X0 hx hZ hown rfl (hw _ (List.mem_of_getElem? (i := 51) rfl)) (hw _ (List.mem_of_getElem? (i := 12) rfl)) (hw _ (List.mem_of_getElem? (i := 14) rfl)) (hw _ (List.mem_of_getElem? (i := 15) rfl)) (by decide) (a := a) (rm_rec l Z a0 hw a h0 n0 Z0) (by rw [hml]; rfl) e0 [] rfl rfl (W := 0) (Nat.le_of_eq rfl) (by decide) (by decide) (by decide) (by decide) (lenOf pd_0 rfl) (hb hby d_prog_12_m_1_1) rfl fun v1 T1 L1 X1 hQ1 => ?_
  obtain ⟨rfl, Nq1, eh1⟩ := hQ1
  have N1 := Fr.app N0 Nq1
  show Ga _ _ _ _ _ _ _ _ _ _ _ []
  refine g_iloadN X1 hx (hb hby d_prog_12_m_1_4) rfl rfl ?_
  have hc5 : ¬ x < (0 : Int32) := hx0
  refine g_ifN X1 hx (hb hby d_prog_12_m_1_5) rfl (XT.i0_lt_f hc5) ?_
  refine g_iloadN X1 hx (hb hby d_prog_12_m_1_8) rfl rfl ?_
  have hc9 : ¬ y < (0 : Int32) := hy0
  refine g_ifN X1 hx (hb hby d_prog_12_m_1_9) rfl (XT.i0_lt_f hc9) ?_
  refine g_iloadN X1 hx (hb hby d_prog_12_m_1_12) rfl rfl ?_
  refine g_iconst X1 hx (r := (1 : Int32)) (hb hby d_prog_12_m_1_13) rfl rfl ?_
  have hc14 : ¬ w < (1 : Int32) := hw1
  refine g_icmpN X1 hx (hb hby d_prog_12_m_1_14) rfl (XT.ii_lt_f hc14) ?_
  refine g_iload X1 hx (hb hby d_prog_12_m_1_17) rfl rfl ?_
  refine g_iconst X1 hx (r := (1 : Int32)) (hb hby d_prog_12_m_1_19) rfl rfl ?_
  have hc20 : ¬ ht < (1 : Int32) := hh1
  refine g_icmpY X1 hx (q := 41) (hb hby d_prog_12_m_1_20) (XT.ii_ge_t hc20) (by decide) (by decide) ?_
  refine g_aloadN X1 hx (hb hby d_prog_12_m_1_41) rfl rfl rfl ?_
  refine g_iloadN X1 hx (hb hby d_prog_12_m_1_42) rfl rfl ?_
  refine g_putF X1 hx hZ hown (host := "") (Or.inl (hw _ (List.mem_of_getElem? (i := 52) rfl))) Via.refl eh1 F_x_a E_a (Or.inr ⟨(hw _ (List.mem_of_getElem? (i := 53) rfl)), rfl, hnm⟩) (hw _ (List.mem_of_getElem? (i := 36) rfl)) (ty := .int) (by decide) rfl rfl (hb hby d_prog_12_m_1_43) rfl fun T2 h2 X2 e2 W2 F2 => ?_
  have kk2 : Keep h0 h2 [a] := (Keep.refl h0 [a]).wr W2 (Or.inl (by simp))
  have N2 := Fr.snoc X2 N1 g_a
  have Z2 : n0 ≤ h2.size := by rw [W2.size]; exact Z0
  refine g_aloadN X2 hx (hb hby d_prog_12_m_1_46) rfl rfl rfl ?_
  refine g_iloadN X2 hx (hb hby d_prog_12_m_1_47) rfl rfl ?_
  have f4 : Fld Z h2 a "com/example/cropmark/cropmark/iiif/PixelRegion" "y" "I" (.int (0 : Int32)) := (F_y_a.other W2 (Or.inr (slot_ne (Or.inr (hw _ (List.mem_of_getElem? (i := 55) rfl))) (Or.inr (hw _ (List.mem_of_getElem? (i := 53) rfl))) (by decide) (t := .int) (t' := .int) (by decide) (by decide))))
  have f5 : Exa Z h2 a "com/example/cropmark/cropmark/iiif/PixelRegion" := (E_a.wr W2)
  refine g_putF X2 hx hZ hown (host := "") (Or.inl (hw _ (List.mem_of_getElem? (i := 54) rfl))) Via.refl e2 f4 f5 (Or.inr ⟨(hw _ (List.mem_of_getElem? (i := 55) rfl)), rfl, hnm⟩) (hw _ (List.mem_of_getElem? (i := 36) rfl)) (ty := .int) (by decide) rfl rfl (hb hby d_prog_12_m_1_48) rfl fun T3 h3 X3 e3 W3 F3 => ?_
  have kk3 : Keep h0 h3 [a] := kk2.wr W3 (Or.inl (by simp))
  have N3 := Fr.snoc X3 N2 g_a
  have Z3 : n0 ≤ h3.size := by rw [W3.size]; exact Z2
  refine g_aloadN X3 hx (hb hby d_prog_12_m_1_51) rfl rfl rfl ?_
  refine g_iloadN X3 hx (hb hby d_prog_12_m_1_52) rfl rfl ?_
  have f7 : Fld Z h3 a "com/example/cropmark/cropmark/iiif/PixelRegion" "width" "I" (.int (0 : Int32)) := ((F_width_a.other W2 (Or.inr (slot_ne (Or.inr (hw _ (List.mem_of_getElem? (i := 57) rfl))) (Or.inr (hw _ (List.mem_of_getElem? (i := 53) rfl))) (by decide) (t := .int) (t' := .int) (by decide) (by decide)))).other W3 (Or.inr (slot_ne (Or.inr (hw _ (List.mem_of_getElem? (i := 57) rfl))) (Or.inr (hw _ (List.mem_of_getElem? (i := 55) rfl))) (by decide) (t := .int) (t' := .int) (by decide) (by decide))))
  have f8 : Exa Z h3 a "com/example/cropmark/cropmark/iiif/PixelRegion" := (f5.wr W3)
  refine g_putF X3 hx hZ hown (host := "") (Or.inl (hw _ (List.mem_of_getElem? (i := 56) rfl))) Via.refl e3 f7 f8 (Or.inr ⟨(hw _ (List.mem_of_getElem? (i := 57) rfl)), rfl, hnm⟩) (hw _ (List.mem_of_getElem? (i := 36) rfl)) (ty := .int) (by decide) rfl rfl (hb hby d_prog_12_m_1_53) rfl fun T6 h6 X6 e6 W6 F6 => ?_
  have kk6 : Keep h0 h6 [a] := kk3.wr W6 (Or.inl (by simp))
  have N6 := Fr.snoc X6 N3 g_a
  have Z6 : n0 ≤ h6.size := by rw [W6.size]; exact Z3
  refine g_aloadN X6 hx (hb hby d_prog_12_m_1_56) rfl rfl rfl ?_
  refine g_iload X6 hx (hb hby d_prog_12_m_1_57) rfl rfl ?_
  have f10 : Fld Z h6 a "com/example/cropmark/cropmark/iiif/PixelRegion" "height" "I" (.int (0 : Int32)) := (((F_height_a.other W2 (Or.inr (slot_ne (Or.inr (hw _ (List.mem_of_getElem? (i := 59) rfl))) (Or.inr (hw _ (List.mem_of_getElem? (i := 53) rfl))) (by decide) (t := .int) (t' := .int) (by decide) (by decide)))).other W3 (Or.inr (slot_ne (Or.inr (hw _ (List.mem_of_getElem? (i := 59) rfl))) (Or.inr (hw _ (List.mem_of_getElem? (i := 55) rfl))) (by decide) (t := .int) (t' := .int) (by decide) (by decide)))).other W6 (Or.inr (slot_ne (Or.inr (hw _ (List.mem_of_getElem? (i := 59) rfl))) (Or.inr (hw _ (List.mem_of_getElem? (i := 57) rfl))) (by decide) (t := .int) (t' := .int) (by decide) (by decide))))
  have f11 : Exa Z h6 a "com/example/cropmark/cropmark/iiif/PixelRegion" := (f8.wr W6)
  refine g_putF X6 hx hZ hown (host := "") (Or.inl (hw _ (List.mem_of_getElem? (i := 58) rfl))) Via.refl e6 f10 f11 (Or.inr ⟨(hw _ (List.mem_of_getElem? (i := 59) rfl)), rfl, hnm⟩) (hw _ (List.mem_of_getElem? (i := 36) rfl)) (ty := .int) (by decide) rfl rfl (hb hby d_prog_12_m_1_59) rfl fun T9 h9 X9 e9 W9 F9 => ?_
  have kk9 : Keep h0 h9 [a] := kk6.wr W9 (Or.inl (by simp))
  have N9 := Fr.snoc X9 N6 g_a
  have Z9 : n0 ≤ h9.size := by rw [W9.size]; exact Z6
  have f12 : Exa Z h9 a "com/example/cropmark/cropmark/iiif/PixelRegion" := (f11.wr W9)
  have f13 : Fld Z h9 a "com/example/cropmark/cropmark/iiif/PixelRegion" "x" "I" (.int x) := (((F2.other W3 (Or.inr (slot_ne (Or.inr (hw _ (List.mem_of_getElem? (i := 53) rfl))) (Or.inr (hw _ (List.mem_of_getElem? (i := 55) rfl))) (by decide) (t := .int) (t' := .int) (by decide) (by decide)))).other W6 (Or.inr (slot_ne (Or.inr (hw _ (List.mem_of_getElem? (i := 53) rfl))) (Or.inr (hw _ (List.mem_of_getElem? (i := 57) rfl))) (by decide) (t := .int) (t' := .int) (by decide) (by decide)))).other W9 (Or.inr (slot_ne (Or.inr (hw _ (List.mem_of_getElem? (i := 53) rfl))) (Or.inr (hw _ (List.mem_of_getElem? (i := 59) rfl))) (by decide) (t := .int) (t' := .int) (by decide) (by decide))))
  have f14 : Fld Z h9 a "com/example/cropmark/cropmark/iiif/PixelRegion" "y" "I" (.int y) := ((F3.other W6 (Or.inr (slot_ne (Or.inr (hw _ (List.mem_of_getElem? (i := 55) rfl))) (Or.inr (hw _ (List.mem_of_getElem? (i := 57) rfl))) (by decide) (t := .int) (t' := .int) (by decide) (by decide)))).other W9 (Or.inr (slot_ne (Or.inr (hw _ (List.mem_of_getElem? (i := 55) rfl))) (Or.inr (hw _ (List.mem_of_getElem? (i := 59) rfl))) (by decide) (t := .int) (t' := .int) (by decide) (by decide))))
  have f15 : Fld Z h9 a "com/example/cropmark/cropmark/iiif/PixelRegion" "width" "I" (.int w) := (F6.other W9 (Or.inr (slot_ne (Or.inr (hw _ (List.mem_of_getElem? (i := 57) rfl))) (Or.inr (hw _ (List.mem_of_getElem? (i := 59) rfl))) (by decide) (t := .int) (t' := .int) (by decide) (by decide))))
  exact g_ret X9 hx hret hlk (hb hby d_prog_12_m_1_62) (by decide) (by decide) (by rw [e9]; exact ⟨rfl, N9, kk9, f12, f13, f14, f15, F9⟩)
def Q_dwidth (Z : State) (a : Addr) (x : Int32) (h0 : Heap) (n0 : Nat) (v : Option Value) (h : Heap) (L : List Loc) : Prop := v = some (.int x) ∧ Fr n0 L ∧ h = h0
theorem ef_dwidth (m : MethodId) (x0 : Addr) : entryFrame m #[(.ref x0)] 1 = mkF m 0 #[.val (.ref x0)] [] := by first | (simp [entryFrame, mkF, argsToLocals, Value.category]; done) | rfl
set_option maxRecDepth 65536 in
set_option maxHeartbeats 40000000 in
theorem rm_dwidth (l : Launch) (Z : State) (a0 : Array Value) (hw : ∀ d ∈ tables_1, d.before a0 Z = true) (a : Addr) (x : Int32) (h0 : Heap) (n0 : Nat) (Z0 : n0 ≤ h0.size) (F_width_a : Fld Z h0 a "com/example/cropmark/cropmark/iiif/Dimensions" "width" "I" (.int x)) :
    Ct l Z (⟨"com/example/cropmark/cropmark/iiif/Dimensions", "width", "()I"⟩ : MethodName) prog_3_method_5_code 1 (some .int) [] ({ frames := 0, cells := 0, slots := 0, locals := 0 } : Room) #[(.ref a)] h0 (Q_dwidth Z a x h0 n0) := by
  refine own_body (plainFor_of_name pn_1) (fun m => ef_dwidth m a) ?_
  intro p e s m below meth c T0 hx hby hml hZ hown hnm hret hlk X0 e0
  have N0 := Fr.nil n0
  refine g_aloadN X0 hx (hb hby d_prog_3_m_5_0) rfl rfl rfl ?_
  refine g_getF X0 hx hZ hown (host := "") (Or.inl (hw _ (List.mem_of_getElem? (i := 19) rfl))) Via.refl e0 F_width_a (hb hby d_prog_3_m_5_1) rfl fun T1 X1 e1 => ?_
  exact g_retI X1 hx hret hlk (hb hby d_prog_3_m_5_4) (by decide) (by decide) (by rw [e1]; exact ⟨rfl, N0, rfl⟩)
def Q_dheight (Z : State) (a : Addr) (x : Int32) (h0 : Heap) (n0 : Nat) (v : Option Value) (h : Heap) (L : List Loc) : Prop := v = some (.int x) ∧ Fr n0 L ∧ h = h0
theorem ef_dheight (m : MethodId) (x0 : Addr) : entryFrame m #[(.ref x0)] 1 = mkF m 0 #[.val (.ref x0)] [] := by first | (simp [entryFrame, mkF, argsToLocals, Value.category]; done) | rfl
set_option maxRecDepth 65536 in
set_option maxHeartbeats 40000000 in
theorem rm_dheight (l : Launch) (Z : State) (a0 : Array Value) (hw : ∀ d ∈ tables_1, d.before a0 Z = true) (a : Addr) (x : Int32) (h0 : Heap) (n0 : Nat) (Z0 : n0 ≤ h0.size) (F_height_a : Fld Z h0 a "com/example/cropmark/cropmark/iiif/Dimensions" "height" "I" (.int x)) :
    Ct l Z (⟨"com/example/cropmark/cropmark/iiif/Dimensions", "height", "()I"⟩ : MethodName) prog_3_method_6_code 1 (some .int) [] ({ frames := 0, cells := 0, slots := 0, locals := 0 } : Room) #[(.ref a)] h0 (Q_dheight Z a x h0 n0) := by
  refine own_body (plainFor_of_name pn_1) (fun m => ef_dheight m a) ?_
  intro p e s m below meth c T0 hx hby hml hZ hown hnm hret hlk X0 e0
  have N0 := Fr.nil n0
  refine g_aloadN X0 hx (hb hby d_prog_3_m_6_0) rfl rfl rfl ?_
  refine g_getF X0 hx hZ hown (host := "") (Or.inl (hw _ (List.mem_of_getElem? (i := 21) rfl))) Via.refl e0 F_height_a (hb hby d_prog_3_m_6_1) rfl fun T1 X1 e1 => ?_
  exact g_retI X1 hx hret hlk (hb hby d_prog_3_m_6_4) (by decide) (by decide) (by rw [e1]; exact ⟨rfl, N0, rfl⟩)
def Q_px (Z : State) (a : Addr) (x : Int32) (h0 : Heap) (n0 : Nat) (v : Option Value) (h : Heap) (L : List Loc) : Prop := v = some (.int x) ∧ Fr n0 L ∧ h = h0
theorem ef_px (m : MethodId) (x0 : Addr) : entryFrame m #[(.ref x0)] 1 = mkF m 0 #[.val (.ref x0)] [] := by first | (simp [entryFrame, mkF, argsToLocals, Value.category]; done) | rfl
set_option maxRecDepth 65536 in
set_option maxHeartbeats 40000000 in
theorem rm_px (l : Launch) (Z : State) (a0 : Array Value) (hw : ∀ d ∈ tables_1, d.before a0 Z = true) (a : Addr) (x : Int32) (h0 : Heap) (n0 : Nat) (Z0 : n0 ≤ h0.size) (F_x_a : Fld Z h0 a "com/example/cropmark/cropmark/iiif/PixelRegion" "x" "I" (.int x)) :
    Ct l Z (⟨"com/example/cropmark/cropmark/iiif/PixelRegion", "x", "()I"⟩ : MethodName) prog_12_method_6_code 1 (some .int) [] ({ frames := 0, cells := 0, slots := 0, locals := 0 } : Room) #[(.ref a)] h0 (Q_px Z a x h0 n0) := by
  refine own_body (plainFor_of_name pn_2) (fun m => ef_px m a) ?_
  intro p e s m below meth c T0 hx hby hml hZ hown hnm hret hlk X0 e0
  have N0 := Fr.nil n0
  refine g_aloadN X0 hx (hb hby d_prog_12_m_6_0) rfl rfl rfl ?_
  refine g_getF X0 hx hZ hown (host := "") (Or.inl (hw _ (List.mem_of_getElem? (i := 52) rfl))) Via.refl e0 F_x_a (hb hby d_prog_12_m_6_1) rfl fun T1 X1 e1 => ?_
  exact g_retI X1 hx hret hlk (hb hby d_prog_12_m_6_4) (by decide) (by decide) (by rw [e1]; exact ⟨rfl, N0, rfl⟩)
def Q_py (Z : State) (a : Addr) (x : Int32) (h0 : Heap) (n0 : Nat) (v : Option Value) (h : Heap) (L : List Loc) : Prop := v = some (.int x) ∧ Fr n0 L ∧ h = h0
theorem ef_py (m : MethodId) (x0 : Addr) : entryFrame m #[(.ref x0)] 1 = mkF m 0 #[.val (.ref x0)] [] := by first | (simp [entryFrame, mkF, argsToLocals, Value.category]; done) | rfl
set_option maxRecDepth 65536 in
set_option maxHeartbeats 40000000 in
theorem rm_py (l : Launch) (Z : State) (a0 : Array Value) (hw : ∀ d ∈ tables_1, d.before a0 Z = true) (a : Addr) (x : Int32) (h0 : Heap) (n0 : Nat) (Z0 : n0 ≤ h0.size) (F_y_a : Fld Z h0 a "com/example/cropmark/cropmark/iiif/PixelRegion" "y" "I" (.int x)) :
    Ct l Z (⟨"com/example/cropmark/cropmark/iiif/PixelRegion", "y", "()I"⟩ : MethodName) prog_12_method_7_code 1 (some .int) [] ({ frames := 0, cells := 0, slots := 0, locals := 0 } : Room) #[(.ref a)] h0 (Q_py Z a x h0 n0) := by
  refine own_body (plainFor_of_name pn_2) (fun m => ef_py m a) ?_
  intro p e s m below meth c T0 hx hby hml hZ hown hnm hret hlk X0 e0
  have N0 := Fr.nil n0
  refine g_aloadN X0 hx (hb hby d_prog_12_m_7_0) rfl rfl rfl ?_
  refine g_getF X0 hx hZ hown (host := "") (Or.inl (hw _ (List.mem_of_getElem? (i := 54) rfl))) Via.refl e0 F_y_a (hb hby d_prog_12_m_7_1) rfl fun T1 X1 e1 => ?_
  exact g_retI X1 hx hret hlk (hb hby d_prog_12_m_7_4) (by decide) (by decide) (by rw [e1]; exact ⟨rfl, N0, rfl⟩)
def Q_pwidth (Z : State) (a : Addr) (x : Int32) (h0 : Heap) (n0 : Nat) (v : Option Value) (h : Heap) (L : List Loc) : Prop := v = some (.int x) ∧ Fr n0 L ∧ h = h0
theorem ef_pwidth (m : MethodId) (x0 : Addr) : entryFrame m #[(.ref x0)] 1 = mkF m 0 #[.val (.ref x0)] [] := by first | (simp [entryFrame, mkF, argsToLocals, Value.category]; done) | rfl
set_option maxRecDepth 65536 in
set_option maxHeartbeats 40000000 in
theorem rm_pwidth (l : Launch) (Z : State) (a0 : Array Value) (hw : ∀ d ∈ tables_1, d.before a0 Z = true) (a : Addr) (x : Int32) (h0 : Heap) (n0 : Nat) (Z0 : n0 ≤ h0.size) (F_width_a : Fld Z h0 a "com/example/cropmark/cropmark/iiif/PixelRegion" "width" "I" (.int x)) :
    Ct l Z (⟨"com/example/cropmark/cropmark/iiif/PixelRegion", "width", "()I"⟩ : MethodName) prog_12_method_8_code 1 (some .int) [] ({ frames := 0, cells := 0, slots := 0, locals := 0 } : Room) #[(.ref a)] h0 (Q_pwidth Z a x h0 n0) := by
  refine own_body (plainFor_of_name pn_2) (fun m => ef_pwidth m a) ?_
  intro p e s m below meth c T0 hx hby hml hZ hown hnm hret hlk X0 e0
  have N0 := Fr.nil n0
  refine g_aloadN X0 hx (hb hby d_prog_12_m_8_0) rfl rfl rfl ?_
  refine g_getF X0 hx hZ hown (host := "") (Or.inl (hw _ (List.mem_of_getElem? (i := 56) rfl))) Via.refl e0 F_width_a (hb hby d_prog_12_m_8_1) rfl fun T1 X1 e1 => ?_
  exact g_retI X1 hx hret hlk (hb hby d_prog_12_m_8_4) (by decide) (by decide) (by rw [e1]; exact ⟨rfl, N0, rfl⟩)
def Q_pheight (Z : State) (a : Addr) (x : Int32) (h0 : Heap) (n0 : Nat) (v : Option Value) (h : Heap) (L : List Loc) : Prop := v = some (.int x) ∧ Fr n0 L ∧ h = h0
theorem ef_pheight (m : MethodId) (x0 : Addr) : entryFrame m #[(.ref x0)] 1 = mkF m 0 #[.val (.ref x0)] [] := by first | (simp [entryFrame, mkF, argsToLocals, Value.category]; done) | rfl
set_option maxRecDepth 65536 in
set_option maxHeartbeats 40000000 in
theorem rm_pheight (l : Launch) (Z : State) (a0 : Array Value) (hw : ∀ d ∈ tables_1, d.before a0 Z = true) (a : Addr) (x : Int32) (h0 : Heap) (n0 : Nat) (Z0 : n0 ≤ h0.size) (F_height_a : Fld Z h0 a "com/example/cropmark/cropmark/iiif/PixelRegion" "height" "I" (.int x)) :
    Ct l Z (⟨"com/example/cropmark/cropmark/iiif/PixelRegion", "height", "()I"⟩ : MethodName) prog_12_method_9_code 1 (some .int) [] ({ frames := 0, cells := 0, slots := 0, locals := 0 } : Room) #[(.ref a)] h0 (Q_pheight Z a x h0 n0) := by
  refine own_body (plainFor_of_name pn_2) (fun m => ef_pheight m a) ?_
  intro p e s m below meth c T0 hx hby hml hZ hown hnm hret hlk X0 e0
  have N0 := Fr.nil n0
  refine g_aloadN X0 hx (hb hby d_prog_12_m_9_0) rfl rfl rfl ?_
  refine g_getF X0 hx hZ hown (host := "") (Or.inl (hw _ (List.mem_of_getElem? (i := 58) rfl))) Via.refl e0 F_height_a (hb hby d_prog_12_m_9_1) rfl fun T1 X1 e1 => ?_
  exact g_retI X1 hx hret hlk (hb hby d_prog_12_m_9_4) (by decide) (by decide) (by rw [e1]; exact ⟨rfl, N0, rfl⟩)
def Q_fini (Z : State) (a : Addr) (h0 : Heap) (n0 : Nat) (v : Option Value) (h : Heap) (L : List Loc) : Prop := v = none ∧ Fr n0 L ∧ h = h0
theorem ef_fini (m : MethodId) (x0 : Addr) : entryFrame m #[(.ref x0)] 1 = mkF m 0 #[.val (.ref x0)] [] := by first | (simp [entryFrame, mkF, argsToLocals, Value.category]; done) | rfl
set_option maxRecDepth 65536 in
set_option maxHeartbeats 40000000 in
theorem rm_fini (l : Launch) (Z : State) (a0 : Array Value) (hw : ∀ d ∈ tables_1, d.before a0 Z = true) (a : Addr) (h0 : Heap) (n0 : Nat) (Z0 : n0 ≤ h0.size) :
    Ct l Z (⟨"com/example/cropmark/cropmark/iiif/Region$Full", "<init>", "()V"⟩ : MethodName) prog_15_method_1_code 1 none [] ({ frames := 2, cells := 0, slots := 0, locals := 24 } : Room) #[(.ref a)] h0 (Q_fini Z a h0 n0) := by
  refine own_body (plainFor_of_name pn_3) (fun m => ef_fini m a) ?_
  intro p e s m below meth c T0 hx hby hml hZ hown hnm hret hlk X0 e0
  have N0 := Fr.nil n0
  refine g_aloadN X0 hx (hb hby d_prog_15_m_1_0) rfl rfl rfl ?_
  refine g_special X0 hx hZ hown rfl (hw _ (List.mem_of_getElem? (i := 29) rfl)) (hw _ (List.mem_of_getElem? (i := 12) rfl)) (hw _ (List.mem_of_getElem? (i := 14) rfl)) (hw _ (List.mem_of_getElem? (i := 15) rfl)) (by decide) (a := a) (rm_rec l Z a0 hw a h0 n0 Z0) (by rw [hml]; rfl) e0 [] rfl rfl (W := 0) (Nat.le_of_eq rfl) (by decide) (by decide) (by decide) (by decide) (lenOf pd_0 rfl) (hb hby d_prog_15_m_1_1) rfl fun v1 T1 L1 X1 hQ1 => ?_
  obtain ⟨rfl, Nq1, eh1⟩ := hQ1
  have N1 := Fr.app N0 Nq1
  show Ga _ _ _ _ _ _ _ _ _ _ _ []
  exact g_ret X1 hx hret hlk (hb hby d_prog_15_m_1_4) (by decide) (by decide) (by rw [eh1]; exact ⟨rfl, N1, rfl⟩)
def Q_within (Z : State) (a : Addr) (d : Addr) (w : Int32) (ht : Int32) (h0 : Heap) (n0 : Nat) (v : Option Value) (h : Heap) (L : List Loc) : Prop := ∃ (r : Addr), v = some (.ref r) ∧ Fr n0 L ∧ Keep h0 h [] ∧ h0.size ≤ r ∧ Exa Z h r "com/example/cropmark/cropmark/iiif/PixelRegion" ∧ Fld Z h r "com/example/cropmark/cropmark/iiif/PixelRegion" "x" "I" (.int (0 : Int32)) ∧ Fld Z h r "com/example/cropmark/cropmark/iiif/PixelRegion" "y" "I" (.int (0 : Int32)) ∧ Fld Z h r "com/example/cropmark/cropmark/iiif/PixelRegion" "width" "I" (.int w) ∧ Fld Z h r "com/example/cropmark/cropmark/iiif/PixelRegion" "height" "I" (.int ht)
theorem ef_within (m : MethodId) (x0 : Addr) (x1 : Addr) : entryFrame m #[(.ref x0), (.ref x1)] 2 = mkF m 0 #[.val (.ref x0), .val (.ref x1)] [] := by first | (simp [entryFrame, mkF, argsToLocals, Value.category]; done) | rfl
set_option maxRecDepth 65536 in
set_option maxHeartbeats 40000000 in
theorem rm_within (l : Launch) (Z : State) (a0 : Array Value) (hw : ∀ d ∈ tables_1, d.before a0 Z = true) (a : Addr) (d : Addr) (w : Int32) (ht : Int32) (h0 : Heap) (n0 : Nat) (Z0 : n0 ≤ h0.size) (E_d : Exa Z h0 d "com/example/cropmark/cropmark/iiif/Dimensions") (F_width_d : Fld Z h0 d "com/example/cropmark/cropmark/iiif/Dimensions" "width" "I" (.int w)) (F_height_d : Fld Z h0 d "com/example/cropmark/cropmark/iiif/Dimensions" "height" "I" (.int ht)) (hw1 : ¬ w < (1 : Int32)) (hh1 : ¬ ht < (1 : Int32)) :
    Ct l Z (⟨"com/example/cropmark/cropmark/iiif/Region$Full", "within", "(Lcom/example/cropmark/cropmark/iiif/Dimensions;)Lcom/example/cropmark/cropmark/iiif/PixelRegion;"⟩ : MethodName) prog_15_method_2_code 2 (some (.object "com/example/cropmark/cropmark/iiif/PixelRegion")) [] ({ frames := 3, cells := 1, slots := 4, locals := 41 } : Room) #[(.ref a), (.ref d)] h0 (Q_within Z a d w ht h0 n0) := by
  refine own_body (plainFor_of_name pn_3) (fun m => ef_within m a d) ?_
  intro p e s m below meth c T0 hx hby hml hZ hown hnm hret hlk X0 e0
  have N0 := Fr.nil n0
  refine g_new X0 hx hZ hown (hw _ (List.mem_of_getElem? (i := 35) rfl)) (hw _ (List.mem_of_getElem? (i := 36) rfl)) (hw _ (List.mem_of_getElem? (i := 37) rfl)) e0 (hb hby d_prog_15_m_2_0) rfl (by decide) (by decide) fun T1 h1 b1 X1 e1 q1 E1 A1 D1 => ?_
  have ne_d_b1 : d ≠ b1 := own_ne E_d.lt q1
  have g_b1 : n0 ≤ b1 := Nat.le_trans Z0 (Nat.le_of_eq q1.symm)
  have sz_b1 : h0.size ≤ b1 := Nat.le_trans (Keep.refl h0 []).1 (Nat.le_of_eq q1.symm)
  have Z1 : n0 ≤ h1.size := Nat.le_trans Z0 E1.1
  have kk1 : Keep h0 h1 [] := (Keep.refl h0 []).ext E1
  have F1_x : Fld Z h1 b1 "com/example/cropmark/cropmark/iiif/PixelRegion" "x" "I" (.int (0 : Int32)) := D1 (Or.inr (hw _ (List.mem_of_getElem? (i := 53) rfl))) (ty := .int) (by decide)
  have F1_y : Fld Z h1 b1 "com/example/cropmark/cropmark/iiif/PixelRegion" "y" "I" (.int (0 : Int32)) := D1 (Or.inr (hw _ (List.mem_of_getElem? (i := 55) rfl))) (ty := .int) (by decide)
  have F1_width : Fld Z h1 b1 "com/example/cropmark/cropmark/iiif/PixelRegion" "width" "I" (.int (0 : Int32)) := D1 (Or.inr (hw _ (List.mem_of_getElem? (i := 57) rfl))) (ty := .int) (by decide)
  have F1_height : Fld Z h1 b1 "com/example/cropmark/cropmark/iiif/PixelRegion" "height" "I" (.int (0 : Int32)) := D1 (Or.inr (hw _ (List.mem_of_getElem? (i := 59) rfl))) (ty := .int) (by decide)
  refine g_dup X1 hx (hb hby d_prog_15_m_2_3) rfl rfl ?_
  refine g_iconst X1 hx (r := (0 : Int32)) (hb hby d_prog_15_m_2_4) rfl rfl ?_
  refine g_iconst X1 hx (r := (0 : Int32)) (hb hby d_prog_15_m_2_5) rfl rfl ?_
  refine g_aloadN X1 hx (hb hby d_prog_15_m_2_6) rfl rfl rfl ?_
  have f3 : Fld Z h1 d "com/example/cropmark/cropmark/iiif/Dimensions" "width" "I" (.int w) := (F_width_d.ext E1)
  have f4 : Exa Z h1 d "com/example/cropmark/cropmark/iiif/Dimensions" := (E_d.ext E1)
  refine g_virtual X1 hx hZ hown (hw _ (List.mem_of_getElem? (i := 38) rfl)) (hw _ (List.mem_of_getElem? (i := 39) rfl)) (notFace_of_selects (args := #[]) (mvT hZ (hw _ (List.mem_of_getElem? (i := 41) rfl)))) (hw _ (List.mem_of_getElem? (i := 41) rfl)) (hw _ (List.mem_of_getElem? (i := 40) rfl)) (hw _ (List.mem_of_getElem? (i := 7) rfl)) (hw _ (List.mem_of_getElem? (i := 42) rfl)) (by decide) (a := d) f4 (rm_dwidth l Z a0 hw d w h1 n0 Z1 f3) (by rw [hml]; rfl) e1 [] rfl rfl (W := 4) (Nat.le_of_eq rfl) (by decide) (by decide) (by decide) (by decide) (lenOf pd_1 rfl) (hb hby d_prog_15_m_2_7) rfl fun v2 T2 L2 X2 hQ2 => ?_
  obtain ⟨rfl, Nq2, eh2⟩ := hQ2
  have N2 := Fr.app N0 Nq2
  show Ga _ _ _ _ _ _ _ _ _ _ _ [(.int w), (.int (0 : Int32)), (.int (0 : Int32)), (.ref b1), (.ref b1)]
  refine g_aloadN X2 hx (hb hby d_prog_15_m_2_10) rfl rfl rfl ?_
  have f6 : Fld Z h1 d "com/example/cropmark/cropmark/iiif/Dimensions" "height" "I" (.int ht) := (F_height_d.ext E1)
  refine g_virtual X2 hx hZ hown (hw _ (List.mem_of_getElem? (i := 43) rfl)) (hw _ (List.mem_of_getElem? (i := 44) rfl)) (notFace_of_selects (args := #[]) (mvT hZ (hw _ (List.mem_of_getElem? (i := 46) rfl)))) (hw _ (List.mem_of_getElem? (i := 46) rfl)) (hw _ (List.mem_of_getElem? (i := 45) rfl)) (hw _ (List.mem_of_getElem? (i := 7) rfl)) (hw _ (List.mem_of_getElem? (i := 47) rfl)) (by decide) (a := d) f4 (rm_dheight l Z a0 hw d ht h1 n0 Z1 f6) (by rw [hml]; rfl) eh2 [] rfl rfl (W := 5) (Nat.le_of_eq rfl) (by decide) (by decide) (by decide) (by decide) (lenOf pd_1 rfl) (hb hby d_prog_15_m_2_11) rfl fun v5 T5 L5 X5 hQ5 => ?_
  obtain ⟨rfl, Nq5, eh5⟩ := hQ5
  have N5 := Fr.app N2 Nq5
  show Ga _ _ _ _ _ _ _ _ _ _ _ [(.int ht), (.int w), (.int (0 : Int32)), (.int (0 : Int32)), (.ref b1), (.ref b1)]
  refine g_special X5 hx hZ hown rfl (hw _ (List.mem_of_getElem? (i := 48) rfl)) (hw _ (List.mem_of_getElem? (i := 49) rfl)) (hw _ (List.mem_of_getElem? (i := 37) rfl)) (hw _ (List.mem_of_getElem? (i := 50) rfl)) (by decide) (a := b1) (rm_pini l Z a0 hw b1 (0 : Int32) (0 : Int32) w ht h1 n0 Z1 F1_x F1_y F1_width F1_height A1 g_b1 (by first | decide | assumption | rfl) (by first | decide | assumption | rfl) hw1 hh1) (by rw [hml]; rfl) eh5 [(.int (0 : Int32)), (.int (0 : Int32)), (.int w), (.int ht)] rfl rfl (W := 1) (Nat.le_of_eq rfl) (by decide) (by decide) (by decide) (by decide) (lenOf pd_2 rfl) (hb hby d_prog_15_m_2_14) rfl fun v7 T7 L7 X7 hQ7 => ?_
  obtain ⟨rfl, Nq7, kc7, p7_0, p7_1, p7_2, p7_3, p7_4⟩ := hQ7
  have N7 := Fr.app N5 Nq7
  have kk7 : Keep h0 T7.heap [] := kk1.trans kc7 (allS (Or.inr sz_b1) all0)
  have Z7 : n0 ≤ T7.heap.size := Nat.le_trans Z1 kc7.1
  show Ga _ _ _ _ _ _ _ _ _ _ _ [(.ref b1)]
  exact g_retR X7 hx hret hlk rfl rfl rfl (hb hby d_prog_15_m_2_17) (by decide) (by decide) ⟨b1, rfl, N7, kk7, sz_b1, p7_0, p7_1, p7_2, p7_3, p7_4⟩
def Q_law (Z : State) (p0 : Int32) (p1 : Int32) (h0 : Heap) (n0 : Nat) (v : Option Value) (h : Heap) (L : List Loc) : Prop := v = some (.int 1) ∧ Fr n0 L
theorem ef_law (m : MethodId) (x0 : Int32) (x1 : Int32) : entryFrame m #[(.int x0), (.int x1)] maxLocals = mkF m 0 #[.val (.int x0), .val (.int x1), .unset, .unset, .unset, .unset] [] := by first | (simp [entryFrame, mkF, argsToLocals, Value.category, maxLocals]; done) | rfl
set_option maxRecDepth 65536 in
set_option maxHeartbeats 40000000 in
theorem rm_law (l : Launch) (Z : State) (a0 : Array Value) (hw : ∀ d ∈ tables_1, d.before a0 Z = true) (ws : List Jvm.Cond) (p0 : Int32) (p1 : Int32) (h0 : Heap) (n0 : Nat) (Z0 : n0 ≤ h0.size) :
    Ct l Z x code maxLocals ret ws room_1 #[(.int p0), (.int p1)] h0 (Q_law Z p0 p1 h0 n0) := by
  refine own_body (plainFor_of_name pn_4) (fun m => ef_law m p0 p1) ?_
  intro p e s m below meth c T0 hx hby hml hZ hown hnm hret hlk X0 e0
  have N0 := Fr.nil n0
  refine g_iconst X0 hx (r := (1 : Int32)) (hb hby at_0) rfl rfl ?_
  refine g_iloadN X0 hx (hb hby at_1) rfl rfl ?_
  refine g_ldcI X0 hx hZ hown (hw _ (List.mem_of_getElem? (i := 0) rfl)) (hb hby at_2) rfl ?_
  refine g_iand X0 hx (hb hby at_4) rfl rfl ?_
  refine g_static X0 hx hZ hown (hw _ (List.mem_of_getElem? (i := 1) rfl)) (hw _ (List.mem_of_getElem? (i := 2) rfl)) (hw _ (List.mem_of_getElem? (i := 3) rfl)) (hw _ (List.mem_of_getElem? (i := 4) rfl)) (by decide) (rm_mmax l Z a0 hw (1 : Int32) (p0 &&& (2147483647 : Int32)) h0 n0 Z0) (by rw [hml]; rfl) e0 [(.int (1 : Int32)), (.int (p0 &&& (2147483647 : Int32)))] rfl rfl (W := 0) (Nat.le_of_eq rfl) (by decide) (by decide) (by decide) (by decide) (lenOf pd_3 rfl) (hb hby at_5) rfl fun v1 T1 L1 X1 hQ1 => ?_
  obtain ⟨rfl, Nq1, eh1⟩ := hQ1
  have N1 := Fr.app N0 Nq1
  show Ga _ _ _ _ _ _ _ _ _ _ _ [(.int (if (1 : Int32) < (p0 &&& (2147483647 : Int32)) then (p0 &&& (2147483647 : Int32)) else (1 : Int32)))]
  generalize hr5 : (if (1 : Int32) < (p0 &&& (2147483647 : Int32)) then (p0 &&& (2147483647 : Int32)) else (1 : Int32)) = r5
  refine g_istoreN X1 hx (Ls' := #[.val (.int p0), .val (.int p1), .val (.int r5), .unset, .unset, .unset]) (hb hby at_8) rfl rfl ?_
  refine g_iconst X1 hx (r := (1 : Int32)) (hb hby at_9) rfl rfl ?_
  refine g_iloadN X1 hx (hb hby at_10) rfl rfl ?_
  refine g_ldcI X1 hx hZ hown (hw _ (List.mem_of_getElem? (i := 0) rfl)) (hb hby at_11) rfl ?_
  refine g_iand X1 hx (hb hby at_13) rfl rfl ?_
  refine g_static X1 hx hZ hown (hw _ (List.mem_of_getElem? (i := 1) rfl)) (hw _ (List.mem_of_getElem? (i := 2) rfl)) (hw _ (List.mem_of_getElem? (i := 3) rfl)) (hw _ (List.mem_of_getElem? (i := 4) rfl)) (by decide) (rm_mmax l Z a0 hw (1 : Int32) (p1 &&& (2147483647 : Int32)) h0 n0 Z0) (by rw [hml]; rfl) eh1 [(.int (1 : Int32)), (.int (p1 &&& (2147483647 : Int32)))] rfl rfl (W := 0) (Nat.le_of_eq rfl) (by decide) (by decide) (by decide) (by decide) (lenOf pd_3 rfl) (hb hby at_14) rfl fun v2 T2 L2 X2 hQ2 => ?_
  obtain ⟨rfl, Nq2, eh2⟩ := hQ2
  have N2 := Fr.app N1 Nq2
  show Ga _ _ _ _ _ _ _ _ _ _ _ [(.int (if (1 : Int32) < (p1 &&& (2147483647 : Int32)) then (p1 &&& (2147483647 : Int32)) else (1 : Int32)))]
  generalize hr14 : (if (1 : Int32) < (p1 &&& (2147483647 : Int32)) then (p1 &&& (2147483647 : Int32)) else (1 : Int32)) = r14
  refine g_istoreN X2 hx (Ls' := #[.val (.int p0), .val (.int p1), .val (.int r5), .val (.int r14), .unset, .unset]) (hb hby at_17) rfl rfl ?_
  refine g_new X2 hx hZ hown (hw _ (List.mem_of_getElem? (i := 5) rfl)) (hw _ (List.mem_of_getElem? (i := 6) rfl)) (hw _ (List.mem_of_getElem? (i := 7) rfl)) eh2 (hb hby at_18) rfl (by decide) (by decide) fun T3 h3 b3 X3 e3 q3 E3 A3 D3 => ?_
  have g_b3 : n0 ≤ b3 := Nat.le_trans Z0 (Nat.le_of_eq q3.symm)
  have Z3 : n0 ≤ h3.size := Nat.le_trans Z0 E3.1
  have F3_width : Fld Z h3 b3 "com/example/cropmark/cropmark/iiif/Dimensions" "width" "I" (.int (0 : Int32)) := D3 (Or.inr (hw _ (List.mem_of_getElem? (i := 20) rfl))) (ty := .int) (by decide)
  have F3_height : Fld Z h3 b3 "com/example/cropmark/cropmark/iiif/Dimensions" "height" "I" (.int (0 : Int32)) := D3 (Or.inr (hw _ (List.mem_of_getElem? (i := 22) rfl))) (ty := .int) (by decide)
  refine g_dup X3 hx (hb hby at_21) rfl rfl ?_
  refine g_iloadN X3 hx (hb hby at_22) rfl rfl ?_
  refine g_iloadN X3 hx (hb hby at_23) rfl rfl ?_
  refine g_special X3 hx hZ hown rfl (hw _ (List.mem_of_getElem? (i := 8) rfl)) (hw _ (List.mem_of_getElem? (i := 9) rfl)) (hw _ (List.mem_of_getElem? (i := 7) rfl)) (hw _ (List.mem_of_getElem? (i := 10) rfl)) (by decide) (a := b3) (rm_dini l Z a0 hw b3 r5 r14 h3 n0 Z3 F3_width F3_height A3 g_b3 (own_max1 hr5) (own_max1 hr14)) (by rw [hml]; rfl) e3 [(.int r5), (.int r14)] rfl rfl (W := 1) (Nat.le_of_eq rfl) (by decide) (by decide) (by decide) (by decide) (lenOf pd_4 rfl) (hb hby at_24) rfl fun v4 T4 L4 X4 hQ4 => ?_
  obtain ⟨rfl, Nq4, kc4, p4_0, p4_1, p4_2⟩ := hQ4
  have N4 := Fr.app N2 Nq4
  have Z4 : n0 ≤ T4.heap.size := Nat.le_trans Z3 kc4.1
  show Ga _ _ _ _ _ _ _ _ _ _ _ [(.ref b3)]
  refine g_astore X4 hx (Ls' := #[.val (.int p0), .val (.int p1), .val (.int r5), .val (.int r14), .val (.ref b3), .unset]) (hb hby at_27) rfl rfl rfl ?_
  refine g_new X4 hx hZ hown (hw _ (List.mem_of_getElem? (i := 23) rfl)) (hw _ (List.mem_of_getElem? (i := 24) rfl)) (hw _ (List.mem_of_getElem? (i := 25) rfl)) rfl (hb hby at_29) rfl (by decide) (by decide) fun T5 h5 b5 X5 e5 q5 E5 A5 D5 => ?_
  have ne_b3_b5 : b3 ≠ b5 := own_ne p4_0.lt q5
  have g_b5 : n0 ≤ b5 := Nat.le_trans Z4 (Nat.le_of_eq q5.symm)
  have Z5 : n0 ≤ h5.size := Nat.le_trans Z4 E5.1
  refine g_dup X5 hx (hb hby at_32) rfl rfl ?_
  refine g_special X5 hx hZ hown rfl (hw _ (List.mem_of_getElem? (i := 26) rfl)) (hw _ (List.mem_of_getElem? (i := 27) rfl)) (hw _ (List.mem_of_getElem? (i := 25) rfl)) (hw _ (List.mem_of_getElem? (i := 28) rfl)) (by decide) (a := b5) (rm_fini l Z a0 hw b5 h5 n0 Z5) (by rw [hml]; rfl) e5 [] rfl rfl (W := 1) (Nat.le_of_eq rfl) (by decide) (by decide) (by decide) (by decide) (lenOf pd_0 rfl) (hb hby at_33) rfl fun v6 T6 L6 X6 hQ6 => ?_
  obtain ⟨rfl, Nq6, eh6⟩ := hQ6
  have N6 := Fr.app N4 Nq6
  show Ga _ _ _ _ _ _ _ _ _ _ _ [(.ref b5)]
  refine g_aload X6 hx (hb hby at_36) rfl rfl rfl ?_
  have f8 : Exa Z h5 b3 "com/example/cropmark/cropmark/iiif/Dimensions" := (p4_0.ext E5)
  have f9 : Fld Z h5 b3 "com/example/cropmark/cropmark/iiif/Dimensions" "width" "I" (.int r5) := (p4_1.ext E5)
  have f10 : Fld Z h5 b3 "com/example/cropmark/cropmark/iiif/Dimensions" "height" "I" (.int r14) := (p4_2.ext E5)
  refine g_virtual X6 hx hZ hown (hw _ (List.mem_of_getElem? (i := 30) rfl)) (hw _ (List.mem_of_getElem? (i := 31) rfl)) (notFace_of_selects (args := #[]) (mvT hZ (hw _ (List.mem_of_getElem? (i := 33) rfl)))) (hw _ (List.mem_of_getElem? (i := 33) rfl)) (hw _ (List.mem_of_getElem? (i := 32) rfl)) (hw _ (List.mem_of_getElem? (i := 25) rfl)) (hw _ (List.mem_of_getElem? (i := 34) rfl)) (by decide) (a := b5) A5 (rm_within l Z a0 hw b5 b3 r5 r14 h5 n0 Z5 f8 f9 f10 (own_max1 hr5) (own_max1 hr14)) (by rw [hml]; rfl) eh6 [(.ref b3)] rfl rfl (W := 0) (Nat.le_of_eq rfl) (by decide) (by decide) (by decide) (by decide) (lenOf pd_5 rfl) (hb hby at_38) rfl fun v7 T7 L7 X7 hQ7 => ?_
  obtain ⟨r_7, rfl, Nq7, kc7, p7_0, p7_1, p7_2, p7_3, p7_4, p7_5⟩ := hQ7
  have N7 := Fr.app N6 Nq7
  have ne_b3_r_7 : b3 ≠ r_7 := own_neK f8.lt p7_0
  have ne_b5_r_7 : b5 ≠ r_7 := own_neK A5.lt p7_0
  have g_r_7 : n0 ≤ r_7 := Nat.le_trans Z5 p7_0
  have Z7 : n0 ≤ T7.heap.size := Nat.le_trans Z5 kc7.1
  show Ga _ _ _ _ _ _ _ _ _ _ _ [(.ref r_7)]
  refine g_astore X7 hx (Ls' := #[.val (.int p0), .val (.int p1), .val (.int r5), .val (.int r14), .val (.ref b3), .val (.ref r_7)]) (hb hby at_41) rfl rfl rfl ?_
  refine g_aload X7 hx (hb hby at_43) rfl rfl rfl ?_
  refine g_virtual X7 hx hZ hown (hw _ (List.mem_of_getElem? (i := 60) rfl)) (hw _ (List.mem_of_getElem? (i := 61) rfl)) (notFace_of_selects (args := #[]) (mvT hZ (hw _ (List.mem_of_getElem? (i := 63) rfl)))) (hw _ (List.mem_of_getElem? (i := 63) rfl)) (hw _ (List.mem_of_getElem? (i := 62) rfl)) (hw _ (List.mem_of_getElem? (i := 37) rfl)) (hw _ (List.mem_of_getElem? (i := 64) rfl)) (by decide) (a := r_7) p7_1 (rm_px l Z a0 hw r_7 (0 : Int32) T7.heap n0 Z7 p7_2) (by rw [hml]; rfl) rfl [] rfl rfl (W := 0) (Nat.le_of_eq rfl) (by decide) (by decide) (by decide) (by decide) (lenOf pd_1 rfl) (hb hby at_45) rfl fun v11 T11 L11 X11 hQ11 => ?_
  obtain ⟨rfl, Nq11, eh11⟩ := hQ11
  have N11 := Fr.app N7 Nq11
  show Ga _ _ _ _ _ _ _ _ _ _ _ [(.int (0 : Int32))]
  refine g_ifN X11 hx (hb hby at_48) rfl (XT.i0_ne_f (by decide : (0 : Int32) = (0 : Int32))) ?_
  refine g_aload X11 hx (hb hby at_51) rfl rfl rfl ?_
  refine g_virtual X11 hx hZ hown (hw _ (List.mem_of_getElem? (i := 65) rfl)) (hw _ (List.mem_of_getElem? (i := 66) rfl)) (notFace_of_selects (args := #[]) (mvT hZ (hw _ (List.mem_of_getElem? (i := 68) rfl)))) (hw _ (List.mem_of_getElem? (i := 68) rfl)) (hw _ (List.mem_of_getElem? (i := 67) rfl)) (hw _ (List.mem_of_getElem? (i := 37) rfl)) (hw _ (List.mem_of_getElem? (i := 69) rfl)) (by decide) (a := r_7) p7_1 (rm_py l Z a0 hw r_7 (0 : Int32) T7.heap n0 Z7 p7_3) (by rw [hml]; rfl) eh11 [] rfl rfl (W := 0) (Nat.le_of_eq rfl) (by decide) (by decide) (by decide) (by decide) (lenOf pd_1 rfl) (hb hby at_53) rfl fun v12 T12 L12 X12 hQ12 => ?_
  obtain ⟨rfl, Nq12, eh12⟩ := hQ12
  have N12 := Fr.app N11 Nq12
  show Ga _ _ _ _ _ _ _ _ _ _ _ [(.int (0 : Int32))]
  refine g_ifN X12 hx (hb hby at_56) rfl (XT.i0_ne_f (by decide : (0 : Int32) = (0 : Int32))) ?_
  refine g_aload X12 hx (hb hby at_59) rfl rfl rfl ?_
  refine g_virtual X12 hx hZ hown (hw _ (List.mem_of_getElem? (i := 70) rfl)) (hw _ (List.mem_of_getElem? (i := 71) rfl)) (notFace_of_selects (args := #[]) (mvT hZ (hw _ (List.mem_of_getElem? (i := 73) rfl)))) (hw _ (List.mem_of_getElem? (i := 73) rfl)) (hw _ (List.mem_of_getElem? (i := 72) rfl)) (hw _ (List.mem_of_getElem? (i := 37) rfl)) (hw _ (List.mem_of_getElem? (i := 74) rfl)) (by decide) (a := r_7) p7_1 (rm_pwidth l Z a0 hw r_7 r5 T7.heap n0 Z7 p7_4) (by rw [hml]; rfl) eh12 [] rfl rfl (W := 0) (Nat.le_of_eq rfl) (by decide) (by decide) (by decide) (by decide) (lenOf pd_1 rfl) (hb hby at_61) rfl fun v13 T13 L13 X13 hQ13 => ?_
  obtain ⟨rfl, Nq13, eh13⟩ := hQ13
  have N13 := Fr.app N12 Nq13
  show Ga _ _ _ _ _ _ _ _ _ _ _ [(.int r5)]
  refine g_iloadN X13 hx (hb hby at_64) rfl rfl ?_
  refine g_icmpN X13 hx (hb hby at_65) rfl (XT.ii_ne_f rfl) ?_
  refine g_aload X13 hx (hb hby at_68) rfl rfl rfl ?_
  refine g_virtual X13 hx hZ hown (hw _ (List.mem_of_getElem? (i := 75) rfl)) (hw _ (List.mem_of_getElem? (i := 76) rfl)) (notFace_of_selects (args := #[]) (mvT hZ (hw _ (List.mem_of_getElem? (i := 78) rfl)))) (hw _ (List.mem_of_getElem? (i := 78) rfl)) (hw _ (List.mem_of_getElem? (i := 77) rfl)) (hw _ (List.mem_of_getElem? (i := 37) rfl)) (hw _ (List.mem_of_getElem? (i := 79) rfl)) (by decide) (a := r_7) p7_1 (rm_pheight l Z a0 hw r_7 r14 T7.heap n0 Z7 p7_5) (by rw [hml]; rfl) eh13 [] rfl rfl (W := 0) (Nat.le_of_eq rfl) (by decide) (by decide) (by decide) (by decide) (lenOf pd_1 rfl) (hb hby at_70) rfl fun v14 T14 L14 X14 hQ14 => ?_
  obtain ⟨rfl, Nq14, eh14⟩ := hQ14
  have N14 := Fr.app N13 Nq14
  show Ga _ _ _ _ _ _ _ _ _ _ _ [(.int r14)]
  refine g_iloadN X14 hx (hb hby at_73) rfl rfl ?_
  refine g_icmpN X14 hx (hb hby at_74) rfl (XT.ii_ne_f rfl) ?_
  refine g_iconst X14 hx (r := (1 : Int32)) (hb hby at_77) rfl rfl ?_
  refine g_goto X14 hx (q := 82) (hb hby at_78) (by decide) (by decide) ?_
  exact g_retN X14 hx (t := .boolean) (r := (1 : Int32)) hret (by simp) hlk (hb hby at_82) rfl (by decide) (by decide) (by rw [eh14]; exact ⟨rfl, N14⟩)
set_option maxRecDepth 65536 in
set_option maxHeartbeats 40000000 in
theorem comes_1 {Post : Tables → Env → Array Value → State → Outcome → State → Prop} (hpost : ∀ tb e args s v u, (limb_1_1.after args s (.returned v) u = true ∧ limb_1_2.after args s (.returned v) u = true ∧ True) → FrameEnd s (.returned v) u (Jvm.fieldLocs frame_1_writes args s ++ Jvm.arrayLocs frame_1_arrays args s ++ Jvm.staticLocs frame_1_statics s) 16 128 → Post tb e args s (.returned v) u) :
    ArmFor flags0 classFile x code maxLocals ret World_1 tables_1 room_1 Calls_1 rest_1 Pre_1 Post := by
  intro l hfl _ _ p e ha hc hk s m args below hf hA hF happ hP
  obtain ⟨hcalls, hrest, hpre⟩ := hP
  obtain ⟨-, -, -, hnamed, -, -, -, hat⟩ := (Spec.applies_iff hf).mp happ
  obtain ⟨hg, hn⟩ := and_e (Cond.before_iff.mp (show (Jvm.Cond.and given_1 narrow_1).before args s = true from hpre))
  obtain ⟨hcn, hg1⟩ := and_e hg
  obtain ⟨k1, hg2⟩ := and_e hg1
  have k2 := hg2
  obtain ⟨w0, w1, rfl⟩ : ∃ w0 w1 : Value, args = #[w0, w1] := by
    have hs : args.size = 2 := by simpa [Cond.value, given_1] using hcn
    obtain ⟨L⟩ := args
    match L, hs with
    | [w0, w1], _ => exact ⟨w0, w1, rfl⟩
  have hw := fun d (hd : d ∈ tables_1) => atoms_spec (ws := Jvm.Cond.code x code maxLocals ret :: tables_1) hat d (List.mem_cons_of_mem _ hd)
  have hfit : Fit s := fun {y c} hc i hi => by
    obtain ⟨ha, rfl⟩ := Array.getElem?_eq_some_iff.mp hc
    have q := List.all_eq_true.mp ((Array.all_eq_true_iff_forall_mem.mp hF) _ (Array.getElem_mem ha)) i (List.mem_range.mpr hi)
    simpa [Array.getElem?_eq_getElem hi] using q
  obtain ⟨i0, ei0⟩ := is_v k1
  obtain rfl : w0 = (.int i0) := Option.some.inj ei0
  obtain ⟨i1, ei1⟩ := is_v k2
  obtain rfl : w1 = (.int i1) := Option.some.inj ei1
  obtain ⟨n, o, h1, h2, h3, _, L, rfl, ⟨rfl, N⟩, hq⟩ := rm_law l s _ hw tables_1 i0 i1 s.heap s.heap.size (Nat.le_refl _) p e ha hc hk s m _ below hf ((Spec.applies_iff_loose hf).mp happ).1 ⟨rfl, State.Warmed39.refl s, rfl⟩ trivial
  refine ⟨n, _, h1, h2, h3, hpost _ _ _ _ _ _ ⟨Cond.after_iff.mpr rfl, Cond.after_iff.mpr (eq_i res_at (Term.int_eval (1)) rfl), trivial⟩ ⟨hq.1, hq.2.1, (hq.2.2.sift fun y hy => Or.inr (N y hy)).mono (by decide) (by decide)⟩⟩
theorem main_1_1 : Claimed_1_1 := comes_1 fun _ _ _ _ _ _ h hF => ⟨h.1, hF⟩
theorem main_1_2 : Claimed_1_2 := comes_1 fun _ _ _ _ _ _ h hF => ⟨h.2.1, hF⟩
end Jvm.Pilot.@@N@@
namespace Jvm.Pilot.@@N@@
open Jvm Jvm.ClassFile Sem Op Lib Jvm.Free Jvm.Stand Jvm.Pilot.@@N@@.Jvm.D
/-! MADE BY PROGRAM (witnessworld.py) out of the Statement's table words and the real class files: 14 classes; the members and pool entries that the words name. The judged class is class 1, her method 1. -/
namespace start1
open Jvm.ClassFile
def u (s : String) : CpInfo := .utf8 (stringToUtf16 s)
/-- a pool by its gaps: so many unusable entries, then the entry; so many at the end -/
def gap : Nat → List CpInfo → List CpInfo
  | 0, r => r
  | n + 1, r => .unusable :: gap n r
def poolList (es : List (Nat × CpInfo)) (last : Nat) : List CpInfo := es.foldr (fun e r => gap e.1 (e.2 :: r)) (gap last [])
def pool (es : List (Nat × CpInfo)) (last : Nat) : Array CpInfo := ⟨poolList es last⟩
def fileOf (pool : Array CpInfo) (this : Nat) (attrs : Array Attribute := #[]) (ms : Array MethodInfo := #[]) (fl : Nat := 33) (sup : Nat := 0) (ifs : Array Nat := #[]) (fds : Array FieldInfo := #[]) : ClassFile where
  minorVersion := 0
  majorVersion := 65
  constantPool := pool
  accessFlags := fl
  thisClass := this
  superClass := sup
  interfaces := ifs
  fields := fds
  methods := ms
  attributes := attrs
def plain (name : String) (sup : Option ClassId) : Class where
  name := name
  kind := .ordinary
  loader := none
  accessFlags := 33
  super := sup
  interfaces := #[]
  cf := none
  fields := #[]
  methods := #[]
  instanceTypes := #[]
  staticTypes := #[]
  resolved := #[]
  callSites := []
  init := .initialized
  statics := none
  mirror := none

def pool0 : Array CpInfo := pool [(5, u "<init>"), (0, u "()V"), (1, .class_ 10), (1, u "java/lang/Object")] 113

def k0c0 : Code := { maxStack := 0, maxLocals := 1, code := object_method_1_code, exceptionTable := #[], attributes := #[] }
def k0m0 : Method := { name := "<init>", desc := "()V", sig := { parameters := [], returnType := none }, accessFlags := 1, code := some k0c0 }
/-- java/lang/Object -/
def k0 : Class := { plain "java/lang/Object" none with
  accessFlags := 33
  interfaces := #[]
  cf := some (fileOf pool0 8 #[] #[{ accessFlags := 1, nameIndex := 5, descriptorIndex := 6, attributes := #[] }] 33 0 #[] #[])
  fields := #[]
  methods := #[k0m0]
  instanceTypes := #[]
  staticTypes := #[]
  resolved := Array.replicate 124 none
  statics := none }

def pool1 : Array CpInfo := pool [(2, .class_ 4), (0, .nameAndType 5 6), (0, u "java/lang/Object"), (0, u "<init>"), (0, u "()V"), (0, .integer 2147483647), (0, .methodref 9 10), (0, .class_ 11), (0, .nameAndType 12 13), (0, u "java/lang/Math"), (0, u "max"), (0, u "(II)I"), (0, .class_ 15), (0, u "com/example/cropmark/cropmark/iiif/Dimensions"), (0, .methodref 14 17), (0, .nameAndType 5 18), (0, u "(II)V"), (0, .class_ 20), (0, u "com/example/cropmark/cropmark/iiif/Region$Full"), (0, .methodref 19 3), (0, .methodref 19 23), (0, .nameAndType 24 25), (0, u "within"), (0, u "(Lcom/example/cropmark/cropmark/iiif/Dimensions;)Lcom/example/cropmark/cropmark/iiif/PixelRegion;"), (0, .methodref 27 28), (0, .class_ 29), (0, .nameAndType 30 31), (0, u "com/example/cropmark/cropmark/iiif/PixelRegion"), (0, u "x"), (0, u "()I"), (0, .methodref 27 33), (0, .nameAndType 34 31), (0, u "y"), (0, .methodref 27 36), (0, .nameAndType 37 31), (0, u "width"), (0, .methodref 27 39), (0, .nameAndType 40 31), (0, u "height"), (0, .class_ 42), (0, u "com/example/cropmark/cropmark/iiif/FullWithinPinLaw"), (2, u "law"), (0, u "(II)Z")] 7

def k1m0 : Method := { name := "<init>", desc := "()V", sig := { parameters := [], returnType := none }, accessFlags := 1, code := none }
def k1c1 : Code := { maxStack := 4, maxLocals := 6, code := code, exceptionTable := #[], attributes := #[] }
def k1m1 : Method := { name := "law", desc := "(II)Z", sig := { parameters := [.int, .int], returnType := some .boolean }, accessFlags := 9, code := some k1c1 }
/-- com/example/cropmark/cropmark/iiif/FullWithinPinLaw -/
def k1 : Class := { plain "com/example/cropmark/cropmark/iiif/FullWithinPinLaw" (some 0) with
  accessFlags := 49
  interfaces := #[]
  cf := some (fileOf pool1 41 #[] #[{ accessFlags := 1, nameIndex := 5, descriptorIndex := 6, attributes := #[] }, { accessFlags := 9, nameIndex := 45, descriptorIndex := 46, attributes := #[] }] 49 2 #[] #[])
  fields := #[]
  methods := #[k1m0, k1m1]
  instanceTypes := #[]
  staticTypes := #[]
  resolved := Array.replicate 54 none
  statics := none }

def pool2 : Array CpInfo := pool [(1, .class_ 2), (0, u "java/lang/Math"), (1, .class_ 6), (1, u "java/lang/Object"), (0, u "<init>"), (0, u "()V"), (89, .class_ 100), (1, u "java/lang/Math$RandomNumberGeneratorHolder"), (71, u "negativeZeroFloatBits"), (0, u "J"), (2, u "negativeZeroDoubleBits"), (21, u "max"), (46, u "$assertionsDisabled"), (0, u "Z"), (88, u "(II)I"), (2, u "twoToTheDoubleScaleDown"), (0, u "D"), (4, u "twoToTheDoubleScaleUp"), (9, u "E"), (3, u "PI"), (2, u "TAU"), (2, u "DEGREES_TO_RADIANS"), (0, u "RADIANS_TO_DEGREES")] 94

def k2m0 : Method := { name := "<init>", desc := "()V", sig := { parameters := [], returnType := none }, accessFlags := 2, code := none }
def k2c1 : Code := { maxStack := 2, maxLocals := 2, code := jdk_29_method_65_code, exceptionTable := #[], attributes := #[] }
def k2m1 : Method := { name := "max", desc := "(II)I", sig := { parameters := [.int, .int], returnType := some .int }, accessFlags := 9, code := some k2c1 }
/-- java/lang/Math -/
def k2 : Class := { plain "java/lang/Math" (some 0) with
  accessFlags := 49
  interfaces := #[]
  cf := some (fileOf pool2 1 #[.nestMembers #[98]] #[{ accessFlags := 2, nameIndex := 7, descriptorIndex := 8, attributes := #[] }, { accessFlags := 9, nameIndex := 198, descriptorIndex := 335, attributes := #[] }] 49 4 #[] #[{ accessFlags := 25, nameIndex := 354, descriptorIndex := 339, attributes := #[] }, { accessFlags := 25, nameIndex := 358, descriptorIndex := 339, attributes := #[] }, { accessFlags := 25, nameIndex := 361, descriptorIndex := 339, attributes := #[] }, { accessFlags := 26, nameIndex := 364, descriptorIndex := 339, attributes := #[] }, { accessFlags := 26, nameIndex := 365, descriptorIndex := 339, attributes := #[] }, { accessFlags := 26, nameIndex := 172, descriptorIndex := 173, attributes := #[] }, { accessFlags := 26, nameIndex := 176, descriptorIndex := 173, attributes := #[] }, { accessFlags := 8, nameIndex := 344, descriptorIndex := 339, attributes := #[] }, { accessFlags := 8, nameIndex := 338, descriptorIndex := 339, attributes := #[] }, { accessFlags := 4120, nameIndex := 245, descriptorIndex := 246, attributes := #[] }])
  fields := #[{ name := "E", type := .double, accessFlags := 25, slot := 0, constantValue := 0 }, { name := "PI", type := .double, accessFlags := 25, slot := 1, constantValue := 0 }, { name := "TAU", type := .double, accessFlags := 25, slot := 2, constantValue := 0 }, { name := "DEGREES_TO_RADIANS", type := .double, accessFlags := 26, slot := 3, constantValue := 0 }, { name := "RADIANS_TO_DEGREES", type := .double, accessFlags := 26, slot := 4, constantValue := 0 }, { name := "negativeZeroFloatBits", type := .long, accessFlags := 26, slot := 5, constantValue := 0 }, { name := "negativeZeroDoubleBits", type := .long, accessFlags := 26, slot := 6, constantValue := 0 }, { name := "twoToTheDoubleScaleUp", type := .double, accessFlags := 8, slot := 7, constantValue := 0 }, { name := "twoToTheDoubleScaleDown", type := .double, accessFlags := 8, slot := 8, constantValue := 0 }, { name := "$assertionsDisabled", type := .boolean, accessFlags := 4120, slot := 9, constantValue := 0 }]
  methods := #[k2m0, k2m1]
  instanceTypes := #[]
  staticTypes := #[.double, .double, .double, .double, .double, .long, .long, .double, .double, .boolean]
  resolved := Array.replicate 460 none
  statics := none }

def pool3 : Array CpInfo := pool [(1, .methodref 2 3), (0, .class_ 4), (0, .nameAndType 5 6), (0, u "java/lang/Object"), (0, u "<init>"), (0, u "()V"), (0, .class_ 8), (0, u "java/lang/Record")] 13

def k3c0 : Code := { maxStack := 1, maxLocals := 1, code := jdk_30_method_1_code, exceptionTable := #[], attributes := #[] }
def k3m0 : Method := { name := "<init>", desc := "()V", sig := { parameters := [], returnType := none }, accessFlags := 4, code := some k3c0 }
/-- java/lang/Record -/
def k3 : Class := { plain "java/lang/Record" (some 0) with
  accessFlags := 1057
  interfaces := #[]
  cf := some (fileOf pool3 7 #[] #[{ accessFlags := 4, nameIndex := 5, descriptorIndex := 6, attributes := #[] }] 1057 2 #[] #[])
  fields := #[]
  methods := #[k3m0]
  instanceTypes := #[]
  staticTypes := #[]
  resolved := Array.replicate 22 none
  statics := none }

def pool4 : Array CpInfo := pool [(1, .methodref 2 3), (0, .class_ 4), (0, .nameAndType 5 6), (0, u "java/lang/Record"), (0, u "<init>"), (0, u "()V"), (9, .fieldref 17 18), (0, .class_ 19), (0, .nameAndType 20 21), (0, u "com/example/cropmark/cropmark/iiif/Dimensions"), (0, u "width"), (0, u "I"), (0, .fieldref 17 23), (0, .nameAndType 24 21), (0, u "height"), (12, u "(II)V"), (5, u "()I")] 30

def k4c0 : Code := { maxStack := 4, maxLocals := 3, code := prog_3_method_1_code, exceptionTable := #[], attributes := #[] }
def k4m0 : Method := { name := "<init>", desc := "(II)V", sig := { parameters := [.int, .int], returnType := none }, accessFlags := 1, code := some k4c0 }
def k4c1 : Code := { maxStack := 1, maxLocals := 1, code := prog_3_method_5_code, exceptionTable := #[], attributes := #[] }
def k4m1 : Method := { name := "width", desc := "()I", sig := { parameters := [], returnType := some .int }, accessFlags := 1, code := some k4c1 }
def k4c2 : Code := { maxStack := 1, maxLocals := 1, code := prog_3_method_6_code, exceptionTable := #[], attributes := #[] }
def k4m2 : Method := { name := "height", desc := "()I", sig := { parameters := [], returnType := some .int }, accessFlags := 1, code := some k4c2 }
/-- com/example/cropmark/cropmark/iiif/Dimensions -/
def k4 : Class := { plain "com/example/cropmark/cropmark/iiif/Dimensions" (some 3) with
  accessFlags := 49
  interfaces := #[]
  cf := some (fileOf pool4 17 #[] #[{ accessFlags := 1, nameIndex := 5, descriptorIndex := 37, attributes := #[] }, { accessFlags := 1, nameIndex := 20, descriptorIndex := 43, attributes := #[] }, { accessFlags := 1, nameIndex := 24, descriptorIndex := 43, attributes := #[] }] 49 2 #[] #[{ accessFlags := 18, nameIndex := 20, descriptorIndex := 21, attributes := #[] }, { accessFlags := 18, nameIndex := 24, descriptorIndex := 21, attributes := #[] }])
  fields := #[{ name := "width", type := .int, accessFlags := 18, slot := 0, constantValue := 0 }, { name := "height", type := .int, accessFlags := 18, slot := 1, constantValue := 0 }]
  methods := #[k4m0, k4m1, k4m2]
  instanceTypes := #[.int, .int]
  staticTypes := #[]
  resolved := Array.replicate 74 none
  statics := none }

def pool5 : Array CpInfo := pool [(9, .class_ 10), (0, u "com/example/cropmark/cropmark/iiif/Region$Full"), (6, .class_ 18), (0, u "com/example/cropmark/cropmark/iiif/Region$Square"), (2, .class_ 23), (1, u "com/example/cropmark/cropmark/iiif/Region$Pixels"), (17, .class_ 42), (0, u "com/example/cropmark/cropmark/iiif/Region"), (36, .class_ 80), (0, u "com/example/cropmark/cropmark/iiif/Region$Percent"), (0, .class_ 82), (0, u "java/lang/Object")] 54

/-- com/example/cropmark/cropmark/iiif/Region -/
def k5 : Class := { plain "com/example/cropmark/cropmark/iiif/Region" (some 0) with
  accessFlags := 1537
  interfaces := #[]
  cf := some (fileOf pool5 41 #[.nestMembers #[79, 21, 17, 9]] #[] 1537 81 #[] #[])
  fields := #[]
  methods := #[]
  instanceTypes := #[]
  staticTypes := #[]
  resolved := Array.replicate 137 none
  statics := none }

def pool6 : Array CpInfo := pool [(1, .methodref 2 3), (0, .class_ 4), (0, .nameAndType 5 6), (0, u "java/lang/Record"), (0, u "<init>"), (0, u "()V"), (0, .class_ 8), (0, u "com/example/cropmark/cropmark/iiif/PixelRegion"), (0, .methodref 10 11), (0, .class_ 12), (0, .nameAndType 13 14), (0, u "com/example/cropmark/cropmark/iiif/Dimensions"), (0, u "width"), (0, u "()I"), (0, .methodref 10 16), (0, .nameAndType 17 14), (0, u "height"), (0, .methodref 7 19), (0, .nameAndType 5 20), (0, u "(IIII)V"), (12, .class_ 34), (0, u "com/example/cropmark/cropmark/iiif/Region$Full"), (0, .class_ 36), (0, u "com/example/cropmark/cropmark/iiif/Region"), (2, u "within"), (0, u "(Lcom/example/cropmark/cropmark/iiif/Dimensions;)Lcom/example/cropmark/cropmark/iiif/PixelRegion;")] 23

def k6c0 : Code := { maxStack := 1, maxLocals := 1, code := prog_15_method_1_code, exceptionTable := #[], attributes := #[] }
def k6m0 : Method := { name := "<init>", desc := "()V", sig := { parameters := [], returnType := none }, accessFlags := 1, code := some k6c0 }
def k6c1 : Code := { maxStack := 6, maxLocals := 2, code := prog_15_method_2_code, exceptionTable := #[], attributes := #[] }
def k6m1 : Method := { name := "within", desc := "(Lcom/example/cropmark/cropmark/iiif/Dimensions;)Lcom/example/cropmark/cropmark/iiif/PixelRegion;", sig := { parameters := [(.object "com/example/cropmark/cropmark/iiif/Dimensions")], returnType := some (.object "com/example/cropmark/cropmark/iiif/PixelRegion") }, accessFlags := 1, code := some k6c1 }
/-- com/example/cropmark/cropmark/iiif/Region$Full -/
def k6 : Class := { plain "com/example/cropmark/cropmark/iiif/Region$Full" (some 3) with
  accessFlags := 49
  interfaces := #[5]
  cf := some (fileOf pool6 33 #[.nestHost 35] #[{ accessFlags := 1, nameIndex := 5, descriptorIndex := 6, attributes := #[] }, { accessFlags := 1, nameIndex := 39, descriptorIndex := 40, attributes := #[] }] 49 2 #[35] #[])
  fields := #[]
  methods := #[k6m0, k6m1]
  instanceTypes := #[]
  staticTypes := #[]
  resolved := Array.replicate 64 none
  statics := none }

def pool7 : Array CpInfo := pool [(1, .methodref 2 3), (0, .class_ 4), (0, .nameAndType 5 6), (0, u "java/lang/Record"), (0, u "<init>"), (0, u "()V"), (9, .fieldref 17 18), (0, .class_ 19), (0, .nameAndType 20 21), (0, u "com/example/cropmark/cropmark/iiif/PixelRegion"), (0, u "x"), (0, u "I"), (0, .fieldref 17 23), (0, .nameAndType 24 21), (0, u "y"), (0, .fieldref 17 26), (0, .nameAndType 27 21), (0, u "width"), (0, .fieldref 17 29), (0, .nameAndType 30 21), (0, u "height"), (17, u "(IIII)V"), (7, u "()I")] 32

def k7c0 : Code := { maxStack := 6, maxLocals := 5, code := prog_12_method_1_code, exceptionTable := #[], attributes := #[] }
def k7m0 : Method := { name := "<init>", desc := "(IIII)V", sig := { parameters := [.int, .int, .int, .int], returnType := none }, accessFlags := 1, code := some k7c0 }
def k7c1 : Code := { maxStack := 1, maxLocals := 1, code := prog_12_method_6_code, exceptionTable := #[], attributes := #[] }
def k7m1 : Method := { name := "x", desc := "()I", sig := { parameters := [], returnType := some .int }, accessFlags := 1, code := some k7c1 }
def k7c2 : Code := { maxStack := 1, maxLocals := 1, code := prog_12_method_7_code, exceptionTable := #[], attributes := #[] }
def k7m2 : Method := { name := "y", desc := "()I", sig := { parameters := [], returnType := some .int }, accessFlags := 1, code := some k7c2 }
def k7c3 : Code := { maxStack := 1, maxLocals := 1, code := prog_12_method_8_code, exceptionTable := #[], attributes := #[] }
def k7m3 : Method := { name := "width", desc := "()I", sig := { parameters := [], returnType := some .int }, accessFlags := 1, code := some k7c3 }
def k7c4 : Code := { maxStack := 1, maxLocals := 1, code := prog_12_method_9_code, exceptionTable := #[], attributes := #[] }
def k7m4 : Method := { name := "height", desc := "()I", sig := { parameters := [], returnType := some .int }, accessFlags := 1, code := some k7c4 }
/-- com/example/cropmark/cropmark/iiif/PixelRegion -/
def k7 : Class := { plain "com/example/cropmark/cropmark/iiif/PixelRegion" (some 3) with
  accessFlags := 49
  interfaces := #[]
  cf := some (fileOf pool7 17 #[] #[{ accessFlags := 1, nameIndex := 5, descriptorIndex := 48, attributes := #[] }, { accessFlags := 1, nameIndex := 20, descriptorIndex := 56, attributes := #[] }, { accessFlags := 1, nameIndex := 24, descriptorIndex := 56, attributes := #[] }, { accessFlags := 1, nameIndex := 27, descriptorIndex := 56, attributes := #[] }, { accessFlags := 1, nameIndex := 30, descriptorIndex := 56, attributes := #[] }] 49 2 #[] #[{ accessFlags := 18, nameIndex := 20, descriptorIndex := 21, attributes := #[] }, { accessFlags := 18, nameIndex := 24, descriptorIndex := 21, attributes := #[] }, { accessFlags := 18, nameIndex := 27, descriptorIndex := 21, attributes := #[] }, { accessFlags := 18, nameIndex := 30, descriptorIndex := 21, attributes := #[] }])
  fields := #[{ name := "x", type := .int, accessFlags := 18, slot := 0, constantValue := 0 }, { name := "y", type := .int, accessFlags := 18, slot := 1, constantValue := 0 }, { name := "width", type := .int, accessFlags := 18, slot := 2, constantValue := 0 }, { name := "height", type := .int, accessFlags := 18, slot := 3, constantValue := 0 }]
  methods := #[k7m0, k7m1, k7m2, k7m3, k7m4]
  instanceTypes := #[.int, .int, .int, .int]
  staticTypes := #[]
  resolved := Array.replicate 89 none
  statics := none }

def pool8 : Array CpInfo := pool [(1, u "java/lang/Cloneable"), (0, .class_ 1), (0, u "java/lang/Object"), (0, .class_ 3)] 3

/-- java/lang/Cloneable -/
def k8 : Class := { plain "java/lang/Cloneable" (some 0) with
  accessFlags := 1537
  interfaces := #[]
  cf := some (fileOf pool8 2 #[] #[] 1537 4 #[] #[])
  fields := #[]
  methods := #[]
  instanceTypes := #[]
  staticTypes := #[]
  resolved := Array.replicate 8 none
  statics := none }

def pool9 : Array CpInfo := pool [(1, u "java/io/Serializable"), (0, .class_ 1), (0, u "java/lang/Object"), (0, .class_ 3)] 3

/-- java/io/Serializable -/
def k9 : Class := { plain "java/io/Serializable" (some 0) with
  accessFlags := 1537
  interfaces := #[]
  cf := some (fileOf pool9 2 #[] #[] 1537 4 #[] #[])
  fields := #[]
  methods := #[]
  instanceTypes := #[]
  staticTypes := #[]
  resolved := Array.replicate 8 none
  statics := none }

/-- the primitive byte -/
def k10 : Class := { plain "byte" none with kind := .primitive 'B', accessFlags := 0x411 }
/-- [B -/
def k11 : Class := { plain "[B" (some 0) with kind := .array 10 .byte, interfaces := #[8, 9], accessFlags := 1041 }

/-- the primitive int -/
def k12 : Class := { plain "int" none with kind := .primitive 'I', accessFlags := 0x411 }
/-- [I -/
def k13 : Class := { plain "[I" (some 0) with kind := .array 12 .int, interfaces := #[8, 9], accessFlags := 1041 }

def heap : Heap := #[]
def classes : Array Class := #[k0, k1, k2, k3, k4, k5, k6, k7, k8, k9, k10, k11, k12, k13]
def interned : List (Array UInt16 × Addr) := []
def slotsUsed : Nat := 0
def theMethod : MethodId := ⟨1, 1⟩
def args0 : Array Value := #[.int 5, .int 300]
def aboutOver (below : List Frame) : State where
  vm := { classes := classes, interned := interned.toArray }
  heap := heap
  slotsUsed := slotsUsed
  threads := #[{ frames := .invoking theMethod args0 :: below }]
def below0 : List Frame := [.native { method := ⟨0, 0⟩, args := #[] }]
def about1 : State := aboutOver below0
def p0 : Program := .bare "" "" ""
def e0 : Env := launch0.env 0 0 0
theorem w_frames : about1.frames = Frame.invoking theMethod args0 :: below0 := rfl
set_option maxRecDepth 65536 in
theorem w_args : argsFit about1.vm theMethod args0 = true := by decide +kernel
set_option maxRecDepth 65536 in
theorem w_heap : heapFits about1 = true := by decide +kernel
set_option maxRecDepth 65536 in
theorem w_runnable : about1.curStatus? = some .runnable := by decide +kernel
set_option maxRecDepth 65536 in
theorem w_alone : about1.alone = true := by decide +kernel
set_option maxRecDepth 65536 in
theorem w_named : about1.methodNamed? x = some theMethod := by decide +kernel
set_option maxRecDepth 65536 in
theorem w_hears : about1.hears theMethod below0 = true := by decide +kernel
set_option maxRecDepth 65536 in
theorem w_ripe : about1.ripe theMethod args0 below0 = true := by decide +kernel
theorem w_running : about1.status = .running := rfl
set_option maxRecDepth 65536 in
theorem w_room : about1.hasRoom e0.platform room_1 = true :=
  launch0.hasRoom_least _ room_1 (by decide +kernel) (by decide +kernel) (by decide +kernel) (by decide +kernel) (by decide +kernel) (by decide +kernel)
theorem allAtoms_all (ts : List Jvm.Cond) (a : Array Jvm.Value) (st : Jvm.State) : (allAtoms ts).before a st = ts.all (fun c => c.before a st) := by
  induction ts with
  | nil => rfl
  | cons c t ih =>
    show (Jvm.Cond.and c (allAtoms t)).before a st = _
    rw [Jvm.Cond.before_and, ih, List.all_cons]
def words1 : List Jvm.Cond := Jvm.Cond.code x code maxLocals ret :: tables_1
/-- a 'code' word, met by the world's own term for the bytes: nothing is compared byte by byte -/
theorem code_word {y : MethodName} {bytes : ByteArray} {mx : Nat} {rt : Option FieldType} {a : Array Value} {s : State} {m : MethodId} {meth : Method} {c : Code} (h1 : s.methodNamed? y = some m) (h2 : s.vm.method? m = some meth) (h3 : meth.code = some c) (h4 : c.code = bytes)
    (h5 : (c.maxLocals == mx && c.exceptionTable.isEmpty && decide (c.maxStack ≤ mostOperands) && decide (meth.sig.returnType = rt) && !meth.locks && decide (parseMethodDescriptor y.desc = some meth.sig)) = true) : (Jvm.Cond.code y bytes mx rt).before a s = true := by
  simp only [Bool.and_eq_true, beq_iff_eq, Bool.not_eq_true', decide_eq_true_eq] at h5
  obtain ⟨⟨⟨⟨⟨g1, g2⟩, g3⟩, g4⟩, g5⟩, g6⟩ := h5
  simp [Cond.before, Cond.holds, Cond.value, h1, h2, h3, h4, g1, g2, g3, g4, g5, g6]
def isCode : Jvm.Cond → Bool
  | .code _ _ _ _ => true
  | _ => false
theorem all_split {L : List Jvm.Cond} {P : Jvm.Cond → Bool} (h1 : L.all (fun c => isCode c || P c) = true) (h2 : ∀ c ∈ L.filter isCode, P c = true) : L.all P = true := by
  refine List.all_eq_true.mpr fun c hc => ?_
  have h := List.all_eq_true.mp h1 c hc
  rcases Bool.eq_false_or_eq_true (isCode c) with hi | hi
  · exact h2 c (List.mem_filter.mpr ⟨hc, hi⟩)
  · simpa [hi] using h
set_option maxRecDepth 65536 in
theorem w_c0 : (Jvm.Cond.code x code maxLocals ret).before args0 about1 = true := code_word (m := ⟨1, 1⟩) (meth := k1m1) (c := k1c1) (by decide +kernel) rfl rfl rfl (by decide +kernel)
set_option maxRecDepth 65536 in
theorem w_c1 : (Jvm.Cond.code ({ cls := "java/lang/Math", name := "max", desc := "(II)I" } : Jvm.MethodName) jdk_29_method_65_code (2 : Nat) (Option.some Jvm.ClassFile.FieldType.int)).before args0 about1 = true := code_word (m := ⟨2, 1⟩) (meth := k2m1) (c := k2c1) (by decide +kernel) rfl rfl rfl (by decide +kernel)
set_option maxRecDepth 65536 in
theorem w_c2 : (Jvm.Cond.code ({ cls := "com/example/cropmark/cropmark/iiif/Dimensions", name := "<init>", desc := "(II)V" } : Jvm.MethodName) prog_3_method_1_code (3 : Nat) (Option.none : Option Jvm.ClassFile.FieldType)).before args0 about1 = true := code_word (m := ⟨4, 0⟩) (meth := k4m0) (c := k4c0) (by decide +kernel) rfl rfl rfl (by decide +kernel)
set_option maxRecDepth 65536 in
theorem w_c3 : (Jvm.Cond.code ({ cls := "java/lang/Record", name := "<init>", desc := "()V" } : Jvm.MethodName) jdk_30_method_1_code (1 : Nat) (Option.none : Option Jvm.ClassFile.FieldType)).before args0 about1 = true := code_word (m := ⟨3, 0⟩) (meth := k3m0) (c := k3c0) (by decide +kernel) rfl rfl rfl (by decide +kernel)
set_option maxRecDepth 65536 in
theorem w_c4 : (Jvm.Cond.code ({ cls := "java/lang/Object", name := "<init>", desc := "()V" } : Jvm.MethodName) object_method_1_code (1 : Nat) (Option.none : Option Jvm.ClassFile.FieldType)).before args0 about1 = true := code_word (m := ⟨0, 0⟩) (meth := k0m0) (c := k0c0) (by decide +kernel) rfl rfl rfl (by decide +kernel)
set_option maxRecDepth 65536 in
theorem w_c5 : (Jvm.Cond.code ({ cls := "com/example/cropmark/cropmark/iiif/Region$Full", name := "<init>", desc := "()V" } : Jvm.MethodName) prog_15_method_1_code (1 : Nat) (Option.none : Option Jvm.ClassFile.FieldType)).before args0 about1 = true := code_word (m := ⟨6, 0⟩) (meth := k6m0) (c := k6c0) (by decide +kernel) rfl rfl rfl (by decide +kernel)
set_option maxRecDepth 65536 in
theorem w_c6 : (Jvm.Cond.code ({ cls := "com/example/cropmark/cropmark/iiif/Region$Full", name := "within", desc := "(Lcom/example/cropmark/cropmark/iiif/Dimensions;)Lcom/example/cropmark/cropmark/iiif/PixelRegion;" } : Jvm.MethodName) prog_15_method_2_code (2 : Nat) (Option.some (Jvm.ClassFile.FieldType.object "com/example/cropmark/cropmark/iiif/PixelRegion"))).before args0 about1 = true := code_word (m := ⟨6, 1⟩) (meth := k6m1) (c := k6c1) (by decide +kernel) rfl rfl rfl (by decide +kernel)
set_option maxRecDepth 65536 in
theorem w_c7 : (Jvm.Cond.code ({ cls := "com/example/cropmark/cropmark/iiif/Dimensions", name := "width", desc := "()I" } : Jvm.MethodName) prog_3_method_5_code (1 : Nat) (Option.some Jvm.ClassFile.FieldType.int)).before args0 about1 = true := code_word (m := ⟨4, 1⟩) (meth := k4m1) (c := k4c1) (by decide +kernel) rfl rfl rfl (by decide +kernel)
set_option maxRecDepth 65536 in
theorem w_c8 : (Jvm.Cond.code ({ cls := "com/example/cropmark/cropmark/iiif/Dimensions", name := "height", desc := "()I" } : Jvm.MethodName) prog_3_method_6_code (1 : Nat) (Option.some Jvm.ClassFile.FieldType.int)).before args0 about1 = true := code_word (m := ⟨4, 2⟩) (meth := k4m2) (c := k4c2) (by decide +kernel) rfl rfl rfl (by decide +kernel)
set_option maxRecDepth 65536 in
theorem w_c9 : (Jvm.Cond.code ({ cls := "com/example/cropmark/cropmark/iiif/PixelRegion", name := "<init>", desc := "(IIII)V" } : Jvm.MethodName) prog_12_method_1_code (5 : Nat) (Option.none : Option Jvm.ClassFile.FieldType)).before args0 about1 = true := code_word (m := ⟨7, 0⟩) (meth := k7m0) (c := k7c0) (by decide +kernel) rfl rfl rfl (by decide +kernel)
set_option maxRecDepth 65536 in
theorem w_c10 : (Jvm.Cond.code ({ cls := "com/example/cropmark/cropmark/iiif/PixelRegion", name := "x", desc := "()I" } : Jvm.MethodName) prog_12_method_6_code (1 : Nat) (Option.some Jvm.ClassFile.FieldType.int)).before args0 about1 = true := code_word (m := ⟨7, 1⟩) (meth := k7m1) (c := k7c1) (by decide +kernel) rfl rfl rfl (by decide +kernel)
set_option maxRecDepth 65536 in
theorem w_c11 : (Jvm.Cond.code ({ cls := "com/example/cropmark/cropmark/iiif/PixelRegion", name := "y", desc := "()I" } : Jvm.MethodName) prog_12_method_7_code (1 : Nat) (Option.some Jvm.ClassFile.FieldType.int)).before args0 about1 = true := code_word (m := ⟨7, 2⟩) (meth := k7m2) (c := k7c2) (by decide +kernel) rfl rfl rfl (by decide +kernel)
set_option maxRecDepth 65536 in
theorem w_c12 : (Jvm.Cond.code ({ cls := "com/example/cropmark/cropmark/iiif/PixelRegion", name := "width", desc := "()I" } : Jvm.MethodName) prog_12_method_8_code (1 : Nat) (Option.some Jvm.ClassFile.FieldType.int)).before args0 about1 = true := code_word (m := ⟨7, 3⟩) (meth := k7m3) (c := k7c3) (by decide +kernel) rfl rfl rfl (by decide +kernel)
set_option maxRecDepth 65536 in
theorem w_c13 : (Jvm.Cond.code ({ cls := "com/example/cropmark/cropmark/iiif/PixelRegion", name := "height", desc := "()I" } : Jvm.MethodName) prog_12_method_9_code (1 : Nat) (Option.some Jvm.ClassFile.FieldType.int)).before args0 about1 = true := code_word (m := ⟨7, 4⟩) (meth := k7m4) (c := k7c4) (by decide +kernel) rfl rfl rfl (by decide +kernel)
def codes1 : List Jvm.Cond := [Jvm.Cond.code x code maxLocals ret, Jvm.Cond.code ({ cls := "java/lang/Math", name := "max", desc := "(II)I" } : Jvm.MethodName) jdk_29_method_65_code (2 : Nat) (Option.some Jvm.ClassFile.FieldType.int), Jvm.Cond.code ({ cls := "com/example/cropmark/cropmark/iiif/Dimensions", name := "<init>", desc := "(II)V" } : Jvm.MethodName) prog_3_method_1_code (3 : Nat) (Option.none : Option Jvm.ClassFile.FieldType), Jvm.Cond.code ({ cls := "java/lang/Record", name := "<init>", desc := "()V" } : Jvm.MethodName) jdk_30_method_1_code (1 : Nat) (Option.none : Option Jvm.ClassFile.FieldType), Jvm.Cond.code ({ cls := "java/lang/Object", name := "<init>", desc := "()V" } : Jvm.MethodName) object_method_1_code (1 : Nat) (Option.none : Option Jvm.ClassFile.FieldType), Jvm.Cond.code ({ cls := "com/example/cropmark/cropmark/iiif/Region$Full", name := "<init>", desc := "()V" } : Jvm.MethodName) prog_15_method_1_code (1 : Nat) (Option.none : Option Jvm.ClassFile.FieldType), Jvm.Cond.code ({ cls := "com/example/cropmark/cropmark/iiif/Region$Full", name := "within", desc := "(Lcom/example/cropmark/cropmark/iiif/Dimensions;)Lcom/example/cropmark/cropmark/iiif/PixelRegion;" } : Jvm.MethodName) prog_15_method_2_code (2 : Nat) (Option.some (Jvm.ClassFile.FieldType.object "com/example/cropmark/cropmark/iiif/PixelRegion")), Jvm.Cond.code ({ cls := "com/example/cropmark/cropmark/iiif/Dimensions", name := "width", desc := "()I" } : Jvm.MethodName) prog_3_method_5_code (1 : Nat) (Option.some Jvm.ClassFile.FieldType.int), Jvm.Cond.code ({ cls := "com/example/cropmark/cropmark/iiif/Dimensions", name := "height", desc := "()I" } : Jvm.MethodName) prog_3_method_6_code (1 : Nat) (Option.some Jvm.ClassFile.FieldType.int), Jvm.Cond.code ({ cls := "com/example/cropmark/cropmark/iiif/PixelRegion", name := "<init>", desc := "(IIII)V" } : Jvm.MethodName) prog_12_method_1_code (5 : Nat) (Option.none : Option Jvm.ClassFile.FieldType), Jvm.Cond.code ({ cls := "com/example/cropmark/cropmark/iiif/PixelRegion", name := "x", desc := "()I" } : Jvm.MethodName) prog_12_method_6_code (1 : Nat) (Option.some Jvm.ClassFile.FieldType.int), Jvm.Cond.code ({ cls := "com/example/cropmark/cropmark/iiif/PixelRegion", name := "y", desc := "()I" } : Jvm.MethodName) prog_12_method_7_code (1 : Nat) (Option.some Jvm.ClassFile.FieldType.int), Jvm.Cond.code ({ cls := "com/example/cropmark/cropmark/iiif/PixelRegion", name := "width", desc := "()I" } : Jvm.MethodName) prog_12_method_8_code (1 : Nat) (Option.some Jvm.ClassFile.FieldType.int), Jvm.Cond.code ({ cls := "com/example/cropmark/cropmark/iiif/PixelRegion", name := "height", desc := "()I" } : Jvm.MethodName) prog_12_method_9_code (1 : Nat) (Option.some Jvm.ClassFile.FieldType.int)]
set_option maxRecDepth 65536 in
theorem codes_eq : words1.filter isCode = codes1 := rfl
theorem w_codes : ∀ c ∈ words1.filter isCode, c.before args0 about1 = true := by
  rw [codes_eq]
  intro c hc
  simp only [codes1, List.mem_cons, List.not_mem_nil, or_false] at hc
  rcases hc with rfl | rfl | rfl | rfl | rfl | rfl | rfl | rfl | rfl | rfl | rfl | rfl | rfl | rfl
  · exact w_c0
  · exact w_c1
  · exact w_c2
  · exact w_c3
  · exact w_c4
  · exact w_c5
  · exact w_c6
  · exact w_c7
  · exact w_c8
  · exact w_c9
  · exact w_c10
  · exact w_c11
  · exact w_c12
  · exact w_c13
set_option maxRecDepth 65536 in
theorem w_t1 : (words1.take 24).all (fun c => isCode c || c.before args0 about1) = true := by decide +kernel
set_option maxRecDepth 65536 in
theorem w_t2 : ((words1.drop 24).take 24).all (fun c => isCode c || c.before args0 about1) = true := by decide +kernel
set_option maxRecDepth 65536 in
theorem w_t3 : (((words1.drop 24).drop 24).take 24).all (fun c => isCode c || c.before args0 about1) = true := by decide +kernel
set_option maxRecDepth 65536 in
theorem w_t4 : (((words1.drop 24).drop 24).drop 24).all (fun c => isCode c || c.before args0 about1) = true := by decide +kernel
theorem w_tables : (allAtoms (Jvm.Cond.code x code maxLocals ret :: tables_1)).before args0 about1 = true := by
  rw [allAtoms_all]
  show words1.all (fun c => c.before args0 about1) = true
  refine all_split ?_ w_codes
  rw [← List.take_append_drop 24 words1, List.all_append, w_t1, ← List.take_append_drop 24 (words1.drop 24), List.all_append, w_t2, ← List.take_append_drop 24 ((words1.drop 24).drop 24), List.all_append, w_t3, w_t4]
  rfl
set_option maxRecDepth 65536 in
theorem w_case : (Jvm.Cond.and given_1 narrow_1).before args0 about1 = true := by decide +kernel
theorem w_applies : (headSpec (Jvm.Cond.code x code maxLocals ret :: tables_1) room_1).applies x e0.platform about1 = true :=
  (Spec.applies_iff w_frames).mpr ⟨w_running, w_runnable, w_alone, w_named, w_hears, w_ripe, w_room, w_tables⟩
theorem atStart : AtStart classFile x code maxLocals ret World_1 tables_1 room_1 Calls_1 rest_1 Pre_1 launch0 p0 e0 about1 theMethod args0 below0 :=
  ⟨lists_1, trivial, launch0.admits_env _ _ _, launch0.least_env, fairChoices_fair.cas, fairChoices_fair.clock, w_frames, w_args, w_heap, w_applies, trivial, trivial, w_case⟩
end start1
theorem witness_1 : WitnessClaimed_1 := ⟨start1.p0, start1.e0, start1.about1, start1.theMethod, start1.args0, start1.below0, start1.atStart⟩
end Jvm.Pilot.@@N@@
