import JvmDerived
import JvmDerived.Pilot.@@N@@Statement
import JvmDerived.Pilot.@@N@@Code
set_option linter.unusedVariables false
set_option linter.unusedSimpArgs false
namespace Jvm.Pilot.@@N@@
open Jvm Jvm.ClassFile Sem Op Lib Jvm.Free Jvm.Stand Jvm.LawKit Jvm.RoadKit Bundle Jvm.Pilot.@@N@@.Jvm.D
def Go (p : Program) (e : Env) (below : List Frame) (s : State) (Q : Option Value → Heap → List Loc → Prop) (C S : Nat) (V : State) : Prop :=
  ∃ (U : State) (o : Outcome), Steps p.tables e below V U ∧ U.status = .running ∧ Ended U below o ∧ ∃ v L, o = .returned v ∧ Q v U.heap L ∧ FrameEnd s o U L C S
def Ga (p : Program) (e : Env) (below : List Frame) (s : State) (Q : Option Value → Heap → List Loc → Prop) (C S : Nat) (T : State) (m : MethodId) (pc : Nat) (Ls : Array Slot) (st : List Value) : Prop :=
  Go p e below s Q C S (T.setTop (mkF m pc Ls st))
abbrev Ct (l : Launch) (Z : State) (y : MethodName) (bytes : ByteArray) (maxL : Nat) (ret : Option FieldType) (ws : List Jvm.Cond) (rm : Room) (as' : Array Value) (h0 : Heap) (Q : Option Value → Heap → List Loc → Prop) : Prop :=
  MetFree l y (head1 (Jvm.Cond.code y bytes maxL ret :: ws) rm) (fun a U => a = as' ∧ Z.Warmed39 U.vm ∧ U.heap = h0) (fun _ _ _ _ _ => True) (fun _ U o U' => ∃ v L, o = .returned v ∧ Q v U'.heap L ∧ FrameEnd U o U' L rm.cells rm.slots)
section GoKit
variable {p : Program} {l : Launch} {e : Env} {R : Room} {s : State} {m : MethodId} {args : Array Value} {below : List Frame} {meth : Method} {c : Code} {T T' : State} {locs : List Loc} {cells slots : Nat} {Q : Option Value → Heap → List Loc → Prop} {C S : Nat} {Z : State} {a0 : Array Value} {h : Heap} {pc q pc' : Nat} {Ls Ls' : Array Slot} {st st' : List Value} {own : String}
theorem Ga.stp (k : ∀ t, Steps p.tables e below (T'.setTop (mkF m pc' Ls' st')) t → Steps p.tables e below (T.setTop (mkF m pc Ls st)) t) (g : Ga p e below s Q C S T' m pc' Ls' st') : Ga p e below s Q C S T m pc Ls st := by
  obtain ⟨U, o, h, r⟩ := g
  exact ⟨U, o, k _ h, r⟩
theorem own_body {y : MethodName} {bytes : ByteArray} {maxL : Nat} {ret : Option FieldType} {ws : List Jvm.Cond} {rm : Room} {h0 : Heap} {as' : Array Value} (hpl : plainFor y = true) (hef : ∀ m, entryFrame m as' maxL = mkF m 0 Ls [])
    (body : ∀ (p : Program) (e : Env) (s : State) (m : MethodId) (below : List Frame) (meth : Method) (c : Code) (T : State), p.tables.exec = Jvm.exec → c.code = bytes → c.maxLocals = maxL → Z.Warmed39 s.vm → s.vm.findClass y.cls = some m.cls → meth.name = y.name → meth.sig.returnType = ret → meth.locks = false →
      Stand p l e rm s m as' below meth c T [] 0 0 → T.heap = h0 → Ga p e below s Q rm.cells rm.slots T m 0 Ls []) : Ct l Z y bytes maxL ret ws rm as' h0 Q := by
  refine MetFree.of_bodySF hpl hisR ?_
  intro p e s m args below meth c s₁ Bd hml0 hP hK
  obtain ⟨rfl, hZ, hh⟩ := hP
  have X0 : Stand p l e rm s m args below meth c s₁ [] 0 0 := Stand.of_body Bd
  have e0 : s₁.heap = h0 := by rw [← hh, Bd.state]; rfl
  obtain ⟨U, o, g1, g2⟩ := body p e s m below meth c s₁ Bd.exec Bd.bytes hml0 hZ (findClass_of_methodNamed Bd.named) (name_of_methodNamed Bd.named Bd.method).1 Bd.returns (BodyLoose.notSynchronized Bd) X0 e0
  exact ⟨U, o, castTop (hef m) g1, g2⟩
theorem Ga.out (X : Stand p l e R s m args below meth c T locs cells slots) {v : Option Value} (hlk : meth.locks = false) (hv : meth.sig.returnType = none → v = none) (hc : cells ≤ C) (hs : slots ≤ S) (hq : Q v T.heap locs)
    (k : ∀ fs, (∀ (f : JFrame) (acts : List Action), f.method = m → f.locked = none → f.entered = [] → (doReturn e (T.setTop f) acts v).1 = T.setFrames fs) → Steps p.tables e below (T.setTop (mkF m pc Ls st)) (T.setFrames fs)) : Ga p e below s Q C S T m pc Ls st := by
  obtain ⟨fs, hr, hrun, hended, hW, hsame⟩ := X.leave (v := v) hv hlk
  exact ⟨_, _, k fs hr, hrun, hended, _, _, rfl, hq, ⟨_, rfl⟩, hW, hsame.mono hc hs⟩
theorem g_iloadN (X : Stand p l e R s m args below meth c T locs cells slots) (hx : p.tables.exec = Jvm.exec) {k : Fin 4} {v : Int32} (hd : decode c.code pc = .ok (.iload_n k, 1)) (hp : pc + 1 = q) (hl : Ls[k.val]? = some (.val (.int v))) (g : Ga p e below s Q C S T m q Ls (.int v :: st)) : Ga p e below s Q C S T m pc Ls st := by
  subst hp
  exact Ga.stp (fun _ k => XS.iloadN X.here hx rfl hd hl k) g
theorem g_iload (X : Stand p l e R s m args below meth c T locs cells slots) (hx : p.tables.exec = Jvm.exec) {k : Nat} {v : Int32} (hd : decode c.code pc = .ok (.iload k, 2)) (hp : pc + 2 = q) (hl : Ls[k]? = some (.val (.int v))) (g : Ga p e below s Q C S T m q Ls (.int v :: st)) : Ga p e below s Q C S T m pc Ls st := by
  subst hp
  exact Ga.stp (fun _ k => XS.iload X.here hx rfl hd hl k) g
theorem g_aloadN (X : Stand p l e R s m args below meth c T locs cells slots) (hx : p.tables.exec = Jvm.exec) {k : Fin 4} {v : Value} (hd : decode c.code pc = .ok (.aload_n k, 1)) (hp : pc + 1 = q) (hl : Ls[k.val]? = some (.val v)) (hv : v.isRef = true) (g : Ga p e below s Q C S T m q Ls (v :: st)) : Ga p e below s Q C S T m pc Ls st := by
  subst hp
  exact Ga.stp (fun _ k => XS.aloadN X.here hx rfl hd hl hv k) g
theorem g_aload (X : Stand p l e R s m args below meth c T locs cells slots) (hx : p.tables.exec = Jvm.exec) {k : Nat} {v : Value} (hd : decode c.code pc = .ok (.aload k, 2)) (hp : pc + 2 = q) (hl : Ls[k]? = some (.val v)) (hv : v.isRef = true) (g : Ga p e below s Q C S T m q Ls (v :: st)) : Ga p e below s Q C S T m pc Ls st := by
  subst hp
  exact Ga.stp (fun _ k => XS.aload X.here hx rfl hd hl hv k) g
theorem g_istore (X : Stand p l e R s m args below meth c T locs cells slots) (hx : p.tables.exec = Jvm.exec) {k : Nat} {x : Int32} (hd : decode c.code pc = .ok (.istore k, 2)) (hp : pc + 2 = q) (hl : storeLocals Ls k (.int x) = some Ls') (g : Ga p e below s Q C S T m q Ls' st) : Ga p e below s Q C S T m pc Ls (.int x :: st) := by
  subst hp
  exact Ga.stp (fun _ k => XS.istore X.here hx rfl hd rfl hl k) g
theorem g_astore (X : Stand p l e R s m args below meth c T locs cells slots) (hx : p.tables.exec = Jvm.exec) {k : Nat} {x : Value} (hd : decode c.code pc = .ok (.astore k, 2)) (hp : pc + 2 = q) (hv : x.isRef = true) (hl : storeLocals Ls k x = some Ls') (g : Ga p e below s Q C S T m q Ls' st) : Ga p e below s Q C S T m pc Ls (x :: st) := by
  subst hp
  exact Ga.stp (fun _ k => XS.astore X.here hx rfl hd rfl hv hl k) g
theorem g_iconst (X : Stand p l e R s m args below meth c T locs cells slots) (hx : p.tables.exec = Jvm.exec) {i : Int} {r : Int32} (hd : decode c.code pc = .ok (.iconst i, 1)) (hp : pc + 1 = q) (hr : Int32.ofInt i = r) (g : Ga p e below s Q C S T m q Ls (.int r :: st)) : Ga p e below s Q C S T m pc Ls st := by
  subst hp hr
  exact Ga.stp (fun _ k => XS.iconst X.here hx rfl hd k) g
theorem g_bipush (X : Stand p l e R s m args below meth c T locs cells slots) (hx : p.tables.exec = Jvm.exec) {i : Int} {r : Int32} (hd : decode c.code pc = .ok (.bipush i, 2)) (hp : pc + 2 = q) (hr : (Int8.ofInt i).toInt32 = r) (g : Ga p e below s Q C S T m q Ls (.int r :: st)) : Ga p e below s Q C S T m pc Ls st := by
  subst hp hr
  exact Ga.stp (fun _ k => XS.bipush X.here hx rfl hd k) g
theorem g_sipush (X : Stand p l e R s m args below meth c T locs cells slots) (hx : p.tables.exec = Jvm.exec) {i : Int} {r : Int32} (hd : decode c.code pc = .ok (.sipush i, 3)) (hp : pc + 3 = q) (hr : (Int16.ofInt i).toInt32 = r) (g : Ga p e below s Q C S T m q Ls (.int r :: st)) : Ga p e below s Q C S T m pc Ls st := by
  subst hp hr
  exact Ga.stp (fun _ k => XS.sipush X.here hx rfl hd k) g
theorem g_iadd (X : Stand p l e R s m args below meth c T locs cells slots) (hx : p.tables.exec = Jvm.exec) {x y r : Int32} (hd : decode c.code pc = .ok (.iadd, 1)) (hp : pc + 1 = q) (hr : x + y = r) (g : Ga p e below s Q C S T m q Ls (.int r :: st)) : Ga p e below s Q C S T m pc Ls (.int y :: .int x :: st) := by
  subst hp hr
  exact Ga.stp (fun _ k => XS.iadd X.here hx rfl hd rfl k) g
theorem g_isub (X : Stand p l e R s m args below meth c T locs cells slots) (hx : p.tables.exec = Jvm.exec) {x y r : Int32} (hd : decode c.code pc = .ok (.isub, 1)) (hp : pc + 1 = q) (hr : x - y = r) (g : Ga p e below s Q C S T m q Ls (.int r :: st)) : Ga p e below s Q C S T m pc Ls (.int y :: .int x :: st) := by
  subst hp hr
  exact Ga.stp (fun _ k => XS.isub X.here hx rfl hd rfl k) g
theorem g_iand (X : Stand p l e R s m args below meth c T locs cells slots) (hx : p.tables.exec = Jvm.exec) {x y r : Int32} (hd : decode c.code pc = .ok (.iand, 1)) (hp : pc + 1 = q) (hr : x &&& y = r) (g : Ga p e below s Q C S T m q Ls (.int r :: st)) : Ga p e below s Q C S T m pc Ls (.int y :: .int x :: st) := by
  subst hp hr
  exact Ga.stp (fun _ k => XS.iand X.here hx rfl hd rfl k) g
theorem g_i2b (X : Stand p l e R s m args below meth c T locs cells slots) (hx : p.tables.exec = Jvm.exec) {x : Int32} {r : Int32} (hd : decode c.code pc = .ok (.i2b, 1)) (hp : pc + 1 = q) (hr : x.toInt8.toInt32 = r) (g : Ga p e below s Q C S T m q Ls (.int r :: st)) : Ga p e below s Q C S T m pc Ls (.int x :: st) := by
  subst hp hr
  exact Ga.stp (fun _ k => XS.i2b X.here hx rfl hd rfl k) g
theorem g_goto (X : Stand p l e R s m args below meth c T locs cells slots) (hx : p.tables.exec = Jvm.exec) {o : Int} (hd : decode c.code pc = .ok (.goto o, 3)) (ho : 0 ≤ (pc : Int) + o) (hp : ((pc : Int) + o).toNat = q) (g : Ga p e below s Q C S T m q Ls st) : Ga p e below s Q C S T m pc Ls st :=
  Ga.stp (fun _ k => XS.goto X.here hx rfl rfl hd ho hp k) g
theorem g_ifY (X : Stand p l e R s m args below meth c T locs cells slots) (hx : p.tables.exec = Jvm.exec) {cd : ClassFile.Cond} {x : Int32} {o : Int} (hd : decode c.code pc = .ok (.ifCond cd o, 3)) (hc : ifCond.holds cd x = true) (ho : 0 ≤ (pc : Int) + o) (hp : ((pc : Int) + o).toNat = q) (g : Ga p e below s Q C S T m q Ls st) : Ga p e below s Q C S T m pc Ls (.int x :: st) :=
  Ga.stp (fun _ k => XS.ifYes X.here hx rfl rfl hd rfl hc ho hp k) g
theorem g_ifN (X : Stand p l e R s m args below meth c T locs cells slots) (hx : p.tables.exec = Jvm.exec) {cd : ClassFile.Cond} {x : Int32} {o : Int} (hd : decode c.code pc = .ok (.ifCond cd o, 3)) (hp : pc + 3 = q) (hc : ifCond.holds cd x = false) (g : Ga p e below s Q C S T m q Ls st) : Ga p e below s Q C S T m pc Ls (.int x :: st) := by
  subst hp
  exact Ga.stp (fun _ k => XS.ifNo X.here hx rfl hd rfl hc k) g
theorem g_icmpY (X : Stand p l e R s m args below meth c T locs cells slots) (hx : p.tables.exec = Jvm.exec) {cd : ClassFile.Cond} {x y : Int32} {o : Int} (hd : decode c.code pc = .ok (.if_icmp cd o, 3)) (hc : if_icmp.holds cd x y = true) (ho : 0 ≤ (pc : Int) + o) (hp : ((pc : Int) + o).toNat = q) (g : Ga p e below s Q C S T m q Ls st) : Ga p e below s Q C S T m pc Ls (.int y :: .int x :: st) :=
  Ga.stp (fun _ k => XS.icmpYes X.here hx rfl rfl hd rfl hc ho hp k) g
theorem g_icmpN (X : Stand p l e R s m args below meth c T locs cells slots) (hx : p.tables.exec = Jvm.exec) {cd : ClassFile.Cond} {x y : Int32} {o : Int} (hd : decode c.code pc = .ok (.if_icmp cd o, 3)) (hp : pc + 3 = q) (hc : if_icmp.holds cd x y = false) (g : Ga p e below s Q C S T m q Ls st) : Ga p e below s Q C S T m pc Ls (.int y :: .int x :: st) := by
  subst hp
  exact Ga.stp (fun _ k => XS.icmpNo X.here hx rfl hd rfl hc k) g
theorem g_retN (X : Stand p l e R s m args below meth c T locs cells slots) (hx : p.tables.exec = Jvm.exec) {z r : Int32} {t : FieldType} (hret : meth.sig.returnType = some t) (ht : t = .boolean ∨ t = .byte ∨ t = .char ∨ t = .short) (hlk : meth.locks = false) (hd : decode c.code pc = .ok (.ireturn, 1)) (hr : nar t z = r) (hc : cells ≤ C) (hs : slots ≤ S) (hq : Q (some (.int r)) T.heap locs) : Ga p e below s Q C S T m pc Ls (.int z :: st) := by
  subst hr
  exact Ga.out X hlk (fun h => by rw [hret] at h; cases h) hc hs hq fun fs hr => retN X hx hret ht hd hr
theorem g_static (X : Stand p l e R s m args below meth c T locs cells slots) (hx : p.tables.exec = Jvm.exec) (hZ : Z.Warmed39 s.vm) (hown : s.vm.findClass own = some m.cls) {index : Nat} {y : MethodName} {ret : Option FieldType} {bytes : ByteArray} {maxL : Nat} {rm : Room} {as' : Array Value} {Q' : Option Value → Heap → List Loc → Prop} (w1 : (Cond.methodLink own index y).before a0 Z = true) (w2 : (Cond.static y).before a0 Z = true) (w3 : (Cond.initialized y.cls).before a0 Z = true) (w4 : (Cond.code y bytes maxL ret).before a0 Z = true) (hy : y.cls ≠ "java/lang/invoke/MethodHandle" ∧ y.cls ≠ "java/lang/invoke/VarHandle")
    (hM : Ct l Z y bytes maxL ret [] rm as' h Q') (hsz : Ls.size = c.maxLocals) (eT : T.heap = h) (argsL : List Value) {rest : List Value} (has : as' = argsL.toArray) (hst : st = argsL.reverse ++ rest) {W : Nat} (hW : (rest.map fun v => v.category).sum ≤ W) (hf : rm.frames + 1 ≤ R.frames) (hl : W + (maxL + 11) + rm.locals ≤ R.locals) (hcl : cells + rm.cells ≤ R.cells) (hsl : slots + rm.slots ≤ R.slots) (hlen : ∀ sig, parseMethodDescriptor y.desc = some sig → argsL.length = sig.parameters.length) (hd : decode c.code pc = .ok (.invokestatic index, 3)) (hp : pc + 3 = q) (k : ∀ v T' L, Stand p l e R s m args below meth c T' (locs ++ L) (cells + rm.cells) (slots + rm.slots) → Q' v T'.heap L → Ga p e below s Q C S T' m q Ls (v.toList ++ rest)) : Ga p e below s Q C S T m pc Ls st := by
  subst hp has hst
  obtain ⟨_, _, ⟨T', L', k', n'⟩, -, X', ⟨Lc, hQ', l1, y1, z1⟩, sx⟩ := Jvm.LawKit.callS X hx (y := y) hown (mvT hZ w1) (mvT hZ w2) (mvT hZ w3) (mvT hZ w4) hy (backOf (W := W) hM hZ w4 w3 hf hl) (g := mkF m pc Ls (argsL.reverse ++ rest)) rfl hsz (argsL := argsL) (rest := rest) hlen rfl (by show 2 * 0 + _ ≤ _; omega) hd (fun _ _ => ⟨rfl, eT, hcl, hsl⟩)
  dsimp only [Pt.U, Pt.locs, Pt.cells, Pt.slots] at X' l1 y1 z1 sx hQ'
  subst l1 y1 z1
  exact Ga.stp sx (k _ T' Lc X' hQ')
variable {ka : ClassId} {ty : FieldType} {z j : Int32} {vs : List Value} {dv : Value} {a : Addr}
theorem g_len (X : Stand p l e R s m args below meth c T locs cells slots) (hx : p.tables.exec = Jvm.exec) (hZ : Z.Warmed39 s.vm) (eT : T.heap = h) (A : Arv Z h a ka ty z vs dv) (hd : decode c.code pc = .ok (.arraylength, 1)) (hp : pc + 1 = q) (g : Ga p e below s Q C S T m q Ls (.int z :: st)) : Ga p e below s Q C S T m pc Ls (.ref a :: st) := by
  subst hp
  obtain ⟨cl, Ar, -, Sz, N, -, -⟩ := A
  refine Ga.stp (fun t k => X.arraylength hx (by rw [eT]; exact Ar.1) (State.isArrayOf_alike hZ.alike Ar.2.1) (g := mkF m pc Ls (.ref a :: st)) rfl rfl hd t ?_) g
  rw [len_of Sz N]; exact k
theorem g_baload (X : Stand p l e R s m args below meth c T locs cells slots) (hx : p.tables.exec = Jvm.exec) (hZ : Z.Warmed39 s.vm) (eT : T.heap = h) (A : Arv Z h a ka .byte z vs dv) {v : Value} (hin : ¬ j < 0 ∧ j < z) (hv : vs.getD j.toNatClampNeg dv = v) (hd : decode c.code pc = .ok (.baload, 1)) (hp : pc + 1 = q) (g : Ga p e below s Q C S T m q Ls (v :: st)) : Ga p e below s Q C S T m pc Ls (.int j :: .ref a :: st) := by
  subst hp
  obtain ⟨cl, Ar, -, Sz, N, Hs, -⟩ := A
  exact Ga.stp (fun t k => X.baloadBytes hx (j := j) (v := v) (by rw [eT]; exact Ar.1) (State.isArrayOf_alike hZ.alike Ar.2.1) Ar.2.2 (inb_of Sz hin) (Hs.at (inb_of Sz hin) hv) (g := mkF m pc Ls (.int j :: .ref a :: st)) rfl rfl hd t k) g
theorem g_bastore (X : Stand p l e R s m args below meth c T locs cells slots) (hx : p.tables.exec = Jvm.exec) (hZ : Z.Warmed39 s.vm) (eT : T.heap = h) (A : Arv Z h a ka .byte z vs dv) {x : Int32} (hin : ¬ j < 0 ∧ j < z) (hlen : j.toNatClampNeg < vs.length) (hd : decode c.code pc = .ok (.bastore, 1)) (hp : pc + 1 = q)
    (k : ∀ T' h', Stand p l e R s m args below meth c T' (locs ++ [⟨a, j.toNatClampNeg⟩]) cells slots → T'.heap = h' → Wr h h' a j.toNatClampNeg (.int (nar .byte x)) → Arv Z h' a ka .byte z (vs.set j.toNatClampNeg (.int (nar .byte x))) dv → Ga p e below s Q C S T' m q Ls st) : Ga p e below s Q C S T m pc Ls (.int x :: .int j :: .ref a :: st) := by
  subst hp
  obtain ⟨cl, Ar, q1, Sz, N, Hs, Gs⟩ := A
  obtain ⟨T', h', X', e', W', sx⟩ := stB X hx hZ eT Ar (j := j) (inb_of Sz hin) (g := mkF m pc Ls (.int x :: .int j :: .ref a :: st)) rfl rfl hd
  exact Ga.stp sx (k T' h' X' e' W' (Arv.set Ar q1 Sz N Hs Gs (fits_nar_byte x) W' _ rfl hlen))
theorem g_newarray (X : Stand p l e R s m args below meth c T locs cells slots) (hx : p.tables.exec = Jvm.exec) (hZ : Z.Warmed39 s.vm) {aty : ArrayType} (w : (Cond.arrayClass (newarray.typeOf aty)).before a0 Z = true) (eT : T.heap = h) {n : Int32} (hn : ¬ n < 0) (cap : Nat) (hcap : n.toNatClampNeg ≤ cap) (hb : cap * 8 ≤ 536870912) (hc : cells + 1 ≤ R.cells) (hl : slots + cap ≤ R.slots) {ad : String} (had : "[" ++ (newarray.typeOf aty).toString = ad) (hd : decode c.code pc = .ok (.newarray aty, 2)) (hp : pc + 2 = q)
    (k : ∀ T' h' b kA, Stand p l e R s m args below meth c T' locs (cells + 1) (slots + cap) → T'.heap = h' → b = h.size → Ext h h' → Exa Z h' b ad → Arv Z h' b kA (newarray.typeOf aty) n (List.replicate cap (defaultValue (newarray.typeOf aty))) (defaultValue (newarray.typeOf aty)) → Ga p e below s Q C S T' m q Ls (.ref b :: st)) : Ga p e below s Q C S T m pc Ls (.int n :: st) := by
  subst hp
  obtain ⟨T', h', cA, X', e', E', A', Ea, sx⟩ := newPE X hx hZ w eT (g := mkF m pc Ls (.int n :: st)) rfl hd rfl hn hcap hb hc hl had
  exact Ga.stp sx (k T' h' _ cA X' e' rfl E' Ea ((Arv.new A' hn).pad (by simpa using pad_rep [] (defaultValue (newarray.typeOf aty)) cap)))
theorem own_ne {b : Addr} (h1 : a < h.size) (h2 : b = h.size) : a ≠ b := Nat.ne_of_lt (h2 ▸ h1)
end GoKit

theorem own_irrI (x : Int32) : ¬ x < x := Int32.lt_irrefl
theorem own_irrJ (x : Int64) : ¬ x < x := Int64.lt_irrefl
theorem own_narc (x : Int32) : nar .char (x &&& (255 : Int32)) = (x &&& (255 : Int32)) := i2c_mask x
theorem own_nar (x : Int32) : nar .byte x = x.toInt8.toInt32 := rfl
theorem own_bb (x : Int32) : x.toInt8.toInt32.toInt8.toInt32 = x.toInt8.toInt32 := by simp
theorem own_nb {h : Heap} {b b' y : Addr} (hb : b' = b ∨ h.size ≤ b') (lt : y < h.size) (ne : y ≠ b) : y ≠ b' := hb.elim (fun q => q ▸ ne) (fun q => Nat.ne_of_lt (Nat.lt_of_lt_of_le lt q))
theorem own_ng {h : Heap} {b b' : Addr} {n0 : Nat} (hb : b' = b ∨ h.size ≤ b') (g : n0 ≤ b) (Z : n0 ≤ h.size) : n0 ≤ b' := hb.elim (fun q => q ▸ g) (fun q => Nat.le_trans Z q)
theorem own_insK {Z : State} {h h' : Heap} {a : Addr} {C : String} {ws : List Addr} (F : Ins Z h a C true) (K : Keep h h' ws) : Ins Z h' a C true := by
  obtain ⟨cell, cT, h1, h2, h3⟩ := F
  obtain ⟨c', q1, q2, q3, -⟩ := K.2.2 _ _ h1
  exact ⟨c', cT, q1, h2, by rw [q2, q3]; exact h3⟩
theorem d_prog_41_m_4_0 : decode prog_41_method_4_code 0 = .ok (.aload_n 0, 1) := by decide +kernel
theorem d_prog_41_m_4_1 : decode prog_41_method_4_code 1 = .ok (.arraylength, 1) := by decide +kernel
theorem d_prog_41_m_4_2 : decode prog_41_method_4_code 2 = .ok (.ifCond .le 18, 3) := by decide +kernel
theorem d_prog_41_m_4_5 : decode prog_41_method_4_code 5 = .ok (.aload_n 0, 1) := by decide +kernel
theorem d_prog_41_m_4_6 : decode prog_41_method_4_code 6 = .ok (.aload_n 0, 1) := by decide +kernel
theorem d_prog_41_m_4_7 : decode prog_41_method_4_code 7 = .ok (.arraylength, 1) := by decide +kernel
theorem d_prog_41_m_4_8 : decode prog_41_method_4_code 8 = .ok (.iconst 1, 1) := by decide +kernel
theorem d_prog_41_m_4_9 : decode prog_41_method_4_code 9 = .ok (.isub, 1) := by decide +kernel
theorem d_prog_41_m_4_10 : decode prog_41_method_4_code 10 = .ok (.baload, 1) := by decide +kernel
theorem d_prog_41_m_4_11 : decode prog_41_method_4_code 11 = .ok (.bipush 10, 2) := by decide +kernel
theorem d_prog_41_m_4_13 : decode prog_41_method_4_code 13 = .ok (.if_icmp .ne 7, 3) := by decide +kernel
theorem d_prog_41_m_4_16 : decode prog_41_method_4_code 16 = .ok (.iconst 1, 1) := by decide +kernel
theorem d_prog_41_m_4_17 : decode prog_41_method_4_code 17 = .ok (.goto 4, 3) := by decide +kernel
theorem d_prog_41_m_4_21 : decode prog_41_method_4_code 21 = .ok (.ireturn, 1) := by decide +kernel
theorem d_prog_41_m_4_20 : decode prog_41_method_4_code 20 = .ok (.iconst 0, 1) := by decide +kernel
theorem pd_0 : parseMethodDescriptor "([B)Z" = some ⟨[(.array .byte)], some .boolean⟩ := by decide +kernel
theorem pn_0 : plainName "com/example/twinsite/twinsite/io/LineReader" = true := by first | (simp [plainName, overriddenIn]; done) | decide +kernel
theorem pn_1 : plainName "com/example/twinsite/twinsite/io/LineReaderIsTerminatedPinLaw" = true := by first | (simp [plainName, overriddenIn]; done) | decide +kernel
theorem own_m3 {x v : Int32} (h : (x &&& (3 : Int32)) = v) : v = (0 : Int32) ∨ v = (1 : Int32) ∨ v = (2 : Int32) ∨ v = (3 : Int32) := by
  have e := c_mask x 3 2 (by decide) (by decide)
  rw [h] at e
  have : v.toInt = 0 ∨ v.toInt = 1 ∨ v.toInt = 2 ∨ v.toInt = 3 := by omega
  rcases this with q | q | q | q
  · left; exact Int32.toInt_inj.mp q
  · right; left; exact Int32.toInt_inj.mp q
  · right; right; left; exact Int32.toInt_inj.mp q
  · right; right; right; exact Int32.toInt_inj.mp q
theorem own_bytes (x : Int32) : (x &&& (255 : Int32)) = (10 : Int32) ↔ x.toInt8.toInt32 = (10 : Int32) := by
  have e := c_mask x 255 8 (by decide) (by decide)
  have b := c_i2b x
  have t : (10 : Int32).toInt = 10 := rfl
  constructor
  · intro h; rw [h, t] at e; apply Int32.toInt_inj.mp; rw [t]; omega
  · intro h; rw [h, t] at b; apply Int32.toInt_inj.mp; rw [e, t]; omega
theorem own_last0 {n : Int32} (h0 : ¬ n < 0) (h1 : (0 : Int32) < n) : ¬ (n - (1 : Int32)) < 0 ∧ (n - (1 : Int32)) < n := by
  have r := rng32 n
  have c := c_isub n 1
  have t : (1 : Int32).toInt = 1 := rfl
  have t0 : (0 : Int32).toInt = 0 := rfl
  rw [t] at c
  have r2 := rng32 (n - 1)
  rw [Int32.lt_iff_toInt_lt, t0] at h0 h1 ⊢
  rw [Int32.lt_iff_toInt_lt]
  omega
def Q_term (Z : State) (a : Addr) (ka : ClassId) (n : Int32) (vs : List Value) (b : Int32) (h0 : Heap) (n0 : Nat) (v : Option Value) (h : Heap) (L : List Loc) : Prop := ∃ (r : Int32), v = some (.int r) ∧ Fr n0 L ∧ h = h0 ∧ ((¬ (0 : Int32) < n ∧ r = 0) ∨ ((0 : Int32) < n ∧ ((b = (10 : Int32) ∧ r = 1) ∨ (¬ b = (10 : Int32) ∧ r = 0))))
theorem ef_term (m : MethodId) (x0 : Addr) : entryFrame m #[(.ref x0)] 1 = mkF m 0 #[.val (.ref x0)] [] := by first | (simp [entryFrame, mkF, argsToLocals, Value.category]; done) | rfl
set_option maxRecDepth 65536 in
set_option maxHeartbeats 40000000 in
theorem rm_term (l : Launch) (Z : State) (a0 : Array Value) (hw : ∀ d ∈ tables_1, d.before a0 Z = true) (a : Addr) (ka : ClassId) (n : Int32) (vs : List Value) (b : Int32) (h0 : Heap) (n0 : Nat) (Z0 : n0 ≤ h0.size) (V_a : Arv Z h0 a ka .byte n vs (.int (0 : Int32))) (hn : ¬ n < 0) (hlast : (0 : Int32) < n → vs.getD (n - (1 : Int32)).toNatClampNeg (.int (0 : Int32)) = .int b) :
    Ct l Z (⟨"com/example/twinsite/twinsite/io/LineReader", "isTerminated", "([B)Z"⟩ : MethodName) prog_41_method_4_code 1 (some .boolean) [] ({ frames := 0, cells := 0, slots := 0, locals := 0 } : Room) #[(.ref a)] h0 (Q_term Z a ka n vs b h0 n0) := by
  refine own_body (plainFor_of_name pn_0) (fun m => ef_term m a) ?_
  intro p e s m below meth c T0 hx hby hml hZ hown hnm hret hlk X0 e0
  have N0 := Fr.nil n0
  refine g_aloadN X0 hx (hb hby d_prog_41_m_4_0) rfl rfl rfl ?_
  refine g_len X0 hx hZ e0 V_a (hb hby d_prog_41_m_4_1) rfl ?_
  by_cases hc2 : (0 : Int32) < n
  · skip
    refine g_ifN X0 hx (hb hby d_prog_41_m_4_2) rfl (XT.i0_le_f hc2) ?_
    refine g_aloadN X0 hx (hb hby d_prog_41_m_4_5) rfl rfl rfl ?_
    refine g_aloadN X0 hx (hb hby d_prog_41_m_4_6) rfl rfl rfl ?_
    refine g_len X0 hx hZ e0 V_a (hb hby d_prog_41_m_4_7) rfl ?_
    refine g_iconst X0 hx (r := (1 : Int32)) (hb hby d_prog_41_m_4_8) rfl rfl ?_
    refine g_isub X0 hx (hb hby d_prog_41_m_4_9) rfl rfl ?_
    refine g_baload X0 hx hZ e0 V_a (v := (.int b)) (own_last0 hn hc2) (hlast hc2) (hb hby d_prog_41_m_4_10) rfl ?_
    refine g_bipush X0 hx (r := (10 : Int32)) (hb hby d_prog_41_m_4_11) rfl rfl ?_
    by_cases hc13 : b = (10 : Int32)
    · skip
      refine g_icmpN X0 hx (hb hby d_prog_41_m_4_13) rfl (XT.ii_ne_f hc13) ?_
      refine g_iconst X0 hx (r := (1 : Int32)) (hb hby d_prog_41_m_4_16) rfl rfl ?_
      refine g_goto X0 hx (q := 21) (hb hby d_prog_41_m_4_17) (by decide) (by decide) ?_
      exact g_retN X0 hx (t := .boolean) (r := (1 : Int32)) hret (by simp) hlk (hb hby d_prog_41_m_4_21) rfl (by decide) (by decide) (by rw [e0]; exact ⟨(1 : Int32), rfl, N0, rfl, (Or.inr ⟨hc2, Or.inl ⟨hc13, rfl⟩⟩)⟩)
    · skip
      refine g_icmpY X0 hx (q := 20) (hb hby d_prog_41_m_4_13) (XT.ii_ne_t hc13) (by decide) (by decide) ?_
      refine g_iconst X0 hx (r := (0 : Int32)) (hb hby d_prog_41_m_4_20) rfl rfl ?_
      exact g_retN X0 hx (t := .boolean) (r := (0 : Int32)) hret (by simp) hlk (hb hby d_prog_41_m_4_21) rfl (by decide) (by decide) (by rw [e0]; exact ⟨(0 : Int32), rfl, N0, rfl, (Or.inr ⟨hc2, Or.inr ⟨hc13, rfl⟩⟩)⟩)
  · skip
    refine g_ifY X0 hx (q := 20) (hb hby d_prog_41_m_4_2) (XT.i0_le_t hc2) (by decide) (by decide) ?_
    refine g_iconst X0 hx (r := (0 : Int32)) (hb hby d_prog_41_m_4_20) rfl rfl ?_
    exact g_retN X0 hx (t := .boolean) (r := (0 : Int32)) hret (by simp) hlk (hb hby d_prog_41_m_4_21) rfl (by decide) (by decide) (by rw [e0]; exact ⟨(0 : Int32), rfl, N0, rfl, (Or.inl ⟨hc2, rfl⟩)⟩)
def Q_law (Z : State) (p0 : Int32) (p1 : Int32) (p2 : Int32) (p3 : Int32) (h0 : Heap) (n0 : Nat) (v : Option Value) (h : Heap) (L : List Loc) : Prop := v = some (.int 1) ∧ Fr n0 L
theorem ef_law (m : MethodId) (x0 : Int32) (x1 : Int32) (x2 : Int32) (x3 : Int32) : entryFrame m #[(.int x0), (.int x1), (.int x2), (.int x3)] maxLocals = mkF m 0 #[.val (.int x0), .val (.int x1), .val (.int x2), .val (.int x3), .unset, .unset, .unset, .unset, .unset, .unset, .unset] [] := by first | (simp [entryFrame, mkF, argsToLocals, Value.category, maxLocals]; done) | rfl
set_option maxRecDepth 65536 in
set_option maxHeartbeats 40000000 in
theorem rm_law (l : Launch) (Z : State) (a0 : Array Value) (hw : ∀ d ∈ tables_1, d.before a0 Z = true) (ws : List Jvm.Cond) (p0 : Int32) (p1 : Int32) (p2 : Int32) (p3 : Int32) (h0 : Heap) (n0 : Nat) (Z0 : n0 ≤ h0.size) :
    Ct l Z x code maxLocals ret ws room_1 #[(.int p0), (.int p1), (.int p2), (.int p3)] h0 (Q_law Z p0 p1 p2 p3 h0 n0) := by
  refine own_body (plainFor_of_name pn_1) (fun m => ef_law m p0 p1 p2 p3) ?_
  intro p e s m below meth c T0 hx hby hml hZ hown hnm hret hlk X0 e0
  have N0 := Fr.nil n0
  refine g_iloadN X0 hx (hb hby at_0) rfl rfl ?_
  refine g_iconst X0 hx (r := (3 : Int32)) (hb hby at_1) rfl rfl ?_
  obtain ⟨v2, hv2⟩ : ∃ r, (p0 &&& (3 : Int32)) = r := ⟨_, rfl⟩
  refine g_iand X0 hx (hb hby at_2) rfl hv2 ?_
  refine g_istore X0 hx (Ls' := #[.val (.int p0), .val (.int p1), .val (.int p2), .val (.int p3), .val (.int v2), .unset, .unset, .unset, .unset, .unset, .unset]) (hb hby at_3) rfl rfl ?_
  have hcs_v2 : v2 = (0 : Int32) ∨ v2 = (1 : Int32) ∨ v2 = (2 : Int32) ∨ v2 = (3 : Int32) := own_m3 hv2
  rcases hcs_v2 with rfl | rfl | rfl | rfl
  · skip
    refine g_iload X0 hx (hb hby at_5) rfl rfl ?_
    refine g_newarray X0 hx hZ (aty := .byte) (hw _ (List.mem_of_getElem? (i := 0) rfl)) e0 (by decide) 0 (by decide) (by decide) (by decide) (by decide) (ad := "[B") (by decide) (hb hby at_7) rfl fun T1 h1 b1 ka1 X1 e1 q1 E1 A1 V1 => ?_
    have g_b1 : n0 ≤ b1 := Nat.le_trans Z0 (Nat.le_of_eq q1.symm)
    have Z1 : n0 ≤ h1.size := Nat.le_trans Z0 E1.1
    have Vn1 : Arv Z h1 b1 ka1 .byte (0 : Int32) [] (.int (0 : Int32)) := V1
    refine g_astore X1 hx (Ls' := #[.val (.int p0), .val (.int p1), .val (.int p2), .val (.int p3), .val (.int (0 : Int32)), .val (.ref b1), .unset, .unset, .unset, .unset, .unset]) (hb hby at_9) rfl rfl rfl ?_
    refine g_iload X1 hx (hb hby at_11) rfl rfl ?_
    refine g_iconst X1 hx (r := (1 : Int32)) (hb hby at_13) rfl rfl ?_
    refine g_iadd X1 hx (r := (1 : Int32)) (hb hby at_14) rfl rfl ?_
    refine g_newarray X1 hx hZ (aty := .byte) (hw _ (List.mem_of_getElem? (i := 0) rfl)) e1 (by decide) 1 (by decide) (by decide) (by decide) (by decide) (ad := "[B") (by decide) (hb hby at_15) rfl fun T2 h2 b2 ka2 X2 e2 q2 E2 A2 V2 => ?_
    have ne_b1_b2 : b1 ≠ b2 := own_ne Vn1.lt q2
    have g_b2 : n0 ≤ b2 := Nat.le_trans Z1 (Nat.le_of_eq q2.symm)
    have Z2 : n0 ≤ h2.size := Nat.le_trans Z1 E2.1
    have Vn2 : Arv Z h2 b2 ka2 .byte (1 : Int32) [(.int (0 : Int32))] (.int (0 : Int32)) := V2
    refine g_astore X2 hx (Ls' := #[.val (.int p0), .val (.int p1), .val (.int p2), .val (.int p3), .val (.int (0 : Int32)), .val (.ref b1), .val (.ref b2), .unset, .unset, .unset, .unset]) (hb hby at_17) rfl rfl rfl ?_
    refine g_iload X2 hx (hb hby at_19) rfl rfl ?_
    refine g_iconst X2 hx (r := (1 : Int32)) (hb hby at_21) rfl rfl ?_
    refine g_icmpY X2 hx (q := 37) (hb hby at_22) (XT.ii_lt_t (by decide : (0 : Int32) < (1 : Int32))) (by decide) (by decide) ?_
    refine g_iload X2 hx (hb hby at_37) rfl rfl ?_
    refine g_iconst X2 hx (r := (2 : Int32)) (hb hby at_39) rfl rfl ?_
    refine g_icmpY X2 hx (q := 55) (hb hby at_40) (XT.ii_lt_t (by decide : (0 : Int32) < (2 : Int32))) (by decide) (by decide) ?_
    refine g_iload X2 hx (hb hby at_55) rfl rfl ?_
    refine g_iconst X2 hx (r := (3 : Int32)) (hb hby at_57) rfl rfl ?_
    refine g_icmpY X2 hx (q := 73) (hb hby at_58) (XT.ii_lt_t (by decide : (0 : Int32) < (3 : Int32))) (by decide) (by decide) ?_
    refine g_aload X2 hx (hb hby at_73) rfl rfl rfl ?_
    refine g_iload X2 hx (hb hby at_75) rfl rfl ?_
    refine g_bipush X2 hx (r := (10 : Int32)) (hb hby at_77) rfl rfl ?_
    refine g_bastore X2 hx hZ e2 Vn2 ⟨by decide, by decide⟩ (Nat.le_of_ble_eq_true rfl) (hb hby at_79) rfl fun T3 h3 X3 e3 W3 V3 => ?_
    have Vn3 : Arv Z h3 b2 ka2 .byte (1 : Int32) [(.int (10 : Int32))] (.int (0 : Int32)) := V3
    have N3 := Fr.snoc X3 N0 g_b2
    have Z3 : n0 ≤ h3.size := by rw [W3.size]; exact Z2
    refine g_iload X3 hx (hb hby at_80) rfl rfl ?_
    refine g_ifN X3 hx (hb hby at_82) rfl (XT.i0_ne_f (by decide : (0 : Int32) = (0 : Int32))) ?_
    refine g_iconst X3 hx (r := (-1 : Int32)) (hb hby at_85) rfl rfl ?_
    refine g_istore X3 hx (Ls' := #[.val (.int p0), .val (.int p1), .val (.int p2), .val (.int p3), .val (.int (0 : Int32)), .val (.ref b1), .val (.ref b2), .val (.int (-1 : Int32)), .unset, .unset, .unset]) (hb hby at_86) rfl rfl ?_
    refine g_goto X3 hx (q := 118) (hb hby at_88) (by decide) (by decide) ?_
    refine g_iload X3 hx (hb hby at_118) rfl rfl ?_
    refine g_ifY X3 hx (q := 138) (hb hby at_120) (XT.i0_eq_t (by decide : (0 : Int32) = (0 : Int32))) (by decide) (by decide) ?_
    refine g_iconst X3 hx (r := (0 : Int32)) (hb hby at_138) rfl rfl ?_
    refine g_istore X3 hx (Ls' := #[.val (.int p0), .val (.int p1), .val (.int p2), .val (.int p3), .val (.int (0 : Int32)), .val (.ref b1), .val (.ref b2), .val (.int (-1 : Int32)), .val (.int (0 : Int32)), .unset, .unset]) (hb hby at_139) rfl rfl ?_
    refine g_aload X3 hx (hb hby at_141) rfl rfl rfl ?_
    have f5 : Arv Z h3 b1 ka1 .byte (0 : Int32) [] (.int (0 : Int32)) := ((Vn1.ext E2).other W3 ne_b1_b2)
    refine g_static X3 hx hZ hown (hw _ (List.mem_of_getElem? (i := 1) rfl)) (hw _ (List.mem_of_getElem? (i := 2) rfl)) (hw _ (List.mem_of_getElem? (i := 3) rfl)) (hw _ (List.mem_of_getElem? (i := 4) rfl)) (by decide) (rm_term l Z a0 hw b1 ka1 (0 : Int32) [] (0 : Int32) h3 n0 Z3 f5 (by first | decide | assumption | rfl | (intro _; rfl)) (by first | decide | assumption | rfl | (intro _; rfl))) (by rw [hml]; rfl) e3 [(.ref b1)] rfl rfl (W := 0) (Nat.le_of_eq rfl) (by decide) (by decide) (by decide) (by decide) (lenOf pd_0 rfl) (hb hby at_143) rfl fun v4 T4 L4 X4 hQ4 => ?_
    obtain ⟨r_4, rfl, Nq4, eh4, p4_0⟩ := hQ4
    have N4 := Fr.app N3 Nq4
    have hr_4 := p4_0
    show Ga _ _ _ _ _ _ _ _ _ _ _ [(.int r_4)]
    refine g_istore X4 hx (Ls' := #[.val (.int p0), .val (.int p1), .val (.int p2), .val (.int p3), .val (.int (0 : Int32)), .val (.ref b1), .val (.ref b2), .val (.int (-1 : Int32)), .val (.int (0 : Int32)), .val (.int r_4), .unset]) (hb hby at_146) rfl rfl ?_
    refine g_aload X4 hx (hb hby at_148) rfl rfl rfl ?_
    refine g_static X4 hx hZ hown (hw _ (List.mem_of_getElem? (i := 1) rfl)) (hw _ (List.mem_of_getElem? (i := 2) rfl)) (hw _ (List.mem_of_getElem? (i := 3) rfl)) (hw _ (List.mem_of_getElem? (i := 4) rfl)) (by decide) (rm_term l Z a0 hw b2 ka2 (1 : Int32) [(.int (10 : Int32))] (10 : Int32) h3 n0 Z3 Vn3 (by first | decide | assumption | rfl | (intro _; rfl)) (by first | decide | assumption | rfl | (intro _; rfl))) (by rw [hml]; rfl) eh4 [(.ref b2)] rfl rfl (W := 0) (Nat.le_of_eq rfl) (by decide) (by decide) (by decide) (by decide) (lenOf pd_0 rfl) (hb hby at_150) rfl fun v6 T6 L6 X6 hQ6 => ?_
    obtain ⟨r_6, rfl, Nq6, eh6, p6_0⟩ := hQ6
    have N6 := Fr.app N4 Nq6
    have hr_6 := p6_0
    show Ga _ _ _ _ _ _ _ _ _ _ _ [(.int r_6)]
    refine g_istore X6 hx (Ls' := #[.val (.int p0), .val (.int p1), .val (.int p2), .val (.int p3), .val (.int (0 : Int32)), .val (.ref b1), .val (.ref b2), .val (.int (-1 : Int32)), .val (.int (0 : Int32)), .val (.int r_4), .val (.int r_6)]) (hb hby at_153) rfl rfl ?_
    have hg1 : r_4 = (0 : Int32) := by
      rcases hr_4 with ⟨-, h⟩ | ⟨h, -⟩
      · exact h
      · exact absurd h (by decide)
    have hg2 : r_6 = (1 : Int32) := by
      rcases hr_6 with ⟨h, -⟩ | ⟨-, ⟨-, h⟩ | ⟨h, -⟩⟩
      · exact absurd (by decide) h
      · exact h
      · exact absurd rfl h
    subst hg1 hg2
    refine g_iload X6 hx (hb hby at_155) rfl rfl ?_
    refine g_iload X6 hx (hb hby at_157) rfl rfl ?_
    refine g_icmpN X6 hx (hb hby at_159) rfl (XT.ii_ne_f (by decide : (0 : Int32) = (0 : Int32))) ?_
    refine g_iload X6 hx (hb hby at_162) rfl rfl ?_
    refine g_ifN X6 hx (hb hby at_164) rfl (XT.i0_eq_f (by decide : ¬ (1 : Int32) = (0 : Int32))) ?_
    refine g_iconst X6 hx (r := (1 : Int32)) (hb hby at_167) rfl rfl ?_
    refine g_goto X6 hx (q := 172) (hb hby at_168) (by decide) (by decide) ?_
    exact g_retN X6 hx (t := .boolean) (r := (1 : Int32)) hret (by simp) hlk (hb hby at_172) rfl (by decide) (by decide) (by rw [eh6]; exact ⟨rfl, N6⟩)
  · skip
    refine g_iload X0 hx (hb hby at_5) rfl rfl ?_
    refine g_newarray X0 hx hZ (aty := .byte) (hw _ (List.mem_of_getElem? (i := 0) rfl)) e0 (by decide) 1 (by decide) (by decide) (by decide) (by decide) (ad := "[B") (by decide) (hb hby at_7) rfl fun T7 h7 b7 ka7 X7 e7 q7 E7 A7 V7 => ?_
    have g_b7 : n0 ≤ b7 := Nat.le_trans Z0 (Nat.le_of_eq q7.symm)
    have Z7 : n0 ≤ h7.size := Nat.le_trans Z0 E7.1
    have Vn7 : Arv Z h7 b7 ka7 .byte (1 : Int32) [(.int (0 : Int32))] (.int (0 : Int32)) := V7
    refine g_astore X7 hx (Ls' := #[.val (.int p0), .val (.int p1), .val (.int p2), .val (.int p3), .val (.int (1 : Int32)), .val (.ref b7), .unset, .unset, .unset, .unset, .unset]) (hb hby at_9) rfl rfl rfl ?_
    refine g_iload X7 hx (hb hby at_11) rfl rfl ?_
    refine g_iconst X7 hx (r := (1 : Int32)) (hb hby at_13) rfl rfl ?_
    refine g_iadd X7 hx (r := (2 : Int32)) (hb hby at_14) rfl rfl ?_
    refine g_newarray X7 hx hZ (aty := .byte) (hw _ (List.mem_of_getElem? (i := 0) rfl)) e7 (by decide) 2 (by decide) (by decide) (by decide) (by decide) (ad := "[B") (by decide) (hb hby at_15) rfl fun T8 h8 b8 ka8 X8 e8 q8 E8 A8 V8 => ?_
    have ne_b7_b8 : b7 ≠ b8 := own_ne Vn7.lt q8
    have g_b8 : n0 ≤ b8 := Nat.le_trans Z7 (Nat.le_of_eq q8.symm)
    have Z8 : n0 ≤ h8.size := Nat.le_trans Z7 E8.1
    have Vn8 : Arv Z h8 b8 ka8 .byte (2 : Int32) [(.int (0 : Int32)), (.int (0 : Int32))] (.int (0 : Int32)) := V8
    refine g_astore X8 hx (Ls' := #[.val (.int p0), .val (.int p1), .val (.int p2), .val (.int p3), .val (.int (1 : Int32)), .val (.ref b7), .val (.ref b8), .unset, .unset, .unset, .unset]) (hb hby at_17) rfl rfl rfl ?_
    refine g_iload X8 hx (hb hby at_19) rfl rfl ?_
    refine g_iconst X8 hx (r := (1 : Int32)) (hb hby at_21) rfl rfl ?_
    refine g_icmpN X8 hx (hb hby at_22) rfl (XT.ii_lt_f (by decide : ¬ (1 : Int32) < (1 : Int32))) ?_
    refine g_aload X8 hx (hb hby at_25) rfl rfl rfl ?_
    refine g_iconst X8 hx (r := (0 : Int32)) (hb hby at_27) rfl rfl ?_
    refine g_iloadN X8 hx (hb hby at_28) rfl rfl ?_
    refine g_i2b X8 hx (hb hby at_29) rfl rfl ?_
    have f9 : Arv Z h8 b7 ka7 .byte (1 : Int32) [(.int (0 : Int32))] (.int (0 : Int32)) := (Vn7.ext E8)
    refine g_bastore X8 hx hZ e8 f9 ⟨by decide, by decide⟩ (Nat.le_of_ble_eq_true rfl) (hb hby at_30) rfl fun T10 h10 X10 e10 W10 V10 => ?_
    rw [own_nar, own_bb] at V10
    have Vn10 : Arv Z h10 b7 ka7 .byte (1 : Int32) [(.int (p1.toInt8.toInt32))] (.int (0 : Int32)) := V10
    have N10 := Fr.snoc X10 N0 g_b7
    have Z10 : n0 ≤ h10.size := by rw [W10.size]; exact Z8
    refine g_aload X10 hx (hb hby at_31) rfl rfl rfl ?_
    refine g_iconst X10 hx (r := (0 : Int32)) (hb hby at_33) rfl rfl ?_
    refine g_iloadN X10 hx (hb hby at_34) rfl rfl ?_
    refine g_i2b X10 hx (hb hby at_35) rfl rfl ?_
    have f11 : Arv Z h10 b8 ka8 .byte (2 : Int32) [(.int (0 : Int32)), (.int (0 : Int32))] (.int (0 : Int32)) := (Vn8.other W10 (Ne.symm ne_b7_b8))
    refine g_bastore X10 hx hZ e10 f11 ⟨by decide, by decide⟩ (Nat.le_of_ble_eq_true rfl) (hb hby at_36) rfl fun T12 h12 X12 e12 W12 V12 => ?_
    rw [own_nar, own_bb] at V12
    have Vn12 : Arv Z h12 b8 ka8 .byte (2 : Int32) [(.int (p1.toInt8.toInt32)), (.int (0 : Int32))] (.int (0 : Int32)) := V12
    have N12 := Fr.snoc X12 N10 g_b8
    have Z12 : n0 ≤ h12.size := by rw [W12.size]; exact Z10
    refine g_iload X12 hx (hb hby at_37) rfl rfl ?_
    refine g_iconst X12 hx (r := (2 : Int32)) (hb hby at_39) rfl rfl ?_
    refine g_icmpY X12 hx (q := 55) (hb hby at_40) (XT.ii_lt_t (by decide : (1 : Int32) < (2 : Int32))) (by decide) (by decide) ?_
    refine g_iload X12 hx (hb hby at_55) rfl rfl ?_
    refine g_iconst X12 hx (r := (3 : Int32)) (hb hby at_57) rfl rfl ?_
    refine g_icmpY X12 hx (q := 73) (hb hby at_58) (XT.ii_lt_t (by decide : (1 : Int32) < (3 : Int32))) (by decide) (by decide) ?_
    refine g_aload X12 hx (hb hby at_73) rfl rfl rfl ?_
    refine g_iload X12 hx (hb hby at_75) rfl rfl ?_
    refine g_bipush X12 hx (r := (10 : Int32)) (hb hby at_77) rfl rfl ?_
    refine g_bastore X12 hx hZ e12 Vn12 ⟨by decide, by decide⟩ (Nat.le_of_ble_eq_true rfl) (hb hby at_79) rfl fun T13 h13 X13 e13 W13 V13 => ?_
    have Vn13 : Arv Z h13 b8 ka8 .byte (2 : Int32) [(.int (p1.toInt8.toInt32)), (.int (10 : Int32))] (.int (0 : Int32)) := V13
    have N13 := Fr.snoc X13 N12 g_b8
    have Z13 : n0 ≤ h13.size := by rw [W13.size]; exact Z12
    refine g_iload X13 hx (hb hby at_80) rfl rfl ?_
    refine g_ifY X13 hx (q := 91) (hb hby at_82) (XT.i0_ne_t (by decide : ¬ (1 : Int32) = (0 : Int32))) (by decide) (by decide) ?_
    refine g_iload X13 hx (hb hby at_91) rfl rfl ?_
    refine g_iconst X13 hx (r := (1 : Int32)) (hb hby at_93) rfl rfl ?_
    refine g_icmpN X13 hx (hb hby at_94) rfl (XT.ii_ne_f (by decide : (1 : Int32) = (1 : Int32))) ?_
    refine g_iloadN X13 hx (hb hby at_97) rfl rfl ?_
    refine g_istore X13 hx (Ls' := #[.val (.int p0), .val (.int p1), .val (.int p2), .val (.int p3), .val (.int (1 : Int32)), .val (.ref b7), .val (.ref b8), .val (.int p1), .unset, .unset, .unset]) (hb hby at_98) rfl rfl ?_
    refine g_goto X13 hx (q := 118) (hb hby at_100) (by decide) (by decide) ?_
    refine g_iload X13 hx (hb hby at_118) rfl rfl ?_
    refine g_ifN X13 hx (hb hby at_120) rfl (XT.i0_eq_f (by decide : ¬ (1 : Int32) = (0 : Int32))) ?_
    refine g_iload X13 hx (hb hby at_123) rfl rfl ?_
    refine g_sipush X13 hx (r := (255 : Int32)) (hb hby at_125) rfl rfl ?_
    refine g_iand X13 hx (hb hby at_128) rfl rfl ?_
    refine g_bipush X13 hx (r := (10 : Int32)) (hb hby at_129) rfl rfl ?_
    by_cases hc131 : (p1 &&& (255 : Int32)) = (10 : Int32)
    · skip
      refine g_icmpN X13 hx (hb hby at_131) rfl (XT.ii_ne_f hc131) ?_
      refine g_iconst X13 hx (r := (1 : Int32)) (hb hby at_134) rfl rfl ?_
      refine g_goto X13 hx (q := 139) (hb hby at_135) (by decide) (by decide) ?_
      refine g_istore X13 hx (Ls' := #[.val (.int p0), .val (.int p1), .val (.int p2), .val (.int p3), .val (.int (1 : Int32)), .val (.ref b7), .val (.ref b8), .val (.int p1), .val (.int (1 : Int32)), .unset, .unset]) (hb hby at_139) rfl rfl ?_
      refine g_aload X13 hx (hb hby at_141) rfl rfl rfl ?_
      have f15 : Arv Z h13 b7 ka7 .byte (1 : Int32) [(.int (p1.toInt8.toInt32))] (.int (0 : Int32)) := ((Vn10.other W12 ne_b7_b8).other W13 ne_b7_b8)
      refine g_static X13 hx hZ hown (hw _ (List.mem_of_getElem? (i := 1) rfl)) (hw _ (List.mem_of_getElem? (i := 2) rfl)) (hw _ (List.mem_of_getElem? (i := 3) rfl)) (hw _ (List.mem_of_getElem? (i := 4) rfl)) (by decide) (rm_term l Z a0 hw b7 ka7 (1 : Int32) [(.int (p1.toInt8.toInt32))] (p1.toInt8.toInt32) h13 n0 Z13 f15 (by first | decide | assumption | rfl | (intro _; rfl)) (by first | decide | assumption | rfl | (intro _; rfl))) (by rw [hml]; rfl) e13 [(.ref b7)] rfl rfl (W := 0) (Nat.le_of_eq rfl) (by decide) (by decide) (by decide) (by decide) (lenOf pd_0 rfl) (hb hby at_143) rfl fun v14 T14 L14 X14 hQ14 => ?_
      obtain ⟨r_14, rfl, Nq14, eh14, p14_0⟩ := hQ14
      have N14 := Fr.app N13 Nq14
      have hr_14 := p14_0
      show Ga _ _ _ _ _ _ _ _ _ _ _ [(.int r_14)]
      refine g_istore X14 hx (Ls' := #[.val (.int p0), .val (.int p1), .val (.int p2), .val (.int p3), .val (.int (1 : Int32)), .val (.ref b7), .val (.ref b8), .val (.int p1), .val (.int (1 : Int32)), .val (.int r_14), .unset]) (hb hby at_146) rfl rfl ?_
      refine g_aload X14 hx (hb hby at_148) rfl rfl rfl ?_
      refine g_static X14 hx hZ hown (hw _ (List.mem_of_getElem? (i := 1) rfl)) (hw _ (List.mem_of_getElem? (i := 2) rfl)) (hw _ (List.mem_of_getElem? (i := 3) rfl)) (hw _ (List.mem_of_getElem? (i := 4) rfl)) (by decide) (rm_term l Z a0 hw b8 ka8 (2 : Int32) [(.int (p1.toInt8.toInt32)), (.int (10 : Int32))] (10 : Int32) h13 n0 Z13 Vn13 (by first | decide | assumption | rfl | (intro _; rfl)) (by first | decide | assumption | rfl | (intro _; rfl))) (by rw [hml]; rfl) eh14 [(.ref b8)] rfl rfl (W := 0) (Nat.le_of_eq rfl) (by decide) (by decide) (by decide) (by decide) (lenOf pd_0 rfl) (hb hby at_150) rfl fun v16 T16 L16 X16 hQ16 => ?_
      obtain ⟨r_16, rfl, Nq16, eh16, p16_0⟩ := hQ16
      have N16 := Fr.app N14 Nq16
      have hr_16 := p16_0
      show Ga _ _ _ _ _ _ _ _ _ _ _ [(.int r_16)]
      refine g_istore X16 hx (Ls' := #[.val (.int p0), .val (.int p1), .val (.int p2), .val (.int p3), .val (.int (1 : Int32)), .val (.ref b7), .val (.ref b8), .val (.int p1), .val (.int (1 : Int32)), .val (.int r_14), .val (.int r_16)]) (hb hby at_153) rfl rfl ?_
      have hg1 : r_14 = (1 : Int32) := by
        rcases hr_14 with ⟨h, -⟩ | ⟨-, ⟨-, h⟩ | ⟨h, -⟩⟩
        · exact absurd (by decide) h
        · exact h
        · exact absurd ((own_bytes _).mp hc131) h
      have hg2 : r_16 = (1 : Int32) := by
        rcases hr_16 with ⟨h, -⟩ | ⟨-, ⟨-, h⟩ | ⟨h, -⟩⟩
        · exact absurd (by decide) h
        · exact h
        · exact absurd rfl h
      subst hg1 hg2
      refine g_iload X16 hx (hb hby at_155) rfl rfl ?_
      refine g_iload X16 hx (hb hby at_157) rfl rfl ?_
      refine g_icmpN X16 hx (hb hby at_159) rfl (XT.ii_ne_f (by decide : (1 : Int32) = (1 : Int32))) ?_
      refine g_iload X16 hx (hb hby at_162) rfl rfl ?_
      refine g_ifN X16 hx (hb hby at_164) rfl (XT.i0_eq_f (by decide : ¬ (1 : Int32) = (0 : Int32))) ?_
      refine g_iconst X16 hx (r := (1 : Int32)) (hb hby at_167) rfl rfl ?_
      refine g_goto X16 hx (q := 172) (hb hby at_168) (by decide) (by decide) ?_
      exact g_retN X16 hx (t := .boolean) (r := (1 : Int32)) hret (by simp) hlk (hb hby at_172) rfl (by decide) (by decide) (by rw [eh16]; exact ⟨rfl, N16⟩)
    · skip
      refine g_icmpY X13 hx (q := 138) (hb hby at_131) (XT.ii_ne_t hc131) (by decide) (by decide) ?_
      refine g_iconst X13 hx (r := (0 : Int32)) (hb hby at_138) rfl rfl ?_
      refine g_istore X13 hx (Ls' := #[.val (.int p0), .val (.int p1), .val (.int p2), .val (.int p3), .val (.int (1 : Int32)), .val (.ref b7), .val (.ref b8), .val (.int p1), .val (.int (0 : Int32)), .unset, .unset]) (hb hby at_139) rfl rfl ?_
      refine g_aload X13 hx (hb hby at_141) rfl rfl rfl ?_
      have f18 : Arv Z h13 b7 ka7 .byte (1 : Int32) [(.int (p1.toInt8.toInt32))] (.int (0 : Int32)) := ((Vn10.other W12 ne_b7_b8).other W13 ne_b7_b8)
      refine g_static X13 hx hZ hown (hw _ (List.mem_of_getElem? (i := 1) rfl)) (hw _ (List.mem_of_getElem? (i := 2) rfl)) (hw _ (List.mem_of_getElem? (i := 3) rfl)) (hw _ (List.mem_of_getElem? (i := 4) rfl)) (by decide) (rm_term l Z a0 hw b7 ka7 (1 : Int32) [(.int (p1.toInt8.toInt32))] (p1.toInt8.toInt32) h13 n0 Z13 f18 (by first | decide | assumption | rfl | (intro _; rfl)) (by first | decide | assumption | rfl | (intro _; rfl))) (by rw [hml]; rfl) e13 [(.ref b7)] rfl rfl (W := 0) (Nat.le_of_eq rfl) (by decide) (by decide) (by decide) (by decide) (lenOf pd_0 rfl) (hb hby at_143) rfl fun v17 T17 L17 X17 hQ17 => ?_
      obtain ⟨r_17, rfl, Nq17, eh17, p17_0⟩ := hQ17
      have N17 := Fr.app N13 Nq17
      have hr_17 := p17_0
      show Ga _ _ _ _ _ _ _ _ _ _ _ [(.int r_17)]
      refine g_istore X17 hx (Ls' := #[.val (.int p0), .val (.int p1), .val (.int p2), .val (.int p3), .val (.int (1 : Int32)), .val (.ref b7), .val (.ref b8), .val (.int p1), .val (.int (0 : Int32)), .val (.int r_17), .unset]) (hb hby at_146) rfl rfl ?_
      refine g_aload X17 hx (hb hby at_148) rfl rfl rfl ?_
      refine g_static X17 hx hZ hown (hw _ (List.mem_of_getElem? (i := 1) rfl)) (hw _ (List.mem_of_getElem? (i := 2) rfl)) (hw _ (List.mem_of_getElem? (i := 3) rfl)) (hw _ (List.mem_of_getElem? (i := 4) rfl)) (by decide) (rm_term l Z a0 hw b8 ka8 (2 : Int32) [(.int (p1.toInt8.toInt32)), (.int (10 : Int32))] (10 : Int32) h13 n0 Z13 Vn13 (by first | decide | assumption | rfl | (intro _; rfl)) (by first | decide | assumption | rfl | (intro _; rfl))) (by rw [hml]; rfl) eh17 [(.ref b8)] rfl rfl (W := 0) (Nat.le_of_eq rfl) (by decide) (by decide) (by decide) (by decide) (lenOf pd_0 rfl) (hb hby at_150) rfl fun v19 T19 L19 X19 hQ19 => ?_
      obtain ⟨r_19, rfl, Nq19, eh19, p19_0⟩ := hQ19
      have N19 := Fr.app N17 Nq19
      have hr_19 := p19_0
      show Ga _ _ _ _ _ _ _ _ _ _ _ [(.int r_19)]
      refine g_istore X19 hx (Ls' := #[.val (.int p0), .val (.int p1), .val (.int p2), .val (.int p3), .val (.int (1 : Int32)), .val (.ref b7), .val (.ref b8), .val (.int p1), .val (.int (0 : Int32)), .val (.int r_17), .val (.int r_19)]) (hb hby at_153) rfl rfl ?_
      have hg1 : r_17 = (0 : Int32) := by
        rcases hr_17 with ⟨h, -⟩ | ⟨-, ⟨h, -⟩ | ⟨-, h⟩⟩
        · exact absurd (by decide) h
        · exact absurd ((own_bytes _).mpr h) hc131
        · exact h
      have hg2 : r_19 = (1 : Int32) := by
        rcases hr_19 with ⟨h, -⟩ | ⟨-, ⟨-, h⟩ | ⟨h, -⟩⟩
        · exact absurd (by decide) h
        · exact h
        · exact absurd rfl h
      subst hg1 hg2
      refine g_iload X19 hx (hb hby at_155) rfl rfl ?_
      refine g_iload X19 hx (hb hby at_157) rfl rfl ?_
      refine g_icmpN X19 hx (hb hby at_159) rfl (XT.ii_ne_f (by decide : (0 : Int32) = (0 : Int32))) ?_
      refine g_iload X19 hx (hb hby at_162) rfl rfl ?_
      refine g_ifN X19 hx (hb hby at_164) rfl (XT.i0_eq_f (by decide : ¬ (1 : Int32) = (0 : Int32))) ?_
      refine g_iconst X19 hx (r := (1 : Int32)) (hb hby at_167) rfl rfl ?_
      refine g_goto X19 hx (q := 172) (hb hby at_168) (by decide) (by decide) ?_
      exact g_retN X19 hx (t := .boolean) (r := (1 : Int32)) hret (by simp) hlk (hb hby at_172) rfl (by decide) (by decide) (by rw [eh19]; exact ⟨rfl, N19⟩)
  · skip
    refine g_iload X0 hx (hb hby at_5) rfl rfl ?_
    refine g_newarray X0 hx hZ (aty := .byte) (hw _ (List.mem_of_getElem? (i := 0) rfl)) e0 (by decide) 2 (by decide) (by decide) (by decide) (by decide) (ad := "[B") (by decide) (hb hby at_7) rfl fun T20 h20 b20 ka20 X20 e20 q20 E20 A20 V20 => ?_
    have g_b20 : n0 ≤ b20 := Nat.le_trans Z0 (Nat.le_of_eq q20.symm)
    have Z20 : n0 ≤ h20.size := Nat.le_trans Z0 E20.1
    have Vn20 : Arv Z h20 b20 ka20 .byte (2 : Int32) [(.int (0 : Int32)), (.int (0 : Int32))] (.int (0 : Int32)) := V20
    refine g_astore X20 hx (Ls' := #[.val (.int p0), .val (.int p1), .val (.int p2), .val (.int p3), .val (.int (2 : Int32)), .val (.ref b20), .unset, .unset, .unset, .unset, .unset]) (hb hby at_9) rfl rfl rfl ?_
    refine g_iload X20 hx (hb hby at_11) rfl rfl ?_
    refine g_iconst X20 hx (r := (1 : Int32)) (hb hby at_13) rfl rfl ?_
    refine g_iadd X20 hx (r := (3 : Int32)) (hb hby at_14) rfl rfl ?_
    refine g_newarray X20 hx hZ (aty := .byte) (hw _ (List.mem_of_getElem? (i := 0) rfl)) e20 (by decide) 3 (by decide) (by decide) (by decide) (by decide) (ad := "[B") (by decide) (hb hby at_15) rfl fun T21 h21 b21 ka21 X21 e21 q21 E21 A21 V21 => ?_
    have ne_b20_b21 : b20 ≠ b21 := own_ne Vn20.lt q21
    have g_b21 : n0 ≤ b21 := Nat.le_trans Z20 (Nat.le_of_eq q21.symm)
    have Z21 : n0 ≤ h21.size := Nat.le_trans Z20 E21.1
    have Vn21 : Arv Z h21 b21 ka21 .byte (3 : Int32) [(.int (0 : Int32)), (.int (0 : Int32)), (.int (0 : Int32))] (.int (0 : Int32)) := V21
    refine g_astore X21 hx (Ls' := #[.val (.int p0), .val (.int p1), .val (.int p2), .val (.int p3), .val (.int (2 : Int32)), .val (.ref b20), .val (.ref b21), .unset, .unset, .unset, .unset]) (hb hby at_17) rfl rfl rfl ?_
    refine g_iload X21 hx (hb hby at_19) rfl rfl ?_
    refine g_iconst X21 hx (r := (1 : Int32)) (hb hby at_21) rfl rfl ?_
    refine g_icmpN X21 hx (hb hby at_22) rfl (XT.ii_lt_f (by decide : ¬ (2 : Int32) < (1 : Int32))) ?_
    refine g_aload X21 hx (hb hby at_25) rfl rfl rfl ?_
    refine g_iconst X21 hx (r := (0 : Int32)) (hb hby at_27) rfl rfl ?_
    refine g_iloadN X21 hx (hb hby at_28) rfl rfl ?_
    refine g_i2b X21 hx (hb hby at_29) rfl rfl ?_
    have f22 : Arv Z h21 b20 ka20 .byte (2 : Int32) [(.int (0 : Int32)), (.int (0 : Int32))] (.int (0 : Int32)) := (Vn20.ext E21)
    refine g_bastore X21 hx hZ e21 f22 ⟨by decide, by decide⟩ (Nat.le_of_ble_eq_true rfl) (hb hby at_30) rfl fun T23 h23 X23 e23 W23 V23 => ?_
    rw [own_nar, own_bb] at V23
    have Vn23 : Arv Z h23 b20 ka20 .byte (2 : Int32) [(.int (p1.toInt8.toInt32)), (.int (0 : Int32))] (.int (0 : Int32)) := V23
    have N23 := Fr.snoc X23 N0 g_b20
    have Z23 : n0 ≤ h23.size := by rw [W23.size]; exact Z21
    refine g_aload X23 hx (hb hby at_31) rfl rfl rfl ?_
    refine g_iconst X23 hx (r := (0 : Int32)) (hb hby at_33) rfl rfl ?_
    refine g_iloadN X23 hx (hb hby at_34) rfl rfl ?_
    refine g_i2b X23 hx (hb hby at_35) rfl rfl ?_
    have f24 : Arv Z h23 b21 ka21 .byte (3 : Int32) [(.int (0 : Int32)), (.int (0 : Int32)), (.int (0 : Int32))] (.int (0 : Int32)) := (Vn21.other W23 (Ne.symm ne_b20_b21))
    refine g_bastore X23 hx hZ e23 f24 ⟨by decide, by decide⟩ (Nat.le_of_ble_eq_true rfl) (hb hby at_36) rfl fun T25 h25 X25 e25 W25 V25 => ?_
    rw [own_nar, own_bb] at V25
    have Vn25 : Arv Z h25 b21 ka21 .byte (3 : Int32) [(.int (p1.toInt8.toInt32)), (.int (0 : Int32)), (.int (0 : Int32))] (.int (0 : Int32)) := V25
    have N25 := Fr.snoc X25 N23 g_b21
    have Z25 : n0 ≤ h25.size := by rw [W25.size]; exact Z23
    refine g_iload X25 hx (hb hby at_37) rfl rfl ?_
    refine g_iconst X25 hx (r := (2 : Int32)) (hb hby at_39) rfl rfl ?_
    refine g_icmpN X25 hx (hb hby at_40) rfl (XT.ii_lt_f (by decide : ¬ (2 : Int32) < (2 : Int32))) ?_
    refine g_aload X25 hx (hb hby at_43) rfl rfl rfl ?_
    refine g_iconst X25 hx (r := (1 : Int32)) (hb hby at_45) rfl rfl ?_
    refine g_iloadN X25 hx (hb hby at_46) rfl rfl ?_
    refine g_i2b X25 hx (hb hby at_47) rfl rfl ?_
    have f26 : Arv Z h25 b20 ka20 .byte (2 : Int32) [(.int (p1.toInt8.toInt32)), (.int (0 : Int32))] (.int (0 : Int32)) := (Vn23.other W25 ne_b20_b21)
    refine g_bastore X25 hx hZ e25 f26 ⟨by decide, by decide⟩ (Nat.le_of_ble_eq_true rfl) (hb hby at_48) rfl fun T27 h27 X27 e27 W27 V27 => ?_
    rw [own_nar, own_bb] at V27
    have Vn27 : Arv Z h27 b20 ka20 .byte (2 : Int32) [(.int (p1.toInt8.toInt32)), (.int (p2.toInt8.toInt32))] (.int (0 : Int32)) := V27
    have N27 := Fr.snoc X27 N25 g_b20
    have Z27 : n0 ≤ h27.size := by rw [W27.size]; exact Z25
    refine g_aload X27 hx (hb hby at_49) rfl rfl rfl ?_
    refine g_iconst X27 hx (r := (1 : Int32)) (hb hby at_51) rfl rfl ?_
    refine g_iloadN X27 hx (hb hby at_52) rfl rfl ?_
    refine g_i2b X27 hx (hb hby at_53) rfl rfl ?_
    have f28 : Arv Z h27 b21 ka21 .byte (3 : Int32) [(.int (p1.toInt8.toInt32)), (.int (0 : Int32)), (.int (0 : Int32))] (.int (0 : Int32)) := (Vn25.other W27 (Ne.symm ne_b20_b21))
    refine g_bastore X27 hx hZ e27 f28 ⟨by decide, by decide⟩ (Nat.le_of_ble_eq_true rfl) (hb hby at_54) rfl fun T29 h29 X29 e29 W29 V29 => ?_
    rw [own_nar, own_bb] at V29
    have Vn29 : Arv Z h29 b21 ka21 .byte (3 : Int32) [(.int (p1.toInt8.toInt32)), (.int (p2.toInt8.toInt32)), (.int (0 : Int32))] (.int (0 : Int32)) := V29
    have N29 := Fr.snoc X29 N27 g_b21
    have Z29 : n0 ≤ h29.size := by rw [W29.size]; exact Z27
    refine g_iload X29 hx (hb hby at_55) rfl rfl ?_
    refine g_iconst X29 hx (r := (3 : Int32)) (hb hby at_57) rfl rfl ?_
    refine g_icmpY X29 hx (q := 73) (hb hby at_58) (XT.ii_lt_t (by decide : (2 : Int32) < (3 : Int32))) (by decide) (by decide) ?_
    refine g_aload X29 hx (hb hby at_73) rfl rfl rfl ?_
    refine g_iload X29 hx (hb hby at_75) rfl rfl ?_
    refine g_bipush X29 hx (r := (10 : Int32)) (hb hby at_77) rfl rfl ?_
    refine g_bastore X29 hx hZ e29 Vn29 ⟨by decide, by decide⟩ (Nat.le_of_ble_eq_true rfl) (hb hby at_79) rfl fun T30 h30 X30 e30 W30 V30 => ?_
    have Vn30 : Arv Z h30 b21 ka21 .byte (3 : Int32) [(.int (p1.toInt8.toInt32)), (.int (p2.toInt8.toInt32)), (.int (10 : Int32))] (.int (0 : Int32)) := V30
    have N30 := Fr.snoc X30 N29 g_b21
    have Z30 : n0 ≤ h30.size := by rw [W30.size]; exact Z29
    refine g_iload X30 hx (hb hby at_80) rfl rfl ?_
    refine g_ifY X30 hx (q := 91) (hb hby at_82) (XT.i0_ne_t (by decide : ¬ (2 : Int32) = (0 : Int32))) (by decide) (by decide) ?_
    refine g_iload X30 hx (hb hby at_91) rfl rfl ?_
    refine g_iconst X30 hx (r := (1 : Int32)) (hb hby at_93) rfl rfl ?_
    refine g_icmpY X30 hx (q := 103) (hb hby at_94) (XT.ii_ne_t (by decide : ¬ (2 : Int32) = (1 : Int32))) (by decide) (by decide) ?_
    refine g_iload X30 hx (hb hby at_103) rfl rfl ?_
    refine g_iconst X30 hx (r := (2 : Int32)) (hb hby at_105) rfl rfl ?_
    refine g_icmpN X30 hx (hb hby at_106) rfl (XT.ii_ne_f (by decide : (2 : Int32) = (2 : Int32))) ?_
    refine g_iloadN X30 hx (hb hby at_109) rfl rfl ?_
    refine g_istore X30 hx (Ls' := #[.val (.int p0), .val (.int p1), .val (.int p2), .val (.int p3), .val (.int (2 : Int32)), .val (.ref b20), .val (.ref b21), .val (.int p2), .unset, .unset, .unset]) (hb hby at_110) rfl rfl ?_
    refine g_goto X30 hx (q := 118) (hb hby at_112) (by decide) (by decide) ?_
    refine g_iload X30 hx (hb hby at_118) rfl rfl ?_
    refine g_ifN X30 hx (hb hby at_120) rfl (XT.i0_eq_f (by decide : ¬ (2 : Int32) = (0 : Int32))) ?_
    refine g_iload X30 hx (hb hby at_123) rfl rfl ?_
    refine g_sipush X30 hx (r := (255 : Int32)) (hb hby at_125) rfl rfl ?_
    refine g_iand X30 hx (hb hby at_128) rfl rfl ?_
    refine g_bipush X30 hx (r := (10 : Int32)) (hb hby at_129) rfl rfl ?_
    by_cases hc131 : (p2 &&& (255 : Int32)) = (10 : Int32)
    · skip
      refine g_icmpN X30 hx (hb hby at_131) rfl (XT.ii_ne_f hc131) ?_
      refine g_iconst X30 hx (r := (1 : Int32)) (hb hby at_134) rfl rfl ?_
      refine g_goto X30 hx (q := 139) (hb hby at_135) (by decide) (by decide) ?_
      refine g_istore X30 hx (Ls' := #[.val (.int p0), .val (.int p1), .val (.int p2), .val (.int p3), .val (.int (2 : Int32)), .val (.ref b20), .val (.ref b21), .val (.int p2), .val (.int (1 : Int32)), .unset, .unset]) (hb hby at_139) rfl rfl ?_
      refine g_aload X30 hx (hb hby at_141) rfl rfl rfl ?_
      have f32 : Arv Z h30 b20 ka20 .byte (2 : Int32) [(.int (p1.toInt8.toInt32)), (.int (p2.toInt8.toInt32))] (.int (0 : Int32)) := ((Vn27.other W29 ne_b20_b21).other W30 ne_b20_b21)
      refine g_static X30 hx hZ hown (hw _ (List.mem_of_getElem? (i := 1) rfl)) (hw _ (List.mem_of_getElem? (i := 2) rfl)) (hw _ (List.mem_of_getElem? (i := 3) rfl)) (hw _ (List.mem_of_getElem? (i := 4) rfl)) (by decide) (rm_term l Z a0 hw b20 ka20 (2 : Int32) [(.int (p1.toInt8.toInt32)), (.int (p2.toInt8.toInt32))] (p2.toInt8.toInt32) h30 n0 Z30 f32 (by first | decide | assumption | rfl | (intro _; rfl)) (by first | decide | assumption | rfl | (intro _; rfl))) (by rw [hml]; rfl) e30 [(.ref b20)] rfl rfl (W := 0) (Nat.le_of_eq rfl) (by decide) (by decide) (by decide) (by decide) (lenOf pd_0 rfl) (hb hby at_143) rfl fun v31 T31 L31 X31 hQ31 => ?_
      obtain ⟨r_31, rfl, Nq31, eh31, p31_0⟩ := hQ31
      have N31 := Fr.app N30 Nq31
      have hr_31 := p31_0
      show Ga _ _ _ _ _ _ _ _ _ _ _ [(.int r_31)]
      refine g_istore X31 hx (Ls' := #[.val (.int p0), .val (.int p1), .val (.int p2), .val (.int p3), .val (.int (2 : Int32)), .val (.ref b20), .val (.ref b21), .val (.int p2), .val (.int (1 : Int32)), .val (.int r_31), .unset]) (hb hby at_146) rfl rfl ?_
      refine g_aload X31 hx (hb hby at_148) rfl rfl rfl ?_
      refine g_static X31 hx hZ hown (hw _ (List.mem_of_getElem? (i := 1) rfl)) (hw _ (List.mem_of_getElem? (i := 2) rfl)) (hw _ (List.mem_of_getElem? (i := 3) rfl)) (hw _ (List.mem_of_getElem? (i := 4) rfl)) (by decide) (rm_term l Z a0 hw b21 ka21 (3 : Int32) [(.int (p1.toInt8.toInt32)), (.int (p2.toInt8.toInt32)), (.int (10 : Int32))] (10 : Int32) h30 n0 Z30 Vn30 (by first | decide | assumption | rfl | (intro _; rfl)) (by first | decide | assumption | rfl | (intro _; rfl))) (by rw [hml]; rfl) eh31 [(.ref b21)] rfl rfl (W := 0) (Nat.le_of_eq rfl) (by decide) (by decide) (by decide) (by decide) (lenOf pd_0 rfl) (hb hby at_150) rfl fun v33 T33 L33 X33 hQ33 => ?_
      obtain ⟨r_33, rfl, Nq33, eh33, p33_0⟩ := hQ33
      have N33 := Fr.app N31 Nq33
      have hr_33 := p33_0
      show Ga _ _ _ _ _ _ _ _ _ _ _ [(.int r_33)]
      refine g_istore X33 hx (Ls' := #[.val (.int p0), .val (.int p1), .val (.int p2), .val (.int p3), .val (.int (2 : Int32)), .val (.ref b20), .val (.ref b21), .val (.int p2), .val (.int (1 : Int32)), .val (.int r_31), .val (.int r_33)]) (hb hby at_153) rfl rfl ?_
      have hg1 : r_31 = (1 : Int32) := by
        rcases hr_31 with ⟨h, -⟩ | ⟨-, ⟨-, h⟩ | ⟨h, -⟩⟩
        · exact absurd (by decide) h
        · exact h
        · exact absurd ((own_bytes _).mp hc131) h
      have hg2 : r_33 = (1 : Int32) := by
        rcases hr_33 with ⟨h, -⟩ | ⟨-, ⟨-, h⟩ | ⟨h, -⟩⟩
        · exact absurd (by decide) h
        · exact h
        · exact absurd rfl h
      subst hg1 hg2
      refine g_iload X33 hx (hb hby at_155) rfl rfl ?_
      refine g_iload X33 hx (hb hby at_157) rfl rfl ?_
      refine g_icmpN X33 hx (hb hby at_159) rfl (XT.ii_ne_f (by decide : (1 : Int32) = (1 : Int32))) ?_
      refine g_iload X33 hx (hb hby at_162) rfl rfl ?_
      refine g_ifN X33 hx (hb hby at_164) rfl (XT.i0_eq_f (by decide : ¬ (1 : Int32) = (0 : Int32))) ?_
      refine g_iconst X33 hx (r := (1 : Int32)) (hb hby at_167) rfl rfl ?_
      refine g_goto X33 hx (q := 172) (hb hby at_168) (by decide) (by decide) ?_
      exact g_retN X33 hx (t := .boolean) (r := (1 : Int32)) hret (by simp) hlk (hb hby at_172) rfl (by decide) (by decide) (by rw [eh33]; exact ⟨rfl, N33⟩)
    · skip
      refine g_icmpY X30 hx (q := 138) (hb hby at_131) (XT.ii_ne_t hc131) (by decide) (by decide) ?_
      refine g_iconst X30 hx (r := (0 : Int32)) (hb hby at_138) rfl rfl ?_
      refine g_istore X30 hx (Ls' := #[.val (.int p0), .val (.int p1), .val (.int p2), .val (.int p3), .val (.int (2 : Int32)), .val (.ref b20), .val (.ref b21), .val (.int p2), .val (.int (0 : Int32)), .unset, .unset]) (hb hby at_139) rfl rfl ?_
      refine g_aload X30 hx (hb hby at_141) rfl rfl rfl ?_
      have f35 : Arv Z h30 b20 ka20 .byte (2 : Int32) [(.int (p1.toInt8.toInt32)), (.int (p2.toInt8.toInt32))] (.int (0 : Int32)) := ((Vn27.other W29 ne_b20_b21).other W30 ne_b20_b21)
      refine g_static X30 hx hZ hown (hw _ (List.mem_of_getElem? (i := 1) rfl)) (hw _ (List.mem_of_getElem? (i := 2) rfl)) (hw _ (List.mem_of_getElem? (i := 3) rfl)) (hw _ (List.mem_of_getElem? (i := 4) rfl)) (by decide) (rm_term l Z a0 hw b20 ka20 (2 : Int32) [(.int (p1.toInt8.toInt32)), (.int (p2.toInt8.toInt32))] (p2.toInt8.toInt32) h30 n0 Z30 f35 (by first | decide | assumption | rfl | (intro _; rfl)) (by first | decide | assumption | rfl | (intro _; rfl))) (by rw [hml]; rfl) e30 [(.ref b20)] rfl rfl (W := 0) (Nat.le_of_eq rfl) (by decide) (by decide) (by decide) (by decide) (lenOf pd_0 rfl) (hb hby at_143) rfl fun v34 T34 L34 X34 hQ34 => ?_
      obtain ⟨r_34, rfl, Nq34, eh34, p34_0⟩ := hQ34
      have N34 := Fr.app N30 Nq34
      have hr_34 := p34_0
      show Ga _ _ _ _ _ _ _ _ _ _ _ [(.int r_34)]
      refine g_istore X34 hx (Ls' := #[.val (.int p0), .val (.int p1), .val (.int p2), .val (.int p3), .val (.int (2 : Int32)), .val (.ref b20), .val (.ref b21), .val (.int p2), .val (.int (0 : Int32)), .val (.int r_34), .unset]) (hb hby at_146) rfl rfl ?_
      refine g_aload X34 hx (hb hby at_148) rfl rfl rfl ?_
      refine g_static X34 hx hZ hown (hw _ (List.mem_of_getElem? (i := 1) rfl)) (hw _ (List.mem_of_getElem? (i := 2) rfl)) (hw _ (List.mem_of_getElem? (i := 3) rfl)) (hw _ (List.mem_of_getElem? (i := 4) rfl)) (by decide) (rm_term l Z a0 hw b21 ka21 (3 : Int32) [(.int (p1.toInt8.toInt32)), (.int (p2.toInt8.toInt32)), (.int (10 : Int32))] (10 : Int32) h30 n0 Z30 Vn30 (by first | decide | assumption | rfl | (intro _; rfl)) (by first | decide | assumption | rfl | (intro _; rfl))) (by rw [hml]; rfl) eh34 [(.ref b21)] rfl rfl (W := 0) (Nat.le_of_eq rfl) (by decide) (by decide) (by decide) (by decide) (lenOf pd_0 rfl) (hb hby at_150) rfl fun v36 T36 L36 X36 hQ36 => ?_
      obtain ⟨r_36, rfl, Nq36, eh36, p36_0⟩ := hQ36
      have N36 := Fr.app N34 Nq36
      have hr_36 := p36_0
      show Ga _ _ _ _ _ _ _ _ _ _ _ [(.int r_36)]
      refine g_istore X36 hx (Ls' := #[.val (.int p0), .val (.int p1), .val (.int p2), .val (.int p3), .val (.int (2 : Int32)), .val (.ref b20), .val (.ref b21), .val (.int p2), .val (.int (0 : Int32)), .val (.int r_34), .val (.int r_36)]) (hb hby at_153) rfl rfl ?_
      have hg1 : r_34 = (0 : Int32) := by
        rcases hr_34 with ⟨h, -⟩ | ⟨-, ⟨h, -⟩ | ⟨-, h⟩⟩
        · exact absurd (by decide) h
        · exact absurd ((own_bytes _).mpr h) hc131
        · exact h
      have hg2 : r_36 = (1 : Int32) := by
        rcases hr_36 with ⟨h, -⟩ | ⟨-, ⟨-, h⟩ | ⟨h, -⟩⟩
        · exact absurd (by decide) h
        · exact h
        · exact absurd rfl h
      subst hg1 hg2
      refine g_iload X36 hx (hb hby at_155) rfl rfl ?_
      refine g_iload X36 hx (hb hby at_157) rfl rfl ?_
      refine g_icmpN X36 hx (hb hby at_159) rfl (XT.ii_ne_f (by decide : (0 : Int32) = (0 : Int32))) ?_
      refine g_iload X36 hx (hb hby at_162) rfl rfl ?_
      refine g_ifN X36 hx (hb hby at_164) rfl (XT.i0_eq_f (by decide : ¬ (1 : Int32) = (0 : Int32))) ?_
      refine g_iconst X36 hx (r := (1 : Int32)) (hb hby at_167) rfl rfl ?_
      refine g_goto X36 hx (q := 172) (hb hby at_168) (by decide) (by decide) ?_
      exact g_retN X36 hx (t := .boolean) (r := (1 : Int32)) hret (by simp) hlk (hb hby at_172) rfl (by decide) (by decide) (by rw [eh36]; exact ⟨rfl, N36⟩)
  · skip
    refine g_iload X0 hx (hb hby at_5) rfl rfl ?_
    refine g_newarray X0 hx hZ (aty := .byte) (hw _ (List.mem_of_getElem? (i := 0) rfl)) e0 (by decide) 3 (by decide) (by decide) (by decide) (by decide) (ad := "[B") (by decide) (hb hby at_7) rfl fun T37 h37 b37 ka37 X37 e37 q37 E37 A37 V37 => ?_
    have g_b37 : n0 ≤ b37 := Nat.le_trans Z0 (Nat.le_of_eq q37.symm)
    have Z37 : n0 ≤ h37.size := Nat.le_trans Z0 E37.1
    have Vn37 : Arv Z h37 b37 ka37 .byte (3 : Int32) [(.int (0 : Int32)), (.int (0 : Int32)), (.int (0 : Int32))] (.int (0 : Int32)) := V37
    refine g_astore X37 hx (Ls' := #[.val (.int p0), .val (.int p1), .val (.int p2), .val (.int p3), .val (.int (3 : Int32)), .val (.ref b37), .unset, .unset, .unset, .unset, .unset]) (hb hby at_9) rfl rfl rfl ?_
    refine g_iload X37 hx (hb hby at_11) rfl rfl ?_
    refine g_iconst X37 hx (r := (1 : Int32)) (hb hby at_13) rfl rfl ?_
    refine g_iadd X37 hx (r := (4 : Int32)) (hb hby at_14) rfl rfl ?_
    refine g_newarray X37 hx hZ (aty := .byte) (hw _ (List.mem_of_getElem? (i := 0) rfl)) e37 (by decide) 4 (by decide) (by decide) (by decide) (by decide) (ad := "[B") (by decide) (hb hby at_15) rfl fun T38 h38 b38 ka38 X38 e38 q38 E38 A38 V38 => ?_
    have ne_b37_b38 : b37 ≠ b38 := own_ne Vn37.lt q38
    have g_b38 : n0 ≤ b38 := Nat.le_trans Z37 (Nat.le_of_eq q38.symm)
    have Z38 : n0 ≤ h38.size := Nat.le_trans Z37 E38.1
    have Vn38 : Arv Z h38 b38 ka38 .byte (4 : Int32) [(.int (0 : Int32)), (.int (0 : Int32)), (.int (0 : Int32)), (.int (0 : Int32))] (.int (0 : Int32)) := V38
    refine g_astore X38 hx (Ls' := #[.val (.int p0), .val (.int p1), .val (.int p2), .val (.int p3), .val (.int (3 : Int32)), .val (.ref b37), .val (.ref b38), .unset, .unset, .unset, .unset]) (hb hby at_17) rfl rfl rfl ?_
    refine g_iload X38 hx (hb hby at_19) rfl rfl ?_
    refine g_iconst X38 hx (r := (1 : Int32)) (hb hby at_21) rfl rfl ?_
    refine g_icmpN X38 hx (hb hby at_22) rfl (XT.ii_lt_f (by decide : ¬ (3 : Int32) < (1 : Int32))) ?_
    refine g_aload X38 hx (hb hby at_25) rfl rfl rfl ?_
    refine g_iconst X38 hx (r := (0 : Int32)) (hb hby at_27) rfl rfl ?_
    refine g_iloadN X38 hx (hb hby at_28) rfl rfl ?_
    refine g_i2b X38 hx (hb hby at_29) rfl rfl ?_
    have f39 : Arv Z h38 b37 ka37 .byte (3 : Int32) [(.int (0 : Int32)), (.int (0 : Int32)), (.int (0 : Int32))] (.int (0 : Int32)) := (Vn37.ext E38)
    refine g_bastore X38 hx hZ e38 f39 ⟨by decide, by decide⟩ (Nat.le_of_ble_eq_true rfl) (hb hby at_30) rfl fun T40 h40 X40 e40 W40 V40 => ?_
    rw [own_nar, own_bb] at V40
    have Vn40 : Arv Z h40 b37 ka37 .byte (3 : Int32) [(.int (p1.toInt8.toInt32)), (.int (0 : Int32)), (.int (0 : Int32))] (.int (0 : Int32)) := V40
    have N40 := Fr.snoc X40 N0 g_b37
    have Z40 : n0 ≤ h40.size := by rw [W40.size]; exact Z38
    refine g_aload X40 hx (hb hby at_31) rfl rfl rfl ?_
    refine g_iconst X40 hx (r := (0 : Int32)) (hb hby at_33) rfl rfl ?_
    refine g_iloadN X40 hx (hb hby at_34) rfl rfl ?_
    refine g_i2b X40 hx (hb hby at_35) rfl rfl ?_
    have f41 : Arv Z h40 b38 ka38 .byte (4 : Int32) [(.int (0 : Int32)), (.int (0 : Int32)), (.int (0 : Int32)), (.int (0 : Int32))] (.int (0 : Int32)) := (Vn38.other W40 (Ne.symm ne_b37_b38))
    refine g_bastore X40 hx hZ e40 f41 ⟨by decide, by decide⟩ (Nat.le_of_ble_eq_true rfl) (hb hby at_36) rfl fun T42 h42 X42 e42 W42 V42 => ?_
    rw [own_nar, own_bb] at V42
    have Vn42 : Arv Z h42 b38 ka38 .byte (4 : Int32) [(.int (p1.toInt8.toInt32)), (.int (0 : Int32)), (.int (0 : Int32)), (.int (0 : Int32))] (.int (0 : Int32)) := V42
    have N42 := Fr.snoc X42 N40 g_b38
    have Z42 : n0 ≤ h42.size := by rw [W42.size]; exact Z40
    refine g_iload X42 hx (hb hby at_37) rfl rfl ?_
    refine g_iconst X42 hx (r := (2 : Int32)) (hb hby at_39) rfl rfl ?_
    refine g_icmpN X42 hx (hb hby at_40) rfl (XT.ii_lt_f (by decide : ¬ (3 : Int32) < (2 : Int32))) ?_
    refine g_aload X42 hx (hb hby at_43) rfl rfl rfl ?_
    refine g_iconst X42 hx (r := (1 : Int32)) (hb hby at_45) rfl rfl ?_
    refine g_iloadN X42 hx (hb hby at_46) rfl rfl ?_
    refine g_i2b X42 hx (hb hby at_47) rfl rfl ?_
    have f43 : Arv Z h42 b37 ka37 .byte (3 : Int32) [(.int (p1.toInt8.toInt32)), (.int (0 : Int32)), (.int (0 : Int32))] (.int (0 : Int32)) := (Vn40.other W42 ne_b37_b38)
    refine g_bastore X42 hx hZ e42 f43 ⟨by decide, by decide⟩ (Nat.le_of_ble_eq_true rfl) (hb hby at_48) rfl fun T44 h44 X44 e44 W44 V44 => ?_
    rw [own_nar, own_bb] at V44
    have Vn44 : Arv Z h44 b37 ka37 .byte (3 : Int32) [(.int (p1.toInt8.toInt32)), (.int (p2.toInt8.toInt32)), (.int (0 : Int32))] (.int (0 : Int32)) := V44
    have N44 := Fr.snoc X44 N42 g_b37
    have Z44 : n0 ≤ h44.size := by rw [W44.size]; exact Z42
    refine g_aload X44 hx (hb hby at_49) rfl rfl rfl ?_
    refine g_iconst X44 hx (r := (1 : Int32)) (hb hby at_51) rfl rfl ?_
    refine g_iloadN X44 hx (hb hby at_52) rfl rfl ?_
    refine g_i2b X44 hx (hb hby at_53) rfl rfl ?_
    have f45 : Arv Z h44 b38 ka38 .byte (4 : Int32) [(.int (p1.toInt8.toInt32)), (.int (0 : Int32)), (.int (0 : Int32)), (.int (0 : Int32))] (.int (0 : Int32)) := (Vn42.other W44 (Ne.symm ne_b37_b38))
    refine g_bastore X44 hx hZ e44 f45 ⟨by decide, by decide⟩ (Nat.le_of_ble_eq_true rfl) (hb hby at_54) rfl fun T46 h46 X46 e46 W46 V46 => ?_
    rw [own_nar, own_bb] at V46
    have Vn46 : Arv Z h46 b38 ka38 .byte (4 : Int32) [(.int (p1.toInt8.toInt32)), (.int (p2.toInt8.toInt32)), (.int (0 : Int32)), (.int (0 : Int32))] (.int (0 : Int32)) := V46
    have N46 := Fr.snoc X46 N44 g_b38
    have Z46 : n0 ≤ h46.size := by rw [W46.size]; exact Z44
    refine g_iload X46 hx (hb hby at_55) rfl rfl ?_
    refine g_iconst X46 hx (r := (3 : Int32)) (hb hby at_57) rfl rfl ?_
    refine g_icmpN X46 hx (hb hby at_58) rfl (XT.ii_lt_f (by decide : ¬ (3 : Int32) < (3 : Int32))) ?_
    refine g_aload X46 hx (hb hby at_61) rfl rfl rfl ?_
    refine g_iconst X46 hx (r := (2 : Int32)) (hb hby at_63) rfl rfl ?_
    refine g_iloadN X46 hx (hb hby at_64) rfl rfl ?_
    refine g_i2b X46 hx (hb hby at_65) rfl rfl ?_
    have f47 : Arv Z h46 b37 ka37 .byte (3 : Int32) [(.int (p1.toInt8.toInt32)), (.int (p2.toInt8.toInt32)), (.int (0 : Int32))] (.int (0 : Int32)) := (Vn44.other W46 ne_b37_b38)
    refine g_bastore X46 hx hZ e46 f47 ⟨by decide, by decide⟩ (Nat.le_of_ble_eq_true rfl) (hb hby at_66) rfl fun T48 h48 X48 e48 W48 V48 => ?_
    rw [own_nar, own_bb] at V48
    have Vn48 : Arv Z h48 b37 ka37 .byte (3 : Int32) [(.int (p1.toInt8.toInt32)), (.int (p2.toInt8.toInt32)), (.int (p3.toInt8.toInt32))] (.int (0 : Int32)) := V48
    have N48 := Fr.snoc X48 N46 g_b37
    have Z48 : n0 ≤ h48.size := by rw [W48.size]; exact Z46
    refine g_aload X48 hx (hb hby at_67) rfl rfl rfl ?_
    refine g_iconst X48 hx (r := (2 : Int32)) (hb hby at_69) rfl rfl ?_
    refine g_iloadN X48 hx (hb hby at_70) rfl rfl ?_
    refine g_i2b X48 hx (hb hby at_71) rfl rfl ?_
    have f49 : Arv Z h48 b38 ka38 .byte (4 : Int32) [(.int (p1.toInt8.toInt32)), (.int (p2.toInt8.toInt32)), (.int (0 : Int32)), (.int (0 : Int32))] (.int (0 : Int32)) := (Vn46.other W48 (Ne.symm ne_b37_b38))
    refine g_bastore X48 hx hZ e48 f49 ⟨by decide, by decide⟩ (Nat.le_of_ble_eq_true rfl) (hb hby at_72) rfl fun T50 h50 X50 e50 W50 V50 => ?_
    rw [own_nar, own_bb] at V50
    have Vn50 : Arv Z h50 b38 ka38 .byte (4 : Int32) [(.int (p1.toInt8.toInt32)), (.int (p2.toInt8.toInt32)), (.int (p3.toInt8.toInt32)), (.int (0 : Int32))] (.int (0 : Int32)) := V50
    have N50 := Fr.snoc X50 N48 g_b38
    have Z50 : n0 ≤ h50.size := by rw [W50.size]; exact Z48
    refine g_aload X50 hx (hb hby at_73) rfl rfl rfl ?_
    refine g_iload X50 hx (hb hby at_75) rfl rfl ?_
    refine g_bipush X50 hx (r := (10 : Int32)) (hb hby at_77) rfl rfl ?_
    refine g_bastore X50 hx hZ e50 Vn50 ⟨by decide, by decide⟩ (Nat.le_of_ble_eq_true rfl) (hb hby at_79) rfl fun T51 h51 X51 e51 W51 V51 => ?_
    have Vn51 : Arv Z h51 b38 ka38 .byte (4 : Int32) [(.int (p1.toInt8.toInt32)), (.int (p2.toInt8.toInt32)), (.int (p3.toInt8.toInt32)), (.int (10 : Int32))] (.int (0 : Int32)) := V51
    have N51 := Fr.snoc X51 N50 g_b38
    have Z51 : n0 ≤ h51.size := by rw [W51.size]; exact Z50
    refine g_iload X51 hx (hb hby at_80) rfl rfl ?_
    refine g_ifY X51 hx (q := 91) (hb hby at_82) (XT.i0_ne_t (by decide : ¬ (3 : Int32) = (0 : Int32))) (by decide) (by decide) ?_
    refine g_iload X51 hx (hb hby at_91) rfl rfl ?_
    refine g_iconst X51 hx (r := (1 : Int32)) (hb hby at_93) rfl rfl ?_
    refine g_icmpY X51 hx (q := 103) (hb hby at_94) (XT.ii_ne_t (by decide : ¬ (3 : Int32) = (1 : Int32))) (by decide) (by decide) ?_
    refine g_iload X51 hx (hb hby at_103) rfl rfl ?_
    refine g_iconst X51 hx (r := (2 : Int32)) (hb hby at_105) rfl rfl ?_
    refine g_icmpY X51 hx (q := 115) (hb hby at_106) (XT.ii_ne_t (by decide : ¬ (3 : Int32) = (2 : Int32))) (by decide) (by decide) ?_
    refine g_iloadN X51 hx (hb hby at_115) rfl rfl ?_
    refine g_istore X51 hx (Ls' := #[.val (.int p0), .val (.int p1), .val (.int p2), .val (.int p3), .val (.int (3 : Int32)), .val (.ref b37), .val (.ref b38), .val (.int p3), .unset, .unset, .unset]) (hb hby at_116) rfl rfl ?_
    refine g_iload X51 hx (hb hby at_118) rfl rfl ?_
    refine g_ifN X51 hx (hb hby at_120) rfl (XT.i0_eq_f (by decide : ¬ (3 : Int32) = (0 : Int32))) ?_
    refine g_iload X51 hx (hb hby at_123) rfl rfl ?_
    refine g_sipush X51 hx (r := (255 : Int32)) (hb hby at_125) rfl rfl ?_
    refine g_iand X51 hx (hb hby at_128) rfl rfl ?_
    refine g_bipush X51 hx (r := (10 : Int32)) (hb hby at_129) rfl rfl ?_
    by_cases hc131 : (p3 &&& (255 : Int32)) = (10 : Int32)
    · skip
      refine g_icmpN X51 hx (hb hby at_131) rfl (XT.ii_ne_f hc131) ?_
      refine g_iconst X51 hx (r := (1 : Int32)) (hb hby at_134) rfl rfl ?_
      refine g_goto X51 hx (q := 139) (hb hby at_135) (by decide) (by decide) ?_
      refine g_istore X51 hx (Ls' := #[.val (.int p0), .val (.int p1), .val (.int p2), .val (.int p3), .val (.int (3 : Int32)), .val (.ref b37), .val (.ref b38), .val (.int p3), .val (.int (1 : Int32)), .unset, .unset]) (hb hby at_139) rfl rfl ?_
      refine g_aload X51 hx (hb hby at_141) rfl rfl rfl ?_
      have f53 : Arv Z h51 b37 ka37 .byte (3 : Int32) [(.int (p1.toInt8.toInt32)), (.int (p2.toInt8.toInt32)), (.int (p3.toInt8.toInt32))] (.int (0 : Int32)) := ((Vn48.other W50 ne_b37_b38).other W51 ne_b37_b38)
      refine g_static X51 hx hZ hown (hw _ (List.mem_of_getElem? (i := 1) rfl)) (hw _ (List.mem_of_getElem? (i := 2) rfl)) (hw _ (List.mem_of_getElem? (i := 3) rfl)) (hw _ (List.mem_of_getElem? (i := 4) rfl)) (by decide) (rm_term l Z a0 hw b37 ka37 (3 : Int32) [(.int (p1.toInt8.toInt32)), (.int (p2.toInt8.toInt32)), (.int (p3.toInt8.toInt32))] (p3.toInt8.toInt32) h51 n0 Z51 f53 (by first | decide | assumption | rfl | (intro _; rfl)) (by first | decide | assumption | rfl | (intro _; rfl))) (by rw [hml]; rfl) e51 [(.ref b37)] rfl rfl (W := 0) (Nat.le_of_eq rfl) (by decide) (by decide) (by decide) (by decide) (lenOf pd_0 rfl) (hb hby at_143) rfl fun v52 T52 L52 X52 hQ52 => ?_
      obtain ⟨r_52, rfl, Nq52, eh52, p52_0⟩ := hQ52
      have N52 := Fr.app N51 Nq52
      have hr_52 := p52_0
      show Ga _ _ _ _ _ _ _ _ _ _ _ [(.int r_52)]
      refine g_istore X52 hx (Ls' := #[.val (.int p0), .val (.int p1), .val (.int p2), .val (.int p3), .val (.int (3 : Int32)), .val (.ref b37), .val (.ref b38), .val (.int p3), .val (.int (1 : Int32)), .val (.int r_52), .unset]) (hb hby at_146) rfl rfl ?_
      refine g_aload X52 hx (hb hby at_148) rfl rfl rfl ?_
      refine g_static X52 hx hZ hown (hw _ (List.mem_of_getElem? (i := 1) rfl)) (hw _ (List.mem_of_getElem? (i := 2) rfl)) (hw _ (List.mem_of_getElem? (i := 3) rfl)) (hw _ (List.mem_of_getElem? (i := 4) rfl)) (by decide) (rm_term l Z a0 hw b38 ka38 (4 : Int32) [(.int (p1.toInt8.toInt32)), (.int (p2.toInt8.toInt32)), (.int (p3.toInt8.toInt32)), (.int (10 : Int32))] (10 : Int32) h51 n0 Z51 Vn51 (by first | decide | assumption | rfl | (intro _; rfl)) (by first | decide | assumption | rfl | (intro _; rfl))) (by rw [hml]; rfl) eh52 [(.ref b38)] rfl rfl (W := 0) (Nat.le_of_eq rfl) (by decide) (by decide) (by decide) (by decide) (lenOf pd_0 rfl) (hb hby at_150) rfl fun v54 T54 L54 X54 hQ54 => ?_
      obtain ⟨r_54, rfl, Nq54, eh54, p54_0⟩ := hQ54
      have N54 := Fr.app N52 Nq54
      have hr_54 := p54_0
      show Ga _ _ _ _ _ _ _ _ _ _ _ [(.int r_54)]
      refine g_istore X54 hx (Ls' := #[.val (.int p0), .val (.int p1), .val (.int p2), .val (.int p3), .val (.int (3 : Int32)), .val (.ref b37), .val (.ref b38), .val (.int p3), .val (.int (1 : Int32)), .val (.int r_52), .val (.int r_54)]) (hb hby at_153) rfl rfl ?_
      have hg1 : r_52 = (1 : Int32) := by
        rcases hr_52 with ⟨h, -⟩ | ⟨-, ⟨-, h⟩ | ⟨h, -⟩⟩
        · exact absurd (by decide) h
        · exact h
        · exact absurd ((own_bytes _).mp hc131) h
      have hg2 : r_54 = (1 : Int32) := by
        rcases hr_54 with ⟨h, -⟩ | ⟨-, ⟨-, h⟩ | ⟨h, -⟩⟩
        · exact absurd (by decide) h
        · exact h
        · exact absurd rfl h
      subst hg1 hg2
      refine g_iload X54 hx (hb hby at_155) rfl rfl ?_
      refine g_iload X54 hx (hb hby at_157) rfl rfl ?_
      refine g_icmpN X54 hx (hb hby at_159) rfl (XT.ii_ne_f (by decide : (1 : Int32) = (1 : Int32))) ?_
      refine g_iload X54 hx (hb hby at_162) rfl rfl ?_
      refine g_ifN X54 hx (hb hby at_164) rfl (XT.i0_eq_f (by decide : ¬ (1 : Int32) = (0 : Int32))) ?_
      refine g_iconst X54 hx (r := (1 : Int32)) (hb hby at_167) rfl rfl ?_
      refine g_goto X54 hx (q := 172) (hb hby at_168) (by decide) (by decide) ?_
      exact g_retN X54 hx (t := .boolean) (r := (1 : Int32)) hret (by simp) hlk (hb hby at_172) rfl (by decide) (by decide) (by rw [eh54]; exact ⟨rfl, N54⟩)
    · skip
      refine g_icmpY X51 hx (q := 138) (hb hby at_131) (XT.ii_ne_t hc131) (by decide) (by decide) ?_
      refine g_iconst X51 hx (r := (0 : Int32)) (hb hby at_138) rfl rfl ?_
      refine g_istore X51 hx (Ls' := #[.val (.int p0), .val (.int p1), .val (.int p2), .val (.int p3), .val (.int (3 : Int32)), .val (.ref b37), .val (.ref b38), .val (.int p3), .val (.int (0 : Int32)), .unset, .unset]) (hb hby at_139) rfl rfl ?_
      refine g_aload X51 hx (hb hby at_141) rfl rfl rfl ?_
      have f56 : Arv Z h51 b37 ka37 .byte (3 : Int32) [(.int (p1.toInt8.toInt32)), (.int (p2.toInt8.toInt32)), (.int (p3.toInt8.toInt32))] (.int (0 : Int32)) := ((Vn48.other W50 ne_b37_b38).other W51 ne_b37_b38)
      refine g_static X51 hx hZ hown (hw _ (List.mem_of_getElem? (i := 1) rfl)) (hw _ (List.mem_of_getElem? (i := 2) rfl)) (hw _ (List.mem_of_getElem? (i := 3) rfl)) (hw _ (List.mem_of_getElem? (i := 4) rfl)) (by decide) (rm_term l Z a0 hw b37 ka37 (3 : Int32) [(.int (p1.toInt8.toInt32)), (.int (p2.toInt8.toInt32)), (.int (p3.toInt8.toInt32))] (p3.toInt8.toInt32) h51 n0 Z51 f56 (by first | decide | assumption | rfl | (intro _; rfl)) (by first | decide | assumption | rfl | (intro _; rfl))) (by rw [hml]; rfl) e51 [(.ref b37)] rfl rfl (W := 0) (Nat.le_of_eq rfl) (by decide) (by decide) (by decide) (by decide) (lenOf pd_0 rfl) (hb hby at_143) rfl fun v55 T55 L55 X55 hQ55 => ?_
      obtain ⟨r_55, rfl, Nq55, eh55, p55_0⟩ := hQ55
      have N55 := Fr.app N51 Nq55
      have hr_55 := p55_0
      show Ga _ _ _ _ _ _ _ _ _ _ _ [(.int r_55)]
      refine g_istore X55 hx (Ls' := #[.val (.int p0), .val (.int p1), .val (.int p2), .val (.int p3), .val (.int (3 : Int32)), .val (.ref b37), .val (.ref b38), .val (.int p3), .val (.int (0 : Int32)), .val (.int r_55), .unset]) (hb hby at_146) rfl rfl ?_
      refine g_aload X55 hx (hb hby at_148) rfl rfl rfl ?_
      refine g_static X55 hx hZ hown (hw _ (List.mem_of_getElem? (i := 1) rfl)) (hw _ (List.mem_of_getElem? (i := 2) rfl)) (hw _ (List.mem_of_getElem? (i := 3) rfl)) (hw _ (List.mem_of_getElem? (i := 4) rfl)) (by decide) (rm_term l Z a0 hw b38 ka38 (4 : Int32) [(.int (p1.toInt8.toInt32)), (.int (p2.toInt8.toInt32)), (.int (p3.toInt8.toInt32)), (.int (10 : Int32))] (10 : Int32) h51 n0 Z51 Vn51 (by first | decide | assumption | rfl | (intro _; rfl)) (by first | decide | assumption | rfl | (intro _; rfl))) (by rw [hml]; rfl) eh55 [(.ref b38)] rfl rfl (W := 0) (Nat.le_of_eq rfl) (by decide) (by decide) (by decide) (by decide) (lenOf pd_0 rfl) (hb hby at_150) rfl fun v57 T57 L57 X57 hQ57 => ?_
      obtain ⟨r_57, rfl, Nq57, eh57, p57_0⟩ := hQ57
      have N57 := Fr.app N55 Nq57
      have hr_57 := p57_0
      show Ga _ _ _ _ _ _ _ _ _ _ _ [(.int r_57)]
      refine g_istore X57 hx (Ls' := #[.val (.int p0), .val (.int p1), .val (.int p2), .val (.int p3), .val (.int (3 : Int32)), .val (.ref b37), .val (.ref b38), .val (.int p3), .val (.int (0 : Int32)), .val (.int r_55), .val (.int r_57)]) (hb hby at_153) rfl rfl ?_
      have hg1 : r_55 = (0 : Int32) := by
        rcases hr_55 with ⟨h, -⟩ | ⟨-, ⟨h, -⟩ | ⟨-, h⟩⟩
        · exact absurd (by decide) h
        · exact absurd ((own_bytes _).mpr h) hc131
        · exact h
      have hg2 : r_57 = (1 : Int32) := by
        rcases hr_57 with ⟨h, -⟩ | ⟨-, ⟨-, h⟩ | ⟨h, -⟩⟩
        · exact absurd (by decide) h
        · exact h
        · exact absurd rfl h
      subst hg1 hg2
      refine g_iload X57 hx (hb hby at_155) rfl rfl ?_
      refine g_iload X57 hx (hb hby at_157) rfl rfl ?_
      refine g_icmpN X57 hx (hb hby at_159) rfl (XT.ii_ne_f (by decide : (0 : Int32) = (0 : Int32))) ?_
      refine g_iload X57 hx (hb hby at_162) rfl rfl ?_
      refine g_ifN X57 hx (hb hby at_164) rfl (XT.i0_eq_f (by decide : ¬ (1 : Int32) = (0 : Int32))) ?_
      refine g_iconst X57 hx (r := (1 : Int32)) (hb hby at_167) rfl rfl ?_
      refine g_goto X57 hx (q := 172) (hb hby at_168) (by decide) (by decide) ?_
      exact g_retN X57 hx (t := .boolean) (r := (1 : Int32)) hret (by simp) hlk (hb hby at_172) rfl (by decide) (by decide) (by rw [eh57]; exact ⟨rfl, N57⟩)
set_option maxRecDepth 65536 in
set_option maxHeartbeats 40000000 in
theorem comes_1 {Post : Tables → Env → Array Value → State → Outcome → State → Prop} (hpost : ∀ tb e args s v u, (limb_1_1.after args s (.returned v) u = true ∧ limb_1_2.after args s (.returned v) u = true ∧ True) → FrameEnd s (.returned v) u (Jvm.fieldLocs frame_1_writes args s ++ Jvm.arrayLocs frame_1_arrays args s ++ Jvm.staticLocs frame_1_statics s) 16 128 → Post tb e args s (.returned v) u) :
    ArmFor flags0 classFile x code maxLocals ret World_1 tables_1 room_1 Calls_1 rest_1 Pre_1 Post := by
  intro l hfl _ _ p e ha hc hk s m args below hf hA hF happ hP
  obtain ⟨hcalls, hrest, hpre⟩ := hP
  obtain ⟨-, -, -, hnamed, -, -, -, hat⟩ := (Spec.applies_iff hf).mp happ
  obtain ⟨hg, hn⟩ := and_e (Cond.before_iff.mp (show (Jvm.Cond.and given_1 narrow_1).before args s = true from hpre))
  obtain ⟨hcn, hg1⟩ := and_e hg
  obtain ⟨k1, hg2⟩ := and_e hg1
  obtain ⟨k2, hg3⟩ := and_e hg2
  obtain ⟨k3, hg4⟩ := and_e hg3
  have k4 := hg4
  obtain ⟨w0, w1, w2, w3, rfl⟩ : ∃ w0 w1 w2 w3 : Value, args = #[w0, w1, w2, w3] := by
    have hs : args.size = 4 := by simpa [Cond.value, given_1] using hcn
    obtain ⟨L⟩ := args
    match L, hs with
    | [w0, w1, w2, w3], _ => exact ⟨w0, w1, w2, w3, rfl⟩
  have hw := fun d (hd : d ∈ tables_1) => atoms_spec (ws := Jvm.Cond.code x code maxLocals ret :: tables_1) hat d (List.mem_cons_of_mem _ hd)
  have hfit : Fit s := fun {y c} hc i hi => by
    obtain ⟨ha, rfl⟩ := Array.getElem?_eq_some_iff.mp hc
    have q := List.all_eq_true.mp ((Array.all_eq_true_iff_forall_mem.mp hF) _ (Array.getElem_mem ha)) i (List.mem_range.mpr hi)
    simpa [Array.getElem?_eq_getElem hi] using q
  obtain ⟨i0, ei0⟩ := is_v k1
  obtain rfl : w0 = (.int i0) := Option.some.inj ei0
  obtain ⟨i1, ei1⟩ := is_v k2
  obtain rfl : w1 = (.int i1) := Option.some.inj ei1
  obtain ⟨i2, ei2⟩ := is_v k3
  obtain rfl : w2 = (.int i2) := Option.some.inj ei2
  obtain ⟨i3, ei3⟩ := is_v k4
  obtain rfl : w3 = (.int i3) := Option.some.inj ei3
  obtain ⟨n, o, h1, h2, h3, _, L, rfl, ⟨rfl, N⟩, hq⟩ := rm_law l s _ hw tables_1 i0 i1 i2 i3 s.heap s.heap.size (Nat.le_refl _) p e ha hc hk s m _ below hf ((Spec.applies_iff_loose hf).mp happ).1 ⟨rfl, State.Warmed39.refl s, rfl⟩ trivial
  refine ⟨n, _, h1, h2, h3, hpost _ _ _ _ _ _ ⟨Cond.after_iff.mpr rfl, Cond.after_iff.mpr (eq_i res_at (Term.int_eval (1)) rfl), trivial⟩ ⟨hq.1, hq.2.1, (hq.2.2.sift fun y hy => Or.inr (N y hy)).mono (by decide) (by decide)⟩⟩
theorem main_1_1 : Claimed_1_1 := comes_1 fun _ _ _ _ _ _ h hF => ⟨h.1, hF⟩
theorem main_1_2 : Claimed_1_2 := comes_1 fun _ _ _ _ _ _ h hF => ⟨h.2.1, hF⟩
end Jvm.Pilot.@@N@@
namespace Jvm.Pilot.@@N@@
open Jvm Jvm.ClassFile Sem Op Lib Jvm.Free Jvm.Stand Jvm.Pilot.@@N@@.Jvm.D
/-! MADE BY PROGRAM (witnessworld.py) out of the Statement's table words and the real class files: 9 classes; the members and pool entries that the words name. The judged class is class 1, her method 1. -/
namespace start1
open Jvm.ClassFile
def u (s : String) : CpInfo := .utf8 (stringToUtf16 s)
/-- a pool by its gaps: so many unusable entries, then the entry; so many at the end -/
def gap : Nat → List CpInfo → List CpInfo
  | 0, r => r
  | n + 1, r => .unusable :: gap n r
def poolList (es : List (Nat × CpInfo)) (last : Nat) : List CpInfo := es.foldr (fun e r => gap e.1 (e.2 :: r)) (gap last [])
def pool (es : List (Nat × CpInfo)) (last : Nat) : Array CpInfo := ⟨poolList es last⟩
def fileOf (pool : Array CpInfo) (this : Nat) (attrs : Array Attribute := #[]) (ms : Array MethodInfo := #[]) (fl : Nat := 33) (sup : Nat := 0) (ifs : Array Nat := #[]) (fds : Array FieldInfo := #[]) : ClassFile where
  minorVersion := 0
  majorVersion := 65
  constantPool := pool
  accessFlags := fl
  thisClass := this
  superClass := sup
  interfaces := ifs
  fields := fds
  methods := ms
  attributes := attrs
def plain (name : String) (sup : Option ClassId) : Class where
  name := name
  kind := .ordinary
  loader := none
  accessFlags := 33
  super := sup
  interfaces := #[]
  cf := none
  fields := #[]
  methods := #[]
  instanceTypes := #[]
  staticTypes := #[]
  resolved := #[]
  callSites := []
  init := .initialized
  statics := none
  mirror := none

def pool0 : Array CpInfo := pool [(5, u "<init>"), (0, u "()V"), (1, .class_ 10), (1, u "java/lang/Object")] 113

def k0m0 : Method := { name := "<init>", desc := "()V", sig := { parameters := [], returnType := none }, accessFlags := 1, code := none }
/-- java/lang/Object -/
def k0 : Class := { plain "java/lang/Object" none with
  accessFlags := 33
  interfaces := #[]
  cf := some (fileOf pool0 8 #[] #[{ accessFlags := 1, nameIndex := 5, descriptorIndex := 6, attributes := #[] }] 33 0 #[] #[])
  fields := #[]
  methods := #[k0m0]
  instanceTypes := #[]
  staticTypes := #[]
  resolved := Array.replicate 124 none
  statics := none }

def pool1 : Array CpInfo := pool [(2, .class_ 4), (1, u "java/lang/Object"), (0, u "<init>"), (0, u "()V"), (0, .methodref 8 9), (0, .class_ 10), (0, .nameAndType 11 12), (0, u "com/example/twinsite/twinsite/io/LineReader"), (0, u "isTerminated"), (0, u "([B)Z"), (0, .class_ 14), (0, u "com/example/twinsite/twinsite/io/LineReaderIsTerminatedPinLaw"), (2, u "law"), (0, u "(IIII)Z")] 5

def k1m0 : Method := { name := "<init>", desc := "()V", sig := { parameters := [], returnType := none }, accessFlags := 2, code := none }
def k1c1 : Code := { maxStack := 3, maxLocals := 11, code := code, exceptionTable := #[], attributes := #[] }
def k1m1 : Method := { name := "law", desc := "(IIII)Z", sig := { parameters := [.int, .int, .int, .int], returnType := some .boolean }, accessFlags := 9, code := some k1c1 }
/-- com/example/twinsite/twinsite/io/LineReaderIsTerminatedPinLaw -/
def k1 : Class := { plain "com/example/twinsite/twinsite/io/LineReaderIsTerminatedPinLaw" (some 0) with
  accessFlags := 49
  interfaces := #[]
  cf := some (fileOf pool1 13 #[] #[{ accessFlags := 2, nameIndex := 5, descriptorIndex := 6, attributes := #[] }, { accessFlags := 9, nameIndex := 17, descriptorIndex := 18, attributes := #[] }] 49 2 #[] #[])
  fields := #[]
  methods := #[k1m0, k1m1]
  instanceTypes := #[]
  staticTypes := #[]
  resolved := Array.replicate 24 none
  statics := none }

def pool2 : Array CpInfo := pool [(2, .class_ 4), (1, u "java/lang/Object"), (3, .class_ 10), (1, u "com/example/twinsite/twinsite/io/LineReader"), (0, u "buffer"), (0, u "[B"), (2, u "in"), (0, u "Ljava/io/InputStream;"), (2, u "maxLength"), (0, u "I"), (2, u "start"), (2, u "end"), (6, u "length"), (0, u "J"), (6, u "tooLong"), (0, u "Z"), (2, u "pieces"), (0, u "Ljava/io/ByteArrayOutputStream;"), (29, u "isTerminated"), (0, u "([B)Z"), (34, u "LF"), (0, u "B")] 17

def k2c0 : Code := { maxStack := 3, maxLocals := 1, code := prog_41_method_4_code, exceptionTable := #[], attributes := #[] }
def k2m0 : Method := { name := "isTerminated", desc := "([B)Z", sig := { parameters := [(.array .byte)], returnType := some .boolean }, accessFlags := 9, code := some k2c0 }
/-- com/example/twinsite/twinsite/io/LineReader -/
def k2 : Class := { plain "com/example/twinsite/twinsite/io/LineReader" (some 0) with
  accessFlags := 49
  interfaces := #[]
  cf := some (fileOf pool2 8 #[] #[{ accessFlags := 9, nameIndex := 76, descriptorIndex := 77, attributes := #[] }] 49 2 #[] #[{ accessFlags := 26, nameIndex := 112, descriptorIndex := 113, attributes := #[] }, { accessFlags := 18, nameIndex := 15, descriptorIndex := 16, attributes := #[] }, { accessFlags := 18, nameIndex := 19, descriptorIndex := 20, attributes := #[] }, { accessFlags := 18, nameIndex := 11, descriptorIndex := 12, attributes := #[] }, { accessFlags := 2, nameIndex := 23, descriptorIndex := 20, attributes := #[] }, { accessFlags := 2, nameIndex := 26, descriptorIndex := 20, attributes := #[] }, { accessFlags := 2, nameIndex := 45, descriptorIndex := 46, attributes := #[] }, { accessFlags := 2, nameIndex := 41, descriptorIndex := 42, attributes := #[] }, { accessFlags := 2, nameIndex := 33, descriptorIndex := 34, attributes := #[] }])
  fields := #[{ name := "LF", type := .byte, accessFlags := 26, slot := 0, constantValue := 0 }, { name := "in", type := (.object "java/io/InputStream"), accessFlags := 18, slot := 0, constantValue := 0 }, { name := "maxLength", type := .int, accessFlags := 18, slot := 1, constantValue := 0 }, { name := "buffer", type := (.array .byte), accessFlags := 18, slot := 2, constantValue := 0 }, { name := "start", type := .int, accessFlags := 2, slot := 3, constantValue := 0 }, { name := "end", type := .int, accessFlags := 2, slot := 4, constantValue := 0 }, { name := "pieces", type := (.object "java/io/ByteArrayOutputStream"), accessFlags := 2, slot := 5, constantValue := 0 }, { name := "tooLong", type := .boolean, accessFlags := 2, slot := 6, constantValue := 0 }, { name := "length", type := .long, accessFlags := 2, slot := 7, constantValue := 0 }]
  methods := #[k2m0]
  instanceTypes := #[(.object "java/io/InputStream"), .int, (.array .byte), .int, .int, (.object "java/io/ByteArrayOutputStream"), .boolean, .long]
  staticTypes := #[.byte]
  resolved := Array.replicate 131 none
  statics := none }

def pool3 : Array CpInfo := pool [(1, u "java/lang/Cloneable"), (0, .class_ 1), (0, u "java/lang/Object"), (0, .class_ 3)] 3

/-- java/lang/Cloneable -/
def k3 : Class := { plain "java/lang/Cloneable" (some 0) with
  accessFlags := 1537
  interfaces := #[]
  cf := some (fileOf pool3 2 #[] #[] 1537 4 #[] #[])
  fields := #[]
  methods := #[]
  instanceTypes := #[]
  staticTypes := #[]
  resolved := Array.replicate 8 none
  statics := none }

def pool4 : Array CpInfo := pool [(1, u "java/io/Serializable"), (0, .class_ 1), (0, u "java/lang/Object"), (0, .class_ 3)] 3

/-- java/io/Serializable -/
def k4 : Class := { plain "java/io/Serializable" (some 0) with
  accessFlags := 1537
  interfaces := #[]
  cf := some (fileOf pool4 2 #[] #[] 1537 4 #[] #[])
  fields := #[]
  methods := #[]
  instanceTypes := #[]
  staticTypes := #[]
  resolved := Array.replicate 8 none
  statics := none }

/-- the primitive byte -/
def k5 : Class := { plain "byte" none with kind := .primitive 'B', accessFlags := 0x411 }
/-- [B -/
def k6 : Class := { plain "[B" (some 0) with kind := .array 5 .byte, interfaces := #[3, 4], accessFlags := 1041 }

/-- the primitive int -/
def k7 : Class := { plain "int" none with kind := .primitive 'I', accessFlags := 0x411 }
/-- [I -/
def k8 : Class := { plain "[I" (some 0) with kind := .array 7 .int, interfaces := #[3, 4], accessFlags := 1041 }

def heap : Heap := #[]
def classes : Array Class := #[k0, k1, k2, k3, k4, k5, k6, k7, k8]
def interned : List (Array UInt16 × Addr) := []
def slotsUsed : Nat := 0
def theMethod : MethodId := ⟨1, 1⟩
def args0 : Array Value := #[.int 5, .int 300, .int 7, .int 10]
def aboutOver (below : List Frame) : State where
  vm := { classes := classes, interned := interned.toArray }
  heap := heap
  slotsUsed := slotsUsed
  threads := #[{ frames := .invoking theMethod args0 :: below }]
def below0 : List Frame := [.native { method := ⟨0, 0⟩, args := #[] }]
def about1 : State := aboutOver below0
def p0 : Program := .bare "" "" ""
def e0 : Env := launch0.env 0 0 0
theorem w_frames : about1.frames = Frame.invoking theMethod args0 :: below0 := rfl
set_option maxRecDepth 65536 in
theorem w_args : argsFit about1.vm theMethod args0 = true := by decide +kernel
set_option maxRecDepth 65536 in
theorem w_heap : heapFits about1 = true := by decide +kernel
set_option maxRecDepth 65536 in
theorem w_runnable : about1.curStatus? = some .runnable := by decide +kernel
set_option maxRecDepth 65536 in
theorem w_alone : about1.alone = true := by decide +kernel
set_option maxRecDepth 65536 in
theorem w_named : about1.methodNamed? x = some theMethod := by decide +kernel
set_option maxRecDepth 65536 in
theorem w_hears : about1.hears theMethod below0 = true := by decide +kernel
set_option maxRecDepth 65536 in
theorem w_ripe : about1.ripe theMethod args0 below0 = true := by decide +kernel
theorem w_running : about1.status = .running := rfl
set_option maxRecDepth 65536 in
theorem w_room : about1.hasRoom e0.platform room_1 = true :=
  launch0.hasRoom_least _ room_1 (by decide +kernel) (by decide +kernel) (by decide +kernel) (by decide +kernel) (by decide +kernel) (by decide +kernel)
theorem allAtoms_all (ts : List Jvm.Cond) (a : Array Jvm.Value) (st : Jvm.State) : (allAtoms ts).before a st = ts.all (fun c => c.before a st) := by
  induction ts with
  | nil => rfl
  | cons c t ih =>
    show (Jvm.Cond.and c (allAtoms t)).before a st = _
    rw [Jvm.Cond.before_and, ih, List.all_cons]
def words1 : List Jvm.Cond := Jvm.Cond.code x code maxLocals ret :: tables_1
/-- a 'code' word, met by the world's own term for the bytes: nothing is compared byte by byte -/
theorem code_word {y : MethodName} {bytes : ByteArray} {mx : Nat} {rt : Option FieldType} {a : Array Value} {s : State} {m : MethodId} {meth : Method} {c : Code} (h1 : s.methodNamed? y = some m) (h2 : s.vm.method? m = some meth) (h3 : meth.code = some c) (h4 : c.code = bytes)
    (h5 : (c.maxLocals == mx && c.exceptionTable.isEmpty && decide (c.maxStack ≤ mostOperands) && decide (meth.sig.returnType = rt) && !meth.locks && decide (parseMethodDescriptor y.desc = some meth.sig)) = true) : (Jvm.Cond.code y bytes mx rt).before a s = true := by
  simp only [Bool.and_eq_true, beq_iff_eq, Bool.not_eq_true', decide_eq_true_eq] at h5
  obtain ⟨⟨⟨⟨⟨g1, g2⟩, g3⟩, g4⟩, g5⟩, g6⟩ := h5
  simp [Cond.before, Cond.holds, Cond.value, h1, h2, h3, h4, g1, g2, g3, g4, g5, g6]
def isCode : Jvm.Cond → Bool
  | .code _ _ _ _ => true
  | _ => false
theorem all_split {L : List Jvm.Cond} {P : Jvm.Cond → Bool} (h1 : L.all (fun c => isCode c || P c) = true) (h2 : ∀ c ∈ L.filter isCode, P c = true) : L.all P = true := by
  refine List.all_eq_true.mpr fun c hc => ?_
  have h := List.all_eq_true.mp h1 c hc
  rcases Bool.eq_false_or_eq_true (isCode c) with hi | hi
  · exact h2 c (List.mem_filter.mpr ⟨hc, hi⟩)
  · simpa [hi] using h
set_option maxRecDepth 65536 in
theorem w_c0 : (Jvm.Cond.code x code maxLocals ret).before args0 about1 = true := code_word (m := ⟨1, 1⟩) (meth := k1m1) (c := k1c1) (by decide +kernel) rfl rfl rfl (by decide +kernel)
set_option maxRecDepth 65536 in
theorem w_c1 : (Jvm.Cond.code ({ cls := "com/example/twinsite/twinsite/io/LineReader", name := "isTerminated", desc := "([B)Z" } : Jvm.MethodName) prog_41_method_4_code (1 : Nat) (Option.some Jvm.ClassFile.FieldType.boolean)).before args0 about1 = true := code_word (m := ⟨2, 0⟩) (meth := k2m0) (c := k2c0) (by decide +kernel) rfl rfl rfl (by decide +kernel)
def codes1 : List Jvm.Cond := [Jvm.Cond.code x code maxLocals ret, Jvm.Cond.code ({ cls := "com/example/twinsite/twinsite/io/LineReader", name := "isTerminated", desc := "([B)Z" } : Jvm.MethodName) prog_41_method_4_code (1 : Nat) (Option.some Jvm.ClassFile.FieldType.boolean)]
set_option maxRecDepth 65536 in
theorem codes_eq : words1.filter isCode = codes1 := rfl
theorem w_codes : ∀ c ∈ words1.filter isCode, c.before args0 about1 = true := by
  rw [codes_eq]
  intro c hc
  simp only [codes1, List.mem_cons, List.not_mem_nil, or_false] at hc
  rcases hc with rfl | rfl
  · exact w_c0
  · exact w_c1
set_option maxRecDepth 65536 in
theorem w_t1 : words1.all (fun c => isCode c || c.before args0 about1) = true := by decide +kernel
theorem w_tables : (allAtoms (Jvm.Cond.code x code maxLocals ret :: tables_1)).before args0 about1 = true := by
  rw [allAtoms_all]
  show words1.all (fun c => c.before args0 about1) = true
  refine all_split ?_ w_codes
  rw [w_t1]
set_option maxRecDepth 65536 in
theorem w_case : (Jvm.Cond.and given_1 narrow_1).before args0 about1 = true := by decide +kernel
theorem w_applies : (headSpec (Jvm.Cond.code x code maxLocals ret :: tables_1) room_1).applies x e0.platform about1 = true :=
  (Spec.applies_iff w_frames).mpr ⟨w_running, w_runnable, w_alone, w_named, w_hears, w_ripe, w_room, w_tables⟩
theorem atStart : AtStart classFile x code maxLocals ret World_1 tables_1 room_1 Calls_1 rest_1 Pre_1 launch0 p0 e0 about1 theMethod args0 below0 :=
  ⟨lists_1, trivial, launch0.admits_env _ _ _, launch0.least_env, fairChoices_fair.cas, fairChoices_fair.clock, w_frames, w_args, w_heap, w_applies, trivial, trivial, w_case⟩
end start1
theorem witness_1 : WitnessClaimed_1 := ⟨start1.p0, start1.e0, start1.about1, start1.theMethod, start1.args0, start1.below0, start1.atStart⟩
end Jvm.Pilot.@@N@@
