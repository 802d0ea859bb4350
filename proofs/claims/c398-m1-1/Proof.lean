import JvmDerived
import JvmDerived.Pilot.@@N@@Statement
import JvmDerived.Pilot.@@N@@Code
set_option linter.unusedVariables false
set_option linter.unusedSimpArgs false
namespace Jvm.Pilot.@@N@@
open Jvm Jvm.ClassFile Sem Op Lib Jvm.Free Jvm.Stand Jvm.LawKit Jvm.RoadKit Bundle Jvm.Pilot.@@N@@.Jvm.D
def Go (p : Program) (e : Env) (below : List Frame) (s : State) (Q : Option Value → Heap → List Loc → Prop) (C S : Nat) (V : State) : Prop :=
  ∃ (U : State) (o : Outcome), Steps p.tables e below V U ∧ U.status = .running ∧ Ended U below o ∧ ∃ v L, o = .returned v ∧ Q v U.heap L ∧ FrameEnd s o U L C S
def Ga (p : Program) (e : Env) (below : List Frame) (s : State) (Q : Option Value → Heap → List Loc → Prop) (C S : Nat) (T : State) (m : MethodId) (pc : Nat) (Ls : Array Slot) (st : List Value) : Prop :=
  Go p e below s Q C S (T.setTop (mkF m pc Ls st))
abbrev Ct (l : Launch) (Z : State) (y : MethodName) (bytes : ByteArray) (maxL : Nat) (ret : Option FieldType) (ws : List Jvm.Cond) (rm : Room) (as' : Array Value) (h0 : Heap) (Q : Option Value → Heap → List Loc → Prop) : Prop :=
  MetFree l y (head1 (Jvm.Cond.code y bytes maxL ret :: ws) rm) (fun a U => a = as' ∧ Z.Warmed39 U.vm ∧ U.heap = h0) (fun _ _ _ _ _ => True) (fun _ U o U' => ∃ v L, o = .returned v ∧ Q v U'.heap L ∧ FrameEnd U o U' L rm.cells rm.slots)
section GoKit
variable {p : Program} {l : Launch} {e : Env} {R : Room} {s : State} {m : MethodId} {args : Array Value} {below : List Frame} {meth : Method} {c : Code} {T T' : State} {locs : List Loc} {cells slots : Nat} {Q : Option Value → Heap → List Loc → Prop} {C S : Nat} {Z : State} {a0 : Array Value} {h : Heap} {pc q pc' : Nat} {Ls Ls' : Array Slot} {st st' : List Value} {own : String}
theorem Ga.stp (k : ∀ t, Steps p.tables e below (T'.setTop (mkF m pc' Ls' st')) t → Steps p.tables e below (T.setTop (mkF m pc Ls st)) t) (g : Ga p e below s Q C S T' m pc' Ls' st') : Ga p e below s Q C S T m pc Ls st := by
  obtain ⟨U, o, h, r⟩ := g
  exact ⟨U, o, k _ h, r⟩
theorem own_body {y : MethodName} {bytes : ByteArray} {maxL : Nat} {ret : Option FieldType} {ws : List Jvm.Cond} {rm : Room} {h0 : Heap} {as' : Array Value} (hpl : plainFor y = true) (hef : ∀ m, entryFrame m as' maxL = mkF m 0 Ls [])
    (body : ∀ (p : Program) (e : Env) (s : State) (m : MethodId) (below : List Frame) (meth : Method) (c : Code) (T : State), p.tables.exec = Jvm.exec → c.code = bytes → c.maxLocals = maxL → Z.Warmed39 s.vm → s.vm.findClass y.cls = some m.cls → meth.name = y.name → meth.sig.returnType = ret → meth.locks = false →
      Stand p l e rm s m as' below meth c T [] 0 0 → T.heap = h0 → Ga p e below s Q rm.cells rm.slots T m 0 Ls []) : Ct l Z y bytes maxL ret ws rm as' h0 Q := by
  refine MetFree.of_bodySF hpl hisR ?_
  intro p e s m args below meth c s₁ Bd hml0 hP hK
  obtain ⟨rfl, hZ, hh⟩ := hP
  have X0 : Stand p l e rm s m args below meth c s₁ [] 0 0 := Stand.of_body Bd
  have e0 : s₁.heap = h0 := by rw [← hh, Bd.state]; rfl
  obtain ⟨U, o, g1, g2⟩ := body p e s m below meth c s₁ Bd.exec Bd.bytes hml0 hZ (findClass_of_methodNamed Bd.named) (name_of_methodNamed Bd.named Bd.method).1 Bd.returns (BodyLoose.notSynchronized Bd) X0 e0
  exact ⟨U, o, castTop (hef m) g1, g2⟩
theorem Ga.out (X : Stand p l e R s m args below meth c T locs cells slots) {v : Option Value} (hlk : meth.locks = false) (hv : meth.sig.returnType = none → v = none) (hc : cells ≤ C) (hs : slots ≤ S) (hq : Q v T.heap locs)
    (k : ∀ fs, (∀ (f : JFrame) (acts : List Action), f.method = m → f.locked = none → f.entered = [] → (doReturn e (T.setTop f) acts v).1 = T.setFrames fs) → Steps p.tables e below (T.setTop (mkF m pc Ls st)) (T.setFrames fs)) : Ga p e below s Q C S T m pc Ls st := by
  obtain ⟨fs, hr, hrun, hended, hW, hsame⟩ := X.leave (v := v) hv hlk
  exact ⟨_, _, k fs hr, hrun, hended, _, _, rfl, hq, ⟨_, rfl⟩, hW, hsame.mono hc hs⟩
theorem g_iloadN (X : Stand p l e R s m args below meth c T locs cells slots) (hx : p.tables.exec = Jvm.exec) {k : Fin 4} {v : Int32} (hd : decode c.code pc = .ok (.iload_n k, 1)) (hp : pc + 1 = q) (hl : Ls[k.val]? = some (.val (.int v))) (g : Ga p e below s Q C S T m q Ls (.int v :: st)) : Ga p e below s Q C S T m pc Ls st := by
  subst hp
  exact Ga.stp (fun _ k => XS.iloadN X.here hx rfl hd hl k) g
theorem g_aloadN (X : Stand p l e R s m args below meth c T locs cells slots) (hx : p.tables.exec = Jvm.exec) {k : Fin 4} {v : Value} (hd : decode c.code pc = .ok (.aload_n k, 1)) (hp : pc + 1 = q) (hl : Ls[k.val]? = some (.val v)) (hv : v.isRef = true) (g : Ga p e below s Q C S T m q Ls (v :: st)) : Ga p e below s Q C S T m pc Ls st := by
  subst hp
  exact Ga.stp (fun _ k => XS.aloadN X.here hx rfl hd hl hv k) g
theorem g_aload (X : Stand p l e R s m args below meth c T locs cells slots) (hx : p.tables.exec = Jvm.exec) {k : Nat} {v : Value} (hd : decode c.code pc = .ok (.aload k, 2)) (hp : pc + 2 = q) (hl : Ls[k]? = some (.val v)) (hv : v.isRef = true) (g : Ga p e below s Q C S T m q Ls (v :: st)) : Ga p e below s Q C S T m pc Ls st := by
  subst hp
  exact Ga.stp (fun _ k => XS.aload X.here hx rfl hd hl hv k) g
theorem g_istoreN (X : Stand p l e R s m args below meth c T locs cells slots) (hx : p.tables.exec = Jvm.exec) {k : Fin 4} {x : Int32} (hd : decode c.code pc = .ok (.istore_n k, 1)) (hp : pc + 1 = q) (hl : storeLocals Ls k.val (.int x) = some Ls') (g : Ga p e below s Q C S T m q Ls' st) : Ga p e below s Q C S T m pc Ls (.int x :: st) := by
  subst hp
  exact Ga.stp (fun _ k => XS.istoreN X.here hx rfl hd rfl hl k) g
theorem g_astoreN (X : Stand p l e R s m args below meth c T locs cells slots) (hx : p.tables.exec = Jvm.exec) {k : Fin 4} {x : Value} (hd : decode c.code pc = .ok (.astore_n k, 1)) (hp : pc + 1 = q) (hv : x.isRef = true) (hl : storeLocals Ls k.val x = some Ls') (g : Ga p e below s Q C S T m q Ls' st) : Ga p e below s Q C S T m pc Ls (x :: st) := by
  subst hp
  exact Ga.stp (fun _ k => XS.astoreN X.here hx rfl hd rfl hv hl k) g
theorem g_astore (X : Stand p l e R s m args below meth c T locs cells slots) (hx : p.tables.exec = Jvm.exec) {k : Nat} {x : Value} (hd : decode c.code pc = .ok (.astore k, 2)) (hp : pc + 2 = q) (hv : x.isRef = true) (hl : storeLocals Ls k x = some Ls') (g : Ga p e below s Q C S T m q Ls' st) : Ga p e below s Q C S T m pc Ls (x :: st) := by
  subst hp
  exact Ga.stp (fun _ k => XS.astore X.here hx rfl hd rfl hv hl k) g
theorem g_iconst (X : Stand p l e R s m args below meth c T locs cells slots) (hx : p.tables.exec = Jvm.exec) {i : Int} {r : Int32} (hd : decode c.code pc = .ok (.iconst i, 1)) (hp : pc + 1 = q) (hr : Int32.ofInt i = r) (g : Ga p e below s Q C S T m q Ls (.int r :: st)) : Ga p e below s Q C S T m pc Ls st := by
  subst hp hr
  exact Ga.stp (fun _ k => XS.iconst X.here hx rfl hd k) g
theorem g_iand (X : Stand p l e R s m args below meth c T locs cells slots) (hx : p.tables.exec = Jvm.exec) {x y r : Int32} (hd : decode c.code pc = .ok (.iand, 1)) (hp : pc + 1 = q) (hr : x &&& y = r) (g : Ga p e below s Q C S T m q Ls (.int r :: st)) : Ga p e below s Q C S T m pc Ls (.int y :: .int x :: st) := by
  subst hp hr
  exact Ga.stp (fun _ k => XS.iand X.here hx rfl hd rfl k) g
theorem g_iinc (X : Stand p l e R s m args below meth c T locs cells slots) (hx : p.tables.exec = Jvm.exec) {k : Nat} {cst : Int} {x r : Int32} (hd : decode c.code pc = .ok (.iinc k cst, 3)) (hp : pc + 3 = q) (hl : Ls[k]? = some (.val (.int x))) (hr : x + Int32.ofInt cst = r) (hl' : storeLocals Ls k (.int r) = some Ls') (g : Ga p e below s Q C S T m q Ls' st) : Ga p e below s Q C S T m pc Ls st := by
  subst hp hr
  exact Ga.stp (fun _ k => XS.iinc X.here hx rfl hd hl hl' k) g
theorem g_goto (X : Stand p l e R s m args below meth c T locs cells slots) (hx : p.tables.exec = Jvm.exec) {o : Int} (hd : decode c.code pc = .ok (.goto o, 3)) (ho : 0 ≤ (pc : Int) + o) (hp : ((pc : Int) + o).toNat = q) (g : Ga p e below s Q C S T m q Ls st) : Ga p e below s Q C S T m pc Ls st :=
  Ga.stp (fun _ k => XS.goto X.here hx rfl rfl hd ho hp k) g
theorem g_ifY (X : Stand p l e R s m args below meth c T locs cells slots) (hx : p.tables.exec = Jvm.exec) {cd : ClassFile.Cond} {x : Int32} {o : Int} (hd : decode c.code pc = .ok (.ifCond cd o, 3)) (hc : ifCond.holds cd x = true) (ho : 0 ≤ (pc : Int) + o) (hp : ((pc : Int) + o).toNat = q) (g : Ga p e below s Q C S T m q Ls st) : Ga p e below s Q C S T m pc Ls (.int x :: st) :=
  Ga.stp (fun _ k => XS.ifYes X.here hx rfl rfl hd rfl hc ho hp k) g
theorem g_ifN (X : Stand p l e R s m args below meth c T locs cells slots) (hx : p.tables.exec = Jvm.exec) {cd : ClassFile.Cond} {x : Int32} {o : Int} (hd : decode c.code pc = .ok (.ifCond cd o, 3)) (hp : pc + 3 = q) (hc : ifCond.holds cd x = false) (g : Ga p e below s Q C S T m q Ls st) : Ga p e below s Q C S T m pc Ls (.int x :: st) := by
  subst hp
  exact Ga.stp (fun _ k => XS.ifNo X.here hx rfl hd rfl hc k) g
theorem g_icmpY (X : Stand p l e R s m args below meth c T locs cells slots) (hx : p.tables.exec = Jvm.exec) {cd : ClassFile.Cond} {x y : Int32} {o : Int} (hd : decode c.code pc = .ok (.if_icmp cd o, 3)) (hc : if_icmp.holds cd x y = true) (ho : 0 ≤ (pc : Int) + o) (hp : ((pc : Int) + o).toNat = q) (g : Ga p e below s Q C S T m q Ls st) : Ga p e below s Q C S T m pc Ls (.int y :: .int x :: st) :=
  Ga.stp (fun _ k => XS.icmpYes X.here hx rfl rfl hd rfl hc ho hp k) g
theorem g_icmpN (X : Stand p l e R s m args below meth c T locs cells slots) (hx : p.tables.exec = Jvm.exec) {cd : ClassFile.Cond} {x y : Int32} {o : Int} (hd : decode c.code pc = .ok (.if_icmp cd o, 3)) (hp : pc + 3 = q) (hc : if_icmp.holds cd x y = false) (g : Ga p e below s Q C S T m q Ls st) : Ga p e below s Q C S T m pc Ls (.int y :: .int x :: st) := by
  subst hp
  exact Ga.stp (fun _ k => XS.icmpNo X.here hx rfl hd rfl hc k) g
theorem g_acmp (X : Stand p l e R s m args below meth c T locs cells slots) (hx : p.tables.exec = Jvm.exec) {cd : ClassFile.ACond} {x y : Value} {o : Int} {same : Bool} (hd : decode c.code pc = .ok (.if_acmp cd o, 3)) (h1 : x.isRef = true) (h2 : y.isRef = true) (hq : decide (x = y) = same) (ho : 0 ≤ (pc : Int) + o) (hp : q = if acV cd same = true then ((pc : Int) + o).toNat else pc + 3) (g : Ga p e below s Q C S T m q Ls st) : Ga p e below s Q C S T m pc Ls (y :: x :: st) :=
  Ga.stp (fun _ k => Jvm.RoadKit.acmp (g := mkF m pc Ls (y :: x :: st)) X hx rfl h1 h2 rfl hd rfl hq ho hp k) g
theorem g_retI (X : Stand p l e R s m args below meth c T locs cells slots) (hx : p.tables.exec = Jvm.exec) {z : Int32} (hret : meth.sig.returnType = some .int) (hlk : meth.locks = false) (hd : decode c.code pc = .ok (.ireturn, 1)) (hc : cells ≤ C) (hs : slots ≤ S) (hq : Q (some (.int z)) T.heap locs) : Ga p e below s Q C S T m pc Ls (.int z :: st) :=
  Ga.out X hlk (fun h => by rw [hret] at h; cases h) hc hs hq fun fs hr => retOut X hx hret rfl (Or.inl ⟨rfl, Or.inl rfl, z, rfl⟩) hd hr
theorem g_retN (X : Stand p l e R s m args below meth c T locs cells slots) (hx : p.tables.exec = Jvm.exec) {z r : Int32} {t : FieldType} (hret : meth.sig.returnType = some t) (ht : t = .boolean ∨ t = .byte ∨ t = .char ∨ t = .short) (hlk : meth.locks = false) (hd : decode c.code pc = .ok (.ireturn, 1)) (hr : nar t z = r) (hc : cells ≤ C) (hs : slots ≤ S) (hq : Q (some (.int r)) T.heap locs) : Ga p e below s Q C S T m pc Ls (.int z :: st) := by
  subst hr
  exact Ga.out X hlk (fun h => by rw [hret] at h; cases h) hc hs hq fun fs hr => retN X hx hret ht hd hr
theorem g_retR (X : Stand p l e R s m args below meth c T locs cells slots) (hx : p.tables.exec = Jvm.exec) {w : Value} {t : FieldType} (hret : meth.sig.returnType = some t) (hlk : meth.locks = false) (ht : t.isReference = true) (hn : narrow t w = w) (hw : w.isRef = true) (hd : decode c.code pc = .ok (.areturn, 1)) (hc : cells ≤ C) (hs : slots ≤ S) (hq : Q (some w) T.heap locs) : Ga p e below s Q C S T m pc Ls (w :: st) :=
  Ga.out X hlk (fun h => by rw [hret] at h; cases h) hc hs hq fun fs hr => retOut X hx hret hn (Or.inr (Or.inr (Or.inr (Or.inr ⟨rfl, ht, hw⟩)))) hd hr
theorem g_getF (X : Stand p l e R s m args below meth c T locs cells slots) (hx : p.tables.exec = Jvm.exec) (hZ : Z.Warmed39 s.vm) (hown : s.vm.findClass own = some m.cls) {R0 O n d host : String} {index : Nat} (w : (Cond.fieldLink own index R0 n d).before a0 Z = true ∨ (Cond.fieldLinkNest own index R0 n d host).before a0 Z = true) (via : Via Z R0 O n d) (eT : T.heap = h) {a : Addr} {v : Value} (F : Fld Z h a O n d v)
    (hd : decode c.code pc = .ok (.getfield index, 3)) (hp : pc + 3 = q) (k : ∀ T', Stand p l e R s m args below meth c T' locs cells slots → T'.heap = h → Ga p e below s Q C S T' m q Ls (v :: st)) : Ga p e below s Q C S T m pc Ls (.ref a :: st) := by
  subst hp
  obtain ⟨T', X', e', sx⟩ := getF X hx hZ hown w via eT F (g := mkF m pc Ls (.ref a :: st)) rfl rfl hd
  exact Ga.stp sx (k T' X' e')
theorem g_getS (X : Stand p l e R s m args below meth c T locs cells slots) (hx : p.tables.exec = Jvm.exec) (hZ : Z.Warmed39 s.vm) (hown : s.vm.findClass own = some m.cls) {R0 O n d host : String} {index : Nat} (w : (Cond.fieldLink own index R0 n d).before a0 Z = true ∨ (Cond.fieldLinkNest own index R0 n d host).before a0 Z = true) (via : Via Z R0 O n d) (eT : T.heap = h) {v : Value} (F : Sta Z h O n d v)
    (hd : decode c.code pc = .ok (.getstatic index, 3)) (hp : pc + 3 = q) (k : ∀ T', Stand p l e R s m args below meth c T' locs cells slots → T'.heap = h → Ga p e below s Q C S T' m q Ls (v :: st)) : Ga p e below s Q C S T m pc Ls st := by
  subst hp
  obtain ⟨T', X', e', sx⟩ := getS2 X hx hZ hown w via eT F (g := mkF m pc Ls st) rfl hd
  exact Ga.stp sx (k T' X' e')
theorem g_cast (X : Stand p l e R s m args below meth c T locs cells slots) (hx : p.tables.exec = Jvm.exec) (hZ : Z.Warmed39 s.vm) (hown : s.vm.findClass own = some m.cls) {K : String} {index : Nat} (w : (Cond.classLink own index K).before a0 Z = true) (eT : T.heap = h) {a : Addr} (F : Ins Z h a K true)
    (hd : decode c.code pc = .ok (.checkcast index, 3)) (hp : pc + 3 = q) (k : ∀ T', Stand p l e R s m args below meth c T' locs cells slots → T'.heap = h → Ga p e below s Q C S T' m q Ls (.ref a :: st)) : Ga p e below s Q C S T m pc Ls (.ref a :: st) := by
  subst hp
  obtain ⟨T', X', e', sx⟩ := castY X hx hZ hown w eT F (g := mkF m pc Ls (.ref a :: st)) rfl rfl hd
  exact Ga.stp sx (k T' X' e')
theorem g_static (X : Stand p l e R s m args below meth c T locs cells slots) (hx : p.tables.exec = Jvm.exec) (hZ : Z.Warmed39 s.vm) (hown : s.vm.findClass own = some m.cls) {index : Nat} {y : MethodName} {ret : Option FieldType} {bytes : ByteArray} {maxL : Nat} {rm : Room} {as' : Array Value} {Q' : Option Value → Heap → List Loc → Prop} (w1 : (Cond.methodLink own index y).before a0 Z = true) (w2 : (Cond.static y).before a0 Z = true) (w3 : (Cond.initialized y.cls).before a0 Z = true) (w4 : (Cond.code y bytes maxL ret).before a0 Z = true) (hy : y.cls ≠ "java/lang/invoke/MethodHandle" ∧ y.cls ≠ "java/lang/invoke/VarHandle")
    (hM : Ct l Z y bytes maxL ret [] rm as' h Q') (hsz : Ls.size = c.maxLocals) (eT : T.heap = h) (argsL : List Value) {rest : List Value} (has : as' = argsL.toArray) (hst : st = argsL.reverse ++ rest) {W : Nat} (hW : (rest.map fun v => v.category).sum ≤ W) (hf : rm.frames + 1 ≤ R.frames) (hl : W + (maxL + 11) + rm.locals ≤ R.locals) (hcl : cells + rm.cells ≤ R.cells) (hsl : slots + rm.slots ≤ R.slots) (hlen : ∀ sig, parseMethodDescriptor y.desc = some sig → argsL.length = sig.parameters.length) (hd : decode c.code pc = .ok (.invokestatic index, 3)) (hp : pc + 3 = q) (k : ∀ v T' L, Stand p l e R s m args below meth c T' (locs ++ L) (cells + rm.cells) (slots + rm.slots) → Q' v T'.heap L → Ga p e below s Q C S T' m q Ls (v.toList ++ rest)) : Ga p e below s Q C S T m pc Ls st := by
  subst hp has hst
  obtain ⟨_, _, ⟨T', L', k', n'⟩, -, X', ⟨Lc, hQ', l1, y1, z1⟩, sx⟩ := Jvm.LawKit.callS X hx (y := y) hown (mvT hZ w1) (mvT hZ w2) (mvT hZ w3) (mvT hZ w4) hy (backOf (W := W) hM hZ w4 w3 hf hl) (g := mkF m pc Ls (argsL.reverse ++ rest)) rfl hsz (argsL := argsL) (rest := rest) hlen rfl (by show 2 * 0 + _ ≤ _; omega) hd (fun _ _ => ⟨rfl, eT, hcl, hsl⟩)
  dsimp only [Pt.U, Pt.locs, Pt.cells, Pt.slots] at X' l1 y1 z1 sx hQ'
  subst l1 y1 z1
  exact Ga.stp sx (k _ T' Lc X' hQ')
theorem g_virtual (X : Stand p l e R s m args below meth c T locs cells slots) (hx : p.tables.exec = Jvm.exec) (hZ : Z.Warmed39 s.vm) (hown : s.vm.findClass own = some m.cls) {index : Nat} {y z : MethodName} {K : String} {ret : Option FieldType} {bytes : ByteArray} {maxL : Nat} {rm : Room} {as' : Array Value} {Q' : Option Value → Heap → List Loc → Prop} (w1 : (Cond.methodLink own index y).before a0 Z = true) (w2 : (Cond.declares y).before a0 Z = true) (nf : NotFace s y) (w3 : (Cond.selects K y z).before a0 Z = true) (w4 : (Cond.instanceMethod z).before a0 Z = true) (w5 : (Cond.initialized z.cls).before a0 Z = true) (w6 : (Cond.code z bytes maxL ret).before a0 Z = true) (hy : y.cls ≠ "java/lang/invoke/MethodHandle" ∧ y.cls ≠ "java/lang/invoke/VarHandle") {a : Addr} (E : Exa Z h a K)
    (hM : Ct l Z z bytes maxL ret [] rm as' h Q') (hsz : Ls.size = c.maxLocals) (eT : T.heap = h) (argsL : List Value) {rest : List Value} (has : as' = (.ref a :: argsL).toArray) (hst : st = argsL.reverse ++ .ref a :: rest) {W : Nat} (hW : (rest.map fun v => v.category).sum ≤ W) (hf : rm.frames + 1 ≤ R.frames) (hl : W + (maxL + 11) + rm.locals ≤ R.locals) (hcl : cells + rm.cells ≤ R.cells) (hsl : slots + rm.slots ≤ R.slots) (hlen : ∀ sig, parseMethodDescriptor y.desc = some sig → argsL.length = sig.parameters.length) (hd : decode c.code pc = .ok (.invokevirtual index, 3)) (hp : pc + 3 = q) (k : ∀ v T' L, Stand p l e R s m args below meth c T' (locs ++ L) (cells + rm.cells) (slots + rm.slots) → Q' v T'.heap L → Ga p e below s Q C S T' m q Ls (v.toList ++ rest)) : Ga p e below s Q C S T m pc Ls st := by
  subst hp has hst
  obtain ⟨cq, kq, qa, qb, qc⟩ := isOf hZ eT E
  obtain ⟨_, _, ⟨T', L', k', n'⟩, -, X', ⟨Lc, hQ', l1, y1, z1⟩, sx⟩ := X.virtualBack hx (y := y) (z := z) hown (mvT hZ w1) (mvT hZ w2) nf (mvT hZ w3) (mvT hZ w4) hy (backOf (W := W) hM hZ w6 w5 hf hl) qa qc (g := mkF m pc Ls (argsL.reverse ++ .ref a :: rest)) rfl hsz (Steps.refl _) (argsL := argsL) (rest := rest) hlen rfl (by show 2 * 0 + _ ≤ _; omega) hd (fun _ _ => ⟨rfl, eT, hcl, hsl⟩)
  dsimp only [Pt.U, Pt.locs, Pt.cells, Pt.slots] at X' l1 y1 z1 sx hQ'
  subst l1 y1 z1
  exact Ga.stp (fun _ kk => sx.trans kk) (k _ T' Lc X' hQ')
variable {ka : ClassId} {ty : FieldType} {z j : Int32} {vs : List Value} {dv : Value} {a : Addr}
theorem g_len (X : Stand p l e R s m args below meth c T locs cells slots) (hx : p.tables.exec = Jvm.exec) (hZ : Z.Warmed39 s.vm) (eT : T.heap = h) (A : Arv Z h a ka ty z vs dv) (hd : decode c.code pc = .ok (.arraylength, 1)) (hp : pc + 1 = q) (g : Ga p e below s Q C S T m q Ls (.int z :: st)) : Ga p e below s Q C S T m pc Ls (.ref a :: st) := by
  subst hp
  obtain ⟨cl, Ar, -, Sz, N, -, -⟩ := A
  refine Ga.stp (fun t k => X.arraylength hx (by rw [eT]; exact Ar.1) (State.isArrayOf_alike hZ.alike Ar.2.1) (g := mkF m pc Ls (.ref a :: st)) rfl rfl hd t ?_) g
  rw [len_of Sz N]; exact k
theorem g_aaload (X : Stand p l e R s m args below meth c T locs cells slots) (hx : p.tables.exec = Jvm.exec) (hZ : Z.Warmed39 s.vm) (eT : T.heap = h) (A : Arv Z h a ka ty z vs dv) (hr : ty.isReference = true) {v : Value} (hin : ¬ j < 0 ∧ j < z) (hv : vs.getD j.toNatClampNeg dv = v) (hd : decode c.code pc = .ok (.aaload, 1)) (hp : pc + 1 = q) (g : Ga p e below s Q C S T m q Ls (v :: st)) : Ga p e below s Q C S T m pc Ls (.int j :: .ref a :: st) := by
  subst hp
  obtain ⟨cl, Ar, -, Sz, N, Hs, -⟩ := A
  exact Ga.stp (fun t k => X.aaload hx (j := j) (v := v) (by rw [eT]; exact Ar.1) (State.isArrayOf_alike hZ.alike Ar.2.1) hr Ar.2.2 (inb_of Sz hin) (Hs.at (inb_of Sz hin) hv) (g := mkF m pc Ls (.int j :: .ref a :: st)) rfl rfl hd t k) g
theorem g_clone (X : Stand p l e R s m args below meth c T locs cells slots) (hx : p.tables.exec = Jvm.exec) (hZ : Z.Warmed39 s.vm) (hown : s.vm.findClass own = some m.cls) {ad : String} {index : Nat} (w1 : (Cond.methodLink own index ⟨ad, "clone", "()Ljava/lang/Object;"⟩).before a0 Z = true) (w2 : (Cond.sameMethod ad "java/lang/Object" "clone" "()Ljava/lang/Object;").before a0 Z = true) (w3 : (Cond.native ⟨"java/lang/Object", "clone", "()Ljava/lang/Object;"⟩).before a0 Z = true)
    (w4 : (Cond.instanceMethod ⟨"java/lang/Object", "clone", "()Ljava/lang/Object;"⟩).before a0 Z = true) (w5 : (Cond.selects ad ⟨ad, "clone", "()Ljava/lang/Object;"⟩ ⟨"java/lang/Object", "clone", "()Ljava/lang/Object;"⟩).before a0 Z = true) (w6 : (Cond.castable ad "java/lang/Cloneable").before a0 Z = true)
    (eT : T.heap = h) (A : Arv Z h a ka ty z vs dv) (E : Exa Z h a ad) (hsz : Ls.size = c.maxLocals) (hd : decode c.code pc = .ok (.invokevirtual index, 3)) (hp : pc + 3 = q) (hf : 1 ≤ R.frames) {W : Nat} (hW : (st.map fun v => v.category).sum ≤ W) (hl : W + 14 ≤ R.locals) (cap : Nat) (hcap : z.toNatClampNeg ≤ cap) (hc : cells + 1 ≤ R.cells) (hsl : slots + cap ≤ R.slots)
    (k : ∀ T' h' b, Stand p l e R s m args below meth c T' locs (cells + 1) (slots + cap) → T'.heap = h' → b = h.size → Ext h h' → Exa Z h' b ad → Arv Z h' b ka ty z vs dv → Ga p e below s Q C S T' m q Ls (.ref b :: st)) : Ga p e below s Q C S T m pc Ls (.ref a :: st) := by
  subst hp
  obtain ⟨T', h', X', e', E', A', Ea, sx⟩ := cloneH X hx hZ hown w1 w2 w3 w4 w5 w6 eT A.arh E (g := mkF m pc Ls (.ref a :: st)) rfl hsz rfl hd hf (W := W) (by show 2 * 0 + _ ≤ _; omega) hl hcap hc hsl
  exact Ga.stp sx (k T' h' _ X' e' rfl E' Ea A')
end GoKit

theorem own_irrI (x : Int32) : ¬ x < x := Int32.lt_irrefl
theorem own_irrJ (x : Int64) : ¬ x < x := Int64.lt_irrefl
theorem own_narc (x : Int32) : nar .char (x &&& (255 : Int32)) = (x &&& (255 : Int32)) := i2c_mask x
theorem own_nar (x : Int32) : nar .byte x = x.toInt8.toInt32 := rfl
theorem own_bb (x : Int32) : x.toInt8.toInt32.toInt8.toInt32 = x.toInt8.toInt32 := by simp
theorem own_nb {h : Heap} {b b' y : Addr} (hb : b' = b ∨ h.size ≤ b') (lt : y < h.size) (ne : y ≠ b) : y ≠ b' := hb.elim (fun q => q ▸ ne) (fun q => Nat.ne_of_lt (Nat.lt_of_lt_of_le lt q))
theorem own_ng {h : Heap} {b b' : Addr} {n0 : Nat} (hb : b' = b ∨ h.size ≤ b') (g : n0 ≤ b) (Z : n0 ≤ h.size) : n0 ≤ b' := hb.elim (fun q => q ▸ g) (fun q => Nat.le_trans Z q)
theorem own_insK {Z : State} {h h' : Heap} {a : Addr} {C : String} {ws : List Addr} (F : Ins Z h a C true) (K : Keep h h' ws) : Ins Z h' a C true := by
  obtain ⟨cell, cT, h1, h2, h3⟩ := F
  obtain ⟨c', q1, q2, q3, -⟩ := K.2.2 _ _ h1
  exact ⟨c', cT, q1, h2, by rw [q2, q3]; exact h3⟩
theorem d_prog_7_m_1_0 : decode prog_7_method_1_code 0 = .ok (.getstatic 16, 3) := by decide +kernel
theorem d_prog_7_m_1_3 : decode prog_7_method_1_code 3 = .ok (.invokevirtual 20, 3) := by decide +kernel
theorem d_prog_7_m_1_6 : decode prog_7_method_1_code 6 = .ok (.checkcast 21, 3) := by decide +kernel
theorem d_prog_7_m_1_9 : decode prog_7_method_1_code 9 = .ok (.areturn, 1) := by decide +kernel
theorem d_prog_7_m_4_0 : decode prog_7_method_4_code 0 = .ok (.invokestatic 42, 3) := by decide +kernel
theorem d_prog_7_m_4_3 : decode prog_7_method_4_code 3 = .ok (.astore_n 1, 1) := by decide +kernel
theorem d_prog_7_m_4_4 : decode prog_7_method_4_code 4 = .ok (.aload_n 1, 1) := by decide +kernel
theorem d_prog_7_m_4_5 : decode prog_7_method_4_code 5 = .ok (.arraylength, 1) := by decide +kernel
theorem d_prog_7_m_4_6 : decode prog_7_method_4_code 6 = .ok (.istore_n 2, 1) := by decide +kernel
theorem d_prog_7_m_4_7 : decode prog_7_method_4_code 7 = .ok (.iconst 0, 1) := by decide +kernel
theorem d_prog_7_m_4_8 : decode prog_7_method_4_code 8 = .ok (.istore_n 3, 1) := by decide +kernel
theorem d_prog_7_m_4_9 : decode prog_7_method_4_code 9 = .ok (.iload_n 3, 1) := by decide +kernel
theorem d_prog_7_m_4_10 : decode prog_7_method_4_code 10 = .ok (.iload_n 2, 1) := by decide +kernel
theorem d_prog_7_m_4_11 : decode prog_7_method_4_code 11 = .ok (.if_icmp .ge 26, 3) := by decide +kernel
theorem d_prog_7_m_4_14 : decode prog_7_method_4_code 14 = .ok (.aload_n 1, 1) := by decide +kernel
theorem d_prog_7_m_4_15 : decode prog_7_method_4_code 15 = .ok (.iload_n 3, 1) := by decide +kernel
theorem d_prog_7_m_4_16 : decode prog_7_method_4_code 16 = .ok (.aaload, 1) := by decide +kernel
theorem d_prog_7_m_4_17 : decode prog_7_method_4_code 17 = .ok (.astore 4, 2) := by decide +kernel
theorem d_prog_7_m_4_19 : decode prog_7_method_4_code 19 = .ok (.aload 4, 2) := by decide +kernel
theorem d_prog_7_m_4_21 : decode prog_7_method_4_code 21 = .ok (.getfield 35, 3) := by decide +kernel
theorem d_prog_7_m_4_24 : decode prog_7_method_4_code 24 = .ok (.iload_n 0, 1) := by decide +kernel
theorem d_prog_7_m_4_25 : decode prog_7_method_4_code 25 = .ok (.if_icmp .ne 6, 3) := by decide +kernel
theorem d_prog_7_m_4_28 : decode prog_7_method_4_code 28 = .ok (.aload 4, 2) := by decide +kernel
theorem d_prog_7_m_4_30 : decode prog_7_method_4_code 30 = .ok (.areturn, 1) := by decide +kernel
theorem d_prog_7_m_4_31 : decode prog_7_method_4_code 31 = .ok (.iinc 3 1, 3) := by decide +kernel
theorem d_prog_7_m_4_34 : decode prog_7_method_4_code 34 = .ok (.goto (-25), 3) := by decide +kernel
theorem d_m_2_0 : decode method_2_code 0 = .ok (.iload_n 0, 1) := by decide +kernel
theorem d_m_2_1 : decode method_2_code 1 = .ok (.ifCond .ne 7, 3) := by decide +kernel
theorem d_m_2_4 : decode method_2_code 4 = .ok (.getstatic 7, 3) := by decide +kernel
theorem d_m_2_7 : decode method_2_code 7 = .ok (.areturn, 1) := by decide +kernel
theorem d_m_2_8 : decode method_2_code 8 = .ok (.iload_n 0, 1) := by decide +kernel
theorem d_m_2_9 : decode method_2_code 9 = .ok (.iconst 1, 1) := by decide +kernel
theorem d_m_2_10 : decode method_2_code 10 = .ok (.if_icmp .ne 7, 3) := by decide +kernel
theorem d_m_2_13 : decode method_2_code 13 = .ok (.getstatic 13, 3) := by decide +kernel
theorem d_m_2_16 : decode method_2_code 16 = .ok (.areturn, 1) := by decide +kernel
theorem d_m_2_17 : decode method_2_code 17 = .ok (.iload_n 0, 1) := by decide +kernel
theorem d_m_2_18 : decode method_2_code 18 = .ok (.iconst 2, 1) := by decide +kernel
theorem d_m_2_19 : decode method_2_code 19 = .ok (.if_icmp .ne 7, 3) := by decide +kernel
theorem d_m_2_22 : decode method_2_code 22 = .ok (.getstatic 16, 3) := by decide +kernel
theorem d_m_2_25 : decode method_2_code 25 = .ok (.areturn, 1) := by decide +kernel
theorem d_m_2_26 : decode method_2_code 26 = .ok (.getstatic 19, 3) := by decide +kernel
theorem d_m_2_29 : decode method_2_code 29 = .ok (.areturn, 1) := by decide +kernel
theorem d_prog_7_m_5_0 : decode prog_7_method_5_code 0 = .ok (.aload_n 0, 1) := by decide +kernel
theorem d_prog_7_m_5_1 : decode prog_7_method_5_code 1 = .ok (.getfield 35, 3) := by decide +kernel
theorem d_prog_7_m_5_4 : decode prog_7_method_5_code 4 = .ok (.ireturn, 1) := by decide +kernel
theorem pd_0 : parseMethodDescriptor "()[Lcom/example/glowworm/glowworm/MobilityState;" = some ⟨[], some (.array (.object "com/example/glowworm/glowworm/MobilityState"))⟩ := by decide +kernel
theorem pd_1 : parseMethodDescriptor "(I)Lcom/example/glowworm/glowworm/MobilityState;" = some ⟨[.int], some (.object "com/example/glowworm/glowworm/MobilityState")⟩ := by decide +kernel
theorem pd_2 : parseMethodDescriptor "()I" = some ⟨[], some .int⟩ := by decide +kernel
theorem pn_0 : plainName "com/example/glowworm/glowworm/MobilityState" = true := by first | (simp [plainName, overriddenIn]; done) | decide +kernel
theorem pn_1 : plainName "com/example/glowworm/glowworm/MobilityStateFromCodePinLaw" = true := by first | (simp [plainName, overriddenIn]; done) | decide +kernel
theorem own_lt32 {x y : Int32} : x < y ↔ x.toInt < y.toInt := Int32.lt_iff_toInt_lt
theorem own_eq32 {x y : Int32} : x = y ↔ x.toInt = y.toInt := Int32.toInt_inj.symm
theorem own_i0 : (0 : Int32).toInt = 0 := rfl
theorem own_i1 : (1 : Int32).toInt = 1 := rfl
theorem own_nat {j z : Int32} (h0 : ¬ j < 0) (h : j < z) : j.toNatClampNeg < z.toNatClampNeg := by
  have a := nat_of h0
  have hz : ¬ z < 0 := by rw [own_lt32] at *; rw [own_i0] at *; omega
  have b := nat_of hz
  rw [own_lt32] at h; omega
theorem own_mx {x v : Int32} (h : (x &&& (2147483647 : Int32)) = v) : ¬ v < (0 : Int32) := by
  have e := c_mask x 2147483647 31 (by decide) (by decide)
  rw [h] at e; rw [own_lt32, own_i0]; omega
theorem own_mx1 {x v : Int32} (h : (x &&& (2147483647 : Int32)) = v) (h0 : ¬ v = 0) : ¬ v < (1 : Int32) := by
  have e := c_mask x 2147483647 31 (by decide) (by decide)
  rw [h] at e; rw [own_eq32, own_i0] at h0; rw [own_lt32, own_i1]; omega
theorem own_rem3 {x v : Int32} (h0 : ¬ x < (0 : Int32)) (h : (x % (3 : Int32)) = v) : v = (0 : Int32) ∨ v = (1 : Int32) ∨ v = (2 : Int32) := by
  have e := (c_irem x 3 3 rfl).1 (by rw [own_lt32, own_i0] at h0; omega)
  rw [h] at e
  have : v.toInt = 0 ∨ v.toInt = 1 ∨ v.toInt = 2 := by omega
  rcases this with q | q | q
  · left; exact Int32.toInt_inj.mp q
  · right; left; exact Int32.toInt_inj.mp q
  · right; right; exact Int32.toInt_inj.mp q
theorem own_ushr0 (x q : Int32) (k : Nat) (hk : q.toBitVec.toNat % 32 = k) (hk0 : 0 < k) : ¬ ((x.toUInt32 >>> (q &&& 31).toUInt32).toInt32) < (0 : Int32) := by
  have e := c_iushr x q k hk hk0
  rw [own_lt32, e, own_i0]
  have : 0 ≤ (x.toInt % 4294967296) / ((2 ^ k : Nat) : Int) := Int.ediv_nonneg (Int.emod_nonneg _ (by decide)) (Int.natCast_nonneg _)
  omega
theorem own_m3 {x v : Int32} (h : (x &&& (3 : Int32)) = v) : v = (0 : Int32) ∨ v = (1 : Int32) ∨ v = (2 : Int32) ∨ v = (3 : Int32) := by
  have e := c_mask x 3 2 (by decide) (by decide)
  rw [h] at e
  have : v.toInt = 0 ∨ v.toInt = 1 ∨ v.toInt = 2 ∨ v.toInt = 3 := by omega
  rcases this with q | q | q | q
  · left; exact Int32.toInt_inj.mp q
  · right; left; exact Int32.toInt_inj.mp q
  · right; right; left; exact Int32.toInt_inj.mp q
  · right; right; right; exact Int32.toInt_inj.mp q
theorem own_eqi {args : Array Value} {s : State} {idx : List Nat} {t : Term} {n : Int32} (h : (Jvm.Cond.eq t (.int n)).value args s none s idx = some true) : t.eval args s none idx s = some (.int n) := by
  obtain ⟨x, y, h1, h2, h3, h4⟩ := cmp_v (Or.inl h)
  cases (Term.int_eval n).symm.trans h2
  obtain ⟨z, rfl⟩ := h4
  have e := gotT (Cond.eq_ints h1 h2) h
  subst e; exact h1
theorem own_len0 {args : Array Value} {s : State} {t : Term} {a : Addr} {cl : Cell} {ty : FieldType} {n : Int32} (A : Arr s s.heap a cl ty) (ev : t.eval args s none [] s = some (.ref a)) (hl : (Term.length t).eval args s none [] s = some (.int n)) : cl.slots.size < 2 ^ 31 ∧ cl.slots.size.toInt32 = n := by
  have h2 : s.arrayAt? a = some cl := A.fin (Vm.Alike.refl _)
  simp only [Term.eval, ev, h2, Option.bind_eq_bind, Option.bind_some] at hl
  split at hl
  · rename_i q; exact ⟨q, by simpa using hl⟩
  · cases hl
theorem own_empty {args : Array Value} {s : State} {t : Term} {a : Addr} {cl : Cell} {ty : FieldType} (hf : Fit s) (A : Arr s s.heap a cl ty) (ev : t.eval args s none [] s = some (.ref a)) (hl : (Term.length t).eval args s none [] s = some (.int 0)) : Arv s s.heap a cl.cls ty (0 : Int32) [] .null :=
  Arv.start hf A (own_len0 A ev hl).1 (own_len0 A ev hl).2 (by decide) rfl trivial
theorem own_eqr {args : Array Value} {s : State} {idx : List Nat} {t u : Term} {a : Addr} (h : (Jvm.Cond.eq t u).value args s none s idx = some true) (hu : u.eval args s none idx s = some (.ref a)) : t.eval args s none idx s = some (.ref a) := by
  obtain ⟨x, y, h1, h2, h3, h4⟩ := cmp_v (Or.inl h)
  cases hu.symm.trans h2
  have hx : x.isRef = true := h4.2
  have e := gotT (eq_R h1 h2 hx rfl) h
  subst e; exact h1

def Q_vals (Z : State) (va : Addr) (kva : ClassId) (u0 : Addr) (u1 : Addr) (u2 : Addr) (u3 : Addr) (h0 : Heap) (n0 : Nat) (v : Option Value) (h : Heap) (L : List Loc) : Prop := ∃ (b : Addr), v = some (.ref b) ∧ Fr n0 L ∧ Keep h0 h [] ∧ h0.size ≤ b ∧ Arv Z h b kva (.object "com/example/glowworm/glowworm/MobilityState") (4 : Int32) [(.ref u0), (.ref u1), (.ref u2), (.ref u3)] .null
theorem ef_vals (m : MethodId)  : entryFrame m #[] 0 = mkF m 0 #[] [] := by first | (simp [entryFrame, mkF, argsToLocals, Value.category]; done) | rfl
set_option maxRecDepth 65536 in
set_option maxHeartbeats 40000000 in
theorem rm_vals (l : Launch) (Z : State) (a0 : Array Value) (hw : ∀ d ∈ tables_1, d.before a0 Z = true) (va : Addr) (kva : ClassId) (u0 : Addr) (u1 : Addr) (u2 : Addr) (u3 : Addr) (h0 : Heap) (n0 : Nat) (Z0 : n0 ≤ h0.size) (old0 : Old Z n0 h0) (S0__VALUES : Sta Z Z.heap "com/example/glowworm/glowworm/MobilityState" "$VALUES" "[Lcom/example/glowworm/glowworm/MobilityState;" (.ref va)) (V0_va : Arv Z Z.heap va kva (.object "com/example/glowworm/glowworm/MobilityState") (4 : Int32) [(.ref u0), (.ref u1), (.ref u2), (.ref u3)] .null) (E0_va : Exa Z Z.heap va "[Lcom/example/glowworm/glowworm/MobilityState;") :
    Ct l Z (⟨"com/example/glowworm/glowworm/MobilityState", "values", "()[Lcom/example/glowworm/glowworm/MobilityState;"⟩ : MethodName) prog_7_method_1_code 0 (some (.array (.object "com/example/glowworm/glowworm/MobilityState"))) [] ({ frames := 1, cells := 1, slots := 4, locals := 14 } : Room) #[] h0 (Q_vals Z va kva u0 u1 u2 u3 h0 n0) := by
  refine own_body (plainFor_of_name pn_0) (fun m => ef_vals m) ?_
  intro p e s m below meth c T0 hx hby hml hZ hown hnm hret hlk X0 e0
  have N0 := Fr.nil n0
  refine g_getS X0 hx hZ hown (host := "") (Or.inl (hw _ (List.mem_of_getElem? (i := 7) rfl))) Via.refl e0 (Sta.ext old0.2 S0__VALUES) (hb hby d_prog_7_m_1_0) rfl fun T1 X1 e1 => ?_
  refine g_clone X1 hx hZ hown (hw _ (List.mem_of_getElem? (i := 9) rfl)) (hw _ (List.mem_of_getElem? (i := 10) rfl)) (hw _ (List.mem_of_getElem? (i := 14) rfl)) (hw _ (List.mem_of_getElem? (i := 12) rfl)) (hw _ (List.mem_of_getElem? (i := 13) rfl)) (hw _ (List.mem_of_getElem? (i := 15) rfl)) e1 (V0_va.ext old0.2) (Exa.ext old0.2 E0_va) (by rw [hml]; rfl) (hb hby d_prog_7_m_1_3) rfl (by decide) (W := 0) (Nat.le_of_eq rfl) (by decide) 4 (by decide) (by decide) (by decide) fun T2 h2 b2 X2 e2 q2 E2 A2 V2 => ?_
  have g_b2 : n0 ≤ b2 := Nat.le_trans Z0 (Nat.le_of_eq q2.symm)
  have sz_b2 : h0.size ≤ b2 := Nat.le_trans (Keep.refl h0 []).1 (Nat.le_of_eq q2.symm)
  have Z2 : n0 ≤ h2.size := Nat.le_trans Z0 E2.1
  have kk2 : Keep h0 h2 [] := (Keep.refl h0 []).ext E2
  refine g_cast X2 hx hZ hown (hw _ (List.mem_of_getElem? (i := 21) rfl)) e2 (Ins.self A2) (hb hby d_prog_7_m_1_6) rfl fun T3 X3 e3 => ?_
  exact g_retR X3 hx hret hlk rfl rfl rfl (hb hby d_prog_7_m_1_9) (by decide) (by decide) (by rw [e3]; exact ⟨b2, rfl, N0, kk2, sz_b2, V2⟩)
def Q_fc0 (Z : State) (va : Addr) (kva : ClassId) (u0 : Addr) (u1 : Addr) (u2 : Addr) (u3 : Addr) (h0 : Heap) (n0 : Nat) (v : Option Value) (h : Heap) (L : List Loc) : Prop := v = some (.ref u0) ∧ Fr n0 L ∧ Keep h0 h []
theorem ef_fc0 (m : MethodId) (x0 : Int32) : entryFrame m #[(.int x0)] 5 = mkF m 0 #[.val (.int x0), .unset, .unset, .unset, .unset] [] := by first | (simp [entryFrame, mkF, argsToLocals, Value.category]; done) | rfl
set_option maxRecDepth 65536 in
set_option maxHeartbeats 40000000 in
theorem rm_fc0 (l : Launch) (Z : State) (a0 : Array Value) (hw : ∀ d ∈ tables_1, d.before a0 Z = true) (va : Addr) (kva : ClassId) (u0 : Addr) (u1 : Addr) (u2 : Addr) (u3 : Addr) (h0 : Heap) (n0 : Nat) (Z0 : n0 ≤ h0.size) (old0 : Old Z n0 h0) (S0__VALUES : Sta Z Z.heap "com/example/glowworm/glowworm/MobilityState" "$VALUES" "[Lcom/example/glowworm/glowworm/MobilityState;" (.ref va)) (V0_va : Arv Z Z.heap va kva (.object "com/example/glowworm/glowworm/MobilityState") (4 : Int32) [(.ref u0), (.ref u1), (.ref u2), (.ref u3)] .null) (E0_va : Exa Z Z.heap va "[Lcom/example/glowworm/glowworm/MobilityState;") (F0_code_u0 : Fld Z Z.heap u0 "com/example/glowworm/glowworm/MobilityState" "code" "I" (.int (0 : Int32))) (F0_code_u1 : Fld Z Z.heap u1 "com/example/glowworm/glowworm/MobilityState" "code" "I" (.int (1 : Int32))) (F0_code_u2 : Fld Z Z.heap u2 "com/example/glowworm/glowworm/MobilityState" "code" "I" (.int (2 : Int32))) (F0_code_u3 : Fld Z Z.heap u3 "com/example/glowworm/glowworm/MobilityState" "code" "I" (.int (3 : Int32))) :
    Ct l Z (⟨"com/example/glowworm/glowworm/MobilityState", "fromCode", "(I)Lcom/example/glowworm/glowworm/MobilityState;"⟩ : MethodName) prog_7_method_4_code 5 (some (.object "com/example/glowworm/glowworm/MobilityState")) [] ({ frames := 2, cells := 1, slots := 4, locals := 25 } : Room) #[(.int (0 : Int32))] h0 (Q_fc0 Z va kva u0 u1 u2 u3 h0 n0) := by
  refine own_body (plainFor_of_name pn_0) (fun m => ef_fc0 m (0 : Int32)) ?_
  intro p e s m below meth c T0 hx hby hml hZ hown hnm hret hlk X0 e0
  have N0 := Fr.nil n0
  refine g_static X0 hx hZ hown (hw _ (List.mem_of_getElem? (i := 4) rfl)) (hw _ (List.mem_of_getElem? (i := 5) rfl)) (hw _ (List.mem_of_getElem? (i := 2) rfl)) (hw _ (List.mem_of_getElem? (i := 6) rfl)) (by decide) (rm_vals l Z a0 hw va kva u0 u1 u2 u3 h0 n0 Z0 old0 S0__VALUES V0_va E0_va) (by rw [hml]; rfl) e0 [] rfl rfl (W := 0) (Nat.le_of_eq rfl) (by decide) (by decide) (by decide) (by decide) (lenOf pd_0 rfl) (hb hby d_prog_7_m_4_0) rfl fun v1 T1 L1 X1 hQ1 => ?_
  obtain ⟨b_1, rfl, Nq1, kc1, p1_0, p1_1⟩ := hQ1
  have N1 := Fr.app N0 Nq1
  have g_b_1 : n0 ≤ b_1 := Nat.le_trans Z0 p1_0
  have sz_b_1 : h0.size ≤ b_1 := Nat.le_trans (Keep.refl h0 []).1 p1_0
  have kk1 : Keep h0 T1.heap [] := (Keep.refl h0 []).trans kc1 all0
  have Z1 : n0 ≤ T1.heap.size := Nat.le_trans Z0 kc1.1
  have pv1_1 : Arv Z T1.heap b_1 kva (.object "com/example/glowworm/glowworm/MobilityState") (4 : Int32) [(.ref u0), (.ref u1), (.ref u2), (.ref u3)] .null := p1_1
  show Ga _ _ _ _ _ _ _ _ _ _ _ [(.ref b_1)]
  refine g_astoreN X1 hx (Ls' := #[.val (.int (0 : Int32)), .val (.ref b_1), .unset, .unset, .unset]) (hb hby d_prog_7_m_4_3) rfl rfl rfl ?_
  refine g_aloadN X1 hx (hb hby d_prog_7_m_4_4) rfl rfl rfl ?_
  refine g_len X1 hx hZ rfl pv1_1 (hb hby d_prog_7_m_4_5) rfl ?_
  refine g_istoreN X1 hx (Ls' := #[.val (.int (0 : Int32)), .val (.ref b_1), .val (.int (4 : Int32)), .unset, .unset]) (hb hby d_prog_7_m_4_6) rfl rfl ?_
  refine g_iconst X1 hx (r := (0 : Int32)) (hb hby d_prog_7_m_4_7) rfl rfl ?_
  refine g_istoreN X1 hx (Ls' := #[.val (.int (0 : Int32)), .val (.ref b_1), .val (.int (4 : Int32)), .val (.int (0 : Int32)), .unset]) (hb hby d_prog_7_m_4_8) rfl rfl ?_
  refine g_iloadN X1 hx (hb hby d_prog_7_m_4_9) rfl rfl ?_
  refine g_iloadN X1 hx (hb hby d_prog_7_m_4_10) rfl rfl ?_
  refine g_icmpN X1 hx (hb hby d_prog_7_m_4_11) rfl (XT.ii_ge_f (by decide : (0 : Int32) < (4 : Int32))) ?_
  refine g_aloadN X1 hx (hb hby d_prog_7_m_4_14) rfl rfl rfl ?_
  refine g_iloadN X1 hx (hb hby d_prog_7_m_4_15) rfl rfl ?_
  refine g_aaload X1 hx hZ rfl pv1_1 rfl (v := (.ref u0)) ⟨by decide, by decide⟩ rfl (hb hby d_prog_7_m_4_16) rfl ?_
  refine g_astore X1 hx (Ls' := #[.val (.int (0 : Int32)), .val (.ref b_1), .val (.int (4 : Int32)), .val (.int (0 : Int32)), .val (.ref u0)]) (hb hby d_prog_7_m_4_17) rfl rfl rfl ?_
  refine g_aload X1 hx (hb hby d_prog_7_m_4_19) rfl rfl rfl ?_
  have f3 : Old Z n0 T1.heap := (old0.keep kc1 all0)
  refine g_getF X1 hx hZ hown (host := "") (Or.inl (hw _ (List.mem_of_getElem? (i := 23) rfl))) Via.refl rfl (Fld.ext f3.2 F0_code_u0) (hb hby d_prog_7_m_4_21) rfl fun T2 X2 e2 => ?_
  refine g_iloadN X2 hx (hb hby d_prog_7_m_4_24) rfl rfl ?_
  refine g_icmpN X2 hx (hb hby d_prog_7_m_4_25) rfl (XT.ii_ne_f (by decide : (0 : Int32) = (0 : Int32))) ?_
  refine g_aload X2 hx (hb hby d_prog_7_m_4_28) rfl rfl rfl ?_
  exact g_retR X2 hx hret hlk rfl rfl rfl (hb hby d_prog_7_m_4_30) (by decide) (by decide) (by rw [e2]; exact ⟨rfl, N1, kk1⟩)
def Q_fc1 (Z : State) (va : Addr) (kva : ClassId) (u0 : Addr) (u1 : Addr) (u2 : Addr) (u3 : Addr) (h0 : Heap) (n0 : Nat) (v : Option Value) (h : Heap) (L : List Loc) : Prop := v = some (.ref u1) ∧ Fr n0 L ∧ Keep h0 h []
theorem ef_fc1 (m : MethodId) (x0 : Int32) : entryFrame m #[(.int x0)] 5 = mkF m 0 #[.val (.int x0), .unset, .unset, .unset, .unset] [] := by first | (simp [entryFrame, mkF, argsToLocals, Value.category]; done) | rfl
set_option maxRecDepth 65536 in
set_option maxHeartbeats 40000000 in
theorem rm_fc1 (l : Launch) (Z : State) (a0 : Array Value) (hw : ∀ d ∈ tables_1, d.before a0 Z = true) (va : Addr) (kva : ClassId) (u0 : Addr) (u1 : Addr) (u2 : Addr) (u3 : Addr) (h0 : Heap) (n0 : Nat) (Z0 : n0 ≤ h0.size) (old0 : Old Z n0 h0) (S0__VALUES : Sta Z Z.heap "com/example/glowworm/glowworm/MobilityState" "$VALUES" "[Lcom/example/glowworm/glowworm/MobilityState;" (.ref va)) (V0_va : Arv Z Z.heap va kva (.object "com/example/glowworm/glowworm/MobilityState") (4 : Int32) [(.ref u0), (.ref u1), (.ref u2), (.ref u3)] .null) (E0_va : Exa Z Z.heap va "[Lcom/example/glowworm/glowworm/MobilityState;") (F0_code_u0 : Fld Z Z.heap u0 "com/example/glowworm/glowworm/MobilityState" "code" "I" (.int (0 : Int32))) (F0_code_u1 : Fld Z Z.heap u1 "com/example/glowworm/glowworm/MobilityState" "code" "I" (.int (1 : Int32))) (F0_code_u2 : Fld Z Z.heap u2 "com/example/glowworm/glowworm/MobilityState" "code" "I" (.int (2 : Int32))) (F0_code_u3 : Fld Z Z.heap u3 "com/example/glowworm/glowworm/MobilityState" "code" "I" (.int (3 : Int32))) :
    Ct l Z (⟨"com/example/glowworm/glowworm/MobilityState", "fromCode", "(I)Lcom/example/glowworm/glowworm/MobilityState;"⟩ : MethodName) prog_7_method_4_code 5 (some (.object "com/example/glowworm/glowworm/MobilityState")) [] ({ frames := 2, cells := 1, slots := 4, locals := 25 } : Room) #[(.int (1 : Int32))] h0 (Q_fc1 Z va kva u0 u1 u2 u3 h0 n0) := by
  refine own_body (plainFor_of_name pn_0) (fun m => ef_fc1 m (1 : Int32)) ?_
  intro p e s m below meth c T0 hx hby hml hZ hown hnm hret hlk X0 e0
  have N0 := Fr.nil n0
  refine g_static X0 hx hZ hown (hw _ (List.mem_of_getElem? (i := 4) rfl)) (hw _ (List.mem_of_getElem? (i := 5) rfl)) (hw _ (List.mem_of_getElem? (i := 2) rfl)) (hw _ (List.mem_of_getElem? (i := 6) rfl)) (by decide) (rm_vals l Z a0 hw va kva u0 u1 u2 u3 h0 n0 Z0 old0 S0__VALUES V0_va E0_va) (by rw [hml]; rfl) e0 [] rfl rfl (W := 0) (Nat.le_of_eq rfl) (by decide) (by decide) (by decide) (by decide) (lenOf pd_0 rfl) (hb hby d_prog_7_m_4_0) rfl fun v1 T1 L1 X1 hQ1 => ?_
  obtain ⟨b_1, rfl, Nq1, kc1, p1_0, p1_1⟩ := hQ1
  have N1 := Fr.app N0 Nq1
  have g_b_1 : n0 ≤ b_1 := Nat.le_trans Z0 p1_0
  have sz_b_1 : h0.size ≤ b_1 := Nat.le_trans (Keep.refl h0 []).1 p1_0
  have kk1 : Keep h0 T1.heap [] := (Keep.refl h0 []).trans kc1 all0
  have Z1 : n0 ≤ T1.heap.size := Nat.le_trans Z0 kc1.1
  have pv1_1 : Arv Z T1.heap b_1 kva (.object "com/example/glowworm/glowworm/MobilityState") (4 : Int32) [(.ref u0), (.ref u1), (.ref u2), (.ref u3)] .null := p1_1
  show Ga _ _ _ _ _ _ _ _ _ _ _ [(.ref b_1)]
  refine g_astoreN X1 hx (Ls' := #[.val (.int (1 : Int32)), .val (.ref b_1), .unset, .unset, .unset]) (hb hby d_prog_7_m_4_3) rfl rfl rfl ?_
  refine g_aloadN X1 hx (hb hby d_prog_7_m_4_4) rfl rfl rfl ?_
  refine g_len X1 hx hZ rfl pv1_1 (hb hby d_prog_7_m_4_5) rfl ?_
  refine g_istoreN X1 hx (Ls' := #[.val (.int (1 : Int32)), .val (.ref b_1), .val (.int (4 : Int32)), .unset, .unset]) (hb hby d_prog_7_m_4_6) rfl rfl ?_
  refine g_iconst X1 hx (r := (0 : Int32)) (hb hby d_prog_7_m_4_7) rfl rfl ?_
  refine g_istoreN X1 hx (Ls' := #[.val (.int (1 : Int32)), .val (.ref b_1), .val (.int (4 : Int32)), .val (.int (0 : Int32)), .unset]) (hb hby d_prog_7_m_4_8) rfl rfl ?_
  refine g_iloadN X1 hx (hb hby d_prog_7_m_4_9) rfl rfl ?_
  refine g_iloadN X1 hx (hb hby d_prog_7_m_4_10) rfl rfl ?_
  refine g_icmpN X1 hx (hb hby d_prog_7_m_4_11) rfl (XT.ii_ge_f (by decide : (0 : Int32) < (4 : Int32))) ?_
  refine g_aloadN X1 hx (hb hby d_prog_7_m_4_14) rfl rfl rfl ?_
  refine g_iloadN X1 hx (hb hby d_prog_7_m_4_15) rfl rfl ?_
  refine g_aaload X1 hx hZ rfl pv1_1 rfl (v := (.ref u0)) ⟨by decide, by decide⟩ rfl (hb hby d_prog_7_m_4_16) rfl ?_
  refine g_astore X1 hx (Ls' := #[.val (.int (1 : Int32)), .val (.ref b_1), .val (.int (4 : Int32)), .val (.int (0 : Int32)), .val (.ref u0)]) (hb hby d_prog_7_m_4_17) rfl rfl rfl ?_
  refine g_aload X1 hx (hb hby d_prog_7_m_4_19) rfl rfl rfl ?_
  have f3 : Old Z n0 T1.heap := (old0.keep kc1 all0)
  refine g_getF X1 hx hZ hown (host := "") (Or.inl (hw _ (List.mem_of_getElem? (i := 23) rfl))) Via.refl rfl (Fld.ext f3.2 F0_code_u0) (hb hby d_prog_7_m_4_21) rfl fun T2 X2 e2 => ?_
  refine g_iloadN X2 hx (hb hby d_prog_7_m_4_24) rfl rfl ?_
  refine g_icmpY X2 hx (q := 31) (hb hby d_prog_7_m_4_25) (XT.ii_ne_t (by decide : ¬ (0 : Int32) = (1 : Int32))) (by decide) (by decide) ?_
  refine g_iinc X2 hx (r := (1 : Int32)) (Ls' := #[.val (.int (1 : Int32)), .val (.ref b_1), .val (.int (4 : Int32)), .val (.int (1 : Int32)), .val (.ref u0)]) (hb hby d_prog_7_m_4_31) rfl rfl rfl rfl ?_
  refine g_goto X2 hx (q := 9) (hb hby d_prog_7_m_4_34) (by decide) (by decide) ?_
  refine g_iloadN X2 hx (hb hby d_prog_7_m_4_9) rfl rfl ?_
  refine g_iloadN X2 hx (hb hby d_prog_7_m_4_10) rfl rfl ?_
  refine g_icmpN X2 hx (hb hby d_prog_7_m_4_11) rfl (XT.ii_ge_f (by decide : (1 : Int32) < (4 : Int32))) ?_
  refine g_aloadN X2 hx (hb hby d_prog_7_m_4_14) rfl rfl rfl ?_
  refine g_iloadN X2 hx (hb hby d_prog_7_m_4_15) rfl rfl ?_
  refine g_aaload X2 hx hZ e2 pv1_1 rfl (v := (.ref u1)) ⟨by decide, by decide⟩ rfl (hb hby d_prog_7_m_4_16) rfl ?_
  refine g_astore X2 hx (Ls' := #[.val (.int (1 : Int32)), .val (.ref b_1), .val (.int (4 : Int32)), .val (.int (1 : Int32)), .val (.ref u1)]) (hb hby d_prog_7_m_4_17) rfl rfl rfl ?_
  refine g_aload X2 hx (hb hby d_prog_7_m_4_19) rfl rfl rfl ?_
  refine g_getF X2 hx hZ hown (host := "") (Or.inl (hw _ (List.mem_of_getElem? (i := 23) rfl))) Via.refl e2 (Fld.ext f3.2 F0_code_u1) (hb hby d_prog_7_m_4_21) rfl fun T4 X4 e4 => ?_
  refine g_iloadN X4 hx (hb hby d_prog_7_m_4_24) rfl rfl ?_
  refine g_icmpN X4 hx (hb hby d_prog_7_m_4_25) rfl (XT.ii_ne_f (by decide : (1 : Int32) = (1 : Int32))) ?_
  refine g_aload X4 hx (hb hby d_prog_7_m_4_28) rfl rfl rfl ?_
  exact g_retR X4 hx hret hlk rfl rfl rfl (hb hby d_prog_7_m_4_30) (by decide) (by decide) (by rw [e4]; exact ⟨rfl, N1, kk1⟩)
def Q_fc2 (Z : State) (va : Addr) (kva : ClassId) (u0 : Addr) (u1 : Addr) (u2 : Addr) (u3 : Addr) (h0 : Heap) (n0 : Nat) (v : Option Value) (h : Heap) (L : List Loc) : Prop := v = some (.ref u2) ∧ Fr n0 L ∧ Keep h0 h []
theorem ef_fc2 (m : MethodId) (x0 : Int32) : entryFrame m #[(.int x0)] 5 = mkF m 0 #[.val (.int x0), .unset, .unset, .unset, .unset] [] := by first | (simp [entryFrame, mkF, argsToLocals, Value.category]; done) | rfl
set_option maxRecDepth 65536 in
set_option maxHeartbeats 40000000 in
theorem rm_fc2 (l : Launch) (Z : State) (a0 : Array Value) (hw : ∀ d ∈ tables_1, d.before a0 Z = true) (va : Addr) (kva : ClassId) (u0 : Addr) (u1 : Addr) (u2 : Addr) (u3 : Addr) (h0 : Heap) (n0 : Nat) (Z0 : n0 ≤ h0.size) (old0 : Old Z n0 h0) (S0__VALUES : Sta Z Z.heap "com/example/glowworm/glowworm/MobilityState" "$VALUES" "[Lcom/example/glowworm/glowworm/MobilityState;" (.ref va)) (V0_va : Arv Z Z.heap va kva (.object "com/example/glowworm/glowworm/MobilityState") (4 : Int32) [(.ref u0), (.ref u1), (.ref u2), (.ref u3)] .null) (E0_va : Exa Z Z.heap va "[Lcom/example/glowworm/glowworm/MobilityState;") (F0_code_u0 : Fld Z Z.heap u0 "com/example/glowworm/glowworm/MobilityState" "code" "I" (.int (0 : Int32))) (F0_code_u1 : Fld Z Z.heap u1 "com/example/glowworm/glowworm/MobilityState" "code" "I" (.int (1 : Int32))) (F0_code_u2 : Fld Z Z.heap u2 "com/example/glowworm/glowworm/MobilityState" "code" "I" (.int (2 : Int32))) (F0_code_u3 : Fld Z Z.heap u3 "com/example/glowworm/glowworm/MobilityState" "code" "I" (.int (3 : Int32))) :
    Ct l Z (⟨"com/example/glowworm/glowworm/MobilityState", "fromCode", "(I)Lcom/example/glowworm/glowworm/MobilityState;"⟩ : MethodName) prog_7_method_4_code 5 (some (.object "com/example/glowworm/glowworm/MobilityState")) [] ({ frames := 2, cells := 1, slots := 4, locals := 25 } : Room) #[(.int (2 : Int32))] h0 (Q_fc2 Z va kva u0 u1 u2 u3 h0 n0) := by
  refine own_body (plainFor_of_name pn_0) (fun m => ef_fc2 m (2 : Int32)) ?_
  intro p e s m below meth c T0 hx hby hml hZ hown hnm hret hlk X0 e0
  have N0 := Fr.nil n0
  refine g_static X0 hx hZ hown (hw _ (List.mem_of_getElem? (i := 4) rfl)) (hw _ (List.mem_of_getElem? (i := 5) rfl)) (hw _ (List.mem_of_getElem? (i := 2) rfl)) (hw _ (List.mem_of_getElem? (i := 6) rfl)) (by decide) (rm_vals l Z a0 hw va kva u0 u1 u2 u3 h0 n0 Z0 old0 S0__VALUES V0_va E0_va) (by rw [hml]; rfl) e0 [] rfl rfl (W := 0) (Nat.le_of_eq rfl) (by decide) (by decide) (by decide) (by decide) (lenOf pd_0 rfl) (hb hby d_prog_7_m_4_0) rfl fun v1 T1 L1 X1 hQ1 => ?_
  obtain ⟨b_1, rfl, Nq1, kc1, p1_0, p1_1⟩ := hQ1
  have N1 := Fr.app N0 Nq1
  have g_b_1 : n0 ≤ b_1 := Nat.le_trans Z0 p1_0
  have sz_b_1 : h0.size ≤ b_1 := Nat.le_trans (Keep.refl h0 []).1 p1_0
  have kk1 : Keep h0 T1.heap [] := (Keep.refl h0 []).trans kc1 all0
  have Z1 : n0 ≤ T1.heap.size := Nat.le_trans Z0 kc1.1
  have pv1_1 : Arv Z T1.heap b_1 kva (.object "com/example/glowworm/glowworm/MobilityState") (4 : Int32) [(.ref u0), (.ref u1), (.ref u2), (.ref u3)] .null := p1_1
  show Ga _ _ _ _ _ _ _ _ _ _ _ [(.ref b_1)]
  refine g_astoreN X1 hx (Ls' := #[.val (.int (2 : Int32)), .val (.ref b_1), .unset, .unset, .unset]) (hb hby d_prog_7_m_4_3) rfl rfl rfl ?_
  refine g_aloadN X1 hx (hb hby d_prog_7_m_4_4) rfl rfl rfl ?_
  refine g_len X1 hx hZ rfl pv1_1 (hb hby d_prog_7_m_4_5) rfl ?_
  refine g_istoreN X1 hx (Ls' := #[.val (.int (2 : Int32)), .val (.ref b_1), .val (.int (4 : Int32)), .unset, .unset]) (hb hby d_prog_7_m_4_6) rfl rfl ?_
  refine g_iconst X1 hx (r := (0 : Int32)) (hb hby d_prog_7_m_4_7) rfl rfl ?_
  refine g_istoreN X1 hx (Ls' := #[.val (.int (2 : Int32)), .val (.ref b_1), .val (.int (4 : Int32)), .val (.int (0 : Int32)), .unset]) (hb hby d_prog_7_m_4_8) rfl rfl ?_
  refine g_iloadN X1 hx (hb hby d_prog_7_m_4_9) rfl rfl ?_
  refine g_iloadN X1 hx (hb hby d_prog_7_m_4_10) rfl rfl ?_
  refine g_icmpN X1 hx (hb hby d_prog_7_m_4_11) rfl (XT.ii_ge_f (by decide : (0 : Int32) < (4 : Int32))) ?_
  refine g_aloadN X1 hx (hb hby d_prog_7_m_4_14) rfl rfl rfl ?_
  refine g_iloadN X1 hx (hb hby d_prog_7_m_4_15) rfl rfl ?_
  refine g_aaload X1 hx hZ rfl pv1_1 rfl (v := (.ref u0)) ⟨by decide, by decide⟩ rfl (hb hby d_prog_7_m_4_16) rfl ?_
  refine g_astore X1 hx (Ls' := #[.val (.int (2 : Int32)), .val (.ref b_1), .val (.int (4 : Int32)), .val (.int (0 : Int32)), .val (.ref u0)]) (hb hby d_prog_7_m_4_17) rfl rfl rfl ?_
  refine g_aload X1 hx (hb hby d_prog_7_m_4_19) rfl rfl rfl ?_
  have f3 : Old Z n0 T1.heap := (old0.keep kc1 all0)
  refine g_getF X1 hx hZ hown (host := "") (Or.inl (hw _ (List.mem_of_getElem? (i := 23) rfl))) Via.refl rfl (Fld.ext f3.2 F0_code_u0) (hb hby d_prog_7_m_4_21) rfl fun T2 X2 e2 => ?_
  refine g_iloadN X2 hx (hb hby d_prog_7_m_4_24) rfl rfl ?_
  refine g_icmpY X2 hx (q := 31) (hb hby d_prog_7_m_4_25) (XT.ii_ne_t (by decide : ¬ (0 : Int32) = (2 : Int32))) (by decide) (by decide) ?_
  refine g_iinc X2 hx (r := (1 : Int32)) (Ls' := #[.val (.int (2 : Int32)), .val (.ref b_1), .val (.int (4 : Int32)), .val (.int (1 : Int32)), .val (.ref u0)]) (hb hby d_prog_7_m_4_31) rfl rfl rfl rfl ?_
  refine g_goto X2 hx (q := 9) (hb hby d_prog_7_m_4_34) (by decide) (by decide) ?_
  refine g_iloadN X2 hx (hb hby d_prog_7_m_4_9) rfl rfl ?_
  refine g_iloadN X2 hx (hb hby d_prog_7_m_4_10) rfl rfl ?_
  refine g_icmpN X2 hx (hb hby d_prog_7_m_4_11) rfl (XT.ii_ge_f (by decide : (1 : Int32) < (4 : Int32))) ?_
  refine g_aloadN X2 hx (hb hby d_prog_7_m_4_14) rfl rfl rfl ?_
  refine g_iloadN X2 hx (hb hby d_prog_7_m_4_15) rfl rfl ?_
  refine g_aaload X2 hx hZ e2 pv1_1 rfl (v := (.ref u1)) ⟨by decide, by decide⟩ rfl (hb hby d_prog_7_m_4_16) rfl ?_
  refine g_astore X2 hx (Ls' := #[.val (.int (2 : Int32)), .val (.ref b_1), .val (.int (4 : Int32)), .val (.int (1 : Int32)), .val (.ref u1)]) (hb hby d_prog_7_m_4_17) rfl rfl rfl ?_
  refine g_aload X2 hx (hb hby d_prog_7_m_4_19) rfl rfl rfl ?_
  refine g_getF X2 hx hZ hown (host := "") (Or.inl (hw _ (List.mem_of_getElem? (i := 23) rfl))) Via.refl e2 (Fld.ext f3.2 F0_code_u1) (hb hby d_prog_7_m_4_21) rfl fun T4 X4 e4 => ?_
  refine g_iloadN X4 hx (hb hby d_prog_7_m_4_24) rfl rfl ?_
  refine g_icmpY X4 hx (q := 31) (hb hby d_prog_7_m_4_25) (XT.ii_ne_t (by decide : ¬ (1 : Int32) = (2 : Int32))) (by decide) (by decide) ?_
  refine g_iinc X4 hx (r := (2 : Int32)) (Ls' := #[.val (.int (2 : Int32)), .val (.ref b_1), .val (.int (4 : Int32)), .val (.int (2 : Int32)), .val (.ref u1)]) (hb hby d_prog_7_m_4_31) rfl rfl rfl rfl ?_
  refine g_goto X4 hx (q := 9) (hb hby d_prog_7_m_4_34) (by decide) (by decide) ?_
  refine g_iloadN X4 hx (hb hby d_prog_7_m_4_9) rfl rfl ?_
  refine g_iloadN X4 hx (hb hby d_prog_7_m_4_10) rfl rfl ?_
  refine g_icmpN X4 hx (hb hby d_prog_7_m_4_11) rfl (XT.ii_ge_f (by decide : (2 : Int32) < (4 : Int32))) ?_
  refine g_aloadN X4 hx (hb hby d_prog_7_m_4_14) rfl rfl rfl ?_
  refine g_iloadN X4 hx (hb hby d_prog_7_m_4_15) rfl rfl ?_
  refine g_aaload X4 hx hZ e4 pv1_1 rfl (v := (.ref u2)) ⟨by decide, by decide⟩ rfl (hb hby d_prog_7_m_4_16) rfl ?_
  refine g_astore X4 hx (Ls' := #[.val (.int (2 : Int32)), .val (.ref b_1), .val (.int (4 : Int32)), .val (.int (2 : Int32)), .val (.ref u2)]) (hb hby d_prog_7_m_4_17) rfl rfl rfl ?_
  refine g_aload X4 hx (hb hby d_prog_7_m_4_19) rfl rfl rfl ?_
  refine g_getF X4 hx hZ hown (host := "") (Or.inl (hw _ (List.mem_of_getElem? (i := 23) rfl))) Via.refl e4 (Fld.ext f3.2 F0_code_u2) (hb hby d_prog_7_m_4_21) rfl fun T5 X5 e5 => ?_
  refine g_iloadN X5 hx (hb hby d_prog_7_m_4_24) rfl rfl ?_
  refine g_icmpN X5 hx (hb hby d_prog_7_m_4_25) rfl (XT.ii_ne_f (by decide : (2 : Int32) = (2 : Int32))) ?_
  refine g_aload X5 hx (hb hby d_prog_7_m_4_28) rfl rfl rfl ?_
  exact g_retR X5 hx hret hlk rfl rfl rfl (hb hby d_prog_7_m_4_30) (by decide) (by decide) (by rw [e5]; exact ⟨rfl, N1, kk1⟩)
def Q_fc3 (Z : State) (va : Addr) (kva : ClassId) (u0 : Addr) (u1 : Addr) (u2 : Addr) (u3 : Addr) (h0 : Heap) (n0 : Nat) (v : Option Value) (h : Heap) (L : List Loc) : Prop := v = some (.ref u3) ∧ Fr n0 L ∧ Keep h0 h []
theorem ef_fc3 (m : MethodId) (x0 : Int32) : entryFrame m #[(.int x0)] 5 = mkF m 0 #[.val (.int x0), .unset, .unset, .unset, .unset] [] := by first | (simp [entryFrame, mkF, argsToLocals, Value.category]; done) | rfl
set_option maxRecDepth 65536 in
set_option maxHeartbeats 40000000 in
theorem rm_fc3 (l : Launch) (Z : State) (a0 : Array Value) (hw : ∀ d ∈ tables_1, d.before a0 Z = true) (va : Addr) (kva : ClassId) (u0 : Addr) (u1 : Addr) (u2 : Addr) (u3 : Addr) (h0 : Heap) (n0 : Nat) (Z0 : n0 ≤ h0.size) (old0 : Old Z n0 h0) (S0__VALUES : Sta Z Z.heap "com/example/glowworm/glowworm/MobilityState" "$VALUES" "[Lcom/example/glowworm/glowworm/MobilityState;" (.ref va)) (V0_va : Arv Z Z.heap va kva (.object "com/example/glowworm/glowworm/MobilityState") (4 : Int32) [(.ref u0), (.ref u1), (.ref u2), (.ref u3)] .null) (E0_va : Exa Z Z.heap va "[Lcom/example/glowworm/glowworm/MobilityState;") (F0_code_u0 : Fld Z Z.heap u0 "com/example/glowworm/glowworm/MobilityState" "code" "I" (.int (0 : Int32))) (F0_code_u1 : Fld Z Z.heap u1 "com/example/glowworm/glowworm/MobilityState" "code" "I" (.int (1 : Int32))) (F0_code_u2 : Fld Z Z.heap u2 "com/example/glowworm/glowworm/MobilityState" "code" "I" (.int (2 : Int32))) (F0_code_u3 : Fld Z Z.heap u3 "com/example/glowworm/glowworm/MobilityState" "code" "I" (.int (3 : Int32))) :
    Ct l Z (⟨"com/example/glowworm/glowworm/MobilityState", "fromCode", "(I)Lcom/example/glowworm/glowworm/MobilityState;"⟩ : MethodName) prog_7_method_4_code 5 (some (.object "com/example/glowworm/glowworm/MobilityState")) [] ({ frames := 2, cells := 1, slots := 4, locals := 25 } : Room) #[(.int (3 : Int32))] h0 (Q_fc3 Z va kva u0 u1 u2 u3 h0 n0) := by
  refine own_body (plainFor_of_name pn_0) (fun m => ef_fc3 m (3 : Int32)) ?_
  intro p e s m below meth c T0 hx hby hml hZ hown hnm hret hlk X0 e0
  have N0 := Fr.nil n0
  refine g_static X0 hx hZ hown (hw _ (List.mem_of_getElem? (i := 4) rfl)) (hw _ (List.mem_of_getElem? (i := 5) rfl)) (hw _ (List.mem_of_getElem? (i := 2) rfl)) (hw _ (List.mem_of_getElem? (i := 6) rfl)) (by decide) (rm_vals l Z a0 hw va kva u0 u1 u2 u3 h0 n0 Z0 old0 S0__VALUES V0_va E0_va) (by rw [hml]; rfl) e0 [] rfl rfl (W := 0) (Nat.le_of_eq rfl) (by decide) (by decide) (by decide) (by decide) (lenOf pd_0 rfl) (hb hby d_prog_7_m_4_0) rfl fun v1 T1 L1 X1 hQ1 => ?_
  obtain ⟨b_1, rfl, Nq1, kc1, p1_0, p1_1⟩ := hQ1
  have N1 := Fr.app N0 Nq1
  have g_b_1 : n0 ≤ b_1 := Nat.le_trans Z0 p1_0
  have sz_b_1 : h0.size ≤ b_1 := Nat.le_trans (Keep.refl h0 []).1 p1_0
  have kk1 : Keep h0 T1.heap [] := (Keep.refl h0 []).trans kc1 all0
  have Z1 : n0 ≤ T1.heap.size := Nat.le_trans Z0 kc1.1
  have pv1_1 : Arv Z T1.heap b_1 kva (.object "com/example/glowworm/glowworm/MobilityState") (4 : Int32) [(.ref u0), (.ref u1), (.ref u2), (.ref u3)] .null := p1_1
  show Ga _ _ _ _ _ _ _ _ _ _ _ [(.ref b_1)]
  refine g_astoreN X1 hx (Ls' := #[.val (.int (3 : Int32)), .val (.ref b_1), .unset, .unset, .unset]) (hb hby d_prog_7_m_4_3) rfl rfl rfl ?_
  refine g_aloadN X1 hx (hb hby d_prog_7_m_4_4) rfl rfl rfl ?_
  refine g_len X1 hx hZ rfl pv1_1 (hb hby d_prog_7_m_4_5) rfl ?_
  refine g_istoreN X1 hx (Ls' := #[.val (.int (3 : Int32)), .val (.ref b_1), .val (.int (4 : Int32)), .unset, .unset]) (hb hby d_prog_7_m_4_6) rfl rfl ?_
  refine g_iconst X1 hx (r := (0 : Int32)) (hb hby d_prog_7_m_4_7) rfl rfl ?_
  refine g_istoreN X1 hx (Ls' := #[.val (.int (3 : Int32)), .val (.ref b_1), .val (.int (4 : Int32)), .val (.int (0 : Int32)), .unset]) (hb hby d_prog_7_m_4_8) rfl rfl ?_
  refine g_iloadN X1 hx (hb hby d_prog_7_m_4_9) rfl rfl ?_
  refine g_iloadN X1 hx (hb hby d_prog_7_m_4_10) rfl rfl ?_
  refine g_icmpN X1 hx (hb hby d_prog_7_m_4_11) rfl (XT.ii_ge_f (by decide : (0 : Int32) < (4 : Int32))) ?_
  refine g_aloadN X1 hx (hb hby d_prog_7_m_4_14) rfl rfl rfl ?_
  refine g_iloadN X1 hx (hb hby d_prog_7_m_4_15) rfl rfl ?_
  refine g_aaload X1 hx hZ rfl pv1_1 rfl (v := (.ref u0)) ⟨by decide, by decide⟩ rfl (hb hby d_prog_7_m_4_16) rfl ?_
  refine g_astore X1 hx (Ls' := #[.val (.int (3 : Int32)), .val (.ref b_1), .val (.int (4 : Int32)), .val (.int (0 : Int32)), .val (.ref u0)]) (hb hby d_prog_7_m_4_17) rfl rfl rfl ?_
  refine g_aload X1 hx (hb hby d_prog_7_m_4_19) rfl rfl rfl ?_
  have f3 : Old Z n0 T1.heap := (old0.keep kc1 all0)
  refine g_getF X1 hx hZ hown (host := "") (Or.inl (hw _ (List.mem_of_getElem? (i := 23) rfl))) Via.refl rfl (Fld.ext f3.2 F0_code_u0) (hb hby d_prog_7_m_4_21) rfl fun T2 X2 e2 => ?_
  refine g_iloadN X2 hx (hb hby d_prog_7_m_4_24) rfl rfl ?_
  refine g_icmpY X2 hx (q := 31) (hb hby d_prog_7_m_4_25) (XT.ii_ne_t (by decide : ¬ (0 : Int32) = (3 : Int32))) (by decide) (by decide) ?_
  refine g_iinc X2 hx (r := (1 : Int32)) (Ls' := #[.val (.int (3 : Int32)), .val (.ref b_1), .val (.int (4 : Int32)), .val (.int (1 : Int32)), .val (.ref u0)]) (hb hby d_prog_7_m_4_31) rfl rfl rfl rfl ?_
  refine g_goto X2 hx (q := 9) (hb hby d_prog_7_m_4_34) (by decide) (by decide) ?_
  refine g_iloadN X2 hx (hb hby d_prog_7_m_4_9) rfl rfl ?_
  refine g_iloadN X2 hx (hb hby d_prog_7_m_4_10) rfl rfl ?_
  refine g_icmpN X2 hx (hb hby d_prog_7_m_4_11) rfl (XT.ii_ge_f (by decide : (1 : Int32) < (4 : Int32))) ?_
  refine g_aloadN X2 hx (hb hby d_prog_7_m_4_14) rfl rfl rfl ?_
  refine g_iloadN X2 hx (hb hby d_prog_7_m_4_15) rfl rfl ?_
  refine g_aaload X2 hx hZ e2 pv1_1 rfl (v := (.ref u1)) ⟨by decide, by decide⟩ rfl (hb hby d_prog_7_m_4_16) rfl ?_
  refine g_astore X2 hx (Ls' := #[.val (.int (3 : Int32)), .val (.ref b_1), .val (.int (4 : Int32)), .val (.int (1 : Int32)), .val (.ref u1)]) (hb hby d_prog_7_m_4_17) rfl rfl rfl ?_
  refine g_aload X2 hx (hb hby d_prog_7_m_4_19) rfl rfl rfl ?_
  refine g_getF X2 hx hZ hown (host := "") (Or.inl (hw _ (List.mem_of_getElem? (i := 23) rfl))) Via.refl e2 (Fld.ext f3.2 F0_code_u1) (hb hby d_prog_7_m_4_21) rfl fun T4 X4 e4 => ?_
  refine g_iloadN X4 hx (hb hby d_prog_7_m_4_24) rfl rfl ?_
  refine g_icmpY X4 hx (q := 31) (hb hby d_prog_7_m_4_25) (XT.ii_ne_t (by decide : ¬ (1 : Int32) = (3 : Int32))) (by decide) (by decide) ?_
  refine g_iinc X4 hx (r := (2 : Int32)) (Ls' := #[.val (.int (3 : Int32)), .val (.ref b_1), .val (.int (4 : Int32)), .val (.int (2 : Int32)), .val (.ref u1)]) (hb hby d_prog_7_m_4_31) rfl rfl rfl rfl ?_
  refine g_goto X4 hx (q := 9) (hb hby d_prog_7_m_4_34) (by decide) (by decide) ?_
  refine g_iloadN X4 hx (hb hby d_prog_7_m_4_9) rfl rfl ?_
  refine g_iloadN X4 hx (hb hby d_prog_7_m_4_10) rfl rfl ?_
  refine g_icmpN X4 hx (hb hby d_prog_7_m_4_11) rfl (XT.ii_ge_f (by decide : (2 : Int32) < (4 : Int32))) ?_
  refine g_aloadN X4 hx (hb hby d_prog_7_m_4_14) rfl rfl rfl ?_
  refine g_iloadN X4 hx (hb hby d_prog_7_m_4_15) rfl rfl ?_
  refine g_aaload X4 hx hZ e4 pv1_1 rfl (v := (.ref u2)) ⟨by decide, by decide⟩ rfl (hb hby d_prog_7_m_4_16) rfl ?_
  refine g_astore X4 hx (Ls' := #[.val (.int (3 : Int32)), .val (.ref b_1), .val (.int (4 : Int32)), .val (.int (2 : Int32)), .val (.ref u2)]) (hb hby d_prog_7_m_4_17) rfl rfl rfl ?_
  refine g_aload X4 hx (hb hby d_prog_7_m_4_19) rfl rfl rfl ?_
  refine g_getF X4 hx hZ hown (host := "") (Or.inl (hw _ (List.mem_of_getElem? (i := 23) rfl))) Via.refl e4 (Fld.ext f3.2 F0_code_u2) (hb hby d_prog_7_m_4_21) rfl fun T5 X5 e5 => ?_
  refine g_iloadN X5 hx (hb hby d_prog_7_m_4_24) rfl rfl ?_
  refine g_icmpY X5 hx (q := 31) (hb hby d_prog_7_m_4_25) (XT.ii_ne_t (by decide : ¬ (2 : Int32) = (3 : Int32))) (by decide) (by decide) ?_
  refine g_iinc X5 hx (r := (3 : Int32)) (Ls' := #[.val (.int (3 : Int32)), .val (.ref b_1), .val (.int (4 : Int32)), .val (.int (3 : Int32)), .val (.ref u2)]) (hb hby d_prog_7_m_4_31) rfl rfl rfl rfl ?_
  refine g_goto X5 hx (q := 9) (hb hby d_prog_7_m_4_34) (by decide) (by decide) ?_
  refine g_iloadN X5 hx (hb hby d_prog_7_m_4_9) rfl rfl ?_
  refine g_iloadN X5 hx (hb hby d_prog_7_m_4_10) rfl rfl ?_
  refine g_icmpN X5 hx (hb hby d_prog_7_m_4_11) rfl (XT.ii_ge_f (by decide : (3 : Int32) < (4 : Int32))) ?_
  refine g_aloadN X5 hx (hb hby d_prog_7_m_4_14) rfl rfl rfl ?_
  refine g_iloadN X5 hx (hb hby d_prog_7_m_4_15) rfl rfl ?_
  refine g_aaload X5 hx hZ e5 pv1_1 rfl (v := (.ref u3)) ⟨by decide, by decide⟩ rfl (hb hby d_prog_7_m_4_16) rfl ?_
  refine g_astore X5 hx (Ls' := #[.val (.int (3 : Int32)), .val (.ref b_1), .val (.int (4 : Int32)), .val (.int (3 : Int32)), .val (.ref u3)]) (hb hby d_prog_7_m_4_17) rfl rfl rfl ?_
  refine g_aload X5 hx (hb hby d_prog_7_m_4_19) rfl rfl rfl ?_
  refine g_getF X5 hx hZ hown (host := "") (Or.inl (hw _ (List.mem_of_getElem? (i := 23) rfl))) Via.refl e5 (Fld.ext f3.2 F0_code_u3) (hb hby d_prog_7_m_4_21) rfl fun T6 X6 e6 => ?_
  refine g_iloadN X6 hx (hb hby d_prog_7_m_4_24) rfl rfl ?_
  refine g_icmpN X6 hx (hb hby d_prog_7_m_4_25) rfl (XT.ii_ne_f (by decide : (3 : Int32) = (3 : Int32))) ?_
  refine g_aload X6 hx (hb hby d_prog_7_m_4_28) rfl rfl rfl ?_
  exact g_retR X6 hx hret hlk rfl rfl rfl (hb hby d_prog_7_m_4_30) (by decide) (by decide) (by rw [e6]; exact ⟨rfl, N1, kk1⟩)
def Q_xf0 (Z : State) (u : Addr) (h0 : Heap) (n0 : Nat) (v : Option Value) (h : Heap) (L : List Loc) : Prop := v = some (.ref u) ∧ Fr n0 L ∧ h = h0
theorem ef_xf0 (m : MethodId) (x0 : Int32) : entryFrame m #[(.int x0)] 1 = mkF m 0 #[.val (.int x0)] [] := by first | (simp [entryFrame, mkF, argsToLocals, Value.category]; done) | rfl
set_option maxRecDepth 65536 in
set_option maxHeartbeats 40000000 in
theorem rm_xf0 (l : Launch) (Z : State) (a0 : Array Value) (hw : ∀ d ∈ tables_1, d.before a0 Z = true) (u : Addr) (h0 : Heap) (n0 : Nat) (Z0 : n0 ≤ h0.size) (old0 : Old Z n0 h0) (S0_UNKNOWN : Sta Z Z.heap "com/example/glowworm/glowworm/MobilityState" "UNKNOWN" "Lcom/example/glowworm/glowworm/MobilityState;" (.ref u)) :
    Ct l Z (⟨"com/example/glowworm/glowworm/MobilityStateFromCodePinLaw", "expectedFor", "(I)Lcom/example/glowworm/glowworm/MobilityState;"⟩ : MethodName) method_2_code 1 (some (.object "com/example/glowworm/glowworm/MobilityState")) [] ({ frames := 0, cells := 0, slots := 0, locals := 0 } : Room) #[(.int (0 : Int32))] h0 (Q_xf0 Z u h0 n0) := by
  refine own_body (plainFor_of_name pn_1) (fun m => ef_xf0 m (0 : Int32)) ?_
  intro p e s m below meth c T0 hx hby hml hZ hown hnm hret hlk X0 e0
  have N0 := Fr.nil n0
  refine g_iloadN X0 hx (hb hby d_m_2_0) rfl rfl ?_
  refine g_ifN X0 hx (hb hby d_m_2_1) rfl (XT.i0_ne_f (by decide : (0 : Int32) = (0 : Int32))) ?_
  refine g_getS X0 hx hZ hown (host := "") (Or.inl (hw _ (List.mem_of_getElem? (i := 29) rfl))) Via.refl e0 (Sta.ext old0.2 S0_UNKNOWN) (hb hby d_m_2_4) rfl fun T1 X1 e1 => ?_
  exact g_retR X1 hx hret hlk rfl rfl rfl (hb hby d_m_2_7) (by decide) (by decide) (by rw [e1]; exact ⟨rfl, N0, rfl⟩)
def Q_xf1 (Z : State) (u : Addr) (h0 : Heap) (n0 : Nat) (v : Option Value) (h : Heap) (L : List Loc) : Prop := v = some (.ref u) ∧ Fr n0 L ∧ h = h0
theorem ef_xf1 (m : MethodId) (x0 : Int32) : entryFrame m #[(.int x0)] 1 = mkF m 0 #[.val (.int x0)] [] := by first | (simp [entryFrame, mkF, argsToLocals, Value.category]; done) | rfl
set_option maxRecDepth 65536 in
set_option maxHeartbeats 40000000 in
theorem rm_xf1 (l : Launch) (Z : State) (a0 : Array Value) (hw : ∀ d ∈ tables_1, d.before a0 Z = true) (u : Addr) (h0 : Heap) (n0 : Nat) (Z0 : n0 ≤ h0.size) (old0 : Old Z n0 h0) (S0_HIGH_MVMT : Sta Z Z.heap "com/example/glowworm/glowworm/MobilityState" "HIGH_MVMT" "Lcom/example/glowworm/glowworm/MobilityState;" (.ref u)) :
    Ct l Z (⟨"com/example/glowworm/glowworm/MobilityStateFromCodePinLaw", "expectedFor", "(I)Lcom/example/glowworm/glowworm/MobilityState;"⟩ : MethodName) method_2_code 1 (some (.object "com/example/glowworm/glowworm/MobilityState")) [] ({ frames := 0, cells := 0, slots := 0, locals := 0 } : Room) #[(.int (1 : Int32))] h0 (Q_xf1 Z u h0 n0) := by
  refine own_body (plainFor_of_name pn_1) (fun m => ef_xf1 m (1 : Int32)) ?_
  intro p e s m below meth c T0 hx hby hml hZ hown hnm hret hlk X0 e0
  have N0 := Fr.nil n0
  refine g_iloadN X0 hx (hb hby d_m_2_0) rfl rfl ?_
  refine g_ifY X0 hx (q := 8) (hb hby d_m_2_1) (XT.i0_ne_t (by decide : ¬ (1 : Int32) = (0 : Int32))) (by decide) (by decide) ?_
  refine g_iloadN X0 hx (hb hby d_m_2_8) rfl rfl ?_
  refine g_iconst X0 hx (r := (1 : Int32)) (hb hby d_m_2_9) rfl rfl ?_
  refine g_icmpN X0 hx (hb hby d_m_2_10) rfl (XT.ii_ne_f (by decide : (1 : Int32) = (1 : Int32))) ?_
  refine g_getS X0 hx hZ hown (host := "") (Or.inl (hw _ (List.mem_of_getElem? (i := 37) rfl))) Via.refl e0 (Sta.ext old0.2 S0_HIGH_MVMT) (hb hby d_m_2_13) rfl fun T1 X1 e1 => ?_
  exact g_retR X1 hx hret hlk rfl rfl rfl (hb hby d_m_2_16) (by decide) (by decide) (by rw [e1]; exact ⟨rfl, N0, rfl⟩)
def Q_xf2 (Z : State) (u : Addr) (h0 : Heap) (n0 : Nat) (v : Option Value) (h : Heap) (L : List Loc) : Prop := v = some (.ref u) ∧ Fr n0 L ∧ h = h0
theorem ef_xf2 (m : MethodId) (x0 : Int32) : entryFrame m #[(.int x0)] 1 = mkF m 0 #[.val (.int x0)] [] := by first | (simp [entryFrame, mkF, argsToLocals, Value.category]; done) | rfl
set_option maxRecDepth 65536 in
set_option maxHeartbeats 40000000 in
theorem rm_xf2 (l : Launch) (Z : State) (a0 : Array Value) (hw : ∀ d ∈ tables_1, d.before a0 Z = true) (u : Addr) (h0 : Heap) (n0 : Nat) (Z0 : n0 ≤ h0.size) (old0 : Old Z n0 h0) (S0_LOW_MVMT : Sta Z Z.heap "com/example/glowworm/glowworm/MobilityState" "LOW_MVMT" "Lcom/example/glowworm/glowworm/MobilityState;" (.ref u)) :
    Ct l Z (⟨"com/example/glowworm/glowworm/MobilityStateFromCodePinLaw", "expectedFor", "(I)Lcom/example/glowworm/glowworm/MobilityState;"⟩ : MethodName) method_2_code 1 (some (.object "com/example/glowworm/glowworm/MobilityState")) [] ({ frames := 0, cells := 0, slots := 0, locals := 0 } : Room) #[(.int (2 : Int32))] h0 (Q_xf2 Z u h0 n0) := by
  refine own_body (plainFor_of_name pn_1) (fun m => ef_xf2 m (2 : Int32)) ?_
  intro p e s m below meth c T0 hx hby hml hZ hown hnm hret hlk X0 e0
  have N0 := Fr.nil n0
  refine g_iloadN X0 hx (hb hby d_m_2_0) rfl rfl ?_
  refine g_ifY X0 hx (q := 8) (hb hby d_m_2_1) (XT.i0_ne_t (by decide : ¬ (2 : Int32) = (0 : Int32))) (by decide) (by decide) ?_
  refine g_iloadN X0 hx (hb hby d_m_2_8) rfl rfl ?_
  refine g_iconst X0 hx (r := (1 : Int32)) (hb hby d_m_2_9) rfl rfl ?_
  refine g_icmpY X0 hx (q := 17) (hb hby d_m_2_10) (XT.ii_ne_t (by decide : ¬ (2 : Int32) = (1 : Int32))) (by decide) (by decide) ?_
  refine g_iloadN X0 hx (hb hby d_m_2_17) rfl rfl ?_
  refine g_iconst X0 hx (r := (2 : Int32)) (hb hby d_m_2_18) rfl rfl ?_
  refine g_icmpN X0 hx (hb hby d_m_2_19) rfl (XT.ii_ne_f (by decide : (2 : Int32) = (2 : Int32))) ?_
  refine g_getS X0 hx hZ hown (host := "") (Or.inl (hw _ (List.mem_of_getElem? (i := 36) rfl))) Via.refl e0 (Sta.ext old0.2 S0_LOW_MVMT) (hb hby d_m_2_22) rfl fun T1 X1 e1 => ?_
  exact g_retR X1 hx hret hlk rfl rfl rfl (hb hby d_m_2_25) (by decide) (by decide) (by rw [e1]; exact ⟨rfl, N0, rfl⟩)
def Q_xf3 (Z : State) (u : Addr) (h0 : Heap) (n0 : Nat) (v : Option Value) (h : Heap) (L : List Loc) : Prop := v = some (.ref u) ∧ Fr n0 L ∧ h = h0
theorem ef_xf3 (m : MethodId) (x0 : Int32) : entryFrame m #[(.int x0)] 1 = mkF m 0 #[.val (.int x0)] [] := by first | (simp [entryFrame, mkF, argsToLocals, Value.category]; done) | rfl
set_option maxRecDepth 65536 in
set_option maxHeartbeats 40000000 in
theorem rm_xf3 (l : Launch) (Z : State) (a0 : Array Value) (hw : ∀ d ∈ tables_1, d.before a0 Z = true) (u : Addr) (h0 : Heap) (n0 : Nat) (Z0 : n0 ≤ h0.size) (old0 : Old Z n0 h0) (S0_STATIONARY : Sta Z Z.heap "com/example/glowworm/glowworm/MobilityState" "STATIONARY" "Lcom/example/glowworm/glowworm/MobilityState;" (.ref u)) :
    Ct l Z (⟨"com/example/glowworm/glowworm/MobilityStateFromCodePinLaw", "expectedFor", "(I)Lcom/example/glowworm/glowworm/MobilityState;"⟩ : MethodName) method_2_code 1 (some (.object "com/example/glowworm/glowworm/MobilityState")) [] ({ frames := 0, cells := 0, slots := 0, locals := 0 } : Room) #[(.int (3 : Int32))] h0 (Q_xf3 Z u h0 n0) := by
  refine own_body (plainFor_of_name pn_1) (fun m => ef_xf3 m (3 : Int32)) ?_
  intro p e s m below meth c T0 hx hby hml hZ hown hnm hret hlk X0 e0
  have N0 := Fr.nil n0
  refine g_iloadN X0 hx (hb hby d_m_2_0) rfl rfl ?_
  refine g_ifY X0 hx (q := 8) (hb hby d_m_2_1) (XT.i0_ne_t (by decide : ¬ (3 : Int32) = (0 : Int32))) (by decide) (by decide) ?_
  refine g_iloadN X0 hx (hb hby d_m_2_8) rfl rfl ?_
  refine g_iconst X0 hx (r := (1 : Int32)) (hb hby d_m_2_9) rfl rfl ?_
  refine g_icmpY X0 hx (q := 17) (hb hby d_m_2_10) (XT.ii_ne_t (by decide : ¬ (3 : Int32) = (1 : Int32))) (by decide) (by decide) ?_
  refine g_iloadN X0 hx (hb hby d_m_2_17) rfl rfl ?_
  refine g_iconst X0 hx (r := (2 : Int32)) (hb hby d_m_2_18) rfl rfl ?_
  refine g_icmpY X0 hx (q := 26) (hb hby d_m_2_19) (XT.ii_ne_t (by decide : ¬ (3 : Int32) = (2 : Int32))) (by decide) (by decide) ?_
  refine g_getS X0 hx hZ hown (host := "") (Or.inl (hw _ (List.mem_of_getElem? (i := 35) rfl))) Via.refl e0 (Sta.ext old0.2 S0_STATIONARY) (hb hby d_m_2_26) rfl fun T1 X1 e1 => ?_
  exact g_retR X1 hx hret hlk rfl rfl rfl (hb hby d_m_2_29) (by decide) (by decide) (by rw [e1]; exact ⟨rfl, N0, rfl⟩)
def Q_code (Z : State) (a : Addr) (x : Int32) (h0 : Heap) (n0 : Nat) (v : Option Value) (h : Heap) (L : List Loc) : Prop := v = some (.int x) ∧ Fr n0 L ∧ h = h0
theorem ef_code (m : MethodId) (x0 : Addr) : entryFrame m #[(.ref x0)] 1 = mkF m 0 #[.val (.ref x0)] [] := by first | (simp [entryFrame, mkF, argsToLocals, Value.category]; done) | rfl
set_option maxRecDepth 65536 in
set_option maxHeartbeats 40000000 in
theorem rm_code (l : Launch) (Z : State) (a0 : Array Value) (hw : ∀ d ∈ tables_1, d.before a0 Z = true) (a : Addr) (x : Int32) (h0 : Heap) (n0 : Nat) (Z0 : n0 ≤ h0.size) (F_code_a : Fld Z h0 a "com/example/glowworm/glowworm/MobilityState" "code" "I" (.int x)) :
    Ct l Z (⟨"com/example/glowworm/glowworm/MobilityState", "code", "()I"⟩ : MethodName) prog_7_method_5_code 1 (some .int) [] ({ frames := 0, cells := 0, slots := 0, locals := 0 } : Room) #[(.ref a)] h0 (Q_code Z a x h0 n0) := by
  refine own_body (plainFor_of_name pn_0) (fun m => ef_code m a) ?_
  intro p e s m below meth c T0 hx hby hml hZ hown hnm hret hlk X0 e0
  have N0 := Fr.nil n0
  refine g_aloadN X0 hx (hb hby d_prog_7_m_5_0) rfl rfl rfl ?_
  refine g_getF X0 hx hZ hown (host := "") (Or.inl (hw _ (List.mem_of_getElem? (i := 23) rfl))) Via.refl e0 F_code_a (hb hby d_prog_7_m_5_1) rfl fun T1 X1 e1 => ?_
  exact g_retI X1 hx hret hlk (hb hby d_prog_7_m_5_4) (by decide) (by decide) (by rw [e1]; exact ⟨rfl, N0, rfl⟩)
def Q_law (Z : State) (p0 : Int32) (va : Addr) (kva : ClassId) (u0 : Addr) (u1 : Addr) (u2 : Addr) (u3 : Addr) (h0 : Heap) (n0 : Nat) (v : Option Value) (h : Heap) (L : List Loc) : Prop := v = some (.int 1) ∧ Fr n0 L
theorem ef_law (m : MethodId) (x0 : Int32) : entryFrame m #[(.int x0)] maxLocals = mkF m 0 #[.val (.int x0), .unset, .unset, .unset] [] := by first | (simp [entryFrame, mkF, argsToLocals, Value.category, maxLocals]; done) | rfl
set_option maxRecDepth 65536 in
set_option maxHeartbeats 40000000 in
theorem rm_law (l : Launch) (Z : State) (a0 : Array Value) (hw : ∀ d ∈ tables_1, d.before a0 Z = true) (ws : List Jvm.Cond) (p0 : Int32) (va : Addr) (kva : ClassId) (u0 : Addr) (u1 : Addr) (u2 : Addr) (u3 : Addr) (h0 : Heap) (n0 : Nat) (Z0 : n0 ≤ h0.size) (old0 : Old Z n0 h0) (S0__VALUES : Sta Z Z.heap "com/example/glowworm/glowworm/MobilityState" "$VALUES" "[Lcom/example/glowworm/glowworm/MobilityState;" (.ref va)) (V0_va : Arv Z Z.heap va kva (.object "com/example/glowworm/glowworm/MobilityState") (4 : Int32) [(.ref u0), (.ref u1), (.ref u2), (.ref u3)] .null) (E0_va : Exa Z Z.heap va "[Lcom/example/glowworm/glowworm/MobilityState;") (S0_UNKNOWN : Sta Z Z.heap "com/example/glowworm/glowworm/MobilityState" "UNKNOWN" "Lcom/example/glowworm/glowworm/MobilityState;" (.ref u0)) (E0_u0 : Exa Z Z.heap u0 "com/example/glowworm/glowworm/MobilityState") (F0_code_u0 : Fld Z Z.heap u0 "com/example/glowworm/glowworm/MobilityState" "code" "I" (.int (0 : Int32))) (S0_HIGH_MVMT : Sta Z Z.heap "com/example/glowworm/glowworm/MobilityState" "HIGH_MVMT" "Lcom/example/glowworm/glowworm/MobilityState;" (.ref u1)) (E0_u1 : Exa Z Z.heap u1 "com/example/glowworm/glowworm/MobilityState") (F0_code_u1 : Fld Z Z.heap u1 "com/example/glowworm/glowworm/MobilityState" "code" "I" (.int (1 : Int32))) (S0_LOW_MVMT : Sta Z Z.heap "com/example/glowworm/glowworm/MobilityState" "LOW_MVMT" "Lcom/example/glowworm/glowworm/MobilityState;" (.ref u2)) (E0_u2 : Exa Z Z.heap u2 "com/example/glowworm/glowworm/MobilityState") (F0_code_u2 : Fld Z Z.heap u2 "com/example/glowworm/glowworm/MobilityState" "code" "I" (.int (2 : Int32))) (S0_STATIONARY : Sta Z Z.heap "com/example/glowworm/glowworm/MobilityState" "STATIONARY" "Lcom/example/glowworm/glowworm/MobilityState;" (.ref u3)) (E0_u3 : Exa Z Z.heap u3 "com/example/glowworm/glowworm/MobilityState") (F0_code_u3 : Fld Z Z.heap u3 "com/example/glowworm/glowworm/MobilityState" "code" "I" (.int (3 : Int32))) :
    Ct l Z x code maxLocals ret ws room_1 #[(.int p0)] h0 (Q_law Z p0 va kva u0 u1 u2 u3 h0 n0) := by
  refine own_body (plainFor_of_name pn_1) (fun m => ef_law m p0) ?_
  intro p e s m below meth c T0 hx hby hml hZ hown hnm hret hlk X0 e0
  have N0 := Fr.nil n0
  refine g_iloadN X0 hx (hb hby at_0) rfl rfl ?_
  refine g_iconst X0 hx (r := (3 : Int32)) (hb hby at_1) rfl rfl ?_
  obtain ⟨v2, hv2⟩ : ∃ r, (p0 &&& (3 : Int32)) = r := ⟨_, rfl⟩
  refine g_iand X0 hx (hb hby at_2) rfl hv2 ?_
  refine g_istoreN X0 hx (Ls' := #[.val (.int p0), .val (.int v2), .unset, .unset]) (hb hby at_3) rfl rfl ?_
  have hcs_v2 : v2 = (0 : Int32) ∨ v2 = (1 : Int32) ∨ v2 = (2 : Int32) ∨ v2 = (3 : Int32) := own_m3 hv2
  rcases hcs_v2 with rfl | rfl | rfl | rfl
  · skip
    refine g_iloadN X0 hx (hb hby at_4) rfl rfl ?_
    refine g_static X0 hx hZ hown (hw _ (List.mem_of_getElem? (i := 0) rfl)) (hw _ (List.mem_of_getElem? (i := 1) rfl)) (hw _ (List.mem_of_getElem? (i := 2) rfl)) (hw _ (List.mem_of_getElem? (i := 3) rfl)) (by decide) (rm_fc0 l Z a0 hw va kva u0 u1 u2 u3 h0 n0 Z0 old0 S0__VALUES V0_va E0_va F0_code_u0 F0_code_u1 F0_code_u2 F0_code_u3) (by rw [hml]; rfl) e0 [(.int (0 : Int32))] rfl rfl (W := 0) (Nat.le_of_eq rfl) (by decide) (by decide) (by decide) (by decide) (lenOf pd_1 rfl) (hb hby at_5) rfl fun v1 T1 L1 X1 hQ1 => ?_
    obtain ⟨rfl, Nq1, kc1⟩ := hQ1
    have N1 := Fr.app N0 Nq1
    have Z1 : n0 ≤ T1.heap.size := Nat.le_trans Z0 kc1.1
    show Ga _ _ _ _ _ _ _ _ _ _ _ [(.ref u0)]
    refine g_astoreN X1 hx (Ls' := #[.val (.int p0), .val (.int (0 : Int32)), .val (.ref u0), .unset]) (hb hby at_8) rfl rfl rfl ?_
    refine g_iloadN X1 hx (hb hby at_9) rfl rfl ?_
    have f3 : Old Z n0 T1.heap := (old0.keep kc1 all0)
    refine g_static X1 hx hZ hown (hw _ (List.mem_of_getElem? (i := 25) rfl)) (hw _ (List.mem_of_getElem? (i := 26) rfl)) (hw _ (List.mem_of_getElem? (i := 27) rfl)) (hw _ (List.mem_of_getElem? (i := 28) rfl)) (by decide) (rm_xf0 l Z a0 hw u0 T1.heap n0 Z1 f3 S0_UNKNOWN) (by rw [hml]; rfl) rfl [(.int (0 : Int32))] rfl rfl (W := 0) (Nat.le_of_eq rfl) (by decide) (by decide) (by decide) (by decide) (lenOf pd_1 rfl) (hb hby at_10) rfl fun v2 T2 L2 X2 hQ2 => ?_
    obtain ⟨rfl, Nq2, eh2⟩ := hQ2
    have N2 := Fr.app N1 Nq2
    show Ga _ _ _ _ _ _ _ _ _ _ _ [(.ref u0)]
    refine g_astoreN X2 hx (Ls' := #[.val (.int p0), .val (.int (0 : Int32)), .val (.ref u0), .val (.ref u0)]) (hb hby at_13) rfl rfl rfl ?_
    refine g_aloadN X2 hx (hb hby at_14) rfl rfl rfl ?_
    refine g_aloadN X2 hx (hb hby at_15) rfl rfl rfl ?_
    refine g_acmp X2 hx (q := 19) (same := true) (hb hby at_16) rfl rfl (decide_eq_true rfl) (by decide) (by decide) ?_
    refine g_aloadN X2 hx (hb hby at_19) rfl rfl rfl ?_
    refine g_virtual X2 hx hZ hown (hw _ (List.mem_of_getElem? (i := 30) rfl)) (hw _ (List.mem_of_getElem? (i := 31) rfl)) (notFace_of_selects (args := #[]) (mvT hZ (hw _ (List.mem_of_getElem? (i := 33) rfl)))) (hw _ (List.mem_of_getElem? (i := 33) rfl)) (hw _ (List.mem_of_getElem? (i := 32) rfl)) (hw _ (List.mem_of_getElem? (i := 2) rfl)) (hw _ (List.mem_of_getElem? (i := 34) rfl)) (by decide) (a := u0) (Exa.ext f3.2 E0_u0) (rm_code l Z a0 hw u0 (0 : Int32) T1.heap n0 Z1 (Fld.ext f3.2 F0_code_u0)) (by rw [hml]; rfl) eh2 [] rfl rfl (W := 0) (Nat.le_of_eq rfl) (by decide) (by decide) (by decide) (by decide) (lenOf pd_2 rfl) (hb hby at_20) rfl fun v4 T4 L4 X4 hQ4 => ?_
    obtain ⟨rfl, Nq4, eh4⟩ := hQ4
    have N4 := Fr.app N2 Nq4
    show Ga _ _ _ _ _ _ _ _ _ _ _ [(.int (0 : Int32))]
    refine g_iloadN X4 hx (hb hby at_23) rfl rfl ?_
    refine g_icmpN X4 hx (hb hby at_24) rfl (XT.ii_ne_f (by decide : (0 : Int32) = (0 : Int32))) ?_
    refine g_iconst X4 hx (r := (1 : Int32)) (hb hby at_27) rfl rfl ?_
    refine g_goto X4 hx (q := 32) (hb hby at_28) (by decide) (by decide) ?_
    exact g_retN X4 hx (t := .boolean) (r := (1 : Int32)) hret (by simp) hlk (hb hby at_32) rfl (by decide) (by decide) (by rw [eh4]; exact ⟨rfl, N4⟩)
  · skip
    refine g_iloadN X0 hx (hb hby at_4) rfl rfl ?_
    refine g_static X0 hx hZ hown (hw _ (List.mem_of_getElem? (i := 0) rfl)) (hw _ (List.mem_of_getElem? (i := 1) rfl)) (hw _ (List.mem_of_getElem? (i := 2) rfl)) (hw _ (List.mem_of_getElem? (i := 3) rfl)) (by decide) (rm_fc1 l Z a0 hw va kva u0 u1 u2 u3 h0 n0 Z0 old0 S0__VALUES V0_va E0_va F0_code_u0 F0_code_u1 F0_code_u2 F0_code_u3) (by rw [hml]; rfl) e0 [(.int (1 : Int32))] rfl rfl (W := 0) (Nat.le_of_eq rfl) (by decide) (by decide) (by decide) (by decide) (lenOf pd_1 rfl) (hb hby at_5) rfl fun v5 T5 L5 X5 hQ5 => ?_
    obtain ⟨rfl, Nq5, kc5⟩ := hQ5
    have N5 := Fr.app N0 Nq5
    have Z5 : n0 ≤ T5.heap.size := Nat.le_trans Z0 kc5.1
    show Ga _ _ _ _ _ _ _ _ _ _ _ [(.ref u1)]
    refine g_astoreN X5 hx (Ls' := #[.val (.int p0), .val (.int (1 : Int32)), .val (.ref u1), .unset]) (hb hby at_8) rfl rfl rfl ?_
    refine g_iloadN X5 hx (hb hby at_9) rfl rfl ?_
    have f7 : Old Z n0 T5.heap := (old0.keep kc5 all0)
    refine g_static X5 hx hZ hown (hw _ (List.mem_of_getElem? (i := 25) rfl)) (hw _ (List.mem_of_getElem? (i := 26) rfl)) (hw _ (List.mem_of_getElem? (i := 27) rfl)) (hw _ (List.mem_of_getElem? (i := 28) rfl)) (by decide) (rm_xf1 l Z a0 hw u1 T5.heap n0 Z5 f7 S0_HIGH_MVMT) (by rw [hml]; rfl) rfl [(.int (1 : Int32))] rfl rfl (W := 0) (Nat.le_of_eq rfl) (by decide) (by decide) (by decide) (by decide) (lenOf pd_1 rfl) (hb hby at_10) rfl fun v6 T6 L6 X6 hQ6 => ?_
    obtain ⟨rfl, Nq6, eh6⟩ := hQ6
    have N6 := Fr.app N5 Nq6
    show Ga _ _ _ _ _ _ _ _ _ _ _ [(.ref u1)]
    refine g_astoreN X6 hx (Ls' := #[.val (.int p0), .val (.int (1 : Int32)), .val (.ref u1), .val (.ref u1)]) (hb hby at_13) rfl rfl rfl ?_
    refine g_aloadN X6 hx (hb hby at_14) rfl rfl rfl ?_
    refine g_aloadN X6 hx (hb hby at_15) rfl rfl rfl ?_
    refine g_acmp X6 hx (q := 19) (same := true) (hb hby at_16) rfl rfl (decide_eq_true rfl) (by decide) (by decide) ?_
    refine g_aloadN X6 hx (hb hby at_19) rfl rfl rfl ?_
    refine g_virtual X6 hx hZ hown (hw _ (List.mem_of_getElem? (i := 30) rfl)) (hw _ (List.mem_of_getElem? (i := 31) rfl)) (notFace_of_selects (args := #[]) (mvT hZ (hw _ (List.mem_of_getElem? (i := 33) rfl)))) (hw _ (List.mem_of_getElem? (i := 33) rfl)) (hw _ (List.mem_of_getElem? (i := 32) rfl)) (hw _ (List.mem_of_getElem? (i := 2) rfl)) (hw _ (List.mem_of_getElem? (i := 34) rfl)) (by decide) (a := u1) (Exa.ext f7.2 E0_u1) (rm_code l Z a0 hw u1 (1 : Int32) T5.heap n0 Z5 (Fld.ext f7.2 F0_code_u1)) (by rw [hml]; rfl) eh6 [] rfl rfl (W := 0) (Nat.le_of_eq rfl) (by decide) (by decide) (by decide) (by decide) (lenOf pd_2 rfl) (hb hby at_20) rfl fun v8 T8 L8 X8 hQ8 => ?_
    obtain ⟨rfl, Nq8, eh8⟩ := hQ8
    have N8 := Fr.app N6 Nq8
    show Ga _ _ _ _ _ _ _ _ _ _ _ [(.int (1 : Int32))]
    refine g_iloadN X8 hx (hb hby at_23) rfl rfl ?_
    refine g_icmpN X8 hx (hb hby at_24) rfl (XT.ii_ne_f (by decide : (1 : Int32) = (1 : Int32))) ?_
    refine g_iconst X8 hx (r := (1 : Int32)) (hb hby at_27) rfl rfl ?_
    refine g_goto X8 hx (q := 32) (hb hby at_28) (by decide) (by decide) ?_
    exact g_retN X8 hx (t := .boolean) (r := (1 : Int32)) hret (by simp) hlk (hb hby at_32) rfl (by decide) (by decide) (by rw [eh8]; exact ⟨rfl, N8⟩)
  · skip
    refine g_iloadN X0 hx (hb hby at_4) rfl rfl ?_
    refine g_static X0 hx hZ hown (hw _ (List.mem_of_getElem? (i := 0) rfl)) (hw _ (List.mem_of_getElem? (i := 1) rfl)) (hw _ (List.mem_of_getElem? (i := 2) rfl)) (hw _ (List.mem_of_getElem? (i := 3) rfl)) (by decide) (rm_fc2 l Z a0 hw va kva u0 u1 u2 u3 h0 n0 Z0 old0 S0__VALUES V0_va E0_va F0_code_u0 F0_code_u1 F0_code_u2 F0_code_u3) (by rw [hml]; rfl) e0 [(.int (2 : Int32))] rfl rfl (W := 0) (Nat.le_of_eq rfl) (by decide) (by decide) (by decide) (by decide) (lenOf pd_1 rfl) (hb hby at_5) rfl fun v9 T9 L9 X9 hQ9 => ?_
    obtain ⟨rfl, Nq9, kc9⟩ := hQ9
    have N9 := Fr.app N0 Nq9
    have Z9 : n0 ≤ T9.heap.size := Nat.le_trans Z0 kc9.1
    show Ga _ _ _ _ _ _ _ _ _ _ _ [(.ref u2)]
    refine g_astoreN X9 hx (Ls' := #[.val (.int p0), .val (.int (2 : Int32)), .val (.ref u2), .unset]) (hb hby at_8) rfl rfl rfl ?_
    refine g_iloadN X9 hx (hb hby at_9) rfl rfl ?_
    have f11 : Old Z n0 T9.heap := (old0.keep kc9 all0)
    refine g_static X9 hx hZ hown (hw _ (List.mem_of_getElem? (i := 25) rfl)) (hw _ (List.mem_of_getElem? (i := 26) rfl)) (hw _ (List.mem_of_getElem? (i := 27) rfl)) (hw _ (List.mem_of_getElem? (i := 28) rfl)) (by decide) (rm_xf2 l Z a0 hw u2 T9.heap n0 Z9 f11 S0_LOW_MVMT) (by rw [hml]; rfl) rfl [(.int (2 : Int32))] rfl rfl (W := 0) (Nat.le_of_eq rfl) (by decide) (by decide) (by decide) (by decide) (lenOf pd_1 rfl) (hb hby at_10) rfl fun v10 T10 L10 X10 hQ10 => ?_
    obtain ⟨rfl, Nq10, eh10⟩ := hQ10
    have N10 := Fr.app N9 Nq10
    show Ga _ _ _ _ _ _ _ _ _ _ _ [(.ref u2)]
    refine g_astoreN X10 hx (Ls' := #[.val (.int p0), .val (.int (2 : Int32)), .val (.ref u2), .val (.ref u2)]) (hb hby at_13) rfl rfl rfl ?_
    refine g_aloadN X10 hx (hb hby at_14) rfl rfl rfl ?_
    refine g_aloadN X10 hx (hb hby at_15) rfl rfl rfl ?_
    refine g_acmp X10 hx (q := 19) (same := true) (hb hby at_16) rfl rfl (decide_eq_true rfl) (by decide) (by decide) ?_
    refine g_aloadN X10 hx (hb hby at_19) rfl rfl rfl ?_
    refine g_virtual X10 hx hZ hown (hw _ (List.mem_of_getElem? (i := 30) rfl)) (hw _ (List.mem_of_getElem? (i := 31) rfl)) (notFace_of_selects (args := #[]) (mvT hZ (hw _ (List.mem_of_getElem? (i := 33) rfl)))) (hw _ (List.mem_of_getElem? (i := 33) rfl)) (hw _ (List.mem_of_getElem? (i := 32) rfl)) (hw _ (List.mem_of_getElem? (i := 2) rfl)) (hw _ (List.mem_of_getElem? (i := 34) rfl)) (by decide) (a := u2) (Exa.ext f11.2 E0_u2) (rm_code l Z a0 hw u2 (2 : Int32) T9.heap n0 Z9 (Fld.ext f11.2 F0_code_u2)) (by rw [hml]; rfl) eh10 [] rfl rfl (W := 0) (Nat.le_of_eq rfl) (by decide) (by decide) (by decide) (by decide) (lenOf pd_2 rfl) (hb hby at_20) rfl fun v12 T12 L12 X12 hQ12 => ?_
    obtain ⟨rfl, Nq12, eh12⟩ := hQ12
    have N12 := Fr.app N10 Nq12
    show Ga _ _ _ _ _ _ _ _ _ _ _ [(.int (2 : Int32))]
    refine g_iloadN X12 hx (hb hby at_23) rfl rfl ?_
    refine g_icmpN X12 hx (hb hby at_24) rfl (XT.ii_ne_f (by decide : (2 : Int32) = (2 : Int32))) ?_
    refine g_iconst X12 hx (r := (1 : Int32)) (hb hby at_27) rfl rfl ?_
    refine g_goto X12 hx (q := 32) (hb hby at_28) (by decide) (by decide) ?_
    exact g_retN X12 hx (t := .boolean) (r := (1 : Int32)) hret (by simp) hlk (hb hby at_32) rfl (by decide) (by decide) (by rw [eh12]; exact ⟨rfl, N12⟩)
  · skip
    refine g_iloadN X0 hx (hb hby at_4) rfl rfl ?_
    refine g_static X0 hx hZ hown (hw _ (List.mem_of_getElem? (i := 0) rfl)) (hw _ (List.mem_of_getElem? (i := 1) rfl)) (hw _ (List.mem_of_getElem? (i := 2) rfl)) (hw _ (List.mem_of_getElem? (i := 3) rfl)) (by decide) (rm_fc3 l Z a0 hw va kva u0 u1 u2 u3 h0 n0 Z0 old0 S0__VALUES V0_va E0_va F0_code_u0 F0_code_u1 F0_code_u2 F0_code_u3) (by rw [hml]; rfl) e0 [(.int (3 : Int32))] rfl rfl (W := 0) (Nat.le_of_eq rfl) (by decide) (by decide) (by decide) (by decide) (lenOf pd_1 rfl) (hb hby at_5) rfl fun v13 T13 L13 X13 hQ13 => ?_
    obtain ⟨rfl, Nq13, kc13⟩ := hQ13
    have N13 := Fr.app N0 Nq13
    have Z13 : n0 ≤ T13.heap.size := Nat.le_trans Z0 kc13.1
    show Ga _ _ _ _ _ _ _ _ _ _ _ [(.ref u3)]
    refine g_astoreN X13 hx (Ls' := #[.val (.int p0), .val (.int (3 : Int32)), .val (.ref u3), .unset]) (hb hby at_8) rfl rfl rfl ?_
    refine g_iloadN X13 hx (hb hby at_9) rfl rfl ?_
    have f15 : Old Z n0 T13.heap := (old0.keep kc13 all0)
    refine g_static X13 hx hZ hown (hw _ (List.mem_of_getElem? (i := 25) rfl)) (hw _ (List.mem_of_getElem? (i := 26) rfl)) (hw _ (List.mem_of_getElem? (i := 27) rfl)) (hw _ (List.mem_of_getElem? (i := 28) rfl)) (by decide) (rm_xf3 l Z a0 hw u3 T13.heap n0 Z13 f15 S0_STATIONARY) (by rw [hml]; rfl) rfl [(.int (3 : Int32))] rfl rfl (W := 0) (Nat.le_of_eq rfl) (by decide) (by decide) (by decide) (by decide) (lenOf pd_1 rfl) (hb hby at_10) rfl fun v14 T14 L14 X14 hQ14 => ?_
    obtain ⟨rfl, Nq14, eh14⟩ := hQ14
    have N14 := Fr.app N13 Nq14
    show Ga _ _ _ _ _ _ _ _ _ _ _ [(.ref u3)]
    refine g_astoreN X14 hx (Ls' := #[.val (.int p0), .val (.int (3 : Int32)), .val (.ref u3), .val (.ref u3)]) (hb hby at_13) rfl rfl rfl ?_
    refine g_aloadN X14 hx (hb hby at_14) rfl rfl rfl ?_
    refine g_aloadN X14 hx (hb hby at_15) rfl rfl rfl ?_
    refine g_acmp X14 hx (q := 19) (same := true) (hb hby at_16) rfl rfl (decide_eq_true rfl) (by decide) (by decide) ?_
    refine g_aloadN X14 hx (hb hby at_19) rfl rfl rfl ?_
    refine g_virtual X14 hx hZ hown (hw _ (List.mem_of_getElem? (i := 30) rfl)) (hw _ (List.mem_of_getElem? (i := 31) rfl)) (notFace_of_selects (args := #[]) (mvT hZ (hw _ (List.mem_of_getElem? (i := 33) rfl)))) (hw _ (List.mem_of_getElem? (i := 33) rfl)) (hw _ (List.mem_of_getElem? (i := 32) rfl)) (hw _ (List.mem_of_getElem? (i := 2) rfl)) (hw _ (List.mem_of_getElem? (i := 34) rfl)) (by decide) (a := u3) (Exa.ext f15.2 E0_u3) (rm_code l Z a0 hw u3 (3 : Int32) T13.heap n0 Z13 (Fld.ext f15.2 F0_code_u3)) (by rw [hml]; rfl) eh14 [] rfl rfl (W := 0) (Nat.le_of_eq rfl) (by decide) (by decide) (by decide) (by decide) (lenOf pd_2 rfl) (hb hby at_20) rfl fun v16 T16 L16 X16 hQ16 => ?_
    obtain ⟨rfl, Nq16, eh16⟩ := hQ16
    have N16 := Fr.app N14 Nq16
    show Ga _ _ _ _ _ _ _ _ _ _ _ [(.int (3 : Int32))]
    refine g_iloadN X16 hx (hb hby at_23) rfl rfl ?_
    refine g_icmpN X16 hx (hb hby at_24) rfl (XT.ii_ne_f (by decide : (3 : Int32) = (3 : Int32))) ?_
    refine g_iconst X16 hx (r := (1 : Int32)) (hb hby at_27) rfl rfl ?_
    refine g_goto X16 hx (q := 32) (hb hby at_28) (by decide) (by decide) ?_
    exact g_retN X16 hx (t := .boolean) (r := (1 : Int32)) hret (by simp) hlk (hb hby at_32) rfl (by decide) (by decide) (by rw [eh16]; exact ⟨rfl, N16⟩)
set_option maxRecDepth 65536 in
set_option maxHeartbeats 40000000 in
theorem comes_1 {Post : Tables → Env → Array Value → State → Outcome → State → Prop} (hpost : ∀ tb e args s v u, (limb_1_1.after args s (.returned v) u = true ∧ limb_1_2.after args s (.returned v) u = true ∧ True) → FrameEnd s (.returned v) u (Jvm.fieldLocs frame_1_writes args s ++ Jvm.arrayLocs frame_1_arrays args s ++ Jvm.staticLocs frame_1_statics s) 16 128 → Post tb e args s (.returned v) u) :
    ArmFor flags0 classFile x code maxLocals ret World_1 tables_1 room_1 Calls_1 rest_1 Pre_1 Post := by
  intro l hfl _ _ p e ha hc hk s m args below hf hA hF happ hP
  obtain ⟨hcalls, hrest, hpre⟩ := hP
  obtain ⟨-, -, -, hnamed, -, -, -, hat⟩ := (Spec.applies_iff hf).mp happ
  obtain ⟨hg, hn⟩ := and_e (Cond.before_iff.mp (show (Jvm.Cond.and given_1 narrow_1).before args s = true from hpre))
  obtain ⟨hcn, hg1⟩ := and_e hg
  have k1 := hg1
  obtain ⟨w0, rfl⟩ : ∃ w0 : Value, args = #[w0] := by
    have hs : args.size = 1 := by simpa [Cond.value, given_1] using hcn
    obtain ⟨L⟩ := args
    match L, hs with
    | [w0], _ => exact ⟨w0, rfl⟩
  have hw := fun d (hd : d ∈ tables_1) => atoms_spec (ws := Jvm.Cond.code x code maxLocals ret :: tables_1) hat d (List.mem_cons_of_mem _ hd)
  have hfit : Fit s := fun {y c} hc i hi => by
    obtain ⟨ha, rfl⟩ := Array.getElem?_eq_some_iff.mp hc
    have q := List.all_eq_true.mp ((Array.all_eq_true_iff_forall_mem.mp hF) _ (Array.getElem_mem ha)) i (List.mem_range.mpr hi)
    simpa [Array.getElem?_eq_getElem hi] using q
  obtain ⟨i0, ei0⟩ := is_v k1
  obtain rfl : w0 = (.int i0) := Option.some.inj ei0
  obtain ⟨m1, m_r1⟩ := and_e hn
  obtain ⟨m2, m_r2⟩ := and_e m_r1
  obtain ⟨m3, m_r3⟩ := and_e m_r2
  obtain ⟨m4, m_r4⟩ := and_e m_r3
  obtain ⟨m5, m_r5⟩ := and_e m_r4
  obtain ⟨m6, m_r6⟩ := and_e m_r5
  obtain ⟨m7, m_r7⟩ := and_e m_r6
  obtain ⟨m8, m_r8⟩ := and_e m_r7
  obtain ⟨m9, m_r9⟩ := and_e m_r8
  obtain ⟨m10, m_r10⟩ := and_e m_r9
  obtain ⟨m11, m_r11⟩ := and_e m_r10
  obtain ⟨m12, m_r12⟩ := and_e m_r11
  obtain ⟨m13, m_r13⟩ := and_e m_r12
  obtain ⟨m14, m_r14⟩ := and_e m_r13
  have m15 := m_r14
  obtain ⟨va, eva⟩ := arr_v m1
  have Sva := Sta.start eva (Or.inr ⟨hw _ (List.mem_of_getElem? (i := 2) rfl), hw _ (List.mem_of_getElem? (i := 8) rfl)⟩)
  have Eva := Exa.start eva m2
  obtain ⟨cva, Ava⟩ := Arr.start eva m1
  obtain ⟨u0, eu0⟩ := exa_v m4
  have Su0 := Sta.start eu0 (Or.inr ⟨hw _ (List.mem_of_getElem? (i := 2) rfl), hw _ (List.mem_of_getElem? (i := 16) rfl)⟩)
  have Eu0 := Exa.start eu0 m4
  have xu0 := (elem_in (own_eqr m5 eu0) eva (Term.int_eval 0) Ava.1).2
  have Fu0 := Fld.start ((fld_at eu0).symm.trans (own_eqi m12))
  obtain ⟨u1, eu1⟩ := exa_v m6
  have Su1 := Sta.start eu1 (Or.inr ⟨hw _ (List.mem_of_getElem? (i := 2) rfl), hw _ (List.mem_of_getElem? (i := 17) rfl)⟩)
  have Eu1 := Exa.start eu1 m6
  have xu1 := (elem_in (own_eqr m7 eu1) eva (Term.int_eval 1) Ava.1).2
  have Fu1 := Fld.start ((fld_at eu1).symm.trans (own_eqi m13))
  obtain ⟨u2, eu2⟩ := exa_v m8
  have Su2 := Sta.start eu2 (Or.inr ⟨hw _ (List.mem_of_getElem? (i := 2) rfl), hw _ (List.mem_of_getElem? (i := 18) rfl)⟩)
  have Eu2 := Exa.start eu2 m8
  have xu2 := (elem_in (own_eqr m9 eu2) eva (Term.int_eval 2) Ava.1).2
  have Fu2 := Fld.start ((fld_at eu2).symm.trans (own_eqi m14))
  obtain ⟨u3, eu3⟩ := exa_v m10
  have Su3 := Sta.start eu3 (Or.inr ⟨hw _ (List.mem_of_getElem? (i := 2) rfl), hw _ (List.mem_of_getElem? (i := 19) rfl)⟩)
  have Eu3 := Exa.start eu3 m10
  have xu3 := (elem_in (own_eqr m11 eu3) eva (Term.int_eval 3) Ava.1).2
  have Fu3 := Fld.start ((fld_at eu3).symm.trans (own_eqi m15))
  have hl4 := own_len0 Ava eva (own_eqi m3)
  have Vva : Arv s s.heap va cva.cls (.object "com/example/glowworm/glowworm/MobilityState") (4 : Int32) [(.ref u0), (.ref u1), (.ref u2), (.ref u3)] .null := Arv.start hfit Ava hl4.1 hl4.2 (by decide) rfl ⟨xu0, xu1, xu2, xu3, trivial⟩
  obtain ⟨n, o, h1, h2, h3, _, L, rfl, ⟨rfl, N⟩, hq⟩ := rm_law l s _ hw tables_1 i0 va cva.cls u0 u1 u2 u3 s.heap s.heap.size (Nat.le_refl _) (Old.start s) Sva Vva Eva Su0 Eu0 Fu0 Su1 Eu1 Fu1 Su2 Eu2 Fu2 Su3 Eu3 Fu3 p e ha hc hk s m _ below hf ((Spec.applies_iff_loose hf).mp happ).1 ⟨rfl, State.Warmed39.refl s, rfl⟩ trivial
  refine ⟨n, _, h1, h2, h3, hpost _ _ _ _ _ _ ⟨Cond.after_iff.mpr rfl, Cond.after_iff.mpr (eq_i res_at (Term.int_eval (1)) rfl), trivial⟩ ⟨hq.1, hq.2.1, (hq.2.2.sift fun y hy => Or.inr (N y hy)).mono (by decide) (by decide)⟩⟩
theorem main_1_1 : Claimed_1_1 := comes_1 fun _ _ _ _ _ _ h hF => ⟨h.1, hF⟩
theorem main_1_2 : Claimed_1_2 := comes_1 fun _ _ _ _ _ _ h hF => ⟨h.2.1, hF⟩
end Jvm.Pilot.@@N@@
namespace Jvm.Pilot.@@N@@
open Jvm Jvm.ClassFile Sem Op Lib Jvm.Free Jvm.Stand Jvm.Pilot.@@N@@.Jvm.D
/-! MADE BY PROGRAM (witnessworld.py) out of the Statement's table words and the real class files: 13 classes; the members and pool entries that the words name. The judged class is class 1, her method 2. -/
namespace start1
open Jvm.ClassFile
def u (s : String) : CpInfo := .utf8 (stringToUtf16 s)
/-- a pool by its gaps: so many unusable entries, then the entry; so many at the end -/
def gap : Nat → List CpInfo → List CpInfo
  | 0, r => r
  | n + 1, r => .unusable :: gap n r
def poolList (es : List (Nat × CpInfo)) (last : Nat) : List CpInfo := es.foldr (fun e r => gap e.1 (e.2 :: r)) (gap last [])
def pool (es : List (Nat × CpInfo)) (last : Nat) : Array CpInfo := ⟨poolList es last⟩
def fileOf (pool : Array CpInfo) (this : Nat) (attrs : Array Attribute := #[]) (ms : Array MethodInfo := #[]) (fl : Nat := 33) (sup : Nat := 0) (ifs : Array Nat := #[]) (fds : Array FieldInfo := #[]) : ClassFile where
  minorVersion := 0
  majorVersion := 65
  constantPool := pool
  accessFlags := fl
  thisClass := this
  superClass := sup
  interfaces := ifs
  fields := fds
  methods := ms
  attributes := attrs
def plain (name : String) (sup : Option ClassId) : Class where
  name := name
  kind := .ordinary
  loader := none
  accessFlags := 33
  super := sup
  interfaces := #[]
  cf := none
  fields := #[]
  methods := #[]
  instanceTypes := #[]
  staticTypes := #[]
  resolved := #[]
  callSites := []
  init := .initialized
  statics := none
  mirror := none

def pool0 : Array CpInfo := pool [(5, u "<init>"), (0, u "()V"), (1, .class_ 10), (1, u "java/lang/Object"), (85, u "clone"), (0, u "()Ljava/lang/Object;")] 26

def k0m0 : Method := { name := "<init>", desc := "()V", sig := { parameters := [], returnType := none }, accessFlags := 1, code := none }
def k0m1 : Method := { name := "clone", desc := "()Ljava/lang/Object;", sig := { parameters := [], returnType := some (.object "java/lang/Object") }, accessFlags := 260, code := none }
/-- java/lang/Object -/
def k0 : Class := { plain "java/lang/Object" none with
  accessFlags := 33
  interfaces := #[]
  cf := some (fileOf pool0 8 #[] #[{ accessFlags := 1, nameIndex := 5, descriptorIndex := 6, attributes := #[] }, { accessFlags := 260, nameIndex := 96, descriptorIndex := 97, attributes := #[] }] 33 0 #[] #[])
  fields := #[]
  methods := #[k0m0, k0m1]
  instanceTypes := #[]
  staticTypes := #[]
  resolved := Array.replicate 124 none
  statics := none }

def pool1 : Array CpInfo := pool [(2, .class_ 4), (1, u "java/lang/Object"), (0, u "<init>"), (0, u "()V"), (0, .fieldref 8 9), (0, .class_ 10), (0, .nameAndType 11 12), (0, u "com/example/glowworm/glowworm/MobilityState"), (0, u "UNKNOWN"), (0, u "Lcom/example/glowworm/glowworm/MobilityState;"), (0, .fieldref 8 14), (0, .nameAndType 15 12), (0, u "HIGH_MVMT"), (0, .fieldref 8 17), (0, .nameAndType 18 12), (0, u "LOW_MVMT"), (0, .fieldref 8 20), (0, .nameAndType 21 12), (0, u "STATIONARY"), (0, .methodref 8 23), (0, .nameAndType 24 25), (0, u "fromCode"), (0, u "(I)Lcom/example/glowworm/glowworm/MobilityState;"), (0, .methodref 27 28), (0, .class_ 29), (0, .nameAndType 30 25), (0, u "com/example/glowworm/glowworm/MobilityStateFromCodePinLaw"), (0, u "expectedFor"), (0, .methodref 8 32), (0, .nameAndType 33 34), (0, u "code"), (0, u "()I"), (3, u "law"), (0, u "(I)Z")] 2

def k1m0 : Method := { name := "<init>", desc := "()V", sig := { parameters := [], returnType := none }, accessFlags := 2, code := none }
def k1c1 : Code := { maxStack := 2, maxLocals := 1, code := method_2_code, exceptionTable := #[], attributes := #[] }
def k1m1 : Method := { name := "expectedFor", desc := "(I)Lcom/example/glowworm/glowworm/MobilityState;", sig := { parameters := [.int], returnType := some (.object "com/example/glowworm/glowworm/MobilityState") }, accessFlags := 10, code := some k1c1 }
def k1c2 : Code := { maxStack := 2, maxLocals := 4, code := code, exceptionTable := #[], attributes := #[] }
def k1m2 : Method := { name := "law", desc := "(I)Z", sig := { parameters := [.int], returnType := some .boolean }, accessFlags := 9, code := some k1c2 }
/-- com/example/glowworm/glowworm/MobilityStateFromCodePinLaw -/
def k1 : Class := { plain "com/example/glowworm/glowworm/MobilityStateFromCodePinLaw" (some 0) with
  accessFlags := 49
  interfaces := #[]
  cf := some (fileOf pool1 27 #[] #[{ accessFlags := 2, nameIndex := 5, descriptorIndex := 6, attributes := #[] }, { accessFlags := 10, nameIndex := 30, descriptorIndex := 25, attributes := #[] }, { accessFlags := 9, nameIndex := 38, descriptorIndex := 39, attributes := #[] }] 49 2 #[] #[])
  fields := #[]
  methods := #[k1m0, k1m1, k1m2]
  instanceTypes := #[]
  staticTypes := #[]
  resolved := Array.replicate 42 none
  statics := none }

def pool2 : Array CpInfo := pool [(1, .class_ 2), (0, u "java/lang/constant/Constable"), (0, .class_ 4), (0, u "java/lang/Object")] 6

/-- java/lang/constant/Constable -/
def k2 : Class := { plain "java/lang/constant/Constable" (some 0) with
  accessFlags := 1537
  interfaces := #[]
  cf := some (fileOf pool2 1 #[] #[] 1537 3 #[] #[])
  fields := #[]
  methods := #[]
  instanceTypes := #[]
  staticTypes := #[]
  resolved := Array.replicate 11 none
  statics := none }

def pool3 : Array CpInfo := pool [(1, .class_ 2), (0, u "java/lang/Comparable"), (0, .class_ 4), (0, u "java/lang/Object")] 7

/-- java/lang/Comparable -/
def k3 : Class := { plain "java/lang/Comparable" (some 0) with
  accessFlags := 1537
  interfaces := #[]
  cf := some (fileOf pool3 1 #[] #[] 1537 3 #[] #[])
  fields := #[]
  methods := #[]
  instanceTypes := #[]
  staticTypes := #[]
  resolved := Array.replicate 12 none
  statics := none }

def pool4 : Array CpInfo := pool [(1, .class_ 2), (0, u "java/io/Serializable"), (0, .class_ 4), (0, u "java/lang/Object")] 2

/-- java/io/Serializable -/
def k4 : Class := { plain "java/io/Serializable" (some 0) with
  accessFlags := 1537
  interfaces := #[]
  cf := some (fileOf pool4 1 #[] #[] 1537 3 #[] #[])
  fields := #[]
  methods := #[]
  instanceTypes := #[]
  staticTypes := #[]
  resolved := Array.replicate 7 none
  statics := none }

def pool5 : Array CpInfo := pool [(2, .class_ 4), (1, u "java/lang/Enum"), (0, u "name"), (0, u "Ljava/lang/String;"), (2, u "ordinal"), (0, u "I"), (1, .class_ 14), (1, u "java/lang/Object"), (4, u "hash"), (86, .class_ 108), (1, u "java/lang/Enum$EnumDesc"), (2, .class_ 112), (0, u "java/lang/constant/Constable"), (0, .class_ 114), (0, u "java/lang/Comparable"), (0, .class_ 116), (0, u "java/io/Serializable")] 87

/-- java/lang/Enum -/
def k5 : Class := { plain "java/lang/Enum" (some 0) with
  accessFlags := 1057
  interfaces := #[2, 3, 4]
  cf := some (fileOf pool5 2 #[.nestMembers #[106]] #[] 1057 12 #[111, 113, 115] #[{ accessFlags := 18, nameIndex := 5, descriptorIndex := 6, attributes := #[] }, { accessFlags := 18, nameIndex := 9, descriptorIndex := 10, attributes := #[] }, { accessFlags := 2, nameIndex := 19, descriptorIndex := 10, attributes := #[] }])
  fields := #[{ name := "name", type := (.object "java/lang/String"), accessFlags := 18, slot := 0, constantValue := 0 }, { name := "ordinal", type := .int, accessFlags := 18, slot := 1, constantValue := 0 }, { name := "hash", type := .int, accessFlags := 2, slot := 2, constantValue := 0 }]
  methods := #[]
  instanceTypes := #[(.object "java/lang/String"), .int, .int]
  staticTypes := #[]
  resolved := Array.replicate 204 none
  statics := none }

def pool6 : Array CpInfo := pool [(1, .class_ 2), (0, u "com/example/glowworm/glowworm/MobilityState"), (2, u "UNKNOWN"), (0, u "Lcom/example/glowworm/glowworm/MobilityState;"), (2, u "HIGH_MVMT"), (2, u "LOW_MVMT"), (2, u "STATIONARY"), (0, .fieldref 1 17), (0, .nameAndType 18 19), (0, u "$VALUES"), (0, u "[Lcom/example/glowworm/glowworm/MobilityState;"), (0, .methodref 21 22), (0, .class_ 19), (0, .nameAndType 23 24), (0, u "clone"), (0, u "()Ljava/lang/Object;"), (1, .class_ 28), (1, u "java/lang/Enum"), (6, .fieldref 1 36), (0, .nameAndType 37 38), (0, u "code"), (0, u "I"), (2, u "steadyScanIntervalSeconds"), (0, .methodref 1 43), (0, .nameAndType 44 45), (0, u "values"), (0, u "()[Lcom/example/glowworm/glowworm/MobilityState;"), (19, u "DEVICE_MOBILITY_STATE_UNKNOWN"), (2, u "DEVICE_MOBILITY_STATE_HIGH_MVMT"), (1, u "DEVICE_MOBILITY_STATE_LOW_MVMT"), (1, u "DEVICE_MOBILITY_STATE_STATIONARY"), (7, u "fromCode"), (0, u "(I)Lcom/example/glowworm/glowworm/MobilityState;"), (1, u "()I")] 20

def k6c0 : Code := { maxStack := 1, maxLocals := 0, code := prog_7_method_1_code, exceptionTable := #[], attributes := #[] }
def k6m0 : Method := { name := "values", desc := "()[Lcom/example/glowworm/glowworm/MobilityState;", sig := { parameters := [], returnType := some (.array (.object "com/example/glowworm/glowworm/MobilityState")) }, accessFlags := 9, code := some k6c0 }
def k6c1 : Code := { maxStack := 3, maxLocals := 5, code := prog_7_method_4_code, exceptionTable := #[], attributes := #[] }
def k6m1 : Method := { name := "fromCode", desc := "(I)Lcom/example/glowworm/glowworm/MobilityState;", sig := { parameters := [.int], returnType := some (.object "com/example/glowworm/glowworm/MobilityState") }, accessFlags := 9, code := some k6c1 }
def k6c2 : Code := { maxStack := 1, maxLocals := 1, code := prog_7_method_5_code, exceptionTable := #[], attributes := #[] }
def k6m2 : Method := { name := "code", desc := "()I", sig := { parameters := [], returnType := some .int }, accessFlags := 1, code := some k6c2 }
/-- com/example/glowworm/glowworm/MobilityState -/
def k6 : Class := { plain "com/example/glowworm/glowworm/MobilityState" (some 5) with
  accessFlags := 16433
  interfaces := #[]
  cf := some (fileOf pool6 1 #[] #[{ accessFlags := 9, nameIndex := 44, descriptorIndex := 45, attributes := #[] }, { accessFlags := 9, nameIndex := 80, descriptorIndex := 81, attributes := #[] }, { accessFlags := 1, nameIndex := 37, descriptorIndex := 83, attributes := #[] }] 16433 26 #[] #[{ accessFlags := 16409, nameIndex := 5, descriptorIndex := 6, attributes := #[] }, { accessFlags := 16409, nameIndex := 9, descriptorIndex := 6, attributes := #[] }, { accessFlags := 16409, nameIndex := 12, descriptorIndex := 6, attributes := #[] }, { accessFlags := 16409, nameIndex := 15, descriptorIndex := 6, attributes := #[] }, { accessFlags := 25, nameIndex := 65, descriptorIndex := 38, attributes := #[] }, { accessFlags := 25, nameIndex := 68, descriptorIndex := 38, attributes := #[] }, { accessFlags := 25, nameIndex := 70, descriptorIndex := 38, attributes := #[] }, { accessFlags := 25, nameIndex := 72, descriptorIndex := 38, attributes := #[] }, { accessFlags := 18, nameIndex := 37, descriptorIndex := 38, attributes := #[] }, { accessFlags := 18, nameIndex := 41, descriptorIndex := 38, attributes := #[] }, { accessFlags := 4122, nameIndex := 18, descriptorIndex := 19, attributes := #[] }])
  fields := #[{ name := "UNKNOWN", type := (.object "com/example/glowworm/glowworm/MobilityState"), accessFlags := 16409, slot := 0, constantValue := 0 }, { name := "HIGH_MVMT", type := (.object "com/example/glowworm/glowworm/MobilityState"), accessFlags := 16409, slot := 1, constantValue := 0 }, { name := "LOW_MVMT", type := (.object "com/example/glowworm/glowworm/MobilityState"), accessFlags := 16409, slot := 2, constantValue := 0 }, { name := "STATIONARY", type := (.object "com/example/glowworm/glowworm/MobilityState"), accessFlags := 16409, slot := 3, constantValue := 0 }, { name := "DEVICE_MOBILITY_STATE_UNKNOWN", type := .int, accessFlags := 25, slot := 4, constantValue := 0 }, { name := "DEVICE_MOBILITY_STATE_HIGH_MVMT", type := .int, accessFlags := 25, slot := 5, constantValue := 0 }, { name := "DEVICE_MOBILITY_STATE_LOW_MVMT", type := .int, accessFlags := 25, slot := 6, constantValue := 0 }, { name := "DEVICE_MOBILITY_STATE_STATIONARY", type := .int, accessFlags := 25, slot := 7, constantValue := 0 }, { name := "code", type := .int, accessFlags := 18, slot := 3, constantValue := 0 }, { name := "steadyScanIntervalSeconds", type := .int, accessFlags := 18, slot := 4, constantValue := 0 }, { name := "$VALUES", type := (.array (.object "com/example/glowworm/glowworm/MobilityState")), accessFlags := 4122, slot := 8, constantValue := 0 }]
  methods := #[k6m0, k6m1, k6m2]
  instanceTypes := #[(.object "java/lang/String"), .int, .int, .int, .int]
  staticTypes := #[(.object "com/example/glowworm/glowworm/MobilityState"), (.object "com/example/glowworm/glowworm/MobilityState"), (.object "com/example/glowworm/glowworm/MobilityState"), (.object "com/example/glowworm/glowworm/MobilityState"), .int, .int, .int, .int, (.array (.object "com/example/glowworm/glowworm/MobilityState"))]
  resolved := Array.replicate 104 none
  statics := some 0 }

def pool7 : Array CpInfo := pool [(1, .class_ 2), (0, u "java/lang/Cloneable"), (0, .class_ 4), (0, u "java/lang/Object")] 2

/-- java/lang/Cloneable -/
def k7 : Class := { plain "java/lang/Cloneable" (some 0) with
  accessFlags := 1537
  interfaces := #[]
  cf := some (fileOf pool7 1 #[] #[] 1537 3 #[] #[])
  fields := #[]
  methods := #[]
  instanceTypes := #[]
  staticTypes := #[]
  resolved := Array.replicate 7 none
  statics := none }

/-- the primitive byte -/
def k8 : Class := { plain "byte" none with kind := .primitive 'B', accessFlags := 0x411 }
/-- [B -/
def k9 : Class := { plain "[B" (some 0) with kind := .array 8 .byte, interfaces := #[7, 4], accessFlags := 1041 }

/-- the primitive int -/
def k10 : Class := { plain "int" none with kind := .primitive 'I', accessFlags := 0x411 }
/-- [I -/
def k11 : Class := { plain "[I" (some 0) with kind := .array 10 .int, interfaces := #[7, 4], accessFlags := 1041 }

/-- [Lcom/example/glowworm/glowworm/MobilityState; -/
def k12 : Class := { plain "[Lcom/example/glowworm/glowworm/MobilityState;" (some 0) with kind := .array 6 (.object "com/example/glowworm/glowworm/MobilityState"), interfaces := #[7, 4], accessFlags := 1041 }

def heap : Heap := #[{ cls := 6, slots := #[.ref 2, .ref 3, .ref 4, .ref 5, .int 0, .int 0, .int 0, .int 0, .ref 1], vm := .statics 6 },
  { cls := 12, slots := #[.ref 2, .ref 3, .ref 4, .ref 5], vm := .none },
  { cls := 6, slots := #[.null, .int 0, .int 0, .int 0, .int 0], vm := .none },
  { cls := 6, slots := #[.null, .int 1, .int 0, .int 1, .int 0], vm := .none },
  { cls := 6, slots := #[.null, .int 2, .int 0, .int 2, .int 0], vm := .none },
  { cls := 6, slots := #[.null, .int 3, .int 0, .int 3, .int 0], vm := .none }]
def classes : Array Class := #[k0, k1, k2, k3, k4, k5, k6, k7, k8, k9, k10, k11, k12]
def interned : List (Array UInt16 × Addr) := []
def slotsUsed : Nat := 33
def theMethod : MethodId := ⟨1, 2⟩
def args0 : Array Value := #[.int 5]
def aboutOver (below : List Frame) : State where
  vm := { classes := classes, interned := interned.toArray }
  heap := heap
  slotsUsed := slotsUsed
  threads := #[{ frames := .invoking theMethod args0 :: below }]
def below0 : List Frame := [.native { method := ⟨0, 0⟩, args := #[] }]
def about1 : State := aboutOver below0
def p0 : Program := .bare "" "" ""
def e0 : Env := launch0.env 0 0 0
theorem w_frames : about1.frames = Frame.invoking theMethod args0 :: below0 := rfl
set_option maxRecDepth 65536 in
theorem w_args : argsFit about1.vm theMethod args0 = true := by decide +kernel
set_option maxRecDepth 65536 in
theorem w_heap : heapFits about1 = true := by decide +kernel
set_option maxRecDepth 65536 in
theorem w_runnable : about1.curStatus? = some .runnable := by decide +kernel
set_option maxRecDepth 65536 in
theorem w_alone : about1.alone = true := by decide +kernel
set_option maxRecDepth 65536 in
theorem w_named : about1.methodNamed? x = some theMethod := by decide +kernel
set_option maxRecDepth 65536 in
theorem w_hears : about1.hears theMethod below0 = true := by decide +kernel
set_option maxRecDepth 65536 in
theorem w_ripe : about1.ripe theMethod args0 below0 = true := by decide +kernel
theorem w_running : about1.status = .running := rfl
set_option maxRecDepth 65536 in
theorem w_room : about1.hasRoom e0.platform room_1 = true :=
  launch0.hasRoom_least _ room_1 (by decide +kernel) (by decide +kernel) (by decide +kernel) (by decide +kernel) (by decide +kernel) (by decide +kernel)
theorem allAtoms_all (ts : List Jvm.Cond) (a : Array Jvm.Value) (st : Jvm.State) : (allAtoms ts).before a st = ts.all (fun c => c.before a st) := by
  induction ts with
  | nil => rfl
  | cons c t ih =>
    show (Jvm.Cond.and c (allAtoms t)).before a st = _
    rw [Jvm.Cond.before_and, ih, List.all_cons]
def words1 : List Jvm.Cond := Jvm.Cond.code x code maxLocals ret :: tables_1
/-- a 'code' word, met by the world's own term for the bytes: nothing is compared byte by byte -/
theorem code_word {y : MethodName} {bytes : ByteArray} {mx : Nat} {rt : Option FieldType} {a : Array Value} {s : State} {m : MethodId} {meth : Method} {c : Code} (h1 : s.methodNamed? y = some m) (h2 : s.vm.method? m = some meth) (h3 : meth.code = some c) (h4 : c.code = bytes)
    (h5 : (c.maxLocals == mx && c.exceptionTable.isEmpty && decide (c.maxStack ≤ mostOperands) && decide (meth.sig.returnType = rt) && !meth.locks && decide (parseMethodDescriptor y.desc = some meth.sig)) = true) : (Jvm.Cond.code y bytes mx rt).before a s = true := by
  simp only [Bool.and_eq_true, beq_iff_eq, Bool.not_eq_true', decide_eq_true_eq] at h5
  obtain ⟨⟨⟨⟨⟨g1, g2⟩, g3⟩, g4⟩, g5⟩, g6⟩ := h5
  simp [Cond.before, Cond.holds, Cond.value, h1, h2, h3, h4, g1, g2, g3, g4, g5, g6]
def isCode : Jvm.Cond → Bool
  | .code _ _ _ _ => true
  | _ => false
theorem all_split {L : List Jvm.Cond} {P : Jvm.Cond → Bool} (h1 : L.all (fun c => isCode c || P c) = true) (h2 : ∀ c ∈ L.filter isCode, P c = true) : L.all P = true := by
  refine List.all_eq_true.mpr fun c hc => ?_
  have h := List.all_eq_true.mp h1 c hc
  rcases Bool.eq_false_or_eq_true (isCode c) with hi | hi
  · exact h2 c (List.mem_filter.mpr ⟨hc, hi⟩)
  · simpa [hi] using h
set_option maxRecDepth 65536 in
theorem w_c0 : (Jvm.Cond.code x code maxLocals ret).before args0 about1 = true := code_word (m := ⟨1, 2⟩) (meth := k1m2) (c := k1c2) (by decide +kernel) rfl rfl rfl (by decide +kernel)
set_option maxRecDepth 65536 in
theorem w_c1 : (Jvm.Cond.code ({ cls := "com/example/glowworm/glowworm/MobilityState", name := "fromCode", desc := "(I)Lcom/example/glowworm/glowworm/MobilityState;" } : Jvm.MethodName) prog_7_method_4_code (5 : Nat) (Option.some (Jvm.ClassFile.FieldType.object "com/example/glowworm/glowworm/MobilityState"))).before args0 about1 = true := code_word (m := ⟨6, 1⟩) (meth := k6m1) (c := k6c1) (by decide +kernel) rfl rfl rfl (by decide +kernel)
set_option maxRecDepth 65536 in
theorem w_c2 : (Jvm.Cond.code ({ cls := "com/example/glowworm/glowworm/MobilityState", name := "values", desc := "()[Lcom/example/glowworm/glowworm/MobilityState;" } : Jvm.MethodName) prog_7_method_1_code (0 : Nat) (Option.some (Jvm.ClassFile.FieldType.array (Jvm.ClassFile.FieldType.object "com/example/glowworm/glowworm/MobilityState")))).before args0 about1 = true := code_word (m := ⟨6, 0⟩) (meth := k6m0) (c := k6c0) (by decide +kernel) rfl rfl rfl (by decide +kernel)
set_option maxRecDepth 65536 in
theorem w_c3 : (Jvm.Cond.code ({ cls := "com/example/glowworm/glowworm/MobilityStateFromCodePinLaw", name := "expectedFor", desc := "(I)Lcom/example/glowworm/glowworm/MobilityState;" } : Jvm.MethodName) method_2_code (1 : Nat) (Option.some (Jvm.ClassFile.FieldType.object "com/example/glowworm/glowworm/MobilityState"))).before args0 about1 = true := code_word (m := ⟨1, 1⟩) (meth := k1m1) (c := k1c1) (by decide +kernel) rfl rfl rfl (by decide +kernel)
set_option maxRecDepth 65536 in
theorem w_c4 : (Jvm.Cond.code ({ cls := "com/example/glowworm/glowworm/MobilityState", name := "code", desc := "()I" } : Jvm.MethodName) prog_7_method_5_code (1 : Nat) (Option.some Jvm.ClassFile.FieldType.int)).before args0 about1 = true := code_word (m := ⟨6, 2⟩) (meth := k6m2) (c := k6c2) (by decide +kernel) rfl rfl rfl (by decide +kernel)
def codes1 : List Jvm.Cond := [Jvm.Cond.code x code maxLocals ret, Jvm.Cond.code ({ cls := "com/example/glowworm/glowworm/MobilityState", name := "fromCode", desc := "(I)Lcom/example/glowworm/glowworm/MobilityState;" } : Jvm.MethodName) prog_7_method_4_code (5 : Nat) (Option.some (Jvm.ClassFile.FieldType.object "com/example/glowworm/glowworm/MobilityState")), Jvm.Cond.code ({ cls := "com/example/glowworm/glowworm/MobilityState", name := "values", desc := "()[Lcom/example/glowworm/glowworm/MobilityState;" } : Jvm.MethodName) prog_7_method_1_code (0 : Nat) (Option.some (Jvm.ClassFile.FieldType.array (Jvm.ClassFile.FieldType.object "com/example/glowworm/glowworm/MobilityState"))), Jvm.Cond.code ({ cls := "com/example/glowworm/glowworm/MobilityStateFromCodePinLaw", name := "expectedFor", desc := "(I)Lcom/example/glowworm/glowworm/MobilityState;" } : Jvm.MethodName) method_2_code (1 : Nat) (Option.some (Jvm.ClassFile.FieldType.object "com/example/glowworm/glowworm/MobilityState")), Jvm.Cond.code ({ cls := "com/example/glowworm/glowworm/MobilityState", name := "code", desc := "()I" } : Jvm.MethodName) prog_7_method_5_code (1 : Nat) (Option.some Jvm.ClassFile.FieldType.int)]
set_option maxRecDepth 65536 in
theorem codes_eq : words1.filter isCode = codes1 := rfl
theorem w_codes : ∀ c ∈ words1.filter isCode, c.before args0 about1 = true := by
  rw [codes_eq]
  intro c hc
  simp only [codes1, List.mem_cons, List.not_mem_nil, or_false] at hc
  rcases hc with rfl | rfl | rfl | rfl | rfl
  · exact w_c0
  · exact w_c1
  · exact w_c2
  · exact w_c3
  · exact w_c4
set_option maxRecDepth 65536 in
theorem w_t1 : (words1.take 24).all (fun c => isCode c || c.before args0 about1) = true := by decide +kernel
set_option maxRecDepth 65536 in
theorem w_t2 : (words1.drop 24).all (fun c => isCode c || c.before args0 about1) = true := by decide +kernel
theorem w_tables : (allAtoms (Jvm.Cond.code x code maxLocals ret :: tables_1)).before args0 about1 = true := by
  rw [allAtoms_all]
  show words1.all (fun c => c.before args0 about1) = true
  refine all_split ?_ w_codes
  rw [← List.take_append_drop 24 words1, List.all_append, w_t1, w_t2]
  rfl
set_option maxRecDepth 65536 in
theorem w_case : (Jvm.Cond.and given_1 narrow_1).before args0 about1 = true := by decide +kernel
theorem w_applies : (headSpec (Jvm.Cond.code x code maxLocals ret :: tables_1) room_1).applies x e0.platform about1 = true :=
  (Spec.applies_iff w_frames).mpr ⟨w_running, w_runnable, w_alone, w_named, w_hears, w_ripe, w_room, w_tables⟩
theorem atStart : AtStart classFile x code maxLocals ret World_1 tables_1 room_1 Calls_1 rest_1 Pre_1 launch0 p0 e0 about1 theMethod args0 below0 :=
  ⟨lists_1, trivial, launch0.admits_env _ _ _, launch0.least_env, fairChoices_fair.cas, fairChoices_fair.clock, w_frames, w_args, w_heap, w_applies, trivial, trivial, w_case⟩
end start1
theorem witness_1 : WitnessClaimed_1 := ⟨start1.p0, start1.e0, start1.about1, start1.theMethod, start1.args0, start1.below0, start1.atStart⟩
end Jvm.Pilot.@@N@@
