import JvmDerived
import JvmDerived.Pilot.@@N@@Statement
import JvmDerived.Pilot.@@N@@Code
set_option linter.unusedVariables false
set_option linter.unusedSimpArgs false
namespace Jvm.Pilot.@@N@@
open Jvm Jvm.ClassFile Sem Op Lib Jvm.Free Jvm.Stand Jvm.LawKit Jvm.RoadKit Bundle Jvm.Pilot.@@N@@.Jvm.D
def Go (p : Program) (e : Env) (below : List Frame) (s : State) (Q : Option Value → Heap → List Loc → Prop) (C S : Nat) (V : State) : Prop :=
  ∃ (U : State) (o : Outcome), Steps p.tables e below V U ∧ U.status = .running ∧ Ended U below o ∧ ∃ v L, o = .returned v ∧ Q v U.heap L ∧ FrameEnd s o U L C S
def Ga (p : Program) (e : Env) (below : List Frame) (s : State) (Q : Option Value → Heap → List Loc → Prop) (C S : Nat) (T : State) (m : MethodId) (pc : Nat) (Ls : Array Slot) (st : List Value) : Prop :=
  Go p e below s Q C S (T.setTop (mkF m pc Ls st))
abbrev Ct (l : Launch) (Z : State) (y : MethodName) (bytes : ByteArray) (maxL : Nat) (ret : Option FieldType) (ws : List Jvm.Cond) (rm : Room) (as' : Array Value) (h0 : Heap) (Q : Option Value → Heap → List Loc → Prop) : Prop :=
  MetFree l y (head1 (Jvm.Cond.code y bytes maxL ret :: ws) rm) (fun a U => a = as' ∧ Z.Warmed39 U.vm ∧ U.heap = h0) (fun _ _ _ _ _ => True) (fun _ U o U' => ∃ v L, o = .returned v ∧ Q v U'.heap L ∧ FrameEnd U o U' L rm.cells rm.slots)
section GoKit
variable {p : Program} {l : Launch} {e : Env} {R : Room} {s : State} {m : MethodId} {args : Array Value} {below : List Frame} {meth : Method} {c : Code} {T T' : State} {locs : List Loc} {cells slots : Nat} {Q : Option Value → Heap → List Loc → Prop} {C S : Nat} {Z : State} {a0 : Array Value} {h : Heap} {pc q pc' : Nat} {Ls Ls' : Array Slot} {st st' : List Value} {own : String}
theorem Ga.stp (k : ∀ t, Steps p.tables e below (T'.setTop (mkF m pc' Ls' st')) t → Steps p.tables e below (T.setTop (mkF m pc Ls st)) t) (g : Ga p e below s Q C S T' m pc' Ls' st') : Ga p e below s Q C S T m pc Ls st := by
  obtain ⟨U, o, h, r⟩ := g
  exact ⟨U, o, k _ h, r⟩
theorem own_body {y : MethodName} {bytes : ByteArray} {maxL : Nat} {ret : Option FieldType} {ws : List Jvm.Cond} {rm : Room} {h0 : Heap} {as' : Array Value} (hpl : plainFor y = true) (hef : ∀ m, entryFrame m as' maxL = mkF m 0 Ls [])
    (body : ∀ (p : Program) (e : Env) (s : State) (m : MethodId) (below : List Frame) (meth : Method) (c : Code) (T : State), p.tables.exec = Jvm.exec → c.code = bytes → c.maxLocals = maxL → Z.Warmed39 s.vm → s.vm.findClass y.cls = some m.cls → meth.name = y.name → meth.sig.returnType = ret → meth.locks = false →
      Stand p l e rm s m as' below meth c T [] 0 0 → T.heap = h0 → Ga p e below s Q rm.cells rm.slots T m 0 Ls []) : Ct l Z y bytes maxL ret ws rm as' h0 Q := by
  refine MetFree.of_bodySF hpl hisR ?_
  intro p e s m args below meth c s₁ Bd hml0 hP hK
  obtain ⟨rfl, hZ, hh⟩ := hP
  have X0 : Stand p l e rm s m args below meth c s₁ [] 0 0 := Stand.of_body Bd
  have e0 : s₁.heap = h0 := by rw [← hh, Bd.state]; rfl
  obtain ⟨U, o, g1, g2⟩ := body p e s m below meth c s₁ Bd.exec Bd.bytes hml0 hZ (findClass_of_methodNamed Bd.named) (name_of_methodNamed Bd.named Bd.method).1 Bd.returns (BodyLoose.notSynchronized Bd) X0 e0
  exact ⟨U, o, castTop (hef m) g1, g2⟩
theorem Ga.out (X : Stand p l e R s m args below meth c T locs cells slots) {v : Option Value} (hlk : meth.locks = false) (hv : meth.sig.returnType = none → v = none) (hc : cells ≤ C) (hs : slots ≤ S) (hq : Q v T.heap locs)
    (k : ∀ fs, (∀ (f : JFrame) (acts : List Action), f.method = m → f.locked = none → f.entered = [] → (doReturn e (T.setTop f) acts v).1 = T.setFrames fs) → Steps p.tables e below (T.setTop (mkF m pc Ls st)) (T.setFrames fs)) : Ga p e below s Q C S T m pc Ls st := by
  obtain ⟨fs, hr, hrun, hended, hW, hsame⟩ := X.leave (v := v) hv hlk
  exact ⟨_, _, k fs hr, hrun, hended, _, _, rfl, hq, ⟨_, rfl⟩, hW, hsame.mono hc hs⟩
theorem g_iload (X : Stand p l e R s m args below meth c T locs cells slots) (hx : p.tables.exec = Jvm.exec) {k : Nat} {v : Int32} (hd : decode c.code pc = .ok (.iload k, 2)) (hp : pc + 2 = q) (hl : Ls[k]? = some (.val (.int v))) (g : Ga p e below s Q C S T m q Ls (.int v :: st)) : Ga p e below s Q C S T m pc Ls st := by
  subst hp
  exact Ga.stp (fun _ k => XS.iload X.here hx rfl hd hl k) g
theorem g_lloadN (X : Stand p l e R s m args below meth c T locs cells slots) (hx : p.tables.exec = Jvm.exec) {k : Fin 4} {v : Int64} (hd : decode c.code pc = .ok (.lload_n k, 1)) (hp : pc + 1 = q) (hl : Ls[k.val]? = some (.val (.long v))) (g : Ga p e below s Q C S T m q Ls (.long v :: st)) : Ga p e below s Q C S T m pc Ls st := by
  subst hp
  exact Ga.stp (fun _ k => XS.lloadN X.here hx rfl hd hl k) g
theorem g_lload (X : Stand p l e R s m args below meth c T locs cells slots) (hx : p.tables.exec = Jvm.exec) {k : Nat} {v : Int64} (hd : decode c.code pc = .ok (.lload k, 2)) (hp : pc + 2 = q) (hl : Ls[k]? = some (.val (.long v))) (g : Ga p e below s Q C S T m q Ls (.long v :: st)) : Ga p e below s Q C S T m pc Ls st := by
  subst hp
  exact Ga.stp (fun _ k => XS.lload X.here hx rfl hd hl k) g
theorem g_aloadN (X : Stand p l e R s m args below meth c T locs cells slots) (hx : p.tables.exec = Jvm.exec) {k : Fin 4} {v : Value} (hd : decode c.code pc = .ok (.aload_n k, 1)) (hp : pc + 1 = q) (hl : Ls[k.val]? = some (.val v)) (hv : v.isRef = true) (g : Ga p e below s Q C S T m q Ls (v :: st)) : Ga p e below s Q C S T m pc Ls st := by
  subst hp
  exact Ga.stp (fun _ k => XS.aloadN X.here hx rfl hd hl hv k) g
theorem g_aload (X : Stand p l e R s m args below meth c T locs cells slots) (hx : p.tables.exec = Jvm.exec) {k : Nat} {v : Value} (hd : decode c.code pc = .ok (.aload k, 2)) (hp : pc + 2 = q) (hl : Ls[k]? = some (.val v)) (hv : v.isRef = true) (g : Ga p e below s Q C S T m q Ls (v :: st)) : Ga p e below s Q C S T m pc Ls st := by
  subst hp
  exact Ga.stp (fun _ k => XS.aload X.here hx rfl hd hl hv k) g
theorem g_istore (X : Stand p l e R s m args below meth c T locs cells slots) (hx : p.tables.exec = Jvm.exec) {k : Nat} {x : Int32} (hd : decode c.code pc = .ok (.istore k, 2)) (hp : pc + 2 = q) (hl : storeLocals Ls k (.int x) = some Ls') (g : Ga p e below s Q C S T m q Ls' st) : Ga p e below s Q C S T m pc Ls (.int x :: st) := by
  subst hp
  exact Ga.stp (fun _ k => XS.istore X.here hx rfl hd rfl hl k) g
theorem g_lstore (X : Stand p l e R s m args below meth c T locs cells slots) (hx : p.tables.exec = Jvm.exec) {k : Nat} {x : Int64} (hd : decode c.code pc = .ok (.lstore k, 2)) (hp : pc + 2 = q) (hl : storeLocals Ls k (.long x) = some Ls') (g : Ga p e below s Q C S T m q Ls' st) : Ga p e below s Q C S T m pc Ls (.long x :: st) := by
  subst hp
  exact Ga.stp (fun _ k => XS.lstore X.here hx rfl hd rfl hl k) g
theorem g_astore (X : Stand p l e R s m args below meth c T locs cells slots) (hx : p.tables.exec = Jvm.exec) {k : Nat} {x : Value} (hd : decode c.code pc = .ok (.astore k, 2)) (hp : pc + 2 = q) (hv : x.isRef = true) (hl : storeLocals Ls k x = some Ls') (g : Ga p e below s Q C S T m q Ls' st) : Ga p e below s Q C S T m pc Ls (x :: st) := by
  subst hp
  exact Ga.stp (fun _ k => XS.astore X.here hx rfl hd rfl hv hl k) g
theorem g_iconst (X : Stand p l e R s m args below meth c T locs cells slots) (hx : p.tables.exec = Jvm.exec) {i : Int} {r : Int32} (hd : decode c.code pc = .ok (.iconst i, 1)) (hp : pc + 1 = q) (hr : Int32.ofInt i = r) (g : Ga p e below s Q C S T m q Ls (.int r :: st)) : Ga p e below s Q C S T m pc Ls st := by
  subst hp hr
  exact Ga.stp (fun _ k => XS.iconst X.here hx rfl hd k) g
theorem g_aconst_null (X : Stand p l e R s m args below meth c T locs cells slots) (hx : p.tables.exec = Jvm.exec) (hd : decode c.code pc = .ok (.aconst_null, 1)) (hp : pc + 1 = q)  (g : Ga p e below s Q C S T m q Ls (.null :: st)) : Ga p e below s Q C S T m pc Ls st := by
  subst hp
  exact Ga.stp (fun _ k => XS.aconstNull X.here hx rfl hd k) g
theorem g_ladd (X : Stand p l e R s m args below meth c T locs cells slots) (hx : p.tables.exec = Jvm.exec) {x y r : Int64} (hd : decode c.code pc = .ok (.ladd, 1)) (hp : pc + 1 = q) (hr : x + y = r) (g : Ga p e below s Q C S T m q Ls (.long r :: st)) : Ga p e below s Q C S T m pc Ls (.long y :: .long x :: st) := by
  subst hp hr
  exact Ga.stp (fun _ k => XS.ladd X.here hx rfl hd rfl k) g
theorem g_lsub (X : Stand p l e R s m args below meth c T locs cells slots) (hx : p.tables.exec = Jvm.exec) {x y r : Int64} (hd : decode c.code pc = .ok (.lsub, 1)) (hp : pc + 1 = q) (hr : x - y = r) (g : Ga p e below s Q C S T m q Ls (.long r :: st)) : Ga p e below s Q C S T m pc Ls (.long y :: .long x :: st) := by
  subst hp hr
  exact Ga.stp (fun _ k => XS.lsub X.here hx rfl hd rfl k) g
theorem g_lmul (X : Stand p l e R s m args below meth c T locs cells slots) (hx : p.tables.exec = Jvm.exec) {x y r : Int64} (hd : decode c.code pc = .ok (.lmul, 1)) (hp : pc + 1 = q) (hr : x * y = r) (g : Ga p e below s Q C S T m q Ls (.long r :: st)) : Ga p e below s Q C S T m pc Ls (.long y :: .long x :: st) := by
  subst hp hr
  exact Ga.stp (fun _ k => XS.lmul X.here hx rfl hd rfl k) g
theorem g_i2l (X : Stand p l e R s m args below meth c T locs cells slots) (hx : p.tables.exec = Jvm.exec) {x : Int32} {r : Int64} (hd : decode c.code pc = .ok (.i2l, 1)) (hp : pc + 1 = q) (hr : x.toInt64 = r) (g : Ga p e below s Q C S T m q Ls (.long r :: st)) : Ga p e below s Q C S T m pc Ls (.int x :: st) := by
  subst hp hr
  exact Ga.stp (fun _ k => XS.i2l X.here hx rfl hd rfl k) g
theorem g_lcmp (X : Stand p l e R s m args below meth c T locs cells slots) (hx : p.tables.exec = Jvm.exec) {x y : Int64} (hd : decode c.code pc = .ok (.lcmp, 1)) (hp : pc + 1 = q)  (g : Ga p e below s Q C S T m q Ls (.int (XT.cmpL x y) :: st)) : Ga p e below s Q C S T m pc Ls (.long y :: .long x :: st) := by
  subst hp
  exact Ga.stp (fun _ k => XT.lcmp X.here hx rfl hd rfl k) g
theorem g_dup (X : Stand p l e R s m args below meth c T locs cells slots) (hx : p.tables.exec = Jvm.exec) {x : Value} (hd : decode c.code pc = .ok (.dup, 1)) (hp : pc + 1 = q) (hc : x.category = 1) (g : Ga p e below s Q C S T m q Ls (x :: x :: st)) : Ga p e below s Q C S T m pc Ls (x :: st) := by
  subst hp
  exact Ga.stp (fun _ k => XS.dup X.here hx rfl hd rfl hc k) g
theorem g_goto (X : Stand p l e R s m args below meth c T locs cells slots) (hx : p.tables.exec = Jvm.exec) {o : Int} (hd : decode c.code pc = .ok (.goto o, 3)) (ho : 0 ≤ (pc : Int) + o) (hp : ((pc : Int) + o).toNat = q) (g : Ga p e below s Q C S T m q Ls st) : Ga p e below s Q C S T m pc Ls st :=
  Ga.stp (fun _ k => XS.goto X.here hx rfl rfl hd ho hp k) g
theorem g_ifN (X : Stand p l e R s m args below meth c T locs cells slots) (hx : p.tables.exec = Jvm.exec) {cd : ClassFile.Cond} {x : Int32} {o : Int} (hd : decode c.code pc = .ok (.ifCond cd o, 3)) (hp : pc + 3 = q) (hc : ifCond.holds cd x = false) (g : Ga p e below s Q C S T m q Ls st) : Ga p e below s Q C S T m pc Ls (.int x :: st) := by
  subst hp
  exact Ga.stp (fun _ k => XS.ifNo X.here hx rfl hd rfl hc k) g
theorem g_retN (X : Stand p l e R s m args below meth c T locs cells slots) (hx : p.tables.exec = Jvm.exec) {z r : Int32} {t : FieldType} (hret : meth.sig.returnType = some t) (ht : t = .boolean ∨ t = .byte ∨ t = .char ∨ t = .short) (hlk : meth.locks = false) (hd : decode c.code pc = .ok (.ireturn, 1)) (hr : nar t z = r) (hc : cells ≤ C) (hs : slots ≤ S) (hq : Q (some (.int r)) T.heap locs) : Ga p e below s Q C S T m pc Ls (.int z :: st) := by
  subst hr
  exact Ga.out X hlk (fun h => by rw [hret] at h; cases h) hc hs hq fun fs hr => retN X hx hret ht hd hr
theorem g_retJ (X : Stand p l e R s m args below meth c T locs cells slots) (hx : p.tables.exec = Jvm.exec) {z : Int64} (hret : meth.sig.returnType = some .long) (hlk : meth.locks = false) (hd : decode c.code pc = .ok (.lreturn, 1)) (hc : cells ≤ C) (hs : slots ≤ S) (hq : Q (some (.long z)) T.heap locs) : Ga p e below s Q C S T m pc Ls (.long z :: st) :=
  Ga.out X hlk (fun h => by rw [hret] at h; cases h) hc hs hq fun fs hr => retOut X hx hret rfl (Or.inr (Or.inl ⟨rfl, rfl, z, rfl⟩)) hd hr
theorem g_retR (X : Stand p l e R s m args below meth c T locs cells slots) (hx : p.tables.exec = Jvm.exec) {w : Value} {t : FieldType} (hret : meth.sig.returnType = some t) (hlk : meth.locks = false) (ht : t.isReference = true) (hn : narrow t w = w) (hw : w.isRef = true) (hd : decode c.code pc = .ok (.areturn, 1)) (hc : cells ≤ C) (hs : slots ≤ S) (hq : Q (some w) T.heap locs) : Ga p e below s Q C S T m pc Ls (w :: st) :=
  Ga.out X hlk (fun h => by rw [hret] at h; cases h) hc hs hq fun fs hr => retOut X hx hret hn (Or.inr (Or.inr (Or.inr (Or.inr ⟨rfl, ht, hw⟩)))) hd hr
theorem g_ret (X : Stand p l e R s m args below meth c T locs cells slots) (hx : p.tables.exec = Jvm.exec) (hret : meth.sig.returnType = none) (hlk : meth.locks = false) (hd : decode c.code pc = .ok (.return_, 1)) (hc : cells ≤ C) (hs : slots ≤ S) (hq : Q none T.heap locs) : Ga p e below s Q C S T m pc Ls [] :=
  Ga.out X hlk (fun _ => rfl) hc hs hq fun fs hr => X.returnOut hx hret hd hr
theorem g_new (X : Stand p l e R s m args below meth c T locs cells slots) (hx : p.tables.exec = Jvm.exec) (hZ : Z.Warmed39 s.vm) (hown : s.vm.findClass own = some m.cls) {K : String} {index n : Nat} (w : (Cond.classLink own index K).before a0 Z = true) (wi : (Cond.instantiable K n).before a0 Z = true) (wz : (Cond.initialized K).before a0 Z = true) (eT : T.heap = h)
    (hd : decode c.code pc = .ok (.new index, 3)) (hp : pc + 3 = q) (hc : cells + 1 ≤ R.cells) (hl : slots + n ≤ R.slots)
    (k : ∀ T' h' b, Stand p l e R s m args below meth c T' locs (cells + 1) (slots + n) → T'.heap = h' → b = h.size → Ext h h' → Exa Z h' b K → (∀ {O nm d : String} {ty : FieldType}, Laid Z a0 K O nm d → parseFieldDescriptor d = some ty → Fld Z h' b O nm d (defaultValue ty)) → Ga p e below s Q C S T' m q Ls (.ref b :: st)) : Ga p e below s Q C S T m pc Ls st := by
  subst hp
  obtain ⟨T', h', X', e', E', A', D', -, sx⟩ := newO X hx hZ hown w wi wz eT (g := mkF m pc Ls st) rfl hd hc hl
  exact Ga.stp sx (k T' h' _ X' e' rfl E' A' D')
theorem g_getF (X : Stand p l e R s m args below meth c T locs cells slots) (hx : p.tables.exec = Jvm.exec) (hZ : Z.Warmed39 s.vm) (hown : s.vm.findClass own = some m.cls) {R0 O n d host : String} {index : Nat} (w : (Cond.fieldLink own index R0 n d).before a0 Z = true ∨ (Cond.fieldLinkNest own index R0 n d host).before a0 Z = true) (via : Via Z R0 O n d) (eT : T.heap = h) {a : Addr} {v : Value} (F : Fld Z h a O n d v)
    (hd : decode c.code pc = .ok (.getfield index, 3)) (hp : pc + 3 = q) (k : ∀ T', Stand p l e R s m args below meth c T' locs cells slots → T'.heap = h → Ga p e below s Q C S T' m q Ls (v :: st)) : Ga p e below s Q C S T m pc Ls (.ref a :: st) := by
  subst hp
  obtain ⟨T', X', e', sx⟩ := getF X hx hZ hown w via eT F (g := mkF m pc Ls (.ref a :: st)) rfl rfl hd
  exact Ga.stp sx (k T' X' e')
theorem g_putF (X : Stand p l e R s m args below meth c T locs cells slots) (hx : p.tables.exec = Jvm.exec) (hZ : Z.Warmed39 s.vm) (hown : s.vm.findClass own = some m.cls) {R0 O n d host K : String} {index kk : Nat} {ty : FieldType} (w : (Cond.fieldLink own index R0 n d).before a0 Z = true ∨ (Cond.fieldLinkNest own index R0 n d host).before a0 Z = true) (via : Via Z R0 O n d) (eT : T.heap = h) {a : Addr} {v old : Value} (F : Fld Z h a O n d old) (E : Exa Z h a K)
    (L : (Cond.lays K O n d).before a0 Z = true ∨ ((Cond.laysFinal K O n d).before a0 Z = true ∧ own = O ∧ meth.name = "<init>")) (wi : (Cond.instantiable K kk).before a0 Z = true) (hty : parseFieldDescriptor d = some ty) (hn : narrow ty v = v) (hf : fits ty v = true)
    (hd : decode c.code pc = .ok (.putfield index, 3)) (hp : pc + 3 = q) (k : ∀ T' h', Stand p l e R s m args below meth c T' (locs ++ [⟨a, Jvm.RoadKit.slotOf Z O n d⟩]) cells slots → T'.heap = h' → Wr h h' a (Jvm.RoadKit.slotOf Z O n d) v → Fld Z h' a O n d v → Ga p e below s Q C S T' m q Ls st) : Ga p e below s Q C S T m pc Ls (v :: .ref a :: st) := by
  subst hp
  obtain ⟨T', h', X', e', W', sx⟩ := putF X hx hZ hown w via eT F E L wi hty hn hf (g := mkF m pc Ls (v :: .ref a :: st)) rfl rfl hd
  exact Ga.stp sx (k T' h' X' e' W' (F.same W'))
theorem g_initO (X : Stand p l e R s m args below meth c T locs cells slots) (hx : p.tables.exec = Jvm.exec) (hZ : Z.Warmed39 s.vm) (hown : s.vm.findClass own = some m.cls) {idx : Nat} (w1 : (Cond.methodLink own idx Lib.objectInit).before a0 Z = true) (w2 : (Cond.instanceMethod Lib.objectInit).before a0 Z = true) (w3 : (Cond.code Lib.objectInit ⟨#[0xb1]⟩ 1 none).before a0 Z = true) (eT : T.heap = h) (hsz : Ls.size = c.maxLocals) {a : Addr}
    (hd : decode c.code pc = .ok (.invokespecial idx, 3)) (hp : pc + 3 = q) (hf : 1 ≤ R.frames) {W : Nat} (hW : (st.map fun v => v.category).sum ≤ W) (hl : W + 12 ≤ R.locals) (k : ∀ T', Stand p l e R s m args below meth c T' locs cells slots → T'.heap = h → Ga p e below s Q C S T' m q Ls st) : Ga p e below s Q C S T m pc Ls (.ref a :: st) := by
  subst hp
  obtain ⟨T', X', e', sx⟩ := initO X hx hZ hown w1 w2 w3 eT (g := mkF m pc Ls (.ref a :: st)) rfl hsz rfl hd hf (W := W) (by show 2 * 0 + _ ≤ _; omega) hl
  exact Ga.stp sx (k T' X' e')
theorem g_special (X : Stand p l e R s m args below meth c T locs cells slots) (hx : p.tables.exec = Jvm.exec) (hZ : Z.Warmed39 s.vm) (hown : s.vm.findClass own = some m.cls) {index : Nat} {y : MethodName} {bytes : ByteArray} {maxL : Nat} {rm : Room} {as' : Array Value} {Q' : Option Value → Heap → List Loc → Prop} (hy1 : y.name = "<init>") (w1 : (Cond.methodLink own index y).before a0 Z = true) (w2 : (Cond.instanceMethod y).before a0 Z = true) (w3 : (Cond.initialized y.cls).before a0 Z = true) (w4 : (Cond.code y bytes maxL none).before a0 Z = true) (hy : y.cls ≠ "java/lang/invoke/MethodHandle" ∧ y.cls ≠ "java/lang/invoke/VarHandle") {a : Addr}
    (hM : Ct l Z y bytes maxL none [] rm as' h Q') (hsz : Ls.size = c.maxLocals) (eT : T.heap = h) (argsL : List Value) {rest : List Value} (has : as' = (.ref a :: argsL).toArray) (hst : st = argsL.reverse ++ .ref a :: rest) {W : Nat} (hW : (rest.map fun v => v.category).sum ≤ W) (hf : rm.frames + 1 ≤ R.frames) (hl : W + (maxL + 11) + rm.locals ≤ R.locals) (hcl : cells + rm.cells ≤ R.cells) (hsl : slots + rm.slots ≤ R.slots) (hlen : ∀ sig, parseMethodDescriptor y.desc = some sig → argsL.length = sig.parameters.length) (hd : decode c.code pc = .ok (.invokespecial index, 3)) (hp : pc + 3 = q) (k : ∀ v T' L, Stand p l e R s m args below meth c T' (locs ++ L) (cells + rm.cells) (slots + rm.slots) → Q' v T'.heap L → Ga p e below s Q C S T' m q Ls (v.toList ++ rest)) : Ga p e below s Q C S T m pc Ls st := by
  subst hp has hst
  obtain ⟨_, _, ⟨T', L', k', n'⟩, -, X', ⟨Lc, hQ', l1, y1, z1⟩, sx⟩ := X.specialBack hx (y := y) hy1 hown (mvT hZ w1) (mvT hZ w2) (mvT hZ w4) hy (backOf (W := W) hM hZ w4 w3 hf hl) (g := mkF m pc Ls (argsL.reverse ++ .ref a :: rest)) rfl hsz (Steps.refl _) (a := a) (argsL := argsL) (rest := rest) hlen rfl (by show 2 * 0 + _ ≤ _; omega) hd (fun _ _ => ⟨rfl, eT, hcl, hsl⟩)
  dsimp only [Pt.U, Pt.locs, Pt.cells, Pt.slots] at X' l1 y1 z1 sx hQ'
  subst l1 y1 z1
  exact Ga.stp (fun _ kk => sx.trans kk) (k _ T' Lc X' hQ')
theorem g_virtual (X : Stand p l e R s m args below meth c T locs cells slots) (hx : p.tables.exec = Jvm.exec) (hZ : Z.Warmed39 s.vm) (hown : s.vm.findClass own = some m.cls) {index : Nat} {y z : MethodName} {K : String} {ret : Option FieldType} {bytes : ByteArray} {maxL : Nat} {rm : Room} {as' : Array Value} {Q' : Option Value → Heap → List Loc → Prop} (w1 : (Cond.methodLink own index y).before a0 Z = true) (w2 : (Cond.declares y).before a0 Z = true) (nf : NotFace s y) (w3 : (Cond.selects K y z).before a0 Z = true) (w4 : (Cond.instanceMethod z).before a0 Z = true) (w5 : (Cond.initialized z.cls).before a0 Z = true) (w6 : (Cond.code z bytes maxL ret).before a0 Z = true) (hy : y.cls ≠ "java/lang/invoke/MethodHandle" ∧ y.cls ≠ "java/lang/invoke/VarHandle") {a : Addr} (E : Exa Z h a K)
    (hM : Ct l Z z bytes maxL ret [] rm as' h Q') (hsz : Ls.size = c.maxLocals) (eT : T.heap = h) (argsL : List Value) {rest : List Value} (has : as' = (.ref a :: argsL).toArray) (hst : st = argsL.reverse ++ .ref a :: rest) {W : Nat} (hW : (rest.map fun v => v.category).sum ≤ W) (hf : rm.frames + 1 ≤ R.frames) (hl : W + (maxL + 11) + rm.locals ≤ R.locals) (hcl : cells + rm.cells ≤ R.cells) (hsl : slots + rm.slots ≤ R.slots) (hlen : ∀ sig, parseMethodDescriptor y.desc = some sig → argsL.length = sig.parameters.length) (hd : decode c.code pc = .ok (.invokevirtual index, 3)) (hp : pc + 3 = q) (k : ∀ v T' L, Stand p l e R s m args below meth c T' (locs ++ L) (cells + rm.cells) (slots + rm.slots) → Q' v T'.heap L → Ga p e below s Q C S T' m q Ls (v.toList ++ rest)) : Ga p e below s Q C S T m pc Ls st := by
  subst hp has hst
  obtain ⟨cq, kq, qa, qb, qc⟩ := isOf hZ eT E
  obtain ⟨_, _, ⟨T', L', k', n'⟩, -, X', ⟨Lc, hQ', l1, y1, z1⟩, sx⟩ := X.virtualBack hx (y := y) (z := z) hown (mvT hZ w1) (mvT hZ w2) nf (mvT hZ w3) (mvT hZ w4) hy (backOf (W := W) hM hZ w6 w5 hf hl) qa qc (g := mkF m pc Ls (argsL.reverse ++ .ref a :: rest)) rfl hsz (Steps.refl _) (argsL := argsL) (rest := rest) hlen rfl (by show 2 * 0 + _ ≤ _; omega) hd (fun _ _ => ⟨rfl, eT, hcl, hsl⟩)
  dsimp only [Pt.U, Pt.locs, Pt.cells, Pt.slots] at X' l1 y1 z1 sx hQ'
  subst l1 y1 z1
  exact Ga.stp (fun _ kk => sx.trans kk) (k _ T' Lc X' hQ')
variable {ka : ClassId} {ty : FieldType} {z j : Int32} {vs : List Value} {dv : Value} {a : Addr}
theorem own_ne {b : Addr} (h1 : a < h.size) (h2 : b = h.size) : a ≠ b := Nat.ne_of_lt (h2 ▸ h1)
end GoKit

theorem own_irrI (x : Int32) : ¬ x < x := Int32.lt_irrefl
theorem own_irrJ (x : Int64) : ¬ x < x := Int64.lt_irrefl
theorem own_narc (x : Int32) : nar .char (x &&& (255 : Int32)) = (x &&& (255 : Int32)) := i2c_mask x
theorem own_nar (x : Int32) : nar .byte x = x.toInt8.toInt32 := rfl
theorem own_bb (x : Int32) : x.toInt8.toInt32.toInt8.toInt32 = x.toInt8.toInt32 := by simp
theorem own_nb {h : Heap} {b b' y : Addr} (hb : b' = b ∨ h.size ≤ b') (lt : y < h.size) (ne : y ≠ b) : y ≠ b' := hb.elim (fun q => q ▸ ne) (fun q => Nat.ne_of_lt (Nat.lt_of_lt_of_le lt q))
theorem own_ng {h : Heap} {b b' : Addr} {n0 : Nat} (hb : b' = b ∨ h.size ≤ b') (g : n0 ≤ b) (Z : n0 ≤ h.size) : n0 ≤ b' := hb.elim (fun q => q ▸ g) (fun q => Nat.le_trans Z q)
theorem own_insK {Z : State} {h h' : Heap} {a : Addr} {C : String} {ws : List Addr} (F : Ins Z h a C true) (K : Keep h h' ws) : Ins Z h' a C true := by
  obtain ⟨cell, cT, h1, h2, h3⟩ := F
  obtain ⟨c', q1, q2, q3, -⟩ := K.2.2 _ _ h1
  exact ⟨c', cT, q1, h2, by rw [q2, q3]; exact h3⟩
theorem d_jdk_30_m_1_0 : decode jdk_30_method_1_code 0 = .ok (.aload_n 0, 1) := by decide +kernel
theorem d_jdk_30_m_1_1 : decode jdk_30_method_1_code 1 = .ok (.invokespecial 1, 3) := by decide +kernel
theorem d_jdk_30_m_1_4 : decode jdk_30_method_1_code 4 = .ok (.return_, 1) := by decide +kernel
theorem d_prog_38_m_1_0 : decode prog_38_method_1_code 0 = .ok (.aload_n 0, 1) := by decide +kernel
theorem d_prog_38_m_1_1 : decode prog_38_method_1_code 1 = .ok (.invokespecial 1, 3) := by decide +kernel
theorem d_prog_38_m_1_4 : decode prog_38_method_1_code 4 = .ok (.aload_n 0, 1) := by decide +kernel
theorem d_prog_38_m_1_5 : decode prog_38_method_1_code 5 = .ok (.aload_n 1, 1) := by decide +kernel
theorem d_prog_38_m_1_6 : decode prog_38_method_1_code 6 = .ok (.putfield 7, 3) := by decide +kernel
theorem d_prog_38_m_1_9 : decode prog_38_method_1_code 9 = .ok (.aload_n 0, 1) := by decide +kernel
theorem d_prog_38_m_1_10 : decode prog_38_method_1_code 10 = .ok (.aload_n 2, 1) := by decide +kernel
theorem d_prog_38_m_1_11 : decode prog_38_method_1_code 11 = .ok (.putfield 13, 3) := by decide +kernel
theorem d_prog_38_m_1_14 : decode prog_38_method_1_code 14 = .ok (.aload_n 0, 1) := by decide +kernel
theorem d_prog_38_m_1_15 : decode prog_38_method_1_code 15 = .ok (.aload_n 3, 1) := by decide +kernel
theorem d_prog_38_m_1_16 : decode prog_38_method_1_code 16 = .ok (.putfield 17, 3) := by decide +kernel
theorem d_prog_38_m_1_19 : decode prog_38_method_1_code 19 = .ok (.aload_n 0, 1) := by decide +kernel
theorem d_prog_38_m_1_20 : decode prog_38_method_1_code 20 = .ok (.aload 4, 2) := by decide +kernel
theorem d_prog_38_m_1_22 : decode prog_38_method_1_code 22 = .ok (.putfield 20, 3) := by decide +kernel
theorem d_prog_38_m_1_25 : decode prog_38_method_1_code 25 = .ok (.aload_n 0, 1) := by decide +kernel
theorem d_prog_38_m_1_26 : decode prog_38_method_1_code 26 = .ok (.lload 5, 2) := by decide +kernel
theorem d_prog_38_m_1_28 : decode prog_38_method_1_code 28 = .ok (.putfield 24, 3) := by decide +kernel
theorem d_prog_38_m_1_31 : decode prog_38_method_1_code 31 = .ok (.aload_n 0, 1) := by decide +kernel
theorem d_prog_38_m_1_32 : decode prog_38_method_1_code 32 = .ok (.lload 7, 2) := by decide +kernel
theorem d_prog_38_m_1_34 : decode prog_38_method_1_code 34 = .ok (.putfield 28, 3) := by decide +kernel
theorem d_prog_38_m_1_37 : decode prog_38_method_1_code 37 = .ok (.aload_n 0, 1) := by decide +kernel
theorem d_prog_38_m_1_38 : decode prog_38_method_1_code 38 = .ok (.aload 9, 2) := by decide +kernel
theorem d_prog_38_m_1_40 : decode prog_38_method_1_code 40 = .ok (.putfield 31, 3) := by decide +kernel
theorem d_prog_38_m_1_43 : decode prog_38_method_1_code 43 = .ok (.aload_n 0, 1) := by decide +kernel
theorem d_prog_38_m_1_44 : decode prog_38_method_1_code 44 = .ok (.aload 10, 2) := by decide +kernel
theorem d_prog_38_m_1_46 : decode prog_38_method_1_code 46 = .ok (.putfield 35, 3) := by decide +kernel
theorem d_prog_38_m_1_49 : decode prog_38_method_1_code 49 = .ok (.return_, 1) := by decide +kernel
theorem d_prog_38_m_5_0 : decode prog_38_method_5_code 0 = .ok (.aload_n 0, 1) := by decide +kernel
theorem d_prog_38_m_5_1 : decode prog_38_method_5_code 1 = .ok (.getfield 7, 3) := by decide +kernel
theorem d_prog_38_m_5_4 : decode prog_38_method_5_code 4 = .ok (.areturn, 1) := by decide +kernel
theorem d_prog_38_m_6_0 : decode prog_38_method_6_code 0 = .ok (.aload_n 0, 1) := by decide +kernel
theorem d_prog_38_m_6_1 : decode prog_38_method_6_code 1 = .ok (.getfield 13, 3) := by decide +kernel
theorem d_prog_38_m_6_4 : decode prog_38_method_6_code 4 = .ok (.areturn, 1) := by decide +kernel
theorem d_prog_38_m_7_0 : decode prog_38_method_7_code 0 = .ok (.aload_n 0, 1) := by decide +kernel
theorem d_prog_38_m_7_1 : decode prog_38_method_7_code 1 = .ok (.getfield 17, 3) := by decide +kernel
theorem d_prog_38_m_7_4 : decode prog_38_method_7_code 4 = .ok (.areturn, 1) := by decide +kernel
theorem d_prog_38_m_8_0 : decode prog_38_method_8_code 0 = .ok (.aload_n 0, 1) := by decide +kernel
theorem d_prog_38_m_8_1 : decode prog_38_method_8_code 1 = .ok (.getfield 20, 3) := by decide +kernel
theorem d_prog_38_m_8_4 : decode prog_38_method_8_code 4 = .ok (.areturn, 1) := by decide +kernel
theorem d_prog_38_m_11_0 : decode prog_38_method_11_code 0 = .ok (.aload_n 0, 1) := by decide +kernel
theorem d_prog_38_m_11_1 : decode prog_38_method_11_code 1 = .ok (.getfield 31, 3) := by decide +kernel
theorem d_prog_38_m_11_4 : decode prog_38_method_11_code 4 = .ok (.areturn, 1) := by decide +kernel
theorem d_prog_38_m_12_0 : decode prog_38_method_12_code 0 = .ok (.aload_n 0, 1) := by decide +kernel
theorem d_prog_38_m_12_1 : decode prog_38_method_12_code 1 = .ok (.getfield 35, 3) := by decide +kernel
theorem d_prog_38_m_12_4 : decode prog_38_method_12_code 4 = .ok (.areturn, 1) := by decide +kernel
theorem d_prog_38_m_9_0 : decode prog_38_method_9_code 0 = .ok (.aload_n 0, 1) := by decide +kernel
theorem d_prog_38_m_9_1 : decode prog_38_method_9_code 1 = .ok (.getfield 24, 3) := by decide +kernel
theorem d_prog_38_m_9_4 : decode prog_38_method_9_code 4 = .ok (.lreturn, 1) := by decide +kernel
theorem d_prog_38_m_10_0 : decode prog_38_method_10_code 0 = .ok (.aload_n 0, 1) := by decide +kernel
theorem d_prog_38_m_10_1 : decode prog_38_method_10_code 1 = .ok (.getfield 28, 3) := by decide +kernel
theorem d_prog_38_m_10_4 : decode prog_38_method_10_code 4 = .ok (.lreturn, 1) := by decide +kernel
theorem d_prog_39_m_1_0 : decode prog_39_method_1_code 0 = .ok (.aload_n 0, 1) := by decide +kernel
theorem d_prog_39_m_1_1 : decode prog_39_method_1_code 1 = .ok (.invokespecial 1, 3) := by decide +kernel
theorem d_prog_39_m_1_4 : decode prog_39_method_1_code 4 = .ok (.aload_n 0, 1) := by decide +kernel
theorem d_prog_39_m_1_5 : decode prog_39_method_1_code 5 = .ok (.lload_n 1, 1) := by decide +kernel
theorem d_prog_39_m_1_6 : decode prog_39_method_1_code 6 = .ok (.putfield 7, 3) := by decide +kernel
theorem d_prog_39_m_1_9 : decode prog_39_method_1_code 9 = .ok (.aload_n 0, 1) := by decide +kernel
theorem d_prog_39_m_1_10 : decode prog_39_method_1_code 10 = .ok (.aload_n 3, 1) := by decide +kernel
theorem d_prog_39_m_1_11 : decode prog_39_method_1_code 11 = .ok (.invokevirtual 13, 3) := by decide +kernel
theorem d_prog_39_m_1_14 : decode prog_39_method_1_code 14 = .ok (.putfield 19, 3) := by decide +kernel
theorem d_prog_39_m_1_17 : decode prog_39_method_1_code 17 = .ok (.aload_n 0, 1) := by decide +kernel
theorem d_prog_39_m_1_18 : decode prog_39_method_1_code 18 = .ok (.aload_n 3, 1) := by decide +kernel
theorem d_prog_39_m_1_19 : decode prog_39_method_1_code 19 = .ok (.invokevirtual 22, 3) := by decide +kernel
theorem d_prog_39_m_1_22 : decode prog_39_method_1_code 22 = .ok (.putfield 26, 3) := by decide +kernel
theorem d_prog_39_m_1_25 : decode prog_39_method_1_code 25 = .ok (.aload_n 0, 1) := by decide +kernel
theorem d_prog_39_m_1_26 : decode prog_39_method_1_code 26 = .ok (.aload_n 3, 1) := by decide +kernel
theorem d_prog_39_m_1_27 : decode prog_39_method_1_code 27 = .ok (.invokevirtual 29, 3) := by decide +kernel
theorem d_prog_39_m_1_30 : decode prog_39_method_1_code 30 = .ok (.putfield 32, 3) := by decide +kernel
theorem d_prog_39_m_1_33 : decode prog_39_method_1_code 33 = .ok (.aload_n 0, 1) := by decide +kernel
theorem d_prog_39_m_1_34 : decode prog_39_method_1_code 34 = .ok (.aload_n 3, 1) := by decide +kernel
theorem d_prog_39_m_1_35 : decode prog_39_method_1_code 35 = .ok (.invokevirtual 34, 3) := by decide +kernel
theorem d_prog_39_m_1_38 : decode prog_39_method_1_code 38 = .ok (.putfield 38, 3) := by decide +kernel
theorem d_prog_39_m_1_41 : decode prog_39_method_1_code 41 = .ok (.aload_n 0, 1) := by decide +kernel
theorem d_prog_39_m_1_42 : decode prog_39_method_1_code 42 = .ok (.aload_n 3, 1) := by decide +kernel
theorem d_prog_39_m_1_43 : decode prog_39_method_1_code 43 = .ok (.invokevirtual 41, 3) := by decide +kernel
theorem d_prog_39_m_1_46 : decode prog_39_method_1_code 46 = .ok (.putfield 45, 3) := by decide +kernel
theorem d_prog_39_m_1_49 : decode prog_39_method_1_code 49 = .ok (.aload_n 0, 1) := by decide +kernel
theorem d_prog_39_m_1_50 : decode prog_39_method_1_code 50 = .ok (.aload_n 3, 1) := by decide +kernel
theorem d_prog_39_m_1_51 : decode prog_39_method_1_code 51 = .ok (.invokevirtual 41, 3) := by decide +kernel
theorem d_prog_39_m_1_54 : decode prog_39_method_1_code 54 = .ok (.putfield 47, 3) := by decide +kernel
theorem d_prog_39_m_1_57 : decode prog_39_method_1_code 57 = .ok (.aload_n 0, 1) := by decide +kernel
theorem d_prog_39_m_1_58 : decode prog_39_method_1_code 58 = .ok (.aload_n 3, 1) := by decide +kernel
theorem d_prog_39_m_1_59 : decode prog_39_method_1_code 59 = .ok (.invokevirtual 50, 3) := by decide +kernel
theorem d_prog_39_m_1_62 : decode prog_39_method_1_code 62 = .ok (.putfield 53, 3) := by decide +kernel
theorem d_prog_39_m_1_65 : decode prog_39_method_1_code 65 = .ok (.aload_n 0, 1) := by decide +kernel
theorem d_prog_39_m_1_66 : decode prog_39_method_1_code 66 = .ok (.aload_n 3, 1) := by decide +kernel
theorem d_prog_39_m_1_67 : decode prog_39_method_1_code 67 = .ok (.invokevirtual 55, 3) := by decide +kernel
theorem d_prog_39_m_1_70 : decode prog_39_method_1_code 70 = .ok (.putfield 59, 3) := by decide +kernel
theorem d_prog_39_m_1_73 : decode prog_39_method_1_code 73 = .ok (.aload_n 0, 1) := by decide +kernel
theorem d_prog_39_m_1_74 : decode prog_39_method_1_code 74 = .ok (.aload_n 3, 1) := by decide +kernel
theorem d_prog_39_m_1_75 : decode prog_39_method_1_code 75 = .ok (.invokevirtual 62, 3) := by decide +kernel
theorem d_prog_39_m_1_78 : decode prog_39_method_1_code 78 = .ok (.putfield 66, 3) := by decide +kernel
theorem d_prog_39_m_1_81 : decode prog_39_method_1_code 81 = .ok (.return_, 1) := by decide +kernel
theorem d_prog_39_m_16_0 : decode prog_39_method_16_code 0 = .ok (.aload_n 0, 1) := by decide +kernel
theorem d_prog_39_m_16_1 : decode prog_39_method_16_code 1 = .ok (.dup, 1) := by decide +kernel
theorem d_prog_39_m_16_2 : decode prog_39_method_16_code 2 = .ok (.getfield 69, 3) := by decide +kernel
theorem d_prog_39_m_16_5 : decode prog_39_method_16_code 5 = .ok (.lload_n 1, 1) := by decide +kernel
theorem d_prog_39_m_16_6 : decode prog_39_method_16_code 6 = .ok (.ladd, 1) := by decide +kernel
theorem d_prog_39_m_16_7 : decode prog_39_method_16_code 7 = .ok (.putfield 69, 3) := by decide +kernel
theorem d_prog_39_m_16_10 : decode prog_39_method_16_code 10 = .ok (.aload_n 0, 1) := by decide +kernel
theorem d_prog_39_m_16_11 : decode prog_39_method_16_code 11 = .ok (.dup, 1) := by decide +kernel
theorem d_prog_39_m_16_12 : decode prog_39_method_16_code 12 = .ok (.getfield 47, 3) := by decide +kernel
theorem d_prog_39_m_16_15 : decode prog_39_method_16_code 15 = .ok (.lload_n 1, 1) := by decide +kernel
theorem d_prog_39_m_16_16 : decode prog_39_method_16_code 16 = .ok (.lsub, 1) := by decide +kernel
theorem d_prog_39_m_16_17 : decode prog_39_method_16_code 17 = .ok (.putfield 47, 3) := by decide +kernel
theorem d_prog_39_m_16_20 : decode prog_39_method_16_code 20 = .ok (.aload_n 0, 1) := by decide +kernel
theorem d_prog_39_m_16_21 : decode prog_39_method_16_code 21 = .ok (.dup, 1) := by decide +kernel
theorem d_prog_39_m_16_22 : decode prog_39_method_16_code 22 = .ok (.getfield 72, 3) := by decide +kernel
theorem d_prog_39_m_16_25 : decode prog_39_method_16_code 25 = .ok (.lload_n 1, 1) := by decide +kernel
theorem d_prog_39_m_16_26 : decode prog_39_method_16_code 26 = .ok (.lload_n 3, 1) := by decide +kernel
theorem d_prog_39_m_16_27 : decode prog_39_method_16_code 27 = .ok (.lmul, 1) := by decide +kernel
theorem d_prog_39_m_16_28 : decode prog_39_method_16_code 28 = .ok (.ladd, 1) := by decide +kernel
theorem d_prog_39_m_16_29 : decode prog_39_method_16_code 29 = .ok (.putfield 72, 3) := by decide +kernel
theorem d_prog_39_m_16_32 : decode prog_39_method_16_code 32 = .ok (.return_, 1) := by decide +kernel
theorem d_prog_39_m_11_0 : decode prog_39_method_11_code 0 = .ok (.aload_n 0, 1) := by decide +kernel
theorem d_prog_39_m_11_1 : decode prog_39_method_11_code 1 = .ok (.getfield 69, 3) := by decide +kernel
theorem d_prog_39_m_11_4 : decode prog_39_method_11_code 4 = .ok (.lreturn, 1) := by decide +kernel
theorem d_prog_39_m_12_0 : decode prog_39_method_12_code 0 = .ok (.aload_n 0, 1) := by decide +kernel
theorem d_prog_39_m_12_1 : decode prog_39_method_12_code 1 = .ok (.getfield 47, 3) := by decide +kernel
theorem d_prog_39_m_12_4 : decode prog_39_method_12_code 4 = .ok (.lreturn, 1) := by decide +kernel
theorem d_prog_39_m_13_0 : decode prog_39_method_13_code 0 = .ok (.aload_n 0, 1) := by decide +kernel
theorem d_prog_39_m_13_1 : decode prog_39_method_13_code 1 = .ok (.getfield 72, 3) := by decide +kernel
theorem d_prog_39_m_13_4 : decode prog_39_method_13_code 4 = .ok (.lreturn, 1) := by decide +kernel
theorem d_prog_39_m_7_0 : decode prog_39_method_7_code 0 = .ok (.aload_n 0, 1) := by decide +kernel
theorem d_prog_39_m_7_1 : decode prog_39_method_7_code 1 = .ok (.getfield 45, 3) := by decide +kernel
theorem d_prog_39_m_7_4 : decode prog_39_method_7_code 4 = .ok (.lreturn, 1) := by decide +kernel
theorem d_prog_39_m_8_0 : decode prog_39_method_8_code 0 = .ok (.aload_n 0, 1) := by decide +kernel
theorem d_prog_39_m_8_1 : decode prog_39_method_8_code 1 = .ok (.getfield 53, 3) := by decide +kernel
theorem d_prog_39_m_8_4 : decode prog_39_method_8_code 4 = .ok (.lreturn, 1) := by decide +kernel
theorem pd_0 : parseMethodDescriptor "()V" = some ⟨[], none⟩ := by decide +kernel
theorem pd_1 : parseMethodDescriptor "()Lcom/example/crosstide/crosstide/engine/Owner;" = some ⟨[], some (.object "com/example/crosstide/crosstide/engine/Owner")⟩ := by decide +kernel
theorem pd_2 : parseMethodDescriptor "()Ljava/lang/String;" = some ⟨[], some (.object "java/lang/String")⟩ := by decide +kernel
theorem pd_3 : parseMethodDescriptor "()Lcom/example/crosstide/crosstide/book/Side;" = some ⟨[], some (.object "com/example/crosstide/crosstide/book/Side")⟩ := by decide +kernel
theorem pd_4 : parseMethodDescriptor "()J" = some ⟨[], some .long⟩ := by decide +kernel
theorem pd_5 : parseMethodDescriptor "()Lcom/example/crosstide/crosstide/engine/TimeInForce;" = some ⟨[], some (.object "com/example/crosstide/crosstide/engine/TimeInForce")⟩ := by decide +kernel
theorem pd_6 : parseMethodDescriptor "()Lcom/example/crosstide/crosstide/engine/Prevention;" = some ⟨[], some (.object "com/example/crosstide/crosstide/engine/Prevention")⟩ := by decide +kernel
theorem pd_7 : parseMethodDescriptor "(Lcom/example/crosstide/crosstide/engine/Owner;Ljava/lang/String;Ljava/lang/String;Lcom/example/crosstide/crosstide/book/Side;JJLcom/example/crosstide/crosstide/engine/TimeInForce;Lcom/example/crosstide/crosstide/engine/Prevention;)V" = some ⟨[(.object "com/example/crosstide/crosstide/engine/Owner"), (.object "java/lang/String"), (.object "java/lang/String"), (.object "com/example/crosstide/crosstide/book/Side"), .long, .long, (.object "com/example/crosstide/crosstide/engine/TimeInForce"), (.object "com/example/crosstide/crosstide/engine/Prevention")], none⟩ := by decide +kernel
theorem pd_8 : parseMethodDescriptor "(JLcom/example/crosstide/crosstide/engine/NewOrder;)V" = some ⟨[.long, (.object "com/example/crosstide/crosstide/engine/NewOrder")], none⟩ := by decide +kernel
theorem pd_9 : parseMethodDescriptor "(JJ)V" = some ⟨[.long, .long], none⟩ := by decide +kernel
theorem pn_0 : plainName "java/lang/Record" = true := by first | (simp [plainName, overriddenIn]; done) | decide +kernel
theorem pn_1 : plainName "com/example/crosstide/crosstide/engine/NewOrder" = true := by first | (simp [plainName, overriddenIn]; done) | decide +kernel
theorem pn_2 : plainName "com/example/crosstide/crosstide/engine/Order" = true := by first | (simp [plainName, overriddenIn]; done) | decide +kernel
theorem pn_3 : plainName "com/example/crosstide/crosstide/engine/OrderFillPinLaw" = true := by first | (simp [plainName, overriddenIn]; done) | decide +kernel

def Q_rec (Z : State) (a : Addr) (h0 : Heap) (n0 : Nat) (v : Option Value) (h : Heap) (L : List Loc) : Prop := v = none ∧ Fr n0 L ∧ h = h0
theorem ef_rec (m : MethodId) (x0 : Addr) : entryFrame m #[(.ref x0)] 1 = mkF m 0 #[.val (.ref x0)] [] := by first | (simp [entryFrame, mkF, argsToLocals, Value.category]; done) | rfl
set_option maxRecDepth 65536 in
set_option maxHeartbeats 40000000 in
theorem rm_rec (l : Launch) (Z : State) (a0 : Array Value) (hw : ∀ d ∈ tables_1, d.before a0 Z = true) (a : Addr) (h0 : Heap) (n0 : Nat) (Z0 : n0 ≤ h0.size) :
    Ct l Z (⟨"java/lang/Record", "<init>", "()V"⟩ : MethodName) jdk_30_method_1_code 1 none [] ({ frames := 1, cells := 0, slots := 0, locals := 12 } : Room) #[(.ref a)] h0 (Q_rec Z a h0 n0) := by
  refine own_body (plainFor_of_name pn_0) (fun m => ef_rec m a) ?_
  intro p e s m below meth c T0 hx hby hml hZ hown hnm hret hlk X0 e0
  have N0 := Fr.nil n0
  refine g_aloadN X0 hx (hb hby d_jdk_30_m_1_0) rfl rfl rfl ?_
  refine g_initO X0 hx hZ hown (hw _ (List.mem_of_getElem? (i := 14) rfl)) (hw _ (List.mem_of_getElem? (i := 15) rfl)) (hw _ (List.mem_of_getElem? (i := 16) rfl)) e0 (by rw [hml]; rfl) (hb hby d_jdk_30_m_1_1) rfl (by decide) (W := 0) (Nat.le_of_eq rfl) (by decide) fun T1 X1 e1 => ?_
  exact g_ret X1 hx hret hlk (hb hby d_jdk_30_m_1_4) (by decide) (by decide) (by rw [e1]; exact ⟨rfl, N0, rfl⟩)
def Q_nini (Z : State) (a : Addr) (q1 : Int64) (q2 : Int64) (h0 : Heap) (n0 : Nat) (v : Option Value) (h : Heap) (L : List Loc) : Prop := v = none ∧ Fr n0 L ∧ Keep h0 h [a] ∧ Exa Z h a "com/example/crosstide/crosstide/engine/NewOrder" ∧ Fld Z h a "com/example/crosstide/crosstide/engine/NewOrder" "owner" "Lcom/example/crosstide/crosstide/engine/Owner;" .null ∧ Fld Z h a "com/example/crosstide/crosstide/engine/NewOrder" "clOrdId" "Ljava/lang/String;" .null ∧ Fld Z h a "com/example/crosstide/crosstide/engine/NewOrder" "symbol" "Ljava/lang/String;" .null ∧ Fld Z h a "com/example/crosstide/crosstide/engine/NewOrder" "side" "Lcom/example/crosstide/crosstide/book/Side;" .null ∧ Fld Z h a "com/example/crosstide/crosstide/engine/NewOrder" "timeInForce" "Lcom/example/crosstide/crosstide/engine/TimeInForce;" .null ∧ Fld Z h a "com/example/crosstide/crosstide/engine/NewOrder" "prevention" "Lcom/example/crosstide/crosstide/engine/Prevention;" .null ∧ Fld Z h a "com/example/crosstide/crosstide/engine/NewOrder" "quantity" "J" (.long q1) ∧ Fld Z h a "com/example/crosstide/crosstide/engine/NewOrder" "price" "J" (.long q2)
theorem ef_nini (m : MethodId) (x0 : Addr) (x5 : Int64) (x6 : Int64) : entryFrame m #[(.ref x0), .null, .null, .null, .null, (.long x5), (.long x6), .null, .null] 11 = mkF m 0 #[.val (.ref x0), .val .null, .val .null, .val .null, .val .null, .val (.long x5), .second, .val (.long x6), .second, .val .null, .val .null] [] := by first | (simp [entryFrame, mkF, argsToLocals, Value.category]; done) | rfl
set_option maxRecDepth 65536 in
set_option maxHeartbeats 40000000 in
theorem rm_nini (l : Launch) (Z : State) (a0 : Array Value) (hw : ∀ d ∈ tables_1, d.before a0 Z = true) (a : Addr) (q1 : Int64) (q2 : Int64) (h0 : Heap) (n0 : Nat) (Z0 : n0 ≤ h0.size) (F_owner_a : Fld Z h0 a "com/example/crosstide/crosstide/engine/NewOrder" "owner" "Lcom/example/crosstide/crosstide/engine/Owner;" .null) (F_clOrdId_a : Fld Z h0 a "com/example/crosstide/crosstide/engine/NewOrder" "clOrdId" "Ljava/lang/String;" .null) (F_symbol_a : Fld Z h0 a "com/example/crosstide/crosstide/engine/NewOrder" "symbol" "Ljava/lang/String;" .null) (F_side_a : Fld Z h0 a "com/example/crosstide/crosstide/engine/NewOrder" "side" "Lcom/example/crosstide/crosstide/book/Side;" .null) (F_timeInForce_a : Fld Z h0 a "com/example/crosstide/crosstide/engine/NewOrder" "timeInForce" "Lcom/example/crosstide/crosstide/engine/TimeInForce;" .null) (F_prevention_a : Fld Z h0 a "com/example/crosstide/crosstide/engine/NewOrder" "prevention" "Lcom/example/crosstide/crosstide/engine/Prevention;" .null) (F_quantity_a : Fld Z h0 a "com/example/crosstide/crosstide/engine/NewOrder" "quantity" "J" (.long (0 : Int64))) (F_price_a : Fld Z h0 a "com/example/crosstide/crosstide/engine/NewOrder" "price" "J" (.long (0 : Int64))) (E_a : Exa Z h0 a "com/example/crosstide/crosstide/engine/NewOrder") (g_a : n0 ≤ a) :
    Ct l Z (⟨"com/example/crosstide/crosstide/engine/NewOrder", "<init>", "(Lcom/example/crosstide/crosstide/engine/Owner;Ljava/lang/String;Ljava/lang/String;Lcom/example/crosstide/crosstide/book/Side;JJLcom/example/crosstide/crosstide/engine/TimeInForce;Lcom/example/crosstide/crosstide/engine/Prevention;)V"⟩ : MethodName) prog_38_method_1_code 11 none [] ({ frames := 2, cells := 0, slots := 0, locals := 24 } : Room) #[(.ref a), .null, .null, .null, .null, (.long q1), (.long q2), .null, .null] h0 (Q_nini Z a q1 q2 h0 n0) := by
  refine own_body (plainFor_of_name pn_1) (fun m => ef_nini m a q1 q2) ?_
  intro p e s m below meth c T0 hx hby hml hZ hown hnm hret hlk X0 e0
  have N0 := Fr.nil n0
  refine g_aloadN X0 hx (hb hby d_prog_38_m_1_0) rfl rfl rfl ?_
  refine g_special X0 hx hZ hown rfl (hw _ (List.mem_of_getElem? (i := 9) rfl)) (hw _ (List.mem_of_getElem? (i := 10) rfl)) (hw _ (List.mem_of_getElem? (i := 12) rfl)) (hw _ (List.mem_of_getElem? (i := 13) rfl)) (by decide) (a := a) (rm_rec l Z a0 hw a h0 n0 Z0) (by rw [hml]; rfl) e0 [] rfl rfl (W := 0) (Nat.le_of_eq rfl) (by decide) (by decide) (by decide) (by decide) (lenOf pd_0 rfl) (hb hby d_prog_38_m_1_1) rfl fun v1 T1 L1 X1 hQ1 => ?_
  obtain ⟨rfl, Nq1, eh1⟩ := hQ1
  have N1 := Fr.app N0 Nq1
  show Ga _ _ _ _ _ _ _ _ _ _ _ []
  refine g_aloadN X1 hx (hb hby d_prog_38_m_1_4) rfl rfl rfl ?_
  refine g_aloadN X1 hx (hb hby d_prog_38_m_1_5) rfl rfl rfl ?_
  refine g_putF X1 hx hZ hown (host := "") (Or.inl (hw _ (List.mem_of_getElem? (i := 17) rfl))) Via.refl eh1 F_owner_a E_a (Or.inr ⟨(hw _ (List.mem_of_getElem? (i := 18) rfl)), rfl, hnm⟩) (hw _ (List.mem_of_getElem? (i := 4) rfl)) (ty := (.object "com/example/crosstide/crosstide/engine/Owner")) (by decide) rfl rfl (hb hby d_prog_38_m_1_6) rfl fun T2 h2 X2 e2 W2 F2 => ?_
  have kk2 : Keep h0 h2 [a] := (Keep.refl h0 [a]).wr W2 (Or.inl (by simp))
  have N2 := Fr.snoc X2 N1 g_a
  have Z2 : n0 ≤ h2.size := by rw [W2.size]; exact Z0
  refine g_aloadN X2 hx (hb hby d_prog_38_m_1_9) rfl rfl rfl ?_
  refine g_aloadN X2 hx (hb hby d_prog_38_m_1_10) rfl rfl rfl ?_
  have f4 : Fld Z h2 a "com/example/crosstide/crosstide/engine/NewOrder" "clOrdId" "Ljava/lang/String;" .null := (F_clOrdId_a.other W2 (Or.inr (slot_ne (Or.inr (hw _ (List.mem_of_getElem? (i := 20) rfl))) (Or.inr (hw _ (List.mem_of_getElem? (i := 18) rfl))) (by decide) (t := (.object "java/lang/String")) (t' := (.object "com/example/crosstide/crosstide/engine/Owner")) (by decide) (by decide))))
  have f5 : Exa Z h2 a "com/example/crosstide/crosstide/engine/NewOrder" := (E_a.wr W2)
  refine g_putF X2 hx hZ hown (host := "") (Or.inl (hw _ (List.mem_of_getElem? (i := 19) rfl))) Via.refl e2 f4 f5 (Or.inr ⟨(hw _ (List.mem_of_getElem? (i := 20) rfl)), rfl, hnm⟩) (hw _ (List.mem_of_getElem? (i := 4) rfl)) (ty := (.object "java/lang/String")) (by decide) rfl rfl (hb hby d_prog_38_m_1_11) rfl fun T3 h3 X3 e3 W3 F3 => ?_
  have kk3 : Keep h0 h3 [a] := kk2.wr W3 (Or.inl (by simp))
  have N3 := Fr.snoc X3 N2 g_a
  have Z3 : n0 ≤ h3.size := by rw [W3.size]; exact Z2
  refine g_aloadN X3 hx (hb hby d_prog_38_m_1_14) rfl rfl rfl ?_
  refine g_aloadN X3 hx (hb hby d_prog_38_m_1_15) rfl rfl rfl ?_
  have f7 : Fld Z h3 a "com/example/crosstide/crosstide/engine/NewOrder" "symbol" "Ljava/lang/String;" .null := ((F_symbol_a.other W2 (Or.inr (slot_ne (Or.inr (hw _ (List.mem_of_getElem? (i := 22) rfl))) (Or.inr (hw _ (List.mem_of_getElem? (i := 18) rfl))) (by decide) (t := (.object "java/lang/String")) (t' := (.object "com/example/crosstide/crosstide/engine/Owner")) (by decide) (by decide)))).other W3 (Or.inr (slot_ne (Or.inr (hw _ (List.mem_of_getElem? (i := 22) rfl))) (Or.inr (hw _ (List.mem_of_getElem? (i := 20) rfl))) (by decide) (t := (.object "java/lang/String")) (t' := (.object "java/lang/String")) (by decide) (by decide))))
  have f8 : Exa Z h3 a "com/example/crosstide/crosstide/engine/NewOrder" := (f5.wr W3)
  refine g_putF X3 hx hZ hown (host := "") (Or.inl (hw _ (List.mem_of_getElem? (i := 21) rfl))) Via.refl e3 f7 f8 (Or.inr ⟨(hw _ (List.mem_of_getElem? (i := 22) rfl)), rfl, hnm⟩) (hw _ (List.mem_of_getElem? (i := 4) rfl)) (ty := (.object "java/lang/String")) (by decide) rfl rfl (hb hby d_prog_38_m_1_16) rfl fun T6 h6 X6 e6 W6 F6 => ?_
  have kk6 : Keep h0 h6 [a] := kk3.wr W6 (Or.inl (by simp))
  have N6 := Fr.snoc X6 N3 g_a
  have Z6 : n0 ≤ h6.size := by rw [W6.size]; exact Z3
  refine g_aloadN X6 hx (hb hby d_prog_38_m_1_19) rfl rfl rfl ?_
  refine g_aload X6 hx (hb hby d_prog_38_m_1_20) rfl rfl rfl ?_
  have f10 : Fld Z h6 a "com/example/crosstide/crosstide/engine/NewOrder" "side" "Lcom/example/crosstide/crosstide/book/Side;" .null := (((F_side_a.other W2 (Or.inr (slot_ne (Or.inr (hw _ (List.mem_of_getElem? (i := 24) rfl))) (Or.inr (hw _ (List.mem_of_getElem? (i := 18) rfl))) (by decide) (t := (.object "com/example/crosstide/crosstide/book/Side")) (t' := (.object "com/example/crosstide/crosstide/engine/Owner")) (by decide) (by decide)))).other W3 (Or.inr (slot_ne (Or.inr (hw _ (List.mem_of_getElem? (i := 24) rfl))) (Or.inr (hw _ (List.mem_of_getElem? (i := 20) rfl))) (by decide) (t := (.object "com/example/crosstide/crosstide/book/Side")) (t' := (.object "java/lang/String")) (by decide) (by decide)))).other W6 (Or.inr (slot_ne (Or.inr (hw _ (List.mem_of_getElem? (i := 24) rfl))) (Or.inr (hw _ (List.mem_of_getElem? (i := 22) rfl))) (by decide) (t := (.object "com/example/crosstide/crosstide/book/Side")) (t' := (.object "java/lang/String")) (by decide) (by decide))))
  have f11 : Exa Z h6 a "com/example/crosstide/crosstide/engine/NewOrder" := (f8.wr W6)
  refine g_putF X6 hx hZ hown (host := "") (Or.inl (hw _ (List.mem_of_getElem? (i := 23) rfl))) Via.refl e6 f10 f11 (Or.inr ⟨(hw _ (List.mem_of_getElem? (i := 24) rfl)), rfl, hnm⟩) (hw _ (List.mem_of_getElem? (i := 4) rfl)) (ty := (.object "com/example/crosstide/crosstide/book/Side")) (by decide) rfl rfl (hb hby d_prog_38_m_1_22) rfl fun T9 h9 X9 e9 W9 F9 => ?_
  have kk9 : Keep h0 h9 [a] := kk6.wr W9 (Or.inl (by simp))
  have N9 := Fr.snoc X9 N6 g_a
  have Z9 : n0 ≤ h9.size := by rw [W9.size]; exact Z6
  refine g_aloadN X9 hx (hb hby d_prog_38_m_1_25) rfl rfl rfl ?_
  refine g_lload X9 hx (hb hby d_prog_38_m_1_26) rfl rfl ?_
  have f13 : Fld Z h9 a "com/example/crosstide/crosstide/engine/NewOrder" "quantity" "J" (.long (0 : Int64)) := ((((F_quantity_a.other W2 (Or.inr (slot_ne (Or.inr (hw _ (List.mem_of_getElem? (i := 26) rfl))) (Or.inr (hw _ (List.mem_of_getElem? (i := 18) rfl))) (by decide) (t := .long) (t' := (.object "com/example/crosstide/crosstide/engine/Owner")) (by decide) (by decide)))).other W3 (Or.inr (slot_ne (Or.inr (hw _ (List.mem_of_getElem? (i := 26) rfl))) (Or.inr (hw _ (List.mem_of_getElem? (i := 20) rfl))) (by decide) (t := .long) (t' := (.object "java/lang/String")) (by decide) (by decide)))).other W6 (Or.inr (slot_ne (Or.inr (hw _ (List.mem_of_getElem? (i := 26) rfl))) (Or.inr (hw _ (List.mem_of_getElem? (i := 22) rfl))) (by decide) (t := .long) (t' := (.object "java/lang/String")) (by decide) (by decide)))).other W9 (Or.inr (slot_ne (Or.inr (hw _ (List.mem_of_getElem? (i := 26) rfl))) (Or.inr (hw _ (List.mem_of_getElem? (i := 24) rfl))) (by decide) (t := .long) (t' := (.object "com/example/crosstide/crosstide/book/Side")) (by decide) (by decide))))
  have f14 : Exa Z h9 a "com/example/crosstide/crosstide/engine/NewOrder" := (f11.wr W9)
  refine g_putF X9 hx hZ hown (host := "") (Or.inl (hw _ (List.mem_of_getElem? (i := 25) rfl))) Via.refl e9 f13 f14 (Or.inr ⟨(hw _ (List.mem_of_getElem? (i := 26) rfl)), rfl, hnm⟩) (hw _ (List.mem_of_getElem? (i := 4) rfl)) (ty := .long) (by decide) rfl rfl (hb hby d_prog_38_m_1_28) rfl fun T12 h12 X12 e12 W12 F12 => ?_
  have kk12 : Keep h0 h12 [a] := kk9.wr W12 (Or.inl (by simp))
  have N12 := Fr.snoc X12 N9 g_a
  have Z12 : n0 ≤ h12.size := by rw [W12.size]; exact Z9
  refine g_aloadN X12 hx (hb hby d_prog_38_m_1_31) rfl rfl rfl ?_
  refine g_lload X12 hx (hb hby d_prog_38_m_1_32) rfl rfl ?_
  have f16 : Fld Z h12 a "com/example/crosstide/crosstide/engine/NewOrder" "price" "J" (.long (0 : Int64)) := (((((F_price_a.other W2 (Or.inr (slot_ne (Or.inr (hw _ (List.mem_of_getElem? (i := 28) rfl))) (Or.inr (hw _ (List.mem_of_getElem? (i := 18) rfl))) (by decide) (t := .long) (t' := (.object "com/example/crosstide/crosstide/engine/Owner")) (by decide) (by decide)))).other W3 (Or.inr (slot_ne (Or.inr (hw _ (List.mem_of_getElem? (i := 28) rfl))) (Or.inr (hw _ (List.mem_of_getElem? (i := 20) rfl))) (by decide) (t := .long) (t' := (.object "java/lang/String")) (by decide) (by decide)))).other W6 (Or.inr (slot_ne (Or.inr (hw _ (List.mem_of_getElem? (i := 28) rfl))) (Or.inr (hw _ (List.mem_of_getElem? (i := 22) rfl))) (by decide) (t := .long) (t' := (.object "java/lang/String")) (by decide) (by decide)))).other W9 (Or.inr (slot_ne (Or.inr (hw _ (List.mem_of_getElem? (i := 28) rfl))) (Or.inr (hw _ (List.mem_of_getElem? (i := 24) rfl))) (by decide) (t := .long) (t' := (.object "com/example/crosstide/crosstide/book/Side")) (by decide) (by decide)))).other W12 (Or.inr (slot_ne (Or.inr (hw _ (List.mem_of_getElem? (i := 28) rfl))) (Or.inr (hw _ (List.mem_of_getElem? (i := 26) rfl))) (by decide) (t := .long) (t' := .long) (by decide) (by decide))))
  have f17 : Exa Z h12 a "com/example/crosstide/crosstide/engine/NewOrder" := (f14.wr W12)
  refine g_putF X12 hx hZ hown (host := "") (Or.inl (hw _ (List.mem_of_getElem? (i := 27) rfl))) Via.refl e12 f16 f17 (Or.inr ⟨(hw _ (List.mem_of_getElem? (i := 28) rfl)), rfl, hnm⟩) (hw _ (List.mem_of_getElem? (i := 4) rfl)) (ty := .long) (by decide) rfl rfl (hb hby d_prog_38_m_1_34) rfl fun T15 h15 X15 e15 W15 F15 => ?_
  have kk15 : Keep h0 h15 [a] := kk12.wr W15 (Or.inl (by simp))
  have N15 := Fr.snoc X15 N12 g_a
  have Z15 : n0 ≤ h15.size := by rw [W15.size]; exact Z12
  refine g_aloadN X15 hx (hb hby d_prog_38_m_1_37) rfl rfl rfl ?_
  refine g_aload X15 hx (hb hby d_prog_38_m_1_38) rfl rfl rfl ?_
  have f19 : Fld Z h15 a "com/example/crosstide/crosstide/engine/NewOrder" "timeInForce" "Lcom/example/crosstide/crosstide/engine/TimeInForce;" .null := ((((((F_timeInForce_a.other W2 (Or.inr (slot_ne (Or.inr (hw _ (List.mem_of_getElem? (i := 30) rfl))) (Or.inr (hw _ (List.mem_of_getElem? (i := 18) rfl))) (by decide) (t := (.object "com/example/crosstide/crosstide/engine/TimeInForce")) (t' := (.object "com/example/crosstide/crosstide/engine/Owner")) (by decide) (by decide)))).other W3 (Or.inr (slot_ne (Or.inr (hw _ (List.mem_of_getElem? (i := 30) rfl))) (Or.inr (hw _ (List.mem_of_getElem? (i := 20) rfl))) (by decide) (t := (.object "com/example/crosstide/crosstide/engine/TimeInForce")) (t' := (.object "java/lang/String")) (by decide) (by decide)))).other W6 (Or.inr (slot_ne (Or.inr (hw _ (List.mem_of_getElem? (i := 30) rfl))) (Or.inr (hw _ (List.mem_of_getElem? (i := 22) rfl))) (by decide) (t := (.object "com/example/crosstide/crosstide/engine/TimeInForce")) (t' := (.object "java/lang/String")) (by decide) (by decide)))).other W9 (Or.inr (slot_ne (Or.inr (hw _ (List.mem_of_getElem? (i := 30) rfl))) (Or.inr (hw _ (List.mem_of_getElem? (i := 24) rfl))) (by decide) (t := (.object "com/example/crosstide/crosstide/engine/TimeInForce")) (t' := (.object "com/example/crosstide/crosstide/book/Side")) (by decide) (by decide)))).other W12 (Or.inr (slot_ne (Or.inr (hw _ (List.mem_of_getElem? (i := 30) rfl))) (Or.inr (hw _ (List.mem_of_getElem? (i := 26) rfl))) (by decide) (t := (.object "com/example/crosstide/crosstide/engine/TimeInForce")) (t' := .long) (by decide) (by decide)))).other W15 (Or.inr (slot_ne (Or.inr (hw _ (List.mem_of_getElem? (i := 30) rfl))) (Or.inr (hw _ (List.mem_of_getElem? (i := 28) rfl))) (by decide) (t := (.object "com/example/crosstide/crosstide/engine/TimeInForce")) (t' := .long) (by decide) (by decide))))
  have f20 : Exa Z h15 a "com/example/crosstide/crosstide/engine/NewOrder" := (f17.wr W15)
  refine g_putF X15 hx hZ hown (host := "") (Or.inl (hw _ (List.mem_of_getElem? (i := 29) rfl))) Via.refl e15 f19 f20 (Or.inr ⟨(hw _ (List.mem_of_getElem? (i := 30) rfl)), rfl, hnm⟩) (hw _ (List.mem_of_getElem? (i := 4) rfl)) (ty := (.object "com/example/crosstide/crosstide/engine/TimeInForce")) (by decide) rfl rfl (hb hby d_prog_38_m_1_40) rfl fun T18 h18 X18 e18 W18 F18 => ?_
  have kk18 : Keep h0 h18 [a] := kk15.wr W18 (Or.inl (by simp))
  have N18 := Fr.snoc X18 N15 g_a
  have Z18 : n0 ≤ h18.size := by rw [W18.size]; exact Z15
  refine g_aloadN X18 hx (hb hby d_prog_38_m_1_43) rfl rfl rfl ?_
  refine g_aload X18 hx (hb hby d_prog_38_m_1_44) rfl rfl rfl ?_
  have f22 : Fld Z h18 a "com/example/crosstide/crosstide/engine/NewOrder" "prevention" "Lcom/example/crosstide/crosstide/engine/Prevention;" .null := (((((((F_prevention_a.other W2 (Or.inr (slot_ne (Or.inr (hw _ (List.mem_of_getElem? (i := 32) rfl))) (Or.inr (hw _ (List.mem_of_getElem? (i := 18) rfl))) (by decide) (t := (.object "com/example/crosstide/crosstide/engine/Prevention")) (t' := (.object "com/example/crosstide/crosstide/engine/Owner")) (by decide) (by decide)))).other W3 (Or.inr (slot_ne (Or.inr (hw _ (List.mem_of_getElem? (i := 32) rfl))) (Or.inr (hw _ (List.mem_of_getElem? (i := 20) rfl))) (by decide) (t := (.object "com/example/crosstide/crosstide/engine/Prevention")) (t' := (.object "java/lang/String")) (by decide) (by decide)))).other W6 (Or.inr (slot_ne (Or.inr (hw _ (List.mem_of_getElem? (i := 32) rfl))) (Or.inr (hw _ (List.mem_of_getElem? (i := 22) rfl))) (by decide) (t := (.object "com/example/crosstide/crosstide/engine/Prevention")) (t' := (.object "java/lang/String")) (by decide) (by decide)))).other W9 (Or.inr (slot_ne (Or.inr (hw _ (List.mem_of_getElem? (i := 32) rfl))) (Or.inr (hw _ (List.mem_of_getElem? (i := 24) rfl))) (by decide) (t := (.object "com/example/crosstide/crosstide/engine/Prevention")) (t' := (.object "com/example/crosstide/crosstide/book/Side")) (by decide) (by decide)))).other W12 (Or.inr (slot_ne (Or.inr (hw _ (List.mem_of_getElem? (i := 32) rfl))) (Or.inr (hw _ (List.mem_of_getElem? (i := 26) rfl))) (by decide) (t := (.object "com/example/crosstide/crosstide/engine/Prevention")) (t' := .long) (by decide) (by decide)))).other W15 (Or.inr (slot_ne (Or.inr (hw _ (List.mem_of_getElem? (i := 32) rfl))) (Or.inr (hw _ (List.mem_of_getElem? (i := 28) rfl))) (by decide) (t := (.object "com/example/crosstide/crosstide/engine/Prevention")) (t' := .long) (by decide) (by decide)))).other W18 (Or.inr (slot_ne (Or.inr (hw _ (List.mem_of_getElem? (i := 32) rfl))) (Or.inr (hw _ (List.mem_of_getElem? (i := 30) rfl))) (by decide) (t := (.object "com/example/crosstide/crosstide/engine/Prevention")) (t' := (.object "com/example/crosstide/crosstide/engine/TimeInForce")) (by decide) (by decide))))
  have f23 : Exa Z h18 a "com/example/crosstide/crosstide/engine/NewOrder" := (f20.wr W18)
  refine g_putF X18 hx hZ hown (host := "") (Or.inl (hw _ (List.mem_of_getElem? (i := 31) rfl))) Via.refl e18 f22 f23 (Or.inr ⟨(hw _ (List.mem_of_getElem? (i := 32) rfl)), rfl, hnm⟩) (hw _ (List.mem_of_getElem? (i := 4) rfl)) (ty := (.object "com/example/crosstide/crosstide/engine/Prevention")) (by decide) rfl rfl (hb hby d_prog_38_m_1_46) rfl fun T21 h21 X21 e21 W21 F21 => ?_
  have kk21 : Keep h0 h21 [a] := kk18.wr W21 (Or.inl (by simp))
  have N21 := Fr.snoc X21 N18 g_a
  have Z21 : n0 ≤ h21.size := by rw [W21.size]; exact Z18
  have f24 : Exa Z h21 a "com/example/crosstide/crosstide/engine/NewOrder" := (f23.wr W21)
  have f25 : Fld Z h21 a "com/example/crosstide/crosstide/engine/NewOrder" "owner" "Lcom/example/crosstide/crosstide/engine/Owner;" .null := (((((((F2.other W3 (Or.inr (slot_ne (Or.inr (hw _ (List.mem_of_getElem? (i := 18) rfl))) (Or.inr (hw _ (List.mem_of_getElem? (i := 20) rfl))) (by decide) (t := (.object "com/example/crosstide/crosstide/engine/Owner")) (t' := (.object "java/lang/String")) (by decide) (by decide)))).other W6 (Or.inr (slot_ne (Or.inr (hw _ (List.mem_of_getElem? (i := 18) rfl))) (Or.inr (hw _ (List.mem_of_getElem? (i := 22) rfl))) (by decide) (t := (.object "com/example/crosstide/crosstide/engine/Owner")) (t' := (.object "java/lang/String")) (by decide) (by decide)))).other W9 (Or.inr (slot_ne (Or.inr (hw _ (List.mem_of_getElem? (i := 18) rfl))) (Or.inr (hw _ (List.mem_of_getElem? (i := 24) rfl))) (by decide) (t := (.object "com/example/crosstide/crosstide/engine/Owner")) (t' := (.object "com/example/crosstide/crosstide/book/Side")) (by decide) (by decide)))).other W12 (Or.inr (slot_ne (Or.inr (hw _ (List.mem_of_getElem? (i := 18) rfl))) (Or.inr (hw _ (List.mem_of_getElem? (i := 26) rfl))) (by decide) (t := (.object "com/example/crosstide/crosstide/engine/Owner")) (t' := .long) (by decide) (by decide)))).other W15 (Or.inr (slot_ne (Or.inr (hw _ (List.mem_of_getElem? (i := 18) rfl))) (Or.inr (hw _ (List.mem_of_getElem? (i := 28) rfl))) (by decide) (t := (.object "com/example/crosstide/crosstide/engine/Owner")) (t' := .long) (by decide) (by decide)))).other W18 (Or.inr (slot_ne (Or.inr (hw _ (List.mem_of_getElem? (i := 18) rfl))) (Or.inr (hw _ (List.mem_of_getElem? (i := 30) rfl))) (by decide) (t := (.object "com/example/crosstide/crosstide/engine/Owner")) (t' := (.object "com/example/crosstide/crosstide/engine/TimeInForce")) (by decide) (by decide)))).other W21 (Or.inr (slot_ne (Or.inr (hw _ (List.mem_of_getElem? (i := 18) rfl))) (Or.inr (hw _ (List.mem_of_getElem? (i := 32) rfl))) (by decide) (t := (.object "com/example/crosstide/crosstide/engine/Owner")) (t' := (.object "com/example/crosstide/crosstide/engine/Prevention")) (by decide) (by decide))))
  have f26 : Fld Z h21 a "com/example/crosstide/crosstide/engine/NewOrder" "clOrdId" "Ljava/lang/String;" .null := ((((((F3.other W6 (Or.inr (slot_ne (Or.inr (hw _ (List.mem_of_getElem? (i := 20) rfl))) (Or.inr (hw _ (List.mem_of_getElem? (i := 22) rfl))) (by decide) (t := (.object "java/lang/String")) (t' := (.object "java/lang/String")) (by decide) (by decide)))).other W9 (Or.inr (slot_ne (Or.inr (hw _ (List.mem_of_getElem? (i := 20) rfl))) (Or.inr (hw _ (List.mem_of_getElem? (i := 24) rfl))) (by decide) (t := (.object "java/lang/String")) (t' := (.object "com/example/crosstide/crosstide/book/Side")) (by decide) (by decide)))).other W12 (Or.inr (slot_ne (Or.inr (hw _ (List.mem_of_getElem? (i := 20) rfl))) (Or.inr (hw _ (List.mem_of_getElem? (i := 26) rfl))) (by decide) (t := (.object "java/lang/String")) (t' := .long) (by decide) (by decide)))).other W15 (Or.inr (slot_ne (Or.inr (hw _ (List.mem_of_getElem? (i := 20) rfl))) (Or.inr (hw _ (List.mem_of_getElem? (i := 28) rfl))) (by decide) (t := (.object "java/lang/String")) (t' := .long) (by decide) (by decide)))).other W18 (Or.inr (slot_ne (Or.inr (hw _ (List.mem_of_getElem? (i := 20) rfl))) (Or.inr (hw _ (List.mem_of_getElem? (i := 30) rfl))) (by decide) (t := (.object "java/lang/String")) (t' := (.object "com/example/crosstide/crosstide/engine/TimeInForce")) (by decide) (by decide)))).other W21 (Or.inr (slot_ne (Or.inr (hw _ (List.mem_of_getElem? (i := 20) rfl))) (Or.inr (hw _ (List.mem_of_getElem? (i := 32) rfl))) (by decide) (t := (.object "java/lang/String")) (t' := (.object "com/example/crosstide/crosstide/engine/Prevention")) (by decide) (by decide))))
  have f27 : Fld Z h21 a "com/example/crosstide/crosstide/engine/NewOrder" "symbol" "Ljava/lang/String;" .null := (((((F6.other W9 (Or.inr (slot_ne (Or.inr (hw _ (List.mem_of_getElem? (i := 22) rfl))) (Or.inr (hw _ (List.mem_of_getElem? (i := 24) rfl))) (by decide) (t := (.object "java/lang/String")) (t' := (.object "com/example/crosstide/crosstide/book/Side")) (by decide) (by decide)))).other W12 (Or.inr (slot_ne (Or.inr (hw _ (List.mem_of_getElem? (i := 22) rfl))) (Or.inr (hw _ (List.mem_of_getElem? (i := 26) rfl))) (by decide) (t := (.object "java/lang/String")) (t' := .long) (by decide) (by decide)))).other W15 (Or.inr (slot_ne (Or.inr (hw _ (List.mem_of_getElem? (i := 22) rfl))) (Or.inr (hw _ (List.mem_of_getElem? (i := 28) rfl))) (by decide) (t := (.object "java/lang/String")) (t' := .long) (by decide) (by decide)))).other W18 (Or.inr (slot_ne (Or.inr (hw _ (List.mem_of_getElem? (i := 22) rfl))) (Or.inr (hw _ (List.mem_of_getElem? (i := 30) rfl))) (by decide) (t := (.object "java/lang/String")) (t' := (.object "com/example/crosstide/crosstide/engine/TimeInForce")) (by decide) (by decide)))).other W21 (Or.inr (slot_ne (Or.inr (hw _ (List.mem_of_getElem? (i := 22) rfl))) (Or.inr (hw _ (List.mem_of_getElem? (i := 32) rfl))) (by decide) (t := (.object "java/lang/String")) (t' := (.object "com/example/crosstide/crosstide/engine/Prevention")) (by decide) (by decide))))
  have f28 : Fld Z h21 a "com/example/crosstide/crosstide/engine/NewOrder" "side" "Lcom/example/crosstide/crosstide/book/Side;" .null := ((((F9.other W12 (Or.inr (slot_ne (Or.inr (hw _ (List.mem_of_getElem? (i := 24) rfl))) (Or.inr (hw _ (List.mem_of_getElem? (i := 26) rfl))) (by decide) (t := (.object "com/example/crosstide/crosstide/book/Side")) (t' := .long) (by decide) (by decide)))).other W15 (Or.inr (slot_ne (Or.inr (hw _ (List.mem_of_getElem? (i := 24) rfl))) (Or.inr (hw _ (List.mem_of_getElem? (i := 28) rfl))) (by decide) (t := (.object "com/example/crosstide/crosstide/book/Side")) (t' := .long) (by decide) (by decide)))).other W18 (Or.inr (slot_ne (Or.inr (hw _ (List.mem_of_getElem? (i := 24) rfl))) (Or.inr (hw _ (List.mem_of_getElem? (i := 30) rfl))) (by decide) (t := (.object "com/example/crosstide/crosstide/book/Side")) (t' := (.object "com/example/crosstide/crosstide/engine/TimeInForce")) (by decide) (by decide)))).other W21 (Or.inr (slot_ne (Or.inr (hw _ (List.mem_of_getElem? (i := 24) rfl))) (Or.inr (hw _ (List.mem_of_getElem? (i := 32) rfl))) (by decide) (t := (.object "com/example/crosstide/crosstide/book/Side")) (t' := (.object "com/example/crosstide/crosstide/engine/Prevention")) (by decide) (by decide))))
  have f29 : Fld Z h21 a "com/example/crosstide/crosstide/engine/NewOrder" "timeInForce" "Lcom/example/crosstide/crosstide/engine/TimeInForce;" .null := (F18.other W21 (Or.inr (slot_ne (Or.inr (hw _ (List.mem_of_getElem? (i := 30) rfl))) (Or.inr (hw _ (List.mem_of_getElem? (i := 32) rfl))) (by decide) (t := (.object "com/example/crosstide/crosstide/engine/TimeInForce")) (t' := (.object "com/example/crosstide/crosstide/engine/Prevention")) (by decide) (by decide))))
  have f30 : Fld Z h21 a "com/example/crosstide/crosstide/engine/NewOrder" "quantity" "J" (.long q1) := (((F12.other W15 (Or.inr (slot_ne (Or.inr (hw _ (List.mem_of_getElem? (i := 26) rfl))) (Or.inr (hw _ (List.mem_of_getElem? (i := 28) rfl))) (by decide) (t := .long) (t' := .long) (by decide) (by decide)))).other W18 (Or.inr (slot_ne (Or.inr (hw _ (List.mem_of_getElem? (i := 26) rfl))) (Or.inr (hw _ (List.mem_of_getElem? (i := 30) rfl))) (by decide) (t := .long) (t' := (.object "com/example/crosstide/crosstide/engine/TimeInForce")) (by decide) (by decide)))).other W21 (Or.inr (slot_ne (Or.inr (hw _ (List.mem_of_getElem? (i := 26) rfl))) (Or.inr (hw _ (List.mem_of_getElem? (i := 32) rfl))) (by decide) (t := .long) (t' := (.object "com/example/crosstide/crosstide/engine/Prevention")) (by decide) (by decide))))
  have f31 : Fld Z h21 a "com/example/crosstide/crosstide/engine/NewOrder" "price" "J" (.long q2) := ((F15.other W18 (Or.inr (slot_ne (Or.inr (hw _ (List.mem_of_getElem? (i := 28) rfl))) (Or.inr (hw _ (List.mem_of_getElem? (i := 30) rfl))) (by decide) (t := .long) (t' := (.object "com/example/crosstide/crosstide/engine/TimeInForce")) (by decide) (by decide)))).other W21 (Or.inr (slot_ne (Or.inr (hw _ (List.mem_of_getElem? (i := 28) rfl))) (Or.inr (hw _ (List.mem_of_getElem? (i := 32) rfl))) (by decide) (t := .long) (t' := (.object "com/example/crosstide/crosstide/engine/Prevention")) (by decide) (by decide))))
  exact g_ret X21 hx hret hlk (hb hby d_prog_38_m_1_49) (by decide) (by decide) (by rw [e21]; exact ⟨rfl, N21, kk21, f24, f25, f26, f27, f28, f29, F21, f30, f31⟩)
def Q_nowner (Z : State) (a : Addr) (h0 : Heap) (n0 : Nat) (v : Option Value) (h : Heap) (L : List Loc) : Prop := v = some .null ∧ Fr n0 L ∧ h = h0
theorem ef_nowner (m : MethodId) (x0 : Addr) : entryFrame m #[(.ref x0)] 1 = mkF m 0 #[.val (.ref x0)] [] := by first | (simp [entryFrame, mkF, argsToLocals, Value.category]; done) | rfl
set_option maxRecDepth 65536 in
set_option maxHeartbeats 40000000 in
theorem rm_nowner (l : Launch) (Z : State) (a0 : Array Value) (hw : ∀ d ∈ tables_1, d.before a0 Z = true) (a : Addr) (h0 : Heap) (n0 : Nat) (Z0 : n0 ≤ h0.size) (F_owner_a : Fld Z h0 a "com/example/crosstide/crosstide/engine/NewOrder" "owner" "Lcom/example/crosstide/crosstide/engine/Owner;" .null) :
    Ct l Z (⟨"com/example/crosstide/crosstide/engine/NewOrder", "owner", "()Lcom/example/crosstide/crosstide/engine/Owner;"⟩ : MethodName) prog_38_method_5_code 1 (some (.object "com/example/crosstide/crosstide/engine/Owner")) [] ({ frames := 0, cells := 0, slots := 0, locals := 0 } : Room) #[(.ref a)] h0 (Q_nowner Z a h0 n0) := by
  refine own_body (plainFor_of_name pn_1) (fun m => ef_nowner m a) ?_
  intro p e s m below meth c T0 hx hby hml hZ hown hnm hret hlk X0 e0
  have N0 := Fr.nil n0
  refine g_aloadN X0 hx (hb hby d_prog_38_m_5_0) rfl rfl rfl ?_
  refine g_getF X0 hx hZ hown (host := "") (Or.inl (hw _ (List.mem_of_getElem? (i := 17) rfl))) Via.refl e0 F_owner_a (hb hby d_prog_38_m_5_1) rfl fun T1 X1 e1 => ?_
  exact g_retR X1 hx hret hlk rfl rfl rfl (hb hby d_prog_38_m_5_4) (by decide) (by decide) (by rw [e1]; exact ⟨rfl, N0, rfl⟩)
def Q_nclOrdId (Z : State) (a : Addr) (h0 : Heap) (n0 : Nat) (v : Option Value) (h : Heap) (L : List Loc) : Prop := v = some .null ∧ Fr n0 L ∧ h = h0
theorem ef_nclOrdId (m : MethodId) (x0 : Addr) : entryFrame m #[(.ref x0)] 1 = mkF m 0 #[.val (.ref x0)] [] := by first | (simp [entryFrame, mkF, argsToLocals, Value.category]; done) | rfl
set_option maxRecDepth 65536 in
set_option maxHeartbeats 40000000 in
theorem rm_nclOrdId (l : Launch) (Z : State) (a0 : Array Value) (hw : ∀ d ∈ tables_1, d.before a0 Z = true) (a : Addr) (h0 : Heap) (n0 : Nat) (Z0 : n0 ≤ h0.size) (F_clOrdId_a : Fld Z h0 a "com/example/crosstide/crosstide/engine/NewOrder" "clOrdId" "Ljava/lang/String;" .null) :
    Ct l Z (⟨"com/example/crosstide/crosstide/engine/NewOrder", "clOrdId", "()Ljava/lang/String;"⟩ : MethodName) prog_38_method_6_code 1 (some (.object "java/lang/String")) [] ({ frames := 0, cells := 0, slots := 0, locals := 0 } : Room) #[(.ref a)] h0 (Q_nclOrdId Z a h0 n0) := by
  refine own_body (plainFor_of_name pn_1) (fun m => ef_nclOrdId m a) ?_
  intro p e s m below meth c T0 hx hby hml hZ hown hnm hret hlk X0 e0
  have N0 := Fr.nil n0
  refine g_aloadN X0 hx (hb hby d_prog_38_m_6_0) rfl rfl rfl ?_
  refine g_getF X0 hx hZ hown (host := "") (Or.inl (hw _ (List.mem_of_getElem? (i := 19) rfl))) Via.refl e0 F_clOrdId_a (hb hby d_prog_38_m_6_1) rfl fun T1 X1 e1 => ?_
  exact g_retR X1 hx hret hlk rfl rfl rfl (hb hby d_prog_38_m_6_4) (by decide) (by decide) (by rw [e1]; exact ⟨rfl, N0, rfl⟩)
def Q_nsymbol (Z : State) (a : Addr) (h0 : Heap) (n0 : Nat) (v : Option Value) (h : Heap) (L : List Loc) : Prop := v = some .null ∧ Fr n0 L ∧ h = h0
theorem ef_nsymbol (m : MethodId) (x0 : Addr) : entryFrame m #[(.ref x0)] 1 = mkF m 0 #[.val (.ref x0)] [] := by first | (simp [entryFrame, mkF, argsToLocals, Value.category]; done) | rfl
set_option maxRecDepth 65536 in
set_option maxHeartbeats 40000000 in
theorem rm_nsymbol (l : Launch) (Z : State) (a0 : Array Value) (hw : ∀ d ∈ tables_1, d.before a0 Z = true) (a : Addr) (h0 : Heap) (n0 : Nat) (Z0 : n0 ≤ h0.size) (F_symbol_a : Fld Z h0 a "com/example/crosstide/crosstide/engine/NewOrder" "symbol" "Ljava/lang/String;" .null) :
    Ct l Z (⟨"com/example/crosstide/crosstide/engine/NewOrder", "symbol", "()Ljava/lang/String;"⟩ : MethodName) prog_38_method_7_code 1 (some (.object "java/lang/String")) [] ({ frames := 0, cells := 0, slots := 0, locals := 0 } : Room) #[(.ref a)] h0 (Q_nsymbol Z a h0 n0) := by
  refine own_body (plainFor_of_name pn_1) (fun m => ef_nsymbol m a) ?_
  intro p e s m below meth c T0 hx hby hml hZ hown hnm hret hlk X0 e0
  have N0 := Fr.nil n0
  refine g_aloadN X0 hx (hb hby d_prog_38_m_7_0) rfl rfl rfl ?_
  refine g_getF X0 hx hZ hown (host := "") (Or.inl (hw _ (List.mem_of_getElem? (i := 21) rfl))) Via.refl e0 F_symbol_a (hb hby d_prog_38_m_7_1) rfl fun T1 X1 e1 => ?_
  exact g_retR X1 hx hret hlk rfl rfl rfl (hb hby d_prog_38_m_7_4) (by decide) (by decide) (by rw [e1]; exact ⟨rfl, N0, rfl⟩)
def Q_nside (Z : State) (a : Addr) (h0 : Heap) (n0 : Nat) (v : Option Value) (h : Heap) (L : List Loc) : Prop := v = some .null ∧ Fr n0 L ∧ h = h0
theorem ef_nside (m : MethodId) (x0 : Addr) : entryFrame m #[(.ref x0)] 1 = mkF m 0 #[.val (.ref x0)] [] := by first | (simp [entryFrame, mkF, argsToLocals, Value.category]; done) | rfl
set_option maxRecDepth 65536 in
set_option maxHeartbeats 40000000 in
theorem rm_nside (l : Launch) (Z : State) (a0 : Array Value) (hw : ∀ d ∈ tables_1, d.before a0 Z = true) (a : Addr) (h0 : Heap) (n0 : Nat) (Z0 : n0 ≤ h0.size) (F_side_a : Fld Z h0 a "com/example/crosstide/crosstide/engine/NewOrder" "side" "Lcom/example/crosstide/crosstide/book/Side;" .null) :
    Ct l Z (⟨"com/example/crosstide/crosstide/engine/NewOrder", "side", "()Lcom/example/crosstide/crosstide/book/Side;"⟩ : MethodName) prog_38_method_8_code 1 (some (.object "com/example/crosstide/crosstide/book/Side")) [] ({ frames := 0, cells := 0, slots := 0, locals := 0 } : Room) #[(.ref a)] h0 (Q_nside Z a h0 n0) := by
  refine own_body (plainFor_of_name pn_1) (fun m => ef_nside m a) ?_
  intro p e s m below meth c T0 hx hby hml hZ hown hnm hret hlk X0 e0
  have N0 := Fr.nil n0
  refine g_aloadN X0 hx (hb hby d_prog_38_m_8_0) rfl rfl rfl ?_
  refine g_getF X0 hx hZ hown (host := "") (Or.inl (hw _ (List.mem_of_getElem? (i := 23) rfl))) Via.refl e0 F_side_a (hb hby d_prog_38_m_8_1) rfl fun T1 X1 e1 => ?_
  exact g_retR X1 hx hret hlk rfl rfl rfl (hb hby d_prog_38_m_8_4) (by decide) (by decide) (by rw [e1]; exact ⟨rfl, N0, rfl⟩)
def Q_ntimeInForce (Z : State) (a : Addr) (h0 : Heap) (n0 : Nat) (v : Option Value) (h : Heap) (L : List Loc) : Prop := v = some .null ∧ Fr n0 L ∧ h = h0
theorem ef_ntimeInForce (m : MethodId) (x0 : Addr) : entryFrame m #[(.ref x0)] 1 = mkF m 0 #[.val (.ref x0)] [] := by first | (simp [entryFrame, mkF, argsToLocals, Value.category]; done) | rfl
set_option maxRecDepth 65536 in
set_option maxHeartbeats 40000000 in
theorem rm_ntimeInForce (l : Launch) (Z : State) (a0 : Array Value) (hw : ∀ d ∈ tables_1, d.before a0 Z = true) (a : Addr) (h0 : Heap) (n0 : Nat) (Z0 : n0 ≤ h0.size) (F_timeInForce_a : Fld Z h0 a "com/example/crosstide/crosstide/engine/NewOrder" "timeInForce" "Lcom/example/crosstide/crosstide/engine/TimeInForce;" .null) :
    Ct l Z (⟨"com/example/crosstide/crosstide/engine/NewOrder", "timeInForce", "()Lcom/example/crosstide/crosstide/engine/TimeInForce;"⟩ : MethodName) prog_38_method_11_code 1 (some (.object "com/example/crosstide/crosstide/engine/TimeInForce")) [] ({ frames := 0, cells := 0, slots := 0, locals := 0 } : Room) #[(.ref a)] h0 (Q_ntimeInForce Z a h0 n0) := by
  refine own_body (plainFor_of_name pn_1) (fun m => ef_ntimeInForce m a) ?_
  intro p e s m below meth c T0 hx hby hml hZ hown hnm hret hlk X0 e0
  have N0 := Fr.nil n0
  refine g_aloadN X0 hx (hb hby d_prog_38_m_11_0) rfl rfl rfl ?_
  refine g_getF X0 hx hZ hown (host := "") (Or.inl (hw _ (List.mem_of_getElem? (i := 29) rfl))) Via.refl e0 F_timeInForce_a (hb hby d_prog_38_m_11_1) rfl fun T1 X1 e1 => ?_
  exact g_retR X1 hx hret hlk rfl rfl rfl (hb hby d_prog_38_m_11_4) (by decide) (by decide) (by rw [e1]; exact ⟨rfl, N0, rfl⟩)
def Q_nprevention (Z : State) (a : Addr) (h0 : Heap) (n0 : Nat) (v : Option Value) (h : Heap) (L : List Loc) : Prop := v = some .null ∧ Fr n0 L ∧ h = h0
theorem ef_nprevention (m : MethodId) (x0 : Addr) : entryFrame m #[(.ref x0)] 1 = mkF m 0 #[.val (.ref x0)] [] := by first | (simp [entryFrame, mkF, argsToLocals, Value.category]; done) | rfl
set_option maxRecDepth 65536 in
set_option maxHeartbeats 40000000 in
theorem rm_nprevention (l : Launch) (Z : State) (a0 : Array Value) (hw : ∀ d ∈ tables_1, d.before a0 Z = true) (a : Addr) (h0 : Heap) (n0 : Nat) (Z0 : n0 ≤ h0.size) (F_prevention_a : Fld Z h0 a "com/example/crosstide/crosstide/engine/NewOrder" "prevention" "Lcom/example/crosstide/crosstide/engine/Prevention;" .null) :
    Ct l Z (⟨"com/example/crosstide/crosstide/engine/NewOrder", "prevention", "()Lcom/example/crosstide/crosstide/engine/Prevention;"⟩ : MethodName) prog_38_method_12_code 1 (some (.object "com/example/crosstide/crosstide/engine/Prevention")) [] ({ frames := 0, cells := 0, slots := 0, locals := 0 } : Room) #[(.ref a)] h0 (Q_nprevention Z a h0 n0) := by
  refine own_body (plainFor_of_name pn_1) (fun m => ef_nprevention m a) ?_
  intro p e s m below meth c T0 hx hby hml hZ hown hnm hret hlk X0 e0
  have N0 := Fr.nil n0
  refine g_aloadN X0 hx (hb hby d_prog_38_m_12_0) rfl rfl rfl ?_
  refine g_getF X0 hx hZ hown (host := "") (Or.inl (hw _ (List.mem_of_getElem? (i := 31) rfl))) Via.refl e0 F_prevention_a (hb hby d_prog_38_m_12_1) rfl fun T1 X1 e1 => ?_
  exact g_retR X1 hx hret hlk rfl rfl rfl (hb hby d_prog_38_m_12_4) (by decide) (by decide) (by rw [e1]; exact ⟨rfl, N0, rfl⟩)
def Q_nquantity (Z : State) (a : Addr) (x : Int64) (h0 : Heap) (n0 : Nat) (v : Option Value) (h : Heap) (L : List Loc) : Prop := v = some (.long x) ∧ Fr n0 L ∧ h = h0
theorem ef_nquantity (m : MethodId) (x0 : Addr) : entryFrame m #[(.ref x0)] 1 = mkF m 0 #[.val (.ref x0)] [] := by first | (simp [entryFrame, mkF, argsToLocals, Value.category]; done) | rfl
set_option maxRecDepth 65536 in
set_option maxHeartbeats 40000000 in
theorem rm_nquantity (l : Launch) (Z : State) (a0 : Array Value) (hw : ∀ d ∈ tables_1, d.before a0 Z = true) (a : Addr) (x : Int64) (h0 : Heap) (n0 : Nat) (Z0 : n0 ≤ h0.size) (F_quantity_a : Fld Z h0 a "com/example/crosstide/crosstide/engine/NewOrder" "quantity" "J" (.long x)) :
    Ct l Z (⟨"com/example/crosstide/crosstide/engine/NewOrder", "quantity", "()J"⟩ : MethodName) prog_38_method_9_code 1 (some .long) [] ({ frames := 0, cells := 0, slots := 0, locals := 0 } : Room) #[(.ref a)] h0 (Q_nquantity Z a x h0 n0) := by
  refine own_body (plainFor_of_name pn_1) (fun m => ef_nquantity m a) ?_
  intro p e s m below meth c T0 hx hby hml hZ hown hnm hret hlk X0 e0
  have N0 := Fr.nil n0
  refine g_aloadN X0 hx (hb hby d_prog_38_m_9_0) rfl rfl rfl ?_
  refine g_getF X0 hx hZ hown (host := "") (Or.inl (hw _ (List.mem_of_getElem? (i := 25) rfl))) Via.refl e0 F_quantity_a (hb hby d_prog_38_m_9_1) rfl fun T1 X1 e1 => ?_
  exact g_retJ X1 hx hret hlk (hb hby d_prog_38_m_9_4) (by decide) (by decide) (by rw [e1]; exact ⟨rfl, N0, rfl⟩)
def Q_nprice (Z : State) (a : Addr) (x : Int64) (h0 : Heap) (n0 : Nat) (v : Option Value) (h : Heap) (L : List Loc) : Prop := v = some (.long x) ∧ Fr n0 L ∧ h = h0
theorem ef_nprice (m : MethodId) (x0 : Addr) : entryFrame m #[(.ref x0)] 1 = mkF m 0 #[.val (.ref x0)] [] := by first | (simp [entryFrame, mkF, argsToLocals, Value.category]; done) | rfl
set_option maxRecDepth 65536 in
set_option maxHeartbeats 40000000 in
theorem rm_nprice (l : Launch) (Z : State) (a0 : Array Value) (hw : ∀ d ∈ tables_1, d.before a0 Z = true) (a : Addr) (x : Int64) (h0 : Heap) (n0 : Nat) (Z0 : n0 ≤ h0.size) (F_price_a : Fld Z h0 a "com/example/crosstide/crosstide/engine/NewOrder" "price" "J" (.long x)) :
    Ct l Z (⟨"com/example/crosstide/crosstide/engine/NewOrder", "price", "()J"⟩ : MethodName) prog_38_method_10_code 1 (some .long) [] ({ frames := 0, cells := 0, slots := 0, locals := 0 } : Room) #[(.ref a)] h0 (Q_nprice Z a x h0 n0) := by
  refine own_body (plainFor_of_name pn_1) (fun m => ef_nprice m a) ?_
  intro p e s m below meth c T0 hx hby hml hZ hown hnm hret hlk X0 e0
  have N0 := Fr.nil n0
  refine g_aloadN X0 hx (hb hby d_prog_38_m_10_0) rfl rfl rfl ?_
  refine g_getF X0 hx hZ hown (host := "") (Or.inl (hw _ (List.mem_of_getElem? (i := 27) rfl))) Via.refl e0 F_price_a (hb hby d_prog_38_m_10_1) rfl fun T1 X1 e1 => ?_
  exact g_retJ X1 hx hret hlk (hb hby d_prog_38_m_10_4) (by decide) (by decide) (by rw [e1]; exact ⟨rfl, N0, rfl⟩)
def Q_oini (Z : State) (a : Addr) (i0 : Int64) (o : Addr) (q1 : Int64) (q2 : Int64) (h0 : Heap) (n0 : Nat) (v : Option Value) (h : Heap) (L : List Loc) : Prop := v = none ∧ Fr n0 L ∧ Keep h0 h [a] ∧ Exa Z h a "com/example/crosstide/crosstide/engine/Order" ∧ Fld Z h a "com/example/crosstide/crosstide/engine/Order" "quantity" "J" (.long q1) ∧ Fld Z h a "com/example/crosstide/crosstide/engine/Order" "leavesQty" "J" (.long q1) ∧ Fld Z h a "com/example/crosstide/crosstide/engine/Order" "price" "J" (.long q2) ∧ Fld Z h a "com/example/crosstide/crosstide/engine/Order" "cumQty" "J" (.long (0 : Int64)) ∧ Fld Z h a "com/example/crosstide/crosstide/engine/Order" "notional" "J" (.long (0 : Int64))
theorem ef_oini (m : MethodId) (x0 : Addr) (x1 : Int64) (x2 : Addr) : entryFrame m #[(.ref x0), (.long x1), (.ref x2)] 4 = mkF m 0 #[.val (.ref x0), .val (.long x1), .second, .val (.ref x2)] [] := by first | (simp [entryFrame, mkF, argsToLocals, Value.category]; done) | rfl
set_option maxRecDepth 65536 in
set_option maxHeartbeats 40000000 in
theorem rm_oini (l : Launch) (Z : State) (a0 : Array Value) (hw : ∀ d ∈ tables_1, d.before a0 Z = true) (a : Addr) (i0 : Int64) (o : Addr) (q1 : Int64) (q2 : Int64) (h0 : Heap) (n0 : Nat) (Z0 : n0 ≤ h0.size) (F_owner_o : Fld Z h0 o "com/example/crosstide/crosstide/engine/NewOrder" "owner" "Lcom/example/crosstide/crosstide/engine/Owner;" .null) (F_clOrdId_o : Fld Z h0 o "com/example/crosstide/crosstide/engine/NewOrder" "clOrdId" "Ljava/lang/String;" .null) (F_symbol_o : Fld Z h0 o "com/example/crosstide/crosstide/engine/NewOrder" "symbol" "Ljava/lang/String;" .null) (F_side_o : Fld Z h0 o "com/example/crosstide/crosstide/engine/NewOrder" "side" "Lcom/example/crosstide/crosstide/book/Side;" .null) (F_timeInForce_o : Fld Z h0 o "com/example/crosstide/crosstide/engine/NewOrder" "timeInForce" "Lcom/example/crosstide/crosstide/engine/TimeInForce;" .null) (F_prevention_o : Fld Z h0 o "com/example/crosstide/crosstide/engine/NewOrder" "prevention" "Lcom/example/crosstide/crosstide/engine/Prevention;" .null) (F_quantity_o : Fld Z h0 o "com/example/crosstide/crosstide/engine/NewOrder" "quantity" "J" (.long q1)) (F_price_o : Fld Z h0 o "com/example/crosstide/crosstide/engine/NewOrder" "price" "J" (.long q2)) (E_o : Exa Z h0 o "com/example/crosstide/crosstide/engine/NewOrder") (F_owner_a : Fld Z h0 a "com/example/crosstide/crosstide/engine/Order" "owner" "Lcom/example/crosstide/crosstide/engine/Owner;" .null) (F_clOrdId_a : Fld Z h0 a "com/example/crosstide/crosstide/engine/Order" "clOrdId" "Ljava/lang/String;" .null) (F_symbol_a : Fld Z h0 a "com/example/crosstide/crosstide/engine/Order" "symbol" "Ljava/lang/String;" .null) (F_side_a : Fld Z h0 a "com/example/crosstide/crosstide/engine/Order" "side" "Lcom/example/crosstide/crosstide/book/Side;" .null) (F_timeInForce_a : Fld Z h0 a "com/example/crosstide/crosstide/engine/Order" "timeInForce" "Lcom/example/crosstide/crosstide/engine/TimeInForce;" .null) (F_prevention_a : Fld Z h0 a "com/example/crosstide/crosstide/engine/Order" "prevention" "Lcom/example/crosstide/crosstide/engine/Prevention;" .null) (F_id_a : Fld Z h0 a "com/example/crosstide/crosstide/engine/Order" "id" "J" (.long (0 : Int64))) (F_quantity_a : Fld Z h0 a "com/example/crosstide/crosstide/engine/Order" "quantity" "J" (.long (0 : Int64))) (F_leavesQty_a : Fld Z h0 a "com/example/crosstide/crosstide/engine/Order" "leavesQty" "J" (.long (0 : Int64))) (F_price_a : Fld Z h0 a "com/example/crosstide/crosstide/engine/Order" "price" "J" (.long (0 : Int64))) (F_cumQty_a : Fld Z h0 a "com/example/crosstide/crosstide/engine/Order" "cumQty" "J" (.long (0 : Int64))) (F_notional_a : Fld Z h0 a "com/example/crosstide/crosstide/engine/Order" "notional" "J" (.long (0 : Int64))) (E_a : Exa Z h0 a "com/example/crosstide/crosstide/engine/Order") (g_a : n0 ≤ a) (ne_a_o : a ≠ o) :
    Ct l Z (⟨"com/example/crosstide/crosstide/engine/Order", "<init>", "(JLcom/example/crosstide/crosstide/engine/NewOrder;)V"⟩ : MethodName) prog_39_method_1_code 4 none [] ({ frames := 1, cells := 0, slots := 0, locals := 13 } : Room) #[(.ref a), (.long i0), (.ref o)] h0 (Q_oini Z a i0 o q1 q2 h0 n0) := by
  refine own_body (plainFor_of_name pn_2) (fun m => ef_oini m a i0 o) ?_
  intro p e s m below meth c T0 hx hby hml hZ hown hnm hret hlk X0 e0
  have N0 := Fr.nil n0
  refine g_aloadN X0 hx (hb hby d_prog_39_m_1_0) rfl rfl rfl ?_
  refine g_initO X0 hx hZ hown (hw _ (List.mem_of_getElem? (i := 36) rfl)) (hw _ (List.mem_of_getElem? (i := 15) rfl)) (hw _ (List.mem_of_getElem? (i := 16) rfl)) e0 (by rw [hml]; rfl) (hb hby d_prog_39_m_1_1) rfl (by decide) (W := 0) (Nat.le_of_eq rfl) (by decide) fun T1 X1 e1 => ?_
  refine g_aloadN X1 hx (hb hby d_prog_39_m_1_4) rfl rfl rfl ?_
  refine g_lloadN X1 hx (hb hby d_prog_39_m_1_5) rfl rfl ?_
  refine g_putF X1 hx hZ hown (host := "") (Or.inl (hw _ (List.mem_of_getElem? (i := 37) rfl))) Via.refl e1 F_id_a E_a (Or.inr ⟨(hw _ (List.mem_of_getElem? (i := 38) rfl)), rfl, hnm⟩) (hw _ (List.mem_of_getElem? (i := 1) rfl)) (ty := .long) (by decide) rfl rfl (hb hby d_prog_39_m_1_6) rfl fun T2 h2 X2 e2 W2 F2 => ?_
  have kk2 : Keep h0 h2 [a] := (Keep.refl h0 [a]).wr W2 (Or.inl (by simp))
  have N2 := Fr.snoc X2 N0 g_a
  have Z2 : n0 ≤ h2.size := by rw [W2.size]; exact Z0
  refine g_aloadN X2 hx (hb hby d_prog_39_m_1_9) rfl rfl rfl ?_
  refine g_aloadN X2 hx (hb hby d_prog_39_m_1_10) rfl rfl rfl ?_
  have f4 : Fld Z h2 o "com/example/crosstide/crosstide/engine/NewOrder" "owner" "Lcom/example/crosstide/crosstide/engine/Owner;" .null := (F_owner_o.other W2 (Or.inl (Ne.symm ne_a_o)))
  have f5 : Exa Z h2 o "com/example/crosstide/crosstide/engine/NewOrder" := (E_o.wr W2)
  refine g_virtual X2 hx hZ hown (hw _ (List.mem_of_getElem? (i := 39) rfl)) (hw _ (List.mem_of_getElem? (i := 40) rfl)) (notFace_of_selects (args := #[]) (mvT hZ (hw _ (List.mem_of_getElem? (i := 42) rfl)))) (hw _ (List.mem_of_getElem? (i := 42) rfl)) (hw _ (List.mem_of_getElem? (i := 41) rfl)) (hw _ (List.mem_of_getElem? (i := 5) rfl)) (hw _ (List.mem_of_getElem? (i := 43) rfl)) (by decide) (a := o) f5 (rm_nowner l Z a0 hw o h2 n0 Z2 f4) (by rw [hml]; rfl) e2 [] rfl rfl (W := 1) (Nat.le_of_eq rfl) (by decide) (by decide) (by decide) (by decide) (lenOf pd_1 rfl) (hb hby d_prog_39_m_1_11) rfl fun v3 T3 L3 X3 hQ3 => ?_
  obtain ⟨rfl, Nq3, eh3⟩ := hQ3
  have N3 := Fr.app N2 Nq3
  show Ga _ _ _ _ _ _ _ _ _ _ _ [.null, (.ref a)]
  have f7 : Fld Z h2 a "com/example/crosstide/crosstide/engine/Order" "owner" "Lcom/example/crosstide/crosstide/engine/Owner;" .null := (F_owner_a.other W2 (Or.inr (slot_ne (Or.inr (hw _ (List.mem_of_getElem? (i := 45) rfl))) (Or.inr (hw _ (List.mem_of_getElem? (i := 38) rfl))) (by decide) (t := (.object "com/example/crosstide/crosstide/engine/Owner")) (t' := .long) (by decide) (by decide))))
  have f8 : Exa Z h2 a "com/example/crosstide/crosstide/engine/Order" := (E_a.wr W2)
  refine g_putF X3 hx hZ hown (host := "") (Or.inl (hw _ (List.mem_of_getElem? (i := 44) rfl))) Via.refl eh3 f7 f8 (Or.inr ⟨(hw _ (List.mem_of_getElem? (i := 45) rfl)), rfl, hnm⟩) (hw _ (List.mem_of_getElem? (i := 1) rfl)) (ty := (.object "com/example/crosstide/crosstide/engine/Owner")) (by decide) rfl rfl (hb hby d_prog_39_m_1_14) rfl fun T6 h6 X6 e6 W6 F6 => ?_
  have kk6 : Keep h0 h6 [a] := kk2.wr W6 (Or.inl (by simp))
  have N6 := Fr.snoc X6 N3 g_a
  have Z6 : n0 ≤ h6.size := by rw [W6.size]; exact Z2
  refine g_aloadN X6 hx (hb hby d_prog_39_m_1_17) rfl rfl rfl ?_
  refine g_aloadN X6 hx (hb hby d_prog_39_m_1_18) rfl rfl rfl ?_
  have f10 : Fld Z h6 o "com/example/crosstide/crosstide/engine/NewOrder" "clOrdId" "Ljava/lang/String;" .null := ((F_clOrdId_o.other W2 (Or.inl (Ne.symm ne_a_o))).other W6 (Or.inl (Ne.symm ne_a_o)))
  have f11 : Exa Z h6 o "com/example/crosstide/crosstide/engine/NewOrder" := (f5.wr W6)
  refine g_virtual X6 hx hZ hown (hw _ (List.mem_of_getElem? (i := 46) rfl)) (hw _ (List.mem_of_getElem? (i := 47) rfl)) (notFace_of_selects (args := #[]) (mvT hZ (hw _ (List.mem_of_getElem? (i := 49) rfl)))) (hw _ (List.mem_of_getElem? (i := 49) rfl)) (hw _ (List.mem_of_getElem? (i := 48) rfl)) (hw _ (List.mem_of_getElem? (i := 5) rfl)) (hw _ (List.mem_of_getElem? (i := 50) rfl)) (by decide) (a := o) f11 (rm_nclOrdId l Z a0 hw o h6 n0 Z6 f10) (by rw [hml]; rfl) e6 [] rfl rfl (W := 1) (Nat.le_of_eq rfl) (by decide) (by decide) (by decide) (by decide) (lenOf pd_2 rfl) (hb hby d_prog_39_m_1_19) rfl fun v9 T9 L9 X9 hQ9 => ?_
  obtain ⟨rfl, Nq9, eh9⟩ := hQ9
  have N9 := Fr.app N6 Nq9
  show Ga _ _ _ _ _ _ _ _ _ _ _ [.null, (.ref a)]
  have f13 : Fld Z h6 a "com/example/crosstide/crosstide/engine/Order" "clOrdId" "Ljava/lang/String;" .null := ((F_clOrdId_a.other W2 (Or.inr (slot_ne (Or.inl (hw _ (List.mem_of_getElem? (i := 52) rfl))) (Or.inr (hw _ (List.mem_of_getElem? (i := 38) rfl))) (by decide) (t := (.object "java/lang/String")) (t' := .long) (by decide) (by decide)))).other W6 (Or.inr (slot_ne (Or.inl (hw _ (List.mem_of_getElem? (i := 52) rfl))) (Or.inr (hw _ (List.mem_of_getElem? (i := 45) rfl))) (by decide) (t := (.object "java/lang/String")) (t' := (.object "com/example/crosstide/crosstide/engine/Owner")) (by decide) (by decide))))
  have f14 : Exa Z h6 a "com/example/crosstide/crosstide/engine/Order" := (f8.wr W6)
  refine g_putF X9 hx hZ hown (host := "") (Or.inl (hw _ (List.mem_of_getElem? (i := 51) rfl))) Via.refl eh9 f13 f14 (Or.inl (hw _ (List.mem_of_getElem? (i := 52) rfl))) (hw _ (List.mem_of_getElem? (i := 1) rfl)) (ty := (.object "java/lang/String")) (by decide) rfl rfl (hb hby d_prog_39_m_1_22) rfl fun T12 h12 X12 e12 W12 F12 => ?_
  have kk12 : Keep h0 h12 [a] := kk6.wr W12 (Or.inl (by simp))
  have N12 := Fr.snoc X12 N9 g_a
  have Z12 : n0 ≤ h12.size := by rw [W12.size]; exact Z6
  refine g_aloadN X12 hx (hb hby d_prog_39_m_1_25) rfl rfl rfl ?_
  refine g_aloadN X12 hx (hb hby d_prog_39_m_1_26) rfl rfl rfl ?_
  have f16 : Fld Z h12 o "com/example/crosstide/crosstide/engine/NewOrder" "symbol" "Ljava/lang/String;" .null := (((F_symbol_o.other W2 (Or.inl (Ne.symm ne_a_o))).other W6 (Or.inl (Ne.symm ne_a_o))).other W12 (Or.inl (Ne.symm ne_a_o)))
  have f17 : Exa Z h12 o "com/example/crosstide/crosstide/engine/NewOrder" := (f11.wr W12)
  refine g_virtual X12 hx hZ hown (hw _ (List.mem_of_getElem? (i := 53) rfl)) (hw _ (List.mem_of_getElem? (i := 54) rfl)) (notFace_of_selects (args := #[]) (mvT hZ (hw _ (List.mem_of_getElem? (i := 56) rfl)))) (hw _ (List.mem_of_getElem? (i := 56) rfl)) (hw _ (List.mem_of_getElem? (i := 55) rfl)) (hw _ (List.mem_of_getElem? (i := 5) rfl)) (hw _ (List.mem_of_getElem? (i := 57) rfl)) (by decide) (a := o) f17 (rm_nsymbol l Z a0 hw o h12 n0 Z12 f16) (by rw [hml]; rfl) e12 [] rfl rfl (W := 1) (Nat.le_of_eq rfl) (by decide) (by decide) (by decide) (by decide) (lenOf pd_2 rfl) (hb hby d_prog_39_m_1_27) rfl fun v15 T15 L15 X15 hQ15 => ?_
  obtain ⟨rfl, Nq15, eh15⟩ := hQ15
  have N15 := Fr.app N12 Nq15
  show Ga _ _ _ _ _ _ _ _ _ _ _ [.null, (.ref a)]
  have f19 : Fld Z h12 a "com/example/crosstide/crosstide/engine/Order" "symbol" "Ljava/lang/String;" .null := (((F_symbol_a.other W2 (Or.inr (slot_ne (Or.inr (hw _ (List.mem_of_getElem? (i := 59) rfl))) (Or.inr (hw _ (List.mem_of_getElem? (i := 38) rfl))) (by decide) (t := (.object "java/lang/String")) (t' := .long) (by decide) (by decide)))).other W6 (Or.inr (slot_ne (Or.inr (hw _ (List.mem_of_getElem? (i := 59) rfl))) (Or.inr (hw _ (List.mem_of_getElem? (i := 45) rfl))) (by decide) (t := (.object "java/lang/String")) (t' := (.object "com/example/crosstide/crosstide/engine/Owner")) (by decide) (by decide)))).other W12 (Or.inr (slot_ne (Or.inr (hw _ (List.mem_of_getElem? (i := 59) rfl))) (Or.inl (hw _ (List.mem_of_getElem? (i := 52) rfl))) (by decide) (t := (.object "java/lang/String")) (t' := (.object "java/lang/String")) (by decide) (by decide))))
  have f20 : Exa Z h12 a "com/example/crosstide/crosstide/engine/Order" := (f14.wr W12)
  refine g_putF X15 hx hZ hown (host := "") (Or.inl (hw _ (List.mem_of_getElem? (i := 58) rfl))) Via.refl eh15 f19 f20 (Or.inr ⟨(hw _ (List.mem_of_getElem? (i := 59) rfl)), rfl, hnm⟩) (hw _ (List.mem_of_getElem? (i := 1) rfl)) (ty := (.object "java/lang/String")) (by decide) rfl rfl (hb hby d_prog_39_m_1_30) rfl fun T18 h18 X18 e18 W18 F18 => ?_
  have kk18 : Keep h0 h18 [a] := kk12.wr W18 (Or.inl (by simp))
  have N18 := Fr.snoc X18 N15 g_a
  have Z18 : n0 ≤ h18.size := by rw [W18.size]; exact Z12
  refine g_aloadN X18 hx (hb hby d_prog_39_m_1_33) rfl rfl rfl ?_
  refine g_aloadN X18 hx (hb hby d_prog_39_m_1_34) rfl rfl rfl ?_
  have f22 : Fld Z h18 o "com/example/crosstide/crosstide/engine/NewOrder" "side" "Lcom/example/crosstide/crosstide/book/Side;" .null := ((((F_side_o.other W2 (Or.inl (Ne.symm ne_a_o))).other W6 (Or.inl (Ne.symm ne_a_o))).other W12 (Or.inl (Ne.symm ne_a_o))).other W18 (Or.inl (Ne.symm ne_a_o)))
  have f23 : Exa Z h18 o "com/example/crosstide/crosstide/engine/NewOrder" := (f17.wr W18)
  refine g_virtual X18 hx hZ hown (hw _ (List.mem_of_getElem? (i := 60) rfl)) (hw _ (List.mem_of_getElem? (i := 61) rfl)) (notFace_of_selects (args := #[]) (mvT hZ (hw _ (List.mem_of_getElem? (i := 63) rfl)))) (hw _ (List.mem_of_getElem? (i := 63) rfl)) (hw _ (List.mem_of_getElem? (i := 62) rfl)) (hw _ (List.mem_of_getElem? (i := 5) rfl)) (hw _ (List.mem_of_getElem? (i := 64) rfl)) (by decide) (a := o) f23 (rm_nside l Z a0 hw o h18 n0 Z18 f22) (by rw [hml]; rfl) e18 [] rfl rfl (W := 1) (Nat.le_of_eq rfl) (by decide) (by decide) (by decide) (by decide) (lenOf pd_3 rfl) (hb hby d_prog_39_m_1_35) rfl fun v21 T21 L21 X21 hQ21 => ?_
  obtain ⟨rfl, Nq21, eh21⟩ := hQ21
  have N21 := Fr.app N18 Nq21
  show Ga _ _ _ _ _ _ _ _ _ _ _ [.null, (.ref a)]
  have f25 : Fld Z h18 a "com/example/crosstide/crosstide/engine/Order" "side" "Lcom/example/crosstide/crosstide/book/Side;" .null := ((((F_side_a.other W2 (Or.inr (slot_ne (Or.inr (hw _ (List.mem_of_getElem? (i := 66) rfl))) (Or.inr (hw _ (List.mem_of_getElem? (i := 38) rfl))) (by decide) (t := (.object "com/example/crosstide/crosstide/book/Side")) (t' := .long) (by decide) (by decide)))).other W6 (Or.inr (slot_ne (Or.inr (hw _ (List.mem_of_getElem? (i := 66) rfl))) (Or.inr (hw _ (List.mem_of_getElem? (i := 45) rfl))) (by decide) (t := (.object "com/example/crosstide/crosstide/book/Side")) (t' := (.object "com/example/crosstide/crosstide/engine/Owner")) (by decide) (by decide)))).other W12 (Or.inr (slot_ne (Or.inr (hw _ (List.mem_of_getElem? (i := 66) rfl))) (Or.inl (hw _ (List.mem_of_getElem? (i := 52) rfl))) (by decide) (t := (.object "com/example/crosstide/crosstide/book/Side")) (t' := (.object "java/lang/String")) (by decide) (by decide)))).other W18 (Or.inr (slot_ne (Or.inr (hw _ (List.mem_of_getElem? (i := 66) rfl))) (Or.inr (hw _ (List.mem_of_getElem? (i := 59) rfl))) (by decide) (t := (.object "com/example/crosstide/crosstide/book/Side")) (t' := (.object "java/lang/String")) (by decide) (by decide))))
  have f26 : Exa Z h18 a "com/example/crosstide/crosstide/engine/Order" := (f20.wr W18)
  refine g_putF X21 hx hZ hown (host := "") (Or.inl (hw _ (List.mem_of_getElem? (i := 65) rfl))) Via.refl eh21 f25 f26 (Or.inr ⟨(hw _ (List.mem_of_getElem? (i := 66) rfl)), rfl, hnm⟩) (hw _ (List.mem_of_getElem? (i := 1) rfl)) (ty := (.object "com/example/crosstide/crosstide/book/Side")) (by decide) rfl rfl (hb hby d_prog_39_m_1_38) rfl fun T24 h24 X24 e24 W24 F24 => ?_
  have kk24 : Keep h0 h24 [a] := kk18.wr W24 (Or.inl (by simp))
  have N24 := Fr.snoc X24 N21 g_a
  have Z24 : n0 ≤ h24.size := by rw [W24.size]; exact Z18
  refine g_aloadN X24 hx (hb hby d_prog_39_m_1_41) rfl rfl rfl ?_
  refine g_aloadN X24 hx (hb hby d_prog_39_m_1_42) rfl rfl rfl ?_
  have f28 : Fld Z h24 o "com/example/crosstide/crosstide/engine/NewOrder" "quantity" "J" (.long q1) := (((((F_quantity_o.other W2 (Or.inl (Ne.symm ne_a_o))).other W6 (Or.inl (Ne.symm ne_a_o))).other W12 (Or.inl (Ne.symm ne_a_o))).other W18 (Or.inl (Ne.symm ne_a_o))).other W24 (Or.inl (Ne.symm ne_a_o)))
  have f29 : Exa Z h24 o "com/example/crosstide/crosstide/engine/NewOrder" := (f23.wr W24)
  refine g_virtual X24 hx hZ hown (hw _ (List.mem_of_getElem? (i := 67) rfl)) (hw _ (List.mem_of_getElem? (i := 68) rfl)) (notFace_of_selects (args := #[]) (mvT hZ (hw _ (List.mem_of_getElem? (i := 70) rfl)))) (hw _ (List.mem_of_getElem? (i := 70) rfl)) (hw _ (List.mem_of_getElem? (i := 69) rfl)) (hw _ (List.mem_of_getElem? (i := 5) rfl)) (hw _ (List.mem_of_getElem? (i := 71) rfl)) (by decide) (a := o) f29 (rm_nquantity l Z a0 hw o q1 h24 n0 Z24 f28) (by rw [hml]; rfl) e24 [] rfl rfl (W := 1) (Nat.le_of_eq rfl) (by decide) (by decide) (by decide) (by decide) (lenOf pd_4 rfl) (hb hby d_prog_39_m_1_43) rfl fun v27 T27 L27 X27 hQ27 => ?_
  obtain ⟨rfl, Nq27, eh27⟩ := hQ27
  have N27 := Fr.app N24 Nq27
  show Ga _ _ _ _ _ _ _ _ _ _ _ [(.long q1), (.ref a)]
  have f31 : Fld Z h24 a "com/example/crosstide/crosstide/engine/Order" "quantity" "J" (.long (0 : Int64)) := (((((F_quantity_a.other W2 (Or.inr (slot_ne (Or.inl (hw _ (List.mem_of_getElem? (i := 73) rfl))) (Or.inr (hw _ (List.mem_of_getElem? (i := 38) rfl))) (by decide) (t := .long) (t' := .long) (by decide) (by decide)))).other W6 (Or.inr (slot_ne (Or.inl (hw _ (List.mem_of_getElem? (i := 73) rfl))) (Or.inr (hw _ (List.mem_of_getElem? (i := 45) rfl))) (by decide) (t := .long) (t' := (.object "com/example/crosstide/crosstide/engine/Owner")) (by decide) (by decide)))).other W12 (Or.inr (slot_ne (Or.inl (hw _ (List.mem_of_getElem? (i := 73) rfl))) (Or.inl (hw _ (List.mem_of_getElem? (i := 52) rfl))) (by decide) (t := .long) (t' := (.object "java/lang/String")) (by decide) (by decide)))).other W18 (Or.inr (slot_ne (Or.inl (hw _ (List.mem_of_getElem? (i := 73) rfl))) (Or.inr (hw _ (List.mem_of_getElem? (i := 59) rfl))) (by decide) (t := .long) (t' := (.object "java/lang/String")) (by decide) (by decide)))).other W24 (Or.inr (slot_ne (Or.inl (hw _ (List.mem_of_getElem? (i := 73) rfl))) (Or.inr (hw _ (List.mem_of_getElem? (i := 66) rfl))) (by decide) (t := .long) (t' := (.object "com/example/crosstide/crosstide/book/Side")) (by decide) (by decide))))
  have f32 : Exa Z h24 a "com/example/crosstide/crosstide/engine/Order" := (f26.wr W24)
  refine g_putF X27 hx hZ hown (host := "") (Or.inl (hw _ (List.mem_of_getElem? (i := 72) rfl))) Via.refl eh27 f31 f32 (Or.inl (hw _ (List.mem_of_getElem? (i := 73) rfl))) (hw _ (List.mem_of_getElem? (i := 1) rfl)) (ty := .long) (by decide) rfl rfl (hb hby d_prog_39_m_1_46) rfl fun T30 h30 X30 e30 W30 F30 => ?_
  have kk30 : Keep h0 h30 [a] := kk24.wr W30 (Or.inl (by simp))
  have N30 := Fr.snoc X30 N27 g_a
  have Z30 : n0 ≤ h30.size := by rw [W30.size]; exact Z24
  refine g_aloadN X30 hx (hb hby d_prog_39_m_1_49) rfl rfl rfl ?_
  refine g_aloadN X30 hx (hb hby d_prog_39_m_1_50) rfl rfl rfl ?_
  have f34 : Fld Z h30 o "com/example/crosstide/crosstide/engine/NewOrder" "quantity" "J" (.long q1) := (f28.other W30 (Or.inl (Ne.symm ne_a_o)))
  have f35 : Exa Z h30 o "com/example/crosstide/crosstide/engine/NewOrder" := (f29.wr W30)
  refine g_virtual X30 hx hZ hown (hw _ (List.mem_of_getElem? (i := 67) rfl)) (hw _ (List.mem_of_getElem? (i := 68) rfl)) (notFace_of_selects (args := #[]) (mvT hZ (hw _ (List.mem_of_getElem? (i := 70) rfl)))) (hw _ (List.mem_of_getElem? (i := 70) rfl)) (hw _ (List.mem_of_getElem? (i := 69) rfl)) (hw _ (List.mem_of_getElem? (i := 5) rfl)) (hw _ (List.mem_of_getElem? (i := 71) rfl)) (by decide) (a := o) f35 (rm_nquantity l Z a0 hw o q1 h30 n0 Z30 f34) (by rw [hml]; rfl) e30 [] rfl rfl (W := 1) (Nat.le_of_eq rfl) (by decide) (by decide) (by decide) (by decide) (lenOf pd_4 rfl) (hb hby d_prog_39_m_1_51) rfl fun v33 T33 L33 X33 hQ33 => ?_
  obtain ⟨rfl, Nq33, eh33⟩ := hQ33
  have N33 := Fr.app N30 Nq33
  show Ga _ _ _ _ _ _ _ _ _ _ _ [(.long q1), (.ref a)]
  have f37 : Fld Z h30 a "com/example/crosstide/crosstide/engine/Order" "leavesQty" "J" (.long (0 : Int64)) := ((((((F_leavesQty_a.other W2 (Or.inr (slot_ne (Or.inl (hw _ (List.mem_of_getElem? (i := 75) rfl))) (Or.inr (hw _ (List.mem_of_getElem? (i := 38) rfl))) (by decide) (t := .long) (t' := .long) (by decide) (by decide)))).other W6 (Or.inr (slot_ne (Or.inl (hw _ (List.mem_of_getElem? (i := 75) rfl))) (Or.inr (hw _ (List.mem_of_getElem? (i := 45) rfl))) (by decide) (t := .long) (t' := (.object "com/example/crosstide/crosstide/engine/Owner")) (by decide) (by decide)))).other W12 (Or.inr (slot_ne (Or.inl (hw _ (List.mem_of_getElem? (i := 75) rfl))) (Or.inl (hw _ (List.mem_of_getElem? (i := 52) rfl))) (by decide) (t := .long) (t' := (.object "java/lang/String")) (by decide) (by decide)))).other W18 (Or.inr (slot_ne (Or.inl (hw _ (List.mem_of_getElem? (i := 75) rfl))) (Or.inr (hw _ (List.mem_of_getElem? (i := 59) rfl))) (by decide) (t := .long) (t' := (.object "java/lang/String")) (by decide) (by decide)))).other W24 (Or.inr (slot_ne (Or.inl (hw _ (List.mem_of_getElem? (i := 75) rfl))) (Or.inr (hw _ (List.mem_of_getElem? (i := 66) rfl))) (by decide) (t := .long) (t' := (.object "com/example/crosstide/crosstide/book/Side")) (by decide) (by decide)))).other W30 (Or.inr (slot_ne (Or.inl (hw _ (List.mem_of_getElem? (i := 75) rfl))) (Or.inl (hw _ (List.mem_of_getElem? (i := 73) rfl))) (by decide) (t := .long) (t' := .long) (by decide) (by decide))))
  have f38 : Exa Z h30 a "com/example/crosstide/crosstide/engine/Order" := (f32.wr W30)
  refine g_putF X33 hx hZ hown (host := "") (Or.inl (hw _ (List.mem_of_getElem? (i := 74) rfl))) Via.refl eh33 f37 f38 (Or.inl (hw _ (List.mem_of_getElem? (i := 75) rfl))) (hw _ (List.mem_of_getElem? (i := 1) rfl)) (ty := .long) (by decide) rfl rfl (hb hby d_prog_39_m_1_54) rfl fun T36 h36 X36 e36 W36 F36 => ?_
  have kk36 : Keep h0 h36 [a] := kk30.wr W36 (Or.inl (by simp))
  have N36 := Fr.snoc X36 N33 g_a
  have Z36 : n0 ≤ h36.size := by rw [W36.size]; exact Z30
  refine g_aloadN X36 hx (hb hby d_prog_39_m_1_57) rfl rfl rfl ?_
  refine g_aloadN X36 hx (hb hby d_prog_39_m_1_58) rfl rfl rfl ?_
  have f40 : Fld Z h36 o "com/example/crosstide/crosstide/engine/NewOrder" "price" "J" (.long q2) := (((((((F_price_o.other W2 (Or.inl (Ne.symm ne_a_o))).other W6 (Or.inl (Ne.symm ne_a_o))).other W12 (Or.inl (Ne.symm ne_a_o))).other W18 (Or.inl (Ne.symm ne_a_o))).other W24 (Or.inl (Ne.symm ne_a_o))).other W30 (Or.inl (Ne.symm ne_a_o))).other W36 (Or.inl (Ne.symm ne_a_o)))
  have f41 : Exa Z h36 o "com/example/crosstide/crosstide/engine/NewOrder" := (f35.wr W36)
  refine g_virtual X36 hx hZ hown (hw _ (List.mem_of_getElem? (i := 76) rfl)) (hw _ (List.mem_of_getElem? (i := 77) rfl)) (notFace_of_selects (args := #[]) (mvT hZ (hw _ (List.mem_of_getElem? (i := 79) rfl)))) (hw _ (List.mem_of_getElem? (i := 79) rfl)) (hw _ (List.mem_of_getElem? (i := 78) rfl)) (hw _ (List.mem_of_getElem? (i := 5) rfl)) (hw _ (List.mem_of_getElem? (i := 80) rfl)) (by decide) (a := o) f41 (rm_nprice l Z a0 hw o q2 h36 n0 Z36 f40) (by rw [hml]; rfl) e36 [] rfl rfl (W := 1) (Nat.le_of_eq rfl) (by decide) (by decide) (by decide) (by decide) (lenOf pd_4 rfl) (hb hby d_prog_39_m_1_59) rfl fun v39 T39 L39 X39 hQ39 => ?_
  obtain ⟨rfl, Nq39, eh39⟩ := hQ39
  have N39 := Fr.app N36 Nq39
  show Ga _ _ _ _ _ _ _ _ _ _ _ [(.long q2), (.ref a)]
  have f43 : Fld Z h36 a "com/example/crosstide/crosstide/engine/Order" "price" "J" (.long (0 : Int64)) := (((((((F_price_a.other W2 (Or.inr (slot_ne (Or.inl (hw _ (List.mem_of_getElem? (i := 82) rfl))) (Or.inr (hw _ (List.mem_of_getElem? (i := 38) rfl))) (by decide) (t := .long) (t' := .long) (by decide) (by decide)))).other W6 (Or.inr (slot_ne (Or.inl (hw _ (List.mem_of_getElem? (i := 82) rfl))) (Or.inr (hw _ (List.mem_of_getElem? (i := 45) rfl))) (by decide) (t := .long) (t' := (.object "com/example/crosstide/crosstide/engine/Owner")) (by decide) (by decide)))).other W12 (Or.inr (slot_ne (Or.inl (hw _ (List.mem_of_getElem? (i := 82) rfl))) (Or.inl (hw _ (List.mem_of_getElem? (i := 52) rfl))) (by decide) (t := .long) (t' := (.object "java/lang/String")) (by decide) (by decide)))).other W18 (Or.inr (slot_ne (Or.inl (hw _ (List.mem_of_getElem? (i := 82) rfl))) (Or.inr (hw _ (List.mem_of_getElem? (i := 59) rfl))) (by decide) (t := .long) (t' := (.object "java/lang/String")) (by decide) (by decide)))).other W24 (Or.inr (slot_ne (Or.inl (hw _ (List.mem_of_getElem? (i := 82) rfl))) (Or.inr (hw _ (List.mem_of_getElem? (i := 66) rfl))) (by decide) (t := .long) (t' := (.object "com/example/crosstide/crosstide/book/Side")) (by decide) (by decide)))).other W30 (Or.inr (slot_ne (Or.inl (hw _ (List.mem_of_getElem? (i := 82) rfl))) (Or.inl (hw _ (List.mem_of_getElem? (i := 73) rfl))) (by decide) (t := .long) (t' := .long) (by decide) (by decide)))).other W36 (Or.inr (slot_ne (Or.inl (hw _ (List.mem_of_getElem? (i := 82) rfl))) (Or.inl (hw _ (List.mem_of_getElem? (i := 75) rfl))) (by decide) (t := .long) (t' := .long) (by decide) (by decide))))
  have f44 : Exa Z h36 a "com/example/crosstide/crosstide/engine/Order" := (f38.wr W36)
  refine g_putF X39 hx hZ hown (host := "") (Or.inl (hw _ (List.mem_of_getElem? (i := 81) rfl))) Via.refl eh39 f43 f44 (Or.inl (hw _ (List.mem_of_getElem? (i := 82) rfl))) (hw _ (List.mem_of_getElem? (i := 1) rfl)) (ty := .long) (by decide) rfl rfl (hb hby d_prog_39_m_1_62) rfl fun T42 h42 X42 e42 W42 F42 => ?_
  have kk42 : Keep h0 h42 [a] := kk36.wr W42 (Or.inl (by simp))
  have N42 := Fr.snoc X42 N39 g_a
  have Z42 : n0 ≤ h42.size := by rw [W42.size]; exact Z36
  refine g_aloadN X42 hx (hb hby d_prog_39_m_1_65) rfl rfl rfl ?_
  refine g_aloadN X42 hx (hb hby d_prog_39_m_1_66) rfl rfl rfl ?_
  have f46 : Fld Z h42 o "com/example/crosstide/crosstide/engine/NewOrder" "timeInForce" "Lcom/example/crosstide/crosstide/engine/TimeInForce;" .null := ((((((((F_timeInForce_o.other W2 (Or.inl (Ne.symm ne_a_o))).other W6 (Or.inl (Ne.symm ne_a_o))).other W12 (Or.inl (Ne.symm ne_a_o))).other W18 (Or.inl (Ne.symm ne_a_o))).other W24 (Or.inl (Ne.symm ne_a_o))).other W30 (Or.inl (Ne.symm ne_a_o))).other W36 (Or.inl (Ne.symm ne_a_o))).other W42 (Or.inl (Ne.symm ne_a_o)))
  have f47 : Exa Z h42 o "com/example/crosstide/crosstide/engine/NewOrder" := (f41.wr W42)
  refine g_virtual X42 hx hZ hown (hw _ (List.mem_of_getElem? (i := 83) rfl)) (hw _ (List.mem_of_getElem? (i := 84) rfl)) (notFace_of_selects (args := #[]) (mvT hZ (hw _ (List.mem_of_getElem? (i := 86) rfl)))) (hw _ (List.mem_of_getElem? (i := 86) rfl)) (hw _ (List.mem_of_getElem? (i := 85) rfl)) (hw _ (List.mem_of_getElem? (i := 5) rfl)) (hw _ (List.mem_of_getElem? (i := 87) rfl)) (by decide) (a := o) f47 (rm_ntimeInForce l Z a0 hw o h42 n0 Z42 f46) (by rw [hml]; rfl) e42 [] rfl rfl (W := 1) (Nat.le_of_eq rfl) (by decide) (by decide) (by decide) (by decide) (lenOf pd_5 rfl) (hb hby d_prog_39_m_1_67) rfl fun v45 T45 L45 X45 hQ45 => ?_
  obtain ⟨rfl, Nq45, eh45⟩ := hQ45
  have N45 := Fr.app N42 Nq45
  show Ga _ _ _ _ _ _ _ _ _ _ _ [.null, (.ref a)]
  have f49 : Fld Z h42 a "com/example/crosstide/crosstide/engine/Order" "timeInForce" "Lcom/example/crosstide/crosstide/engine/TimeInForce;" .null := ((((((((F_timeInForce_a.other W2 (Or.inr (slot_ne (Or.inr (hw _ (List.mem_of_getElem? (i := 89) rfl))) (Or.inr (hw _ (List.mem_of_getElem? (i := 38) rfl))) (by decide) (t := (.object "com/example/crosstide/crosstide/engine/TimeInForce")) (t' := .long) (by decide) (by decide)))).other W6 (Or.inr (slot_ne (Or.inr (hw _ (List.mem_of_getElem? (i := 89) rfl))) (Or.inr (hw _ (List.mem_of_getElem? (i := 45) rfl))) (by decide) (t := (.object "com/example/crosstide/crosstide/engine/TimeInForce")) (t' := (.object "com/example/crosstide/crosstide/engine/Owner")) (by decide) (by decide)))).other W12 (Or.inr (slot_ne (Or.inr (hw _ (List.mem_of_getElem? (i := 89) rfl))) (Or.inl (hw _ (List.mem_of_getElem? (i := 52) rfl))) (by decide) (t := (.object "com/example/crosstide/crosstide/engine/TimeInForce")) (t' := (.object "java/lang/String")) (by decide) (by decide)))).other W18 (Or.inr (slot_ne (Or.inr (hw _ (List.mem_of_getElem? (i := 89) rfl))) (Or.inr (hw _ (List.mem_of_getElem? (i := 59) rfl))) (by decide) (t := (.object "com/example/crosstide/crosstide/engine/TimeInForce")) (t' := (.object "java/lang/String")) (by decide) (by decide)))).other W24 (Or.inr (slot_ne (Or.inr (hw _ (List.mem_of_getElem? (i := 89) rfl))) (Or.inr (hw _ (List.mem_of_getElem? (i := 66) rfl))) (by decide) (t := (.object "com/example/crosstide/crosstide/engine/TimeInForce")) (t' := (.object "com/example/crosstide/crosstide/book/Side")) (by decide) (by decide)))).other W30 (Or.inr (slot_ne (Or.inr (hw _ (List.mem_of_getElem? (i := 89) rfl))) (Or.inl (hw _ (List.mem_of_getElem? (i := 73) rfl))) (by decide) (t := (.object "com/example/crosstide/crosstide/engine/TimeInForce")) (t' := .long) (by decide) (by decide)))).other W36 (Or.inr (slot_ne (Or.inr (hw _ (List.mem_of_getElem? (i := 89) rfl))) (Or.inl (hw _ (List.mem_of_getElem? (i := 75) rfl))) (by decide) (t := (.object "com/example/crosstide/crosstide/engine/TimeInForce")) (t' := .long) (by decide) (by decide)))).other W42 (Or.inr (slot_ne (Or.inr (hw _ (List.mem_of_getElem? (i := 89) rfl))) (Or.inl (hw _ (List.mem_of_getElem? (i := 82) rfl))) (by decide) (t := (.object "com/example/crosstide/crosstide/engine/TimeInForce")) (t' := .long) (by decide) (by decide))))
  have f50 : Exa Z h42 a "com/example/crosstide/crosstide/engine/Order" := (f44.wr W42)
  refine g_putF X45 hx hZ hown (host := "") (Or.inl (hw _ (List.mem_of_getElem? (i := 88) rfl))) Via.refl eh45 f49 f50 (Or.inr ⟨(hw _ (List.mem_of_getElem? (i := 89) rfl)), rfl, hnm⟩) (hw _ (List.mem_of_getElem? (i := 1) rfl)) (ty := (.object "com/example/crosstide/crosstide/engine/TimeInForce")) (by decide) rfl rfl (hb hby d_prog_39_m_1_70) rfl fun T48 h48 X48 e48 W48 F48 => ?_
  have kk48 : Keep h0 h48 [a] := kk42.wr W48 (Or.inl (by simp))
  have N48 := Fr.snoc X48 N45 g_a
  have Z48 : n0 ≤ h48.size := by rw [W48.size]; exact Z42
  refine g_aloadN X48 hx (hb hby d_prog_39_m_1_73) rfl rfl rfl ?_
  refine g_aloadN X48 hx (hb hby d_prog_39_m_1_74) rfl rfl rfl ?_
  have f52 : Fld Z h48 o "com/example/crosstide/crosstide/engine/NewOrder" "prevention" "Lcom/example/crosstide/crosstide/engine/Prevention;" .null := (((((((((F_prevention_o.other W2 (Or.inl (Ne.symm ne_a_o))).other W6 (Or.inl (Ne.symm ne_a_o))).other W12 (Or.inl (Ne.symm ne_a_o))).other W18 (Or.inl (Ne.symm ne_a_o))).other W24 (Or.inl (Ne.symm ne_a_o))).other W30 (Or.inl (Ne.symm ne_a_o))).other W36 (Or.inl (Ne.symm ne_a_o))).other W42 (Or.inl (Ne.symm ne_a_o))).other W48 (Or.inl (Ne.symm ne_a_o)))
  have f53 : Exa Z h48 o "com/example/crosstide/crosstide/engine/NewOrder" := (f47.wr W48)
  refine g_virtual X48 hx hZ hown (hw _ (List.mem_of_getElem? (i := 90) rfl)) (hw _ (List.mem_of_getElem? (i := 91) rfl)) (notFace_of_selects (args := #[]) (mvT hZ (hw _ (List.mem_of_getElem? (i := 93) rfl)))) (hw _ (List.mem_of_getElem? (i := 93) rfl)) (hw _ (List.mem_of_getElem? (i := 92) rfl)) (hw _ (List.mem_of_getElem? (i := 5) rfl)) (hw _ (List.mem_of_getElem? (i := 94) rfl)) (by decide) (a := o) f53 (rm_nprevention l Z a0 hw o h48 n0 Z48 f52) (by rw [hml]; rfl) e48 [] rfl rfl (W := 1) (Nat.le_of_eq rfl) (by decide) (by decide) (by decide) (by decide) (lenOf pd_6 rfl) (hb hby d_prog_39_m_1_75) rfl fun v51 T51 L51 X51 hQ51 => ?_
  obtain ⟨rfl, Nq51, eh51⟩ := hQ51
  have N51 := Fr.app N48 Nq51
  show Ga _ _ _ _ _ _ _ _ _ _ _ [.null, (.ref a)]
  have f55 : Fld Z h48 a "com/example/crosstide/crosstide/engine/Order" "prevention" "Lcom/example/crosstide/crosstide/engine/Prevention;" .null := (((((((((F_prevention_a.other W2 (Or.inr (slot_ne (Or.inr (hw _ (List.mem_of_getElem? (i := 96) rfl))) (Or.inr (hw _ (List.mem_of_getElem? (i := 38) rfl))) (by decide) (t := (.object "com/example/crosstide/crosstide/engine/Prevention")) (t' := .long) (by decide) (by decide)))).other W6 (Or.inr (slot_ne (Or.inr (hw _ (List.mem_of_getElem? (i := 96) rfl))) (Or.inr (hw _ (List.mem_of_getElem? (i := 45) rfl))) (by decide) (t := (.object "com/example/crosstide/crosstide/engine/Prevention")) (t' := (.object "com/example/crosstide/crosstide/engine/Owner")) (by decide) (by decide)))).other W12 (Or.inr (slot_ne (Or.inr (hw _ (List.mem_of_getElem? (i := 96) rfl))) (Or.inl (hw _ (List.mem_of_getElem? (i := 52) rfl))) (by decide) (t := (.object "com/example/crosstide/crosstide/engine/Prevention")) (t' := (.object "java/lang/String")) (by decide) (by decide)))).other W18 (Or.inr (slot_ne (Or.inr (hw _ (List.mem_of_getElem? (i := 96) rfl))) (Or.inr (hw _ (List.mem_of_getElem? (i := 59) rfl))) (by decide) (t := (.object "com/example/crosstide/crosstide/engine/Prevention")) (t' := (.object "java/lang/String")) (by decide) (by decide)))).other W24 (Or.inr (slot_ne (Or.inr (hw _ (List.mem_of_getElem? (i := 96) rfl))) (Or.inr (hw _ (List.mem_of_getElem? (i := 66) rfl))) (by decide) (t := (.object "com/example/crosstide/crosstide/engine/Prevention")) (t' := (.object "com/example/crosstide/crosstide/book/Side")) (by decide) (by decide)))).other W30 (Or.inr (slot_ne (Or.inr (hw _ (List.mem_of_getElem? (i := 96) rfl))) (Or.inl (hw _ (List.mem_of_getElem? (i := 73) rfl))) (by decide) (t := (.object "com/example/crosstide/crosstide/engine/Prevention")) (t' := .long) (by decide) (by decide)))).other W36 (Or.inr (slot_ne (Or.inr (hw _ (List.mem_of_getElem? (i := 96) rfl))) (Or.inl (hw _ (List.mem_of_getElem? (i := 75) rfl))) (by decide) (t := (.object "com/example/crosstide/crosstide/engine/Prevention")) (t' := .long) (by decide) (by decide)))).other W42 (Or.inr (slot_ne (Or.inr (hw _ (List.mem_of_getElem? (i := 96) rfl))) (Or.inl (hw _ (List.mem_of_getElem? (i := 82) rfl))) (by decide) (t := (.object "com/example/crosstide/crosstide/engine/Prevention")) (t' := .long) (by decide) (by decide)))).other W48 (Or.inr (slot_ne (Or.inr (hw _ (List.mem_of_getElem? (i := 96) rfl))) (Or.inr (hw _ (List.mem_of_getElem? (i := 89) rfl))) (by decide) (t := (.object "com/example/crosstide/crosstide/engine/Prevention")) (t' := (.object "com/example/crosstide/crosstide/engine/TimeInForce")) (by decide) (by decide))))
  have f56 : Exa Z h48 a "com/example/crosstide/crosstide/engine/Order" := (f50.wr W48)
  refine g_putF X51 hx hZ hown (host := "") (Or.inl (hw _ (List.mem_of_getElem? (i := 95) rfl))) Via.refl eh51 f55 f56 (Or.inr ⟨(hw _ (List.mem_of_getElem? (i := 96) rfl)), rfl, hnm⟩) (hw _ (List.mem_of_getElem? (i := 1) rfl)) (ty := (.object "com/example/crosstide/crosstide/engine/Prevention")) (by decide) rfl rfl (hb hby d_prog_39_m_1_78) rfl fun T54 h54 X54 e54 W54 F54 => ?_
  have kk54 : Keep h0 h54 [a] := kk48.wr W54 (Or.inl (by simp))
  have N54 := Fr.snoc X54 N51 g_a
  have Z54 : n0 ≤ h54.size := by rw [W54.size]; exact Z48
  have f57 : Exa Z h54 a "com/example/crosstide/crosstide/engine/Order" := (f56.wr W54)
  have f58 : Fld Z h54 a "com/example/crosstide/crosstide/engine/Order" "quantity" "J" (.long q1) := ((((F30.other W36 (Or.inr (slot_ne (Or.inl (hw _ (List.mem_of_getElem? (i := 73) rfl))) (Or.inl (hw _ (List.mem_of_getElem? (i := 75) rfl))) (by decide) (t := .long) (t' := .long) (by decide) (by decide)))).other W42 (Or.inr (slot_ne (Or.inl (hw _ (List.mem_of_getElem? (i := 73) rfl))) (Or.inl (hw _ (List.mem_of_getElem? (i := 82) rfl))) (by decide) (t := .long) (t' := .long) (by decide) (by decide)))).other W48 (Or.inr (slot_ne (Or.inl (hw _ (List.mem_of_getElem? (i := 73) rfl))) (Or.inr (hw _ (List.mem_of_getElem? (i := 89) rfl))) (by decide) (t := .long) (t' := (.object "com/example/crosstide/crosstide/engine/TimeInForce")) (by decide) (by decide)))).other W54 (Or.inr (slot_ne (Or.inl (hw _ (List.mem_of_getElem? (i := 73) rfl))) (Or.inr (hw _ (List.mem_of_getElem? (i := 96) rfl))) (by decide) (t := .long) (t' := (.object "com/example/crosstide/crosstide/engine/Prevention")) (by decide) (by decide))))
  have f59 : Fld Z h54 a "com/example/crosstide/crosstide/engine/Order" "leavesQty" "J" (.long q1) := (((F36.other W42 (Or.inr (slot_ne (Or.inl (hw _ (List.mem_of_getElem? (i := 75) rfl))) (Or.inl (hw _ (List.mem_of_getElem? (i := 82) rfl))) (by decide) (t := .long) (t' := .long) (by decide) (by decide)))).other W48 (Or.inr (slot_ne (Or.inl (hw _ (List.mem_of_getElem? (i := 75) rfl))) (Or.inr (hw _ (List.mem_of_getElem? (i := 89) rfl))) (by decide) (t := .long) (t' := (.object "com/example/crosstide/crosstide/engine/TimeInForce")) (by decide) (by decide)))).other W54 (Or.inr (slot_ne (Or.inl (hw _ (List.mem_of_getElem? (i := 75) rfl))) (Or.inr (hw _ (List.mem_of_getElem? (i := 96) rfl))) (by decide) (t := .long) (t' := (.object "com/example/crosstide/crosstide/engine/Prevention")) (by decide) (by decide))))
  have f60 : Fld Z h54 a "com/example/crosstide/crosstide/engine/Order" "price" "J" (.long q2) := ((F42.other W48 (Or.inr (slot_ne (Or.inl (hw _ (List.mem_of_getElem? (i := 82) rfl))) (Or.inr (hw _ (List.mem_of_getElem? (i := 89) rfl))) (by decide) (t := .long) (t' := (.object "com/example/crosstide/crosstide/engine/TimeInForce")) (by decide) (by decide)))).other W54 (Or.inr (slot_ne (Or.inl (hw _ (List.mem_of_getElem? (i := 82) rfl))) (Or.inr (hw _ (List.mem_of_getElem? (i := 96) rfl))) (by decide) (t := .long) (t' := (.object "com/example/crosstide/crosstide/engine/Prevention")) (by decide) (by decide))))
  have f61 : Fld Z h54 a "com/example/crosstide/crosstide/engine/Order" "cumQty" "J" (.long (0 : Int64)) := ((((((((((F_cumQty_a.other W2 (Or.inr (slot_ne (Or.inl (hw _ (List.mem_of_getElem? (i := 103) rfl))) (Or.inr (hw _ (List.mem_of_getElem? (i := 38) rfl))) (by decide) (t := .long) (t' := .long) (by decide) (by decide)))).other W6 (Or.inr (slot_ne (Or.inl (hw _ (List.mem_of_getElem? (i := 103) rfl))) (Or.inr (hw _ (List.mem_of_getElem? (i := 45) rfl))) (by decide) (t := .long) (t' := (.object "com/example/crosstide/crosstide/engine/Owner")) (by decide) (by decide)))).other W12 (Or.inr (slot_ne (Or.inl (hw _ (List.mem_of_getElem? (i := 103) rfl))) (Or.inl (hw _ (List.mem_of_getElem? (i := 52) rfl))) (by decide) (t := .long) (t' := (.object "java/lang/String")) (by decide) (by decide)))).other W18 (Or.inr (slot_ne (Or.inl (hw _ (List.mem_of_getElem? (i := 103) rfl))) (Or.inr (hw _ (List.mem_of_getElem? (i := 59) rfl))) (by decide) (t := .long) (t' := (.object "java/lang/String")) (by decide) (by decide)))).other W24 (Or.inr (slot_ne (Or.inl (hw _ (List.mem_of_getElem? (i := 103) rfl))) (Or.inr (hw _ (List.mem_of_getElem? (i := 66) rfl))) (by decide) (t := .long) (t' := (.object "com/example/crosstide/crosstide/book/Side")) (by decide) (by decide)))).other W30 (Or.inr (slot_ne (Or.inl (hw _ (List.mem_of_getElem? (i := 103) rfl))) (Or.inl (hw _ (List.mem_of_getElem? (i := 73) rfl))) (by decide) (t := .long) (t' := .long) (by decide) (by decide)))).other W36 (Or.inr (slot_ne (Or.inl (hw _ (List.mem_of_getElem? (i := 103) rfl))) (Or.inl (hw _ (List.mem_of_getElem? (i := 75) rfl))) (by decide) (t := .long) (t' := .long) (by decide) (by decide)))).other W42 (Or.inr (slot_ne (Or.inl (hw _ (List.mem_of_getElem? (i := 103) rfl))) (Or.inl (hw _ (List.mem_of_getElem? (i := 82) rfl))) (by decide) (t := .long) (t' := .long) (by decide) (by decide)))).other W48 (Or.inr (slot_ne (Or.inl (hw _ (List.mem_of_getElem? (i := 103) rfl))) (Or.inr (hw _ (List.mem_of_getElem? (i := 89) rfl))) (by decide) (t := .long) (t' := (.object "com/example/crosstide/crosstide/engine/TimeInForce")) (by decide) (by decide)))).other W54 (Or.inr (slot_ne (Or.inl (hw _ (List.mem_of_getElem? (i := 103) rfl))) (Or.inr (hw _ (List.mem_of_getElem? (i := 96) rfl))) (by decide) (t := .long) (t' := (.object "com/example/crosstide/crosstide/engine/Prevention")) (by decide) (by decide))))
  have f62 : Fld Z h54 a "com/example/crosstide/crosstide/engine/Order" "notional" "J" (.long (0 : Int64)) := ((((((((((F_notional_a.other W2 (Or.inr (slot_ne (Or.inl (hw _ (List.mem_of_getElem? (i := 105) rfl))) (Or.inr (hw _ (List.mem_of_getElem? (i := 38) rfl))) (by decide) (t := .long) (t' := .long) (by decide) (by decide)))).other W6 (Or.inr (slot_ne (Or.inl (hw _ (List.mem_of_getElem? (i := 105) rfl))) (Or.inr (hw _ (List.mem_of_getElem? (i := 45) rfl))) (by decide) (t := .long) (t' := (.object "com/example/crosstide/crosstide/engine/Owner")) (by decide) (by decide)))).other W12 (Or.inr (slot_ne (Or.inl (hw _ (List.mem_of_getElem? (i := 105) rfl))) (Or.inl (hw _ (List.mem_of_getElem? (i := 52) rfl))) (by decide) (t := .long) (t' := (.object "java/lang/String")) (by decide) (by decide)))).other W18 (Or.inr (slot_ne (Or.inl (hw _ (List.mem_of_getElem? (i := 105) rfl))) (Or.inr (hw _ (List.mem_of_getElem? (i := 59) rfl))) (by decide) (t := .long) (t' := (.object "java/lang/String")) (by decide) (by decide)))).other W24 (Or.inr (slot_ne (Or.inl (hw _ (List.mem_of_getElem? (i := 105) rfl))) (Or.inr (hw _ (List.mem_of_getElem? (i := 66) rfl))) (by decide) (t := .long) (t' := (.object "com/example/crosstide/crosstide/book/Side")) (by decide) (by decide)))).other W30 (Or.inr (slot_ne (Or.inl (hw _ (List.mem_of_getElem? (i := 105) rfl))) (Or.inl (hw _ (List.mem_of_getElem? (i := 73) rfl))) (by decide) (t := .long) (t' := .long) (by decide) (by decide)))).other W36 (Or.inr (slot_ne (Or.inl (hw _ (List.mem_of_getElem? (i := 105) rfl))) (Or.inl (hw _ (List.mem_of_getElem? (i := 75) rfl))) (by decide) (t := .long) (t' := .long) (by decide) (by decide)))).other W42 (Or.inr (slot_ne (Or.inl (hw _ (List.mem_of_getElem? (i := 105) rfl))) (Or.inl (hw _ (List.mem_of_getElem? (i := 82) rfl))) (by decide) (t := .long) (t' := .long) (by decide) (by decide)))).other W48 (Or.inr (slot_ne (Or.inl (hw _ (List.mem_of_getElem? (i := 105) rfl))) (Or.inr (hw _ (List.mem_of_getElem? (i := 89) rfl))) (by decide) (t := .long) (t' := (.object "com/example/crosstide/crosstide/engine/TimeInForce")) (by decide) (by decide)))).other W54 (Or.inr (slot_ne (Or.inl (hw _ (List.mem_of_getElem? (i := 105) rfl))) (Or.inr (hw _ (List.mem_of_getElem? (i := 96) rfl))) (by decide) (t := .long) (t' := (.object "com/example/crosstide/crosstide/engine/Prevention")) (by decide) (by decide))))
  exact g_ret X54 hx hret hlk (hb hby d_prog_39_m_1_81) (by decide) (by decide) (by rw [e54]; exact ⟨rfl, N54, kk54, f57, f58, f59, f60, f61, f62⟩)
def Q_fill (Z : State) (a : Addr) (x1 : Int64) (x2 : Int64) (y1 : Int64) (y2 : Int64) (y3 : Int64) (y4 : Int64) (y5 : Int64) (h0 : Heap) (n0 : Nat) (v : Option Value) (h : Heap) (L : List Loc) : Prop := v = none ∧ Fr n0 L ∧ Keep h0 h [a] ∧ Exa Z h a "com/example/crosstide/crosstide/engine/Order" ∧ Fld Z h a "com/example/crosstide/crosstide/engine/Order" "quantity" "J" (.long y1) ∧ Fld Z h a "com/example/crosstide/crosstide/engine/Order" "price" "J" (.long y2) ∧ Fld Z h a "com/example/crosstide/crosstide/engine/Order" "cumQty" "J" (.long (y3 + x1)) ∧ Fld Z h a "com/example/crosstide/crosstide/engine/Order" "leavesQty" "J" (.long (y4 - x1)) ∧ Fld Z h a "com/example/crosstide/crosstide/engine/Order" "notional" "J" (.long (y5 + (x1 * x2)))
theorem ef_fill (m : MethodId) (x0 : Addr) (x1 : Int64) (x2 : Int64) : entryFrame m #[(.ref x0), (.long x1), (.long x2)] 5 = mkF m 0 #[.val (.ref x0), .val (.long x1), .second, .val (.long x2), .second] [] := by first | (simp [entryFrame, mkF, argsToLocals, Value.category]; done) | rfl
set_option maxRecDepth 65536 in
set_option maxHeartbeats 40000000 in
theorem rm_fill (l : Launch) (Z : State) (a0 : Array Value) (hw : ∀ d ∈ tables_1, d.before a0 Z = true) (a : Addr) (x1 : Int64) (x2 : Int64) (y1 : Int64) (y2 : Int64) (y3 : Int64) (y4 : Int64) (y5 : Int64) (h0 : Heap) (n0 : Nat) (Z0 : n0 ≤ h0.size) (F_quantity_a : Fld Z h0 a "com/example/crosstide/crosstide/engine/Order" "quantity" "J" (.long y1)) (F_price_a : Fld Z h0 a "com/example/crosstide/crosstide/engine/Order" "price" "J" (.long y2)) (F_cumQty_a : Fld Z h0 a "com/example/crosstide/crosstide/engine/Order" "cumQty" "J" (.long y3)) (F_leavesQty_a : Fld Z h0 a "com/example/crosstide/crosstide/engine/Order" "leavesQty" "J" (.long y4)) (F_notional_a : Fld Z h0 a "com/example/crosstide/crosstide/engine/Order" "notional" "J" (.long y5)) (E_a : Exa Z h0 a "com/example/crosstide/crosstide/engine/Order") (g_a : n0 ≤ a) :
    Ct l Z (⟨"com/example/crosstide/crosstide/engine/Order", "fill", "(JJ)V"⟩ : MethodName) prog_39_method_16_code 5 none [] ({ frames := 0, cells := 0, slots := 0, locals := 0 } : Room) #[(.ref a), (.long x1), (.long x2)] h0 (Q_fill Z a x1 x2 y1 y2 y3 y4 y5 h0 n0) := by
  refine own_body (plainFor_of_name pn_2) (fun m => ef_fill m a x1 x2) ?_
  intro p e s m below meth c T0 hx hby hml hZ hown hnm hret hlk X0 e0
  have N0 := Fr.nil n0
  refine g_aloadN X0 hx (hb hby d_prog_39_m_16_0) rfl rfl rfl ?_
  refine g_dup X0 hx (hb hby d_prog_39_m_16_1) rfl rfl ?_
  refine g_getF X0 hx hZ hown (host := "") (Or.inl (hw _ (List.mem_of_getElem? (i := 102) rfl))) Via.refl e0 F_cumQty_a (hb hby d_prog_39_m_16_2) rfl fun T1 X1 e1 => ?_
  refine g_lloadN X1 hx (hb hby d_prog_39_m_16_5) rfl rfl ?_
  refine g_ladd X1 hx (hb hby d_prog_39_m_16_6) rfl rfl ?_
  refine g_putF X1 hx hZ hown (host := "") (Or.inl (hw _ (List.mem_of_getElem? (i := 102) rfl))) Via.refl e1 F_cumQty_a E_a (Or.inl (hw _ (List.mem_of_getElem? (i := 103) rfl))) (hw _ (List.mem_of_getElem? (i := 1) rfl)) (ty := .long) (by decide) rfl rfl (hb hby d_prog_39_m_16_7) rfl fun T2 h2 X2 e2 W2 F2 => ?_
  have kk2 : Keep h0 h2 [a] := (Keep.refl h0 [a]).wr W2 (Or.inl (by simp))
  have N2 := Fr.snoc X2 N0 g_a
  have Z2 : n0 ≤ h2.size := by rw [W2.size]; exact Z0
  refine g_aloadN X2 hx (hb hby d_prog_39_m_16_10) rfl rfl rfl ?_
  refine g_dup X2 hx (hb hby d_prog_39_m_16_11) rfl rfl ?_
  have f4 : Fld Z h2 a "com/example/crosstide/crosstide/engine/Order" "leavesQty" "J" (.long y4) := (F_leavesQty_a.other W2 (Or.inr (slot_ne (Or.inl (hw _ (List.mem_of_getElem? (i := 75) rfl))) (Or.inl (hw _ (List.mem_of_getElem? (i := 103) rfl))) (by decide) (t := .long) (t' := .long) (by decide) (by decide))))
  refine g_getF X2 hx hZ hown (host := "") (Or.inl (hw _ (List.mem_of_getElem? (i := 74) rfl))) Via.refl e2 f4 (hb hby d_prog_39_m_16_12) rfl fun T3 X3 e3 => ?_
  refine g_lloadN X3 hx (hb hby d_prog_39_m_16_15) rfl rfl ?_
  refine g_lsub X3 hx (hb hby d_prog_39_m_16_16) rfl rfl ?_
  have f6 : Exa Z h2 a "com/example/crosstide/crosstide/engine/Order" := (E_a.wr W2)
  refine g_putF X3 hx hZ hown (host := "") (Or.inl (hw _ (List.mem_of_getElem? (i := 74) rfl))) Via.refl e3 f4 f6 (Or.inl (hw _ (List.mem_of_getElem? (i := 75) rfl))) (hw _ (List.mem_of_getElem? (i := 1) rfl)) (ty := .long) (by decide) rfl rfl (hb hby d_prog_39_m_16_17) rfl fun T5 h5 X5 e5 W5 F5 => ?_
  have kk5 : Keep h0 h5 [a] := kk2.wr W5 (Or.inl (by simp))
  have N5 := Fr.snoc X5 N2 g_a
  have Z5 : n0 ≤ h5.size := by rw [W5.size]; exact Z2
  refine g_aloadN X5 hx (hb hby d_prog_39_m_16_20) rfl rfl rfl ?_
  refine g_dup X5 hx (hb hby d_prog_39_m_16_21) rfl rfl ?_
  have f8 : Fld Z h5 a "com/example/crosstide/crosstide/engine/Order" "notional" "J" (.long y5) := ((F_notional_a.other W2 (Or.inr (slot_ne (Or.inl (hw _ (List.mem_of_getElem? (i := 105) rfl))) (Or.inl (hw _ (List.mem_of_getElem? (i := 103) rfl))) (by decide) (t := .long) (t' := .long) (by decide) (by decide)))).other W5 (Or.inr (slot_ne (Or.inl (hw _ (List.mem_of_getElem? (i := 105) rfl))) (Or.inl (hw _ (List.mem_of_getElem? (i := 75) rfl))) (by decide) (t := .long) (t' := .long) (by decide) (by decide))))
  refine g_getF X5 hx hZ hown (host := "") (Or.inl (hw _ (List.mem_of_getElem? (i := 104) rfl))) Via.refl e5 f8 (hb hby d_prog_39_m_16_22) rfl fun T7 X7 e7 => ?_
  refine g_lloadN X7 hx (hb hby d_prog_39_m_16_25) rfl rfl ?_
  refine g_lloadN X7 hx (hb hby d_prog_39_m_16_26) rfl rfl ?_
  refine g_lmul X7 hx (hb hby d_prog_39_m_16_27) rfl rfl ?_
  refine g_ladd X7 hx (hb hby d_prog_39_m_16_28) rfl rfl ?_
  have f10 : Exa Z h5 a "com/example/crosstide/crosstide/engine/Order" := (f6.wr W5)
  refine g_putF X7 hx hZ hown (host := "") (Or.inl (hw _ (List.mem_of_getElem? (i := 104) rfl))) Via.refl e7 f8 f10 (Or.inl (hw _ (List.mem_of_getElem? (i := 105) rfl))) (hw _ (List.mem_of_getElem? (i := 1) rfl)) (ty := .long) (by decide) rfl rfl (hb hby d_prog_39_m_16_29) rfl fun T9 h9 X9 e9 W9 F9 => ?_
  have kk9 : Keep h0 h9 [a] := kk5.wr W9 (Or.inl (by simp))
  have N9 := Fr.snoc X9 N5 g_a
  have Z9 : n0 ≤ h9.size := by rw [W9.size]; exact Z5
  have f11 : Exa Z h9 a "com/example/crosstide/crosstide/engine/Order" := (f10.wr W9)
  have f12 : Fld Z h9 a "com/example/crosstide/crosstide/engine/Order" "quantity" "J" (.long y1) := (((F_quantity_a.other W2 (Or.inr (slot_ne (Or.inl (hw _ (List.mem_of_getElem? (i := 73) rfl))) (Or.inl (hw _ (List.mem_of_getElem? (i := 103) rfl))) (by decide) (t := .long) (t' := .long) (by decide) (by decide)))).other W5 (Or.inr (slot_ne (Or.inl (hw _ (List.mem_of_getElem? (i := 73) rfl))) (Or.inl (hw _ (List.mem_of_getElem? (i := 75) rfl))) (by decide) (t := .long) (t' := .long) (by decide) (by decide)))).other W9 (Or.inr (slot_ne (Or.inl (hw _ (List.mem_of_getElem? (i := 73) rfl))) (Or.inl (hw _ (List.mem_of_getElem? (i := 105) rfl))) (by decide) (t := .long) (t' := .long) (by decide) (by decide))))
  have f13 : Fld Z h9 a "com/example/crosstide/crosstide/engine/Order" "price" "J" (.long y2) := (((F_price_a.other W2 (Or.inr (slot_ne (Or.inl (hw _ (List.mem_of_getElem? (i := 82) rfl))) (Or.inl (hw _ (List.mem_of_getElem? (i := 103) rfl))) (by decide) (t := .long) (t' := .long) (by decide) (by decide)))).other W5 (Or.inr (slot_ne (Or.inl (hw _ (List.mem_of_getElem? (i := 82) rfl))) (Or.inl (hw _ (List.mem_of_getElem? (i := 75) rfl))) (by decide) (t := .long) (t' := .long) (by decide) (by decide)))).other W9 (Or.inr (slot_ne (Or.inl (hw _ (List.mem_of_getElem? (i := 82) rfl))) (Or.inl (hw _ (List.mem_of_getElem? (i := 105) rfl))) (by decide) (t := .long) (t' := .long) (by decide) (by decide))))
  have f14 : Fld Z h9 a "com/example/crosstide/crosstide/engine/Order" "cumQty" "J" (.long (y3 + x1)) := ((F2.other W5 (Or.inr (slot_ne (Or.inl (hw _ (List.mem_of_getElem? (i := 103) rfl))) (Or.inl (hw _ (List.mem_of_getElem? (i := 75) rfl))) (by decide) (t := .long) (t' := .long) (by decide) (by decide)))).other W9 (Or.inr (slot_ne (Or.inl (hw _ (List.mem_of_getElem? (i := 103) rfl))) (Or.inl (hw _ (List.mem_of_getElem? (i := 105) rfl))) (by decide) (t := .long) (t' := .long) (by decide) (by decide))))
  have f15 : Fld Z h9 a "com/example/crosstide/crosstide/engine/Order" "leavesQty" "J" (.long (y4 - x1)) := (F5.other W9 (Or.inr (slot_ne (Or.inl (hw _ (List.mem_of_getElem? (i := 75) rfl))) (Or.inl (hw _ (List.mem_of_getElem? (i := 105) rfl))) (by decide) (t := .long) (t' := .long) (by decide) (by decide))))
  exact g_ret X9 hx hret hlk (hb hby d_prog_39_m_16_32) (by decide) (by decide) (by rw [e9]; exact ⟨rfl, N9, kk9, f11, f12, f13, f14, f15, F9⟩)
def Q_ocumQty (Z : State) (a : Addr) (x : Int64) (h0 : Heap) (n0 : Nat) (v : Option Value) (h : Heap) (L : List Loc) : Prop := v = some (.long x) ∧ Fr n0 L ∧ h = h0
theorem ef_ocumQty (m : MethodId) (x0 : Addr) : entryFrame m #[(.ref x0)] 1 = mkF m 0 #[.val (.ref x0)] [] := by first | (simp [entryFrame, mkF, argsToLocals, Value.category]; done) | rfl
set_option maxRecDepth 65536 in
set_option maxHeartbeats 40000000 in
theorem rm_ocumQty (l : Launch) (Z : State) (a0 : Array Value) (hw : ∀ d ∈ tables_1, d.before a0 Z = true) (a : Addr) (x : Int64) (h0 : Heap) (n0 : Nat) (Z0 : n0 ≤ h0.size) (F_cumQty_a : Fld Z h0 a "com/example/crosstide/crosstide/engine/Order" "cumQty" "J" (.long x)) :
    Ct l Z (⟨"com/example/crosstide/crosstide/engine/Order", "cumQty", "()J"⟩ : MethodName) prog_39_method_11_code 1 (some .long) [] ({ frames := 0, cells := 0, slots := 0, locals := 0 } : Room) #[(.ref a)] h0 (Q_ocumQty Z a x h0 n0) := by
  refine own_body (plainFor_of_name pn_2) (fun m => ef_ocumQty m a) ?_
  intro p e s m below meth c T0 hx hby hml hZ hown hnm hret hlk X0 e0
  have N0 := Fr.nil n0
  refine g_aloadN X0 hx (hb hby d_prog_39_m_11_0) rfl rfl rfl ?_
  refine g_getF X0 hx hZ hown (host := "") (Or.inl (hw _ (List.mem_of_getElem? (i := 102) rfl))) Via.refl e0 F_cumQty_a (hb hby d_prog_39_m_11_1) rfl fun T1 X1 e1 => ?_
  exact g_retJ X1 hx hret hlk (hb hby d_prog_39_m_11_4) (by decide) (by decide) (by rw [e1]; exact ⟨rfl, N0, rfl⟩)
def Q_oleavesQty (Z : State) (a : Addr) (x : Int64) (h0 : Heap) (n0 : Nat) (v : Option Value) (h : Heap) (L : List Loc) : Prop := v = some (.long x) ∧ Fr n0 L ∧ h = h0
theorem ef_oleavesQty (m : MethodId) (x0 : Addr) : entryFrame m #[(.ref x0)] 1 = mkF m 0 #[.val (.ref x0)] [] := by first | (simp [entryFrame, mkF, argsToLocals, Value.category]; done) | rfl
set_option maxRecDepth 65536 in
set_option maxHeartbeats 40000000 in
theorem rm_oleavesQty (l : Launch) (Z : State) (a0 : Array Value) (hw : ∀ d ∈ tables_1, d.before a0 Z = true) (a : Addr) (x : Int64) (h0 : Heap) (n0 : Nat) (Z0 : n0 ≤ h0.size) (F_leavesQty_a : Fld Z h0 a "com/example/crosstide/crosstide/engine/Order" "leavesQty" "J" (.long x)) :
    Ct l Z (⟨"com/example/crosstide/crosstide/engine/Order", "leavesQty", "()J"⟩ : MethodName) prog_39_method_12_code 1 (some .long) [] ({ frames := 0, cells := 0, slots := 0, locals := 0 } : Room) #[(.ref a)] h0 (Q_oleavesQty Z a x h0 n0) := by
  refine own_body (plainFor_of_name pn_2) (fun m => ef_oleavesQty m a) ?_
  intro p e s m below meth c T0 hx hby hml hZ hown hnm hret hlk X0 e0
  have N0 := Fr.nil n0
  refine g_aloadN X0 hx (hb hby d_prog_39_m_12_0) rfl rfl rfl ?_
  refine g_getF X0 hx hZ hown (host := "") (Or.inl (hw _ (List.mem_of_getElem? (i := 74) rfl))) Via.refl e0 F_leavesQty_a (hb hby d_prog_39_m_12_1) rfl fun T1 X1 e1 => ?_
  exact g_retJ X1 hx hret hlk (hb hby d_prog_39_m_12_4) (by decide) (by decide) (by rw [e1]; exact ⟨rfl, N0, rfl⟩)
def Q_onotional (Z : State) (a : Addr) (x : Int64) (h0 : Heap) (n0 : Nat) (v : Option Value) (h : Heap) (L : List Loc) : Prop := v = some (.long x) ∧ Fr n0 L ∧ h = h0
theorem ef_onotional (m : MethodId) (x0 : Addr) : entryFrame m #[(.ref x0)] 1 = mkF m 0 #[.val (.ref x0)] [] := by first | (simp [entryFrame, mkF, argsToLocals, Value.category]; done) | rfl
set_option maxRecDepth 65536 in
set_option maxHeartbeats 40000000 in
theorem rm_onotional (l : Launch) (Z : State) (a0 : Array Value) (hw : ∀ d ∈ tables_1, d.before a0 Z = true) (a : Addr) (x : Int64) (h0 : Heap) (n0 : Nat) (Z0 : n0 ≤ h0.size) (F_notional_a : Fld Z h0 a "com/example/crosstide/crosstide/engine/Order" "notional" "J" (.long x)) :
    Ct l Z (⟨"com/example/crosstide/crosstide/engine/Order", "notional", "()J"⟩ : MethodName) prog_39_method_13_code 1 (some .long) [] ({ frames := 0, cells := 0, slots := 0, locals := 0 } : Room) #[(.ref a)] h0 (Q_onotional Z a x h0 n0) := by
  refine own_body (plainFor_of_name pn_2) (fun m => ef_onotional m a) ?_
  intro p e s m below meth c T0 hx hby hml hZ hown hnm hret hlk X0 e0
  have N0 := Fr.nil n0
  refine g_aloadN X0 hx (hb hby d_prog_39_m_13_0) rfl rfl rfl ?_
  refine g_getF X0 hx hZ hown (host := "") (Or.inl (hw _ (List.mem_of_getElem? (i := 104) rfl))) Via.refl e0 F_notional_a (hb hby d_prog_39_m_13_1) rfl fun T1 X1 e1 => ?_
  exact g_retJ X1 hx hret hlk (hb hby d_prog_39_m_13_4) (by decide) (by decide) (by rw [e1]; exact ⟨rfl, N0, rfl⟩)
def Q_oquantity (Z : State) (a : Addr) (x : Int64) (h0 : Heap) (n0 : Nat) (v : Option Value) (h : Heap) (L : List Loc) : Prop := v = some (.long x) ∧ Fr n0 L ∧ h = h0
theorem ef_oquantity (m : MethodId) (x0 : Addr) : entryFrame m #[(.ref x0)] 1 = mkF m 0 #[.val (.ref x0)] [] := by first | (simp [entryFrame, mkF, argsToLocals, Value.category]; done) | rfl
set_option maxRecDepth 65536 in
set_option maxHeartbeats 40000000 in
theorem rm_oquantity (l : Launch) (Z : State) (a0 : Array Value) (hw : ∀ d ∈ tables_1, d.before a0 Z = true) (a : Addr) (x : Int64) (h0 : Heap) (n0 : Nat) (Z0 : n0 ≤ h0.size) (F_quantity_a : Fld Z h0 a "com/example/crosstide/crosstide/engine/Order" "quantity" "J" (.long x)) :
    Ct l Z (⟨"com/example/crosstide/crosstide/engine/Order", "quantity", "()J"⟩ : MethodName) prog_39_method_7_code 1 (some .long) [] ({ frames := 0, cells := 0, slots := 0, locals := 0 } : Room) #[(.ref a)] h0 (Q_oquantity Z a x h0 n0) := by
  refine own_body (plainFor_of_name pn_2) (fun m => ef_oquantity m a) ?_
  intro p e s m below meth c T0 hx hby hml hZ hown hnm hret hlk X0 e0
  have N0 := Fr.nil n0
  refine g_aloadN X0 hx (hb hby d_prog_39_m_7_0) rfl rfl rfl ?_
  refine g_getF X0 hx hZ hown (host := "") (Or.inl (hw _ (List.mem_of_getElem? (i := 72) rfl))) Via.refl e0 F_quantity_a (hb hby d_prog_39_m_7_1) rfl fun T1 X1 e1 => ?_
  exact g_retJ X1 hx hret hlk (hb hby d_prog_39_m_7_4) (by decide) (by decide) (by rw [e1]; exact ⟨rfl, N0, rfl⟩)
def Q_oprice (Z : State) (a : Addr) (x : Int64) (h0 : Heap) (n0 : Nat) (v : Option Value) (h : Heap) (L : List Loc) : Prop := v = some (.long x) ∧ Fr n0 L ∧ h = h0
theorem ef_oprice (m : MethodId) (x0 : Addr) : entryFrame m #[(.ref x0)] 1 = mkF m 0 #[.val (.ref x0)] [] := by first | (simp [entryFrame, mkF, argsToLocals, Value.category]; done) | rfl
set_option maxRecDepth 65536 in
set_option maxHeartbeats 40000000 in
theorem rm_oprice (l : Launch) (Z : State) (a0 : Array Value) (hw : ∀ d ∈ tables_1, d.before a0 Z = true) (a : Addr) (x : Int64) (h0 : Heap) (n0 : Nat) (Z0 : n0 ≤ h0.size) (F_price_a : Fld Z h0 a "com/example/crosstide/crosstide/engine/Order" "price" "J" (.long x)) :
    Ct l Z (⟨"com/example/crosstide/crosstide/engine/Order", "price", "()J"⟩ : MethodName) prog_39_method_8_code 1 (some .long) [] ({ frames := 0, cells := 0, slots := 0, locals := 0 } : Room) #[(.ref a)] h0 (Q_oprice Z a x h0 n0) := by
  refine own_body (plainFor_of_name pn_2) (fun m => ef_oprice m a) ?_
  intro p e s m below meth c T0 hx hby hml hZ hown hnm hret hlk X0 e0
  have N0 := Fr.nil n0
  refine g_aloadN X0 hx (hb hby d_prog_39_m_8_0) rfl rfl rfl ?_
  refine g_getF X0 hx hZ hown (host := "") (Or.inl (hw _ (List.mem_of_getElem? (i := 81) rfl))) Via.refl e0 F_price_a (hb hby d_prog_39_m_8_1) rfl fun T1 X1 e1 => ?_
  exact g_retJ X1 hx hret hlk (hb hby d_prog_39_m_8_4) (by decide) (by decide) (by rw [e1]; exact ⟨rfl, N0, rfl⟩)
def Q_law (Z : State) (p0 : Int64) (p1 : Int64) (p2 : Int64) (p3 : Int64) (p4 : Int64) (p5 : Int32) (h0 : Heap) (n0 : Nat) (v : Option Value) (h : Heap) (L : List Loc) : Prop := v = some (.int 1) ∧ Fr n0 L
theorem ef_law (m : MethodId) (x0 : Int64) (x1 : Int64) (x2 : Int64) (x3 : Int64) (x4 : Int64) (x5 : Int32) : entryFrame m #[(.long x0), (.long x1), (.long x2), (.long x3), (.long x4), (.int x5)] maxLocals = mkF m 0 #[.val (.long x0), .second, .val (.long x1), .second, .val (.long x2), .second, .val (.long x3), .second, .val (.long x4), .second, .val (.int x5), .unset, .unset, .unset, .unset, .unset, .unset, .unset, .unset, .unset] [] := by first | (simp [entryFrame, mkF, argsToLocals, Value.category, maxLocals]; done) | rfl
set_option maxRecDepth 65536 in
set_option maxHeartbeats 40000000 in
theorem rm_law (l : Launch) (Z : State) (a0 : Array Value) (hw : ∀ d ∈ tables_1, d.before a0 Z = true) (ws : List Jvm.Cond) (p0 : Int64) (p1 : Int64) (p2 : Int64) (p3 : Int64) (p4 : Int64) (p5 : Int32) (h0 : Heap) (n0 : Nat) (Z0 : n0 ≤ h0.size) :
    Ct l Z x code maxLocals ret ws room_1 #[(.long p0), (.long p1), (.long p2), (.long p3), (.long p4), (.int p5)] h0 (Q_law Z p0 p1 p2 p3 p4 p5 h0 n0) := by
  refine own_body (plainFor_of_name pn_3) (fun m => ef_law m p0 p1 p2 p3 p4 p5) ?_
  intro p e s m below meth c T0 hx hby hml hZ hown hnm hret hlk X0 e0
  have N0 := Fr.nil n0
  refine g_new X0 hx hZ hown (hw _ (List.mem_of_getElem? (i := 0) rfl)) (hw _ (List.mem_of_getElem? (i := 1) rfl)) (hw _ (List.mem_of_getElem? (i := 2) rfl)) e0 (hb hby at_0) rfl (by decide) (by decide) fun T1 h1 b1 X1 e1 q1 E1 A1 D1 => ?_
  have g_b1 : n0 ≤ b1 := Nat.le_trans Z0 (Nat.le_of_eq q1.symm)
  have Z1 : n0 ≤ h1.size := Nat.le_trans Z0 E1.1
  have F1_id : Fld Z h1 b1 "com/example/crosstide/crosstide/engine/Order" "id" "J" (.long (0 : Int64)) := D1 (Or.inr (hw _ (List.mem_of_getElem? (i := 38) rfl))) (ty := .long) (by decide)
  have F1_owner : Fld Z h1 b1 "com/example/crosstide/crosstide/engine/Order" "owner" "Lcom/example/crosstide/crosstide/engine/Owner;" .null := D1 (Or.inr (hw _ (List.mem_of_getElem? (i := 45) rfl))) (ty := (.object "com/example/crosstide/crosstide/engine/Owner")) (by decide)
  have F1_clOrdId : Fld Z h1 b1 "com/example/crosstide/crosstide/engine/Order" "clOrdId" "Ljava/lang/String;" .null := D1 (Or.inl (hw _ (List.mem_of_getElem? (i := 52) rfl))) (ty := (.object "java/lang/String")) (by decide)
  have F1_symbol : Fld Z h1 b1 "com/example/crosstide/crosstide/engine/Order" "symbol" "Ljava/lang/String;" .null := D1 (Or.inr (hw _ (List.mem_of_getElem? (i := 59) rfl))) (ty := (.object "java/lang/String")) (by decide)
  have F1_side : Fld Z h1 b1 "com/example/crosstide/crosstide/engine/Order" "side" "Lcom/example/crosstide/crosstide/book/Side;" .null := D1 (Or.inr (hw _ (List.mem_of_getElem? (i := 66) rfl))) (ty := (.object "com/example/crosstide/crosstide/book/Side")) (by decide)
  have F1_quantity : Fld Z h1 b1 "com/example/crosstide/crosstide/engine/Order" "quantity" "J" (.long (0 : Int64)) := D1 (Or.inl (hw _ (List.mem_of_getElem? (i := 73) rfl))) (ty := .long) (by decide)
  have F1_leavesQty : Fld Z h1 b1 "com/example/crosstide/crosstide/engine/Order" "leavesQty" "J" (.long (0 : Int64)) := D1 (Or.inl (hw _ (List.mem_of_getElem? (i := 75) rfl))) (ty := .long) (by decide)
  have F1_price : Fld Z h1 b1 "com/example/crosstide/crosstide/engine/Order" "price" "J" (.long (0 : Int64)) := D1 (Or.inl (hw _ (List.mem_of_getElem? (i := 82) rfl))) (ty := .long) (by decide)
  have F1_timeInForce : Fld Z h1 b1 "com/example/crosstide/crosstide/engine/Order" "timeInForce" "Lcom/example/crosstide/crosstide/engine/TimeInForce;" .null := D1 (Or.inr (hw _ (List.mem_of_getElem? (i := 89) rfl))) (ty := (.object "com/example/crosstide/crosstide/engine/TimeInForce")) (by decide)
  have F1_prevention : Fld Z h1 b1 "com/example/crosstide/crosstide/engine/Order" "prevention" "Lcom/example/crosstide/crosstide/engine/Prevention;" .null := D1 (Or.inr (hw _ (List.mem_of_getElem? (i := 96) rfl))) (ty := (.object "com/example/crosstide/crosstide/engine/Prevention")) (by decide)
  have F1_cumQty : Fld Z h1 b1 "com/example/crosstide/crosstide/engine/Order" "cumQty" "J" (.long (0 : Int64)) := D1 (Or.inl (hw _ (List.mem_of_getElem? (i := 103) rfl))) (ty := .long) (by decide)
  have F1_notional : Fld Z h1 b1 "com/example/crosstide/crosstide/engine/Order" "notional" "J" (.long (0 : Int64)) := D1 (Or.inl (hw _ (List.mem_of_getElem? (i := 105) rfl))) (ty := .long) (by decide)
  refine g_dup X1 hx (hb hby at_3) rfl rfl ?_
  refine g_iload X1 hx (hb hby at_4) rfl rfl ?_
  refine g_i2l X1 hx (hb hby at_6) rfl rfl ?_
  refine g_new X1 hx hZ hown (hw _ (List.mem_of_getElem? (i := 3) rfl)) (hw _ (List.mem_of_getElem? (i := 4) rfl)) (hw _ (List.mem_of_getElem? (i := 5) rfl)) e1 (hb hby at_7) rfl (by decide) (by decide) fun T2 h2 b2 X2 e2 q2 E2 A2 D2 => ?_
  have ne_b1_b2 : b1 ≠ b2 := own_ne A1.lt q2
  have g_b2 : n0 ≤ b2 := Nat.le_trans Z1 (Nat.le_of_eq q2.symm)
  have Z2 : n0 ≤ h2.size := Nat.le_trans Z1 E2.1
  have F2_owner : Fld Z h2 b2 "com/example/crosstide/crosstide/engine/NewOrder" "owner" "Lcom/example/crosstide/crosstide/engine/Owner;" .null := D2 (Or.inr (hw _ (List.mem_of_getElem? (i := 18) rfl))) (ty := (.object "com/example/crosstide/crosstide/engine/Owner")) (by decide)
  have F2_clOrdId : Fld Z h2 b2 "com/example/crosstide/crosstide/engine/NewOrder" "clOrdId" "Ljava/lang/String;" .null := D2 (Or.inr (hw _ (List.mem_of_getElem? (i := 20) rfl))) (ty := (.object "java/lang/String")) (by decide)
  have F2_symbol : Fld Z h2 b2 "com/example/crosstide/crosstide/engine/NewOrder" "symbol" "Ljava/lang/String;" .null := D2 (Or.inr (hw _ (List.mem_of_getElem? (i := 22) rfl))) (ty := (.object "java/lang/String")) (by decide)
  have F2_side : Fld Z h2 b2 "com/example/crosstide/crosstide/engine/NewOrder" "side" "Lcom/example/crosstide/crosstide/book/Side;" .null := D2 (Or.inr (hw _ (List.mem_of_getElem? (i := 24) rfl))) (ty := (.object "com/example/crosstide/crosstide/book/Side")) (by decide)
  have F2_quantity : Fld Z h2 b2 "com/example/crosstide/crosstide/engine/NewOrder" "quantity" "J" (.long (0 : Int64)) := D2 (Or.inr (hw _ (List.mem_of_getElem? (i := 26) rfl))) (ty := .long) (by decide)
  have F2_price : Fld Z h2 b2 "com/example/crosstide/crosstide/engine/NewOrder" "price" "J" (.long (0 : Int64)) := D2 (Or.inr (hw _ (List.mem_of_getElem? (i := 28) rfl))) (ty := .long) (by decide)
  have F2_timeInForce : Fld Z h2 b2 "com/example/crosstide/crosstide/engine/NewOrder" "timeInForce" "Lcom/example/crosstide/crosstide/engine/TimeInForce;" .null := D2 (Or.inr (hw _ (List.mem_of_getElem? (i := 30) rfl))) (ty := (.object "com/example/crosstide/crosstide/engine/TimeInForce")) (by decide)
  have F2_prevention : Fld Z h2 b2 "com/example/crosstide/crosstide/engine/NewOrder" "prevention" "Lcom/example/crosstide/crosstide/engine/Prevention;" .null := D2 (Or.inr (hw _ (List.mem_of_getElem? (i := 32) rfl))) (ty := (.object "com/example/crosstide/crosstide/engine/Prevention")) (by decide)
  refine g_dup X2 hx (hb hby at_10) rfl rfl ?_
  refine g_aconst_null X2 hx (hb hby at_11) rfl  ?_
  refine g_aconst_null X2 hx (hb hby at_12) rfl  ?_
  refine g_aconst_null X2 hx (hb hby at_13) rfl  ?_
  refine g_aconst_null X2 hx (hb hby at_14) rfl  ?_
  refine g_lloadN X2 hx (hb hby at_15) rfl rfl ?_
  refine g_lload X2 hx (hb hby at_16) rfl rfl ?_
  refine g_aconst_null X2 hx (hb hby at_18) rfl  ?_
  refine g_aconst_null X2 hx (hb hby at_19) rfl  ?_
  refine g_special X2 hx hZ hown rfl (hw _ (List.mem_of_getElem? (i := 6) rfl)) (hw _ (List.mem_of_getElem? (i := 7) rfl)) (hw _ (List.mem_of_getElem? (i := 5) rfl)) (hw _ (List.mem_of_getElem? (i := 8) rfl)) (by decide) (a := b2) (rm_nini l Z a0 hw b2 p0 p4 h2 n0 Z2 F2_owner F2_clOrdId F2_symbol F2_side F2_timeInForce F2_prevention F2_quantity F2_price A2 g_b2) (by rw [hml]; rfl) e2 [.null, .null, .null, .null, (.long p0), (.long p4), .null, .null] rfl rfl (W := 5) (Nat.le_of_eq rfl) (by decide) (by decide) (by decide) (by decide) (lenOf pd_7 rfl) (hb hby at_20) rfl fun v3 T3 L3 X3 hQ3 => ?_
  obtain ⟨rfl, Nq3, kc3, p3_0, p3_1, p3_2, p3_3, p3_4, p3_5, p3_6, p3_7, p3_8⟩ := hQ3
  have N3 := Fr.app N0 Nq3
  have Z3 : n0 ≤ T3.heap.size := Nat.le_trans Z2 kc3.1
  show Ga _ _ _ _ _ _ _ _ _ _ _ [(.ref b2), (.long (p5.toInt64)), (.ref b1), (.ref b1)]
  have f5 : Fld Z T3.heap b1 "com/example/crosstide/crosstide/engine/Order" "owner" "Lcom/example/crosstide/crosstide/engine/Owner;" .null := ((F1_owner.ext E2).keep kc3 (ninS ne_b1_b2 nin0))
  have f6 : Fld Z T3.heap b1 "com/example/crosstide/crosstide/engine/Order" "clOrdId" "Ljava/lang/String;" .null := ((F1_clOrdId.ext E2).keep kc3 (ninS ne_b1_b2 nin0))
  have f7 : Fld Z T3.heap b1 "com/example/crosstide/crosstide/engine/Order" "symbol" "Ljava/lang/String;" .null := ((F1_symbol.ext E2).keep kc3 (ninS ne_b1_b2 nin0))
  have f8 : Fld Z T3.heap b1 "com/example/crosstide/crosstide/engine/Order" "side" "Lcom/example/crosstide/crosstide/book/Side;" .null := ((F1_side.ext E2).keep kc3 (ninS ne_b1_b2 nin0))
  have f9 : Fld Z T3.heap b1 "com/example/crosstide/crosstide/engine/Order" "timeInForce" "Lcom/example/crosstide/crosstide/engine/TimeInForce;" .null := ((F1_timeInForce.ext E2).keep kc3 (ninS ne_b1_b2 nin0))
  have f10 : Fld Z T3.heap b1 "com/example/crosstide/crosstide/engine/Order" "prevention" "Lcom/example/crosstide/crosstide/engine/Prevention;" .null := ((F1_prevention.ext E2).keep kc3 (ninS ne_b1_b2 nin0))
  have f11 : Fld Z T3.heap b1 "com/example/crosstide/crosstide/engine/Order" "id" "J" (.long (0 : Int64)) := ((F1_id.ext E2).keep kc3 (ninS ne_b1_b2 nin0))
  have f12 : Fld Z T3.heap b1 "com/example/crosstide/crosstide/engine/Order" "quantity" "J" (.long (0 : Int64)) := ((F1_quantity.ext E2).keep kc3 (ninS ne_b1_b2 nin0))
  have f13 : Fld Z T3.heap b1 "com/example/crosstide/crosstide/engine/Order" "leavesQty" "J" (.long (0 : Int64)) := ((F1_leavesQty.ext E2).keep kc3 (ninS ne_b1_b2 nin0))
  have f14 : Fld Z T3.heap b1 "com/example/crosstide/crosstide/engine/Order" "price" "J" (.long (0 : Int64)) := ((F1_price.ext E2).keep kc3 (ninS ne_b1_b2 nin0))
  have f15 : Fld Z T3.heap b1 "com/example/crosstide/crosstide/engine/Order" "cumQty" "J" (.long (0 : Int64)) := ((F1_cumQty.ext E2).keep kc3 (ninS ne_b1_b2 nin0))
  have f16 : Fld Z T3.heap b1 "com/example/crosstide/crosstide/engine/Order" "notional" "J" (.long (0 : Int64)) := ((F1_notional.ext E2).keep kc3 (ninS ne_b1_b2 nin0))
  have f17 : Exa Z T3.heap b1 "com/example/crosstide/crosstide/engine/Order" := ((A1.ext E2).keep kc3)
  refine g_special X3 hx hZ hown rfl (hw _ (List.mem_of_getElem? (i := 33) rfl)) (hw _ (List.mem_of_getElem? (i := 34) rfl)) (hw _ (List.mem_of_getElem? (i := 2) rfl)) (hw _ (List.mem_of_getElem? (i := 35) rfl)) (by decide) (a := b1) (rm_oini l Z a0 hw b1 (p5.toInt64) b2 p0 p4 T3.heap n0 Z3 p3_1 p3_2 p3_3 p3_4 p3_5 p3_6 p3_7 p3_8 p3_0 f5 f6 f7 f8 f9 f10 f11 f12 f13 f14 f15 f16 f17 g_b1 ne_b1_b2) (by rw [hml]; rfl) rfl [(.long (p5.toInt64)), (.ref b2)] rfl rfl (W := 1) (Nat.le_of_eq rfl) (by decide) (by decide) (by decide) (by decide) (lenOf pd_8 rfl) (hb hby at_23) rfl fun v4 T4 L4 X4 hQ4 => ?_
  obtain ⟨rfl, Nq4, kc4, p4_0, p4_1, p4_2, p4_3, p4_4, p4_5⟩ := hQ4
  have N4 := Fr.app N3 Nq4
  have Z4 : n0 ≤ T4.heap.size := Nat.le_trans Z3 kc4.1
  show Ga _ _ _ _ _ _ _ _ _ _ _ [(.ref b1)]
  refine g_astore X4 hx (Ls' := #[.val (.long p0), .second, .val (.long p1), .second, .val (.long p2), .second, .val (.long p3), .second, .val (.long p4), .second, .val (.int p5), .val (.ref b1), .unset, .unset, .unset, .unset, .unset, .unset, .unset, .unset]) (hb hby at_26) rfl rfl rfl ?_
  refine g_aload X4 hx (hb hby at_28) rfl rfl rfl ?_
  refine g_lloadN X4 hx (hb hby at_30) rfl rfl ?_
  refine g_lload X4 hx (hb hby at_31) rfl rfl ?_
  refine g_virtual X4 hx hZ hown (hw _ (List.mem_of_getElem? (i := 97) rfl)) (hw _ (List.mem_of_getElem? (i := 98) rfl)) (notFace_of_selects (args := #[]) (mvT hZ (hw _ (List.mem_of_getElem? (i := 100) rfl)))) (hw _ (List.mem_of_getElem? (i := 100) rfl)) (hw _ (List.mem_of_getElem? (i := 99) rfl)) (hw _ (List.mem_of_getElem? (i := 2) rfl)) (hw _ (List.mem_of_getElem? (i := 101) rfl)) (by decide) (a := b1) p4_0 (rm_fill l Z a0 hw b1 p1 p2 p0 p4 (0 : Int64) p0 (0 : Int64) T4.heap n0 Z4 p4_1 p4_3 p4_4 p4_2 p4_5 p4_0 g_b1) (by rw [hml]; rfl) rfl [(.long p1), (.long p2)] rfl rfl (W := 0) (Nat.le_of_eq rfl) (by decide) (by decide) (by decide) (by decide) (lenOf pd_9 rfl) (hb hby at_33) rfl fun v18 T18 L18 X18 hQ18 => ?_
  obtain ⟨rfl, Nq18, kc18, p18_0, p18_1, p18_2, p18_3, p18_4, p18_5⟩ := hQ18
  have N18 := Fr.app N4 Nq18
  have Z18 : n0 ≤ T18.heap.size := Nat.le_trans Z4 kc18.1
  show Ga _ _ _ _ _ _ _ _ _ _ _ []
  refine g_aload X18 hx (hb hby at_36) rfl rfl rfl ?_
  refine g_virtual X18 hx hZ hown (hw _ (List.mem_of_getElem? (i := 106) rfl)) (hw _ (List.mem_of_getElem? (i := 107) rfl)) (notFace_of_selects (args := #[]) (mvT hZ (hw _ (List.mem_of_getElem? (i := 109) rfl)))) (hw _ (List.mem_of_getElem? (i := 109) rfl)) (hw _ (List.mem_of_getElem? (i := 108) rfl)) (hw _ (List.mem_of_getElem? (i := 2) rfl)) (hw _ (List.mem_of_getElem? (i := 110) rfl)) (by decide) (a := b1) p18_0 (rm_ocumQty l Z a0 hw b1 ((0 : Int64) + p1) T18.heap n0 Z18 p18_3) (by rw [hml]; rfl) rfl [] rfl rfl (W := 0) (Nat.le_of_eq rfl) (by decide) (by decide) (by decide) (by decide) (lenOf pd_4 rfl) (hb hby at_38) rfl fun v19 T19 L19 X19 hQ19 => ?_
  obtain ⟨rfl, Nq19, eh19⟩ := hQ19
  have N19 := Fr.app N18 Nq19
  show Ga _ _ _ _ _ _ _ _ _ _ _ [(.long ((0 : Int64) + p1))]
  refine g_lloadN X19 hx (hb hby at_41) rfl rfl ?_
  refine g_lcmp X19 hx (hb hby at_42) rfl  ?_
  have hc43 : ((0 : Int64) + p1) = p1 := by grind
  refine g_ifN X19 hx (hb hby at_43) rfl (XT.ll_ne_f hc43) ?_
  refine g_aload X19 hx (hb hby at_46) rfl rfl rfl ?_
  refine g_virtual X19 hx hZ hown (hw _ (List.mem_of_getElem? (i := 111) rfl)) (hw _ (List.mem_of_getElem? (i := 112) rfl)) (notFace_of_selects (args := #[]) (mvT hZ (hw _ (List.mem_of_getElem? (i := 114) rfl)))) (hw _ (List.mem_of_getElem? (i := 114) rfl)) (hw _ (List.mem_of_getElem? (i := 113) rfl)) (hw _ (List.mem_of_getElem? (i := 2) rfl)) (hw _ (List.mem_of_getElem? (i := 115) rfl)) (by decide) (a := b1) p18_0 (rm_oleavesQty l Z a0 hw b1 (p0 - p1) T18.heap n0 Z18 p18_4) (by rw [hml]; rfl) eh19 [] rfl rfl (W := 0) (Nat.le_of_eq rfl) (by decide) (by decide) (by decide) (by decide) (lenOf pd_4 rfl) (hb hby at_48) rfl fun v20 T20 L20 X20 hQ20 => ?_
  obtain ⟨rfl, Nq20, eh20⟩ := hQ20
  have N20 := Fr.app N19 Nq20
  show Ga _ _ _ _ _ _ _ _ _ _ _ [(.long (p0 - p1))]
  refine g_lloadN X20 hx (hb hby at_51) rfl rfl ?_
  refine g_lloadN X20 hx (hb hby at_52) rfl rfl ?_
  refine g_lsub X20 hx (hb hby at_53) rfl rfl ?_
  refine g_lcmp X20 hx (hb hby at_54) rfl  ?_
  refine g_ifN X20 hx (hb hby at_55) rfl (XT.ll_ne_f rfl) ?_
  refine g_aload X20 hx (hb hby at_58) rfl rfl rfl ?_
  refine g_virtual X20 hx hZ hown (hw _ (List.mem_of_getElem? (i := 116) rfl)) (hw _ (List.mem_of_getElem? (i := 117) rfl)) (notFace_of_selects (args := #[]) (mvT hZ (hw _ (List.mem_of_getElem? (i := 119) rfl)))) (hw _ (List.mem_of_getElem? (i := 119) rfl)) (hw _ (List.mem_of_getElem? (i := 118) rfl)) (hw _ (List.mem_of_getElem? (i := 2) rfl)) (hw _ (List.mem_of_getElem? (i := 120) rfl)) (by decide) (a := b1) p18_0 (rm_onotional l Z a0 hw b1 ((0 : Int64) + (p1 * p2)) T18.heap n0 Z18 p18_5) (by rw [hml]; rfl) eh20 [] rfl rfl (W := 0) (Nat.le_of_eq rfl) (by decide) (by decide) (by decide) (by decide) (lenOf pd_4 rfl) (hb hby at_60) rfl fun v21 T21 L21 X21 hQ21 => ?_
  obtain ⟨rfl, Nq21, eh21⟩ := hQ21
  have N21 := Fr.app N20 Nq21
  show Ga _ _ _ _ _ _ _ _ _ _ _ [(.long ((0 : Int64) + (p1 * p2)))]
  refine g_lloadN X21 hx (hb hby at_63) rfl rfl ?_
  refine g_lload X21 hx (hb hby at_64) rfl rfl ?_
  refine g_lmul X21 hx (hb hby at_66) rfl rfl ?_
  refine g_lcmp X21 hx (hb hby at_67) rfl  ?_
  have hc68 : ((0 : Int64) + (p1 * p2)) = (p1 * p2) := by grind
  refine g_ifN X21 hx (hb hby at_68) rfl (XT.ll_ne_f hc68) ?_
  refine g_iconst X21 hx (r := (1 : Int32)) (hb hby at_71) rfl rfl ?_
  refine g_goto X21 hx (q := 76) (hb hby at_72) (by decide) (by decide) ?_
  refine g_istore X21 hx (Ls' := #[.val (.long p0), .second, .val (.long p1), .second, .val (.long p2), .second, .val (.long p3), .second, .val (.long p4), .second, .val (.int p5), .val (.ref b1), .val (.int (1 : Int32)), .unset, .unset, .unset, .unset, .unset, .unset, .unset]) (hb hby at_76) rfl rfl ?_
  refine g_aload X21 hx (hb hby at_78) rfl rfl rfl ?_
  refine g_lload X21 hx (hb hby at_80) rfl rfl ?_
  refine g_lload X21 hx (hb hby at_82) rfl rfl ?_
  refine g_virtual X21 hx hZ hown (hw _ (List.mem_of_getElem? (i := 97) rfl)) (hw _ (List.mem_of_getElem? (i := 98) rfl)) (notFace_of_selects (args := #[]) (mvT hZ (hw _ (List.mem_of_getElem? (i := 100) rfl)))) (hw _ (List.mem_of_getElem? (i := 100) rfl)) (hw _ (List.mem_of_getElem? (i := 99) rfl)) (hw _ (List.mem_of_getElem? (i := 2) rfl)) (hw _ (List.mem_of_getElem? (i := 101) rfl)) (by decide) (a := b1) p18_0 (rm_fill l Z a0 hw b1 p3 p4 p0 p4 ((0 : Int64) + p1) (p0 - p1) ((0 : Int64) + (p1 * p2)) T18.heap n0 Z18 p18_1 p18_2 p18_3 p18_4 p18_5 p18_0 g_b1) (by rw [hml]; rfl) eh21 [(.long p3), (.long p4)] rfl rfl (W := 0) (Nat.le_of_eq rfl) (by decide) (by decide) (by decide) (by decide) (lenOf pd_9 rfl) (hb hby at_84) rfl fun v22 T22 L22 X22 hQ22 => ?_
  obtain ⟨rfl, Nq22, kc22, p22_0, p22_1, p22_2, p22_3, p22_4, p22_5⟩ := hQ22
  have N22 := Fr.app N21 Nq22
  have Z22 : n0 ≤ T22.heap.size := Nat.le_trans Z18 kc22.1
  show Ga _ _ _ _ _ _ _ _ _ _ _ []
  refine g_lloadN X22 hx (hb hby at_87) rfl rfl ?_
  refine g_lload X22 hx (hb hby at_88) rfl rfl ?_
  refine g_ladd X22 hx (hb hby at_90) rfl rfl ?_
  refine g_lstore X22 hx (Ls' := #[.val (.long p0), .second, .val (.long p1), .second, .val (.long p2), .second, .val (.long p3), .second, .val (.long p4), .second, .val (.int p5), .val (.ref b1), .val (.int (1 : Int32)), .val (.long (p1 + p3)), .second, .unset, .unset, .unset, .unset, .unset]) (hb hby at_91) rfl rfl ?_
  refine g_lloadN X22 hx (hb hby at_93) rfl rfl ?_
  refine g_lloadN X22 hx (hb hby at_94) rfl rfl ?_
  refine g_lsub X22 hx (hb hby at_95) rfl rfl ?_
  refine g_lload X22 hx (hb hby at_96) rfl rfl ?_
  refine g_lsub X22 hx (hb hby at_98) rfl rfl ?_
  refine g_lstore X22 hx (Ls' := #[.val (.long p0), .second, .val (.long p1), .second, .val (.long p2), .second, .val (.long p3), .second, .val (.long p4), .second, .val (.int p5), .val (.ref b1), .val (.int (1 : Int32)), .val (.long (p1 + p3)), .second, .val (.long ((p0 - p1) - p3)), .second, .unset, .unset, .unset]) (hb hby at_99) rfl rfl ?_
  refine g_lloadN X22 hx (hb hby at_101) rfl rfl ?_
  refine g_lload X22 hx (hb hby at_102) rfl rfl ?_
  refine g_lmul X22 hx (hb hby at_104) rfl rfl ?_
  refine g_lload X22 hx (hb hby at_105) rfl rfl ?_
  refine g_lload X22 hx (hb hby at_107) rfl rfl ?_
  refine g_lmul X22 hx (hb hby at_109) rfl rfl ?_
  refine g_ladd X22 hx (hb hby at_110) rfl rfl ?_
  refine g_lstore X22 hx (Ls' := #[.val (.long p0), .second, .val (.long p1), .second, .val (.long p2), .second, .val (.long p3), .second, .val (.long p4), .second, .val (.int p5), .val (.ref b1), .val (.int (1 : Int32)), .val (.long (p1 + p3)), .second, .val (.long ((p0 - p1) - p3)), .second, .val (.long ((p1 * p2) + (p3 * p4))), .second, .unset]) (hb hby at_111) rfl rfl ?_
  refine g_aload X22 hx (hb hby at_113) rfl rfl rfl ?_
  refine g_virtual X22 hx hZ hown (hw _ (List.mem_of_getElem? (i := 106) rfl)) (hw _ (List.mem_of_getElem? (i := 107) rfl)) (notFace_of_selects (args := #[]) (mvT hZ (hw _ (List.mem_of_getElem? (i := 109) rfl)))) (hw _ (List.mem_of_getElem? (i := 109) rfl)) (hw _ (List.mem_of_getElem? (i := 108) rfl)) (hw _ (List.mem_of_getElem? (i := 2) rfl)) (hw _ (List.mem_of_getElem? (i := 110) rfl)) (by decide) (a := b1) p22_0 (rm_ocumQty l Z a0 hw b1 (((0 : Int64) + p1) + p3) T22.heap n0 Z22 p22_3) (by rw [hml]; rfl) rfl [] rfl rfl (W := 0) (Nat.le_of_eq rfl) (by decide) (by decide) (by decide) (by decide) (lenOf pd_4 rfl) (hb hby at_115) rfl fun v23 T23 L23 X23 hQ23 => ?_
  obtain ⟨rfl, Nq23, eh23⟩ := hQ23
  have N23 := Fr.app N22 Nq23
  show Ga _ _ _ _ _ _ _ _ _ _ _ [(.long (((0 : Int64) + p1) + p3))]
  refine g_lload X23 hx (hb hby at_118) rfl rfl ?_
  refine g_lcmp X23 hx (hb hby at_120) rfl  ?_
  have hc121 : (((0 : Int64) + p1) + p3) = (p1 + p3) := by grind
  refine g_ifN X23 hx (hb hby at_121) rfl (XT.ll_ne_f hc121) ?_
  refine g_aload X23 hx (hb hby at_124) rfl rfl rfl ?_
  refine g_virtual X23 hx hZ hown (hw _ (List.mem_of_getElem? (i := 111) rfl)) (hw _ (List.mem_of_getElem? (i := 112) rfl)) (notFace_of_selects (args := #[]) (mvT hZ (hw _ (List.mem_of_getElem? (i := 114) rfl)))) (hw _ (List.mem_of_getElem? (i := 114) rfl)) (hw _ (List.mem_of_getElem? (i := 113) rfl)) (hw _ (List.mem_of_getElem? (i := 2) rfl)) (hw _ (List.mem_of_getElem? (i := 115) rfl)) (by decide) (a := b1) p22_0 (rm_oleavesQty l Z a0 hw b1 ((p0 - p1) - p3) T22.heap n0 Z22 p22_4) (by rw [hml]; rfl) eh23 [] rfl rfl (W := 0) (Nat.le_of_eq rfl) (by decide) (by decide) (by decide) (by decide) (lenOf pd_4 rfl) (hb hby at_126) rfl fun v24 T24 L24 X24 hQ24 => ?_
  obtain ⟨rfl, Nq24, eh24⟩ := hQ24
  have N24 := Fr.app N23 Nq24
  show Ga _ _ _ _ _ _ _ _ _ _ _ [(.long ((p0 - p1) - p3))]
  refine g_lload X24 hx (hb hby at_129) rfl rfl ?_
  refine g_lcmp X24 hx (hb hby at_131) rfl  ?_
  refine g_ifN X24 hx (hb hby at_132) rfl (XT.ll_ne_f rfl) ?_
  refine g_aload X24 hx (hb hby at_135) rfl rfl rfl ?_
  refine g_virtual X24 hx hZ hown (hw _ (List.mem_of_getElem? (i := 116) rfl)) (hw _ (List.mem_of_getElem? (i := 117) rfl)) (notFace_of_selects (args := #[]) (mvT hZ (hw _ (List.mem_of_getElem? (i := 119) rfl)))) (hw _ (List.mem_of_getElem? (i := 119) rfl)) (hw _ (List.mem_of_getElem? (i := 118) rfl)) (hw _ (List.mem_of_getElem? (i := 2) rfl)) (hw _ (List.mem_of_getElem? (i := 120) rfl)) (by decide) (a := b1) p22_0 (rm_onotional l Z a0 hw b1 (((0 : Int64) + (p1 * p2)) + (p3 * p4)) T22.heap n0 Z22 p22_5) (by rw [hml]; rfl) eh24 [] rfl rfl (W := 0) (Nat.le_of_eq rfl) (by decide) (by decide) (by decide) (by decide) (lenOf pd_4 rfl) (hb hby at_137) rfl fun v25 T25 L25 X25 hQ25 => ?_
  obtain ⟨rfl, Nq25, eh25⟩ := hQ25
  have N25 := Fr.app N24 Nq25
  show Ga _ _ _ _ _ _ _ _ _ _ _ [(.long (((0 : Int64) + (p1 * p2)) + (p3 * p4)))]
  refine g_lload X25 hx (hb hby at_140) rfl rfl ?_
  refine g_lcmp X25 hx (hb hby at_142) rfl  ?_
  have hc143 : (((0 : Int64) + (p1 * p2)) + (p3 * p4)) = ((p1 * p2) + (p3 * p4)) := by grind
  refine g_ifN X25 hx (hb hby at_143) rfl (XT.ll_ne_f hc143) ?_
  refine g_aload X25 hx (hb hby at_146) rfl rfl rfl ?_
  refine g_virtual X25 hx hZ hown (hw _ (List.mem_of_getElem? (i := 121) rfl)) (hw _ (List.mem_of_getElem? (i := 122) rfl)) (notFace_of_selects (args := #[]) (mvT hZ (hw _ (List.mem_of_getElem? (i := 124) rfl)))) (hw _ (List.mem_of_getElem? (i := 124) rfl)) (hw _ (List.mem_of_getElem? (i := 123) rfl)) (hw _ (List.mem_of_getElem? (i := 2) rfl)) (hw _ (List.mem_of_getElem? (i := 125) rfl)) (by decide) (a := b1) p22_0 (rm_oquantity l Z a0 hw b1 p0 T22.heap n0 Z22 p22_1) (by rw [hml]; rfl) eh25 [] rfl rfl (W := 0) (Nat.le_of_eq rfl) (by decide) (by decide) (by decide) (by decide) (lenOf pd_4 rfl) (hb hby at_148) rfl fun v26 T26 L26 X26 hQ26 => ?_
  obtain ⟨rfl, Nq26, eh26⟩ := hQ26
  have N26 := Fr.app N25 Nq26
  show Ga _ _ _ _ _ _ _ _ _ _ _ [(.long p0)]
  refine g_lloadN X26 hx (hb hby at_151) rfl rfl ?_
  refine g_lcmp X26 hx (hb hby at_152) rfl  ?_
  refine g_ifN X26 hx (hb hby at_153) rfl (XT.ll_ne_f rfl) ?_
  refine g_aload X26 hx (hb hby at_156) rfl rfl rfl ?_
  refine g_virtual X26 hx hZ hown (hw _ (List.mem_of_getElem? (i := 126) rfl)) (hw _ (List.mem_of_getElem? (i := 127) rfl)) (notFace_of_selects (args := #[]) (mvT hZ (hw _ (List.mem_of_getElem? (i := 129) rfl)))) (hw _ (List.mem_of_getElem? (i := 129) rfl)) (hw _ (List.mem_of_getElem? (i := 128) rfl)) (hw _ (List.mem_of_getElem? (i := 2) rfl)) (hw _ (List.mem_of_getElem? (i := 130) rfl)) (by decide) (a := b1) p22_0 (rm_oprice l Z a0 hw b1 p4 T22.heap n0 Z22 p22_2) (by rw [hml]; rfl) eh26 [] rfl rfl (W := 0) (Nat.le_of_eq rfl) (by decide) (by decide) (by decide) (by decide) (lenOf pd_4 rfl) (hb hby at_158) rfl fun v27 T27 L27 X27 hQ27 => ?_
  obtain ⟨rfl, Nq27, eh27⟩ := hQ27
  have N27 := Fr.app N26 Nq27
  show Ga _ _ _ _ _ _ _ _ _ _ _ [(.long p4)]
  refine g_lload X27 hx (hb hby at_161) rfl rfl ?_
  refine g_lcmp X27 hx (hb hby at_163) rfl  ?_
  refine g_ifN X27 hx (hb hby at_164) rfl (XT.ll_ne_f rfl) ?_
  refine g_iconst X27 hx (r := (1 : Int32)) (hb hby at_167) rfl rfl ?_
  refine g_goto X27 hx (q := 172) (hb hby at_168) (by decide) (by decide) ?_
  refine g_istore X27 hx (Ls' := #[.val (.long p0), .second, .val (.long p1), .second, .val (.long p2), .second, .val (.long p3), .second, .val (.long p4), .second, .val (.int p5), .val (.ref b1), .val (.int (1 : Int32)), .val (.long (p1 + p3)), .second, .val (.long ((p0 - p1) - p3)), .second, .val (.long ((p1 * p2) + (p3 * p4))), .second, .val (.int (1 : Int32))]) (hb hby at_172) rfl rfl ?_
  refine g_iload X27 hx (hb hby at_174) rfl rfl ?_
  refine g_ifN X27 hx (hb hby at_176) rfl (XT.i0_eq_f (by decide : ¬ (1 : Int32) = (0 : Int32))) ?_
  refine g_iload X27 hx (hb hby at_179) rfl rfl ?_
  refine g_ifN X27 hx (hb hby at_181) rfl (XT.i0_eq_f (by decide : ¬ (1 : Int32) = (0 : Int32))) ?_
  refine g_iconst X27 hx (r := (1 : Int32)) (hb hby at_184) rfl rfl ?_
  refine g_goto X27 hx (q := 189) (hb hby at_185) (by decide) (by decide) ?_
  exact g_retN X27 hx (t := .boolean) (r := (1 : Int32)) hret (by simp) hlk (hb hby at_189) rfl (by decide) (by decide) (by rw [eh27]; exact ⟨rfl, N27⟩)
set_option maxRecDepth 65536 in
set_option maxHeartbeats 40000000 in
theorem comes_1 {Post : Tables → Env → Array Value → State → Outcome → State → Prop} (hpost : ∀ tb e args s v u, (limb_1_1.after args s (.returned v) u = true ∧ limb_1_2.after args s (.returned v) u = true ∧ True) → FrameEnd s (.returned v) u (Jvm.fieldLocs frame_1_writes args s ++ Jvm.arrayLocs frame_1_arrays args s ++ Jvm.staticLocs frame_1_statics s) 16 128 → Post tb e args s (.returned v) u) :
    ArmFor flags0 classFile x code maxLocals ret World_1 tables_1 room_1 Calls_1 rest_1 Pre_1 Post := by
  intro l hfl _ _ p e ha hc hk s m args below hf hA hF happ hP
  obtain ⟨hcalls, hrest, hpre⟩ := hP
  obtain ⟨-, -, -, hnamed, -, -, -, hat⟩ := (Spec.applies_iff hf).mp happ
  obtain ⟨hg, hn⟩ := and_e (Cond.before_iff.mp (show (Jvm.Cond.and given_1 narrow_1).before args s = true from hpre))
  obtain ⟨hcn, hg1⟩ := and_e hg
  obtain ⟨k1, hg2⟩ := and_e hg1
  obtain ⟨k2, hg3⟩ := and_e hg2
  obtain ⟨k3, hg4⟩ := and_e hg3
  obtain ⟨k4, hg5⟩ := and_e hg4
  obtain ⟨k5, hg6⟩ := and_e hg5
  have k6 := hg6
  obtain ⟨w0, w1, w2, w3, w4, w5, rfl⟩ : ∃ w0 w1 w2 w3 w4 w5 : Value, args = #[w0, w1, w2, w3, w4, w5] := by
    have hs : args.size = 6 := by simpa [Cond.value, given_1] using hcn
    obtain ⟨L⟩ := args
    match L, hs with
    | [w0, w1, w2, w3, w4, w5], _ => exact ⟨w0, w1, w2, w3, w4, w5, rfl⟩
  have hw := fun d (hd : d ∈ tables_1) => atoms_spec (ws := Jvm.Cond.code x code maxLocals ret :: tables_1) hat d (List.mem_cons_of_mem _ hd)
  have hfit : Fit s := fun {y c} hc i hi => by
    obtain ⟨ha, rfl⟩ := Array.getElem?_eq_some_iff.mp hc
    have q := List.all_eq_true.mp ((Array.all_eq_true_iff_forall_mem.mp hF) _ (Array.getElem_mem ha)) i (List.mem_range.mpr hi)
    simpa [Array.getElem?_eq_getElem hi] using q
  obtain ⟨i0, ei0⟩ := isL_v k1
  obtain rfl : w0 = (.long i0) := Option.some.inj ei0
  obtain ⟨i1, ei1⟩ := isL_v k2
  obtain rfl : w1 = (.long i1) := Option.some.inj ei1
  obtain ⟨i2, ei2⟩ := isL_v k3
  obtain rfl : w2 = (.long i2) := Option.some.inj ei2
  obtain ⟨i3, ei3⟩ := isL_v k4
  obtain rfl : w3 = (.long i3) := Option.some.inj ei3
  obtain ⟨i4, ei4⟩ := isL_v k5
  obtain rfl : w4 = (.long i4) := Option.some.inj ei4
  obtain ⟨i5, ei5⟩ := is_v k6
  obtain rfl : w5 = (.int i5) := Option.some.inj ei5
  obtain ⟨n, o, h1, h2, h3, _, L, rfl, ⟨rfl, N⟩, hq⟩ := rm_law l s _ hw tables_1 i0 i1 i2 i3 i4 i5 s.heap s.heap.size (Nat.le_refl _) p e ha hc hk s m _ below hf ((Spec.applies_iff_loose hf).mp happ).1 ⟨rfl, State.Warmed39.refl s, rfl⟩ trivial
  refine ⟨n, _, h1, h2, h3, hpost _ _ _ _ _ _ ⟨Cond.after_iff.mpr rfl, Cond.after_iff.mpr (eq_i res_at (Term.int_eval (1)) rfl), trivial⟩ ⟨hq.1, hq.2.1, (hq.2.2.sift fun y hy => Or.inr (N y hy)).mono (by decide) (by decide)⟩⟩
theorem main_1_1 : Claimed_1_1 := comes_1 fun _ _ _ _ _ _ h hF => ⟨h.1, hF⟩
theorem main_1_2 : Claimed_1_2 := comes_1 fun _ _ _ _ _ _ h hF => ⟨h.2.1, hF⟩
end Jvm.Pilot.@@N@@
namespace Jvm.Pilot.@@N@@
open Jvm Jvm.ClassFile Sem Op Lib Jvm.Free Jvm.Stand Jvm.Pilot.@@N@@.Jvm.D
/-! MADE BY PROGRAM (witnessworld.py) out of the Statement's table words and the real class files: 11 classes; the members and pool entries that the words name. The judged class is class 1, her method 1. -/
namespace start1
open Jvm.ClassFile
def u (s : String) : CpInfo := .utf8 (stringToUtf16 s)
/-- a pool by its gaps: so many unusable entries, then the entry; so many at the end -/
def gap : Nat → List CpInfo → List CpInfo
  | 0, r => r
  | n + 1, r => .unusable :: gap n r
def poolList (es : List (Nat × CpInfo)) (last : Nat) : List CpInfo := es.foldr (fun e r => gap e.1 (e.2 :: r)) (gap last [])
def pool (es : List (Nat × CpInfo)) (last : Nat) : Array CpInfo := ⟨poolList es last⟩
def fileOf (pool : Array CpInfo) (this : Nat) (attrs : Array Attribute := #[]) (ms : Array MethodInfo := #[]) (fl : Nat := 33) (sup : Nat := 0) (ifs : Array Nat := #[]) (fds : Array FieldInfo := #[]) : ClassFile where
  minorVersion := 0
  majorVersion := 65
  constantPool := pool
  accessFlags := fl
  thisClass := this
  superClass := sup
  interfaces := ifs
  fields := fds
  methods := ms
  attributes := attrs
def plain (name : String) (sup : Option ClassId) : Class where
  name := name
  kind := .ordinary
  loader := none
  accessFlags := 33
  super := sup
  interfaces := #[]
  cf := none
  fields := #[]
  methods := #[]
  instanceTypes := #[]
  staticTypes := #[]
  resolved := #[]
  callSites := []
  init := .initialized
  statics := none
  mirror := none

def pool0 : Array CpInfo := pool [(5, u "<init>"), (0, u "()V"), (1, .class_ 10), (1, u "java/lang/Object")] 113

def k0c0 : Code := { maxStack := 0, maxLocals := 1, code := object_method_1_code, exceptionTable := #[], attributes := #[] }
def k0m0 : Method := { name := "<init>", desc := "()V", sig := { parameters := [], returnType := none }, accessFlags := 1, code := some k0c0 }
/-- java/lang/Object -/
def k0 : Class := { plain "java/lang/Object" none with
  accessFlags := 33
  interfaces := #[]
  cf := some (fileOf pool0 8 #[] #[{ accessFlags := 1, nameIndex := 5, descriptorIndex := 6, attributes := #[] }] 33 0 #[] #[])
  fields := #[]
  methods := #[k0m0]
  instanceTypes := #[]
  staticTypes := #[]
  resolved := Array.replicate 124 none
  statics := none }

def pool1 : Array CpInfo := pool [(2, .class_ 4), (1, u "java/lang/Object"), (0, u "<init>"), (0, u "()V"), (0, .class_ 8), (0, u "com/example/crosstide/crosstide/engine/Order"), (0, .class_ 10), (0, u "com/example/crosstide/crosstide/engine/NewOrder"), (0, .methodref 9 12), (0, .nameAndType 5 13), (0, u "(Lcom/example/crosstide/crosstide/engine/Owner;Ljava/lang/String;Ljava/lang/String;Lcom/example/crosstide/crosstide/book/Side;JJLcom/example/crosstide/crosstide/engine/TimeInForce;Lcom/example/crosstide/crosstide/engine/Prevention;)V"), (0, .methodref 7 15), (0, .nameAndType 5 16), (0, u "(JLcom/example/crosstide/crosstide/engine/NewOrder;)V"), (0, .methodref 7 18), (0, .nameAndType 19 20), (0, u "fill"), (0, u "(JJ)V"), (0, .methodref 7 22), (0, .nameAndType 23 24), (0, u "cumQty"), (0, u "()J"), (0, .methodref 7 26), (0, .nameAndType 27 24), (0, u "leavesQty"), (0, .methodref 7 29), (0, .nameAndType 30 24), (0, u "notional"), (0, .methodref 7 32), (0, .nameAndType 33 24), (0, u "quantity"), (0, .methodref 7 35), (0, .nameAndType 36 24), (0, u "price"), (0, .class_ 38), (0, u "com/example/crosstide/crosstide/engine/OrderFillPinLaw"), (2, u "law"), (0, u "(JJJJJI)Z")] 3

def k1m0 : Method := { name := "<init>", desc := "()V", sig := { parameters := [], returnType := none }, accessFlags := 1, code := none }
def k1c1 : Code := { maxStack := 16, maxLocals := 20, code := code, exceptionTable := #[], attributes := #[] }
def k1m1 : Method := { name := "law", desc := "(JJJJJI)Z", sig := { parameters := [.long, .long, .long, .long, .long, .int], returnType := some .boolean }, accessFlags := 9, code := some k1c1 }
/-- com/example/crosstide/crosstide/engine/OrderFillPinLaw -/
def k1 : Class := { plain "com/example/crosstide/crosstide/engine/OrderFillPinLaw" (some 0) with
  accessFlags := 49
  interfaces := #[]
  cf := some (fileOf pool1 37 #[] #[{ accessFlags := 1, nameIndex := 5, descriptorIndex := 6, attributes := #[] }, { accessFlags := 9, nameIndex := 41, descriptorIndex := 42, attributes := #[] }] 49 2 #[] #[])
  fields := #[]
  methods := #[k1m0, k1m1]
  instanceTypes := #[]
  staticTypes := #[]
  resolved := Array.replicate 46 none
  statics := none }

def pool2 : Array CpInfo := pool [(1, .methodref 2 3), (0, .class_ 4), (0, .nameAndType 5 6), (0, u "java/lang/Object"), (0, u "<init>"), (0, u "()V"), (0, .fieldref 8 9), (0, .class_ 10), (0, .nameAndType 11 12), (0, u "com/example/crosstide/crosstide/engine/Order"), (0, u "id"), (0, u "J"), (0, .methodref 14 15), (0, .class_ 16), (0, .nameAndType 17 18), (0, u "com/example/crosstide/crosstide/engine/NewOrder"), (0, u "owner"), (0, u "()Lcom/example/crosstide/crosstide/engine/Owner;"), (0, .fieldref 8 20), (0, .nameAndType 17 21), (0, u "Lcom/example/crosstide/crosstide/engine/Owner;"), (0, .methodref 14 23), (0, .nameAndType 24 25), (0, u "clOrdId"), (0, u "()Ljava/lang/String;"), (0, .fieldref 8 27), (0, .nameAndType 24 28), (0, u "Ljava/lang/String;"), (0, .methodref 14 30), (0, .nameAndType 31 25), (0, u "symbol"), (0, .fieldref 8 33), (0, .nameAndType 31 28), (0, .methodref 14 35), (0, .nameAndType 36 37), (0, u "side"), (0, u "()Lcom/example/crosstide/crosstide/book/Side;"), (0, .fieldref 8 39), (0, .nameAndType 36 40), (0, u "Lcom/example/crosstide/crosstide/book/Side;"), (0, .methodref 14 42), (0, .nameAndType 43 44), (0, u "quantity"), (0, u "()J"), (0, .fieldref 8 46), (0, .nameAndType 43 12), (0, .fieldref 8 48), (0, .nameAndType 49 12), (0, u "leavesQty"), (0, .methodref 14 51), (0, .nameAndType 52 44), (0, u "price"), (0, .fieldref 8 54), (0, .nameAndType 52 12), (0, .methodref 14 56), (0, .nameAndType 57 58), (0, u "timeInForce"), (0, u "()Lcom/example/crosstide/crosstide/engine/TimeInForce;"), (0, .fieldref 8 60), (0, .nameAndType 57 61), (0, u "Lcom/example/crosstide/crosstide/engine/TimeInForce;"), (0, .methodref 14 63), (0, .nameAndType 64 65), (0, u "prevention"), (0, u "()Lcom/example/crosstide/crosstide/engine/Prevention;"), (0, .fieldref 8 67), (0, .nameAndType 64 68), (0, u "Lcom/example/crosstide/crosstide/engine/Prevention;"), (0, .fieldref 8 70), (0, .nameAndType 71 12), (0, u "cumQty"), (0, .fieldref 8 73), (0, .nameAndType 74 12), (0, u "notional"), (2, u "entry"), (0, u "Lcom/example/crosstide/crosstide/book/OrderBook$Entry;"), (8, u "(JLcom/example/crosstide/crosstide/engine/NewOrder;)V"), (6, u "fill"), (0, u "(JJ)V")] 13

def k2c0 : Code := { maxStack := 3, maxLocals := 4, code := prog_39_method_1_code, exceptionTable := #[], attributes := #[] }
def k2m0 : Method := { name := "<init>", desc := "(JLcom/example/crosstide/crosstide/engine/NewOrder;)V", sig := { parameters := [.long, (.object "com/example/crosstide/crosstide/engine/NewOrder")], returnType := none }, accessFlags := 0, code := some k2c0 }
def k2c1 : Code := { maxStack := 2, maxLocals := 1, code := prog_39_method_7_code, exceptionTable := #[], attributes := #[] }
def k2m1 : Method := { name := "quantity", desc := "()J", sig := { parameters := [], returnType := some .long }, accessFlags := 1, code := some k2c1 }
def k2c2 : Code := { maxStack := 2, maxLocals := 1, code := prog_39_method_8_code, exceptionTable := #[], attributes := #[] }
def k2m2 : Method := { name := "price", desc := "()J", sig := { parameters := [], returnType := some .long }, accessFlags := 1, code := some k2c2 }
def k2c3 : Code := { maxStack := 2, maxLocals := 1, code := prog_39_method_11_code, exceptionTable := #[], attributes := #[] }
def k2m3 : Method := { name := "cumQty", desc := "()J", sig := { parameters := [], returnType := some .long }, accessFlags := 1, code := some k2c3 }
def k2c4 : Code := { maxStack := 2, maxLocals := 1, code := prog_39_method_12_code, exceptionTable := #[], attributes := #[] }
def k2m4 : Method := { name := "leavesQty", desc := "()J", sig := { parameters := [], returnType := some .long }, accessFlags := 1, code := some k2c4 }
def k2c5 : Code := { maxStack := 2, maxLocals := 1, code := prog_39_method_13_code, exceptionTable := #[], attributes := #[] }
def k2m5 : Method := { name := "notional", desc := "()J", sig := { parameters := [], returnType := some .long }, accessFlags := 1, code := some k2c5 }
def k2c6 : Code := { maxStack := 7, maxLocals := 5, code := prog_39_method_16_code, exceptionTable := #[], attributes := #[] }
def k2m6 : Method := { name := "fill", desc := "(JJ)V", sig := { parameters := [.long, .long], returnType := none }, accessFlags := 0, code := some k2c6 }
/-- com/example/crosstide/crosstide/engine/Order -/
def k2 : Class := { plain "com/example/crosstide/crosstide/engine/Order" (some 0) with
  accessFlags := 49
  interfaces := #[]
  cf := some (fileOf pool2 8 #[] #[{ accessFlags := 0, nameIndex := 5, descriptorIndex := 87, attributes := #[] }, { accessFlags := 1, nameIndex := 43, descriptorIndex := 44, attributes := #[] }, { accessFlags := 1, nameIndex := 52, descriptorIndex := 44, attributes := #[] }, { accessFlags := 1, nameIndex := 71, descriptorIndex := 44, attributes := #[] }, { accessFlags := 1, nameIndex := 49, descriptorIndex := 44, attributes := #[] }, { accessFlags := 1, nameIndex := 74, descriptorIndex := 44, attributes := #[] }, { accessFlags := 0, nameIndex := 94, descriptorIndex := 95, attributes := #[] }] 49 2 #[] #[{ accessFlags := 18, nameIndex := 11, descriptorIndex := 12, attributes := #[] }, { accessFlags := 18, nameIndex := 17, descriptorIndex := 21, attributes := #[] }, { accessFlags := 18, nameIndex := 31, descriptorIndex := 28, attributes := #[] }, { accessFlags := 18, nameIndex := 36, descriptorIndex := 40, attributes := #[] }, { accessFlags := 18, nameIndex := 57, descriptorIndex := 61, attributes := #[] }, { accessFlags := 18, nameIndex := 64, descriptorIndex := 68, attributes := #[] }, { accessFlags := 2, nameIndex := 24, descriptorIndex := 28, attributes := #[] }, { accessFlags := 2, nameIndex := 52, descriptorIndex := 12, attributes := #[] }, { accessFlags := 2, nameIndex := 43, descriptorIndex := 12, attributes := #[] }, { accessFlags := 2, nameIndex := 71, descriptorIndex := 12, attributes := #[] }, { accessFlags := 2, nameIndex := 49, descriptorIndex := 12, attributes := #[] }, { accessFlags := 2, nameIndex := 74, descriptorIndex := 12, attributes := #[] }, { accessFlags := 0, nameIndex := 77, descriptorIndex := 78, attributes := #[] }])
  fields := #[{ name := "id", type := .long, accessFlags := 18, slot := 0, constantValue := 0 }, { name := "owner", type := (.object "com/example/crosstide/crosstide/engine/Owner"), accessFlags := 18, slot := 1, constantValue := 0 }, { name := "symbol", type := (.object "java/lang/String"), accessFlags := 18, slot := 2, constantValue := 0 }, { name := "side", type := (.object "com/example/crosstide/crosstide/book/Side"), accessFlags := 18, slot := 3, constantValue := 0 }, { name := "timeInForce", type := (.object "com/example/crosstide/crosstide/engine/TimeInForce"), accessFlags := 18, slot := 4, constantValue := 0 }, { name := "prevention", type := (.object "com/example/crosstide/crosstide/engine/Prevention"), accessFlags := 18, slot := 5, constantValue := 0 }, { name := "clOrdId", type := (.object "java/lang/String"), accessFlags := 2, slot := 6, constantValue := 0 }, { name := "price", type := .long, accessFlags := 2, slot := 7, constantValue := 0 }, { name := "quantity", type := .long, accessFlags := 2, slot := 8, constantValue := 0 }, { name := "cumQty", type := .long, accessFlags := 2, slot := 9, constantValue := 0 }, { name := "leavesQty", type := .long, accessFlags := 2, slot := 10, constantValue := 0 }, { name := "notional", type := .long, accessFlags := 2, slot := 11, constantValue := 0 }, { name := "entry", type := (.object "com/example/crosstide/crosstide/book/OrderBook$Entry"), accessFlags := 0, slot := 12, constantValue := 0 }]
  methods := #[k2m0, k2m1, k2m2, k2m3, k2m4, k2m5, k2m6]
  instanceTypes := #[.long, (.object "com/example/crosstide/crosstide/engine/Owner"), (.object "java/lang/String"), (.object "com/example/crosstide/crosstide/book/Side"), (.object "com/example/crosstide/crosstide/engine/TimeInForce"), (.object "com/example/crosstide/crosstide/engine/Prevention"), (.object "java/lang/String"), .long, .long, .long, .long, .long, (.object "com/example/crosstide/crosstide/book/OrderBook$Entry")]
  staticTypes := #[]
  resolved := Array.replicate 109 none
  statics := none }

def pool3 : Array CpInfo := pool [(1, .methodref 2 3), (0, .class_ 4), (0, .nameAndType 5 6), (0, u "java/lang/Object"), (0, u "<init>"), (0, u "()V"), (0, .class_ 8), (0, u "java/lang/Record")] 13

def k3c0 : Code := { maxStack := 1, maxLocals := 1, code := jdk_30_method_1_code, exceptionTable := #[], attributes := #[] }
def k3m0 : Method := { name := "<init>", desc := "()V", sig := { parameters := [], returnType := none }, accessFlags := 4, code := some k3c0 }
/-- java/lang/Record -/
def k3 : Class := { plain "java/lang/Record" (some 0) with
  accessFlags := 1057
  interfaces := #[]
  cf := some (fileOf pool3 7 #[] #[{ accessFlags := 4, nameIndex := 5, descriptorIndex := 6, attributes := #[] }] 1057 2 #[] #[])
  fields := #[]
  methods := #[k3m0]
  instanceTypes := #[]
  staticTypes := #[]
  resolved := Array.replicate 22 none
  statics := none }

def pool4 : Array CpInfo := pool [(1, .methodref 2 3), (0, .class_ 4), (0, .nameAndType 5 6), (0, u "java/lang/Record"), (0, u "<init>"), (0, u "()V"), (0, .fieldref 8 9), (0, .class_ 10), (0, .nameAndType 11 12), (0, u "com/example/crosstide/crosstide/engine/NewOrder"), (0, u "owner"), (0, u "Lcom/example/crosstide/crosstide/engine/Owner;"), (0, .fieldref 8 14), (0, .nameAndType 15 16), (0, u "clOrdId"), (0, u "Ljava/lang/String;"), (0, .fieldref 8 18), (0, .nameAndType 19 16), (0, u "symbol"), (0, .fieldref 8 21), (0, .nameAndType 22 23), (0, u "side"), (0, u "Lcom/example/crosstide/crosstide/book/Side;"), (0, .fieldref 8 25), (0, .nameAndType 26 27), (0, u "quantity"), (0, u "J"), (0, .fieldref 8 29), (0, .nameAndType 30 27), (0, u "price"), (0, .fieldref 8 32), (0, .nameAndType 33 34), (0, u "timeInForce"), (0, u "Lcom/example/crosstide/crosstide/engine/TimeInForce;"), (0, .fieldref 8 36), (0, .nameAndType 37 38), (0, u "prevention"), (0, u "Lcom/example/crosstide/crosstide/engine/Prevention;"), (12, u "(Lcom/example/crosstide/crosstide/engine/Owner;Ljava/lang/String;Ljava/lang/String;Lcom/example/crosstide/crosstide/book/Side;JJLcom/example/crosstide/crosstide/engine/TimeInForce;Lcom/example/crosstide/crosstide/engine/Prevention;)V"), (3, u "()Ljava/lang/String;"), (2, u "()Lcom/example/crosstide/crosstide/engine/Owner;"), (0, u "()Lcom/example/crosstide/crosstide/book/Side;"), (0, u "()J"), (0, u "()Lcom/example/crosstide/crosstide/engine/TimeInForce;"), (0, u "()Lcom/example/crosstide/crosstide/engine/Prevention;")] 27

def k4c0 : Code := { maxStack := 3, maxLocals := 11, code := prog_38_method_1_code, exceptionTable := #[], attributes := #[] }
def k4m0 : Method := { name := "<init>", desc := "(Lcom/example/crosstide/crosstide/engine/Owner;Ljava/lang/String;Ljava/lang/String;Lcom/example/crosstide/crosstide/book/Side;JJLcom/example/crosstide/crosstide/engine/TimeInForce;Lcom/example/crosstide/crosstide/engine/Prevention;)V", sig := { parameters := [(.object "com/example/crosstide/crosstide/engine/Owner"), (.object "java/lang/String"), (.object "java/lang/String"), (.object "com/example/crosstide/crosstide/book/Side"), .long, .long, (.object "com/example/crosstide/crosstide/engine/TimeInForce"), (.object "com/example/crosstide/crosstide/engine/Prevention")], returnType := none }, accessFlags := 1, code := some k4c0 }
def k4c1 : Code := { maxStack := 1, maxLocals := 1, code := prog_38_method_5_code, exceptionTable := #[], attributes := #[] }
def k4m1 : Method := { name := "owner", desc := "()Lcom/example/crosstide/crosstide/engine/Owner;", sig := { parameters := [], returnType := some (.object "com/example/crosstide/crosstide/engine/Owner") }, accessFlags := 1, code := some k4c1 }
def k4c2 : Code := { maxStack := 1, maxLocals := 1, code := prog_38_method_6_code, exceptionTable := #[], attributes := #[] }
def k4m2 : Method := { name := "clOrdId", desc := "()Ljava/lang/String;", sig := { parameters := [], returnType := some (.object "java/lang/String") }, accessFlags := 1, code := some k4c2 }
def k4c3 : Code := { maxStack := 1, maxLocals := 1, code := prog_38_method_7_code, exceptionTable := #[], attributes := #[] }
def k4m3 : Method := { name := "symbol", desc := "()Ljava/lang/String;", sig := { parameters := [], returnType := some (.object "java/lang/String") }, accessFlags := 1, code := some k4c3 }
def k4c4 : Code := { maxStack := 1, maxLocals := 1, code := prog_38_method_8_code, exceptionTable := #[], attributes := #[] }
def k4m4 : Method := { name := "side", desc := "()Lcom/example/crosstide/crosstide/book/Side;", sig := { parameters := [], returnType := some (.object "com/example/crosstide/crosstide/book/Side") }, accessFlags := 1, code := some k4c4 }
def k4c5 : Code := { maxStack := 2, maxLocals := 1, code := prog_38_method_9_code, exceptionTable := #[], attributes := #[] }
def k4m5 : Method := { name := "quantity", desc := "()J", sig := { parameters := [], returnType := some .long }, accessFlags := 1, code := some k4c5 }
def k4c6 : Code := { maxStack := 2, maxLocals := 1, code := prog_38_method_10_code, exceptionTable := #[], attributes := #[] }
def k4m6 : Method := { name := "price", desc := "()J", sig := { parameters := [], returnType := some .long }, accessFlags := 1, code := some k4c6 }
def k4c7 : Code := { maxStack := 1, maxLocals := 1, code := prog_38_method_11_code, exceptionTable := #[], attributes := #[] }
def k4m7 : Method := { name := "timeInForce", desc := "()Lcom/example/crosstide/crosstide/engine/TimeInForce;", sig := { parameters := [], returnType := some (.object "com/example/crosstide/crosstide/engine/TimeInForce") }, accessFlags := 1, code := some k4c7 }
def k4c8 : Code := { maxStack := 1, maxLocals := 1, code := prog_38_method_12_code, exceptionTable := #[], attributes := #[] }
def k4m8 : Method := { name := "prevention", desc := "()Lcom/example/crosstide/crosstide/engine/Prevention;", sig := { parameters := [], returnType := some (.object "com/example/crosstide/crosstide/engine/Prevention") }, accessFlags := 1, code := some k4c8 }
/-- com/example/crosstide/crosstide/engine/NewOrder -/
def k4 : Class := { plain "com/example/crosstide/crosstide/engine/NewOrder" (some 3) with
  accessFlags := 49
  interfaces := #[]
  cf := some (fileOf pool4 8 #[] #[{ accessFlags := 1, nameIndex := 5, descriptorIndex := 51, attributes := #[] }, { accessFlags := 1, nameIndex := 11, descriptorIndex := 58, attributes := #[] }, { accessFlags := 1, nameIndex := 15, descriptorIndex := 55, attributes := #[] }, { accessFlags := 1, nameIndex := 19, descriptorIndex := 55, attributes := #[] }, { accessFlags := 1, nameIndex := 22, descriptorIndex := 59, attributes := #[] }, { accessFlags := 1, nameIndex := 26, descriptorIndex := 60, attributes := #[] }, { accessFlags := 1, nameIndex := 30, descriptorIndex := 60, attributes := #[] }, { accessFlags := 1, nameIndex := 33, descriptorIndex := 61, attributes := #[] }, { accessFlags := 1, nameIndex := 37, descriptorIndex := 62, attributes := #[] }] 49 2 #[] #[{ accessFlags := 18, nameIndex := 11, descriptorIndex := 12, attributes := #[] }, { accessFlags := 18, nameIndex := 15, descriptorIndex := 16, attributes := #[] }, { accessFlags := 18, nameIndex := 19, descriptorIndex := 16, attributes := #[] }, { accessFlags := 18, nameIndex := 22, descriptorIndex := 23, attributes := #[] }, { accessFlags := 18, nameIndex := 26, descriptorIndex := 27, attributes := #[] }, { accessFlags := 18, nameIndex := 30, descriptorIndex := 27, attributes := #[] }, { accessFlags := 18, nameIndex := 33, descriptorIndex := 34, attributes := #[] }, { accessFlags := 18, nameIndex := 37, descriptorIndex := 38, attributes := #[] }])
  fields := #[{ name := "owner", type := (.object "com/example/crosstide/crosstide/engine/Owner"), accessFlags := 18, slot := 0, constantValue := 0 }, { name := "clOrdId", type := (.object "java/lang/String"), accessFlags := 18, slot := 1, constantValue := 0 }, { name := "symbol", type := (.object "java/lang/String"), accessFlags := 18, slot := 2, constantValue := 0 }, { name := "side", type := (.object "com/example/crosstide/crosstide/book/Side"), accessFlags := 18, slot := 3, constantValue := 0 }, { name := "quantity", type := .long, accessFlags := 18, slot := 4, constantValue := 0 }, { name := "price", type := .long, accessFlags := 18, slot := 5, constantValue := 0 }, { name := "timeInForce", type := (.object "com/example/crosstide/crosstide/engine/TimeInForce"), accessFlags := 18, slot := 6, constantValue := 0 }, { name := "prevention", type := (.object "com/example/crosstide/crosstide/engine/Prevention"), accessFlags := 18, slot := 7, constantValue := 0 }]
  methods := #[k4m0, k4m1, k4m2, k4m3, k4m4, k4m5, k4m6, k4m7, k4m8]
  instanceTypes := #[(.object "com/example/crosstide/crosstide/engine/Owner"), (.object "java/lang/String"), (.object "java/lang/String"), (.object "com/example/crosstide/crosstide/book/Side"), .long, .long, (.object "com/example/crosstide/crosstide/engine/TimeInForce"), (.object "com/example/crosstide/crosstide/engine/Prevention")]
  staticTypes := #[]
  resolved := Array.replicate 90 none
  statics := none }

def pool5 : Array CpInfo := pool [(1, u "java/lang/Cloneable"), (0, .class_ 1), (0, u "java/lang/Object"), (0, .class_ 3)] 3

/-- java/lang/Cloneable -/
def k5 : Class := { plain "java/lang/Cloneable" (some 0) with
  accessFlags := 1537
  interfaces := #[]
  cf := some (fileOf pool5 2 #[] #[] 1537 4 #[] #[])
  fields := #[]
  methods := #[]
  instanceTypes := #[]
  staticTypes := #[]
  resolved := Array.replicate 8 none
  statics := none }

def pool6 : Array CpInfo := pool [(1, u "java/io/Serializable"), (0, .class_ 1), (0, u "java/lang/Object"), (0, .class_ 3)] 3

/-- java/io/Serializable -/
def k6 : Class := { plain "java/io/Serializable" (some 0) with
  accessFlags := 1537
  interfaces := #[]
  cf := some (fileOf pool6 2 #[] #[] 1537 4 #[] #[])
  fields := #[]
  methods := #[]
  instanceTypes := #[]
  staticTypes := #[]
  resolved := Array.replicate 8 none
  statics := none }

/-- the primitive byte -/
def k7 : Class := { plain "byte" none with kind := .primitive 'B', accessFlags := 0x411 }
/-- [B -/
def k8 : Class := { plain "[B" (some 0) with kind := .array 7 .byte, interfaces := #[5, 6], accessFlags := 1041 }

/-- the primitive int -/
def k9 : Class := { plain "int" none with kind := .primitive 'I', accessFlags := 0x411 }
/-- [I -/
def k10 : Class := { plain "[I" (some 0) with kind := .array 9 .int, interfaces := #[5, 6], accessFlags := 1041 }

def heap : Heap := #[]
def classes : Array Class := #[k0, k1, k2, k3, k4, k5, k6, k7, k8, k9, k10]
def interned : List (Array UInt16 × Addr) := []
def slotsUsed : Nat := 0
def theMethod : MethodId := ⟨1, 1⟩
def args0 : Array Value := #[.long 5, .long 300, .long 7, .long 10, .long 3, .int 3]
def aboutOver (below : List Frame) : State where
  vm := { classes := classes, interned := interned.toArray }
  heap := heap
  slotsUsed := slotsUsed
  threads := #[{ frames := .invoking theMethod args0 :: below }]
def below0 : List Frame := [.native { method := ⟨0, 0⟩, args := #[] }]
def about1 : State := aboutOver below0
def p0 : Program := .bare "" "" ""
def e0 : Env := launch0.env 0 0 0
theorem w_frames : about1.frames = Frame.invoking theMethod args0 :: below0 := rfl
set_option maxRecDepth 65536 in
theorem w_args : argsFit about1.vm theMethod args0 = true := by decide +kernel
set_option maxRecDepth 65536 in
theorem w_heap : heapFits about1 = true := by decide +kernel
set_option maxRecDepth 65536 in
theorem w_runnable : about1.curStatus? = some .runnable := by decide +kernel
set_option maxRecDepth 65536 in
theorem w_alone : about1.alone = true := by decide +kernel
set_option maxRecDepth 65536 in
theorem w_named : about1.methodNamed? x = some theMethod := by decide +kernel
set_option maxRecDepth 65536 in
theorem w_hears : about1.hears theMethod below0 = true := by decide +kernel
set_option maxRecDepth 65536 in
theorem w_ripe : about1.ripe theMethod args0 below0 = true := by decide +kernel
theorem w_running : about1.status = .running := rfl
set_option maxRecDepth 65536 in
theorem w_room : about1.hasRoom e0.platform room_1 = true :=
  launch0.hasRoom_least _ room_1 (by decide +kernel) (by decide +kernel) (by decide +kernel) (by decide +kernel) (by decide +kernel) (by decide +kernel)
theorem allAtoms_all (ts : List Jvm.Cond) (a : Array Jvm.Value) (st : Jvm.State) : (allAtoms ts).before a st = ts.all (fun c => c.before a st) := by
  induction ts with
  | nil => rfl
  | cons c t ih =>
    show (Jvm.Cond.and c (allAtoms t)).before a st = _
    rw [Jvm.Cond.before_and, ih, List.all_cons]
def words1 : List Jvm.Cond := Jvm.Cond.code x code maxLocals ret :: tables_1
/-- a 'code' word, met by the world's own term for the bytes: nothing is compared byte by byte -/
theorem code_word {y : MethodName} {bytes : ByteArray} {mx : Nat} {rt : Option FieldType} {a : Array Value} {s : State} {m : MethodId} {meth : Method} {c : Code} (h1 : s.methodNamed? y = some m) (h2 : s.vm.method? m = some meth) (h3 : meth.code = some c) (h4 : c.code = bytes)
    (h5 : (c.maxLocals == mx && c.exceptionTable.isEmpty && decide (c.maxStack ≤ mostOperands) && decide (meth.sig.returnType = rt) && !meth.locks && decide (parseMethodDescriptor y.desc = some meth.sig)) = true) : (Jvm.Cond.code y bytes mx rt).before a s = true := by
  simp only [Bool.and_eq_true, beq_iff_eq, Bool.not_eq_true', decide_eq_true_eq] at h5
  obtain ⟨⟨⟨⟨⟨g1, g2⟩, g3⟩, g4⟩, g5⟩, g6⟩ := h5
  simp [Cond.before, Cond.holds, Cond.value, h1, h2, h3, h4, g1, g2, g3, g4, g5, g6]
def isCode : Jvm.Cond → Bool
  | .code _ _ _ _ => true
  | _ => false
theorem all_split {L : List Jvm.Cond} {P : Jvm.Cond → Bool} (h1 : L.all (fun c => isCode c || P c) = true) (h2 : ∀ c ∈ L.filter isCode, P c = true) : L.all P = true := by
  refine List.all_eq_true.mpr fun c hc => ?_
  have h := List.all_eq_true.mp h1 c hc
  rcases Bool.eq_false_or_eq_true (isCode c) with hi | hi
  · exact h2 c (List.mem_filter.mpr ⟨hc, hi⟩)
  · simpa [hi] using h
set_option maxRecDepth 65536 in
theorem w_c0 : (Jvm.Cond.code x code maxLocals ret).before args0 about1 = true := code_word (m := ⟨1, 1⟩) (meth := k1m1) (c := k1c1) (by decide +kernel) rfl rfl rfl (by decide +kernel)
set_option maxRecDepth 65536 in
theorem w_c1 : (Jvm.Cond.code ({ cls := "com/example/crosstide/crosstide/engine/NewOrder", name := "<init>", desc := "(Lcom/example/crosstide/crosstide/engine/Owner;Ljava/lang/String;Ljava/lang/String;Lcom/example/crosstide/crosstide/book/Side;JJLcom/example/crosstide/crosstide/engine/TimeInForce;Lcom/example/crosstide/crosstide/engine/Prevention;)V" } : Jvm.MethodName) prog_38_method_1_code (11 : Nat) (Option.none : Option Jvm.ClassFile.FieldType)).before args0 about1 = true := code_word (m := ⟨4, 0⟩) (meth := k4m0) (c := k4c0) (by decide +kernel) rfl rfl rfl (by decide +kernel)
set_option maxRecDepth 65536 in
theorem w_c2 : (Jvm.Cond.code ({ cls := "java/lang/Record", name := "<init>", desc := "()V" } : Jvm.MethodName) jdk_30_method_1_code (1 : Nat) (Option.none : Option Jvm.ClassFile.FieldType)).before args0 about1 = true := code_word (m := ⟨3, 0⟩) (meth := k3m0) (c := k3c0) (by decide +kernel) rfl rfl rfl (by decide +kernel)
set_option maxRecDepth 65536 in
theorem w_c3 : (Jvm.Cond.code ({ cls := "java/lang/Object", name := "<init>", desc := "()V" } : Jvm.MethodName) object_method_1_code (1 : Nat) (Option.none : Option Jvm.ClassFile.FieldType)).before args0 about1 = true := code_word (m := ⟨0, 0⟩) (meth := k0m0) (c := k0c0) (by decide +kernel) rfl rfl rfl (by decide +kernel)
set_option maxRecDepth 65536 in
theorem w_c4 : (Jvm.Cond.code ({ cls := "com/example/crosstide/crosstide/engine/Order", name := "<init>", desc := "(JLcom/example/crosstide/crosstide/engine/NewOrder;)V" } : Jvm.MethodName) prog_39_method_1_code (4 : Nat) (Option.none : Option Jvm.ClassFile.FieldType)).before args0 about1 = true := code_word (m := ⟨2, 0⟩) (meth := k2m0) (c := k2c0) (by decide +kernel) rfl rfl rfl (by decide +kernel)
set_option maxRecDepth 65536 in
theorem w_c5 : (Jvm.Cond.code ({ cls := "com/example/crosstide/crosstide/engine/NewOrder", name := "owner", desc := "()Lcom/example/crosstide/crosstide/engine/Owner;" } : Jvm.MethodName) prog_38_method_5_code (1 : Nat) (Option.some (Jvm.ClassFile.FieldType.object "com/example/crosstide/crosstide/engine/Owner"))).before args0 about1 = true := code_word (m := ⟨4, 1⟩) (meth := k4m1) (c := k4c1) (by decide +kernel) rfl rfl rfl (by decide +kernel)
set_option maxRecDepth 65536 in
theorem w_c6 : (Jvm.Cond.code ({ cls := "com/example/crosstide/crosstide/engine/NewOrder", name := "clOrdId", desc := "()Ljava/lang/String;" } : Jvm.MethodName) prog_38_method_6_code (1 : Nat) (Option.some (Jvm.ClassFile.FieldType.object "java/lang/String"))).before args0 about1 = true := code_word (m := ⟨4, 2⟩) (meth := k4m2) (c := k4c2) (by decide +kernel) rfl rfl rfl (by decide +kernel)
set_option maxRecDepth 65536 in
theorem w_c7 : (Jvm.Cond.code ({ cls := "com/example/crosstide/crosstide/engine/NewOrder", name := "symbol", desc := "()Ljava/lang/String;" } : Jvm.MethodName) prog_38_method_7_code (1 : Nat) (Option.some (Jvm.ClassFile.FieldType.object "java/lang/String"))).before args0 about1 = true := code_word (m := ⟨4, 3⟩) (meth := k4m3) (c := k4c3) (by decide +kernel) rfl rfl rfl (by decide +kernel)
set_option maxRecDepth 65536 in
theorem w_c8 : (Jvm.Cond.code ({ cls := "com/example/crosstide/crosstide/engine/NewOrder", name := "side", desc := "()Lcom/example/crosstide/crosstide/book/Side;" } : Jvm.MethodName) prog_38_method_8_code (1 : Nat) (Option.some (Jvm.ClassFile.FieldType.object "com/example/crosstide/crosstide/book/Side"))).before args0 about1 = true := code_word (m := ⟨4, 4⟩) (meth := k4m4) (c := k4c4) (by decide +kernel) rfl rfl rfl (by decide +kernel)
set_option maxRecDepth 65536 in
theorem w_c9 : (Jvm.Cond.code ({ cls := "com/example/crosstide/crosstide/engine/NewOrder", name := "quantity", desc := "()J" } : Jvm.MethodName) prog_38_method_9_code (1 : Nat) (Option.some Jvm.ClassFile.FieldType.long)).before args0 about1 = true := code_word (m := ⟨4, 5⟩) (meth := k4m5) (c := k4c5) (by decide +kernel) rfl rfl rfl (by decide +kernel)
set_option maxRecDepth 65536 in
theorem w_c10 : (Jvm.Cond.code ({ cls := "com/example/crosstide/crosstide/engine/NewOrder", name := "price", desc := "()J" } : Jvm.MethodName) prog_38_method_10_code (1 : Nat) (Option.some Jvm.ClassFile.FieldType.long)).before args0 about1 = true := code_word (m := ⟨4, 6⟩) (meth := k4m6) (c := k4c6) (by decide +kernel) rfl rfl rfl (by decide +kernel)
set_option maxRecDepth 65536 in
theorem w_c11 : (Jvm.Cond.code ({ cls := "com/example/crosstide/crosstide/engine/NewOrder", name := "timeInForce", desc := "()Lcom/example/crosstide/crosstide/engine/TimeInForce;" } : Jvm.MethodName) prog_38_method_11_code (1 : Nat) (Option.some (Jvm.ClassFile.FieldType.object "com/example/crosstide/crosstide/engine/TimeInForce"))).before args0 about1 = true := code_word (m := ⟨4, 7⟩) (meth := k4m7) (c := k4c7) (by decide +kernel) rfl rfl rfl (by decide +kernel)
set_option maxRecDepth 65536 in
theorem w_c12 : (Jvm.Cond.code ({ cls := "com/example/crosstide/crosstide/engine/NewOrder", name := "prevention", desc := "()Lcom/example/crosstide/crosstide/engine/Prevention;" } : Jvm.MethodName) prog_38_method_12_code (1 : Nat) (Option.some (Jvm.ClassFile.FieldType.object "com/example/crosstide/crosstide/engine/Prevention"))).before args0 about1 = true := code_word (m := ⟨4, 8⟩) (meth := k4m8) (c := k4c8) (by decide +kernel) rfl rfl rfl (by decide +kernel)
set_option maxRecDepth 65536 in
theorem w_c13 : (Jvm.Cond.code ({ cls := "com/example/crosstide/crosstide/engine/Order", name := "fill", desc := "(JJ)V" } : Jvm.MethodName) prog_39_method_16_code (5 : Nat) (Option.none : Option Jvm.ClassFile.FieldType)).before args0 about1 = true := code_word (m := ⟨2, 6⟩) (meth := k2m6) (c := k2c6) (by decide +kernel) rfl rfl rfl (by decide +kernel)
set_option maxRecDepth 65536 in
theorem w_c14 : (Jvm.Cond.code ({ cls := "com/example/crosstide/crosstide/engine/Order", name := "cumQty", desc := "()J" } : Jvm.MethodName) prog_39_method_11_code (1 : Nat) (Option.some Jvm.ClassFile.FieldType.long)).before args0 about1 = true := code_word (m := ⟨2, 3⟩) (meth := k2m3) (c := k2c3) (by decide +kernel) rfl rfl rfl (by decide +kernel)
set_option maxRecDepth 65536 in
theorem w_c15 : (Jvm.Cond.code ({ cls := "com/example/crosstide/crosstide/engine/Order", name := "leavesQty", desc := "()J" } : Jvm.MethodName) prog_39_method_12_code (1 : Nat) (Option.some Jvm.ClassFile.FieldType.long)).before args0 about1 = true := code_word (m := ⟨2, 4⟩) (meth := k2m4) (c := k2c4) (by decide +kernel) rfl rfl rfl (by decide +kernel)
set_option maxRecDepth 65536 in
theorem w_c16 : (Jvm.Cond.code ({ cls := "com/example/crosstide/crosstide/engine/Order", name := "notional", desc := "()J" } : Jvm.MethodName) prog_39_method_13_code (1 : Nat) (Option.some Jvm.ClassFile.FieldType.long)).before args0 about1 = true := code_word (m := ⟨2, 5⟩) (meth := k2m5) (c := k2c5) (by decide +kernel) rfl rfl rfl (by decide +kernel)
set_option maxRecDepth 65536 in
theorem w_c17 : (Jvm.Cond.code ({ cls := "com/example/crosstide/crosstide/engine/Order", name := "quantity", desc := "()J" } : Jvm.MethodName) prog_39_method_7_code (1 : Nat) (Option.some Jvm.ClassFile.FieldType.long)).before args0 about1 = true := code_word (m := ⟨2, 1⟩) (meth := k2m1) (c := k2c1) (by decide +kernel) rfl rfl rfl (by decide +kernel)
set_option maxRecDepth 65536 in
theorem w_c18 : (Jvm.Cond.code ({ cls := "com/example/crosstide/crosstide/engine/Order", name := "price", desc := "()J" } : Jvm.MethodName) prog_39_method_8_code (1 : Nat) (Option.some Jvm.ClassFile.FieldType.long)).before args0 about1 = true := code_word (m := ⟨2, 2⟩) (meth := k2m2) (c := k2c2) (by decide +kernel) rfl rfl rfl (by decide +kernel)
def codes1 : List Jvm.Cond := [Jvm.Cond.code x code maxLocals ret, Jvm.Cond.code ({ cls := "com/example/crosstide/crosstide/engine/NewOrder", name := "<init>", desc := "(Lcom/example/crosstide/crosstide/engine/Owner;Ljava/lang/String;Ljava/lang/String;Lcom/example/crosstide/crosstide/book/Side;JJLcom/example/crosstide/crosstide/engine/TimeInForce;Lcom/example/crosstide/crosstide/engine/Prevention;)V" } : Jvm.MethodName) prog_38_method_1_code (11 : Nat) (Option.none : Option Jvm.ClassFile.FieldType), Jvm.Cond.code ({ cls := "java/lang/Record", name := "<init>", desc := "()V" } : Jvm.MethodName) jdk_30_method_1_code (1 : Nat) (Option.none : Option Jvm.ClassFile.FieldType), Jvm.Cond.code ({ cls := "java/lang/Object", name := "<init>", desc := "()V" } : Jvm.MethodName) object_method_1_code (1 : Nat) (Option.none : Option Jvm.ClassFile.FieldType), Jvm.Cond.code ({ cls := "com/example/crosstide/crosstide/engine/Order", name := "<init>", desc := "(JLcom/example/crosstide/crosstide/engine/NewOrder;)V" } : Jvm.MethodName) prog_39_method_1_code (4 : Nat) (Option.none : Option Jvm.ClassFile.FieldType), Jvm.Cond.code ({ cls := "com/example/crosstide/crosstide/engine/NewOrder", name := "owner", desc := "()Lcom/example/crosstide/crosstide/engine/Owner;" } : Jvm.MethodName) prog_38_method_5_code (1 : Nat) (Option.some (Jvm.ClassFile.FieldType.object "com/example/crosstide/crosstide/engine/Owner")), Jvm.Cond.code ({ cls := "com/example/crosstide/crosstide/engine/NewOrder", name := "clOrdId", desc := "()Ljava/lang/String;" } : Jvm.MethodName) prog_38_method_6_code (1 : Nat) (Option.some (Jvm.ClassFile.FieldType.object "java/lang/String")), Jvm.Cond.code ({ cls := "com/example/crosstide/crosstide/engine/NewOrder", name := "symbol", desc := "()Ljava/lang/String;" } : Jvm.MethodName) prog_38_method_7_code (1 : Nat) (Option.some (Jvm.ClassFile.FieldType.object "java/lang/String")), Jvm.Cond.code ({ cls := "com/example/crosstide/crosstide/engine/NewOrder", name := "side", desc := "()Lcom/example/crosstide/crosstide/book/Side;" } : Jvm.MethodName) prog_38_method_8_code (1 : Nat) (Option.some (Jvm.ClassFile.FieldType.object "com/example/crosstide/crosstide/book/Side")), Jvm.Cond.code ({ cls := "com/example/crosstide/crosstide/engine/NewOrder", name := "quantity", desc := "()J" } : Jvm.MethodName) prog_38_method_9_code (1 : Nat) (Option.some Jvm.ClassFile.FieldType.long), Jvm.Cond.code ({ cls := "com/example/crosstide/crosstide/engine/NewOrder", name := "price", desc := "()J" } : Jvm.MethodName) prog_38_method_10_code (1 : Nat) (Option.some Jvm.ClassFile.FieldType.long), Jvm.Cond.code ({ cls := "com/example/crosstide/crosstide/engine/NewOrder", name := "timeInForce", desc := "()Lcom/example/crosstide/crosstide/engine/TimeInForce;" } : Jvm.MethodName) prog_38_method_11_code (1 : Nat) (Option.some (Jvm.ClassFile.FieldType.object "com/example/crosstide/crosstide/engine/TimeInForce")), Jvm.Cond.code ({ cls := "com/example/crosstide/crosstide/engine/NewOrder", name := "prevention", desc := "()Lcom/example/crosstide/crosstide/engine/Prevention;" } : Jvm.MethodName) prog_38_method_12_code (1 : Nat) (Option.some (Jvm.ClassFile.FieldType.object "com/example/crosstide/crosstide/engine/Prevention")), Jvm.Cond.code ({ cls := "com/example/crosstide/crosstide/engine/Order", name := "fill", desc := "(JJ)V" } : Jvm.MethodName) prog_39_method_16_code (5 : Nat) (Option.none : Option Jvm.ClassFile.FieldType), Jvm.Cond.code ({ cls := "com/example/crosstide/crosstide/engine/Order", name := "cumQty", desc := "()J" } : Jvm.MethodName) prog_39_method_11_code (1 : Nat) (Option.some Jvm.ClassFile.FieldType.long), Jvm.Cond.code ({ cls := "com/example/crosstide/crosstide/engine/Order", name := "leavesQty", desc := "()J" } : Jvm.MethodName) prog_39_method_12_code (1 : Nat) (Option.some Jvm.ClassFile.FieldType.long), Jvm.Cond.code ({ cls := "com/example/crosstide/crosstide/engine/Order", name := "notional", desc := "()J" } : Jvm.MethodName) prog_39_method_13_code (1 : Nat) (Option.some Jvm.ClassFile.FieldType.long), Jvm.Cond.code ({ cls := "com/example/crosstide/crosstide/engine/Order", name := "quantity", desc := "()J" } : Jvm.MethodName) prog_39_method_7_code (1 : Nat) (Option.some Jvm.ClassFile.FieldType.long), Jvm.Cond.code ({ cls := "com/example/crosstide/crosstide/engine/Order", name := "price", desc := "()J" } : Jvm.MethodName) prog_39_method_8_code (1 : Nat) (Option.some Jvm.ClassFile.FieldType.long)]
set_option maxRecDepth 65536 in
theorem codes_eq : words1.filter isCode = codes1 := rfl
theorem w_codes : ∀ c ∈ words1.filter isCode, c.before args0 about1 = true := by
  rw [codes_eq]
  intro c hc
  simp only [codes1, List.mem_cons, List.not_mem_nil, or_false] at hc
  rcases hc with rfl | rfl | rfl | rfl | rfl | rfl | rfl | rfl | rfl | rfl | rfl | rfl | rfl | rfl | rfl | rfl | rfl | rfl | rfl
  · exact w_c0
  · exact w_c1
  · exact w_c2
  · exact w_c3
  · exact w_c4
  · exact w_c5
  · exact w_c6
  · exact w_c7
  · exact w_c8
  · exact w_c9
  · exact w_c10
  · exact w_c11
  · exact w_c12
  · exact w_c13
  · exact w_c14
  · exact w_c15
  · exact w_c16
  · exact w_c17
  · exact w_c18
set_option maxRecDepth 65536 in
theorem w_t1 : (words1.take 24).all (fun c => isCode c || c.before args0 about1) = true := by decide +kernel
set_option maxRecDepth 65536 in
theorem w_t2 : ((words1.drop 24).take 24).all (fun c => isCode c || c.before args0 about1) = true := by decide +kernel
set_option maxRecDepth 65536 in
theorem w_t3 : (((words1.drop 24).drop 24).take 24).all (fun c => isCode c || c.before args0 about1) = true := by decide +kernel
set_option maxRecDepth 65536 in
theorem w_t4 : ((((words1.drop 24).drop 24).drop 24).take 24).all (fun c => isCode c || c.before args0 about1) = true := by decide +kernel
set_option maxRecDepth 65536 in
theorem w_t5 : (((((words1.drop 24).drop 24).drop 24).drop 24).take 24).all (fun c => isCode c || c.before args0 about1) = true := by decide +kernel
set_option maxRecDepth 65536 in
theorem w_t6 : (((((words1.drop 24).drop 24).drop 24).drop 24).drop 24).all (fun c => isCode c || c.before args0 about1) = true := by decide +kernel
theorem w_tables : (allAtoms (Jvm.Cond.code x code maxLocals ret :: tables_1)).before args0 about1 = true := by
  rw [allAtoms_all]
  show words1.all (fun c => c.before args0 about1) = true
  refine all_split ?_ w_codes
  rw [← List.take_append_drop 24 words1, List.all_append, w_t1, ← List.take_append_drop 24 (words1.drop 24), List.all_append, w_t2, ← List.take_append_drop 24 ((words1.drop 24).drop 24), List.all_append, w_t3, ← List.take_append_drop 24 (((words1.drop 24).drop 24).drop 24), List.all_append, w_t4, ← List.take_append_drop 24 ((((words1.drop 24).drop 24).drop 24).drop 24), List.all_append, w_t5, w_t6]
  rfl
set_option maxRecDepth 65536 in
theorem w_case : (Jvm.Cond.and given_1 narrow_1).before args0 about1 = true := by decide +kernel
theorem w_applies : (headSpec (Jvm.Cond.code x code maxLocals ret :: tables_1) room_1).applies x e0.platform about1 = true :=
  (Spec.applies_iff w_frames).mpr ⟨w_running, w_runnable, w_alone, w_named, w_hears, w_ripe, w_room, w_tables⟩
theorem atStart : AtStart classFile x code maxLocals ret World_1 tables_1 room_1 Calls_1 rest_1 Pre_1 launch0 p0 e0 about1 theMethod args0 below0 :=
  ⟨lists_1, trivial, launch0.admits_env _ _ _, launch0.least_env, fairChoices_fair.cas, fairChoices_fair.clock, w_frames, w_args, w_heap, w_applies, trivial, trivial, w_case⟩
end start1
theorem witness_1 : WitnessClaimed_1 := ⟨start1.p0, start1.e0, start1.about1, start1.theMethod, start1.args0, start1.below0, start1.atStart⟩
end Jvm.Pilot.@@N@@
