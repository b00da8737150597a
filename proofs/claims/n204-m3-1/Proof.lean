import JvmDerived
import JvmDerived.Pilot.@@N@@Statement
import JvmDerived.Pilot.@@N@@Code
set_option linter.unusedVariables false
set_option linter.unusedSimpArgs false
namespace Jvm.OwnKit
open Sem ClassFile Op Lib Jvm.Stand Jvm.Free Jvm.LawKit Jvm.RoadKit
/-- from here the run returns; it wrote new cells alone, and what it leaves is as Q says -/
def Goes (p : Program) (e : Env) (s : State) (below : List Frame) (Q : Option Value → Heap → Prop) (n0 C N : Nat) (T : State) (g : JFrame) : Prop :=
  ∃ s₂ o, Steps p.tables e below (T.setTop g) s₂ ∧ s₂.status = .running ∧ Ended s₂ below o ∧ ∃ v L, o = .returned v ∧ (Fr n0 L ∧ Q v s₂.heap) ∧ FrameEnd s o s₂ L C N
/-- a method's contract: entered with these arguments over the heap h it returns as Q says -/
abbrev Con (l : Launch) (y : MethodName) (bytes : ByteArray) (maxL : Nat) (ret : Option FieldType) (ws : List Jvm.Cond) (rm : Room) (Z : State) (as' : Array Value) (h : Heap) (n0 : Nat) (Q : Option Value → Heap → Prop) : Prop :=
  MetFree l y (head1 (Jvm.Cond.code y bytes maxL ret :: ws) rm) (fun a U => a = as' ∧ Z.Warmed39 U.vm ∧ U.heap = h) (fun _ _ _ _ _ => True) (fun _ U o U' => ∃ v L, o = .returned v ∧ (Fr n0 L ∧ Q v U'.heap) ∧ FrameEnd U o U' L rm.cells rm.slots)
section Laws
variable {p : Program} {l : Launch} {e : Env} {R : Room} {s : State} {m : MethodId} {args : Array Value} {below : List Frame} {meth : Method} {c : Code} {T T' : State} {locs : List Loc} {cells slots : Nat} {Z : State} {h : Heap} {a0 : Array Value} {Q : Option Value → Heap → Prop} {n0 C N pc pc' : Nat} {Ls Ls' : Array Slot} {st : List Value} {g g' : JFrame}
theorem Goes.go (k : ∀ t, Steps p.tables e below (T'.setTop g') t → Steps p.tables e below (T.setTop g) t) (h : Goes p e s below Q n0 C N T' g') : Goes p e s below Q n0 C N T g := by
  obtain ⟨s₂, o, h1, h2⟩ := h; exact ⟨s₂, o, k _ h1, h2⟩
/-- what opens every body's walk -/
theorem con_of {y : MethodName} {bytes : ByteArray} {maxL : Nat} {ret : Option FieldType} {ws : List Jvm.Cond} {rm : Room} {as' : Array Value} {Ls0 : Array Slot} (hn : plainFor y = true) (hef : ∀ m, entryFrame m as' maxL = mkF m 0 Ls0 [])
    (body : ∀ (p : Program) (e : Env) (s : State) (m : MethodId) (below : List Frame) (meth : Method) (c : Code) (s₁ : State), Stand p l e rm s m as' below meth c s₁ [] 0 0 → p.tables.exec = Jvm.exec → c.code = bytes → c.maxLocals = maxL → Z.Warmed39 s.vm → s.vm.findClass y.cls = some m.cls → meth.name = y.name → meth.sig.returnType = ret → meth.locks = false → s₁.heap = h → Fr n0 [] →
      Goes p e s below Q n0 rm.cells rm.slots s₁ (mkF m 0 Ls0 [])) : Con l y bytes maxL ret ws rm Z as' h n0 Q := by
  refine MetFree.of_bodySF hn hisR ?_
  intro p e s m args below meth c s₁ Bd hml0 hP hK
  obtain ⟨rfl, hZ, hh⟩ := hP
  have e0 : s₁.heap = h := by rw [← hh, Bd.state]; rfl
  have q := body p e s m below meth c s₁ (Stand.of_body Bd) Bd.exec Bd.bytes hml0 hZ (findClass_of_methodNamed Bd.named) (name_of_methodNamed Bd.named Bd.method).1 Bd.returns Bd.notSynchronized e0 (Fr.nil n0)
  rw [hef m]
  exact q
/-- a return -/
theorem g_ret (X : Stand p l e R s m args below meth c T locs cells slots) (hx : p.tables.exec = Jvm.exec) (hlk : meth.locks = false) {w : Value} {t : FieldType} {i : Instr} (hret : meth.sig.returnType = some t) (hn : narrow t w = w)
    (hi : (i = .ireturn ∧ (t = .int ∨ t = .boolean ∨ t = .byte ∨ t = .char ∨ t = .short) ∧ ∃ z, w = .int z) ∨ (i = .lreturn ∧ t = .long ∧ ∃ z, w = .long z) ∨ (i = .dreturn ∧ t = .double ∧ ∃ z, w = .double z) ∨ (i = .freturn ∧ t = .float ∧ ∃ z, w = .float z) ∨ (i = .areturn ∧ t.isReference = true ∧ w.isRef = true))
    (hd : decode c.code pc = .ok (i, 1)) (hN : Fr n0 locs) (hc : cells ≤ C) (hs : slots ≤ N) (hQ : Q (some w) T.heap) : Goes p e s below Q n0 C N T (mkF m pc Ls (w :: st)) := by
  obtain ⟨fs, hr, hrun, hended, hW, hsame⟩ := X.leave (v := some w) (fun z => by rw [hret] at z; cases z)
  exact ⟨_, _, retOut X hx hret hn hi hd hr, hrun, hended, _, _, rfl, ⟨hN, hQ⟩, ⟨_, rfl⟩, hW, hsame.mono hc hs⟩
theorem g_retI (X : Stand p l e R s m args below meth c T locs cells slots) (hx : p.tables.exec = Jvm.exec) (hlk : meth.locks = false) {z : Int32} (hret : meth.sig.returnType = some .int) (hd : decode c.code pc = .ok (.ireturn, 1)) (hN : Fr n0 locs) (hc : cells ≤ C) (hs : slots ≤ N) (hQ : Q (some (.int z)) T.heap) : Goes p e s below Q n0 C N T (mkF m pc Ls (.int z :: st)) :=
  g_ret X hx hlk hret rfl (Or.inl ⟨rfl, Or.inl rfl, _, rfl⟩) hd hN hc hs hQ
theorem g_retZ (X : Stand p l e R s m args below meth c T locs cells slots) (hx : p.tables.exec = Jvm.exec) (hlk : meth.locks = false) {z : Int32} (hz : z &&& 1 = z) (hret : meth.sig.returnType = some .boolean) (hd : decode c.code pc = .ok (.ireturn, 1)) (hN : Fr n0 locs) (hc : cells ≤ C) (hs : slots ≤ N) (hQ : Q (some (.int z)) T.heap) : Goes p e s below Q n0 C N T (mkF m pc Ls (.int z :: st)) :=
  g_ret X hx hlk hret (congrArg Value.int hz) (Or.inl ⟨rfl, Or.inr (Or.inl rfl), _, rfl⟩) hd hN hc hs hQ
theorem g_retJ (X : Stand p l e R s m args below meth c T locs cells slots) (hx : p.tables.exec = Jvm.exec) (hlk : meth.locks = false) {z : Int64} (hret : meth.sig.returnType = some .long) (hd : decode c.code pc = .ok (.lreturn, 1)) (hN : Fr n0 locs) (hc : cells ≤ C) (hs : slots ≤ N) (hQ : Q (some (.long z)) T.heap) : Goes p e s below Q n0 C N T (mkF m pc Ls (.long z :: st)) :=
  g_ret X hx hlk hret rfl (Or.inr (Or.inl ⟨rfl, rfl, _, rfl⟩)) hd hN hc hs hQ
theorem g_retA (X : Stand p l e R s m args below meth c T locs cells slots) (hx : p.tables.exec = Jvm.exec) (hlk : meth.locks = false) {v : Value} {t : FieldType} (hret : meth.sig.returnType = some t) (ht : t.isReference = true) (hn : narrow t v = v) (hv : v.isRef = true) (hd : decode c.code pc = .ok (.areturn, 1)) (hN : Fr n0 locs) (hc : cells ≤ C) (hs : slots ≤ N) (hQ : Q (some v) T.heap) : Goes p e s below Q n0 C N T (mkF m pc Ls (v :: st)) :=
  g_ret X hx hlk hret hn (Or.inr (Or.inr (Or.inr (Or.inr ⟨rfl, ht, hv⟩)))) hd hN hc hs hQ
theorem g_retV (X : Stand p l e R s m args below meth c T locs cells slots) (hx : p.tables.exec = Jvm.exec) (hlk : meth.locks = false) (hret : meth.sig.returnType = none) (hd : decode c.code pc = .ok (.return_, 1)) (hN : Fr n0 locs) (hc : cells ≤ C) (hs : slots ≤ N) (hQ : Q none T.heap) : Goes p e s below Q n0 C N T (mkF m pc Ls []) := by
  obtain ⟨fs, hr, hrun, hended, hW, hsame⟩ := X.leave (v := none) (fun _ => rfl)
  exact ⟨_, _, X.returnOut hx hret hd hr, hrun, hended, _, _, rfl, ⟨hN, hQ⟩, ⟨_, rfl⟩, hW, hsame.mono hc hs⟩
/-! fields and objects -/
theorem g_getF (X : Stand p l e R s m args below meth c T locs cells slots) (hx : p.tables.exec = Jvm.exec) (hZ : Z.Warmed39 s.vm) {own O n d : String} {i : Nat} (hown : s.vm.findClass own = some m.cls) (w : (Cond.fieldLink own i O n d).before a0 Z = true) (eT : T.heap = h) {a : Addr} {v : Value} (F : Fld Z h a O n d v) (hd : decode c.code pc = .ok (.getfield i, 3)) (hp : pc + 3 = pc')
    (k : ∀ T', Stand p l e R s m args below meth c T' locs cells slots → T'.heap = h → Goes p e s below Q n0 C N T' (mkF m pc' Ls (v :: st))) : Goes p e s below Q n0 C N T (mkF m pc Ls (.ref a :: st)) := by
  subst hp
  obtain ⟨T', X', e', st'⟩ := getF X hx hZ hown (host := "") (Or.inl w) Via.refl eT F (g := mkF m pc Ls (.ref a :: st)) rfl rfl hd
  exact (k T' X' e').go st'
theorem g_putF (X : Stand p l e R s m args below meth c T locs cells slots) (hx : p.tables.exec = Jvm.exec) (hZ : Z.Warmed39 s.vm) {own O n d K : String} {i kk : Nat} {ty : FieldType} (hown : s.vm.findClass own = some m.cls) (w : (Cond.fieldLink own i O n d).before a0 Z = true) (eT : T.heap = h) {a : Addr} {v old : Value} (F : Fld Z h a O n d old) (E : Exa Z h a K) (L : (Cond.lays K O n d).before a0 Z = true ∨ ((Cond.laysFinal K O n d).before a0 Z = true ∧ own = O ∧ meth.name = "<init>")) (wi : (Cond.instantiable K kk).before a0 Z = true)
    (hty : parseFieldDescriptor d = some ty) (hn : narrow ty v = v) (hf : fits ty v = true) (hN : Fr n0 locs) (ha : n0 ≤ a) (hd : decode c.code pc = .ok (.putfield i, 3)) (hp : pc + 3 = pc')
    (k : ∀ T' h' locs', Stand p l e R s m args below meth c T' locs' cells slots → T'.heap = h' → Wr h h' a (RoadKit.slotOf Z O n d) v → Fr n0 locs' → Goes p e s below Q n0 C N T' (mkF m pc' Ls st)) : Goes p e s below Q n0 C N T (mkF m pc Ls (v :: .ref a :: st)) := by
  subst hp
  obtain ⟨T', h', X', e', W', st'⟩ := putF X hx hZ hown (host := "") (Or.inl w) Via.refl eT F E L wi hty hn hf (g := mkF m pc Ls (v :: .ref a :: st)) rfl rfl hd
  exact (k T' h' _ X' e' W' (Fr.snoc X' hN ha)).go st'
theorem g_new (X : Stand p l e R s m args below meth c T locs cells slots) (hx : p.tables.exec = Jvm.exec) (hZ : Z.Warmed39 s.vm) {own K : String} {i n : Nat} (hown : s.vm.findClass own = some m.cls) (w : (Cond.classLink own i K).before a0 Z = true) (wi : (Cond.instantiable K n).before a0 Z = true) (wz : (Cond.initialized K).before a0 Z = true) (eT : T.heap = h) (hd : decode c.code pc = .ok (.new i, 3)) (hc : cells + 1 ≤ R.cells) (hl : slots + n ≤ R.slots) (hp : pc + 3 = pc')
    (k : ∀ T' h' a, a = h.size → Stand p l e R s m args below meth c T' locs (cells + 1) (slots + n) → T'.heap = h' → Ext h h' → a < h'.size → Exa Z h' a K → (∀ {O nm d : String} {ty : FieldType}, Laid Z a0 K O nm d → parseFieldDescriptor d = some ty → Fld Z h' a O nm d (defaultValue ty)) → Goes p e s below Q n0 C N T' (mkF m pc' Ls (.ref a :: st))) : Goes p e s below Q n0 C N T (mkF m pc Ls st) := by
  subst hp
  obtain ⟨T', h', X', e', E', A', D', -, st'⟩ := newO X hx hZ hown w wi wz eT (g := mkF m pc Ls st) rfl hd hc hl
  exact (k T' h' h.size rfl X' e' E' A'.lt A' D').go st'
theorem g_initO (X : Stand p l e R s m args below meth c T locs cells slots) (hx : p.tables.exec = Jvm.exec) (hZ : Z.Warmed39 s.vm) {own : String} {i : Nat} (hown : s.vm.findClass own = some m.cls) (w1 : (Cond.methodLink own i Lib.objectInit).before a0 Z = true) (w2 : (Cond.instanceMethod Lib.objectInit).before a0 Z = true) (w3 : (Cond.code Lib.objectInit ⟨#[0xb1]⟩ 1 none).before a0 Z = true) (eT : T.heap = h) (hsz : Ls.size = c.maxLocals) {a : Addr} (hd : decode c.code pc = .ok (.invokespecial i, 3))
    (hf : 1 ≤ R.frames) {W : Nat} (hW : (st.map fun v => v.category).sum ≤ W) (hl : W + 12 ≤ R.locals) (hp : pc + 3 = pc')
    (k : ∀ T', Stand p l e R s m args below meth c T' locs cells slots → T'.heap = h → Goes p e s below Q n0 C N T' (mkF m pc' Ls st)) : Goes p e s below Q n0 C N T (mkF m pc Ls (.ref a :: st)) := by
  subst hp
  obtain ⟨T', X', e', st'⟩ := initO X hx hZ hown w1 w2 w3 eT (g := mkF m pc Ls (.ref a :: st)) rfl hsz rfl hd hf (W := W) (by show 2 * 0 + _ ≤ _; omega) hl
  exact (k T' X' e').go st'
theorem g_getS (X : Stand p l e R s m args below meth c T locs cells slots) (hx : p.tables.exec = Jvm.exec) (hZ : Z.Warmed39 s.vm) {own O n d : String} {i : Nat} (hown : s.vm.findClass own = some m.cls) (w : (Cond.fieldLink own i O n d).before a0 Z = true) (eT : T.heap = h) {v : Value} (F : Sta Z h O n d v) (hd : decode c.code pc = .ok (.getstatic i, 3)) (hp : pc + 3 = pc')
    (k : ∀ T', Stand p l e R s m args below meth c T' locs cells slots → T'.heap = h → Goes p e s below Q n0 C N T' (mkF m pc' Ls (v :: st))) : Goes p e s below Q n0 C N T (mkF m pc Ls st) := by
  subst hp
  obtain ⟨T', X', e', st'⟩ := getS X hx hZ hown (host := "") w Via.refl eT F (g := mkF m pc Ls st) rfl hd
  exact (k T' X' e').go st'
theorem g_ldcF (X : Stand p l e R s m args below meth c T locs cells slots) (hx : p.tables.exec = Jvm.exec) (hZ : Z.Warmed39 s.vm) {own : String} {i : Nat} {b : UInt32} (hown : s.vm.findClass own = some m.cls) (w : (Cond.constantFloat own i b).before a0 Z = true) (hd : decode c.code pc = .ok (.ldc i, 2)) (hp : pc + 2 = pc')
    (k : Goes p e s below Q n0 C N T (mkF m pc' Ls (.float b :: st))) : Goes p e s below Q n0 C N T (mkF m pc Ls st) := by
  subst hp
  exact k.go fun t q => X.ldcFloatC hx hown (mvT hZ w) (g := mkF m pc Ls st) rfl hd t q
/-! calls: the callee's contract pays -/
theorem g_static (X : Stand p l e R s m args below meth c T locs cells slots) (hx : p.tables.exec = Jvm.exec) (hZ : Z.Warmed39 s.vm) {own : String} {i : Nat} {y : MethodName} {bytes : ByteArray} {maxL : Nat} {ret : Option FieldType} (hown : s.vm.findClass own = some m.cls) (w1 : (Cond.methodLink own i y).before a0 Z = true) (w2 : (Cond.static y).before a0 Z = true) (w3 : (Cond.initialized y.cls).before a0 Z = true) (w4 : (Cond.code y bytes maxL ret).before a0 Z = true) (hy : y.cls ≠ "java/lang/invoke/MethodHandle" ∧ y.cls ≠ "java/lang/invoke/VarHandle")
    {rm : Room} {argsL : List Value} {as' : Array Value} {Qy : Option Value → Heap → Prop} (hM : Con l y bytes maxL ret [] rm Z as' h n0 Qy) (has : argsL.toArray = as') (eT : T.heap = h) (hsz : Ls.size = c.maxLocals) {ps : List FieldType} {rt : Option FieldType} (pd : parseMethodDescriptor y.desc = some ⟨ps, rt⟩) (hlen : argsL.length = ps.length) {rest : List Value} (hst : st = argsL.reverse ++ rest) {W : Nat} (hW : (rest.map fun v => v.category).sum ≤ W)
    (hf : rm.frames + 1 ≤ R.frames) (hl : W + (maxL + 11) + rm.locals ≤ R.locals) (hc : cells + rm.cells ≤ R.cells) (hs : slots + rm.slots ≤ R.slots) (hN : Fr n0 locs) (hd : decode c.code pc = .ok (.invokestatic i, 3)) (hp : pc + 3 = pc')
    (k : ∀ v T' locs', Stand p l e R s m args below meth c T' locs' (cells + rm.cells) (slots + rm.slots) → Fr n0 locs' → Qy v T'.heap → Goes p e s below Q n0 C N T' (mkF m pc' Ls (v.toList ++ rest))) : Goes p e s below Q n0 C N T (mkF m pc Ls st) := by
  subst hp has
  obtain ⟨v, _, ⟨T', L', k', n'⟩, -, X', ⟨L, ⟨hNL, hQ⟩, q1, q2, q3⟩, st'⟩ := Jvm.LawKit.callS X hx (y := y) hown (mvT hZ w1) (mvT hZ w2) (mvT hZ w3) (mvT hZ w4) hy (backOf (W := W) (Q := fun v h L => Fr n0 L ∧ Qy v h) hM hZ w4 w3 hf hl) (g := mkF m pc Ls st) rfl hsz (argsL := argsL) (rest := rest) (lenOf pd hlen) hst (by show 2 * 0 + _ ≤ _; omega) hd (fun _ _ => ⟨rfl, eT, hc, hs⟩)
  dsimp only [Pt.U, Pt.locs, Pt.cells, Pt.slots] at X' q1 q2 q3 st' hQ
  subst q1 q2 q3
  exact (k v T' _ X' (Fr.app hN hNL) hQ).go st'
theorem g_special (X : Stand p l e R s m args below meth c T locs cells slots) (hx : p.tables.exec = Jvm.exec) (hZ : Z.Warmed39 s.vm) {own : String} {i : Nat} {y : MethodName} {bytes : ByteArray} {maxL : Nat} (hy1 : y.name = "<init>") (hown : s.vm.findClass own = some m.cls) (w1 : (Cond.methodLink own i y).before a0 Z = true) (w2 : (Cond.instanceMethod y).before a0 Z = true) (w3 : (Cond.initialized y.cls).before a0 Z = true) (w4 : (Cond.code y bytes maxL none).before a0 Z = true) (hy : y.cls ≠ "java/lang/invoke/MethodHandle" ∧ y.cls ≠ "java/lang/invoke/VarHandle")
    {rm : Room} {a : Addr} {argsL : List Value} {as' : Array Value} {Qy : Option Value → Heap → Prop} (hM : Con l y bytes maxL none [] rm Z as' h n0 Qy) (has : (.ref a :: argsL).toArray = as') (eT : T.heap = h) (hsz : Ls.size = c.maxLocals) {ps : List FieldType} {rt : Option FieldType} (pd : parseMethodDescriptor y.desc = some ⟨ps, rt⟩) (hlen : argsL.length = ps.length) {rest : List Value} (hst : st = argsL.reverse ++ .ref a :: rest) {W : Nat} (hW : (rest.map fun v => v.category).sum ≤ W)
    (hf : rm.frames + 1 ≤ R.frames) (hl : W + (maxL + 11) + rm.locals ≤ R.locals) (hc : cells + rm.cells ≤ R.cells) (hs : slots + rm.slots ≤ R.slots) (hN : Fr n0 locs) (hd : decode c.code pc = .ok (.invokespecial i, 3)) (hp : pc + 3 = pc')
    (k : ∀ v T' locs', Stand p l e R s m args below meth c T' locs' (cells + rm.cells) (slots + rm.slots) → Fr n0 locs' → Qy v T'.heap → Goes p e s below Q n0 C N T' (mkF m pc' Ls (v.toList ++ rest))) : Goes p e s below Q n0 C N T (mkF m pc Ls st) := by
  subst hp has
  obtain ⟨v, _, ⟨T', L', k', n'⟩, -, X', ⟨L, ⟨hNL, hQ⟩, q1, q2, q3⟩, st'⟩ := X.specialBack hx (y := y) hy1 hown (mvT hZ w1) (mvT hZ w2) (mvT hZ w4) hy (backOf (W := W) (Q := fun v h L => Fr n0 L ∧ Qy v h) hM hZ w4 w3 hf hl) (g := mkF m pc Ls st) rfl hsz (Steps.refl _) (a := a) (argsL := argsL) (rest := rest) (lenOf pd hlen) hst (by show 2 * 0 + _ ≤ _; omega) hd (fun _ _ => ⟨rfl, eT, hc, hs⟩)
  dsimp only [Pt.U, Pt.locs, Pt.cells, Pt.slots] at X' q1 q2 q3 st' hQ
  subst q1 q2 q3
  exact (k v T' _ X' (Fr.app hN hNL) hQ).go fun _ z => st'.trans z
theorem g_virtual (X : Stand p l e R s m args below meth c T locs cells slots) (hx : p.tables.exec = Jvm.exec) (hZ : Z.Warmed39 s.vm) {own K : String} {i : Nat} {y : MethodName} {bytes : ByteArray} {maxL : Nat} {ret : Option FieldType} (hown : s.vm.findClass own = some m.cls) (w1 : (Cond.methodLink own i y).before a0 Z = true) (w2 : (Cond.declares y).before a0 Z = true) (w5 : (Cond.selects K y y).before a0 Z = true) (w6 : (Cond.instanceMethod y).before a0 Z = true) (w3 : (Cond.initialized y.cls).before a0 Z = true) (w4 : (Cond.code y bytes maxL ret).before a0 Z = true) (hy : y.cls ≠ "java/lang/invoke/MethodHandle" ∧ y.cls ≠ "java/lang/invoke/VarHandle")
    {rm : Room} {a : Addr} {argsL : List Value} {as' : Array Value} {Qy : Option Value → Heap → Prop} (hM : Con l y bytes maxL ret [] rm Z as' h n0 Qy) (has : (.ref a :: argsL).toArray = as') (eT : T.heap = h) (E : Exa Z h a K) (hsz : Ls.size = c.maxLocals) {ps : List FieldType} {rt : Option FieldType} (pd : parseMethodDescriptor y.desc = some ⟨ps, rt⟩) (hlen : argsL.length = ps.length) {rest : List Value} (hst : st = argsL.reverse ++ .ref a :: rest) {W : Nat} (hW : (rest.map fun v => v.category).sum ≤ W)
    (hf : rm.frames + 1 ≤ R.frames) (hl : W + (maxL + 11) + rm.locals ≤ R.locals) (hc : cells + rm.cells ≤ R.cells) (hs : slots + rm.slots ≤ R.slots) (hN : Fr n0 locs) (hd : decode c.code pc = .ok (.invokevirtual i, 3)) (hp : pc + 3 = pc')
    (k : ∀ v T' locs', Stand p l e R s m args below meth c T' locs' (cells + rm.cells) (slots + rm.slots) → Fr n0 locs' → Qy v T'.heap → Goes p e s below Q n0 C N T' (mkF m pc' Ls (v.toList ++ rest))) : Goes p e s below Q n0 C N T (mkF m pc Ls st) := by
  subst hp has
  obtain ⟨cq, kq, qa, qb, qc⟩ := isOf hZ eT E
  obtain ⟨v, _, ⟨T', L', k', n'⟩, -, X', ⟨L, ⟨hNL, hQ⟩, q1, q2, q3⟩, st'⟩ := X.virtualBack hx (y := y) (z := y) hown (mvT hZ w1) (mvT hZ w2) (notFace_of_selects (args := #[]) (mvT hZ w5)) (mvT hZ w5) (mvT hZ w6) hy (backOf (W := W) (Q := fun v h L => Fr n0 L ∧ Qy v h) hM hZ w4 w3 hf hl) qa qc (g := mkF m pc Ls st) rfl hsz (Steps.refl _) (argsL := argsL) (rest := rest) (lenOf pd hlen) hst (by show 2 * 0 + _ ≤ _; omega) hd (fun _ _ => ⟨rfl, eT, hc, hs⟩)
  dsimp only [Pt.U, Pt.locs, Pt.cells, Pt.slots] at X' q1 q2 q3 st' hQ
  subst q1 q2 q3
  exact (k v T' _ X' (Fr.app hN hNL) hQ).go fun _ z => st'.trans z
/-! int arrays and long arrays, by their values -/
def IA (Z : State) (h : Heap) (a : Addr) (n : Nat) (f : Nat → Int32) : Prop := n < 2147483648 ∧ ∃ c : Cell, Arr Z h a c .int ∧ c.slots.size = n ∧ ∀ i, i < n → c.slots[i]? = some (.int (f i))
def LA (Z : State) (h : Heap) (a : Addr) (n : Nat) (f : Nat → Int64) : Prop := n < 2147483648 ∧ ∃ c : Cell, Arr Z h a c .long ∧ c.slots.size = n ∧ ∀ i, i < n → c.slots[i]? = some (.long (f i))
def zeroI : Nat → Int32 := fun _ => 0
def zeroL : Nat → Int64 := fun _ => 0
def oupd {A : Type} (f : Nat → A) (j : Nat) (v : A) : Nat → A := fun i => if i = j then v else f i
theorem nclamp {j : Int32} {k : Nat} (hj : j.toInt = (k : Int)) : j.toNatClampNeg = k ∧ ¬ j < 0 := by
  refine ⟨by simp only [Int32.toNatClampNeg, hj]; rfl, fun z => ?_⟩
  rw [Int32.lt_iff_toInt_lt, hj] at z; have : (0 : Int32).toInt = 0 := rfl; omega
theorem nin {j : Int32} {k n : Nat} (hj : j.toInt = (k : Int)) (hk : k < n) : ¬ (j < 0 ∨ n ≤ j.toNatClampNeg) := by
  obtain ⟨q1, q2⟩ := nclamp hj; rw [q1]; rintro (z | z)
  · exact q2 z
  · omega
theorem len32 {n : Nat} (hn : n < 2147483648) : (n.toInt32).toInt = (n : Int) := len_toInt hn
theorem g_iloadN (X : Stand p l e R s m args below meth c T locs cells slots) (hx : p.tables.exec = Jvm.exec) {k : Fin 4} {v : Int32} (hd : decode c.code pc = .ok (.iload_n k, 1)) (hl : Ls[k.val]? = some (.val (.int v))) (hp : pc + 1 = pc')
    (k : Goes p e s below Q n0 C N T (mkF m pc' Ls (.int v :: st))) : Goes p e s below Q n0 C N T (mkF m pc Ls (st)) := by
  subst hp; exact k.go fun _ q => XS.iloadN X.here hx rfl hd hl q
theorem g_iload (X : Stand p l e R s m args below meth c T locs cells slots) (hx : p.tables.exec = Jvm.exec) {k : Nat} {v : Int32} (hd : decode c.code pc = .ok (.iload k, 2)) (hl : Ls[k]? = some (.val (.int v))) (hp : pc + 2 = pc')
    (k : Goes p e s below Q n0 C N T (mkF m pc' Ls (.int v :: st))) : Goes p e s below Q n0 C N T (mkF m pc Ls (st)) := by
  subst hp; exact k.go fun _ q => XS.iload X.here hx rfl hd hl q
theorem g_lloadN (X : Stand p l e R s m args below meth c T locs cells slots) (hx : p.tables.exec = Jvm.exec) {k : Fin 4} {v : Int64} (hd : decode c.code pc = .ok (.lload_n k, 1)) (hl : Ls[k.val]? = some (.val (.long v))) (hp : pc + 1 = pc')
    (k : Goes p e s below Q n0 C N T (mkF m pc' Ls (.long v :: st))) : Goes p e s below Q n0 C N T (mkF m pc Ls (st)) := by
  subst hp; exact k.go fun _ q => XT.lloadN X.here hx rfl hd hl q
theorem g_lload (X : Stand p l e R s m args below meth c T locs cells slots) (hx : p.tables.exec = Jvm.exec) {k : Nat} {v : Int64} (hd : decode c.code pc = .ok (.lload k, 2)) (hl : Ls[k]? = some (.val (.long v))) (hp : pc + 2 = pc')
    (k : Goes p e s below Q n0 C N T (mkF m pc' Ls (.long v :: st))) : Goes p e s below Q n0 C N T (mkF m pc Ls (st)) := by
  subst hp; exact k.go fun _ q => XT.lload X.here hx rfl hd hl q
theorem g_aloadN (X : Stand p l e R s m args below meth c T locs cells slots) (hx : p.tables.exec = Jvm.exec) {k : Fin 4} {v : Value} (hd : decode c.code pc = .ok (.aload_n k, 1)) (hl : Ls[k.val]? = some (.val v)) (hv : v.isRef = true) (hp : pc + 1 = pc')
    (k : Goes p e s below Q n0 C N T (mkF m pc' Ls (v :: st))) : Goes p e s below Q n0 C N T (mkF m pc Ls (st)) := by
  subst hp; exact k.go fun _ q => XS.aloadN X.here hx rfl hd hl hv q
theorem g_aload (X : Stand p l e R s m args below meth c T locs cells slots) (hx : p.tables.exec = Jvm.exec) {k : Nat} {v : Value} (hd : decode c.code pc = .ok (.aload k, 2)) (hl : Ls[k]? = some (.val v)) (hv : v.isRef = true) (hp : pc + 2 = pc')
    (k : Goes p e s below Q n0 C N T (mkF m pc' Ls (v :: st))) : Goes p e s below Q n0 C N T (mkF m pc Ls (st)) := by
  subst hp; exact k.go fun _ q => XS.aload X.here hx rfl hd hl hv q
theorem g_istoreN (X : Stand p l e R s m args below meth c T locs cells slots) (hx : p.tables.exec = Jvm.exec) {k : Fin 4} {x : Int32} (hd : decode c.code pc = .ok (.istore_n k, 1)) (hl : storeLocals Ls k.val (.int x) = some Ls') (hp : pc + 1 = pc')
    (k : Goes p e s below Q n0 C N T (mkF m pc' Ls' (st))) : Goes p e s below Q n0 C N T (mkF m pc Ls (.int x :: st)) := by
  subst hp; exact k.go fun _ q => XS.istoreN X.here hx rfl hd rfl hl q
theorem g_istore (X : Stand p l e R s m args below meth c T locs cells slots) (hx : p.tables.exec = Jvm.exec) {k : Nat} {x : Int32} (hd : decode c.code pc = .ok (.istore k, 2)) (hl : storeLocals Ls k (.int x) = some Ls') (hp : pc + 2 = pc')
    (k : Goes p e s below Q n0 C N T (mkF m pc' Ls' (st))) : Goes p e s below Q n0 C N T (mkF m pc Ls (.int x :: st)) := by
  subst hp; exact k.go fun _ q => XS.istore X.here hx rfl hd rfl hl q
theorem g_lstoreN (X : Stand p l e R s m args below meth c T locs cells slots) (hx : p.tables.exec = Jvm.exec) {k : Fin 4} {x : Int64} (hd : decode c.code pc = .ok (.lstore_n k, 1)) (hl : storeLocals Ls k.val (.long x) = some Ls') (hp : pc + 1 = pc')
    (k : Goes p e s below Q n0 C N T (mkF m pc' Ls' (st))) : Goes p e s below Q n0 C N T (mkF m pc Ls (.long x :: st)) := by
  subst hp; exact k.go fun _ q => XT.lstoreN X.here hx rfl hd rfl hl q
theorem g_lstore (X : Stand p l e R s m args below meth c T locs cells slots) (hx : p.tables.exec = Jvm.exec) {k : Nat} {x : Int64} (hd : decode c.code pc = .ok (.lstore k, 2)) (hl : storeLocals Ls k (.long x) = some Ls') (hp : pc + 2 = pc')
    (k : Goes p e s below Q n0 C N T (mkF m pc' Ls' (st))) : Goes p e s below Q n0 C N T (mkF m pc Ls (.long x :: st)) := by
  subst hp; exact k.go fun _ q => XT.lstore X.here hx rfl hd rfl hl q
theorem g_astoreN (X : Stand p l e R s m args below meth c T locs cells slots) (hx : p.tables.exec = Jvm.exec) {k : Fin 4} {x : Value} (hd : decode c.code pc = .ok (.astore_n k, 1)) (hv : x.isRef = true) (hl : storeLocals Ls k.val x = some Ls') (hp : pc + 1 = pc')
    (k : Goes p e s below Q n0 C N T (mkF m pc' Ls' (st))) : Goes p e s below Q n0 C N T (mkF m pc Ls (x :: st)) := by
  subst hp; exact k.go fun _ q => XS.astoreN X.here hx rfl hd rfl hv hl q
theorem g_astore (X : Stand p l e R s m args below meth c T locs cells slots) (hx : p.tables.exec = Jvm.exec) {k : Nat} {x : Value} (hd : decode c.code pc = .ok (.astore k, 2)) (hv : x.isRef = true) (hl : storeLocals Ls k x = some Ls') (hp : pc + 2 = pc')
    (k : Goes p e s below Q n0 C N T (mkF m pc' Ls' (st))) : Goes p e s below Q n0 C N T (mkF m pc Ls (x :: st)) := by
  subst hp; exact k.go fun _ q => XS.astore X.here hx rfl hd rfl hv hl q
theorem g_iinc (X : Stand p l e R s m args below meth c T locs cells slots) (hx : p.tables.exec = Jvm.exec) {k : Nat} {cst : Int} {x v : Int32} (hd : decode c.code pc = .ok (.iinc k cst, 3)) (hv : Int32.ofInt cst = v) (hl : Ls[k]? = some (.val (.int x))) (hl' : storeLocals Ls k (.int (x + v)) = some Ls') (hp : pc + 3 = pc')
    (k : Goes p e s below Q n0 C N T (mkF m pc' Ls' (st))) : Goes p e s below Q n0 C N T (mkF m pc Ls (st)) := by
  subst hp; exact k.go fun _ q => XT.iincV X.here hx rfl v hd hv hl hl' q
theorem g_iconst (X : Stand p l e R s m args below meth c T locs cells slots) (hx : p.tables.exec = Jvm.exec) {i : Int} {v : Int32} (hd : decode c.code pc = .ok (.iconst i, 1)) (hv : Int32.ofInt i = v) (hp : pc + 1 = pc')
    (k : Goes p e s below Q n0 C N T (mkF m pc' Ls (.int v :: st))) : Goes p e s below Q n0 C N T (mkF m pc Ls (st)) := by
  subst hp; exact k.go fun _ q => XT.iconstV X.here hx rfl v hd hv q
theorem g_bipush (X : Stand p l e R s m args below meth c T locs cells slots) (hx : p.tables.exec = Jvm.exec) {i : Int} {v : Int32} (hd : decode c.code pc = .ok (.bipush i, 2)) (hv : (Int8.ofInt i).toInt32 = v) (hp : pc + 2 = pc')
    (k : Goes p e s below Q n0 C N T (mkF m pc' Ls (.int v :: st))) : Goes p e s below Q n0 C N T (mkF m pc Ls (st)) := by
  subst hp; exact k.go fun _ q => XT.bipushV X.here hx rfl v hd hv q
theorem g_sipush (X : Stand p l e R s m args below meth c T locs cells slots) (hx : p.tables.exec = Jvm.exec) {i : Int} {v : Int32} (hd : decode c.code pc = .ok (.sipush i, 3)) (hv : (Int16.ofInt i).toInt32 = v) (hp : pc + 3 = pc')
    (k : Goes p e s below Q n0 C N T (mkF m pc' Ls (.int v :: st))) : Goes p e s below Q n0 C N T (mkF m pc Ls (st)) := by
  subst hp; exact k.go fun _ q => XT.sipushV X.here hx rfl v hd hv q
theorem g_lconst (X : Stand p l e R s m args below meth c T locs cells slots) (hx : p.tables.exec = Jvm.exec) {k : Fin 2} {v : Int64} (hd : decode c.code pc = .ok (.lconst k, 1)) (hv : Int64.ofNat k = v) (hp : pc + 1 = pc')
    (k : Goes p e s below Q n0 C N T (mkF m pc' Ls (.long v :: st))) : Goes p e s below Q n0 C N T (mkF m pc Ls (st)) := by
  subst hp; exact k.go fun _ q => XT.lconstV X.here hx rfl v hd hv q
theorem g_null (X : Stand p l e R s m args below meth c T locs cells slots) (hx : p.tables.exec = Jvm.exec)  (hd : decode c.code pc = .ok (.aconst_null, 1))  (hp : pc + 1 = pc')
    (k : Goes p e s below Q n0 C N T (mkF m pc' Ls (.null :: st))) : Goes p e s below Q n0 C N T (mkF m pc Ls (st)) := by
  subst hp; exact k.go fun _ q => XS.aconstNull X.here hx rfl hd q
theorem g_ldc (X : Stand p l e R s m args below meth c T locs cells slots) (hx : p.tables.exec = Jvm.exec) (hZ : Z.Warmed39 s.vm) {own : String} {i : Nat} (hown : s.vm.findClass own = some m.cls) {v : Int32} (hd : decode c.code pc = .ok (.ldc i, 2)) (w : (Cond.constant own i v).before a0 Z = true) (hp : pc + 2 = pc')
    (k : Goes p e s below Q n0 C N T (mkF m pc' Ls (.int v :: st))) : Goes p e s below Q n0 C N T (mkF m pc Ls (st)) := by
  subst hp; exact k.go fun _ q => X.ldcI hx hown (mvT hZ w) rfl hd q
theorem g_ldcW (X : Stand p l e R s m args below meth c T locs cells slots) (hx : p.tables.exec = Jvm.exec) (hZ : Z.Warmed39 s.vm) {own : String} {i : Nat} (hown : s.vm.findClass own = some m.cls) {v : Int32} (hd : decode c.code pc = .ok (.ldc_w i, 3)) (w : (Cond.constant own i v).before a0 Z = true) (hp : pc + 3 = pc')
    (k : Goes p e s below Q n0 C N T (mkF m pc' Ls (.int v :: st))) : Goes p e s below Q n0 C N T (mkF m pc Ls (st)) := by
  subst hp; exact k.go fun _ q => X.ldcWI hx hown (mvT hZ w) rfl hd q
theorem g_ldc2 (X : Stand p l e R s m args below meth c T locs cells slots) (hx : p.tables.exec = Jvm.exec) (hZ : Z.Warmed39 s.vm) {own : String} {i : Nat} (hown : s.vm.findClass own = some m.cls) {v : Int64} (hd : decode c.code pc = .ok (.ldc2_w i, 3)) (w : (Cond.constantLong own i v).before a0 Z = true) (hp : pc + 3 = pc')
    (k : Goes p e s below Q n0 C N T (mkF m pc' Ls (.long v :: st))) : Goes p e s below Q n0 C N T (mkF m pc Ls (st)) := by
  subst hp; exact k.go fun _ q => X.ldc2J hx hown (mvT hZ w) rfl hd q
theorem g_iadd (X : Stand p l e R s m args below meth c T locs cells slots) (hx : p.tables.exec = Jvm.exec) {x y : Int32} (hd : decode c.code pc = .ok (.iadd, 1))  (hp : pc + 1 = pc')
    (k : Goes p e s below Q n0 C N T (mkF m pc' Ls (.int (x + y) :: st))) : Goes p e s below Q n0 C N T (mkF m pc Ls (.int y :: .int x :: st)) := by
  subst hp; exact k.go fun _ q => XS.iadd X.here hx rfl hd rfl q
theorem g_isub (X : Stand p l e R s m args below meth c T locs cells slots) (hx : p.tables.exec = Jvm.exec) {x y : Int32} (hd : decode c.code pc = .ok (.isub, 1))  (hp : pc + 1 = pc')
    (k : Goes p e s below Q n0 C N T (mkF m pc' Ls (.int (x - y) :: st))) : Goes p e s below Q n0 C N T (mkF m pc Ls (.int y :: .int x :: st)) := by
  subst hp; exact k.go fun _ q => XS.isub X.here hx rfl hd rfl q
theorem g_iand (X : Stand p l e R s m args below meth c T locs cells slots) (hx : p.tables.exec = Jvm.exec) {x y : Int32} (hd : decode c.code pc = .ok (.iand, 1))  (hp : pc + 1 = pc')
    (k : Goes p e s below Q n0 C N T (mkF m pc' Ls (.int (x &&& y) :: st))) : Goes p e s below Q n0 C N T (mkF m pc Ls (.int y :: .int x :: st)) := by
  subst hp; exact k.go fun _ q => XS.iand X.here hx rfl hd rfl q
theorem g_imul (X : Stand p l e R s m args below meth c T locs cells slots) (hx : p.tables.exec = Jvm.exec) {x y : Int32} (hd : decode c.code pc = .ok (.imul, 1))  (hp : pc + 1 = pc')
    (k : Goes p e s below Q n0 C N T (mkF m pc' Ls (.int (x * y) :: st))) : Goes p e s below Q n0 C N T (mkF m pc Ls (.int y :: .int x :: st)) := by
  subst hp; exact k.go fun _ q => XS.imul X.here hx rfl hd rfl q
theorem g_ior (X : Stand p l e R s m args below meth c T locs cells slots) (hx : p.tables.exec = Jvm.exec) {x y : Int32} (hd : decode c.code pc = .ok (.ior, 1))  (hp : pc + 1 = pc')
    (k : Goes p e s below Q n0 C N T (mkF m pc' Ls (.int (x ||| y) :: st))) : Goes p e s below Q n0 C N T (mkF m pc Ls (.int y :: .int x :: st)) := by
  subst hp; exact k.go fun _ q => XT.ior X.here hx rfl hd rfl q
theorem g_ixor (X : Stand p l e R s m args below meth c T locs cells slots) (hx : p.tables.exec = Jvm.exec) {x y : Int32} (hd : decode c.code pc = .ok (.ixor, 1))  (hp : pc + 1 = pc')
    (k : Goes p e s below Q n0 C N T (mkF m pc' Ls (.int (x ^^^ y) :: st))) : Goes p e s below Q n0 C N T (mkF m pc Ls (.int y :: .int x :: st)) := by
  subst hp; exact k.go fun _ q => XT.ixor X.here hx rfl hd rfl q
theorem g_ishl (X : Stand p l e R s m args below meth c T locs cells slots) (hx : p.tables.exec = Jvm.exec) {x y : Int32} (hd : decode c.code pc = .ok (.ishl, 1))  (hp : pc + 1 = pc')
    (k : Goes p e s below Q n0 C N T (mkF m pc' Ls (.int (x <<< (y &&& 31)) :: st))) : Goes p e s below Q n0 C N T (mkF m pc Ls (.int y :: .int x :: st)) := by
  subst hp; exact k.go fun _ q => XT.ishl X.here hx rfl hd rfl q
theorem g_ishr (X : Stand p l e R s m args below meth c T locs cells slots) (hx : p.tables.exec = Jvm.exec) {x y : Int32} (hd : decode c.code pc = .ok (.ishr, 1))  (hp : pc + 1 = pc')
    (k : Goes p e s below Q n0 C N T (mkF m pc' Ls (.int (x >>> (y &&& 31)) :: st))) : Goes p e s below Q n0 C N T (mkF m pc Ls (.int y :: .int x :: st)) := by
  subst hp; exact k.go fun _ q => XT.ishr X.here hx rfl hd rfl q
theorem g_iushr (X : Stand p l e R s m args below meth c T locs cells slots) (hx : p.tables.exec = Jvm.exec) {x y : Int32} (hd : decode c.code pc = .ok (.iushr, 1))  (hp : pc + 1 = pc')
    (k : Goes p e s below Q n0 C N T (mkF m pc' Ls (.int (XT.ushr x y) :: st))) : Goes p e s below Q n0 C N T (mkF m pc Ls (.int y :: .int x :: st)) := by
  subst hp; exact k.go fun _ q => XT.iushr X.here hx rfl hd rfl q
theorem g_ineg (X : Stand p l e R s m args below meth c T locs cells slots) (hx : p.tables.exec = Jvm.exec) {x : Int32} (hd : decode c.code pc = .ok (.ineg, 1))  (hp : pc + 1 = pc')
    (k : Goes p e s below Q n0 C N T (mkF m pc' Ls (.int (-x) :: st))) : Goes p e s below Q n0 C N T (mkF m pc Ls (.int x :: st)) := by
  subst hp; exact k.go fun _ q => XS.ineg X.here hx rfl hd rfl q
theorem g_idiv (X : Stand p l e R s m args below meth c T locs cells slots) (hx : p.tables.exec = Jvm.exec) {x y : Int32} (hd : decode c.code pc = .ok (.idiv, 1)) (hy : y ≠ 0) (hp : pc + 1 = pc')
    (k : Goes p e s below Q n0 C N T (mkF m pc' Ls (.int (x / y) :: st))) : Goes p e s below Q n0 C N T (mkF m pc Ls (.int y :: .int x :: st)) := by
  subst hp; exact k.go fun _ q => XS.idiv X.here hx rfl hd rfl hy q
theorem g_irem (X : Stand p l e R s m args below meth c T locs cells slots) (hx : p.tables.exec = Jvm.exec) {x y : Int32} (hd : decode c.code pc = .ok (.irem, 1)) (hy : y ≠ 0) (hp : pc + 1 = pc')
    (k : Goes p e s below Q n0 C N T (mkF m pc' Ls (.int (x % y) :: st))) : Goes p e s below Q n0 C N T (mkF m pc Ls (.int y :: .int x :: st)) := by
  subst hp; exact k.go fun _ q => iremM X hx rfl hd rfl hy q
theorem g_ladd (X : Stand p l e R s m args below meth c T locs cells slots) (hx : p.tables.exec = Jvm.exec) {x y : Int64} (hd : decode c.code pc = .ok (.ladd, 1))  (hp : pc + 1 = pc')
    (k : Goes p e s below Q n0 C N T (mkF m pc' Ls (.long (x + y) :: st))) : Goes p e s below Q n0 C N T (mkF m pc Ls (.long y :: .long x :: st)) := by
  subst hp; exact k.go fun _ q => XT.ladd X.here hx rfl hd rfl q
theorem g_lsub (X : Stand p l e R s m args below meth c T locs cells slots) (hx : p.tables.exec = Jvm.exec) {x y : Int64} (hd : decode c.code pc = .ok (.lsub, 1))  (hp : pc + 1 = pc')
    (k : Goes p e s below Q n0 C N T (mkF m pc' Ls (.long (x - y) :: st))) : Goes p e s below Q n0 C N T (mkF m pc Ls (.long y :: .long x :: st)) := by
  subst hp; exact k.go fun _ q => XT.lsub X.here hx rfl hd rfl q
theorem g_lmul (X : Stand p l e R s m args below meth c T locs cells slots) (hx : p.tables.exec = Jvm.exec) {x y : Int64} (hd : decode c.code pc = .ok (.lmul, 1))  (hp : pc + 1 = pc')
    (k : Goes p e s below Q n0 C N T (mkF m pc' Ls (.long (x * y) :: st))) : Goes p e s below Q n0 C N T (mkF m pc Ls (.long y :: .long x :: st)) := by
  subst hp; exact k.go fun _ q => XT.lmul X.here hx rfl hd rfl q
theorem g_land (X : Stand p l e R s m args below meth c T locs cells slots) (hx : p.tables.exec = Jvm.exec) {x y : Int64} (hd : decode c.code pc = .ok (.land, 1))  (hp : pc + 1 = pc')
    (k : Goes p e s below Q n0 C N T (mkF m pc' Ls (.long (x &&& y) :: st))) : Goes p e s below Q n0 C N T (mkF m pc Ls (.long y :: .long x :: st)) := by
  subst hp; exact k.go fun _ q => XT.land X.here hx rfl hd rfl q
theorem g_lor (X : Stand p l e R s m args below meth c T locs cells slots) (hx : p.tables.exec = Jvm.exec) {x y : Int64} (hd : decode c.code pc = .ok (.lor, 1))  (hp : pc + 1 = pc')
    (k : Goes p e s below Q n0 C N T (mkF m pc' Ls (.long (x ||| y) :: st))) : Goes p e s below Q n0 C N T (mkF m pc Ls (.long y :: .long x :: st)) := by
  subst hp; exact k.go fun _ q => XT.lor X.here hx rfl hd rfl q
theorem g_lxor (X : Stand p l e R s m args below meth c T locs cells slots) (hx : p.tables.exec = Jvm.exec) {x y : Int64} (hd : decode c.code pc = .ok (.lxor, 1))  (hp : pc + 1 = pc')
    (k : Goes p e s below Q n0 C N T (mkF m pc' Ls (.long (x ^^^ y) :: st))) : Goes p e s below Q n0 C N T (mkF m pc Ls (.long y :: .long x :: st)) := by
  subst hp; exact k.go fun _ q => XT.lxor X.here hx rfl hd rfl q
theorem g_lshl (X : Stand p l e R s m args below meth c T locs cells slots) (hx : p.tables.exec = Jvm.exec) {x : Int64} {y : Int32} (hd : decode c.code pc = .ok (.lshl, 1))  (hp : pc + 1 = pc')
    (k : Goes p e s below Q n0 C N T (mkF m pc' Ls (.long (x <<< (y.toInt64 &&& 63)) :: st))) : Goes p e s below Q n0 C N T (mkF m pc Ls (.int y :: .long x :: st)) := by
  subst hp; exact k.go fun _ q => XT.lshl X.here hx rfl hd rfl q
theorem g_lshr (X : Stand p l e R s m args below meth c T locs cells slots) (hx : p.tables.exec = Jvm.exec) {x : Int64} {y : Int32} (hd : decode c.code pc = .ok (.lshr, 1))  (hp : pc + 1 = pc')
    (k : Goes p e s below Q n0 C N T (mkF m pc' Ls (.long (x >>> (y.toInt64 &&& 63)) :: st))) : Goes p e s below Q n0 C N T (mkF m pc Ls (.int y :: .long x :: st)) := by
  subst hp; exact k.go fun _ q => XT.lshr X.here hx rfl hd rfl q
theorem g_lushr (X : Stand p l e R s m args below meth c T locs cells slots) (hx : p.tables.exec = Jvm.exec) {x : Int64} {y : Int32} (hd : decode c.code pc = .ok (.lushr, 1))  (hp : pc + 1 = pc')
    (k : Goes p e s below Q n0 C N T (mkF m pc' Ls (.long (XT.ushrL x y) :: st))) : Goes p e s below Q n0 C N T (mkF m pc Ls (.int y :: .long x :: st)) := by
  subst hp; exact k.go fun _ q => XT.lushr X.here hx rfl hd rfl q
theorem g_ldiv (X : Stand p l e R s m args below meth c T locs cells slots) (hx : p.tables.exec = Jvm.exec) {x y : Int64} (hd : decode c.code pc = .ok (.ldiv, 1)) (hy : y ≠ 0) (hp : pc + 1 = pc')
    (k : Goes p e s below Q n0 C N T (mkF m pc' Ls (.long (x / y) :: st))) : Goes p e s below Q n0 C N T (mkF m pc Ls (.long y :: .long x :: st)) := by
  subst hp; exact k.go fun _ q => XT.ldiv X.here hx rfl hd rfl hy q
theorem g_lrem (X : Stand p l e R s m args below meth c T locs cells slots) (hx : p.tables.exec = Jvm.exec) {x y : Int64} (hd : decode c.code pc = .ok (.lrem, 1)) (hy : y ≠ 0) (hp : pc + 1 = pc')
    (k : Goes p e s below Q n0 C N T (mkF m pc' Ls (.long (x - (x / y) * y) :: st))) : Goes p e s below Q n0 C N T (mkF m pc Ls (.long y :: .long x :: st)) := by
  subst hp; exact k.go fun _ q => XT.lrem X.here hx rfl hd rfl hy q
theorem g_lneg (X : Stand p l e R s m args below meth c T locs cells slots) (hx : p.tables.exec = Jvm.exec) {x : Int64} (hd : decode c.code pc = .ok (.lneg, 1))  (hp : pc + 1 = pc')
    (k : Goes p e s below Q n0 C N T (mkF m pc' Ls (.long (-x) :: st))) : Goes p e s below Q n0 C N T (mkF m pc Ls (.long x :: st)) := by
  subst hp; exact k.go fun _ q => XT.lneg X.here hx rfl hd rfl q
theorem g_i2l (X : Stand p l e R s m args below meth c T locs cells slots) (hx : p.tables.exec = Jvm.exec) {x : Int32} (hd : decode c.code pc = .ok (.i2l, 1))  (hp : pc + 1 = pc')
    (k : Goes p e s below Q n0 C N T (mkF m pc' Ls (.long x.toInt64 :: st))) : Goes p e s below Q n0 C N T (mkF m pc Ls (.int x :: st)) := by
  subst hp; exact k.go fun _ q => XT.i2l X.here hx rfl hd rfl q
theorem g_l2i (X : Stand p l e R s m args below meth c T locs cells slots) (hx : p.tables.exec = Jvm.exec) {x : Int64} (hd : decode c.code pc = .ok (.l2i, 1))  (hp : pc + 1 = pc')
    (k : Goes p e s below Q n0 C N T (mkF m pc' Ls (.int x.toInt32 :: st))) : Goes p e s below Q n0 C N T (mkF m pc Ls (.long x :: st)) := by
  subst hp; exact k.go fun _ q => XT.l2i X.here hx rfl hd rfl q
theorem g_i2b (X : Stand p l e R s m args below meth c T locs cells slots) (hx : p.tables.exec = Jvm.exec) {x : Int32} (hd : decode c.code pc = .ok (.i2b, 1))  (hp : pc + 1 = pc')
    (k : Goes p e s below Q n0 C N T (mkF m pc' Ls (.int x.toInt8.toInt32 :: st))) : Goes p e s below Q n0 C N T (mkF m pc Ls (.int x :: st)) := by
  subst hp; exact k.go fun _ q => XT.i2b X.here hx rfl hd rfl q
theorem g_dup (X : Stand p l e R s m args below meth c T locs cells slots) (hx : p.tables.exec = Jvm.exec) {v : Value} (hd : decode c.code pc = .ok (.dup, 1)) (hc : v.category = 1) (hp : pc + 1 = pc')
    (k : Goes p e s below Q n0 C N T (mkF m pc' Ls (v :: v :: st))) : Goes p e s below Q n0 C N T (mkF m pc Ls (v :: st)) := by
  subst hp; exact k.go fun _ q => XS.dup X.here hx rfl hd rfl hc q
theorem g_pop (X : Stand p l e R s m args below meth c T locs cells slots) (hx : p.tables.exec = Jvm.exec) {v : Value} (hd : decode c.code pc = .ok (.pop, 1)) (hc : v.category = 1) (hp : pc + 1 = pc')
    (k : Goes p e s below Q n0 C N T (mkF m pc' Ls (st))) : Goes p e s below Q n0 C N T (mkF m pc Ls (v :: st)) := by
  subst hp; exact k.go fun _ q => XT.pop X.here hx rfl hd rfl hc q
theorem g_dupX1 (X : Stand p l e R s m args below meth c T locs cells slots) (hx : p.tables.exec = Jvm.exec) {v w : Value} (hd : decode c.code pc = .ok (.dup_x1, 1)) (hc : v.category = 1) (hc' : w.category = 1) (hp : pc + 1 = pc')
    (k : Goes p e s below Q n0 C N T (mkF m pc' Ls (v :: w :: v :: st))) : Goes p e s below Q n0 C N T (mkF m pc Ls (v :: w :: st)) := by
  subst hp; exact k.go fun _ q => XT.dupX1 X.here hx rfl hd rfl hc hc' q
theorem g_dup2 (X : Stand p l e R s m args below meth c T locs cells slots) (hx : p.tables.exec = Jvm.exec) {v w : Value} (hd : decode c.code pc = .ok (.dup2, 1)) (hc : v.category = 1) (hc' : w.category = 1) (hp : pc + 1 = pc')
    (k : Goes p e s below Q n0 C N T (mkF m pc' Ls (v :: w :: v :: w :: st))) : Goes p e s below Q n0 C N T (mkF m pc Ls (v :: w :: st)) := by
  subst hp; exact k.go fun _ q => XT.dup2 X.here hx rfl hd rfl hc hc' q
theorem g_dup2L (X : Stand p l e R s m args below meth c T locs cells slots) (hx : p.tables.exec = Jvm.exec) {x : Int64} (hd : decode c.code pc = .ok (.dup2, 1))  (hp : pc + 1 = pc')
    (k : Goes p e s below Q n0 C N T (mkF m pc' Ls (.long x :: .long x :: st))) : Goes p e s below Q n0 C N T (mkF m pc Ls (.long x :: st)) := by
  subst hp; exact k.go fun _ q => XT.dup2L X.here hx rfl hd rfl q
theorem g_goto (X : Stand p l e R s m args below meth c T locs cells slots) (hx : p.tables.exec = Jvm.exec) {o : Int} (hd : decode c.code pc = .ok (.goto o, 3)) (ho : 0 ≤ (pc : Int) + o) (hp : ((pc : Int) + o).toNat = pc')
    (k : Goes p e s below Q n0 C N T (mkF m pc' Ls st)) : Goes p e s below Q n0 C N T (mkF m pc Ls st) := k.go fun _ q => XS.goto X.here hx rfl rfl hd ho hp q
theorem g_ii_eq (X : Stand p l e R s m args below meth c T locs cells slots) (hx : p.tables.exec = Jvm.exec) {o : Int} {x y : Int32} {a b : Int} (ha : x.toInt = a) (hb : y.toInt = b) (hd : decode c.code pc = .ok (.if_icmp .eq o, 3)) (ho : 0 ≤ (pc : Int) + o) (hp : ((pc : Int) + o).toNat = pc') {pc2 : Nat} (hp2 : pc + 3 = pc2)
    (kt : a = b → Goes p e s below Q n0 C N T (mkF m pc' Ls st)) (kf : ¬ a = b → Goes p e s below Q n0 C N T (mkF m pc2 Ls st)) : Goes p e s below Q n0 C N T (mkF m pc Ls (.int y :: .int x :: st)) := by
  subst ha hb hp2
  have hw : x = y ↔ x.toInt = y.toInt := Int32.toInt_inj.symm
  by_cases hq : x = y
  · exact (kt (hw.mp hq)).go fun _ q => XS.icmpYes X.here hx rfl rfl hd rfl (XT.ii_eq_t hq) ho hp q
  · exact (kf fun z => hq (hw.mpr z)).go fun _ q => XS.icmpNo X.here hx rfl hd rfl (XT.ii_eq_f hq) q
theorem g_ll_eq (X : Stand p l e R s m args below meth c T locs cells slots) (hx : p.tables.exec = Jvm.exec) {o : Int} {x y : Int64} {a b : Int} (ha : x.toInt = a) (hb : y.toInt = b) (hd1 : decode c.code pc = .ok (.lcmp, 1)) {pc1 : Nat} (hp1 : pc + 1 = pc1) (hd : decode c.code pc1 = .ok (.ifCond .eq o, 3)) (ho : 0 ≤ (pc1 : Int) + o) (hp : ((pc1 : Int) + o).toNat = pc') {pc2 : Nat} (hp2 : pc1 + 3 = pc2)
    (kt : a = b → Goes p e s below Q n0 C N T (mkF m pc' Ls st)) (kf : ¬ a = b → Goes p e s below Q n0 C N T (mkF m pc2 Ls st)) : Goes p e s below Q n0 C N T (mkF m pc Ls (.long y :: .long x :: st)) := by
  subst ha hb hp1 hp2
  refine Goes.go (g' := mkF m (pc + 1) Ls (.int (XT.cmpL x y) :: st)) (fun _ q => XT.lcmp X.here hx rfl hd1 rfl q) ?_
  have hw : x = y ↔ x.toInt = y.toInt := Int64.toInt_inj.symm
  by_cases hq : x = y
  · exact (kt (hw.mp hq)).go fun _ q => XS.ifYes X.here hx rfl rfl hd rfl (XT.ll_eq_t hq) ho hp q
  · exact (kf fun z => hq (hw.mpr z)).go fun _ q => XS.ifNo X.here hx rfl hd rfl (XT.ll_eq_f hq) q
theorem g_i0_eq (X : Stand p l e R s m args below meth c T locs cells slots) (hx : p.tables.exec = Jvm.exec) {o : Int} {x : Int32} {a : Int} (ha : x.toInt = a) (hd : decode c.code pc = .ok (.ifCond .eq o, 3)) (ho : 0 ≤ (pc : Int) + o) (hp : ((pc : Int) + o).toNat = pc') {pc2 : Nat} (hp2 : pc + 3 = pc2)
    (kt : a = 0 → Goes p e s below Q n0 C N T (mkF m pc' Ls st)) (kf : ¬ a = 0 → Goes p e s below Q n0 C N T (mkF m pc2 Ls st)) : Goes p e s below Q n0 C N T (mkF m pc Ls (.int x :: st)) := by
  subst ha hp2
  have hw : x = 0 ↔ x.toInt = 0 := ⟨fun z => by rw [z]; rfl, fun z => Int32.toInt_inj.mp (z.trans rfl)⟩
  by_cases hq : x = 0
  · exact (kt (hw.mp hq)).go fun _ q => XS.ifYes X.here hx rfl rfl hd rfl (XT.i0_eq_t hq) ho hp q
  · exact (kf fun z => hq (hw.mpr z)).go fun _ q => XS.ifNo X.here hx rfl hd rfl (XT.i0_eq_f hq) q
theorem g_ii_ne (X : Stand p l e R s m args below meth c T locs cells slots) (hx : p.tables.exec = Jvm.exec) {o : Int} {x y : Int32} {a b : Int} (ha : x.toInt = a) (hb : y.toInt = b) (hd : decode c.code pc = .ok (.if_icmp .ne o, 3)) (ho : 0 ≤ (pc : Int) + o) (hp : ((pc : Int) + o).toNat = pc') {pc2 : Nat} (hp2 : pc + 3 = pc2)
    (kt : ¬ a = b → Goes p e s below Q n0 C N T (mkF m pc' Ls st)) (kf : a = b → Goes p e s below Q n0 C N T (mkF m pc2 Ls st)) : Goes p e s below Q n0 C N T (mkF m pc Ls (.int y :: .int x :: st)) := by
  subst ha hb hp2
  have hw : x = y ↔ x.toInt = y.toInt := Int32.toInt_inj.symm
  by_cases hq : x = y
  · exact (kf (hw.mp hq)).go fun _ q => XS.icmpNo X.here hx rfl hd rfl (XT.ii_ne_f hq) q
  · exact (kt fun z => hq (hw.mpr z)).go fun _ q => XS.icmpYes X.here hx rfl rfl hd rfl (XT.ii_ne_t hq) ho hp q
theorem g_ll_ne (X : Stand p l e R s m args below meth c T locs cells slots) (hx : p.tables.exec = Jvm.exec) {o : Int} {x y : Int64} {a b : Int} (ha : x.toInt = a) (hb : y.toInt = b) (hd1 : decode c.code pc = .ok (.lcmp, 1)) {pc1 : Nat} (hp1 : pc + 1 = pc1) (hd : decode c.code pc1 = .ok (.ifCond .ne o, 3)) (ho : 0 ≤ (pc1 : Int) + o) (hp : ((pc1 : Int) + o).toNat = pc') {pc2 : Nat} (hp2 : pc1 + 3 = pc2)
    (kt : ¬ a = b → Goes p e s below Q n0 C N T (mkF m pc' Ls st)) (kf : a = b → Goes p e s below Q n0 C N T (mkF m pc2 Ls st)) : Goes p e s below Q n0 C N T (mkF m pc Ls (.long y :: .long x :: st)) := by
  subst ha hb hp1 hp2
  refine Goes.go (g' := mkF m (pc + 1) Ls (.int (XT.cmpL x y) :: st)) (fun _ q => XT.lcmp X.here hx rfl hd1 rfl q) ?_
  have hw : x = y ↔ x.toInt = y.toInt := Int64.toInt_inj.symm
  by_cases hq : x = y
  · exact (kf (hw.mp hq)).go fun _ q => XS.ifNo X.here hx rfl hd rfl (XT.ll_ne_f hq) q
  · exact (kt fun z => hq (hw.mpr z)).go fun _ q => XS.ifYes X.here hx rfl rfl hd rfl (XT.ll_ne_t hq) ho hp q
theorem g_i0_ne (X : Stand p l e R s m args below meth c T locs cells slots) (hx : p.tables.exec = Jvm.exec) {o : Int} {x : Int32} {a : Int} (ha : x.toInt = a) (hd : decode c.code pc = .ok (.ifCond .ne o, 3)) (ho : 0 ≤ (pc : Int) + o) (hp : ((pc : Int) + o).toNat = pc') {pc2 : Nat} (hp2 : pc + 3 = pc2)
    (kt : ¬ a = 0 → Goes p e s below Q n0 C N T (mkF m pc' Ls st)) (kf : a = 0 → Goes p e s below Q n0 C N T (mkF m pc2 Ls st)) : Goes p e s below Q n0 C N T (mkF m pc Ls (.int x :: st)) := by
  subst ha hp2
  have hw : x = 0 ↔ x.toInt = 0 := ⟨fun z => by rw [z]; rfl, fun z => Int32.toInt_inj.mp (z.trans rfl)⟩
  by_cases hq : x = 0
  · exact (kf (hw.mp hq)).go fun _ q => XS.ifNo X.here hx rfl hd rfl (XT.i0_ne_f hq) q
  · exact (kt fun z => hq (hw.mpr z)).go fun _ q => XS.ifYes X.here hx rfl rfl hd rfl (XT.i0_ne_t hq) ho hp q
theorem g_ii_lt (X : Stand p l e R s m args below meth c T locs cells slots) (hx : p.tables.exec = Jvm.exec) {o : Int} {x y : Int32} {a b : Int} (ha : x.toInt = a) (hb : y.toInt = b) (hd : decode c.code pc = .ok (.if_icmp .lt o, 3)) (ho : 0 ≤ (pc : Int) + o) (hp : ((pc : Int) + o).toNat = pc') {pc2 : Nat} (hp2 : pc + 3 = pc2)
    (kt : a < b → Goes p e s below Q n0 C N T (mkF m pc' Ls st)) (kf : ¬ a < b → Goes p e s below Q n0 C N T (mkF m pc2 Ls st)) : Goes p e s below Q n0 C N T (mkF m pc Ls (.int y :: .int x :: st)) := by
  subst ha hb hp2
  have hw : x < y ↔ x.toInt < y.toInt := Int32.lt_iff_toInt_lt
  by_cases hq : x < y
  · exact (kt (hw.mp hq)).go fun _ q => XS.icmpYes X.here hx rfl rfl hd rfl (XT.ii_lt_t hq) ho hp q
  · exact (kf fun z => hq (hw.mpr z)).go fun _ q => XS.icmpNo X.here hx rfl hd rfl (XT.ii_lt_f hq) q
theorem g_ll_lt (X : Stand p l e R s m args below meth c T locs cells slots) (hx : p.tables.exec = Jvm.exec) {o : Int} {x y : Int64} {a b : Int} (ha : x.toInt = a) (hb : y.toInt = b) (hd1 : decode c.code pc = .ok (.lcmp, 1)) {pc1 : Nat} (hp1 : pc + 1 = pc1) (hd : decode c.code pc1 = .ok (.ifCond .lt o, 3)) (ho : 0 ≤ (pc1 : Int) + o) (hp : ((pc1 : Int) + o).toNat = pc') {pc2 : Nat} (hp2 : pc1 + 3 = pc2)
    (kt : a < b → Goes p e s below Q n0 C N T (mkF m pc' Ls st)) (kf : ¬ a < b → Goes p e s below Q n0 C N T (mkF m pc2 Ls st)) : Goes p e s below Q n0 C N T (mkF m pc Ls (.long y :: .long x :: st)) := by
  subst ha hb hp1 hp2
  refine Goes.go (g' := mkF m (pc + 1) Ls (.int (XT.cmpL x y) :: st)) (fun _ q => XT.lcmp X.here hx rfl hd1 rfl q) ?_
  have hw : x < y ↔ x.toInt < y.toInt := Int64.lt_iff_toInt_lt
  by_cases hq : x < y
  · exact (kt (hw.mp hq)).go fun _ q => XS.ifYes X.here hx rfl rfl hd rfl (XT.ll_lt_t hq) ho hp q
  · exact (kf fun z => hq (hw.mpr z)).go fun _ q => XS.ifNo X.here hx rfl hd rfl (XT.ll_lt_f hq) q
theorem g_i0_lt (X : Stand p l e R s m args below meth c T locs cells slots) (hx : p.tables.exec = Jvm.exec) {o : Int} {x : Int32} {a : Int} (ha : x.toInt = a) (hd : decode c.code pc = .ok (.ifCond .lt o, 3)) (ho : 0 ≤ (pc : Int) + o) (hp : ((pc : Int) + o).toNat = pc') {pc2 : Nat} (hp2 : pc + 3 = pc2)
    (kt : a < 0 → Goes p e s below Q n0 C N T (mkF m pc' Ls st)) (kf : ¬ a < 0 → Goes p e s below Q n0 C N T (mkF m pc2 Ls st)) : Goes p e s below Q n0 C N T (mkF m pc Ls (.int x :: st)) := by
  subst ha hp2
  have hw : x < 0 ↔ x.toInt < 0 := Int32.lt_iff_toInt_lt
  by_cases hq : x < 0
  · exact (kt (hw.mp hq)).go fun _ q => XS.ifYes X.here hx rfl rfl hd rfl (XT.i0_lt_t hq) ho hp q
  · exact (kf fun z => hq (hw.mpr z)).go fun _ q => XS.ifNo X.here hx rfl hd rfl (XT.i0_lt_f hq) q
theorem g_ii_ge (X : Stand p l e R s m args below meth c T locs cells slots) (hx : p.tables.exec = Jvm.exec) {o : Int} {x y : Int32} {a b : Int} (ha : x.toInt = a) (hb : y.toInt = b) (hd : decode c.code pc = .ok (.if_icmp .ge o, 3)) (ho : 0 ≤ (pc : Int) + o) (hp : ((pc : Int) + o).toNat = pc') {pc2 : Nat} (hp2 : pc + 3 = pc2)
    (kt : ¬ a < b → Goes p e s below Q n0 C N T (mkF m pc' Ls st)) (kf : a < b → Goes p e s below Q n0 C N T (mkF m pc2 Ls st)) : Goes p e s below Q n0 C N T (mkF m pc Ls (.int y :: .int x :: st)) := by
  subst ha hb hp2
  have hw : x < y ↔ x.toInt < y.toInt := Int32.lt_iff_toInt_lt
  by_cases hq : x < y
  · exact (kf (hw.mp hq)).go fun _ q => XS.icmpNo X.here hx rfl hd rfl (XT.ii_ge_f hq) q
  · exact (kt fun z => hq (hw.mpr z)).go fun _ q => XS.icmpYes X.here hx rfl rfl hd rfl (XT.ii_ge_t hq) ho hp q
theorem g_ll_ge (X : Stand p l e R s m args below meth c T locs cells slots) (hx : p.tables.exec = Jvm.exec) {o : Int} {x y : Int64} {a b : Int} (ha : x.toInt = a) (hb : y.toInt = b) (hd1 : decode c.code pc = .ok (.lcmp, 1)) {pc1 : Nat} (hp1 : pc + 1 = pc1) (hd : decode c.code pc1 = .ok (.ifCond .ge o, 3)) (ho : 0 ≤ (pc1 : Int) + o) (hp : ((pc1 : Int) + o).toNat = pc') {pc2 : Nat} (hp2 : pc1 + 3 = pc2)
    (kt : ¬ a < b → Goes p e s below Q n0 C N T (mkF m pc' Ls st)) (kf : a < b → Goes p e s below Q n0 C N T (mkF m pc2 Ls st)) : Goes p e s below Q n0 C N T (mkF m pc Ls (.long y :: .long x :: st)) := by
  subst ha hb hp1 hp2
  refine Goes.go (g' := mkF m (pc + 1) Ls (.int (XT.cmpL x y) :: st)) (fun _ q => XT.lcmp X.here hx rfl hd1 rfl q) ?_
  have hw : x < y ↔ x.toInt < y.toInt := Int64.lt_iff_toInt_lt
  by_cases hq : x < y
  · exact (kf (hw.mp hq)).go fun _ q => XS.ifNo X.here hx rfl hd rfl (XT.ll_ge_f hq) q
  · exact (kt fun z => hq (hw.mpr z)).go fun _ q => XS.ifYes X.here hx rfl rfl hd rfl (XT.ll_ge_t hq) ho hp q
theorem g_i0_ge (X : Stand p l e R s m args below meth c T locs cells slots) (hx : p.tables.exec = Jvm.exec) {o : Int} {x : Int32} {a : Int} (ha : x.toInt = a) (hd : decode c.code pc = .ok (.ifCond .ge o, 3)) (ho : 0 ≤ (pc : Int) + o) (hp : ((pc : Int) + o).toNat = pc') {pc2 : Nat} (hp2 : pc + 3 = pc2)
    (kt : ¬ a < 0 → Goes p e s below Q n0 C N T (mkF m pc' Ls st)) (kf : a < 0 → Goes p e s below Q n0 C N T (mkF m pc2 Ls st)) : Goes p e s below Q n0 C N T (mkF m pc Ls (.int x :: st)) := by
  subst ha hp2
  have hw : x < 0 ↔ x.toInt < 0 := Int32.lt_iff_toInt_lt
  by_cases hq : x < 0
  · exact (kf (hw.mp hq)).go fun _ q => XS.ifNo X.here hx rfl hd rfl (XT.i0_ge_f hq) q
  · exact (kt fun z => hq (hw.mpr z)).go fun _ q => XS.ifYes X.here hx rfl rfl hd rfl (XT.i0_ge_t hq) ho hp q
theorem g_ii_gt (X : Stand p l e R s m args below meth c T locs cells slots) (hx : p.tables.exec = Jvm.exec) {o : Int} {x y : Int32} {a b : Int} (ha : x.toInt = a) (hb : y.toInt = b) (hd : decode c.code pc = .ok (.if_icmp .gt o, 3)) (ho : 0 ≤ (pc : Int) + o) (hp : ((pc : Int) + o).toNat = pc') {pc2 : Nat} (hp2 : pc + 3 = pc2)
    (kt : b < a → Goes p e s below Q n0 C N T (mkF m pc' Ls st)) (kf : ¬ b < a → Goes p e s below Q n0 C N T (mkF m pc2 Ls st)) : Goes p e s below Q n0 C N T (mkF m pc Ls (.int y :: .int x :: st)) := by
  subst ha hb hp2
  have hw : y < x ↔ y.toInt < x.toInt := Int32.lt_iff_toInt_lt
  by_cases hq : y < x
  · exact (kt (hw.mp hq)).go fun _ q => XS.icmpYes X.here hx rfl rfl hd rfl (XT.ii_gt_t hq) ho hp q
  · exact (kf fun z => hq (hw.mpr z)).go fun _ q => XS.icmpNo X.here hx rfl hd rfl (XT.ii_gt_f hq) q
theorem g_ll_gt (X : Stand p l e R s m args below meth c T locs cells slots) (hx : p.tables.exec = Jvm.exec) {o : Int} {x y : Int64} {a b : Int} (ha : x.toInt = a) (hb : y.toInt = b) (hd1 : decode c.code pc = .ok (.lcmp, 1)) {pc1 : Nat} (hp1 : pc + 1 = pc1) (hd : decode c.code pc1 = .ok (.ifCond .gt o, 3)) (ho : 0 ≤ (pc1 : Int) + o) (hp : ((pc1 : Int) + o).toNat = pc') {pc2 : Nat} (hp2 : pc1 + 3 = pc2)
    (kt : b < a → Goes p e s below Q n0 C N T (mkF m pc' Ls st)) (kf : ¬ b < a → Goes p e s below Q n0 C N T (mkF m pc2 Ls st)) : Goes p e s below Q n0 C N T (mkF m pc Ls (.long y :: .long x :: st)) := by
  subst ha hb hp1 hp2
  refine Goes.go (g' := mkF m (pc + 1) Ls (.int (XT.cmpL x y) :: st)) (fun _ q => XT.lcmp X.here hx rfl hd1 rfl q) ?_
  have hw : y < x ↔ y.toInt < x.toInt := Int64.lt_iff_toInt_lt
  by_cases hq : y < x
  · exact (kt (hw.mp hq)).go fun _ q => XS.ifYes X.here hx rfl rfl hd rfl (XT.ll_gt_t hq) ho hp q
  · exact (kf fun z => hq (hw.mpr z)).go fun _ q => XS.ifNo X.here hx rfl hd rfl (XT.ll_gt_f hq) q
theorem g_i0_gt (X : Stand p l e R s m args below meth c T locs cells slots) (hx : p.tables.exec = Jvm.exec) {o : Int} {x : Int32} {a : Int} (ha : x.toInt = a) (hd : decode c.code pc = .ok (.ifCond .gt o, 3)) (ho : 0 ≤ (pc : Int) + o) (hp : ((pc : Int) + o).toNat = pc') {pc2 : Nat} (hp2 : pc + 3 = pc2)
    (kt : 0 < a → Goes p e s below Q n0 C N T (mkF m pc' Ls st)) (kf : ¬ 0 < a → Goes p e s below Q n0 C N T (mkF m pc2 Ls st)) : Goes p e s below Q n0 C N T (mkF m pc Ls (.int x :: st)) := by
  subst ha hp2
  have hw : 0 < x ↔ 0 < x.toInt := Int32.lt_iff_toInt_lt
  by_cases hq : 0 < x
  · exact (kt (hw.mp hq)).go fun _ q => XS.ifYes X.here hx rfl rfl hd rfl (XT.i0_gt_t hq) ho hp q
  · exact (kf fun z => hq (hw.mpr z)).go fun _ q => XS.ifNo X.here hx rfl hd rfl (XT.i0_gt_f hq) q
theorem g_ii_le (X : Stand p l e R s m args below meth c T locs cells slots) (hx : p.tables.exec = Jvm.exec) {o : Int} {x y : Int32} {a b : Int} (ha : x.toInt = a) (hb : y.toInt = b) (hd : decode c.code pc = .ok (.if_icmp .le o, 3)) (ho : 0 ≤ (pc : Int) + o) (hp : ((pc : Int) + o).toNat = pc') {pc2 : Nat} (hp2 : pc + 3 = pc2)
    (kt : ¬ b < a → Goes p e s below Q n0 C N T (mkF m pc' Ls st)) (kf : b < a → Goes p e s below Q n0 C N T (mkF m pc2 Ls st)) : Goes p e s below Q n0 C N T (mkF m pc Ls (.int y :: .int x :: st)) := by
  subst ha hb hp2
  have hw : y < x ↔ y.toInt < x.toInt := Int32.lt_iff_toInt_lt
  by_cases hq : y < x
  · exact (kf (hw.mp hq)).go fun _ q => XS.icmpNo X.here hx rfl hd rfl (XT.ii_le_f hq) q
  · exact (kt fun z => hq (hw.mpr z)).go fun _ q => XS.icmpYes X.here hx rfl rfl hd rfl (XT.ii_le_t hq) ho hp q
theorem g_ll_le (X : Stand p l e R s m args below meth c T locs cells slots) (hx : p.tables.exec = Jvm.exec) {o : Int} {x y : Int64} {a b : Int} (ha : x.toInt = a) (hb : y.toInt = b) (hd1 : decode c.code pc = .ok (.lcmp, 1)) {pc1 : Nat} (hp1 : pc + 1 = pc1) (hd : decode c.code pc1 = .ok (.ifCond .le o, 3)) (ho : 0 ≤ (pc1 : Int) + o) (hp : ((pc1 : Int) + o).toNat = pc') {pc2 : Nat} (hp2 : pc1 + 3 = pc2)
    (kt : ¬ b < a → Goes p e s below Q n0 C N T (mkF m pc' Ls st)) (kf : b < a → Goes p e s below Q n0 C N T (mkF m pc2 Ls st)) : Goes p e s below Q n0 C N T (mkF m pc Ls (.long y :: .long x :: st)) := by
  subst ha hb hp1 hp2
  refine Goes.go (g' := mkF m (pc + 1) Ls (.int (XT.cmpL x y) :: st)) (fun _ q => XT.lcmp X.here hx rfl hd1 rfl q) ?_
  have hw : y < x ↔ y.toInt < x.toInt := Int64.lt_iff_toInt_lt
  by_cases hq : y < x
  · exact (kf (hw.mp hq)).go fun _ q => XS.ifNo X.here hx rfl hd rfl (XT.ll_le_f hq) q
  · exact (kt fun z => hq (hw.mpr z)).go fun _ q => XS.ifYes X.here hx rfl rfl hd rfl (XT.ll_le_t hq) ho hp q
theorem g_i0_le (X : Stand p l e R s m args below meth c T locs cells slots) (hx : p.tables.exec = Jvm.exec) {o : Int} {x : Int32} {a : Int} (ha : x.toInt = a) (hd : decode c.code pc = .ok (.ifCond .le o, 3)) (ho : 0 ≤ (pc : Int) + o) (hp : ((pc : Int) + o).toNat = pc') {pc2 : Nat} (hp2 : pc + 3 = pc2)
    (kt : ¬ 0 < a → Goes p e s below Q n0 C N T (mkF m pc' Ls st)) (kf : 0 < a → Goes p e s below Q n0 C N T (mkF m pc2 Ls st)) : Goes p e s below Q n0 C N T (mkF m pc Ls (.int x :: st)) := by
  subst ha hp2
  have hw : 0 < x ↔ 0 < x.toInt := Int32.lt_iff_toInt_lt
  by_cases hq : 0 < x
  · exact (kf (hw.mp hq)).go fun _ q => XS.ifNo X.here hx rfl hd rfl (XT.i0_le_f hq) q
  · exact (kt fun z => hq (hw.mpr z)).go fun _ q => XS.ifYes X.here hx rfl rfl hd rfl (XT.i0_le_t hq) ho hp q
theorem g_ifnullYes (X : Stand p l e R s m args below meth c T locs cells slots) (hx : p.tables.exec = Jvm.exec) {o : Int} (hd : decode c.code pc = .ok (.ifnull o, 3)) (ho : 0 ≤ (pc : Int) + o) (hp : ((pc : Int) + o).toNat = pc')
    (k : Goes p e s below Q n0 C N T (mkF m pc' Ls st)) : Goes p e s below Q n0 C N T (mkF m pc Ls (.null :: st)) := k.go fun _ q => XS.ifnullYes X.here hx rfl rfl hd rfl ho hp q
theorem g_ifnullNo (X : Stand p l e R s m args below meth c T locs cells slots) (hx : p.tables.exec = Jvm.exec) {o : Int} {b : Addr} (hd : decode c.code pc = .ok (.ifnull o, 3)) (hp : pc + 3 = pc')
    (k : Goes p e s below Q n0 C N T (mkF m pc' Ls st)) : Goes p e s below Q n0 C N T (mkF m pc Ls (.ref b :: st)) := by
  subst hp; exact k.go fun _ q => XS.ifnullNo X.here hx rfl hd rfl q
theorem g_ifnonnullYes (X : Stand p l e R s m args below meth c T locs cells slots) (hx : p.tables.exec = Jvm.exec) {o : Int} {b : Addr} (hd : decode c.code pc = .ok (.ifnonnull o, 3)) (ho : 0 ≤ (pc : Int) + o) (hp : ((pc : Int) + o).toNat = pc')
    (k : Goes p e s below Q n0 C N T (mkF m pc' Ls st)) : Goes p e s below Q n0 C N T (mkF m pc Ls (.ref b :: st)) := k.go fun _ q => XT.ifnonnullYes X.here hx rfl rfl hd rfl ho hp q
theorem IA.lt {h : Heap} {a n : Nat} {f : Nat → Int32} (F : IA Z h a n f) : a < h.size := by obtain ⟨_, c, A, -⟩ := F; exact A.lt
theorem IA.ext {h h' : Heap} {a n : Nat} {f : Nat → Int32} (F : IA Z h a n f) (E : Ext h h') : IA Z h' a n f := by obtain ⟨q, c, A, r⟩ := F; exact ⟨q, c, A.ext E, r⟩
theorem IA.keep {h h' : Heap} {a n : Nat} {f : Nat → Int32} {ws : List Addr} (F : IA Z h a n f) (K : Keep h h' ws) (q : a ∉ ws) : IA Z h' a n f := by obtain ⟨q', c, A, r⟩ := F; exact ⟨q', c, ⟨K.2.1 a c A.1 q, A.2⟩, r⟩
theorem IA.other {h h' : Heap} {a b n sl : Nat} {f : Nat → Int32} {v : Value} (F : IA Z h b n f) (W : Wr h h' a sl v) (q : b ≠ a) : IA Z h' b n f := by obtain ⟨q', c, A, r⟩ := F; exact ⟨q', c, A.other W q, r⟩
theorem IA.congr {h : Heap} {a n : Nat} {f f' : Nat → Int32} (F : IA Z h a n f) (q : ∀ i, i < n → f i = f' i) : IA Z h a n f' := by obtain ⟨q', c, A, r, s⟩ := F; exact ⟨q', c, A, r, fun i hi => by rw [← q i hi]; exact s i hi⟩
theorem g_iaload (X : Stand p l e R s m args below meth c T locs cells slots) (hx : p.tables.exec = Jvm.exec) (hZ : Z.Warmed39 s.vm) (eT : T.heap = h) {a n k : Nat} {f : Nat → Int32} {j : Int32} (F : IA Z h a n f) (hj : j.toInt = (k : Int)) (hk : k < n) (hd : decode c.code pc = .ok (.iaload, 1)) (hp : pc + 1 = pc')
    (kk : Goes p e s below Q n0 C N T (mkF m pc' Ls (.int (f k) :: st))) : Goes p e s below Q n0 C N T (mkF m pc Ls (.int j :: .ref a :: st)) := by
  subst hp; obtain ⟨-, cl, A, S, H⟩ := F
  exact kk.go fun t q => X.iaload hx (by rw [eT]; exact A.1) (State.isArrayOf_alike hZ.alike A.2.1) A.2.2 (by rw [S]; exact nin hj hk) (by rw [(nclamp hj).1]; exact H k hk) (g := mkF m pc Ls (.int j :: .ref a :: st)) rfl rfl hd t q
theorem g_lenIA (X : Stand p l e R s m args below meth c T locs cells slots) (hx : p.tables.exec = Jvm.exec) (hZ : Z.Warmed39 s.vm) (eT : T.heap = h) {a n : Nat} {f : Nat → Int32} {z : Int32} (F : IA Z h a n f) (hz : z.toInt = (n : Int)) (hd : decode c.code pc = .ok (.arraylength, 1)) (hp : pc + 1 = pc')
    (kk : Goes p e s below Q n0 C N T (mkF m pc' Ls (.int z :: st))) : Goes p e s below Q n0 C N T (mkF m pc Ls (.ref a :: st)) := by
  subst hp; obtain ⟨hn, cl, A, S, H⟩ := F
  have hzz : z = cl.slots.size.toInt32 := Int32.toInt_inj.mp (by rw [S, hz, len32 hn])
  subst hzz
  exact kk.go fun t q => X.arraylength hx (by rw [eT]; exact A.1) (State.isArrayOf_alike hZ.alike A.2.1) (g := mkF m pc Ls (.ref a :: st)) rfl rfl hd t q
theorem g_iastore (X : Stand p l e R s m args below meth c T locs cells slots) (hx : p.tables.exec = Jvm.exec) (hZ : Z.Warmed39 s.vm) (eT : T.heap = h) {a n k : Nat} {f : Nat → Int32} {j : Int32} {x : Int32} (F : IA Z h a n f) (hj : j.toInt = (k : Int)) (hk : k < n) (hN : Fr n0 locs) (ha : n0 ≤ a) (hd : decode c.code pc = .ok (.iastore, 1)) (hp : pc + 1 = pc')
    (kk : ∀ T' h' locs', Stand p l e R s m args below meth c T' locs' cells slots → T'.heap = h' → Wr h h' a k (.int x) → Fr n0 locs' → IA Z h' a n (oupd f k x) → Goes p e s below Q n0 C N T' (mkF m pc' Ls st)) : Goes p e s below Q n0 C N T (mkF m pc Ls (.int x :: .int j :: .ref a :: st)) := by
  subst hp; obtain ⟨hn, cl, A, S, H⟩ := F
  obtain ⟨T', h', X', e', W', st'⟩ := stI X hx hZ eT A (j := j) (x := x) (by rw [S]; exact nin hj hk) (g := mkF m pc Ls (.int x :: .int j :: .ref a :: st)) rfl rfl hd
  rw [(nclamp hj).1] at W' X'
  refine (kk T' h' _ X' e' W' (Fr.snoc X' hN ha) ⟨hn, _, A.same W', by rw [sz_set]; exact S, fun i hi => ?_⟩).go st'
  by_cases q : i = k
  · subst q; simp [Cell.setSlot, oupd, S, hi]
  · have := H i hi
    simp only [Cell.setSlot, oupd, q, if_false]
    rw [Array.getElem?_setIfInBounds_ne (fun z => q z.symm)]; exact this
theorem g_newIA (X : Stand p l e R s m args below meth c T locs cells slots) (hx : p.tables.exec = Jvm.exec) (hZ : Z.Warmed39 s.vm) (w : (Cond.arrayClass .int).before a0 Z = true) (eT : T.heap = h) {z : Int32} {n : Nat} (hz : z.toInt = (n : Int)) {cap : Nat} (hcap : n ≤ cap) (hb : cap * 8 ≤ 536870912) (hd : decode c.code pc = .ok (.newarray .int, 2)) (hc : cells + 1 ≤ R.cells) (hl : slots + cap ≤ R.slots) (hp : pc + 2 = pc')
    (kk : ∀ T' h' a, a = h.size → Stand p l e R s m args below meth c T' locs (cells + 1) (slots + cap) → T'.heap = h' → Ext h h' → a < h'.size → IA Z h' a n zeroI → Goes p e s below Q n0 C N T' (mkF m pc' Ls (.ref a :: st))) : Goes p e s below Q n0 C N T (mkF m pc Ls (.int z :: st)) := by
  subst hp
  obtain ⟨q1, q2⟩ := nclamp hz
  obtain ⟨T', h', cA, X', e', E', A', st'⟩ := newP X hx hZ (aty := .int) w eT (g := mkF m pc Ls (.int z :: st)) rfl hd (n := z) rfl q2 (cap := cap) (by rw [q1]; exact hcap) hb hc hl
  refine (kk T' h' h.size rfl X' e' E' A'.lt ⟨?_, _, A', by rw [sz_new, q1], fun i hi => ?_⟩).go st'
  · have := z.toInt_lt; omega
  · simp only [newA, q1]; simp [hi]; rfl
theorem LA.lt {h : Heap} {a n : Nat} {f : Nat → Int64} (F : LA Z h a n f) : a < h.size := by obtain ⟨_, c, A, -⟩ := F; exact A.lt
theorem LA.ext {h h' : Heap} {a n : Nat} {f : Nat → Int64} (F : LA Z h a n f) (E : Ext h h') : LA Z h' a n f := by obtain ⟨q, c, A, r⟩ := F; exact ⟨q, c, A.ext E, r⟩
theorem LA.keep {h h' : Heap} {a n : Nat} {f : Nat → Int64} {ws : List Addr} (F : LA Z h a n f) (K : Keep h h' ws) (q : a ∉ ws) : LA Z h' a n f := by obtain ⟨q', c, A, r⟩ := F; exact ⟨q', c, ⟨K.2.1 a c A.1 q, A.2⟩, r⟩
theorem LA.other {h h' : Heap} {a b n sl : Nat} {f : Nat → Int64} {v : Value} (F : LA Z h b n f) (W : Wr h h' a sl v) (q : b ≠ a) : LA Z h' b n f := by obtain ⟨q', c, A, r⟩ := F; exact ⟨q', c, A.other W q, r⟩
theorem LA.congr {h : Heap} {a n : Nat} {f f' : Nat → Int64} (F : LA Z h a n f) (q : ∀ i, i < n → f i = f' i) : LA Z h a n f' := by obtain ⟨q', c, A, r, s⟩ := F; exact ⟨q', c, A, r, fun i hi => by rw [← q i hi]; exact s i hi⟩
theorem g_laload (X : Stand p l e R s m args below meth c T locs cells slots) (hx : p.tables.exec = Jvm.exec) (hZ : Z.Warmed39 s.vm) (eT : T.heap = h) {a n k : Nat} {f : Nat → Int64} {j : Int32} (F : LA Z h a n f) (hj : j.toInt = (k : Int)) (hk : k < n) (hd : decode c.code pc = .ok (.laload, 1)) (hp : pc + 1 = pc')
    (kk : Goes p e s below Q n0 C N T (mkF m pc' Ls (.long (f k) :: st))) : Goes p e s below Q n0 C N T (mkF m pc Ls (.int j :: .ref a :: st)) := by
  subst hp; obtain ⟨-, cl, A, S, H⟩ := F
  exact kk.go fun t q => X.laload hx (by rw [eT]; exact A.1) (State.isArrayOf_alike hZ.alike A.2.1) A.2.2 (by rw [S]; exact nin hj hk) (by rw [(nclamp hj).1]; exact H k hk) (g := mkF m pc Ls (.int j :: .ref a :: st)) rfl rfl hd t q
theorem g_lenLA (X : Stand p l e R s m args below meth c T locs cells slots) (hx : p.tables.exec = Jvm.exec) (hZ : Z.Warmed39 s.vm) (eT : T.heap = h) {a n : Nat} {f : Nat → Int64} {z : Int32} (F : LA Z h a n f) (hz : z.toInt = (n : Int)) (hd : decode c.code pc = .ok (.arraylength, 1)) (hp : pc + 1 = pc')
    (kk : Goes p e s below Q n0 C N T (mkF m pc' Ls (.int z :: st))) : Goes p e s below Q n0 C N T (mkF m pc Ls (.ref a :: st)) := by
  subst hp; obtain ⟨hn, cl, A, S, H⟩ := F
  have hzz : z = cl.slots.size.toInt32 := Int32.toInt_inj.mp (by rw [S, hz, len32 hn])
  subst hzz
  exact kk.go fun t q => X.arraylength hx (by rw [eT]; exact A.1) (State.isArrayOf_alike hZ.alike A.2.1) (g := mkF m pc Ls (.ref a :: st)) rfl rfl hd t q
theorem g_lastore (X : Stand p l e R s m args below meth c T locs cells slots) (hx : p.tables.exec = Jvm.exec) (hZ : Z.Warmed39 s.vm) (eT : T.heap = h) {a n k : Nat} {f : Nat → Int64} {j : Int32} {x : Int64} (F : LA Z h a n f) (hj : j.toInt = (k : Int)) (hk : k < n) (hN : Fr n0 locs) (ha : n0 ≤ a) (hd : decode c.code pc = .ok (.lastore, 1)) (hp : pc + 1 = pc')
    (kk : ∀ T' h' locs', Stand p l e R s m args below meth c T' locs' cells slots → T'.heap = h' → Wr h h' a k (.long x) → Fr n0 locs' → LA Z h' a n (oupd f k x) → Goes p e s below Q n0 C N T' (mkF m pc' Ls st)) : Goes p e s below Q n0 C N T (mkF m pc Ls (.long x :: .int j :: .ref a :: st)) := by
  subst hp; obtain ⟨hn, cl, A, S, H⟩ := F
  obtain ⟨T', h', X', e', W', st'⟩ := stJ X hx hZ eT A (j := j) (x := x) (by rw [S]; exact nin hj hk) (g := mkF m pc Ls (.long x :: .int j :: .ref a :: st)) rfl rfl hd
  rw [(nclamp hj).1] at W' X'
  refine (kk T' h' _ X' e' W' (Fr.snoc X' hN ha) ⟨hn, _, A.same W', by rw [sz_set]; exact S, fun i hi => ?_⟩).go st'
  by_cases q : i = k
  · subst q; simp [Cell.setSlot, oupd, S, hi]
  · have := H i hi
    simp only [Cell.setSlot, oupd, q, if_false]
    rw [Array.getElem?_setIfInBounds_ne (fun z => q z.symm)]; exact this
theorem g_newLA (X : Stand p l e R s m args below meth c T locs cells slots) (hx : p.tables.exec = Jvm.exec) (hZ : Z.Warmed39 s.vm) (w : (Cond.arrayClass .long).before a0 Z = true) (eT : T.heap = h) {z : Int32} {n : Nat} (hz : z.toInt = (n : Int)) {cap : Nat} (hcap : n ≤ cap) (hb : cap * 8 ≤ 536870912) (hd : decode c.code pc = .ok (.newarray .long, 2)) (hc : cells + 1 ≤ R.cells) (hl : slots + cap ≤ R.slots) (hp : pc + 2 = pc')
    (kk : ∀ T' h' a, a = h.size → Stand p l e R s m args below meth c T' locs (cells + 1) (slots + cap) → T'.heap = h' → Ext h h' → a < h'.size → LA Z h' a n zeroL → Goes p e s below Q n0 C N T' (mkF m pc' Ls (.ref a :: st))) : Goes p e s below Q n0 C N T (mkF m pc Ls (.int z :: st)) := by
  subst hp
  obtain ⟨q1, q2⟩ := nclamp hz
  obtain ⟨T', h', cA, X', e', E', A', st'⟩ := newP X hx hZ (aty := .long) w eT (g := mkF m pc Ls (.int z :: st)) rfl hd (n := z) rfl q2 (cap := cap) (by rw [q1]; exact hcap) hb hc hl
  refine (kk T' h' h.size rfl X' e' E' A'.lt ⟨?_, _, A', by rw [sz_new, q1], fun i hi => ?_⟩).go st'
  · have := z.toInt_lt; omega
  · simp only [newA, q1]; simp [hi]; rfl
/-! numbers -/
theorem all_succ {P : Nat → Prop} {i : Nat} (h : ∀ y, y < i → P y) (hi : P i) : ∀ y, y < i + 1 → P y := fun y hy => by
  by_cases q : y = i
  · exact q ▸ hi
  · exact h y (by omega)
theorem oupd_at {A : Type} (f : Nat → A) (j : Nat) (v : A) : oupd f j v j = v := by simp [oupd]
theorem oupd_ne {A : Type} (f : Nat → A) {i j : Nat} (v : A) (q : ¬ i = j) : oupd f j v i = f i := by simp [oupd, q]
theorem i32_of_nat (n : Nat) (hn : n < 2147483648) : (Int32.ofNat n).toInt = (n : Int) := by
  rw [Int32.toInt_ofNat']; have hsz : (Int32.size : Int) = 4294967296 := rfl; exact Int.bmod_eq_of_le (by omega) (by omega)
theorem i32_get {x : Int32} (h : 0 ≤ x.toInt) : ∃ n : Nat, x.toInt = (n : Int) ∧ n < 2147483648 := ⟨x.toInt.toNat, (Int.toNat_of_nonneg h).symm, by have := x.toInt_lt; omega⟩
theorem oupdI (f : Nat → Int32) (j i : Nat) (v : Int32) : i = j ∧ (oupd f j v i).toInt = v.toInt ∨ ¬ i = j ∧ (oupd f j v i).toInt = (f i).toInt := by
  by_cases q : i = j
  · exact Or.inl ⟨q, by simp [oupd, q]⟩
  · exact Or.inr ⟨q, by simp [oupd, q]⟩
theorem oupdL (f : Nat → Int64) (j i : Nat) (v : Int64) : i = j ∧ (oupd f j v i).toInt = v.toInt ∨ ¬ i = j ∧ (oupd f j v i).toInt = (f i).toInt := by
  by_cases q : i = j
  · exact Or.inl ⟨q, by simp [oupd, q]⟩
  · exact Or.inr ⟨q, by simp [oupd, q]⟩
end Laws
end Jvm.OwnKit

namespace Jvm.Pilot.@@N@@
open Jvm Jvm.ClassFile Sem Op Lib Jvm.Free Jvm.Stand Jvm.LawKit Jvm.RoadKit Bundle Jvm.OwnKit Jvm.Pilot.@@N@@.Jvm.D
theorem pd_0 : parseMethodDescriptor "()V" = some ⟨[], none⟩ := by decide +kernel
theorem pd_1 : parseMethodDescriptor "(I)V" = some ⟨[.int], none⟩ := by decide +kernel
theorem pd_2 : parseMethodDescriptor "(I)Z" = some ⟨[.int], some .boolean⟩ := by decide +kernel
theorem d1_0 : decode prog_78_method_1_code 0 = .ok (.aload_n 0, 1) := by decide +kernel
theorem d1_1 : decode prog_78_method_1_code 1 = .ok (.invokespecial 1, 3) := by decide +kernel
theorem d1_4 : decode prog_78_method_1_code 4 = .ok (.aload_n 0, 1) := by decide +kernel
theorem d1_5 : decode prog_78_method_1_code 5 = .ok (.iconst 1, 1) := by decide +kernel
theorem d1_6 : decode prog_78_method_1_code 6 = .ok (.putfield 7, 3) := by decide +kernel
theorem d1_9 : decode prog_78_method_1_code 9 = .ok (.aload_n 0, 1) := by decide +kernel
theorem d1_10 : decode prog_78_method_1_code 10 = .ok (.iload_n 1, 1) := by decide +kernel
theorem d1_11 : decode prog_78_method_1_code 11 = .ok (.newarray .int, 2) := by decide +kernel
theorem d1_13 : decode prog_78_method_1_code 13 = .ok (.putfield 13, 3) := by decide +kernel
theorem d1_16 : decode prog_78_method_1_code 16 = .ok (.return_, 1) := by decide +kernel
theorem pn_0 : plainFor (⟨"com/example/vetter/vetter/compare/Marks", "<init>", "(I)V"⟩ : MethodName) = true := by first | exact plainFor_of_name (by first | (simp [plainName, overriddenIn]; done) | decide +kernel) | decide +kernel
def Q1 (Z : State) (a : Addr) (h0 : Heap) (n0 : Nat) (v : Option Value) (h : Heap) : Prop := ∃ t : Addr, v = none ∧ h0.size ≤ t ∧ Keep h0 h [a] ∧ Exa Z h a "com/example/vetter/vetter/compare/Marks" ∧ Fld Z h a "com/example/vetter/vetter/compare/Marks" "mark" "I" (.int (1 : Int32)) ∧ Fld Z h a "com/example/vetter/vetter/compare/Marks" "marks" "[I" (.ref t) ∧ IA Z h t 4 zeroI
abbrev R1 : Room := { frames := 1, cells := 1, slots := 4, locals := 12 }
set_option maxRecDepth 65536 in
set_option maxHeartbeats 40000000 in
theorem rm1 (l : Launch) (Z : State) (a0 : Array Value) (hw : ∀ d ∈ tables_1, d.before a0 Z = true)  (a : Addr) (h0 : Heap) (n0 : Nat) (Z0 : n0 ≤ h0.size) (Fp0 : Fld Z h0 a "com/example/vetter/vetter/compare/Marks" "mark" "I" (.int (0 : Int32))) (Fp1 : Fld Z h0 a "com/example/vetter/vetter/compare/Marks" "marks" "[I" .null) (Fp2 : Exa Z h0 a "com/example/vetter/vetter/compare/Marks") (gn_a : n0 ≤ a) :
    Con l (⟨"com/example/vetter/vetter/compare/Marks", "<init>", "(I)V"⟩ : MethodName) prog_78_method_1_code 2 none [] R1 Z #[(.ref a), (.int (4 : Int32))] h0 n0 (Q1 Z a h0 n0) := by
  refine con_of (Ls0 := #[.val (.ref a), .val (.int (4 : Int32))]) pn_0 (fun m => by first | (simp [entryFrame, mkF, argsToLocals, Value.category, maxLocals]; done) | rfl) ?_
  intro p e s m below meth c s₁ X0 hx hby hml hZ hown hnm hret hlk e0 N0
  show Goes p e s below (Q1 Z a h0 n0) n0 R1.cells R1.slots s₁ (mkF m 0 #[.val (.ref a), .val (.int (4 : Int32))] [])
  have K0 : Keep h0 h0 [a] := Keep.refl _ _
  refine g_aloadN X0 hx (hb hby d1_0) (v := (.ref a)) rfl rfl (pc' := 1) rfl ?_
  refine g_initO X0 hx hZ hown (hw _ (List.mem_of_getElem? (i := 6) rfl)) (hw _ (List.mem_of_getElem? (i := 7) rfl)) (hw _ (List.mem_of_getElem? (i := 8) rfl)) e0 (by rw [hml]; rfl) (hb hby d1_1) (by decide) (W := 0) (Nat.le_of_eq rfl) (by decide) (pc' := 4) rfl (fun T1 X2 e3 => ?_)
  refine g_aloadN X2 hx (hb hby d1_4) (v := (.ref a)) rfl rfl (pc' := 5) rfl ?_
  refine g_iconst X2 hx (hb hby d1_5) (v := 1) (by decide) (pc' := 6) rfl ?_
  refine g_putF X2 hx hZ hown (hw _ (List.mem_of_getElem? (i := 9) rfl)) e3 (v := (.int (1 : Int32))) Fp0 Fp2 (Or.inl (hw _ (List.mem_of_getElem? (i := 10) rfl))) (hw _ (List.mem_of_getElem? (i := 1) rfl)) (ty := .int) (by decide) rfl rfl N0 gn_a (hb hby d1_6) (pc' := 9) rfl (fun T4 h5 L6 X7 e8 W9 N10 => ?_)
  have K11 := K0.wr W9 (Or.inl (by simp))
  have Z12 : n0 ≤ h5.size := by rw [W9.size]; exact Z0
  have F13 := Fld.same W9 Fp0
  have F14 := Fld.other W9 Fp1 (Or.inr (slot_ne (Or.inr (hw _ (List.mem_of_getElem? (i := 13) rfl))) (Or.inl (hw _ (List.mem_of_getElem? (i := 10) rfl))) (by decide) (t := (.array .int)) (t' := .int) (by decide) (by decide)))
  have F15 := Exa.wr W9 Fp2
  refine g_aloadN X7 hx (hb hby d1_9) (v := (.ref a)) rfl rfl (pc' := 10) rfl ?_
  refine g_iloadN X7 hx (hb hby d1_10) (v := (4 : Int32)) rfl (pc' := 11) rfl ?_
  refine g_newIA X7 hx hZ (hw _ (List.mem_of_getElem? (i := 11) rfl)) e8 (n := 4) rfl (cap := 4) (by decide) (by decide) (hb hby d1_11) (by decide) (by decide) (pc' := 13) rfl (fun T16 h17 a18 g19 X20 e21 E22 l23 A24  => ?_)
  have Z25 : n0 ≤ h17.size := Nat.le_trans Z12 E22.1
  have nl26 : n0 ≤ a18 := by rw [g19]; exact Z12
  have ne27 : a ≠ a18 := by rw [g19]; exact Nat.ne_of_lt F13.lt
  have F28 := Fld.ext E22 F13
  have F29 := Fld.ext E22 F14
  have F30 := Exa.ext E22 F15
  have kf31 : h0.size ≤ a18 := by rw [g19]; exact K11.1
  have K32 := K11.ext E22
  refine g_putF X20 hx hZ hown (hw _ (List.mem_of_getElem? (i := 12) rfl)) e21 (v := (.ref a18)) F29 F30 (Or.inr ⟨(hw _ (List.mem_of_getElem? (i := 13) rfl)), rfl, hnm⟩) (hw _ (List.mem_of_getElem? (i := 1) rfl)) (ty := (.array .int)) (by decide) rfl rfl N10 gn_a (hb hby d1_13) (pc' := 16) rfl (fun T33 h34 L35 X36 e37 W38 N39 => ?_)
  have K40 := K32.wr W38 (Or.inl (by simp))
  have Z41 : n0 ≤ h34.size := by rw [W38.size]; exact Z25
  have F42 := Fld.other W38 F28 (Or.inr (slot_ne (Or.inl (hw _ (List.mem_of_getElem? (i := 10) rfl))) (Or.inr (hw _ (List.mem_of_getElem? (i := 13) rfl))) (by decide) (t := .int) (t' := (.array .int)) (by decide) (by decide)))
  have F43 := Fld.same W38 F29
  have F44 := Exa.wr W38 F30
  have F45 := A24.other W38 ne27.symm
  refine g_retV X36 hx hlk hret (hb hby d1_16) N39 (by decide) (by decide) ?_
  rw [e37]
  exact ⟨a18, rfl, kf31, K40, F44, F42, F43, F45⟩
theorem d3_0 : decode prog_78_method_3_code 0 = .ok (.aload_n 0, 1) := by decide +kernel
theorem d3_1 : decode prog_78_method_3_code 1 = .ok (.getfield 13, 3) := by decide +kernel
theorem d3_4 : decode prog_78_method_3_code 4 = .ok (.iload_n 1, 1) := by decide +kernel
theorem d3_5 : decode prog_78_method_3_code 5 = .ok (.iaload, 1) := by decide +kernel
theorem d3_6 : decode prog_78_method_3_code 6 = .ok (.aload_n 0, 1) := by decide +kernel
theorem d3_7 : decode prog_78_method_3_code 7 = .ok (.getfield 7, 3) := by decide +kernel
theorem d3_10 : decode prog_78_method_3_code 10 = .ok (.if_icmp .eq 7, 3) := by decide +kernel
theorem d3_13 : decode prog_78_method_3_code 13 = .ok (.iconst 1, 1) := by decide +kernel
theorem d3_14 : decode prog_78_method_3_code 14 = .ok (.goto 4, 3) := by decide +kernel
theorem d3_17 : decode prog_78_method_3_code 17 = .ok (.iconst 0, 1) := by decide +kernel
theorem d3_18 : decode prog_78_method_3_code 18 = .ok (.istore_n 2, 1) := by decide +kernel
theorem d3_19 : decode prog_78_method_3_code 19 = .ok (.aload_n 0, 1) := by decide +kernel
theorem d3_20 : decode prog_78_method_3_code 20 = .ok (.getfield 13, 3) := by decide +kernel
theorem d3_23 : decode prog_78_method_3_code 23 = .ok (.iload_n 1, 1) := by decide +kernel
theorem d3_24 : decode prog_78_method_3_code 24 = .ok (.aload_n 0, 1) := by decide +kernel
theorem d3_25 : decode prog_78_method_3_code 25 = .ok (.getfield 7, 3) := by decide +kernel
theorem d3_28 : decode prog_78_method_3_code 28 = .ok (.iastore, 1) := by decide +kernel
theorem d3_29 : decode prog_78_method_3_code 29 = .ok (.iload_n 2, 1) := by decide +kernel
theorem d3_30 : decode prog_78_method_3_code 30 = .ok (.ireturn, 1) := by decide +kernel
theorem pn_1 : plainFor (⟨"com/example/vetter/vetter/compare/Marks", "add", "(I)Z"⟩ : MethodName) = true := by first | exact plainFor_of_name (by first | (simp [plainName, overriddenIn]; done) | decide +kernel) | decide +kernel
def Q2 (Z : State) (a : Addr) (p1 : Int32) (k : Nat) (t : Addr) (mk : Int32) (f : Nat → Int32) (h0 : Heap) (n0 : Nat) (v : Option Value) (h : Heap) : Prop := ∃ b : Int32, v = some (.int b) ∧ ((f k).toInt = mk.toInt ∧ b.toInt = 0 ∨ ¬ (f k).toInt = mk.toInt ∧ b.toInt = 1) ∧ Keep h0 h [t] ∧ IA Z h t 4 (oupd f k mk)
abbrev R2 : Room := { frames := 0, cells := 0, slots := 0, locals := 0 }
set_option maxRecDepth 65536 in
set_option maxHeartbeats 40000000 in
theorem rm2 (l : Launch) (Z : State) (a0 : Array Value) (hw : ∀ d ∈ tables_1, d.before a0 Z = true)  (a : Addr) (p1 : Int32) (k : Nat) (t : Addr) (mk : Int32) (f : Nat → Int32) (h0 : Heap) (n0 : Nat) (Z0 : n0 ≤ h0.size) (Fp0 : Fld Z h0 a "com/example/vetter/vetter/compare/Marks" "mark" "I" (.int mk)) (Fp1 : Fld Z h0 a "com/example/vetter/vetter/compare/Marks" "marks" "[I" (.ref t)) (Fp2 : IA Z h0 t 4 f) (hk : p1.toInt = (k : Int)) (hk4 : k < 4) (gn_t : n0 ≤ t) (ne_a_t : a ≠ t) :
    Con l (⟨"com/example/vetter/vetter/compare/Marks", "add", "(I)Z"⟩ : MethodName) prog_78_method_3_code 3 (some .boolean) [] R2 Z #[(.ref a), (.int p1)] h0 n0 (Q2 Z a p1 k t mk f h0 n0) := by
  refine con_of (Ls0 := #[.val (.ref a), .val (.int p1), .unset]) pn_1 (fun m => by first | (simp [entryFrame, mkF, argsToLocals, Value.category, maxLocals]; done) | rfl) ?_
  intro p e s m below meth c s₁ X0 hx hby hml hZ hown hnm hret hlk e0 N0
  show Goes p e s below (Q2 Z a p1 k t mk f h0 n0) n0 R2.cells R2.slots s₁ (mkF m 0 #[.val (.ref a), .val (.int p1), .unset] [])
  have K0 : Keep h0 h0 [t] := Keep.refl _ _
  refine g_aloadN X0 hx (hb hby d3_0) (v := (.ref a)) rfl rfl (pc' := 1) rfl ?_
  refine g_getF X0 hx hZ hown (hw _ (List.mem_of_getElem? (i := 12) rfl)) e0 Fp1 (hb hby d3_1) (pc' := 4) rfl (fun T1 X2 e3 => ?_)
  refine g_iloadN X2 hx (hb hby d3_4) (v := p1) rfl (pc' := 5) rfl ?_
  refine g_iaload X2 hx hZ e3 (k := k) Fp2 hk (by omega) (hb hby d3_5) (pc' := 6) rfl ?_
  refine g_aloadN X2 hx (hb hby d3_6) (v := (.ref a)) rfl rfl (pc' := 7) rfl ?_
  refine g_getF X2 hx hZ hown (hw _ (List.mem_of_getElem? (i := 9) rfl)) e3 Fp0 (hb hby d3_7) (pc' := 10) rfl (fun T4 X5 e6 => ?_)
  refine g_ii_eq X5 hx (a := (f k).toInt) (b := mk.toInt) rfl rfl (hb hby d3_10) (by decide) (pc' := 17) (by decide) (pc2 := 13) rfl (fun c7 => ?_) (fun c7 => ?_)
  · refine g_iconst X5 hx (hb hby d3_17) (v := 0) (by decide) (pc' := 18) rfl ?_
    refine g_istoreN X5 hx (hb hby d3_18) (Ls' := #[.val (.ref a), .val (.int p1), .val (.int (0 : Int32))]) rfl (pc' := 19) rfl ?_
    refine g_aloadN X5 hx (hb hby d3_19) (v := (.ref a)) rfl rfl (pc' := 20) rfl ?_
    refine g_getF X5 hx hZ hown (hw _ (List.mem_of_getElem? (i := 12) rfl)) e6 Fp1 (hb hby d3_20) (pc' := 23) rfl (fun T8 X9 e10 => ?_)
    refine g_iloadN X9 hx (hb hby d3_23) (v := p1) rfl (pc' := 24) rfl ?_
    refine g_aloadN X9 hx (hb hby d3_24) (v := (.ref a)) rfl rfl (pc' := 25) rfl ?_
    refine g_getF X9 hx hZ hown (hw _ (List.mem_of_getElem? (i := 9) rfl)) e10 Fp0 (hb hby d3_25) (pc' := 28) rfl (fun T11 X12 e13 => ?_)
    refine g_iastore X12 hx hZ e13 (k := k) (x := mk) Fp2 hk (by omega) N0 gn_t (hb hby d3_28) (pc' := 29) rfl (fun T14 h15 L16 X17 e18 W19 N20 A21 => ?_)
    have K22 := K0.wr W19 (Or.inl (by simp))
    have Z23 : n0 ≤ h15.size := by rw [W19.size]; exact Z0
    have F24 := Fld.other W19 Fp0 (Or.inl ne_a_t)
    have F25 := Fld.other W19 Fp1 (Or.inl ne_a_t)
    refine g_iloadN X17 hx (hb hby d3_29) (v := (0 : Int32)) rfl (pc' := 30) rfl ?_
    refine g_retZ X17 hx hlk (by decide) hret (hb hby d3_30) N20 (by decide) (by decide) ?_
    rw [e18]
    exact ⟨_, rfl, by first | exact Or.inl ⟨by omega, rfl⟩ | exact Or.inr ⟨by omega, rfl⟩, K22, A21⟩
  · refine g_iconst X5 hx (hb hby d3_13) (v := 1) (by decide) (pc' := 14) rfl ?_
    refine g_goto X5 hx (hb hby d3_14) (by decide) (pc' := 18) (by decide) ?_
    refine g_istoreN X5 hx (hb hby d3_18) (Ls' := #[.val (.ref a), .val (.int p1), .val (.int (1 : Int32))]) rfl (pc' := 19) rfl ?_
    refine g_aloadN X5 hx (hb hby d3_19) (v := (.ref a)) rfl rfl (pc' := 20) rfl ?_
    refine g_getF X5 hx hZ hown (hw _ (List.mem_of_getElem? (i := 12) rfl)) e6 Fp1 (hb hby d3_20) (pc' := 23) rfl (fun T27 X28 e29 => ?_)
    refine g_iloadN X28 hx (hb hby d3_23) (v := p1) rfl (pc' := 24) rfl ?_
    refine g_aloadN X28 hx (hb hby d3_24) (v := (.ref a)) rfl rfl (pc' := 25) rfl ?_
    refine g_getF X28 hx hZ hown (hw _ (List.mem_of_getElem? (i := 9) rfl)) e29 Fp0 (hb hby d3_25) (pc' := 28) rfl (fun T30 X31 e32 => ?_)
    refine g_iastore X31 hx hZ e32 (k := k) (x := mk) Fp2 hk (by omega) N0 gn_t (hb hby d3_28) (pc' := 29) rfl (fun T33 h34 L35 X36 e37 W38 N39 A40 => ?_)
    have K41 := K0.wr W38 (Or.inl (by simp))
    have Z42 : n0 ≤ h34.size := by rw [W38.size]; exact Z0
    have F43 := Fld.other W38 Fp0 (Or.inl ne_a_t)
    have F44 := Fld.other W38 Fp1 (Or.inl ne_a_t)
    refine g_iloadN X36 hx (hb hby d3_29) (v := (1 : Int32)) rfl (pc' := 30) rfl ?_
    refine g_retZ X36 hx hlk (by decide) hret (hb hby d3_30) N39 (by decide) (by decide) ?_
    rw [e37]
    exact ⟨_, rfl, by first | exact Or.inl ⟨by omega, rfl⟩ | exact Or.inr ⟨by omega, rfl⟩, K41, A40⟩
theorem d4_0 : decode prog_78_method_4_code 0 = .ok (.aload_n 0, 1) := by decide +kernel
theorem d4_1 : decode prog_78_method_4_code 1 = .ok (.getfield 13, 3) := by decide +kernel
theorem d4_4 : decode prog_78_method_4_code 4 = .ok (.iload_n 1, 1) := by decide +kernel
theorem d4_5 : decode prog_78_method_4_code 5 = .ok (.iaload, 1) := by decide +kernel
theorem d4_6 : decode prog_78_method_4_code 6 = .ok (.aload_n 0, 1) := by decide +kernel
theorem d4_7 : decode prog_78_method_4_code 7 = .ok (.getfield 7, 3) := by decide +kernel
theorem d4_10 : decode prog_78_method_4_code 10 = .ok (.if_icmp .ne 7, 3) := by decide +kernel
theorem d4_13 : decode prog_78_method_4_code 13 = .ok (.iconst 1, 1) := by decide +kernel
theorem d4_14 : decode prog_78_method_4_code 14 = .ok (.goto 4, 3) := by decide +kernel
theorem d4_17 : decode prog_78_method_4_code 17 = .ok (.iconst 0, 1) := by decide +kernel
theorem d4_18 : decode prog_78_method_4_code 18 = .ok (.ireturn, 1) := by decide +kernel
theorem pn_2 : plainFor (⟨"com/example/vetter/vetter/compare/Marks", "contains", "(I)Z"⟩ : MethodName) = true := by first | exact plainFor_of_name (by first | (simp [plainName, overriddenIn]; done) | decide +kernel) | decide +kernel
def Q3 (Z : State) (a : Addr) (p1 : Int32) (k : Nat) (t : Addr) (mk : Int32) (f : Nat → Int32) (h0 : Heap) (n0 : Nat) (v : Option Value) (h : Heap) : Prop := ∃ b : Int32, v = some (.int b) ∧ ((f k).toInt = mk.toInt ∧ b.toInt = 1 ∨ ¬ (f k).toInt = mk.toInt ∧ b.toInt = 0) ∧ h = h0
abbrev R3 : Room := { frames := 0, cells := 0, slots := 0, locals := 0 }
set_option maxRecDepth 65536 in
set_option maxHeartbeats 40000000 in
theorem rm3 (l : Launch) (Z : State) (a0 : Array Value) (hw : ∀ d ∈ tables_1, d.before a0 Z = true)  (a : Addr) (p1 : Int32) (k : Nat) (t : Addr) (mk : Int32) (f : Nat → Int32) (h0 : Heap) (n0 : Nat) (Z0 : n0 ≤ h0.size) (Fp0 : Fld Z h0 a "com/example/vetter/vetter/compare/Marks" "mark" "I" (.int mk)) (Fp1 : Fld Z h0 a "com/example/vetter/vetter/compare/Marks" "marks" "[I" (.ref t)) (Fp2 : IA Z h0 t 4 f) (hk : p1.toInt = (k : Int)) (hk4 : k < 4) :
    Con l (⟨"com/example/vetter/vetter/compare/Marks", "contains", "(I)Z"⟩ : MethodName) prog_78_method_4_code 2 (some .boolean) [] R3 Z #[(.ref a), (.int p1)] h0 n0 (Q3 Z a p1 k t mk f h0 n0) := by
  refine con_of (Ls0 := #[.val (.ref a), .val (.int p1)]) pn_2 (fun m => by first | (simp [entryFrame, mkF, argsToLocals, Value.category, maxLocals]; done) | rfl) ?_
  intro p e s m below meth c s₁ X0 hx hby hml hZ hown hnm hret hlk e0 N0
  show Goes p e s below (Q3 Z a p1 k t mk f h0 n0) n0 R3.cells R3.slots s₁ (mkF m 0 #[.val (.ref a), .val (.int p1)] [])
  refine g_aloadN X0 hx (hb hby d4_0) (v := (.ref a)) rfl rfl (pc' := 1) rfl ?_
  refine g_getF X0 hx hZ hown (hw _ (List.mem_of_getElem? (i := 12) rfl)) e0 Fp1 (hb hby d4_1) (pc' := 4) rfl (fun T1 X2 e3 => ?_)
  refine g_iloadN X2 hx (hb hby d4_4) (v := p1) rfl (pc' := 5) rfl ?_
  refine g_iaload X2 hx hZ e3 (k := k) Fp2 hk (by omega) (hb hby d4_5) (pc' := 6) rfl ?_
  refine g_aloadN X2 hx (hb hby d4_6) (v := (.ref a)) rfl rfl (pc' := 7) rfl ?_
  refine g_getF X2 hx hZ hown (hw _ (List.mem_of_getElem? (i := 9) rfl)) e3 Fp0 (hb hby d4_7) (pc' := 10) rfl (fun T4 X5 e6 => ?_)
  refine g_ii_ne X5 hx (a := (f k).toInt) (b := mk.toInt) rfl rfl (hb hby d4_10) (by decide) (pc' := 17) (by decide) (pc2 := 13) rfl (fun c7 => ?_) (fun c7 => ?_)
  · refine g_iconst X5 hx (hb hby d4_17) (v := 0) (by decide) (pc' := 18) rfl ?_
    refine g_retZ X5 hx hlk (by decide) hret (hb hby d4_18) N0 (by decide) (by decide) ?_
    exact ⟨_, rfl, by first | exact Or.inl ⟨by omega, rfl⟩ | exact Or.inr ⟨by omega, rfl⟩, e6⟩
  · refine g_iconst X5 hx (hb hby d4_13) (v := 1) (by decide) (pc' := 14) rfl ?_
    refine g_goto X5 hx (hb hby d4_14) (by decide) (pc' := 18) (by decide) ?_
    refine g_retZ X5 hx hlk (by decide) hret (hb hby d4_18) N0 (by decide) (by decide) ?_
    exact ⟨_, rfl, by first | exact Or.inl ⟨by omega, rfl⟩ | exact Or.inr ⟨by omega, rfl⟩, e6⟩
theorem d5_0 : decode prog_78_method_2_code 0 = .ok (.aload_n 0, 1) := by decide +kernel
theorem d5_1 : decode prog_78_method_2_code 1 = .ok (.getfield 7, 3) := by decide +kernel
theorem d5_4 : decode prog_78_method_2_code 4 = .ok (.ldc 19, 2) := by decide +kernel
theorem d5_6 : decode prog_78_method_2_code 6 = .ok (.if_icmp .ne 16, 3) := by decide +kernel
theorem d5_9 : decode prog_78_method_2_code 9 = .ok (.aload_n 0, 1) := by decide +kernel
theorem d5_10 : decode prog_78_method_2_code 10 = .ok (.getfield 13, 3) := by decide +kernel
theorem d5_13 : decode prog_78_method_2_code 13 = .ok (.iconst 0, 1) := by decide +kernel
theorem d5_14 : decode prog_78_method_2_code 14 = .ok (.invokestatic 20, 3) := by decide +kernel
theorem d5_17 : decode prog_78_method_2_code 17 = .ok (.aload_n 0, 1) := by decide +kernel
theorem d5_18 : decode prog_78_method_2_code 18 = .ok (.iconst 0, 1) := by decide +kernel
theorem d5_19 : decode prog_78_method_2_code 19 = .ok (.putfield 7, 3) := by decide +kernel
theorem d5_22 : decode prog_78_method_2_code 22 = .ok (.aload_n 0, 1) := by decide +kernel
theorem d5_23 : decode prog_78_method_2_code 23 = .ok (.dup, 1) := by decide +kernel
theorem d5_24 : decode prog_78_method_2_code 24 = .ok (.getfield 7, 3) := by decide +kernel
theorem d5_27 : decode prog_78_method_2_code 27 = .ok (.iconst 1, 1) := by decide +kernel
theorem d5_28 : decode prog_78_method_2_code 28 = .ok (.iadd, 1) := by decide +kernel
theorem d5_29 : decode prog_78_method_2_code 29 = .ok (.putfield 7, 3) := by decide +kernel
theorem d5_32 : decode prog_78_method_2_code 32 = .ok (.return_, 1) := by decide +kernel
theorem pn_3 : plainFor (⟨"com/example/vetter/vetter/compare/Marks", "clear", "()V"⟩ : MethodName) = true := by first | exact plainFor_of_name (by first | (simp [plainName, overriddenIn]; done) | decide +kernel) | decide +kernel
def Q4 (Z : State) (a : Addr) (mk : Int32) (t : Addr) (h0 : Heap) (n0 : Nat) (v : Option Value) (h : Heap) : Prop := v = none ∧ Keep h0 h [a] ∧ Fld Z h a "com/example/vetter/vetter/compare/Marks" "mark" "I" (.int (mk + (1 : Int32))) ∧ Fld Z h a "com/example/vetter/vetter/compare/Marks" "marks" "[I" (.ref t)
abbrev R4 : Room := { frames := 0, cells := 0, slots := 0, locals := 0 }
set_option maxRecDepth 65536 in
set_option maxHeartbeats 40000000 in
theorem rm4 (l : Launch) (Z : State) (a0 : Array Value) (hw : ∀ d ∈ tables_1, d.before a0 Z = true)  (a : Addr) (mk : Int32) (t : Addr) (h0 : Heap) (n0 : Nat) (Z0 : n0 ≤ h0.size) (Fp0 : Fld Z h0 a "com/example/vetter/vetter/compare/Marks" "mark" "I" (.int mk)) (Fp1 : Fld Z h0 a "com/example/vetter/vetter/compare/Marks" "marks" "[I" (.ref t)) (Fp2 : Exa Z h0 a "com/example/vetter/vetter/compare/Marks") (hm : mk.toInt < 2147483647) (gn_a : n0 ≤ a) :
    Con l (⟨"com/example/vetter/vetter/compare/Marks", "clear", "()V"⟩ : MethodName) prog_78_method_2_code 1 none [] R4 Z #[(.ref a)] h0 n0 (Q4 Z a mk t h0 n0) := by
  refine con_of (Ls0 := #[.val (.ref a)]) pn_3 (fun m => by first | (simp [entryFrame, mkF, argsToLocals, Value.category, maxLocals]; done) | rfl) ?_
  intro p e s m below meth c s₁ X0 hx hby hml hZ hown hnm hret hlk e0 N0
  show Goes p e s below (Q4 Z a mk t h0 n0) n0 R4.cells R4.slots s₁ (mkF m 0 #[.val (.ref a)] [])
  have K0 : Keep h0 h0 [a] := Keep.refl _ _
  refine g_aloadN X0 hx (hb hby d5_0) (v := (.ref a)) rfl rfl (pc' := 1) rfl ?_
  refine g_getF X0 hx hZ hown (hw _ (List.mem_of_getElem? (i := 9) rfl)) e0 Fp0 (hb hby d5_1) (pc' := 4) rfl (fun T1 X2 e3 => ?_)
  refine g_ldc X2 hx hZ hown (hb hby d5_4) (v := 2147483647) (hw _ (List.mem_of_getElem? (i := 29) rfl)) (pc' := 6) rfl ?_
  refine g_ii_ne X2 hx (a := mk.toInt) (b := 2147483647) rfl rfl (hb hby d5_6) (by decide) (pc' := 22) (by decide) (pc2 := 9) rfl (fun c4 => ?_) (fun c4 => False.elim (by omega))
  refine g_aloadN X2 hx (hb hby d5_22) (v := (.ref a)) rfl rfl (pc' := 23) rfl ?_
  refine g_dup X2 hx (hb hby d5_23) rfl (pc' := 24) rfl ?_
  refine g_getF X2 hx hZ hown (hw _ (List.mem_of_getElem? (i := 9) rfl)) e3 Fp0 (hb hby d5_24) (pc' := 27) rfl (fun T5 X6 e7 => ?_)
  refine g_iconst X6 hx (hb hby d5_27) (v := 1) (by decide) (pc' := 28) rfl ?_
  refine g_iadd X6 hx (hb hby d5_28) (pc' := 29) rfl ?_
  refine g_putF X6 hx hZ hown (hw _ (List.mem_of_getElem? (i := 9) rfl)) e7 (v := (.int (mk + (1 : Int32)))) Fp0 Fp2 (Or.inl (hw _ (List.mem_of_getElem? (i := 10) rfl))) (hw _ (List.mem_of_getElem? (i := 1) rfl)) (ty := .int) (by decide) rfl rfl N0 gn_a (hb hby d5_29) (pc' := 32) rfl (fun T8 h9 L10 X11 e12 W13 N14 => ?_)
  have K15 := K0.wr W13 (Or.inl (by simp))
  have Z16 : n0 ≤ h9.size := by rw [W13.size]; exact Z0
  have F17 := Fld.same W13 Fp0
  have F18 := Fld.other W13 Fp1 (Or.inr (slot_ne (Or.inr (hw _ (List.mem_of_getElem? (i := 13) rfl))) (Or.inl (hw _ (List.mem_of_getElem? (i := 10) rfl))) (by decide) (t := (.array .int)) (t' := .int) (by decide) (by decide)))
  have F19 := Exa.wr W13 Fp2
  refine g_retV X11 hx hlk hret (hb hby d5_32) N14 (by decide) (by decide) ?_
  rw [e12]
  exact ⟨rfl, K15, F17, F18⟩
theorem pn_4 : plainFor (⟨"com/example/vetter/vetter/compare/MarksAddPinLaw", "law", "(IIIII)Z"⟩ : MethodName) = true := by first | exact plainFor_of_name (by first | (simp [plainName, overriddenIn]; done) | decide +kernel) | decide +kernel
def Q0 (Z : State) (p0 : Int32) (p1 : Int32) (p2 : Int32) (p3 : Int32) (p4 : Int32) (h0 : Heap) (n0 : Nat) (v : Option Value) (h : Heap) : Prop := v = some (.int 1)
set_option maxRecDepth 65536 in
set_option maxHeartbeats 40000000 in
theorem rm0 (l : Launch) (Z : State) (a0 : Array Value) (hw : ∀ d ∈ tables_1, d.before a0 Z = true) (ws : List Jvm.Cond) (p0 : Int32) (p1 : Int32) (p2 : Int32) (p3 : Int32) (p4 : Int32) (h0 : Heap) (n0 : Nat) (Z0 : n0 ≤ h0.size)  :
    Con l x code maxLocals ret ws room_1 Z #[(.int p0), (.int p1), (.int p2), (.int p3), (.int p4)] h0 n0 (Q0 Z p0 p1 p2 p3 p4 h0 n0) := by
  refine con_of (Ls0 := #[.val (.int p0), .val (.int p1), .val (.int p2), .val (.int p3), .val (.int p4), .unset, .unset, .unset, .unset, .unset, .unset, .unset, .unset, .unset, .unset, .unset, .unset, .unset, .unset, .unset]) pn_4 (fun m => by first | (simp [entryFrame, mkF, argsToLocals, Value.category, maxLocals]; done) | rfl) ?_
  intro p e s m below meth c s₁ X0 hx hby hml hZ hown hnm hret hlk e0 N0
  refine g_iloadN X0 hx (hb hby at_0) (v := p0) rfl (pc' := 1) rfl ?_
  refine g_iconst X0 hx (hb hby at_1) (v := 3) (by decide) (pc' := 2) rfl ?_
  refine g_iand X0 hx (hb hby at_2) (pc' := 3) rfl ?_
  refine g_istore X0 hx (hb hby at_3) (Ls' := #[.val (.int p0), .val (.int p1), .val (.int p2), .val (.int p3), .val (.int p4), .val (.int (p0 &&& (3 : Int32))), .unset, .unset, .unset, .unset, .unset, .unset, .unset, .unset, .unset, .unset, .unset, .unset, .unset, .unset]) rfl (pc' := 5) rfl ?_
  refine g_iloadN X0 hx (hb hby at_5) (v := p1) rfl (pc' := 6) rfl ?_
  refine g_iconst X0 hx (hb hby at_6) (v := 3) (by decide) (pc' := 7) rfl ?_
  refine g_iand X0 hx (hb hby at_7) (pc' := 8) rfl ?_
  refine g_istore X0 hx (hb hby at_8) (Ls' := #[.val (.int p0), .val (.int p1), .val (.int p2), .val (.int p3), .val (.int p4), .val (.int (p0 &&& (3 : Int32))), .val (.int (p1 &&& (3 : Int32))), .unset, .unset, .unset, .unset, .unset, .unset, .unset, .unset, .unset, .unset, .unset, .unset, .unset]) rfl (pc' := 10) rfl ?_
  refine g_iloadN X0 hx (hb hby at_10) (v := p2) rfl (pc' := 11) rfl ?_
  refine g_iconst X0 hx (hb hby at_11) (v := 3) (by decide) (pc' := 12) rfl ?_
  refine g_iand X0 hx (hb hby at_12) (pc' := 13) rfl ?_
  refine g_istore X0 hx (hb hby at_13) (Ls' := #[.val (.int p0), .val (.int p1), .val (.int p2), .val (.int p3), .val (.int p4), .val (.int (p0 &&& (3 : Int32))), .val (.int (p1 &&& (3 : Int32))), .val (.int (p2 &&& (3 : Int32))), .unset, .unset, .unset, .unset, .unset, .unset, .unset, .unset, .unset, .unset, .unset, .unset]) rfl (pc' := 15) rfl ?_
  refine g_iloadN X0 hx (hb hby at_15) (v := p3) rfl (pc' := 16) rfl ?_
  refine g_iconst X0 hx (hb hby at_16) (v := 3) (by decide) (pc' := 17) rfl ?_
  refine g_iand X0 hx (hb hby at_17) (pc' := 18) rfl ?_
  refine g_istore X0 hx (hb hby at_18) (Ls' := #[.val (.int p0), .val (.int p1), .val (.int p2), .val (.int p3), .val (.int p4), .val (.int (p0 &&& (3 : Int32))), .val (.int (p1 &&& (3 : Int32))), .val (.int (p2 &&& (3 : Int32))), .val (.int (p3 &&& (3 : Int32))), .unset, .unset, .unset, .unset, .unset, .unset, .unset, .unset, .unset, .unset, .unset]) rfl (pc' := 20) rfl ?_
  have m0 := c_mask p0 3 2 (by decide) (by decide)
  obtain ⟨ka, hka, gka⟩ := i32_get (x := (p0 &&& (3 : Int32))) (by omega)
  have g4ka : ka < 4 := by omega
  have m1 := c_mask p1 3 2 (by decide) (by decide)
  obtain ⟨kb, hkb, gkb⟩ := i32_get (x := (p1 &&& (3 : Int32))) (by omega)
  have g4kb : kb < 4 := by omega
  have m2 := c_mask p2 3 2 (by decide) (by decide)
  obtain ⟨kc, hkc, gkc⟩ := i32_get (x := (p2 &&& (3 : Int32))) (by omega)
  have g4kc : kc < 4 := by omega
  have m3 := c_mask p3 3 2 (by decide) (by decide)
  obtain ⟨kd, hkd, gkd⟩ := i32_get (x := (p3 &&& (3 : Int32))) (by omega)
  have g4kd : kd < 4 := by omega
  refine g_iload X0 hx (hb hby at_20) (v := p4) rfl (pc' := 22) rfl ?_
  refine g_iconst X0 hx (hb hby at_22) (v := 1) (by decide) (pc' := 23) rfl ?_
  refine g_iand X0 hx (hb hby at_23) (pc' := 24) rfl ?_
  refine g_i0_eq X0 hx (a := (p4 &&& (1 : Int32)).toInt) rfl (hb hby at_24) (by decide) (pc' := 31) (by decide) (pc2 := 27) rfl (fun c1 => ?_) (fun c1 => ?_)
  · refine g_iconst X0 hx (hb hby at_31) (v := 0) (by decide) (pc' := 32) rfl ?_
    refine g_istore X0 hx (hb hby at_32) (Ls' := #[.val (.int p0), .val (.int p1), .val (.int p2), .val (.int p3), .val (.int p4), .val (.int (p0 &&& (3 : Int32))), .val (.int (p1 &&& (3 : Int32))), .val (.int (p2 &&& (3 : Int32))), .val (.int (p3 &&& (3 : Int32))), .val (.int (0 : Int32)), .unset, .unset, .unset, .unset, .unset, .unset, .unset, .unset, .unset, .unset]) rfl (pc' := 34) rfl ?_
    refine g_new X0 hx hZ hown (hw _ (List.mem_of_getElem? (i := 0) rfl)) (hw _ (List.mem_of_getElem? (i := 1) rfl)) (hw _ (List.mem_of_getElem? (i := 2) rfl)) e0 (hb hby at_34) (by decide) (by decide) (pc' := 37) rfl (fun T2 h3 a4 g5 X6 e7 E8 l9 A10 D11 => ?_)
    have Z12 : n0 ≤ h3.size := Nat.le_trans Z0 E8.1
    have nl13 : n0 ≤ a4 := by rw [g5]; exact Z0
    have F14 : Fld Z h3 a4 "com/example/vetter/vetter/compare/Marks" "mark" "I" (.int (0 : Int32)) := D11 (Or.inl (hw _ (List.mem_of_getElem? (i := 10) rfl))) (ty := .int) (by decide)
    have F15 : Fld Z h3 a4 "com/example/vetter/vetter/compare/Marks" "marks" "[I" .null := D11 (Or.inr (hw _ (List.mem_of_getElem? (i := 13) rfl))) (ty := (.array .int)) (by decide)
    refine g_dup X6 hx (hb hby at_37) rfl (pc' := 38) rfl ?_
    refine g_iconst X6 hx (hb hby at_38) (v := 4) (by decide) (pc' := 39) rfl ?_
    refine g_special X6 hx hZ rfl hown (hw _ (List.mem_of_getElem? (i := 3) rfl)) (hw _ (List.mem_of_getElem? (i := 4) rfl)) (hw _ (List.mem_of_getElem? (i := 2) rfl)) (hw _ (List.mem_of_getElem? (i := 5) rfl)) (by decide) (a := a4) (argsL := [(.int (4 : Int32))]) (rm1 l Z a0 hw a4 h3 n0 Z12 F14 F15 A10 nl13) rfl e7 (by rw [hml]; rfl) pd_1 rfl (rest := [(.ref a4)]) rfl (W := 1) (Nat.le_of_eq rfl) (by decide) (by decide) (by decide) (by decide) N0 (hb hby at_39) (pc' := 42) rfl (fun v16 T17 L18 X19 N20 q21 => ?_)
    obtain ⟨t22, rfl, z23, K24, F25, F26, F27, F28⟩ := q21
    have lt29 : (4 : Int32).toInt = 4 := rfl
    have Z30 : n0 ≤ T17.heap.size := Nat.le_trans Z12 K24.1
    have nl31 : n0 ≤ t22 := Nat.le_trans Z12 z23
    have ne32 : a4 ≠ t22 := Nat.ne_of_lt (Nat.lt_of_lt_of_le A10.lt z23)
    show Goes p e s below (Q0 Z p0 p1 p2 p3 p4 h0 n0) n0 room_1.cells room_1.slots T17 (mkF m 42 #[.val (.int p0), .val (.int p1), .val (.int p2), .val (.int p3), .val (.int p4), .val (.int (p0 &&& (3 : Int32))), .val (.int (p1 &&& (3 : Int32))), .val (.int (p2 &&& (3 : Int32))), .val (.int (p3 &&& (3 : Int32))), .val (.int (0 : Int32)), .unset, .unset, .unset, .unset, .unset, .unset, .unset, .unset, .unset, .unset] [(.ref a4)])
    refine g_astore X19 hx (hb hby at_42) rfl (Ls' := #[.val (.int p0), .val (.int p1), .val (.int p2), .val (.int p3), .val (.int p4), .val (.int (p0 &&& (3 : Int32))), .val (.int (p1 &&& (3 : Int32))), .val (.int (p2 &&& (3 : Int32))), .val (.int (p3 &&& (3 : Int32))), .val (.int (0 : Int32)), .val (.ref a4), .unset, .unset, .unset, .unset, .unset, .unset, .unset, .unset, .unset]) rfl (pc' := 44) rfl ?_
    refine g_aload X19 hx (hb hby at_44) (v := (.ref a4)) rfl rfl (pc' := 46) rfl ?_
    refine g_iload X19 hx (hb hby at_46) (v := (p0 &&& (3 : Int32))) rfl (pc' := 48) rfl ?_
    have u33 : (zeroI ka).toInt = 0 := rfl
    refine g_virtual X19 hx hZ hown (hw _ (List.mem_of_getElem? (i := 14) rfl)) (hw _ (List.mem_of_getElem? (i := 15) rfl)) (hw _ (List.mem_of_getElem? (i := 17) rfl)) (hw _ (List.mem_of_getElem? (i := 16) rfl)) (hw _ (List.mem_of_getElem? (i := 2) rfl)) (hw _ (List.mem_of_getElem? (i := 18) rfl)) (by decide) (a := a4) (argsL := [(.int (p0 &&& (3 : Int32)))]) (rm2 l Z a0 hw a4 (p0 &&& (3 : Int32)) ka t22 (1 : Int32) zeroI T17.heap n0 Z30 F26 F27 F28 hka (by omega) nl31 ne32) rfl rfl F25 (by rw [hml]; rfl) pd_2 rfl (rest := []) rfl (W := 0) (Nat.le_of_eq rfl) (by decide) (by decide) (by decide) (by decide) N20 (hb hby at_48) (pc' := 51) rfl (fun v34 T35 L36 X37 N38 q39 => ?_)
    obtain ⟨b40, rfl, f41, K42, F43⟩ := q39
    have Z44 : n0 ≤ T35.heap.size := Nat.le_trans Z30 K42.1
    have F45 := F25.keep K42
    have F46 := F26.keep K42 (ninS ne32 nin0)
    have F47 := F27.keep K42 (ninS ne32 nin0)
    show Goes p e s below (Q0 Z p0 p1 p2 p3 p4 h0 n0) n0 room_1.cells room_1.slots T35 (mkF m 51 #[.val (.int p0), .val (.int p1), .val (.int p2), .val (.int p3), .val (.int p4), .val (.int (p0 &&& (3 : Int32))), .val (.int (p1 &&& (3 : Int32))), .val (.int (p2 &&& (3 : Int32))), .val (.int (p3 &&& (3 : Int32))), .val (.int (0 : Int32)), .val (.ref a4), .unset, .unset, .unset, .unset, .unset, .unset, .unset, .unset, .unset] [(.int b40)])
    refine g_istore X37 hx (hb hby at_51) (Ls' := #[.val (.int p0), .val (.int p1), .val (.int p2), .val (.int p3), .val (.int p4), .val (.int (p0 &&& (3 : Int32))), .val (.int (p1 &&& (3 : Int32))), .val (.int (p2 &&& (3 : Int32))), .val (.int (p3 &&& (3 : Int32))), .val (.int (0 : Int32)), .val (.ref a4), .val (.int b40), .unset, .unset, .unset, .unset, .unset, .unset, .unset, .unset]) rfl (pc' := 53) rfl ?_
    refine g_aload X37 hx (hb hby at_53) (v := (.ref a4)) rfl rfl (pc' := 55) rfl ?_
    refine g_iload X37 hx (hb hby at_55) (v := (p1 &&& (3 : Int32))) rfl (pc' := 57) rfl ?_
    have u48 := oupdI zeroI ka kb (1 : Int32)
    have lt49 : (1 : Int32).toInt = 1 := rfl
    have u50 : (zeroI kb).toInt = 0 := rfl
    refine g_virtual X37 hx hZ hown (hw _ (List.mem_of_getElem? (i := 14) rfl)) (hw _ (List.mem_of_getElem? (i := 15) rfl)) (hw _ (List.mem_of_getElem? (i := 17) rfl)) (hw _ (List.mem_of_getElem? (i := 16) rfl)) (hw _ (List.mem_of_getElem? (i := 2) rfl)) (hw _ (List.mem_of_getElem? (i := 18) rfl)) (by decide) (a := a4) (argsL := [(.int (p1 &&& (3 : Int32)))]) (rm2 l Z a0 hw a4 (p1 &&& (3 : Int32)) kb t22 (1 : Int32) (oupd zeroI ka (1 : Int32)) T35.heap n0 Z44 F46 F47 F43 hkb (by omega) nl31 ne32) rfl rfl F45 (by rw [hml]; rfl) pd_2 rfl (rest := []) rfl (W := 0) (Nat.le_of_eq rfl) (by decide) (by decide) (by decide) (by decide) N38 (hb hby at_57) (pc' := 60) rfl (fun v51 T52 L53 X54 N55 q56 => ?_)
    obtain ⟨b57, rfl, f58, K59, F60⟩ := q56
    have Z61 : n0 ≤ T52.heap.size := Nat.le_trans Z44 K59.1
    have F62 := F45.keep K59
    have F63 := F46.keep K59 (ninS ne32 nin0)
    have F64 := F47.keep K59 (ninS ne32 nin0)
    show Goes p e s below (Q0 Z p0 p1 p2 p3 p4 h0 n0) n0 room_1.cells room_1.slots T52 (mkF m 60 #[.val (.int p0), .val (.int p1), .val (.int p2), .val (.int p3), .val (.int p4), .val (.int (p0 &&& (3 : Int32))), .val (.int (p1 &&& (3 : Int32))), .val (.int (p2 &&& (3 : Int32))), .val (.int (p3 &&& (3 : Int32))), .val (.int (0 : Int32)), .val (.ref a4), .val (.int b40), .unset, .unset, .unset, .unset, .unset, .unset, .unset, .unset] [(.int b57)])
    refine g_istore X54 hx (hb hby at_60) (Ls' := #[.val (.int p0), .val (.int p1), .val (.int p2), .val (.int p3), .val (.int p4), .val (.int (p0 &&& (3 : Int32))), .val (.int (p1 &&& (3 : Int32))), .val (.int (p2 &&& (3 : Int32))), .val (.int (p3 &&& (3 : Int32))), .val (.int (0 : Int32)), .val (.ref a4), .val (.int b40), .val (.int b57), .unset, .unset, .unset, .unset, .unset, .unset, .unset]) rfl (pc' := 62) rfl ?_
    refine g_iload X54 hx (hb hby at_62) (v := (0 : Int32)) rfl (pc' := 64) rfl ?_
    refine g_i0_eq X54 hx (a := 0) rfl (hb hby at_64) (by decide) (pc' := 72) (by decide) (pc2 := 67) rfl (fun c65 => ?_) (fun c65 => False.elim (by omega))
    refine g_aload X54 hx (hb hby at_72) (v := (.ref a4)) rfl rfl (pc' := 74) rfl ?_
    refine g_iload X54 hx (hb hby at_74) (v := (p2 &&& (3 : Int32))) rfl (pc' := 76) rfl ?_
    have u66 := oupdI (oupd zeroI ka (1 : Int32)) kb kc (1 : Int32)
    have u67 := oupdI zeroI ka kc (1 : Int32)
    have u68 : (zeroI kc).toInt = 0 := rfl
    refine g_virtual X54 hx hZ hown (hw _ (List.mem_of_getElem? (i := 14) rfl)) (hw _ (List.mem_of_getElem? (i := 15) rfl)) (hw _ (List.mem_of_getElem? (i := 17) rfl)) (hw _ (List.mem_of_getElem? (i := 16) rfl)) (hw _ (List.mem_of_getElem? (i := 2) rfl)) (hw _ (List.mem_of_getElem? (i := 18) rfl)) (by decide) (a := a4) (argsL := [(.int (p2 &&& (3 : Int32)))]) (rm2 l Z a0 hw a4 (p2 &&& (3 : Int32)) kc t22 (1 : Int32) (oupd (oupd zeroI ka (1 : Int32)) kb (1 : Int32)) T52.heap n0 Z61 F63 F64 F60 hkc (by omega) nl31 ne32) rfl rfl F62 (by rw [hml]; rfl) pd_2 rfl (rest := []) rfl (W := 0) (Nat.le_of_eq rfl) (by decide) (by decide) (by decide) (by decide) N55 (hb hby at_76) (pc' := 79) rfl (fun v69 T70 L71 X72 N73 q74 => ?_)
    obtain ⟨b75, rfl, f76, K77, F78⟩ := q74
    have Z79 : n0 ≤ T70.heap.size := Nat.le_trans Z61 K77.1
    have F80 := F62.keep K77
    have F81 := F63.keep K77 (ninS ne32 nin0)
    have F82 := F64.keep K77 (ninS ne32 nin0)
    show Goes p e s below (Q0 Z p0 p1 p2 p3 p4 h0 n0) n0 room_1.cells room_1.slots T70 (mkF m 79 #[.val (.int p0), .val (.int p1), .val (.int p2), .val (.int p3), .val (.int p4), .val (.int (p0 &&& (3 : Int32))), .val (.int (p1 &&& (3 : Int32))), .val (.int (p2 &&& (3 : Int32))), .val (.int (p3 &&& (3 : Int32))), .val (.int (0 : Int32)), .val (.ref a4), .val (.int b40), .val (.int b57), .unset, .unset, .unset, .unset, .unset, .unset, .unset] [(.int b75)])
    refine g_istore X72 hx (hb hby at_79) (Ls' := #[.val (.int p0), .val (.int p1), .val (.int p2), .val (.int p3), .val (.int p4), .val (.int (p0 &&& (3 : Int32))), .val (.int (p1 &&& (3 : Int32))), .val (.int (p2 &&& (3 : Int32))), .val (.int (p3 &&& (3 : Int32))), .val (.int (0 : Int32)), .val (.ref a4), .val (.int b40), .val (.int b57), .val (.int b75), .unset, .unset, .unset, .unset, .unset, .unset]) rfl (pc' := 81) rfl ?_
    refine g_aload X72 hx (hb hby at_81) (v := (.ref a4)) rfl rfl (pc' := 83) rfl ?_
    refine g_iload X72 hx (hb hby at_83) (v := (p2 &&& (3 : Int32))) rfl (pc' := 85) rfl ?_
    have u83 := oupdI (oupd (oupd zeroI ka (1 : Int32)) kb (1 : Int32)) kc kc (1 : Int32)
    have u84 := oupdI (oupd zeroI ka (1 : Int32)) kb kc (1 : Int32)
    have u85 := oupdI zeroI ka kc (1 : Int32)
    have u86 : (zeroI kc).toInt = 0 := rfl
    refine g_virtual X72 hx hZ hown (hw _ (List.mem_of_getElem? (i := 14) rfl)) (hw _ (List.mem_of_getElem? (i := 15) rfl)) (hw _ (List.mem_of_getElem? (i := 17) rfl)) (hw _ (List.mem_of_getElem? (i := 16) rfl)) (hw _ (List.mem_of_getElem? (i := 2) rfl)) (hw _ (List.mem_of_getElem? (i := 18) rfl)) (by decide) (a := a4) (argsL := [(.int (p2 &&& (3 : Int32)))]) (rm2 l Z a0 hw a4 (p2 &&& (3 : Int32)) kc t22 (1 : Int32) (oupd (oupd (oupd zeroI ka (1 : Int32)) kb (1 : Int32)) kc (1 : Int32)) T70.heap n0 Z79 F81 F82 F78 hkc (by omega) nl31 ne32) rfl rfl F80 (by rw [hml]; rfl) pd_2 rfl (rest := []) rfl (W := 0) (Nat.le_of_eq rfl) (by decide) (by decide) (by decide) (by decide) N73 (hb hby at_85) (pc' := 88) rfl (fun v87 T88 L89 X90 N91 q92 => ?_)
    obtain ⟨b93, rfl, f94, K95, F96⟩ := q92
    have Z97 : n0 ≤ T88.heap.size := Nat.le_trans Z79 K95.1
    have F98 := F80.keep K95
    have F99 := F81.keep K95 (ninS ne32 nin0)
    have F100 := F82.keep K95 (ninS ne32 nin0)
    show Goes p e s below (Q0 Z p0 p1 p2 p3 p4 h0 n0) n0 room_1.cells room_1.slots T88 (mkF m 88 #[.val (.int p0), .val (.int p1), .val (.int p2), .val (.int p3), .val (.int p4), .val (.int (p0 &&& (3 : Int32))), .val (.int (p1 &&& (3 : Int32))), .val (.int (p2 &&& (3 : Int32))), .val (.int (p3 &&& (3 : Int32))), .val (.int (0 : Int32)), .val (.ref a4), .val (.int b40), .val (.int b57), .val (.int b75), .unset, .unset, .unset, .unset, .unset, .unset] [(.int b93)])
    refine g_istore X90 hx (hb hby at_88) (Ls' := #[.val (.int p0), .val (.int p1), .val (.int p2), .val (.int p3), .val (.int p4), .val (.int (p0 &&& (3 : Int32))), .val (.int (p1 &&& (3 : Int32))), .val (.int (p2 &&& (3 : Int32))), .val (.int (p3 &&& (3 : Int32))), .val (.int (0 : Int32)), .val (.ref a4), .val (.int b40), .val (.int b57), .val (.int b75), .val (.int b93), .unset, .unset, .unset, .unset, .unset]) rfl (pc' := 90) rfl ?_
    refine g_aload X90 hx (hb hby at_90) (v := (.ref a4)) rfl rfl (pc' := 92) rfl ?_
    refine g_iload X90 hx (hb hby at_92) (v := (p3 &&& (3 : Int32))) rfl (pc' := 94) rfl ?_
    have u101 := oupdI (oupd (oupd (oupd zeroI ka (1 : Int32)) kb (1 : Int32)) kc (1 : Int32)) kc kd (1 : Int32)
    have u102 := oupdI (oupd (oupd zeroI ka (1 : Int32)) kb (1 : Int32)) kc kd (1 : Int32)
    have u103 := oupdI (oupd zeroI ka (1 : Int32)) kb kd (1 : Int32)
    have u104 := oupdI zeroI ka kd (1 : Int32)
    have u105 : (zeroI kd).toInt = 0 := rfl
    refine g_virtual X90 hx hZ hown (hw _ (List.mem_of_getElem? (i := 19) rfl)) (hw _ (List.mem_of_getElem? (i := 20) rfl)) (hw _ (List.mem_of_getElem? (i := 22) rfl)) (hw _ (List.mem_of_getElem? (i := 21) rfl)) (hw _ (List.mem_of_getElem? (i := 2) rfl)) (hw _ (List.mem_of_getElem? (i := 23) rfl)) (by decide) (a := a4) (argsL := [(.int (p3 &&& (3 : Int32)))]) (rm3 l Z a0 hw a4 (p3 &&& (3 : Int32)) kd t22 (1 : Int32) (oupd (oupd (oupd (oupd zeroI ka (1 : Int32)) kb (1 : Int32)) kc (1 : Int32)) kc (1 : Int32)) T88.heap n0 Z97 F99 F100 F96 hkd (by omega)) rfl rfl F98 (by rw [hml]; rfl) pd_2 rfl (rest := []) rfl (W := 0) (Nat.le_of_eq rfl) (by decide) (by decide) (by decide) (by decide) N91 (hb hby at_94) (pc' := 97) rfl (fun v106 T107 L108 X109 N110 q111 => ?_)
    obtain ⟨b112, rfl, f113, K114⟩ := q111
    show Goes p e s below (Q0 Z p0 p1 p2 p3 p4 h0 n0) n0 room_1.cells room_1.slots T107 (mkF m 97 #[.val (.int p0), .val (.int p1), .val (.int p2), .val (.int p3), .val (.int p4), .val (.int (p0 &&& (3 : Int32))), .val (.int (p1 &&& (3 : Int32))), .val (.int (p2 &&& (3 : Int32))), .val (.int (p3 &&& (3 : Int32))), .val (.int (0 : Int32)), .val (.ref a4), .val (.int b40), .val (.int b57), .val (.int b75), .val (.int b93), .unset, .unset, .unset, .unset, .unset] [(.int b112)])
    refine g_istore X109 hx (hb hby at_97) (Ls' := #[.val (.int p0), .val (.int p1), .val (.int p2), .val (.int p3), .val (.int p4), .val (.int (p0 &&& (3 : Int32))), .val (.int (p1 &&& (3 : Int32))), .val (.int (p2 &&& (3 : Int32))), .val (.int (p3 &&& (3 : Int32))), .val (.int (0 : Int32)), .val (.ref a4), .val (.int b40), .val (.int b57), .val (.int b75), .val (.int b93), .val (.int b112), .unset, .unset, .unset, .unset]) rfl (pc' := 99) rfl ?_
    have l2 : ((1 : Int32) + (1 : Int32)).toInt = 2 := rfl
    have l1 : (1 : Int32).toInt = 1 := rfl
    refine g_iconst X109 hx (hb hby at_99) (v := 1) (by decide) (pc' := 100) rfl ?_
    refine g_istore X109 hx (hb hby at_100) (Ls' := #[.val (.int p0), .val (.int p1), .val (.int p2), .val (.int p3), .val (.int p4), .val (.int (p0 &&& (3 : Int32))), .val (.int (p1 &&& (3 : Int32))), .val (.int (p2 &&& (3 : Int32))), .val (.int (p3 &&& (3 : Int32))), .val (.int (0 : Int32)), .val (.ref a4), .val (.int b40), .val (.int b57), .val (.int b75), .val (.int b93), .val (.int b112), .val (.int (1 : Int32)), .unset, .unset, .unset]) rfl (pc' := 102) rfl ?_
    refine g_iload X109 hx (hb hby at_102) (v := (p1 &&& (3 : Int32))) rfl (pc' := 104) rfl ?_
    refine g_iload X109 hx (hb hby at_104) (v := (p0 &&& (3 : Int32))) rfl (pc' := 106) rfl ?_
    have J115 : ∀ (e2 : Int32), ((¬ (kb : Int) = (ka : Int)) ∧ e2.toInt = 1 ∨ ¬ (¬ (kb : Int) = (ka : Int)) ∧ e2.toInt = 0) → Goes p e s below (Q0 Z p0 p1 p2 p3 p4 h0 n0) n0 room_1.cells room_1.slots T107 (mkF m 114 #[.val (.int p0), .val (.int p1), .val (.int p2), .val (.int p3), .val (.int p4), .val (.int (p0 &&& (3 : Int32))), .val (.int (p1 &&& (3 : Int32))), .val (.int (p2 &&& (3 : Int32))), .val (.int (p3 &&& (3 : Int32))), .val (.int (0 : Int32)), .val (.ref a4), .val (.int b40), .val (.int b57), .val (.int b75), .val (.int b93), .val (.int b112), .val (.int (1 : Int32)), .unset, .unset, .unset] [(.int e2)]) := by
      intro e2 j116
      refine g_istore X109 hx (hb hby at_114) (Ls' := #[.val (.int p0), .val (.int p1), .val (.int p2), .val (.int p3), .val (.int p4), .val (.int (p0 &&& (3 : Int32))), .val (.int (p1 &&& (3 : Int32))), .val (.int (p2 &&& (3 : Int32))), .val (.int (p3 &&& (3 : Int32))), .val (.int (0 : Int32)), .val (.ref a4), .val (.int b40), .val (.int b57), .val (.int b75), .val (.int b93), .val (.int b112), .val (.int (1 : Int32)), .val (.int e2), .unset, .unset]) rfl (pc' := 116) rfl ?_
      refine g_iload X109 hx (hb hby at_116) (v := (0 : Int32)) rfl (pc' := 118) rfl ?_
      refine g_i0_eq X109 hx (a := 0) rfl (hb hby at_118) (by decide) (pc' := 141) (by decide) (pc2 := 121) rfl (fun c117 => ?_) (fun c117 => False.elim (by omega))
      refine g_iload X109 hx (hb hby at_141) (v := (p2 &&& (3 : Int32))) rfl (pc' := 143) rfl ?_
      refine g_iload X109 hx (hb hby at_143) (v := (p0 &&& (3 : Int32))) rfl (pc' := 145) rfl ?_
      have J118 : ∀ (e3 : Int32), ((¬ (kc : Int) = (ka : Int) ∧ ¬ (kc : Int) = (kb : Int)) ∧ e3.toInt = 1 ∨ ¬ (¬ (kc : Int) = (ka : Int) ∧ ¬ (kc : Int) = (kb : Int)) ∧ e3.toInt = 0) → Goes p e s below (Q0 Z p0 p1 p2 p3 p4 h0 n0) n0 room_1.cells room_1.slots T107 (mkF m 160 #[.val (.int p0), .val (.int p1), .val (.int p2), .val (.int p3), .val (.int p4), .val (.int (p0 &&& (3 : Int32))), .val (.int (p1 &&& (3 : Int32))), .val (.int (p2 &&& (3 : Int32))), .val (.int (p3 &&& (3 : Int32))), .val (.int (0 : Int32)), .val (.ref a4), .val (.int b40), .val (.int b57), .val (.int b75), .val (.int b93), .val (.int b112), .val (.int (1 : Int32)), .val (.int e2), .unset, .unset] [(.int e3)]) := by
        intro e3 j119
        refine g_istore X109 hx (hb hby at_160) (Ls' := #[.val (.int p0), .val (.int p1), .val (.int p2), .val (.int p3), .val (.int p4), .val (.int (p0 &&& (3 : Int32))), .val (.int (p1 &&& (3 : Int32))), .val (.int (p2 &&& (3 : Int32))), .val (.int (p3 &&& (3 : Int32))), .val (.int (0 : Int32)), .val (.ref a4), .val (.int b40), .val (.int b57), .val (.int b75), .val (.int b93), .val (.int b112), .val (.int (1 : Int32)), .val (.int e2), .val (.int e3), .unset]) rfl (pc' := 162) rfl ?_
        refine g_iload X109 hx (hb hby at_162) (v := (p3 &&& (3 : Int32))) rfl (pc' := 164) rfl ?_
        refine g_iload X109 hx (hb hby at_164) (v := (p0 &&& (3 : Int32))) rfl (pc' := 166) rfl ?_
        have J120 : ∀ (e5 : Int32), (((kd : Int) = (ka : Int) ∨ (kd : Int) = (kb : Int) ∨ (kd : Int) = (kc : Int)) ∧ e5.toInt = 1 ∨ ¬ ((kd : Int) = (ka : Int) ∨ (kd : Int) = (kb : Int) ∨ (kd : Int) = (kc : Int)) ∧ e5.toInt = 0) → Goes p e s below (Q0 Z p0 p1 p2 p3 p4 h0 n0) n0 room_1.cells room_1.slots T107 (mkF m 188 #[.val (.int p0), .val (.int p1), .val (.int p2), .val (.int p3), .val (.int p4), .val (.int (p0 &&& (3 : Int32))), .val (.int (p1 &&& (3 : Int32))), .val (.int (p2 &&& (3 : Int32))), .val (.int (p3 &&& (3 : Int32))), .val (.int (0 : Int32)), .val (.ref a4), .val (.int b40), .val (.int b57), .val (.int b75), .val (.int b93), .val (.int b112), .val (.int (1 : Int32)), .val (.int e2), .val (.int e3), .unset] [(.int e5)]) := by
          intro e5 j121
          refine g_istore X109 hx (hb hby at_188) (Ls' := #[.val (.int p0), .val (.int p1), .val (.int p2), .val (.int p3), .val (.int p4), .val (.int (p0 &&& (3 : Int32))), .val (.int (p1 &&& (3 : Int32))), .val (.int (p2 &&& (3 : Int32))), .val (.int (p3 &&& (3 : Int32))), .val (.int (0 : Int32)), .val (.ref a4), .val (.int b40), .val (.int b57), .val (.int b75), .val (.int b93), .val (.int b112), .val (.int (1 : Int32)), .val (.int e2), .val (.int e3), .val (.int e5)]) rfl (pc' := 190) rfl ?_
          refine g_iload X109 hx (hb hby at_190) (v := b40) rfl (pc' := 192) rfl ?_
          refine g_iload X109 hx (hb hby at_192) (v := (1 : Int32)) rfl (pc' := 194) rfl ?_
          refine g_ii_ne X109 hx (a := b40.toInt) (b := 1) rfl rfl (hb hby at_194) (by decide) (pc' := 227) (by decide) (pc2 := 197) rfl (fun c122 => False.elim (by omega)) (fun c122 => ?_)
          refine g_iload X109 hx (hb hby at_197) (v := b57) rfl (pc' := 199) rfl ?_
          refine g_iload X109 hx (hb hby at_199) (v := e2) rfl (pc' := 201) rfl ?_
          refine g_ii_ne X109 hx (a := b57.toInt) (b := e2.toInt) rfl rfl (hb hby at_201) (by decide) (pc' := 227) (by decide) (pc2 := 204) rfl (fun c123 => False.elim (by omega)) (fun c123 => ?_)
          refine g_iload X109 hx (hb hby at_204) (v := b75) rfl (pc' := 206) rfl ?_
          refine g_iload X109 hx (hb hby at_206) (v := e3) rfl (pc' := 208) rfl ?_
          refine g_ii_ne X109 hx (a := b75.toInt) (b := e3.toInt) rfl rfl (hb hby at_208) (by decide) (pc' := 227) (by decide) (pc2 := 211) rfl (fun c124 => False.elim (by omega)) (fun c124 => ?_)
          refine g_iload X109 hx (hb hby at_211) (v := b93) rfl (pc' := 213) rfl ?_
          refine g_i0_ne X109 hx (a := b93.toInt) rfl (hb hby at_213) (by decide) (pc' := 227) (by decide) (pc2 := 216) rfl (fun c125 => False.elim (by omega)) (fun c125 => ?_)
          refine g_iload X109 hx (hb hby at_216) (v := b112) rfl (pc' := 218) rfl ?_
          refine g_iload X109 hx (hb hby at_218) (v := e5) rfl (pc' := 220) rfl ?_
          refine g_ii_ne X109 hx (a := b112.toInt) (b := e5.toInt) rfl rfl (hb hby at_220) (by decide) (pc' := 227) (by decide) (pc2 := 223) rfl (fun c126 => False.elim (by omega)) (fun c126 => ?_)
          refine g_iconst X109 hx (hb hby at_223) (v := 1) (by decide) (pc' := 224) rfl ?_
          refine g_goto X109 hx (hb hby at_224) (by decide) (pc' := 228) (by decide) ?_
          refine g_retZ X109 hx hlk (by decide) hret (hb hby at_228) N110 (by decide) (by decide) ?_
          exact rfl
        refine g_ii_eq X109 hx (a := (kd : Int)) (b := (ka : Int)) hkd hka (hb hby at_166) (by decide) (pc' := 183) (by decide) (pc2 := 169) rfl (fun c127 => ?_) (fun c127 => ?_)
        · refine g_iconst X109 hx (hb hby at_183) (v := 1) (by decide) (pc' := 184) rfl ?_
          refine g_goto X109 hx (hb hby at_184) (by decide) (pc' := 188) (by decide) ?_
          exact J120 _ (by first | exact Or.inl ⟨by omega, rfl⟩ | exact Or.inr ⟨by omega, rfl⟩)
        · refine g_iload X109 hx (hb hby at_169) (v := (p3 &&& (3 : Int32))) rfl (pc' := 171) rfl ?_
          refine g_iload X109 hx (hb hby at_171) (v := (p1 &&& (3 : Int32))) rfl (pc' := 173) rfl ?_
          refine g_ii_eq X109 hx (a := (kd : Int)) (b := (kb : Int)) hkd hkb (hb hby at_173) (by decide) (pc' := 183) (by decide) (pc2 := 176) rfl (fun c128 => ?_) (fun c128 => ?_)
          · refine g_iconst X109 hx (hb hby at_183) (v := 1) (by decide) (pc' := 184) rfl ?_
            refine g_goto X109 hx (hb hby at_184) (by decide) (pc' := 188) (by decide) ?_
            exact J120 _ (by first | exact Or.inl ⟨by omega, rfl⟩ | exact Or.inr ⟨by omega, rfl⟩)
          · refine g_iload X109 hx (hb hby at_176) (v := (p3 &&& (3 : Int32))) rfl (pc' := 178) rfl ?_
            refine g_iload X109 hx (hb hby at_178) (v := (p2 &&& (3 : Int32))) rfl (pc' := 180) rfl ?_
            refine g_ii_ne X109 hx (a := (kd : Int)) (b := (kc : Int)) hkd hkc (hb hby at_180) (by decide) (pc' := 187) (by decide) (pc2 := 183) rfl (fun c129 => ?_) (fun c129 => ?_)
            · refine g_iconst X109 hx (hb hby at_187) (v := 0) (by decide) (pc' := 188) rfl ?_
              exact J120 _ (by first | exact Or.inl ⟨by omega, rfl⟩ | exact Or.inr ⟨by omega, rfl⟩)
            · refine g_iconst X109 hx (hb hby at_183) (v := 1) (by decide) (pc' := 184) rfl ?_
              refine g_goto X109 hx (hb hby at_184) (by decide) (pc' := 188) (by decide) ?_
              exact J120 _ (by first | exact Or.inl ⟨by omega, rfl⟩ | exact Or.inr ⟨by omega, rfl⟩)
      refine g_ii_eq X109 hx (a := (kc : Int)) (b := (ka : Int)) hkc hka (hb hby at_145) (by decide) (pc' := 159) (by decide) (pc2 := 148) rfl (fun c130 => ?_) (fun c130 => ?_)
      · refine g_iconst X109 hx (hb hby at_159) (v := 0) (by decide) (pc' := 160) rfl ?_
        exact J118 _ (by first | exact Or.inl ⟨by omega, rfl⟩ | exact Or.inr ⟨by omega, rfl⟩)
      · refine g_iload X109 hx (hb hby at_148) (v := (p2 &&& (3 : Int32))) rfl (pc' := 150) rfl ?_
        refine g_iload X109 hx (hb hby at_150) (v := (p1 &&& (3 : Int32))) rfl (pc' := 152) rfl ?_
        refine g_ii_eq X109 hx (a := (kc : Int)) (b := (kb : Int)) hkc hkb (hb hby at_152) (by decide) (pc' := 159) (by decide) (pc2 := 155) rfl (fun c131 => ?_) (fun c131 => ?_)
        · refine g_iconst X109 hx (hb hby at_159) (v := 0) (by decide) (pc' := 160) rfl ?_
          exact J118 _ (by first | exact Or.inl ⟨by omega, rfl⟩ | exact Or.inr ⟨by omega, rfl⟩)
        · refine g_iconst X109 hx (hb hby at_155) (v := 1) (by decide) (pc' := 156) rfl ?_
          refine g_goto X109 hx (hb hby at_156) (by decide) (pc' := 160) (by decide) ?_
          exact J118 _ (by first | exact Or.inl ⟨by omega, rfl⟩ | exact Or.inr ⟨by omega, rfl⟩)
    refine g_ii_eq X109 hx (a := (kb : Int)) (b := (ka : Int)) hkb hka (hb hby at_106) (by decide) (pc' := 113) (by decide) (pc2 := 109) rfl (fun c132 => ?_) (fun c132 => ?_)
    · refine g_iconst X109 hx (hb hby at_113) (v := 0) (by decide) (pc' := 114) rfl ?_
      exact J115 _ (by first | exact Or.inl ⟨by omega, rfl⟩ | exact Or.inr ⟨by omega, rfl⟩)
    · refine g_iconst X109 hx (hb hby at_109) (v := 1) (by decide) (pc' := 110) rfl ?_
      refine g_goto X109 hx (hb hby at_110) (by decide) (pc' := 114) (by decide) ?_
      exact J115 _ (by first | exact Or.inl ⟨by omega, rfl⟩ | exact Or.inr ⟨by omega, rfl⟩)
  · refine g_iconst X0 hx (hb hby at_27) (v := 1) (by decide) (pc' := 28) rfl ?_
    refine g_goto X0 hx (hb hby at_28) (by decide) (pc' := 32) (by decide) ?_
    refine g_istore X0 hx (hb hby at_32) (Ls' := #[.val (.int p0), .val (.int p1), .val (.int p2), .val (.int p3), .val (.int p4), .val (.int (p0 &&& (3 : Int32))), .val (.int (p1 &&& (3 : Int32))), .val (.int (p2 &&& (3 : Int32))), .val (.int (p3 &&& (3 : Int32))), .val (.int (1 : Int32)), .unset, .unset, .unset, .unset, .unset, .unset, .unset, .unset, .unset, .unset]) rfl (pc' := 34) rfl ?_
    refine g_new X0 hx hZ hown (hw _ (List.mem_of_getElem? (i := 0) rfl)) (hw _ (List.mem_of_getElem? (i := 1) rfl)) (hw _ (List.mem_of_getElem? (i := 2) rfl)) e0 (hb hby at_34) (by decide) (by decide) (pc' := 37) rfl (fun T133 h134 a135 g136 X137 e138 E139 l140 A141 D142 => ?_)
    have Z143 : n0 ≤ h134.size := Nat.le_trans Z0 E139.1
    have nl144 : n0 ≤ a135 := by rw [g136]; exact Z0
    have F145 : Fld Z h134 a135 "com/example/vetter/vetter/compare/Marks" "mark" "I" (.int (0 : Int32)) := D142 (Or.inl (hw _ (List.mem_of_getElem? (i := 10) rfl))) (ty := .int) (by decide)
    have F146 : Fld Z h134 a135 "com/example/vetter/vetter/compare/Marks" "marks" "[I" .null := D142 (Or.inr (hw _ (List.mem_of_getElem? (i := 13) rfl))) (ty := (.array .int)) (by decide)
    refine g_dup X137 hx (hb hby at_37) rfl (pc' := 38) rfl ?_
    refine g_iconst X137 hx (hb hby at_38) (v := 4) (by decide) (pc' := 39) rfl ?_
    refine g_special X137 hx hZ rfl hown (hw _ (List.mem_of_getElem? (i := 3) rfl)) (hw _ (List.mem_of_getElem? (i := 4) rfl)) (hw _ (List.mem_of_getElem? (i := 2) rfl)) (hw _ (List.mem_of_getElem? (i := 5) rfl)) (by decide) (a := a135) (argsL := [(.int (4 : Int32))]) (rm1 l Z a0 hw a135 h134 n0 Z143 F145 F146 A141 nl144) rfl e138 (by rw [hml]; rfl) pd_1 rfl (rest := [(.ref a135)]) rfl (W := 1) (Nat.le_of_eq rfl) (by decide) (by decide) (by decide) (by decide) N0 (hb hby at_39) (pc' := 42) rfl (fun v147 T148 L149 X150 N151 q152 => ?_)
    obtain ⟨t153, rfl, z154, K155, F156, F157, F158, F159⟩ := q152
    have lt160 : (4 : Int32).toInt = 4 := rfl
    have Z161 : n0 ≤ T148.heap.size := Nat.le_trans Z143 K155.1
    have nl162 : n0 ≤ t153 := Nat.le_trans Z143 z154
    have ne163 : a135 ≠ t153 := Nat.ne_of_lt (Nat.lt_of_lt_of_le A141.lt z154)
    show Goes p e s below (Q0 Z p0 p1 p2 p3 p4 h0 n0) n0 room_1.cells room_1.slots T148 (mkF m 42 #[.val (.int p0), .val (.int p1), .val (.int p2), .val (.int p3), .val (.int p4), .val (.int (p0 &&& (3 : Int32))), .val (.int (p1 &&& (3 : Int32))), .val (.int (p2 &&& (3 : Int32))), .val (.int (p3 &&& (3 : Int32))), .val (.int (1 : Int32)), .unset, .unset, .unset, .unset, .unset, .unset, .unset, .unset, .unset, .unset] [(.ref a135)])
    refine g_astore X150 hx (hb hby at_42) rfl (Ls' := #[.val (.int p0), .val (.int p1), .val (.int p2), .val (.int p3), .val (.int p4), .val (.int (p0 &&& (3 : Int32))), .val (.int (p1 &&& (3 : Int32))), .val (.int (p2 &&& (3 : Int32))), .val (.int (p3 &&& (3 : Int32))), .val (.int (1 : Int32)), .val (.ref a135), .unset, .unset, .unset, .unset, .unset, .unset, .unset, .unset, .unset]) rfl (pc' := 44) rfl ?_
    refine g_aload X150 hx (hb hby at_44) (v := (.ref a135)) rfl rfl (pc' := 46) rfl ?_
    refine g_iload X150 hx (hb hby at_46) (v := (p0 &&& (3 : Int32))) rfl (pc' := 48) rfl ?_
    have u164 : (zeroI ka).toInt = 0 := rfl
    refine g_virtual X150 hx hZ hown (hw _ (List.mem_of_getElem? (i := 14) rfl)) (hw _ (List.mem_of_getElem? (i := 15) rfl)) (hw _ (List.mem_of_getElem? (i := 17) rfl)) (hw _ (List.mem_of_getElem? (i := 16) rfl)) (hw _ (List.mem_of_getElem? (i := 2) rfl)) (hw _ (List.mem_of_getElem? (i := 18) rfl)) (by decide) (a := a135) (argsL := [(.int (p0 &&& (3 : Int32)))]) (rm2 l Z a0 hw a135 (p0 &&& (3 : Int32)) ka t153 (1 : Int32) zeroI T148.heap n0 Z161 F157 F158 F159 hka (by omega) nl162 ne163) rfl rfl F156 (by rw [hml]; rfl) pd_2 rfl (rest := []) rfl (W := 0) (Nat.le_of_eq rfl) (by decide) (by decide) (by decide) (by decide) N151 (hb hby at_48) (pc' := 51) rfl (fun v165 T166 L167 X168 N169 q170 => ?_)
    obtain ⟨b171, rfl, f172, K173, F174⟩ := q170
    have Z175 : n0 ≤ T166.heap.size := Nat.le_trans Z161 K173.1
    have F176 := F156.keep K173
    have F177 := F157.keep K173 (ninS ne163 nin0)
    have F178 := F158.keep K173 (ninS ne163 nin0)
    show Goes p e s below (Q0 Z p0 p1 p2 p3 p4 h0 n0) n0 room_1.cells room_1.slots T166 (mkF m 51 #[.val (.int p0), .val (.int p1), .val (.int p2), .val (.int p3), .val (.int p4), .val (.int (p0 &&& (3 : Int32))), .val (.int (p1 &&& (3 : Int32))), .val (.int (p2 &&& (3 : Int32))), .val (.int (p3 &&& (3 : Int32))), .val (.int (1 : Int32)), .val (.ref a135), .unset, .unset, .unset, .unset, .unset, .unset, .unset, .unset, .unset] [(.int b171)])
    refine g_istore X168 hx (hb hby at_51) (Ls' := #[.val (.int p0), .val (.int p1), .val (.int p2), .val (.int p3), .val (.int p4), .val (.int (p0 &&& (3 : Int32))), .val (.int (p1 &&& (3 : Int32))), .val (.int (p2 &&& (3 : Int32))), .val (.int (p3 &&& (3 : Int32))), .val (.int (1 : Int32)), .val (.ref a135), .val (.int b171), .unset, .unset, .unset, .unset, .unset, .unset, .unset, .unset]) rfl (pc' := 53) rfl ?_
    refine g_aload X168 hx (hb hby at_53) (v := (.ref a135)) rfl rfl (pc' := 55) rfl ?_
    refine g_iload X168 hx (hb hby at_55) (v := (p1 &&& (3 : Int32))) rfl (pc' := 57) rfl ?_
    have u179 := oupdI zeroI ka kb (1 : Int32)
    have lt180 : (1 : Int32).toInt = 1 := rfl
    have u181 : (zeroI kb).toInt = 0 := rfl
    refine g_virtual X168 hx hZ hown (hw _ (List.mem_of_getElem? (i := 14) rfl)) (hw _ (List.mem_of_getElem? (i := 15) rfl)) (hw _ (List.mem_of_getElem? (i := 17) rfl)) (hw _ (List.mem_of_getElem? (i := 16) rfl)) (hw _ (List.mem_of_getElem? (i := 2) rfl)) (hw _ (List.mem_of_getElem? (i := 18) rfl)) (by decide) (a := a135) (argsL := [(.int (p1 &&& (3 : Int32)))]) (rm2 l Z a0 hw a135 (p1 &&& (3 : Int32)) kb t153 (1 : Int32) (oupd zeroI ka (1 : Int32)) T166.heap n0 Z175 F177 F178 F174 hkb (by omega) nl162 ne163) rfl rfl F176 (by rw [hml]; rfl) pd_2 rfl (rest := []) rfl (W := 0) (Nat.le_of_eq rfl) (by decide) (by decide) (by decide) (by decide) N169 (hb hby at_57) (pc' := 60) rfl (fun v182 T183 L184 X185 N186 q187 => ?_)
    obtain ⟨b188, rfl, f189, K190, F191⟩ := q187
    have Z192 : n0 ≤ T183.heap.size := Nat.le_trans Z175 K190.1
    have F193 := F176.keep K190
    have F194 := F177.keep K190 (ninS ne163 nin0)
    have F195 := F178.keep K190 (ninS ne163 nin0)
    show Goes p e s below (Q0 Z p0 p1 p2 p3 p4 h0 n0) n0 room_1.cells room_1.slots T183 (mkF m 60 #[.val (.int p0), .val (.int p1), .val (.int p2), .val (.int p3), .val (.int p4), .val (.int (p0 &&& (3 : Int32))), .val (.int (p1 &&& (3 : Int32))), .val (.int (p2 &&& (3 : Int32))), .val (.int (p3 &&& (3 : Int32))), .val (.int (1 : Int32)), .val (.ref a135), .val (.int b171), .unset, .unset, .unset, .unset, .unset, .unset, .unset, .unset] [(.int b188)])
    refine g_istore X185 hx (hb hby at_60) (Ls' := #[.val (.int p0), .val (.int p1), .val (.int p2), .val (.int p3), .val (.int p4), .val (.int (p0 &&& (3 : Int32))), .val (.int (p1 &&& (3 : Int32))), .val (.int (p2 &&& (3 : Int32))), .val (.int (p3 &&& (3 : Int32))), .val (.int (1 : Int32)), .val (.ref a135), .val (.int b171), .val (.int b188), .unset, .unset, .unset, .unset, .unset, .unset, .unset]) rfl (pc' := 62) rfl ?_
    refine g_iload X185 hx (hb hby at_62) (v := (1 : Int32)) rfl (pc' := 64) rfl ?_
    refine g_i0_eq X185 hx (a := 1) rfl (hb hby at_64) (by decide) (pc' := 72) (by decide) (pc2 := 67) rfl (fun c196 => False.elim (by omega)) (fun c196 => ?_)
    refine g_aload X185 hx (hb hby at_67) (v := (.ref a135)) rfl rfl (pc' := 69) rfl ?_
    refine g_virtual X185 hx hZ hown (hw _ (List.mem_of_getElem? (i := 24) rfl)) (hw _ (List.mem_of_getElem? (i := 25) rfl)) (hw _ (List.mem_of_getElem? (i := 27) rfl)) (hw _ (List.mem_of_getElem? (i := 26) rfl)) (hw _ (List.mem_of_getElem? (i := 2) rfl)) (hw _ (List.mem_of_getElem? (i := 28) rfl)) (by decide) (a := a135) (argsL := []) (rm4 l Z a0 hw a135 (1 : Int32) t153 T183.heap n0 Z192 F194 F195 F193 (by omega) nl144) rfl rfl F193 (by rw [hml]; rfl) pd_0 rfl (rest := []) rfl (W := 0) (Nat.le_of_eq rfl) (by decide) (by decide) (by decide) (by decide) N186 (hb hby at_69) (pc' := 72) rfl (fun v197 T198 L199 X200 N201 q202 => ?_)
    obtain ⟨rfl, K203, F204, F205⟩ := q202
    have Z206 : n0 ≤ T198.heap.size := Nat.le_trans Z192 K203.1
    have F207 := F193.keep K203
    have F208 := F191.keep K203 (ninS ne163.symm nin0)
    show Goes p e s below (Q0 Z p0 p1 p2 p3 p4 h0 n0) n0 room_1.cells room_1.slots T198 (mkF m 72 #[.val (.int p0), .val (.int p1), .val (.int p2), .val (.int p3), .val (.int p4), .val (.int (p0 &&& (3 : Int32))), .val (.int (p1 &&& (3 : Int32))), .val (.int (p2 &&& (3 : Int32))), .val (.int (p3 &&& (3 : Int32))), .val (.int (1 : Int32)), .val (.ref a135), .val (.int b171), .val (.int b188), .unset, .unset, .unset, .unset, .unset, .unset, .unset] [])
    refine g_aload X200 hx (hb hby at_72) (v := (.ref a135)) rfl rfl (pc' := 74) rfl ?_
    refine g_iload X200 hx (hb hby at_74) (v := (p2 &&& (3 : Int32))) rfl (pc' := 76) rfl ?_
    have u209 := oupdI (oupd zeroI ka (1 : Int32)) kb kc (1 : Int32)
    have u210 := oupdI zeroI ka kc (1 : Int32)
    have u211 : (zeroI kc).toInt = 0 := rfl
    refine g_virtual X200 hx hZ hown (hw _ (List.mem_of_getElem? (i := 14) rfl)) (hw _ (List.mem_of_getElem? (i := 15) rfl)) (hw _ (List.mem_of_getElem? (i := 17) rfl)) (hw _ (List.mem_of_getElem? (i := 16) rfl)) (hw _ (List.mem_of_getElem? (i := 2) rfl)) (hw _ (List.mem_of_getElem? (i := 18) rfl)) (by decide) (a := a135) (argsL := [(.int (p2 &&& (3 : Int32)))]) (rm2 l Z a0 hw a135 (p2 &&& (3 : Int32)) kc t153 ((1 : Int32) + (1 : Int32)) (oupd (oupd zeroI ka (1 : Int32)) kb (1 : Int32)) T198.heap n0 Z206 F204 F205 F208 hkc (by omega) nl162 ne163) rfl rfl F207 (by rw [hml]; rfl) pd_2 rfl (rest := []) rfl (W := 0) (Nat.le_of_eq rfl) (by decide) (by decide) (by decide) (by decide) N201 (hb hby at_76) (pc' := 79) rfl (fun v212 T213 L214 X215 N216 q217 => ?_)
    obtain ⟨b218, rfl, f219, K220, F221⟩ := q217
    have Z222 : n0 ≤ T213.heap.size := Nat.le_trans Z206 K220.1
    have F223 := F207.keep K220
    have F224 := F204.keep K220 (ninS ne163 nin0)
    have F225 := F205.keep K220 (ninS ne163 nin0)
    show Goes p e s below (Q0 Z p0 p1 p2 p3 p4 h0 n0) n0 room_1.cells room_1.slots T213 (mkF m 79 #[.val (.int p0), .val (.int p1), .val (.int p2), .val (.int p3), .val (.int p4), .val (.int (p0 &&& (3 : Int32))), .val (.int (p1 &&& (3 : Int32))), .val (.int (p2 &&& (3 : Int32))), .val (.int (p3 &&& (3 : Int32))), .val (.int (1 : Int32)), .val (.ref a135), .val (.int b171), .val (.int b188), .unset, .unset, .unset, .unset, .unset, .unset, .unset] [(.int b218)])
    refine g_istore X215 hx (hb hby at_79) (Ls' := #[.val (.int p0), .val (.int p1), .val (.int p2), .val (.int p3), .val (.int p4), .val (.int (p0 &&& (3 : Int32))), .val (.int (p1 &&& (3 : Int32))), .val (.int (p2 &&& (3 : Int32))), .val (.int (p3 &&& (3 : Int32))), .val (.int (1 : Int32)), .val (.ref a135), .val (.int b171), .val (.int b188), .val (.int b218), .unset, .unset, .unset, .unset, .unset, .unset]) rfl (pc' := 81) rfl ?_
    refine g_aload X215 hx (hb hby at_81) (v := (.ref a135)) rfl rfl (pc' := 83) rfl ?_
    refine g_iload X215 hx (hb hby at_83) (v := (p2 &&& (3 : Int32))) rfl (pc' := 85) rfl ?_
    have u226 := oupdI (oupd (oupd zeroI ka (1 : Int32)) kb (1 : Int32)) kc kc ((1 : Int32) + (1 : Int32))
    have u227 := oupdI (oupd zeroI ka (1 : Int32)) kb kc (1 : Int32)
    have u228 := oupdI zeroI ka kc (1 : Int32)
    have u229 : (zeroI kc).toInt = 0 := rfl
    refine g_virtual X215 hx hZ hown (hw _ (List.mem_of_getElem? (i := 14) rfl)) (hw _ (List.mem_of_getElem? (i := 15) rfl)) (hw _ (List.mem_of_getElem? (i := 17) rfl)) (hw _ (List.mem_of_getElem? (i := 16) rfl)) (hw _ (List.mem_of_getElem? (i := 2) rfl)) (hw _ (List.mem_of_getElem? (i := 18) rfl)) (by decide) (a := a135) (argsL := [(.int (p2 &&& (3 : Int32)))]) (rm2 l Z a0 hw a135 (p2 &&& (3 : Int32)) kc t153 ((1 : Int32) + (1 : Int32)) (oupd (oupd (oupd zeroI ka (1 : Int32)) kb (1 : Int32)) kc ((1 : Int32) + (1 : Int32))) T213.heap n0 Z222 F224 F225 F221 hkc (by omega) nl162 ne163) rfl rfl F223 (by rw [hml]; rfl) pd_2 rfl (rest := []) rfl (W := 0) (Nat.le_of_eq rfl) (by decide) (by decide) (by decide) (by decide) N216 (hb hby at_85) (pc' := 88) rfl (fun v230 T231 L232 X233 N234 q235 => ?_)
    obtain ⟨b236, rfl, f237, K238, F239⟩ := q235
    have Z240 : n0 ≤ T231.heap.size := Nat.le_trans Z222 K238.1
    have F241 := F223.keep K238
    have F242 := F224.keep K238 (ninS ne163 nin0)
    have F243 := F225.keep K238 (ninS ne163 nin0)
    show Goes p e s below (Q0 Z p0 p1 p2 p3 p4 h0 n0) n0 room_1.cells room_1.slots T231 (mkF m 88 #[.val (.int p0), .val (.int p1), .val (.int p2), .val (.int p3), .val (.int p4), .val (.int (p0 &&& (3 : Int32))), .val (.int (p1 &&& (3 : Int32))), .val (.int (p2 &&& (3 : Int32))), .val (.int (p3 &&& (3 : Int32))), .val (.int (1 : Int32)), .val (.ref a135), .val (.int b171), .val (.int b188), .val (.int b218), .unset, .unset, .unset, .unset, .unset, .unset] [(.int b236)])
    refine g_istore X233 hx (hb hby at_88) (Ls' := #[.val (.int p0), .val (.int p1), .val (.int p2), .val (.int p3), .val (.int p4), .val (.int (p0 &&& (3 : Int32))), .val (.int (p1 &&& (3 : Int32))), .val (.int (p2 &&& (3 : Int32))), .val (.int (p3 &&& (3 : Int32))), .val (.int (1 : Int32)), .val (.ref a135), .val (.int b171), .val (.int b188), .val (.int b218), .val (.int b236), .unset, .unset, .unset, .unset, .unset]) rfl (pc' := 90) rfl ?_
    refine g_aload X233 hx (hb hby at_90) (v := (.ref a135)) rfl rfl (pc' := 92) rfl ?_
    refine g_iload X233 hx (hb hby at_92) (v := (p3 &&& (3 : Int32))) rfl (pc' := 94) rfl ?_
    have u244 := oupdI (oupd (oupd (oupd zeroI ka (1 : Int32)) kb (1 : Int32)) kc ((1 : Int32) + (1 : Int32))) kc kd ((1 : Int32) + (1 : Int32))
    have u245 := oupdI (oupd (oupd zeroI ka (1 : Int32)) kb (1 : Int32)) kc kd ((1 : Int32) + (1 : Int32))
    have u246 := oupdI (oupd zeroI ka (1 : Int32)) kb kd (1 : Int32)
    have u247 := oupdI zeroI ka kd (1 : Int32)
    have u248 : (zeroI kd).toInt = 0 := rfl
    refine g_virtual X233 hx hZ hown (hw _ (List.mem_of_getElem? (i := 19) rfl)) (hw _ (List.mem_of_getElem? (i := 20) rfl)) (hw _ (List.mem_of_getElem? (i := 22) rfl)) (hw _ (List.mem_of_getElem? (i := 21) rfl)) (hw _ (List.mem_of_getElem? (i := 2) rfl)) (hw _ (List.mem_of_getElem? (i := 23) rfl)) (by decide) (a := a135) (argsL := [(.int (p3 &&& (3 : Int32)))]) (rm3 l Z a0 hw a135 (p3 &&& (3 : Int32)) kd t153 ((1 : Int32) + (1 : Int32)) (oupd (oupd (oupd (oupd zeroI ka (1 : Int32)) kb (1 : Int32)) kc ((1 : Int32) + (1 : Int32))) kc ((1 : Int32) + (1 : Int32))) T231.heap n0 Z240 F242 F243 F239 hkd (by omega)) rfl rfl F241 (by rw [hml]; rfl) pd_2 rfl (rest := []) rfl (W := 0) (Nat.le_of_eq rfl) (by decide) (by decide) (by decide) (by decide) N234 (hb hby at_94) (pc' := 97) rfl (fun v249 T250 L251 X252 N253 q254 => ?_)
    obtain ⟨b255, rfl, f256, K257⟩ := q254
    show Goes p e s below (Q0 Z p0 p1 p2 p3 p4 h0 n0) n0 room_1.cells room_1.slots T250 (mkF m 97 #[.val (.int p0), .val (.int p1), .val (.int p2), .val (.int p3), .val (.int p4), .val (.int (p0 &&& (3 : Int32))), .val (.int (p1 &&& (3 : Int32))), .val (.int (p2 &&& (3 : Int32))), .val (.int (p3 &&& (3 : Int32))), .val (.int (1 : Int32)), .val (.ref a135), .val (.int b171), .val (.int b188), .val (.int b218), .val (.int b236), .unset, .unset, .unset, .unset, .unset] [(.int b255)])
    refine g_istore X252 hx (hb hby at_97) (Ls' := #[.val (.int p0), .val (.int p1), .val (.int p2), .val (.int p3), .val (.int p4), .val (.int (p0 &&& (3 : Int32))), .val (.int (p1 &&& (3 : Int32))), .val (.int (p2 &&& (3 : Int32))), .val (.int (p3 &&& (3 : Int32))), .val (.int (1 : Int32)), .val (.ref a135), .val (.int b171), .val (.int b188), .val (.int b218), .val (.int b236), .val (.int b255), .unset, .unset, .unset, .unset]) rfl (pc' := 99) rfl ?_
    have l2 : ((1 : Int32) + (1 : Int32)).toInt = 2 := rfl
    have l1 : (1 : Int32).toInt = 1 := rfl
    refine g_iconst X252 hx (hb hby at_99) (v := 1) (by decide) (pc' := 100) rfl ?_
    refine g_istore X252 hx (hb hby at_100) (Ls' := #[.val (.int p0), .val (.int p1), .val (.int p2), .val (.int p3), .val (.int p4), .val (.int (p0 &&& (3 : Int32))), .val (.int (p1 &&& (3 : Int32))), .val (.int (p2 &&& (3 : Int32))), .val (.int (p3 &&& (3 : Int32))), .val (.int (1 : Int32)), .val (.ref a135), .val (.int b171), .val (.int b188), .val (.int b218), .val (.int b236), .val (.int b255), .val (.int (1 : Int32)), .unset, .unset, .unset]) rfl (pc' := 102) rfl ?_
    refine g_iload X252 hx (hb hby at_102) (v := (p1 &&& (3 : Int32))) rfl (pc' := 104) rfl ?_
    refine g_iload X252 hx (hb hby at_104) (v := (p0 &&& (3 : Int32))) rfl (pc' := 106) rfl ?_
    have J258 : ∀ (e2 : Int32), ((¬ (kb : Int) = (ka : Int)) ∧ e2.toInt = 1 ∨ ¬ (¬ (kb : Int) = (ka : Int)) ∧ e2.toInt = 0) → Goes p e s below (Q0 Z p0 p1 p2 p3 p4 h0 n0) n0 room_1.cells room_1.slots T250 (mkF m 114 #[.val (.int p0), .val (.int p1), .val (.int p2), .val (.int p3), .val (.int p4), .val (.int (p0 &&& (3 : Int32))), .val (.int (p1 &&& (3 : Int32))), .val (.int (p2 &&& (3 : Int32))), .val (.int (p3 &&& (3 : Int32))), .val (.int (1 : Int32)), .val (.ref a135), .val (.int b171), .val (.int b188), .val (.int b218), .val (.int b236), .val (.int b255), .val (.int (1 : Int32)), .unset, .unset, .unset] [(.int e2)]) := by
      intro e2 j259
      refine g_istore X252 hx (hb hby at_114) (Ls' := #[.val (.int p0), .val (.int p1), .val (.int p2), .val (.int p3), .val (.int p4), .val (.int (p0 &&& (3 : Int32))), .val (.int (p1 &&& (3 : Int32))), .val (.int (p2 &&& (3 : Int32))), .val (.int (p3 &&& (3 : Int32))), .val (.int (1 : Int32)), .val (.ref a135), .val (.int b171), .val (.int b188), .val (.int b218), .val (.int b236), .val (.int b255), .val (.int (1 : Int32)), .val (.int e2), .unset, .unset]) rfl (pc' := 116) rfl ?_
      refine g_iload X252 hx (hb hby at_116) (v := (1 : Int32)) rfl (pc' := 118) rfl ?_
      refine g_i0_eq X252 hx (a := 1) rfl (hb hby at_118) (by decide) (pc' := 141) (by decide) (pc2 := 121) rfl (fun c260 => False.elim (by omega)) (fun c260 => ?_)
      refine g_iconst X252 hx (hb hby at_121) (v := 1) (by decide) (pc' := 122) rfl ?_
      refine g_istore X252 hx (hb hby at_122) (Ls' := #[.val (.int p0), .val (.int p1), .val (.int p2), .val (.int p3), .val (.int p4), .val (.int (p0 &&& (3 : Int32))), .val (.int (p1 &&& (3 : Int32))), .val (.int (p2 &&& (3 : Int32))), .val (.int (p3 &&& (3 : Int32))), .val (.int (1 : Int32)), .val (.ref a135), .val (.int b171), .val (.int b188), .val (.int b218), .val (.int b236), .val (.int b255), .val (.int (1 : Int32)), .val (.int e2), .val (.int (1 : Int32)), .unset]) rfl (pc' := 124) rfl ?_
      refine g_iload X252 hx (hb hby at_124) (v := (p3 &&& (3 : Int32))) rfl (pc' := 126) rfl ?_
      refine g_iload X252 hx (hb hby at_126) (v := (p2 &&& (3 : Int32))) rfl (pc' := 128) rfl ?_
      have J261 : ∀ (e5 : Int32), (((kd : Int) = (kc : Int)) ∧ e5.toInt = 1 ∨ ¬ ((kd : Int) = (kc : Int)) ∧ e5.toInt = 0) → Goes p e s below (Q0 Z p0 p1 p2 p3 p4 h0 n0) n0 room_1.cells room_1.slots T250 (mkF m 136 #[.val (.int p0), .val (.int p1), .val (.int p2), .val (.int p3), .val (.int p4), .val (.int (p0 &&& (3 : Int32))), .val (.int (p1 &&& (3 : Int32))), .val (.int (p2 &&& (3 : Int32))), .val (.int (p3 &&& (3 : Int32))), .val (.int (1 : Int32)), .val (.ref a135), .val (.int b171), .val (.int b188), .val (.int b218), .val (.int b236), .val (.int b255), .val (.int (1 : Int32)), .val (.int e2), .val (.int (1 : Int32)), .unset] [(.int e5)]) := by
        intro e5 j262
        refine g_istore X252 hx (hb hby at_136) (Ls' := #[.val (.int p0), .val (.int p1), .val (.int p2), .val (.int p3), .val (.int p4), .val (.int (p0 &&& (3 : Int32))), .val (.int (p1 &&& (3 : Int32))), .val (.int (p2 &&& (3 : Int32))), .val (.int (p3 &&& (3 : Int32))), .val (.int (1 : Int32)), .val (.ref a135), .val (.int b171), .val (.int b188), .val (.int b218), .val (.int b236), .val (.int b255), .val (.int (1 : Int32)), .val (.int e2), .val (.int (1 : Int32)), .val (.int e5)]) rfl (pc' := 138) rfl ?_
        refine g_goto X252 hx (hb hby at_138) (by decide) (pc' := 190) (by decide) ?_
        refine g_iload X252 hx (hb hby at_190) (v := b171) rfl (pc' := 192) rfl ?_
        refine g_iload X252 hx (hb hby at_192) (v := (1 : Int32)) rfl (pc' := 194) rfl ?_
        refine g_ii_ne X252 hx (a := b171.toInt) (b := 1) rfl rfl (hb hby at_194) (by decide) (pc' := 227) (by decide) (pc2 := 197) rfl (fun c263 => False.elim (by omega)) (fun c263 => ?_)
        refine g_iload X252 hx (hb hby at_197) (v := b188) rfl (pc' := 199) rfl ?_
        refine g_iload X252 hx (hb hby at_199) (v := e2) rfl (pc' := 201) rfl ?_
        refine g_ii_ne X252 hx (a := b188.toInt) (b := e2.toInt) rfl rfl (hb hby at_201) (by decide) (pc' := 227) (by decide) (pc2 := 204) rfl (fun c264 => False.elim (by omega)) (fun c264 => ?_)
        refine g_iload X252 hx (hb hby at_204) (v := b218) rfl (pc' := 206) rfl ?_
        refine g_iload X252 hx (hb hby at_206) (v := (1 : Int32)) rfl (pc' := 208) rfl ?_
        refine g_ii_ne X252 hx (a := b218.toInt) (b := 1) rfl rfl (hb hby at_208) (by decide) (pc' := 227) (by decide) (pc2 := 211) rfl (fun c265 => False.elim (by omega)) (fun c265 => ?_)
        refine g_iload X252 hx (hb hby at_211) (v := b236) rfl (pc' := 213) rfl ?_
        refine g_i0_ne X252 hx (a := b236.toInt) rfl (hb hby at_213) (by decide) (pc' := 227) (by decide) (pc2 := 216) rfl (fun c266 => False.elim (by omega)) (fun c266 => ?_)
        refine g_iload X252 hx (hb hby at_216) (v := b255) rfl (pc' := 218) rfl ?_
        refine g_iload X252 hx (hb hby at_218) (v := e5) rfl (pc' := 220) rfl ?_
        refine g_ii_ne X252 hx (a := b255.toInt) (b := e5.toInt) rfl rfl (hb hby at_220) (by decide) (pc' := 227) (by decide) (pc2 := 223) rfl (fun c267 => False.elim (by omega)) (fun c267 => ?_)
        refine g_iconst X252 hx (hb hby at_223) (v := 1) (by decide) (pc' := 224) rfl ?_
        refine g_goto X252 hx (hb hby at_224) (by decide) (pc' := 228) (by decide) ?_
        refine g_retZ X252 hx hlk (by decide) hret (hb hby at_228) N253 (by decide) (by decide) ?_
        exact rfl
      refine g_ii_ne X252 hx (a := (kd : Int)) (b := (kc : Int)) hkd hkc (hb hby at_128) (by decide) (pc' := 135) (by decide) (pc2 := 131) rfl (fun c268 => ?_) (fun c268 => ?_)
      · refine g_iconst X252 hx (hb hby at_135) (v := 0) (by decide) (pc' := 136) rfl ?_
        exact J261 _ (by first | exact Or.inl ⟨by omega, rfl⟩ | exact Or.inr ⟨by omega, rfl⟩)
      · refine g_iconst X252 hx (hb hby at_131) (v := 1) (by decide) (pc' := 132) rfl ?_
        refine g_goto X252 hx (hb hby at_132) (by decide) (pc' := 136) (by decide) ?_
        exact J261 _ (by first | exact Or.inl ⟨by omega, rfl⟩ | exact Or.inr ⟨by omega, rfl⟩)
    refine g_ii_eq X252 hx (a := (kb : Int)) (b := (ka : Int)) hkb hka (hb hby at_106) (by decide) (pc' := 113) (by decide) (pc2 := 109) rfl (fun c269 => ?_) (fun c269 => ?_)
    · refine g_iconst X252 hx (hb hby at_113) (v := 0) (by decide) (pc' := 114) rfl ?_
      exact J258 _ (by first | exact Or.inl ⟨by omega, rfl⟩ | exact Or.inr ⟨by omega, rfl⟩)
    · refine g_iconst X252 hx (hb hby at_109) (v := 1) (by decide) (pc' := 110) rfl ?_
      refine g_goto X252 hx (hb hby at_110) (by decide) (pc' := 114) (by decide) ?_
      exact J258 _ (by first | exact Or.inl ⟨by omega, rfl⟩ | exact Or.inr ⟨by omega, rfl⟩)
set_option maxRecDepth 65536 in
set_option maxHeartbeats 40000000 in
theorem comes_1 {Post : Tables → Env → Array Value → State → Outcome → State → Prop} (hpost : ∀ tb e args s v u, (limb_1_1.after args s (.returned v) u = true ∧ limb_1_2.after args s (.returned v) u = true ∧ True) → FrameEnd s (.returned v) u (Jvm.fieldLocs frame_1_writes args s ++ Jvm.arrayLocs frame_1_arrays args s ++ Jvm.staticLocs frame_1_statics s) 16 128 → Post tb e args s (.returned v) u) :
    ArmFor flags0 classFile x code maxLocals ret World_1 tables_1 room_1 Calls_1 rest_1 Pre_1 Post := by
  intro l hfl _ _ p e ha hc hk s m args below hf hA hF happ hP
  obtain ⟨hcalls, hrest, hpre⟩ := hP
  obtain ⟨-, -, -, hnamed, -, -, -, hat⟩ := (Spec.applies_iff hf).mp happ
  obtain ⟨hg, hn⟩ := and_e (Cond.before_iff.mp (show (Jvm.Cond.and given_1 narrow_1).before args s = true from hpre))
  obtain ⟨hcount, k0⟩ := and_e hg
  obtain ⟨g0, k1⟩ := and_e k0
  obtain ⟨g1, k2⟩ := and_e k1
  obtain ⟨g2, k3⟩ := and_e k2
  obtain ⟨g3, k4⟩ := and_e k3
  have g4 := k4
  obtain ⟨w0, w1, w2, w3, w4, rfl⟩ : ∃ w0 w1 w2 w3 w4 : Value, args = #[w0, w1, w2, w3, w4] := by
    have hs : args.size = 5 := by simpa [Cond.value, given_1] using hcount
    obtain ⟨L⟩ := args
    match L, hs with
    | [w0, w1, w2, w3, w4], _ => exact ⟨w0, w1, w2, w3, w4, rfl⟩
  have hw := fun d (hd : d ∈ tables_1) => atoms_spec (ws := Jvm.Cond.code x code maxLocals ret :: tables_1) hat d (List.mem_cons_of_mem _ hd)
  obtain ⟨i0, z0⟩ := is_v g0
  obtain rfl : w0 = (.int i0) := Option.some.inj z0
  obtain ⟨i1, z1⟩ := is_v g1
  obtain rfl : w1 = (.int i1) := Option.some.inj z1
  obtain ⟨i2, z2⟩ := is_v g2
  obtain rfl : w2 = (.int i2) := Option.some.inj z2
  obtain ⟨i3, z3⟩ := is_v g3
  obtain rfl : w3 = (.int i3) := Option.some.inj z3
  obtain ⟨i4, z4⟩ := is_v g4
  obtain rfl : w4 = (.int i4) := Option.some.inj z4
  obtain ⟨n, o, h1, h2, h3, _, L, rfl, ⟨N, rfl⟩, hq⟩ := rm0 l s _ hw tables_1 i0 i1 i2 i3 i4  s.heap s.heap.size (Nat.le_refl _)  p e ha hc hk s m _ below hf ((Spec.applies_iff_loose hf).mp happ).1 ⟨rfl, State.Warmed39.refl s, rfl⟩ trivial
  exact ⟨n, _, h1, h2, h3, hpost _ _ _ _ _ _ ⟨Cond.after_iff.mpr rfl, Cond.after_iff.mpr (eq_i res_at (Term.int_eval (1)) rfl), trivial⟩ ⟨hq.1, hq.2.1, (hq.2.2.sift fun y hy => Or.inr (N y hy)).mono (by decide) (by decide)⟩⟩
theorem main_1_1 : Claimed_1_1 := comes_1 fun _ _ _ _ _ _ h hF => ⟨h.1, hF⟩
theorem main_1_2 : Claimed_1_2 := comes_1 fun _ _ _ _ _ _ h hF => ⟨h.2.1, hF⟩
end Jvm.Pilot.@@N@@
namespace Jvm.Pilot.@@N@@
open Jvm Jvm.ClassFile Sem Op Lib Jvm.Free Jvm.Stand Jvm.Pilot.@@N@@.Jvm.D
/-! MADE BY PROGRAM (witnessworld.py) out of the Statement's table words and the real class files: 9 classes; the members and pool entries that the words name. The judged class is class 1, her method 1. -/
namespace start1
open Jvm.ClassFile
def u (s : String) : CpInfo := .utf8 (stringToUtf16 s)
/-- a pool by its gaps: so many unusable entries, then the entry; so many at the end -/
def gap : Nat → List CpInfo → List CpInfo
  | 0, r => r
  | n + 1, r => .unusable :: gap n r
def poolList (es : List (Nat × CpInfo)) (last : Nat) : List CpInfo := es.foldr (fun e r => gap e.1 (e.2 :: r)) (gap last [])
def pool (es : List (Nat × CpInfo)) (last : Nat) : Array CpInfo := ⟨poolList es last⟩
def fileOf (pool : Array CpInfo) (this : Nat) (attrs : Array Attribute := #[]) (ms : Array MethodInfo := #[]) (fl : Nat := 33) (sup : Nat := 0) (ifs : Array Nat := #[]) (fds : Array FieldInfo := #[]) : ClassFile where
  minorVersion := 0
  majorVersion := 65
  constantPool := pool
  accessFlags := fl
  thisClass := this
  superClass := sup
  interfaces := ifs
  fields := fds
  methods := ms
  attributes := attrs
def plain (name : String) (sup : Option ClassId) : Class where
  name := name
  kind := .ordinary
  loader := none
  accessFlags := 33
  super := sup
  interfaces := #[]
  cf := none
  fields := #[]
  methods := #[]
  instanceTypes := #[]
  staticTypes := #[]
  resolved := #[]
  callSites := []
  init := .initialized
  statics := none
  mirror := none

def pool0 : Array CpInfo := pool [(5, u "<init>"), (0, u "()V"), (1, .class_ 10), (1, u "java/lang/Object")] 113

def k0c0 : Code := { maxStack := 0, maxLocals := 1, code := object_method_1_code, exceptionTable := #[], attributes := #[] }
def k0m0 : Method := { name := "<init>", desc := "()V", sig := { parameters := [], returnType := none }, accessFlags := 1, code := some k0c0 }
/-- java/lang/Object -/
def k0 : Class := { plain "java/lang/Object" none with
  accessFlags := 33
  interfaces := #[]
  cf := some (fileOf pool0 8 #[] #[{ accessFlags := 1, nameIndex := 5, descriptorIndex := 6, attributes := #[] }] 33 0 #[] #[])
  fields := #[]
  methods := #[k0m0]
  instanceTypes := #[]
  staticTypes := #[]
  resolved := Array.replicate 124 none
  statics := none }

def pool1 : Array CpInfo := pool [(2, .class_ 4), (1, u "java/lang/Object"), (0, u "<init>"), (0, u "()V"), (0, .class_ 8), (0, u "com/example/vetter/vetter/compare/Marks"), (0, .methodref 7 10), (0, .nameAndType 5 11), (0, u "(I)V"), (0, .methodref 7 13), (0, .nameAndType 14 15), (0, u "add"), (0, u "(I)Z"), (0, .methodref 7 17), (0, .nameAndType 18 6), (0, u "clear"), (0, .methodref 7 20), (0, .nameAndType 21 15), (0, u "contains"), (0, .class_ 23), (0, u "com/example/vetter/vetter/compare/MarksAddPinLaw"), (2, u "law"), (0, u "(IIIII)Z")] 3

def k1m0 : Method := { name := "<init>", desc := "()V", sig := { parameters := [], returnType := none }, accessFlags := 1, code := none }
def k1c1 : Code := { maxStack := 3, maxLocals := 20, code := code, exceptionTable := #[], attributes := #[] }
def k1m1 : Method := { name := "law", desc := "(IIIII)Z", sig := { parameters := [.int, .int, .int, .int, .int], returnType := some .boolean }, accessFlags := 9, code := some k1c1 }
/-- com/example/vetter/vetter/compare/MarksAddPinLaw -/
def k1 : Class := { plain "com/example/vetter/vetter/compare/MarksAddPinLaw" (some 0) with
  accessFlags := 49
  interfaces := #[]
  cf := some (fileOf pool1 22 #[] #[{ accessFlags := 1, nameIndex := 5, descriptorIndex := 6, attributes := #[] }, { accessFlags := 9, nameIndex := 26, descriptorIndex := 27, attributes := #[] }] 49 2 #[] #[])
  fields := #[]
  methods := #[k1m0, k1m1]
  instanceTypes := #[]
  staticTypes := #[]
  resolved := Array.replicate 31 none
  statics := none }

def pool2 : Array CpInfo := pool [(1, .methodref 2 3), (0, .class_ 4), (0, .nameAndType 5 6), (0, u "java/lang/Object"), (0, u "<init>"), (0, u "()V"), (0, .fieldref 8 9), (0, .class_ 10), (0, .nameAndType 11 12), (0, u "com/example/vetter/vetter/compare/Marks"), (0, u "mark"), (0, u "I"), (0, .fieldref 8 14), (0, .nameAndType 15 16), (0, u "marks"), (0, u "[I"), (2, .integer 2147483647), (6, u "(I)V"), (2, u "clear"), (1, u "add"), (0, u "(I)Z"), (0, u "contains")] 2

def k2c0 : Code := { maxStack := 2, maxLocals := 2, code := prog_78_method_1_code, exceptionTable := #[], attributes := #[] }
def k2m0 : Method := { name := "<init>", desc := "(I)V", sig := { parameters := [.int], returnType := none }, accessFlags := 0, code := some k2c0 }
def k2c1 : Code := { maxStack := 3, maxLocals := 1, code := prog_78_method_2_code, exceptionTable := #[], attributes := #[] }
def k2m1 : Method := { name := "clear", desc := "()V", sig := { parameters := [], returnType := none }, accessFlags := 0, code := some k2c1 }
def k2c2 : Code := { maxStack := 3, maxLocals := 3, code := prog_78_method_3_code, exceptionTable := #[], attributes := #[] }
def k2m2 : Method := { name := "add", desc := "(I)Z", sig := { parameters := [.int], returnType := some .boolean }, accessFlags := 0, code := some k2c2 }
def k2c3 : Code := { maxStack := 2, maxLocals := 2, code := prog_78_method_4_code, exceptionTable := #[], attributes := #[] }
def k2m3 : Method := { name := "contains", desc := "(I)Z", sig := { parameters := [.int], returnType := some .boolean }, accessFlags := 0, code := some k2c3 }
/-- com/example/vetter/vetter/compare/Marks -/
def k2 : Class := { plain "com/example/vetter/vetter/compare/Marks" (some 0) with
  accessFlags := 32
  interfaces := #[]
  cf := some (fileOf pool2 8 #[] #[{ accessFlags := 0, nameIndex := 5, descriptorIndex := 26, attributes := #[] }, { accessFlags := 0, nameIndex := 29, descriptorIndex := 6, attributes := #[] }, { accessFlags := 0, nameIndex := 31, descriptorIndex := 32, attributes := #[] }, { accessFlags := 0, nameIndex := 33, descriptorIndex := 32, attributes := #[] }] 32 2 #[] #[{ accessFlags := 18, nameIndex := 15, descriptorIndex := 16, attributes := #[] }, { accessFlags := 2, nameIndex := 11, descriptorIndex := 12, attributes := #[] }])
  fields := #[{ name := "marks", type := (.array .int), accessFlags := 18, slot := 0, constantValue := 0 }, { name := "mark", type := .int, accessFlags := 2, slot := 1, constantValue := 0 }]
  methods := #[k2m0, k2m1, k2m2, k2m3]
  instanceTypes := #[(.array .int), .int]
  staticTypes := #[]
  resolved := Array.replicate 36 none
  statics := none }

def pool3 : Array CpInfo := pool [(1, u "java/lang/Cloneable"), (0, .class_ 1), (0, u "java/lang/Object"), (0, .class_ 3)] 3

/-- java/lang/Cloneable -/
def k3 : Class := { plain "java/lang/Cloneable" (some 0) with
  accessFlags := 1537
  interfaces := #[]
  cf := some (fileOf pool3 2 #[] #[] 1537 4 #[] #[])
  fields := #[]
  methods := #[]
  instanceTypes := #[]
  staticTypes := #[]
  resolved := Array.replicate 8 none
  statics := none }

def pool4 : Array CpInfo := pool [(1, u "java/io/Serializable"), (0, .class_ 1), (0, u "java/lang/Object"), (0, .class_ 3)] 3

/-- java/io/Serializable -/
def k4 : Class := { plain "java/io/Serializable" (some 0) with
  accessFlags := 1537
  interfaces := #[]
  cf := some (fileOf pool4 2 #[] #[] 1537 4 #[] #[])
  fields := #[]
  methods := #[]
  instanceTypes := #[]
  staticTypes := #[]
  resolved := Array.replicate 8 none
  statics := none }

/-- the primitive byte -/
def k5 : Class := { plain "byte" none with kind := .primitive 'B', accessFlags := 0x411 }
/-- [B -/
def k6 : Class := { plain "[B" (some 0) with kind := .array 5 .byte, interfaces := #[3, 4], accessFlags := 1041 }

/-- the primitive int -/
def k7 : Class := { plain "int" none with kind := .primitive 'I', accessFlags := 0x411 }
/-- [I -/
def k8 : Class := { plain "[I" (some 0) with kind := .array 7 .int, interfaces := #[3, 4], accessFlags := 1041 }

def heap : Heap := #[]
def classes : Array Class := #[k0, k1, k2, k3, k4, k5, k6, k7, k8]
def interned : List (Array UInt16 × Addr) := []
def slotsUsed : Nat := 0
def theMethod : MethodId := ⟨1, 1⟩
def args0 : Array Value := #[.int 5, .int 300, .int 7, .int 2, .int 1]
def aboutOver (below : List Frame) : State where
  vm := { classes := classes, interned := interned.toArray }
  heap := heap
  slotsUsed := slotsUsed
  threads := #[{ frames := .invoking theMethod args0 :: below }]
def below0 : List Frame := [.native { method := ⟨0, 0⟩, args := #[] }]
def about1 : State := aboutOver below0
def p0 : Program := .bare "" "" ""
def e0 : Env := launch0.env 0 0 0
theorem w_frames : about1.frames = Frame.invoking theMethod args0 :: below0 := rfl
set_option maxRecDepth 65536 in
theorem w_args : argsFit about1.vm theMethod args0 = true := by decide +kernel
set_option maxRecDepth 65536 in
theorem w_heap : heapFits about1 = true := by decide +kernel
set_option maxRecDepth 65536 in
theorem w_runnable : about1.curStatus? = some .runnable := by decide +kernel
set_option maxRecDepth 65536 in
theorem w_alone : about1.alone = true := by decide +kernel
set_option maxRecDepth 65536 in
theorem w_named : about1.methodNamed? x = some theMethod := by decide +kernel
set_option maxRecDepth 65536 in
theorem w_hears : about1.hears theMethod below0 = true := by decide +kernel
set_option maxRecDepth 65536 in
theorem w_ripe : about1.ripe theMethod args0 below0 = true := by decide +kernel
theorem w_running : about1.status = .running := rfl
set_option maxRecDepth 65536 in
theorem w_room : about1.hasRoom e0.platform room_1 = true :=
  launch0.hasRoom_least _ room_1 (by decide +kernel) (by decide +kernel) (by decide +kernel) (by decide +kernel) (by decide +kernel) (by decide +kernel)
theorem allAtoms_all (ts : List Jvm.Cond) (a : Array Jvm.Value) (st : Jvm.State) : (allAtoms ts).before a st = ts.all (fun c => c.before a st) := by
  induction ts with
  | nil => rfl
  | cons c t ih =>
    show (Jvm.Cond.and c (allAtoms t)).before a st = _
    rw [Jvm.Cond.before_and, ih, List.all_cons]
def words1 : List Jvm.Cond := Jvm.Cond.code x code maxLocals ret :: tables_1
/-- a 'code' word, met by the world's own term for the bytes: nothing is compared byte by byte -/
theorem code_word {y : MethodName} {bytes : ByteArray} {mx : Nat} {rt : Option FieldType} {a : Array Value} {s : State} {m : MethodId} {meth : Method} {c : Code} (h1 : s.methodNamed? y = some m) (h2 : s.vm.method? m = some meth) (h3 : meth.code = some c) (h4 : c.code = bytes)
    (h5 : (c.maxLocals == mx && c.exceptionTable.isEmpty && decide (c.maxStack ≤ mostOperands) && decide (meth.sig.returnType = rt) && !meth.locks && decide (parseMethodDescriptor y.desc = some meth.sig)) = true) : (Jvm.Cond.code y bytes mx rt).before a s = true := by
  simp only [Bool.and_eq_true, beq_iff_eq, Bool.not_eq_true', decide_eq_true_eq] at h5
  obtain ⟨⟨⟨⟨⟨g1, g2⟩, g3⟩, g4⟩, g5⟩, g6⟩ := h5
  simp [Cond.before, Cond.holds, Cond.value, h1, h2, h3, h4, g1, g2, g3, g4, g5, g6]
def isCode : Jvm.Cond → Bool
  | .code _ _ _ _ => true
  | _ => false
theorem all_split {L : List Jvm.Cond} {P : Jvm.Cond → Bool} (h1 : L.all (fun c => isCode c || P c) = true) (h2 : ∀ c ∈ L.filter isCode, P c = true) : L.all P = true := by
  refine List.all_eq_true.mpr fun c hc => ?_
  have h := List.all_eq_true.mp h1 c hc
  rcases Bool.eq_false_or_eq_true (isCode c) with hi | hi
  · exact h2 c (List.mem_filter.mpr ⟨hc, hi⟩)
  · simpa [hi] using h
set_option maxRecDepth 65536 in
theorem w_c0 : (Jvm.Cond.code x code maxLocals ret).before args0 about1 = true := code_word (m := ⟨1, 1⟩) (meth := k1m1) (c := k1c1) (by decide +kernel) rfl rfl rfl (by decide +kernel)
set_option maxRecDepth 65536 in
theorem w_c1 : (Jvm.Cond.code ({ cls := "com/example/vetter/vetter/compare/Marks", name := "<init>", desc := "(I)V" } : Jvm.MethodName) prog_78_method_1_code (2 : Nat) (Option.none : Option Jvm.ClassFile.FieldType)).before args0 about1 = true := code_word (m := ⟨2, 0⟩) (meth := k2m0) (c := k2c0) (by decide +kernel) rfl rfl rfl (by decide +kernel)
set_option maxRecDepth 65536 in
theorem w_c2 : (Jvm.Cond.code ({ cls := "java/lang/Object", name := "<init>", desc := "()V" } : Jvm.MethodName) object_method_1_code (1 : Nat) (Option.none : Option Jvm.ClassFile.FieldType)).before args0 about1 = true := code_word (m := ⟨0, 0⟩) (meth := k0m0) (c := k0c0) (by decide +kernel) rfl rfl rfl (by decide +kernel)
set_option maxRecDepth 65536 in
theorem w_c3 : (Jvm.Cond.code ({ cls := "com/example/vetter/vetter/compare/Marks", name := "add", desc := "(I)Z" } : Jvm.MethodName) prog_78_method_3_code (3 : Nat) (Option.some Jvm.ClassFile.FieldType.boolean)).before args0 about1 = true := code_word (m := ⟨2, 2⟩) (meth := k2m2) (c := k2c2) (by decide +kernel) rfl rfl rfl (by decide +kernel)
set_option maxRecDepth 65536 in
theorem w_c4 : (Jvm.Cond.code ({ cls := "com/example/vetter/vetter/compare/Marks", name := "contains", desc := "(I)Z" } : Jvm.MethodName) prog_78_method_4_code (2 : Nat) (Option.some Jvm.ClassFile.FieldType.boolean)).before args0 about1 = true := code_word (m := ⟨2, 3⟩) (meth := k2m3) (c := k2c3) (by decide +kernel) rfl rfl rfl (by decide +kernel)
set_option maxRecDepth 65536 in
theorem w_c5 : (Jvm.Cond.code ({ cls := "com/example/vetter/vetter/compare/Marks", name := "clear", desc := "()V" } : Jvm.MethodName) prog_78_method_2_code (1 : Nat) (Option.none : Option Jvm.ClassFile.FieldType)).before args0 about1 = true := code_word (m := ⟨2, 1⟩) (meth := k2m1) (c := k2c1) (by decide +kernel) rfl rfl rfl (by decide +kernel)
def codes1 : List Jvm.Cond := [Jvm.Cond.code x code maxLocals ret, Jvm.Cond.code ({ cls := "com/example/vetter/vetter/compare/Marks", name := "<init>", desc := "(I)V" } : Jvm.MethodName) prog_78_method_1_code (2 : Nat) (Option.none : Option Jvm.ClassFile.FieldType), Jvm.Cond.code ({ cls := "java/lang/Object", name := "<init>", desc := "()V" } : Jvm.MethodName) object_method_1_code (1 : Nat) (Option.none : Option Jvm.ClassFile.FieldType), Jvm.Cond.code ({ cls := "com/example/vetter/vetter/compare/Marks", name := "add", desc := "(I)Z" } : Jvm.MethodName) prog_78_method_3_code (3 : Nat) (Option.some Jvm.ClassFile.FieldType.boolean), Jvm.Cond.code ({ cls := "com/example/vetter/vetter/compare/Marks", name := "contains", desc := "(I)Z" } : Jvm.MethodName) prog_78_method_4_code (2 : Nat) (Option.some Jvm.ClassFile.FieldType.boolean), Jvm.Cond.code ({ cls := "com/example/vetter/vetter/compare/Marks", name := "clear", desc := "()V" } : Jvm.MethodName) prog_78_method_2_code (1 : Nat) (Option.none : Option Jvm.ClassFile.FieldType)]
set_option maxRecDepth 65536 in
theorem codes_eq : words1.filter isCode = codes1 := rfl
theorem w_codes : ∀ c ∈ words1.filter isCode, c.before args0 about1 = true := by
  rw [codes_eq]
  intro c hc
  simp only [codes1, List.mem_cons, List.not_mem_nil, or_false] at hc
  rcases hc with rfl | rfl | rfl | rfl | rfl | rfl
  · exact w_c0
  · exact w_c1
  · exact w_c2
  · exact w_c3
  · exact w_c4
  · exact w_c5
set_option maxRecDepth 65536 in
theorem w_t1 : (words1.take 24).all (fun c => isCode c || c.before args0 about1) = true := by decide +kernel
set_option maxRecDepth 65536 in
theorem w_t2 : (words1.drop 24).all (fun c => isCode c || c.before args0 about1) = true := by decide +kernel
theorem w_tables : (allAtoms (Jvm.Cond.code x code maxLocals ret :: tables_1)).before args0 about1 = true := by
  rw [allAtoms_all]
  show words1.all (fun c => c.before args0 about1) = true
  refine all_split ?_ w_codes
  rw [← List.take_append_drop 24 words1, List.all_append, w_t1, w_t2]
  rfl
set_option maxRecDepth 65536 in
theorem w_case : (Jvm.Cond.and given_1 narrow_1).before args0 about1 = true := by decide +kernel
theorem w_applies : (headSpec (Jvm.Cond.code x code maxLocals ret :: tables_1) room_1).applies x e0.platform about1 = true :=
  (Spec.applies_iff w_frames).mpr ⟨w_running, w_runnable, w_alone, w_named, w_hears, w_ripe, w_room, w_tables⟩
theorem atStart : AtStart classFile x code maxLocals ret World_1 tables_1 room_1 Calls_1 rest_1 Pre_1 launch0 p0 e0 about1 theMethod args0 below0 :=
  ⟨lists_1, trivial, launch0.admits_env _ _ _, launch0.least_env, fairChoices_fair.cas, fairChoices_fair.clock, w_frames, w_args, w_heap, w_applies, trivial, trivial, w_case⟩
end start1
theorem witness_1 : WitnessClaimed_1 := ⟨start1.p0, start1.e0, start1.about1, start1.theMethod, start1.args0, start1.below0, start1.atStart⟩
end Jvm.Pilot.@@N@@
