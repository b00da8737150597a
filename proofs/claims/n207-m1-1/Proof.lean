import JvmDerived
import JvmDerived.Pilot.@@N@@Statement
import JvmDerived.Pilot.@@N@@Code
set_option linter.unusedVariables false
set_option linter.unusedSimpArgs false
namespace Jvm.OwnKit
open Sem ClassFile Op Lib Jvm.Stand Jvm.Free Jvm.LawKit Jvm.RoadKit
/-- from here the run returns; it wrote new cells alone, and what it leaves is as Q says -/
def Goes (p : Program) (e : Env) (s : State) (below : List Frame) (Q : Option Value → Heap → Prop) (n0 C N : Nat) (T : State) (g : JFrame) : Prop :=
  ∃ s₂ o, Steps p.tables e below (T.setTop g) s₂ ∧ s₂.status = .running ∧ Ended s₂ below o ∧ ∃ v L, o = .returned v ∧ (Fr n0 L ∧ Q v s₂.heap) ∧ FrameEnd s o s₂ L C N
/-- a method's contract: entered with these arguments over the heap h it returns as Q says -/
abbrev Con (l : Launch) (y : MethodName) (bytes : ByteArray) (maxL : Nat) (ret : Option FieldType) (ws : List Jvm.Cond) (rm : Room) (Z : State) (as' : Array Value) (h : Heap) (n0 : Nat) (Q : Option Value → Heap → Prop) : Prop :=
  MetFree l y (head1 (Jvm.Cond.code y bytes maxL ret :: ws) rm) (fun a U => a = as' ∧ Z.Warmed39 U.vm ∧ U.heap = h) (fun _ _ _ _ _ => True) (fun _ U o U' => ∃ v L, o = .returned v ∧ (Fr n0 L ∧ Q v U'.heap) ∧ FrameEnd U o U' L rm.cells rm.slots)
section Laws
variable {p : Program} {l : Launch} {e : Env} {R : Room} {s : State} {m : MethodId} {args : Array Value} {below : List Frame} {meth : Method} {c : Code} {T T' : State} {locs : List Loc} {cells slots : Nat} {Z : State} {h : Heap} {a0 : Array Value} {Q : Option Value → Heap → Prop} {n0 C N pc pc' : Nat} {Ls Ls' : Array Slot} {st : List Value} {g g' : JFrame}
theorem Goes.go (k : ∀ t, Steps p.tables e below (T'.setTop g') t → Steps p.tables e below (T.setTop g) t) (h : Goes p e s below Q n0 C N T' g') : Goes p e s below Q n0 C N T g := by
  obtain ⟨s₂, o, h1, h2⟩ := h; exact ⟨s₂, o, k _ h1, h2⟩
/-- what opens every body's walk -/
theorem con_of {y : MethodName} {bytes : ByteArray} {maxL : Nat} {ret : Option FieldType} {ws : List Jvm.Cond} {rm : Room} {as' : Array Value} {Ls0 : Array Slot} (hn : plainFor y = true) (hef : ∀ m, entryFrame m as' maxL = mkF m 0 Ls0 [])
    (body : ∀ (p : Program) (e : Env) (s : State) (m : MethodId) (below : List Frame) (meth : Method) (c : Code) (s₁ : State), Stand p l e rm s m as' below meth c s₁ [] 0 0 → p.tables.exec = Jvm.exec → c.code = bytes → c.maxLocals = maxL → Z.Warmed39 s.vm → s.vm.findClass y.cls = some m.cls → meth.name = y.name → meth.sig.returnType = ret → meth.locks = false → s₁.heap = h → Fr n0 [] →
      Goes p e s below Q n0 rm.cells rm.slots s₁ (mkF m 0 Ls0 [])) : Con l y bytes maxL ret ws rm Z as' h n0 Q := by
  refine MetFree.of_bodySF hn hisR ?_
  intro p e s m args below meth c s₁ Bd hml0 hP hK
  obtain ⟨rfl, hZ, hh⟩ := hP
  have e0 : s₁.heap = h := by rw [← hh, Bd.state]; rfl
  have q := body p e s m below meth c s₁ (Stand.of_body Bd) Bd.exec Bd.bytes hml0 hZ (findClass_of_methodNamed Bd.named) (name_of_methodNamed Bd.named Bd.method).1 Bd.returns Bd.notSynchronized e0 (Fr.nil n0)
  rw [hef m]
  exact q
/-- a return -/
theorem g_ret (X : Stand p l e R s m args below meth c T locs cells slots) (hx : p.tables.exec = Jvm.exec) (hlk : meth.locks = false) {w : Value} {t : FieldType} {i : Instr} (hret : meth.sig.returnType = some t) (hn : narrow t w = w)
    (hi : (i = .ireturn ∧ (t = .int ∨ t = .boolean ∨ t = .byte ∨ t = .char ∨ t = .short) ∧ ∃ z, w = .int z) ∨ (i = .lreturn ∧ t = .long ∧ ∃ z, w = .long z) ∨ (i = .dreturn ∧ t = .double ∧ ∃ z, w = .double z) ∨ (i = .freturn ∧ t = .float ∧ ∃ z, w = .float z) ∨ (i = .areturn ∧ t.isReference = true ∧ w.isRef = true))
    (hd : decode c.code pc = .ok (i, 1)) (hN : Fr n0 locs) (hc : cells ≤ C) (hs : slots ≤ N) (hQ : Q (some w) T.heap) : Goes p e s below Q n0 C N T (mkF m pc Ls (w :: st)) := by
  obtain ⟨fs, hr, hrun, hended, hW, hsame⟩ := X.leave (v := some w) (fun z => by rw [hret] at z; cases z)
  exact ⟨_, _, retOut X hx hret hn hi hd hr, hrun, hended, _, _, rfl, ⟨hN, hQ⟩, ⟨_, rfl⟩, hW, hsame.mono hc hs⟩
theorem g_retI (X : Stand p l e R s m args below meth c T locs cells slots) (hx : p.tables.exec = Jvm.exec) (hlk : meth.locks = false) {z : Int32} (hret : meth.sig.returnType = some .int) (hd : decode c.code pc = .ok (.ireturn, 1)) (hN : Fr n0 locs) (hc : cells ≤ C) (hs : slots ≤ N) (hQ : Q (some (.int z)) T.heap) : Goes p e s below Q n0 C N T (mkF m pc Ls (.int z :: st)) :=
  g_ret X hx hlk hret rfl (Or.inl ⟨rfl, Or.inl rfl, _, rfl⟩) hd hN hc hs hQ
theorem g_retZ (X : Stand p l e R s m args below meth c T locs cells slots) (hx : p.tables.exec = Jvm.exec) (hlk : meth.locks = false) {z : Int32} (hz : z &&& 1 = z) (hret : meth.sig.returnType = some .boolean) (hd : decode c.code pc = .ok (.ireturn, 1)) (hN : Fr n0 locs) (hc : cells ≤ C) (hs : slots ≤ N) (hQ : Q (some (.int z)) T.heap) : Goes p e s below Q n0 C N T (mkF m pc Ls (.int z :: st)) :=
  g_ret X hx hlk hret (congrArg Value.int hz) (Or.inl ⟨rfl, Or.inr (Or.inl rfl), _, rfl⟩) hd hN hc hs hQ
theorem g_retJ (X : Stand p l e R s m args below meth c T locs cells slots) (hx : p.tables.exec = Jvm.exec) (hlk : meth.locks = false) {z : Int64} (hret : meth.sig.returnType = some .long) (hd : decode c.code pc = .ok (.lreturn, 1)) (hN : Fr n0 locs) (hc : cells ≤ C) (hs : slots ≤ N) (hQ : Q (some (.long z)) T.heap) : Goes p e s below Q n0 C N T (mkF m pc Ls (.long z :: st)) :=
  g_ret X hx hlk hret rfl (Or.inr (Or.inl ⟨rfl, rfl, _, rfl⟩)) hd hN hc hs hQ
theorem g_retA (X : Stand p l e R s m args below meth c T locs cells slots) (hx : p.tables.exec = Jvm.exec) (hlk : meth.locks = false) {v : Value} {t : FieldType} (hret : meth.sig.returnType = some t) (ht : t.isReference = true) (hn : narrow t v = v) (hv : v.isRef = true) (hd : decode c.code pc = .ok (.areturn, 1)) (hN : Fr n0 locs) (hc : cells ≤ C) (hs : slots ≤ N) (hQ : Q (some v) T.heap) : Goes p e s below Q n0 C N T (mkF m pc Ls (v :: st)) :=
  g_ret X hx hlk hret hn (Or.inr (Or.inr (Or.inr (Or.inr ⟨rfl, ht, hv⟩)))) hd hN hc hs hQ
theorem g_retV (X : Stand p l e R s m args below meth c T locs cells slots) (hx : p.tables.exec = Jvm.exec) (hlk : meth.locks = false) (hret : meth.sig.returnType = none) (hd : decode c.code pc = .ok (.return_, 1)) (hN : Fr n0 locs) (hc : cells ≤ C) (hs : slots ≤ N) (hQ : Q none T.heap) : Goes p e s below Q n0 C N T (mkF m pc Ls []) := by
  obtain ⟨fs, hr, hrun, hended, hW, hsame⟩ := X.leave (v := none) (fun _ => rfl)
  exact ⟨_, _, X.returnOut hx hret hd hr, hrun, hended, _, _, rfl, ⟨hN, hQ⟩, ⟨_, rfl⟩, hW, hsame.mono hc hs⟩
/-! fields and objects -/
theorem g_getF (X : Stand p l e R s m args below meth c T locs cells slots) (hx : p.tables.exec = Jvm.exec) (hZ : Z.Warmed39 s.vm) {own O n d : String} {i : Nat} (hown : s.vm.findClass own = some m.cls) (w : (Cond.fieldLink own i O n d).before a0 Z = true) (eT : T.heap = h) {a : Addr} {v : Value} (F : Fld Z h a O n d v) (hd : decode c.code pc = .ok (.getfield i, 3)) (hp : pc + 3 = pc')
    (k : ∀ T', Stand p l e R s m args below meth c T' locs cells slots → T'.heap = h → Goes p e s below Q n0 C N T' (mkF m pc' Ls (v :: st))) : Goes p e s below Q n0 C N T (mkF m pc Ls (.ref a :: st)) := by
  subst hp
  obtain ⟨T', X', e', st'⟩ := getF X hx hZ hown (host := "") (Or.inl w) Via.refl eT F (g := mkF m pc Ls (.ref a :: st)) rfl rfl hd
  exact (k T' X' e').go st'
theorem g_putF (X : Stand p l e R s m args below meth c T locs cells slots) (hx : p.tables.exec = Jvm.exec) (hZ : Z.Warmed39 s.vm) {own O n d K : String} {i kk : Nat} {ty : FieldType} (hown : s.vm.findClass own = some m.cls) (w : (Cond.fieldLink own i O n d).before a0 Z = true) (eT : T.heap = h) {a : Addr} {v old : Value} (F : Fld Z h a O n d old) (E : Exa Z h a K) (L : (Cond.lays K O n d).before a0 Z = true ∨ ((Cond.laysFinal K O n d).before a0 Z = true ∧ own = O ∧ meth.name = "<init>")) (wi : (Cond.instantiable K kk).before a0 Z = true)
    (hty : parseFieldDescriptor d = some ty) (hn : narrow ty v = v) (hf : fits ty v = true) (hN : Fr n0 locs) (ha : n0 ≤ a) (hd : decode c.code pc = .ok (.putfield i, 3)) (hp : pc + 3 = pc')
    (k : ∀ T' h' locs', Stand p l e R s m args below meth c T' locs' cells slots → T'.heap = h' → Wr h h' a (RoadKit.slotOf Z O n d) v → Fr n0 locs' → Goes p e s below Q n0 C N T' (mkF m pc' Ls st)) : Goes p e s below Q n0 C N T (mkF m pc Ls (v :: .ref a :: st)) := by
  subst hp
  obtain ⟨T', h', X', e', W', st'⟩ := putF X hx hZ hown (host := "") (Or.inl w) Via.refl eT F E L wi hty hn hf (g := mkF m pc Ls (v :: .ref a :: st)) rfl rfl hd
  exact (k T' h' _ X' e' W' (Fr.snoc X' hN ha)).go st'
theorem g_new (X : Stand p l e R s m args below meth c T locs cells slots) (hx : p.tables.exec = Jvm.exec) (hZ : Z.Warmed39 s.vm) {own K : String} {i n : Nat} (hown : s.vm.findClass own = some m.cls) (w : (Cond.classLink own i K).before a0 Z = true) (wi : (Cond.instantiable K n).before a0 Z = true) (wz : (Cond.initialized K).before a0 Z = true) (eT : T.heap = h) (hd : decode c.code pc = .ok (.new i, 3)) (hc : cells + 1 ≤ R.cells) (hl : slots + n ≤ R.slots) (hp : pc + 3 = pc')
    (k : ∀ T' h' a, a = h.size → Stand p l e R s m args below meth c T' locs (cells + 1) (slots + n) → T'.heap = h' → Ext h h' → a < h'.size → Exa Z h' a K → (∀ {O nm d : String} {ty : FieldType}, Laid Z a0 K O nm d → parseFieldDescriptor d = some ty → Fld Z h' a O nm d (defaultValue ty)) → Goes p e s below Q n0 C N T' (mkF m pc' Ls (.ref a :: st))) : Goes p e s below Q n0 C N T (mkF m pc Ls st) := by
  subst hp
  obtain ⟨T', h', X', e', E', A', D', -, st'⟩ := newO X hx hZ hown w wi wz eT (g := mkF m pc Ls st) rfl hd hc hl
  exact (k T' h' h.size rfl X' e' E' A'.lt A' D').go st'
theorem g_initO (X : Stand p l e R s m args below meth c T locs cells slots) (hx : p.tables.exec = Jvm.exec) (hZ : Z.Warmed39 s.vm) {own : String} {i : Nat} (hown : s.vm.findClass own = some m.cls) (w1 : (Cond.methodLink own i Lib.objectInit).before a0 Z = true) (w2 : (Cond.instanceMethod Lib.objectInit).before a0 Z = true) (w3 : (Cond.code Lib.objectInit ⟨#[0xb1]⟩ 1 none).before a0 Z = true) (eT : T.heap = h) (hsz : Ls.size = c.maxLocals) {a : Addr} (hd : decode c.code pc = .ok (.invokespecial i, 3))
    (hf : 1 ≤ R.frames) {W : Nat} (hW : (st.map fun v => v.category).sum ≤ W) (hl : W + 12 ≤ R.locals) (hp : pc + 3 = pc')
    (k : ∀ T', Stand p l e R s m args below meth c T' locs cells slots → T'.heap = h → Goes p e s below Q n0 C N T' (mkF m pc' Ls st)) : Goes p e s below Q n0 C N T (mkF m pc Ls (.ref a :: st)) := by
  subst hp
  obtain ⟨T', X', e', st'⟩ := initO X hx hZ hown w1 w2 w3 eT (g := mkF m pc Ls (.ref a :: st)) rfl hsz rfl hd hf (W := W) (by show 2 * 0 + _ ≤ _; omega) hl
  exact (k T' X' e').go st'
theorem g_getS (X : Stand p l e R s m args below meth c T locs cells slots) (hx : p.tables.exec = Jvm.exec) (hZ : Z.Warmed39 s.vm) {own O n d : String} {i : Nat} (hown : s.vm.findClass own = some m.cls) (w : (Cond.fieldLink own i O n d).before a0 Z = true) (eT : T.heap = h) {v : Value} (F : Sta Z h O n d v) (hd : decode c.code pc = .ok (.getstatic i, 3)) (hp : pc + 3 = pc')
    (k : ∀ T', Stand p l e R s m args below meth c T' locs cells slots → T'.heap = h → Goes p e s below Q n0 C N T' (mkF m pc' Ls (v :: st))) : Goes p e s below Q n0 C N T (mkF m pc Ls st) := by
  subst hp
  obtain ⟨T', X', e', st'⟩ := getS X hx hZ hown (host := "") w Via.refl eT F (g := mkF m pc Ls st) rfl hd
  exact (k T' X' e').go st'
theorem g_ldcF (X : Stand p l e R s m args below meth c T locs cells slots) (hx : p.tables.exec = Jvm.exec) (hZ : Z.Warmed39 s.vm) {own : String} {i : Nat} {b : UInt32} (hown : s.vm.findClass own = some m.cls) (w : (Cond.constantFloat own i b).before a0 Z = true) (hd : decode c.code pc = .ok (.ldc i, 2)) (hp : pc + 2 = pc')
    (k : Goes p e s below Q n0 C N T (mkF m pc' Ls (.float b :: st))) : Goes p e s below Q n0 C N T (mkF m pc Ls st) := by
  subst hp
  exact k.go fun t q => X.ldcFloatC hx hown (mvT hZ w) (g := mkF m pc Ls st) rfl hd t q
/-! calls: the callee's contract pays -/
theorem g_static (X : Stand p l e R s m args below meth c T locs cells slots) (hx : p.tables.exec = Jvm.exec) (hZ : Z.Warmed39 s.vm) {own : String} {i : Nat} {y : MethodName} {bytes : ByteArray} {maxL : Nat} {ret : Option FieldType} (hown : s.vm.findClass own = some m.cls) (w1 : (Cond.methodLink own i y).before a0 Z = true) (w2 : (Cond.static y).before a0 Z = true) (w3 : (Cond.initialized y.cls).before a0 Z = true) (w4 : (Cond.code y bytes maxL ret).before a0 Z = true) (hy : y.cls ≠ "java/lang/invoke/MethodHandle" ∧ y.cls ≠ "java/lang/invoke/VarHandle")
    {rm : Room} {argsL : List Value} {as' : Array Value} {Qy : Option Value → Heap → Prop} (hM : Con l y bytes maxL ret [] rm Z as' h n0 Qy) (has : argsL.toArray = as') (eT : T.heap = h) (hsz : Ls.size = c.maxLocals) {ps : List FieldType} {rt : Option FieldType} (pd : parseMethodDescriptor y.desc = some ⟨ps, rt⟩) (hlen : argsL.length = ps.length) {rest : List Value} (hst : st = argsL.reverse ++ rest) {W : Nat} (hW : (rest.map fun v => v.category).sum ≤ W)
    (hf : rm.frames + 1 ≤ R.frames) (hl : W + (maxL + 11) + rm.locals ≤ R.locals) (hc : cells + rm.cells ≤ R.cells) (hs : slots + rm.slots ≤ R.slots) (hN : Fr n0 locs) (hd : decode c.code pc = .ok (.invokestatic i, 3)) (hp : pc + 3 = pc')
    (k : ∀ v T' locs', Stand p l e R s m args below meth c T' locs' (cells + rm.cells) (slots + rm.slots) → Fr n0 locs' → Qy v T'.heap → Goes p e s below Q n0 C N T' (mkF m pc' Ls (v.toList ++ rest))) : Goes p e s below Q n0 C N T (mkF m pc Ls st) := by
  subst hp has
  obtain ⟨v, _, ⟨T', L', k', n'⟩, -, X', ⟨L, ⟨hNL, hQ⟩, q1, q2, q3⟩, st'⟩ := Jvm.LawKit.callS X hx (y := y) hown (mvT hZ w1) (mvT hZ w2) (mvT hZ w3) (mvT hZ w4) hy (backOf (W := W) (Q := fun v h L => Fr n0 L ∧ Qy v h) hM hZ w4 w3 hf hl) (g := mkF m pc Ls st) rfl hsz (argsL := argsL) (rest := rest) (lenOf pd hlen) hst (by show 2 * 0 + _ ≤ _; omega) hd (fun _ _ => ⟨rfl, eT, hc, hs⟩)
  dsimp only [Pt.U, Pt.locs, Pt.cells, Pt.slots] at X' q1 q2 q3 st' hQ
  subst q1 q2 q3
  exact (k v T' _ X' (Fr.app hN hNL) hQ).go st'
theorem g_special (X : Stand p l e R s m args below meth c T locs cells slots) (hx : p.tables.exec = Jvm.exec) (hZ : Z.Warmed39 s.vm) {own : String} {i : Nat} {y : MethodName} {bytes : ByteArray} {maxL : Nat} (hy1 : y.name = "<init>") (hown : s.vm.findClass own = some m.cls) (w1 : (Cond.methodLink own i y).before a0 Z = true) (w2 : (Cond.instanceMethod y).before a0 Z = true) (w3 : (Cond.initialized y.cls).before a0 Z = true) (w4 : (Cond.code y bytes maxL none).before a0 Z = true) (hy : y.cls ≠ "java/lang/invoke/MethodHandle" ∧ y.cls ≠ "java/lang/invoke/VarHandle")
    {rm : Room} {a : Addr} {argsL : List Value} {as' : Array Value} {Qy : Option Value → Heap → Prop} (hM : Con l y bytes maxL none [] rm Z as' h n0 Qy) (has : (.ref a :: argsL).toArray = as') (eT : T.heap = h) (hsz : Ls.size = c.maxLocals) {ps : List FieldType} {rt : Option FieldType} (pd : parseMethodDescriptor y.desc = some ⟨ps, rt⟩) (hlen : argsL.length = ps.length) {rest : List Value} (hst : st = argsL.reverse ++ .ref a :: rest) {W : Nat} (hW : (rest.map fun v => v.category).sum ≤ W)
    (hf : rm.frames + 1 ≤ R.frames) (hl : W + (maxL + 11) + rm.locals ≤ R.locals) (hc : cells + rm.cells ≤ R.cells) (hs : slots + rm.slots ≤ R.slots) (hN : Fr n0 locs) (hd : decode c.code pc = .ok (.invokespecial i, 3)) (hp : pc + 3 = pc')
    (k : ∀ v T' locs', Stand p l e R s m args below meth c T' locs' (cells + rm.cells) (slots + rm.slots) → Fr n0 locs' → Qy v T'.heap → Goes p e s below Q n0 C N T' (mkF m pc' Ls (v.toList ++ rest))) : Goes p e s below Q n0 C N T (mkF m pc Ls st) := by
  subst hp has
  obtain ⟨v, _, ⟨T', L', k', n'⟩, -, X', ⟨L, ⟨hNL, hQ⟩, q1, q2, q3⟩, st'⟩ := X.specialBack hx (y := y) hy1 hown (mvT hZ w1) (mvT hZ w2) (mvT hZ w4) hy (backOf (W := W) (Q := fun v h L => Fr n0 L ∧ Qy v h) hM hZ w4 w3 hf hl) (g := mkF m pc Ls st) rfl hsz (Steps.refl _) (a := a) (argsL := argsL) (rest := rest) (lenOf pd hlen) hst (by show 2 * 0 + _ ≤ _; omega) hd (fun _ _ => ⟨rfl, eT, hc, hs⟩)
  dsimp only [Pt.U, Pt.locs, Pt.cells, Pt.slots] at X' q1 q2 q3 st' hQ
  subst q1 q2 q3
  exact (k v T' _ X' (Fr.app hN hNL) hQ).go fun _ z => st'.trans z
theorem g_virtual (X : Stand p l e R s m args below meth c T locs cells slots) (hx : p.tables.exec = Jvm.exec) (hZ : Z.Warmed39 s.vm) {own K : String} {i : Nat} {y : MethodName} {bytes : ByteArray} {maxL : Nat} {ret : Option FieldType} (hown : s.vm.findClass own = some m.cls) (w1 : (Cond.methodLink own i y).before a0 Z = true) (w2 : (Cond.declares y).before a0 Z = true) (w5 : (Cond.selects K y y).before a0 Z = true) (w6 : (Cond.instanceMethod y).before a0 Z = true) (w3 : (Cond.initialized y.cls).before a0 Z = true) (w4 : (Cond.code y bytes maxL ret).before a0 Z = true) (hy : y.cls ≠ "java/lang/invoke/MethodHandle" ∧ y.cls ≠ "java/lang/invoke/VarHandle")
    {rm : Room} {a : Addr} {argsL : List Value} {as' : Array Value} {Qy : Option Value → Heap → Prop} (hM : Con l y bytes maxL ret [] rm Z as' h n0 Qy) (has : (.ref a :: argsL).toArray = as') (eT : T.heap = h) (E : Exa Z h a K) (hsz : Ls.size = c.maxLocals) {ps : List FieldType} {rt : Option FieldType} (pd : parseMethodDescriptor y.desc = some ⟨ps, rt⟩) (hlen : argsL.length = ps.length) {rest : List Value} (hst : st = argsL.reverse ++ .ref a :: rest) {W : Nat} (hW : (rest.map fun v => v.category).sum ≤ W)
    (hf : rm.frames + 1 ≤ R.frames) (hl : W + (maxL + 11) + rm.locals ≤ R.locals) (hc : cells + rm.cells ≤ R.cells) (hs : slots + rm.slots ≤ R.slots) (hN : Fr n0 locs) (hd : decode c.code pc = .ok (.invokevirtual i, 3)) (hp : pc + 3 = pc')
    (k : ∀ v T' locs', Stand p l e R s m args below meth c T' locs' (cells + rm.cells) (slots + rm.slots) → Fr n0 locs' → Qy v T'.heap → Goes p e s below Q n0 C N T' (mkF m pc' Ls (v.toList ++ rest))) : Goes p e s below Q n0 C N T (mkF m pc Ls st) := by
  subst hp has
  obtain ⟨cq, kq, qa, qb, qc⟩ := isOf hZ eT E
  obtain ⟨v, _, ⟨T', L', k', n'⟩, -, X', ⟨L, ⟨hNL, hQ⟩, q1, q2, q3⟩, st'⟩ := X.virtualBack hx (y := y) (z := y) hown (mvT hZ w1) (mvT hZ w2) (notFace_of_selects (args := #[]) (mvT hZ w5)) (mvT hZ w5) (mvT hZ w6) hy (backOf (W := W) (Q := fun v h L => Fr n0 L ∧ Qy v h) hM hZ w4 w3 hf hl) qa qc (g := mkF m pc Ls st) rfl hsz (Steps.refl _) (argsL := argsL) (rest := rest) (lenOf pd hlen) hst (by show 2 * 0 + _ ≤ _; omega) hd (fun _ _ => ⟨rfl, eT, hc, hs⟩)
  dsimp only [Pt.U, Pt.locs, Pt.cells, Pt.slots] at X' q1 q2 q3 st' hQ
  subst q1 q2 q3
  exact (k v T' _ X' (Fr.app hN hNL) hQ).go fun _ z => st'.trans z
/-! int arrays and long arrays, by their values -/
def IA (Z : State) (h : Heap) (a : Addr) (n : Nat) (f : Nat → Int32) : Prop := n < 2147483648 ∧ ∃ c : Cell, Arr Z h a c .int ∧ c.slots.size = n ∧ ∀ i, i < n → c.slots[i]? = some (.int (f i))
def LA (Z : State) (h : Heap) (a : Addr) (n : Nat) (f : Nat → Int64) : Prop := n < 2147483648 ∧ ∃ c : Cell, Arr Z h a c .long ∧ c.slots.size = n ∧ ∀ i, i < n → c.slots[i]? = some (.long (f i))
def zeroI : Nat → Int32 := fun _ => 0
def zeroL : Nat → Int64 := fun _ => 0
def oupd {A : Type} (f : Nat → A) (j : Nat) (v : A) : Nat → A := fun i => if i = j then v else f i
theorem nclamp {j : Int32} {k : Nat} (hj : j.toInt = (k : Int)) : j.toNatClampNeg = k ∧ ¬ j < 0 := by
  refine ⟨by simp only [Int32.toNatClampNeg, hj]; rfl, fun z => ?_⟩
  rw [Int32.lt_iff_toInt_lt, hj] at z; have : (0 : Int32).toInt = 0 := rfl; omega
theorem nin {j : Int32} {k n : Nat} (hj : j.toInt = (k : Int)) (hk : k < n) : ¬ (j < 0 ∨ n ≤ j.toNatClampNeg) := by
  obtain ⟨q1, q2⟩ := nclamp hj; rw [q1]; rintro (z | z)
  · exact q2 z
  · omega
theorem len32 {n : Nat} (hn : n < 2147483648) : (n.toInt32).toInt = (n : Int) := len_toInt hn
theorem g_iloadN (X : Stand p l e R s m args below meth c T locs cells slots) (hx : p.tables.exec = Jvm.exec) {k : Fin 4} {v : Int32} (hd : decode c.code pc = .ok (.iload_n k, 1)) (hl : Ls[k.val]? = some (.val (.int v))) (hp : pc + 1 = pc')
    (k : Goes p e s below Q n0 C N T (mkF m pc' Ls (.int v :: st))) : Goes p e s below Q n0 C N T (mkF m pc Ls (st)) := by
  subst hp; exact k.go fun _ q => XS.iloadN X.here hx rfl hd hl q
theorem g_iload (X : Stand p l e R s m args below meth c T locs cells slots) (hx : p.tables.exec = Jvm.exec) {k : Nat} {v : Int32} (hd : decode c.code pc = .ok (.iload k, 2)) (hl : Ls[k]? = some (.val (.int v))) (hp : pc + 2 = pc')
    (k : Goes p e s below Q n0 C N T (mkF m pc' Ls (.int v :: st))) : Goes p e s below Q n0 C N T (mkF m pc Ls (st)) := by
  subst hp; exact k.go fun _ q => XS.iload X.here hx rfl hd hl q
theorem g_lloadN (X : Stand p l e R s m args below meth c T locs cells slots) (hx : p.tables.exec = Jvm.exec) {k : Fin 4} {v : Int64} (hd : decode c.code pc = .ok (.lload_n k, 1)) (hl : Ls[k.val]? = some (.val (.long v))) (hp : pc + 1 = pc')
    (k : Goes p e s below Q n0 C N T (mkF m pc' Ls (.long v :: st))) : Goes p e s below Q n0 C N T (mkF m pc Ls (st)) := by
  subst hp; exact k.go fun _ q => XT.lloadN X.here hx rfl hd hl q
theorem g_lload (X : Stand p l e R s m args below meth c T locs cells slots) (hx : p.tables.exec = Jvm.exec) {k : Nat} {v : Int64} (hd : decode c.code pc = .ok (.lload k, 2)) (hl : Ls[k]? = some (.val (.long v))) (hp : pc + 2 = pc')
    (k : Goes p e s below Q n0 C N T (mkF m pc' Ls (.long v :: st))) : Goes p e s below Q n0 C N T (mkF m pc Ls (st)) := by
  subst hp; exact k.go fun _ q => XT.lload X.here hx rfl hd hl q
theorem g_aloadN (X : Stand p l e R s m args below meth c T locs cells slots) (hx : p.tables.exec = Jvm.exec) {k : Fin 4} {v : Value} (hd : decode c.code pc = .ok (.aload_n k, 1)) (hl : Ls[k.val]? = some (.val v)) (hv : v.isRef = true) (hp : pc + 1 = pc')
    (k : Goes p e s below Q n0 C N T (mkF m pc' Ls (v :: st))) : Goes p e s below Q n0 C N T (mkF m pc Ls (st)) := by
  subst hp; exact k.go fun _ q => XS.aloadN X.here hx rfl hd hl hv q
theorem g_aload (X : Stand p l e R s m args below meth c T locs cells slots) (hx : p.tables.exec = Jvm.exec) {k : Nat} {v : Value} (hd : decode c.code pc = .ok (.aload k, 2)) (hl : Ls[k]? = some (.val v)) (hv : v.isRef = true) (hp : pc + 2 = pc')
    (k : Goes p e s below Q n0 C N T (mkF m pc' Ls (v :: st))) : Goes p e s below Q n0 C N T (mkF m pc Ls (st)) := by
  subst hp; exact k.go fun _ q => XS.aload X.here hx rfl hd hl hv q
theorem g_istoreN (X : Stand p l e R s m args below meth c T locs cells slots) (hx : p.tables.exec = Jvm.exec) {k : Fin 4} {x : Int32} (hd : decode c.code pc = .ok (.istore_n k, 1)) (hl : storeLocals Ls k.val (.int x) = some Ls') (hp : pc + 1 = pc')
    (k : Goes p e s below Q n0 C N T (mkF m pc' Ls' (st))) : Goes p e s below Q n0 C N T (mkF m pc Ls (.int x :: st)) := by
  subst hp; exact k.go fun _ q => XS.istoreN X.here hx rfl hd rfl hl q
theorem g_istore (X : Stand p l e R s m args below meth c T locs cells slots) (hx : p.tables.exec = Jvm.exec) {k : Nat} {x : Int32} (hd : decode c.code pc = .ok (.istore k, 2)) (hl : storeLocals Ls k (.int x) = some Ls') (hp : pc + 2 = pc')
    (k : Goes p e s below Q n0 C N T (mkF m pc' Ls' (st))) : Goes p e s below Q n0 C N T (mkF m pc Ls (.int x :: st)) := by
  subst hp; exact k.go fun _ q => XS.istore X.here hx rfl hd rfl hl q
theorem g_lstoreN (X : Stand p l e R s m args below meth c T locs cells slots) (hx : p.tables.exec = Jvm.exec) {k : Fin 4} {x : Int64} (hd : decode c.code pc = .ok (.lstore_n k, 1)) (hl : storeLocals Ls k.val (.long x) = some Ls') (hp : pc + 1 = pc')
    (k : Goes p e s below Q n0 C N T (mkF m pc' Ls' (st))) : Goes p e s below Q n0 C N T (mkF m pc Ls (.long x :: st)) := by
  subst hp; exact k.go fun _ q => XT.lstoreN X.here hx rfl hd rfl hl q
theorem g_lstore (X : Stand p l e R s m args below meth c T locs cells slots) (hx : p.tables.exec = Jvm.exec) {k : Nat} {x : Int64} (hd : decode c.code pc = .ok (.lstore k, 2)) (hl : storeLocals Ls k (.long x) = some Ls') (hp : pc + 2 = pc')
    (k : Goes p e s below Q n0 C N T (mkF m pc' Ls' (st))) : Goes p e s below Q n0 C N T (mkF m pc Ls (.long x :: st)) := by
  subst hp; exact k.go fun _ q => XT.lstore X.here hx rfl hd rfl hl q
theorem g_astoreN (X : Stand p l e R s m args below meth c T locs cells slots) (hx : p.tables.exec = Jvm.exec) {k : Fin 4} {x : Value} (hd : decode c.code pc = .ok (.astore_n k, 1)) (hv : x.isRef = true) (hl : storeLocals Ls k.val x = some Ls') (hp : pc + 1 = pc')
    (k : Goes p e s below Q n0 C N T (mkF m pc' Ls' (st))) : Goes p e s below Q n0 C N T (mkF m pc Ls (x :: st)) := by
  subst hp; exact k.go fun _ q => XS.astoreN X.here hx rfl hd rfl hv hl q
theorem g_astore (X : Stand p l e R s m args below meth c T locs cells slots) (hx : p.tables.exec = Jvm.exec) {k : Nat} {x : Value} (hd : decode c.code pc = .ok (.astore k, 2)) (hv : x.isRef = true) (hl : storeLocals Ls k x = some Ls') (hp : pc + 2 = pc')
    (k : Goes p e s below Q n0 C N T (mkF m pc' Ls' (st))) : Goes p e s below Q n0 C N T (mkF m pc Ls (x :: st)) := by
  subst hp; exact k.go fun _ q => XS.astore X.here hx rfl hd rfl hv hl q
theorem g_iinc (X : Stand p l e R s m args below meth c T locs cells slots) (hx : p.tables.exec = Jvm.exec) {k : Nat} {cst : Int} {x v : Int32} (hd : decode c.code pc = .ok (.iinc k cst, 3)) (hv : Int32.ofInt cst = v) (hl : Ls[k]? = some (.val (.int x))) (hl' : storeLocals Ls k (.int (x + v)) = some Ls') (hp : pc + 3 = pc')
    (k : Goes p e s below Q n0 C N T (mkF m pc' Ls' (st))) : Goes p e s below Q n0 C N T (mkF m pc Ls (st)) := by
  subst hp; exact k.go fun _ q => XT.iincV X.here hx rfl v hd hv hl hl' q
theorem g_iconst (X : Stand p l e R s m args below meth c T locs cells slots) (hx : p.tables.exec = Jvm.exec) {i : Int} {v : Int32} (hd : decode c.code pc = .ok (.iconst i, 1)) (hv : Int32.ofInt i = v) (hp : pc + 1 = pc')
    (k : Goes p e s below Q n0 C N T (mkF m pc' Ls (.int v :: st))) : Goes p e s below Q n0 C N T (mkF m pc Ls (st)) := by
  subst hp; exact k.go fun _ q => XT.iconstV X.here hx rfl v hd hv q
theorem g_bipush (X : Stand p l e R s m args below meth c T locs cells slots) (hx : p.tables.exec = Jvm.exec) {i : Int} {v : Int32} (hd : decode c.code pc = .ok (.bipush i, 2)) (hv : (Int8.ofInt i).toInt32 = v) (hp : pc + 2 = pc')
    (k : Goes p e s below Q n0 C N T (mkF m pc' Ls (.int v :: st))) : Goes p e s below Q n0 C N T (mkF m pc Ls (st)) := by
  subst hp; exact k.go fun _ q => XT.bipushV X.here hx rfl v hd hv q
theorem g_sipush (X : Stand p l e R s m args below meth c T locs cells slots) (hx : p.tables.exec = Jvm.exec) {i : Int} {v : Int32} (hd : decode c.code pc = .ok (.sipush i, 3)) (hv : (Int16.ofInt i).toInt32 = v) (hp : pc + 3 = pc')
    (k : Goes p e s below Q n0 C N T (mkF m pc' Ls (.int v :: st))) : Goes p e s below Q n0 C N T (mkF m pc Ls (st)) := by
  subst hp; exact k.go fun _ q => XT.sipushV X.here hx rfl v hd hv q
theorem g_lconst (X : Stand p l e R s m args below meth c T locs cells slots) (hx : p.tables.exec = Jvm.exec) {k : Fin 2} {v : Int64} (hd : decode c.code pc = .ok (.lconst k, 1)) (hv : Int64.ofNat k = v) (hp : pc + 1 = pc')
    (k : Goes p e s below Q n0 C N T (mkF m pc' Ls (.long v :: st))) : Goes p e s below Q n0 C N T (mkF m pc Ls (st)) := by
  subst hp; exact k.go fun _ q => XT.lconstV X.here hx rfl v hd hv q
theorem g_null (X : Stand p l e R s m args below meth c T locs cells slots) (hx : p.tables.exec = Jvm.exec)  (hd : decode c.code pc = .ok (.aconst_null, 1))  (hp : pc + 1 = pc')
    (k : Goes p e s below Q n0 C N T (mkF m pc' Ls (.null :: st))) : Goes p e s below Q n0 C N T (mkF m pc Ls (st)) := by
  subst hp; exact k.go fun _ q => XS.aconstNull X.here hx rfl hd q
theorem g_ldc (X : Stand p l e R s m args below meth c T locs cells slots) (hx : p.tables.exec = Jvm.exec) (hZ : Z.Warmed39 s.vm) {own : String} {i : Nat} (hown : s.vm.findClass own = some m.cls) {v : Int32} (hd : decode c.code pc = .ok (.ldc i, 2)) (w : (Cond.constant own i v).before a0 Z = true) (hp : pc + 2 = pc')
    (k : Goes p e s below Q n0 C N T (mkF m pc' Ls (.int v :: st))) : Goes p e s below Q n0 C N T (mkF m pc Ls (st)) := by
  subst hp; exact k.go fun _ q => X.ldcI hx hown (mvT hZ w) rfl hd q
theorem g_ldcW (X : Stand p l e R s m args below meth c T locs cells slots) (hx : p.tables.exec = Jvm.exec) (hZ : Z.Warmed39 s.vm) {own : String} {i : Nat} (hown : s.vm.findClass own = some m.cls) {v : Int32} (hd : decode c.code pc = .ok (.ldc_w i, 3)) (w : (Cond.constant own i v).before a0 Z = true) (hp : pc + 3 = pc')
    (k : Goes p e s below Q n0 C N T (mkF m pc' Ls (.int v :: st))) : Goes p e s below Q n0 C N T (mkF m pc Ls (st)) := by
  subst hp; exact k.go fun _ q => X.ldcWI hx hown (mvT hZ w) rfl hd q
theorem g_ldc2 (X : Stand p l e R s m args below meth c T locs cells slots) (hx : p.tables.exec = Jvm.exec) (hZ : Z.Warmed39 s.vm) {own : String} {i : Nat} (hown : s.vm.findClass own = some m.cls) {v : Int64} (hd : decode c.code pc = .ok (.ldc2_w i, 3)) (w : (Cond.constantLong own i v).before a0 Z = true) (hp : pc + 3 = pc')
    (k : Goes p e s below Q n0 C N T (mkF m pc' Ls (.long v :: st))) : Goes p e s below Q n0 C N T (mkF m pc Ls (st)) := by
  subst hp; exact k.go fun _ q => X.ldc2J hx hown (mvT hZ w) rfl hd q
theorem g_iadd (X : Stand p l e R s m args below meth c T locs cells slots) (hx : p.tables.exec = Jvm.exec) {x y : Int32} (hd : decode c.code pc = .ok (.iadd, 1))  (hp : pc + 1 = pc')
    (k : Goes p e s below Q n0 C N T (mkF m pc' Ls (.int (x + y) :: st))) : Goes p e s below Q n0 C N T (mkF m pc Ls (.int y :: .int x :: st)) := by
  subst hp; exact k.go fun _ q => XS.iadd X.here hx rfl hd rfl q
theorem g_isub (X : Stand p l e R s m args below meth c T locs cells slots) (hx : p.tables.exec = Jvm.exec) {x y : Int32} (hd : decode c.code pc = .ok (.isub, 1))  (hp : pc + 1 = pc')
    (k : Goes p e s below Q n0 C N T (mkF m pc' Ls (.int (x - y) :: st))) : Goes p e s below Q n0 C N T (mkF m pc Ls (.int y :: .int x :: st)) := by
  subst hp; exact k.go fun _ q => XS.isub X.here hx rfl hd rfl q
theorem g_iand (X : Stand p l e R s m args below meth c T locs cells slots) (hx : p.tables.exec = Jvm.exec) {x y : Int32} (hd : decode c.code pc = .ok (.iand, 1))  (hp : pc + 1 = pc')
    (k : Goes p e s below Q n0 C N T (mkF m pc' Ls (.int (x &&& y) :: st))) : Goes p e s below Q n0 C N T (mkF m pc Ls (.int y :: .int x :: st)) := by
  subst hp; exact k.go fun _ q => XS.iand X.here hx rfl hd rfl q
theorem g_imul (X : Stand p l e R s m args below meth c T locs cells slots) (hx : p.tables.exec = Jvm.exec) {x y : Int32} (hd : decode c.code pc = .ok (.imul, 1))  (hp : pc + 1 = pc')
    (k : Goes p e s below Q n0 C N T (mkF m pc' Ls (.int (x * y) :: st))) : Goes p e s below Q n0 C N T (mkF m pc Ls (.int y :: .int x :: st)) := by
  subst hp; exact k.go fun _ q => XS.imul X.here hx rfl hd rfl q
theorem g_ior (X : Stand p l e R s m args below meth c T locs cells slots) (hx : p.tables.exec = Jvm.exec) {x y : Int32} (hd : decode c.code pc = .ok (.ior, 1))  (hp : pc + 1 = pc')
    (k : Goes p e s below Q n0 C N T (mkF m pc' Ls (.int (x ||| y) :: st))) : Goes p e s below Q n0 C N T (mkF m pc Ls (.int y :: .int x :: st)) := by
  subst hp; exact k.go fun _ q => XT.ior X.here hx rfl hd rfl q
theorem g_ixor (X : Stand p l e R s m args below meth c T locs cells slots) (hx : p.tables.exec = Jvm.exec) {x y : Int32} (hd : decode c.code pc = .ok (.ixor, 1))  (hp : pc + 1 = pc')
    (k : Goes p e s below Q n0 C N T (mkF m pc' Ls (.int (x ^^^ y) :: st))) : Goes p e s below Q n0 C N T (mkF m pc Ls (.int y :: .int x :: st)) := by
  subst hp; exact k.go fun _ q => XT.ixor X.here hx rfl hd rfl q
theorem g_ishl (X : Stand p l e R s m args below meth c T locs cells slots) (hx : p.tables.exec = Jvm.exec) {x y : Int32} (hd : decode c.code pc = .ok (.ishl, 1))  (hp : pc + 1 = pc')
    (k : Goes p e s below Q n0 C N T (mkF m pc' Ls (.int (x <<< (y &&& 31)) :: st))) : Goes p e s below Q n0 C N T (mkF m pc Ls (.int y :: .int x :: st)) := by
  subst hp; exact k.go fun _ q => XT.ishl X.here hx rfl hd rfl q
theorem g_ishr (X : Stand p l e R s m args below meth c T locs cells slots) (hx : p.tables.exec = Jvm.exec) {x y : Int32} (hd : decode c.code pc = .ok (.ishr, 1))  (hp : pc + 1 = pc')
    (k : Goes p e s below Q n0 C N T (mkF m pc' Ls (.int (x >>> (y &&& 31)) :: st))) : Goes p e s below Q n0 C N T (mkF m pc Ls (.int y :: .int x :: st)) := by
  subst hp; exact k.go fun _ q => XT.ishr X.here hx rfl hd rfl q
theorem g_iushr (X : Stand p l e R s m args below meth c T locs cells slots) (hx : p.tables.exec = Jvm.exec) {x y : Int32} (hd : decode c.code pc = .ok (.iushr, 1))  (hp : pc + 1 = pc')
    (k : Goes p e s below Q n0 C N T (mkF m pc' Ls (.int (XT.ushr x y) :: st))) : Goes p e s below Q n0 C N T (mkF m pc Ls (.int y :: .int x :: st)) := by
  subst hp; exact k.go fun _ q => XT.iushr X.here hx rfl hd rfl q
theorem g_ineg (X : Stand p l e R s m args below meth c T locs cells slots) (hx : p.tables.exec = Jvm.exec) {x : Int32} (hd : decode c.code pc = .ok (.ineg, 1))  (hp : pc + 1 = pc')
    (k : Goes p e s below Q n0 C N T (mkF m pc' Ls (.int (-x) :: st))) : Goes p e s below Q n0 C N T (mkF m pc Ls (.int x :: st)) := by
  subst hp; exact k.go fun _ q => XS.ineg X.here hx rfl hd rfl q
theorem g_idiv (X : Stand p l e R s m args below meth c T locs cells slots) (hx : p.tables.exec = Jvm.exec) {x y : Int32} (hd : decode c.code pc = .ok (.idiv, 1)) (hy : y ≠ 0) (hp : pc + 1 = pc')
    (k : Goes p e s below Q n0 C N T (mkF m pc' Ls (.int (x / y) :: st))) : Goes p e s below Q n0 C N T (mkF m pc Ls (.int y :: .int x :: st)) := by
  subst hp; exact k.go fun _ q => XS.idiv X.here hx rfl hd rfl hy q
theorem g_irem (X : Stand p l e R s m args below meth c T locs cells slots) (hx : p.tables.exec = Jvm.exec) {x y : Int32} (hd : decode c.code pc = .ok (.irem, 1)) (hy : y ≠ 0) (hp : pc + 1 = pc')
    (k : Goes p e s below Q n0 C N T (mkF m pc' Ls (.int (x % y) :: st))) : Goes p e s below Q n0 C N T (mkF m pc Ls (.int y :: .int x :: st)) := by
  subst hp; exact k.go fun _ q => iremM X hx rfl hd rfl hy q
theorem g_ladd (X : Stand p l e R s m args below meth c T locs cells slots) (hx : p.tables.exec = Jvm.exec) {x y : Int64} (hd : decode c.code pc = .ok (.ladd, 1))  (hp : pc + 1 = pc')
    (k : Goes p e s below Q n0 C N T (mkF m pc' Ls (.long (x + y) :: st))) : Goes p e s below Q n0 C N T (mkF m pc Ls (.long y :: .long x :: st)) := by
  subst hp; exact k.go fun _ q => XT.ladd X.here hx rfl hd rfl q
theorem g_lsub (X : Stand p l e R s m args below meth c T locs cells slots) (hx : p.tables.exec = Jvm.exec) {x y : Int64} (hd : decode c.code pc = .ok (.lsub, 1))  (hp : pc + 1 = pc')
    (k : Goes p e s below Q n0 C N T (mkF m pc' Ls (.long (x - y) :: st))) : Goes p e s below Q n0 C N T (mkF m pc Ls (.long y :: .long x :: st)) := by
  subst hp; exact k.go fun _ q => XT.lsub X.here hx rfl hd rfl q
theorem g_lmul (X : Stand p l e R s m args below meth c T locs cells slots) (hx : p.tables.exec = Jvm.exec) {x y : Int64} (hd : decode c.code pc = .ok (.lmul, 1))  (hp : pc + 1 = pc')
    (k : Goes p e s below Q n0 C N T (mkF m pc' Ls (.long (x * y) :: st))) : Goes p e s below Q n0 C N T (mkF m pc Ls (.long y :: .long x :: st)) := by
  subst hp; exact k.go fun _ q => XT.lmul X.here hx rfl hd rfl q
theorem g_land (X : Stand p l e R s m args below meth c T locs cells slots) (hx : p.tables.exec = Jvm.exec) {x y : Int64} (hd : decode c.code pc = .ok (.land, 1))  (hp : pc + 1 = pc')
    (k : Goes p e s below Q n0 C N T (mkF m pc' Ls (.long (x &&& y) :: st))) : Goes p e s below Q n0 C N T (mkF m pc Ls (.long y :: .long x :: st)) := by
  subst hp; exact k.go fun _ q => XT.land X.here hx rfl hd rfl q
theorem g_lor (X : Stand p l e R s m args below meth c T locs cells slots) (hx : p.tables.exec = Jvm.exec) {x y : Int64} (hd : decode c.code pc = .ok (.lor, 1))  (hp : pc + 1 = pc')
    (k : Goes p e s below Q n0 C N T (mkF m pc' Ls (.long (x ||| y) :: st))) : Goes p e s below Q n0 C N T (mkF m pc Ls (.long y :: .long x :: st)) := by
  subst hp; exact k.go fun _ q => XT.lor X.here hx rfl hd rfl q
theorem g_lxor (X : Stand p l e R s m args below meth c T locs cells slots) (hx : p.tables.exec = Jvm.exec) {x y : Int64} (hd : decode c.code pc = .ok (.lxor, 1))  (hp : pc + 1 = pc')
    (k : Goes p e s below Q n0 C N T (mkF m pc' Ls (.long (x ^^^ y) :: st))) : Goes p e s below Q n0 C N T (mkF m pc Ls (.long y :: .long x :: st)) := by
  subst hp; exact k.go fun _ q => XT.lxor X.here hx rfl hd rfl q
theorem g_lshl (X : Stand p l e R s m args below meth c T locs cells slots) (hx : p.tables.exec = Jvm.exec) {x : Int64} {y : Int32} (hd : decode c.code pc = .ok (.lshl, 1))  (hp : pc + 1 = pc')
    (k : Goes p e s below Q n0 C N T (mkF m pc' Ls (.long (x <<< (y.toInt64 &&& 63)) :: st))) : Goes p e s below Q n0 C N T (mkF m pc Ls (.int y :: .long x :: st)) := by
  subst hp; exact k.go fun _ q => XT.lshl X.here hx rfl hd rfl q
theorem g_lshr (X : Stand p l e R s m args below meth c T locs cells slots) (hx : p.tables.exec = Jvm.exec) {x : Int64} {y : Int32} (hd : decode c.code pc = .ok (.lshr, 1))  (hp : pc + 1 = pc')
    (k : Goes p e s below Q n0 C N T (mkF m pc' Ls (.long (x >>> (y.toInt64 &&& 63)) :: st))) : Goes p e s below Q n0 C N T (mkF m pc Ls (.int y :: .long x :: st)) := by
  subst hp; exact k.go fun _ q => XT.lshr X.here hx rfl hd rfl q
theorem g_lushr (X : Stand p l e R s m args below meth c T locs cells slots) (hx : p.tables.exec = Jvm.exec) {x : Int64} {y : Int32} (hd : decode c.code pc = .ok (.lushr, 1))  (hp : pc + 1 = pc')
    (k : Goes p e s below Q n0 C N T (mkF m pc' Ls (.long (XT.ushrL x y) :: st))) : Goes p e s below Q n0 C N T (mkF m pc Ls (.int y :: .long x :: st)) := by
  subst hp; exact k.go fun _ q => XT.lushr X.here hx rfl hd rfl q
theorem g_ldiv (X : Stand p l e R s m args below meth c T locs cells slots) (hx : p.tables.exec = Jvm.exec) {x y : Int64} (hd : decode c.code pc = .ok (.ldiv, 1)) (hy : y ≠ 0) (hp : pc + 1 = pc')
    (k : Goes p e s below Q n0 C N T (mkF m pc' Ls (.long (x / y) :: st))) : Goes p e s below Q n0 C N T (mkF m pc Ls (.long y :: .long x :: st)) := by
  subst hp; exact k.go fun _ q => XT.ldiv X.here hx rfl hd rfl hy q
theorem g_lrem (X : Stand p l e R s m args below meth c T locs cells slots) (hx : p.tables.exec = Jvm.exec) {x y : Int64} (hd : decode c.code pc = .ok (.lrem, 1)) (hy : y ≠ 0) (hp : pc + 1 = pc')
    (k : Goes p e s below Q n0 C N T (mkF m pc' Ls (.long (x - (x / y) * y) :: st))) : Goes p e s below Q n0 C N T (mkF m pc Ls (.long y :: .long x :: st)) := by
  subst hp; exact k.go fun _ q => XT.lrem X.here hx rfl hd rfl hy q
theorem g_lneg (X : Stand p l e R s m args below meth c T locs cells slots) (hx : p.tables.exec = Jvm.exec) {x : Int64} (hd : decode c.code pc = .ok (.lneg, 1))  (hp : pc + 1 = pc')
    (k : Goes p e s below Q n0 C N T (mkF m pc' Ls (.long (-x) :: st))) : Goes p e s below Q n0 C N T (mkF m pc Ls (.long x :: st)) := by
  subst hp; exact k.go fun _ q => XT.lneg X.here hx rfl hd rfl q
theorem g_i2l (X : Stand p l e R s m args below meth c T locs cells slots) (hx : p.tables.exec = Jvm.exec) {x : Int32} (hd : decode c.code pc = .ok (.i2l, 1))  (hp : pc + 1 = pc')
    (k : Goes p e s below Q n0 C N T (mkF m pc' Ls (.long x.toInt64 :: st))) : Goes p e s below Q n0 C N T (mkF m pc Ls (.int x :: st)) := by
  subst hp; exact k.go fun _ q => XT.i2l X.here hx rfl hd rfl q
theorem g_l2i (X : Stand p l e R s m args below meth c T locs cells slots) (hx : p.tables.exec = Jvm.exec) {x : Int64} (hd : decode c.code pc = .ok (.l2i, 1))  (hp : pc + 1 = pc')
    (k : Goes p e s below Q n0 C N T (mkF m pc' Ls (.int x.toInt32 :: st))) : Goes p e s below Q n0 C N T (mkF m pc Ls (.long x :: st)) := by
  subst hp; exact k.go fun _ q => XT.l2i X.here hx rfl hd rfl q
theorem g_i2b (X : Stand p l e R s m args below meth c T locs cells slots) (hx : p.tables.exec = Jvm.exec) {x : Int32} (hd : decode c.code pc = .ok (.i2b, 1))  (hp : pc + 1 = pc')
    (k : Goes p e s below Q n0 C N T (mkF m pc' Ls (.int x.toInt8.toInt32 :: st))) : Goes p e s below Q n0 C N T (mkF m pc Ls (.int x :: st)) := by
  subst hp; exact k.go fun _ q => XT.i2b X.here hx rfl hd rfl q
theorem g_dup (X : Stand p l e R s m args below meth c T locs cells slots) (hx : p.tables.exec = Jvm.exec) {v : Value} (hd : decode c.code pc = .ok (.dup, 1)) (hc : v.category = 1) (hp : pc + 1 = pc')
    (k : Goes p e s below Q n0 C N T (mkF m pc' Ls (v :: v :: st))) : Goes p e s below Q n0 C N T (mkF m pc Ls (v :: st)) := by
  subst hp; exact k.go fun _ q => XS.dup X.here hx rfl hd rfl hc q
theorem g_pop (X : Stand p l e R s m args below meth c T locs cells slots) (hx : p.tables.exec = Jvm.exec) {v : Value} (hd : decode c.code pc = .ok (.pop, 1)) (hc : v.category = 1) (hp : pc + 1 = pc')
    (k : Goes p e s below Q n0 C N T (mkF m pc' Ls (st))) : Goes p e s below Q n0 C N T (mkF m pc Ls (v :: st)) := by
  subst hp; exact k.go fun _ q => XT.pop X.here hx rfl hd rfl hc q
theorem g_dupX1 (X : Stand p l e R s m args below meth c T locs cells slots) (hx : p.tables.exec = Jvm.exec) {v w : Value} (hd : decode c.code pc = .ok (.dup_x1, 1)) (hc : v.category = 1) (hc' : w.category = 1) (hp : pc + 1 = pc')
    (k : Goes p e s below Q n0 C N T (mkF m pc' Ls (v :: w :: v :: st))) : Goes p e s below Q n0 C N T (mkF m pc Ls (v :: w :: st)) := by
  subst hp; exact k.go fun _ q => XT.dupX1 X.here hx rfl hd rfl hc hc' q
theorem g_dup2 (X : Stand p l e R s m args below meth c T locs cells slots) (hx : p.tables.exec = Jvm.exec) {v w : Value} (hd : decode c.code pc = .ok (.dup2, 1)) (hc : v.category = 1) (hc' : w.category = 1) (hp : pc + 1 = pc')
    (k : Goes p e s below Q n0 C N T (mkF m pc' Ls (v :: w :: v :: w :: st))) : Goes p e s below Q n0 C N T (mkF m pc Ls (v :: w :: st)) := by
  subst hp; exact k.go fun _ q => XT.dup2 X.here hx rfl hd rfl hc hc' q
theorem g_dup2L (X : Stand p l e R s m args below meth c T locs cells slots) (hx : p.tables.exec = Jvm.exec) {x : Int64} (hd : decode c.code pc = .ok (.dup2, 1))  (hp : pc + 1 = pc')
    (k : Goes p e s below Q n0 C N T (mkF m pc' Ls (.long x :: .long x :: st))) : Goes p e s below Q n0 C N T (mkF m pc Ls (.long x :: st)) := by
  subst hp; exact k.go fun _ q => XT.dup2L X.here hx rfl hd rfl q
theorem g_goto (X : Stand p l e R s m args below meth c T locs cells slots) (hx : p.tables.exec = Jvm.exec) {o : Int} (hd : decode c.code pc = .ok (.goto o, 3)) (ho : 0 ≤ (pc : Int) + o) (hp : ((pc : Int) + o).toNat = pc')
    (k : Goes p e s below Q n0 C N T (mkF m pc' Ls st)) : Goes p e s below Q n0 C N T (mkF m pc Ls st) := k.go fun _ q => XS.goto X.here hx rfl rfl hd ho hp q
theorem g_ii_eq (X : Stand p l e R s m args below meth c T locs cells slots) (hx : p.tables.exec = Jvm.exec) {o : Int} {x y : Int32} {a b : Int} (ha : x.toInt = a) (hb : y.toInt = b) (hd : decode c.code pc = .ok (.if_icmp .eq o, 3)) (ho : 0 ≤ (pc : Int) + o) (hp : ((pc : Int) + o).toNat = pc') {pc2 : Nat} (hp2 : pc + 3 = pc2)
    (kt : a = b → Goes p e s below Q n0 C N T (mkF m pc' Ls st)) (kf : ¬ a = b → Goes p e s below Q n0 C N T (mkF m pc2 Ls st)) : Goes p e s below Q n0 C N T (mkF m pc Ls (.int y :: .int x :: st)) := by
  subst ha hb hp2
  have hw : x = y ↔ x.toInt = y.toInt := Int32.toInt_inj.symm
  by_cases hq : x = y
  · exact (kt (hw.mp hq)).go fun _ q => XS.icmpYes X.here hx rfl rfl hd rfl (XT.ii_eq_t hq) ho hp q
  · exact (kf fun z => hq (hw.mpr z)).go fun _ q => XS.icmpNo X.here hx rfl hd rfl (XT.ii_eq_f hq) q
theorem g_ll_eq (X : Stand p l e R s m args below meth c T locs cells slots) (hx : p.tables.exec = Jvm.exec) {o : Int} {x y : Int64} {a b : Int} (ha : x.toInt = a) (hb : y.toInt = b) (hd1 : decode c.code pc = .ok (.lcmp, 1)) {pc1 : Nat} (hp1 : pc + 1 = pc1) (hd : decode c.code pc1 = .ok (.ifCond .eq o, 3)) (ho : 0 ≤ (pc1 : Int) + o) (hp : ((pc1 : Int) + o).toNat = pc') {pc2 : Nat} (hp2 : pc1 + 3 = pc2)
    (kt : a = b → Goes p e s below Q n0 C N T (mkF m pc' Ls st)) (kf : ¬ a = b → Goes p e s below Q n0 C N T (mkF m pc2 Ls st)) : Goes p e s below Q n0 C N T (mkF m pc Ls (.long y :: .long x :: st)) := by
  subst ha hb hp1 hp2
  refine Goes.go (g' := mkF m (pc + 1) Ls (.int (XT.cmpL x y) :: st)) (fun _ q => XT.lcmp X.here hx rfl hd1 rfl q) ?_
  have hw : x = y ↔ x.toInt = y.toInt := Int64.toInt_inj.symm
  by_cases hq : x = y
  · exact (kt (hw.mp hq)).go fun _ q => XS.ifYes X.here hx rfl rfl hd rfl (XT.ll_eq_t hq) ho hp q
  · exact (kf fun z => hq (hw.mpr z)).go fun _ q => XS.ifNo X.here hx rfl hd rfl (XT.ll_eq_f hq) q
theorem g_i0_eq (X : Stand p l e R s m args below meth c T locs cells slots) (hx : p.tables.exec = Jvm.exec) {o : Int} {x : Int32} {a : Int} (ha : x.toInt = a) (hd : decode c.code pc = .ok (.ifCond .eq o, 3)) (ho : 0 ≤ (pc : Int) + o) (hp : ((pc : Int) + o).toNat = pc') {pc2 : Nat} (hp2 : pc + 3 = pc2)
    (kt : a = 0 → Goes p e s below Q n0 C N T (mkF m pc' Ls st)) (kf : ¬ a = 0 → Goes p e s below Q n0 C N T (mkF m pc2 Ls st)) : Goes p e s below Q n0 C N T (mkF m pc Ls (.int x :: st)) := by
  subst ha hp2
  have hw : x = 0 ↔ x.toInt = 0 := ⟨fun z => by rw [z]; rfl, fun z => Int32.toInt_inj.mp (z.trans rfl)⟩
  by_cases hq : x = 0
  · exact (kt (hw.mp hq)).go fun _ q => XS.ifYes X.here hx rfl rfl hd rfl (XT.i0_eq_t hq) ho hp q
  · exact (kf fun z => hq (hw.mpr z)).go fun _ q => XS.ifNo X.here hx rfl hd rfl (XT.i0_eq_f hq) q
theorem g_ii_ne (X : Stand p l e R s m args below meth c T locs cells slots) (hx : p.tables.exec = Jvm.exec) {o : Int} {x y : Int32} {a b : Int} (ha : x.toInt = a) (hb : y.toInt = b) (hd : decode c.code pc = .ok (.if_icmp .ne o, 3)) (ho : 0 ≤ (pc : Int) + o) (hp : ((pc : Int) + o).toNat = pc') {pc2 : Nat} (hp2 : pc + 3 = pc2)
    (kt : ¬ a = b → Goes p e s below Q n0 C N T (mkF m pc' Ls st)) (kf : a = b → Goes p e s below Q n0 C N T (mkF m pc2 Ls st)) : Goes p e s below Q n0 C N T (mkF m pc Ls (.int y :: .int x :: st)) := by
  subst ha hb hp2
  have hw : x = y ↔ x.toInt = y.toInt := Int32.toInt_inj.symm
  by_cases hq : x = y
  · exact (kf (hw.mp hq)).go fun _ q => XS.icmpNo X.here hx rfl hd rfl (XT.ii_ne_f hq) q
  · exact (kt fun z => hq (hw.mpr z)).go fun _ q => XS.icmpYes X.here hx rfl rfl hd rfl (XT.ii_ne_t hq) ho hp q
theorem g_ll_ne (X : Stand p l e R s m args below meth c T locs cells slots) (hx : p.tables.exec = Jvm.exec) {o : Int} {x y : Int64} {a b : Int} (ha : x.toInt = a) (hb : y.toInt = b) (hd1 : decode c.code pc = .ok (.lcmp, 1)) {pc1 : Nat} (hp1 : pc + 1 = pc1) (hd : decode c.code pc1 = .ok (.ifCond .ne o, 3)) (ho : 0 ≤ (pc1 : Int) + o) (hp : ((pc1 : Int) + o).toNat = pc') {pc2 : Nat} (hp2 : pc1 + 3 = pc2)
    (kt : ¬ a = b → Goes p e s below Q n0 C N T (mkF m pc' Ls st)) (kf : a = b → Goes p e s below Q n0 C N T (mkF m pc2 Ls st)) : Goes p e s below Q n0 C N T (mkF m pc Ls (.long y :: .long x :: st)) := by
  subst ha hb hp1 hp2
  refine Goes.go (g' := mkF m (pc + 1) Ls (.int (XT.cmpL x y) :: st)) (fun _ q => XT.lcmp X.here hx rfl hd1 rfl q) ?_
  have hw : x = y ↔ x.toInt = y.toInt := Int64.toInt_inj.symm
  by_cases hq : x = y
  · exact (kf (hw.mp hq)).go fun _ q => XS.ifNo X.here hx rfl hd rfl (XT.ll_ne_f hq) q
  · exact (kt fun z => hq (hw.mpr z)).go fun _ q => XS.ifYes X.here hx rfl rfl hd rfl (XT.ll_ne_t hq) ho hp q
theorem g_i0_ne (X : Stand p l e R s m args below meth c T locs cells slots) (hx : p.tables.exec = Jvm.exec) {o : Int} {x : Int32} {a : Int} (ha : x.toInt = a) (hd : decode c.code pc = .ok (.ifCond .ne o, 3)) (ho : 0 ≤ (pc : Int) + o) (hp : ((pc : Int) + o).toNat = pc') {pc2 : Nat} (hp2 : pc + 3 = pc2)
    (kt : ¬ a = 0 → Goes p e s below Q n0 C N T (mkF m pc' Ls st)) (kf : a = 0 → Goes p e s below Q n0 C N T (mkF m pc2 Ls st)) : Goes p e s below Q n0 C N T (mkF m pc Ls (.int x :: st)) := by
  subst ha hp2
  have hw : x = 0 ↔ x.toInt = 0 := ⟨fun z => by rw [z]; rfl, fun z => Int32.toInt_inj.mp (z.trans rfl)⟩
  by_cases hq : x = 0
  · exact (kf (hw.mp hq)).go fun _ q => XS.ifNo X.here hx rfl hd rfl (XT.i0_ne_f hq) q
  · exact (kt fun z => hq (hw.mpr z)).go fun _ q => XS.ifYes X.here hx rfl rfl hd rfl (XT.i0_ne_t hq) ho hp q
theorem g_ii_lt (X : Stand p l e R s m args below meth c T locs cells slots) (hx : p.tables.exec = Jvm.exec) {o : Int} {x y : Int32} {a b : Int} (ha : x.toInt = a) (hb : y.toInt = b) (hd : decode c.code pc = .ok (.if_icmp .lt o, 3)) (ho : 0 ≤ (pc : Int) + o) (hp : ((pc : Int) + o).toNat = pc') {pc2 : Nat} (hp2 : pc + 3 = pc2)
    (kt : a < b → Goes p e s below Q n0 C N T (mkF m pc' Ls st)) (kf : ¬ a < b → Goes p e s below Q n0 C N T (mkF m pc2 Ls st)) : Goes p e s below Q n0 C N T (mkF m pc Ls (.int y :: .int x :: st)) := by
  subst ha hb hp2
  have hw : x < y ↔ x.toInt < y.toInt := Int32.lt_iff_toInt_lt
  by_cases hq : x < y
  · exact (kt (hw.mp hq)).go fun _ q => XS.icmpYes X.here hx rfl rfl hd rfl (XT.ii_lt_t hq) ho hp q
  · exact (kf fun z => hq (hw.mpr z)).go fun _ q => XS.icmpNo X.here hx rfl hd rfl (XT.ii_lt_f hq) q
theorem g_ll_lt (X : Stand p l e R s m args below meth c T locs cells slots) (hx : p.tables.exec = Jvm.exec) {o : Int} {x y : Int64} {a b : Int} (ha : x.toInt = a) (hb : y.toInt = b) (hd1 : decode c.code pc = .ok (.lcmp, 1)) {pc1 : Nat} (hp1 : pc + 1 = pc1) (hd : decode c.code pc1 = .ok (.ifCond .lt o, 3)) (ho : 0 ≤ (pc1 : Int) + o) (hp : ((pc1 : Int) + o).toNat = pc') {pc2 : Nat} (hp2 : pc1 + 3 = pc2)
    (kt : a < b → Goes p e s below Q n0 C N T (mkF m pc' Ls st)) (kf : ¬ a < b → Goes p e s below Q n0 C N T (mkF m pc2 Ls st)) : Goes p e s below Q n0 C N T (mkF m pc Ls (.long y :: .long x :: st)) := by
  subst ha hb hp1 hp2
  refine Goes.go (g' := mkF m (pc + 1) Ls (.int (XT.cmpL x y) :: st)) (fun _ q => XT.lcmp X.here hx rfl hd1 rfl q) ?_
  have hw : x < y ↔ x.toInt < y.toInt := Int64.lt_iff_toInt_lt
  by_cases hq : x < y
  · exact (kt (hw.mp hq)).go fun _ q => XS.ifYes X.here hx rfl rfl hd rfl (XT.ll_lt_t hq) ho hp q
  · exact (kf fun z => hq (hw.mpr z)).go fun _ q => XS.ifNo X.here hx rfl hd rfl (XT.ll_lt_f hq) q
theorem g_i0_lt (X : Stand p l e R s m args below meth c T locs cells slots) (hx : p.tables.exec = Jvm.exec) {o : Int} {x : Int32} {a : Int} (ha : x.toInt = a) (hd : decode c.code pc = .ok (.ifCond .lt o, 3)) (ho : 0 ≤ (pc : Int) + o) (hp : ((pc : Int) + o).toNat = pc') {pc2 : Nat} (hp2 : pc + 3 = pc2)
    (kt : a < 0 → Goes p e s below Q n0 C N T (mkF m pc' Ls st)) (kf : ¬ a < 0 → Goes p e s below Q n0 C N T (mkF m pc2 Ls st)) : Goes p e s below Q n0 C N T (mkF m pc Ls (.int x :: st)) := by
  subst ha hp2
  have hw : x < 0 ↔ x.toInt < 0 := Int32.lt_iff_toInt_lt
  by_cases hq : x < 0
  · exact (kt (hw.mp hq)).go fun _ q => XS.ifYes X.here hx rfl rfl hd rfl (XT.i0_lt_t hq) ho hp q
  · exact (kf fun z => hq (hw.mpr z)).go fun _ q => XS.ifNo X.here hx rfl hd rfl (XT.i0_lt_f hq) q
theorem g_ii_ge (X : Stand p l e R s m args below meth c T locs cells slots) (hx : p.tables.exec = Jvm.exec) {o : Int} {x y : Int32} {a b : Int} (ha : x.toInt = a) (hb : y.toInt = b) (hd : decode c.code pc = .ok (.if_icmp .ge o, 3)) (ho : 0 ≤ (pc : Int) + o) (hp : ((pc : Int) + o).toNat = pc') {pc2 : Nat} (hp2 : pc + 3 = pc2)
    (kt : ¬ a < b → Goes p e s below Q n0 C N T (mkF m pc' Ls st)) (kf : a < b → Goes p e s below Q n0 C N T (mkF m pc2 Ls st)) : Goes p e s below Q n0 C N T (mkF m pc Ls (.int y :: .int x :: st)) := by
  subst ha hb hp2
  have hw : x < y ↔ x.toInt < y.toInt := Int32.lt_iff_toInt_lt
  by_cases hq : x < y
  · exact (kf (hw.mp hq)).go fun _ q => XS.icmpNo X.here hx rfl hd rfl (XT.ii_ge_f hq) q
  · exact (kt fun z => hq (hw.mpr z)).go fun _ q => XS.icmpYes X.here hx rfl rfl hd rfl (XT.ii_ge_t hq) ho hp q
theorem g_ll_ge (X : Stand p l e R s m args below meth c T locs cells slots) (hx : p.tables.exec = Jvm.exec) {o : Int} {x y : Int64} {a b : Int} (ha : x.toInt = a) (hb : y.toInt = b) (hd1 : decode c.code pc = .ok (.lcmp, 1)) {pc1 : Nat} (hp1 : pc + 1 = pc1) (hd : decode c.code pc1 = .ok (.ifCond .ge o, 3)) (ho : 0 ≤ (pc1 : Int) + o) (hp : ((pc1 : Int) + o).toNat = pc') {pc2 : Nat} (hp2 : pc1 + 3 = pc2)
    (kt : ¬ a < b → Goes p e s below Q n0 C N T (mkF m pc' Ls st)) (kf : a < b → Goes p e s below Q n0 C N T (mkF m pc2 Ls st)) : Goes p e s below Q n0 C N T (mkF m pc Ls (.long y :: .long x :: st)) := by
  subst ha hb hp1 hp2
  refine Goes.go (g' := mkF m (pc + 1) Ls (.int (XT.cmpL x y) :: st)) (fun _ q => XT.lcmp X.here hx rfl hd1 rfl q) ?_
  have hw : x < y ↔ x.toInt < y.toInt := Int64.lt_iff_toInt_lt
  by_cases hq : x < y
  · exact (kf (hw.mp hq)).go fun _ q => XS.ifNo X.here hx rfl hd rfl (XT.ll_ge_f hq) q
  · exact (kt fun z => hq (hw.mpr z)).go fun _ q => XS.ifYes X.here hx rfl rfl hd rfl (XT.ll_ge_t hq) ho hp q
theorem g_i0_ge (X : Stand p l e R s m args below meth c T locs cells slots) (hx : p.tables.exec = Jvm.exec) {o : Int} {x : Int32} {a : Int} (ha : x.toInt = a) (hd : decode c.code pc = .ok (.ifCond .ge o, 3)) (ho : 0 ≤ (pc : Int) + o) (hp : ((pc : Int) + o).toNat = pc') {pc2 : Nat} (hp2 : pc + 3 = pc2)
    (kt : ¬ a < 0 → Goes p e s below Q n0 C N T (mkF m pc' Ls st)) (kf : a < 0 → Goes p e s below Q n0 C N T (mkF m pc2 Ls st)) : Goes p e s below Q n0 C N T (mkF m pc Ls (.int x :: st)) := by
  subst ha hp2
  have hw : x < 0 ↔ x.toInt < 0 := Int32.lt_iff_toInt_lt
  by_cases hq : x < 0
  · exact (kf (hw.mp hq)).go fun _ q => XS.ifNo X.here hx rfl hd rfl (XT.i0_ge_f hq) q
  · exact (kt fun z => hq (hw.mpr z)).go fun _ q => XS.ifYes X.here hx rfl rfl hd rfl (XT.i0_ge_t hq) ho hp q
theorem g_ii_gt (X : Stand p l e R s m args below meth c T locs cells slots) (hx : p.tables.exec = Jvm.exec) {o : Int} {x y : Int32} {a b : Int} (ha : x.toInt = a) (hb : y.toInt = b) (hd : decode c.code pc = .ok (.if_icmp .gt o, 3)) (ho : 0 ≤ (pc : Int) + o) (hp : ((pc : Int) + o).toNat = pc') {pc2 : Nat} (hp2 : pc + 3 = pc2)
    (kt : b < a → Goes p e s below Q n0 C N T (mkF m pc' Ls st)) (kf : ¬ b < a → Goes p e s below Q n0 C N T (mkF m pc2 Ls st)) : Goes p e s below Q n0 C N T (mkF m pc Ls (.int y :: .int x :: st)) := by
  subst ha hb hp2
  have hw : y < x ↔ y.toInt < x.toInt := Int32.lt_iff_toInt_lt
  by_cases hq : y < x
  · exact (kt (hw.mp hq)).go fun _ q => XS.icmpYes X.here hx rfl rfl hd rfl (XT.ii_gt_t hq) ho hp q
  · exact (kf fun z => hq (hw.mpr z)).go fun _ q => XS.icmpNo X.here hx rfl hd rfl (XT.ii_gt_f hq) q
theorem g_ll_gt (X : Stand p l e R s m args below meth c T locs cells slots) (hx : p.tables.exec = Jvm.exec) {o : Int} {x y : Int64} {a b : Int} (ha : x.toInt = a) (hb : y.toInt = b) (hd1 : decode c.code pc = .ok (.lcmp, 1)) {pc1 : Nat} (hp1 : pc + 1 = pc1) (hd : decode c.code pc1 = .ok (.ifCond .gt o, 3)) (ho : 0 ≤ (pc1 : Int) + o) (hp : ((pc1 : Int) + o).toNat = pc') {pc2 : Nat} (hp2 : pc1 + 3 = pc2)
    (kt : b < a → Goes p e s below Q n0 C N T (mkF m pc' Ls st)) (kf : ¬ b < a → Goes p e s below Q n0 C N T (mkF m pc2 Ls st)) : Goes p e s below Q n0 C N T (mkF m pc Ls (.long y :: .long x :: st)) := by
  subst ha hb hp1 hp2
  refine Goes.go (g' := mkF m (pc + 1) Ls (.int (XT.cmpL x y) :: st)) (fun _ q => XT.lcmp X.here hx rfl hd1 rfl q) ?_
  have hw : y < x ↔ y.toInt < x.toInt := Int64.lt_iff_toInt_lt
  by_cases hq : y < x
  · exact (kt (hw.mp hq)).go fun _ q => XS.ifYes X.here hx rfl rfl hd rfl (XT.ll_gt_t hq) ho hp q
  · exact (kf fun z => hq (hw.mpr z)).go fun _ q => XS.ifNo X.here hx rfl hd rfl (XT.ll_gt_f hq) q
theorem g_i0_gt (X : Stand p l e R s m args below meth c T locs cells slots) (hx : p.tables.exec = Jvm.exec) {o : Int} {x : Int32} {a : Int} (ha : x.toInt = a) (hd : decode c.code pc = .ok (.ifCond .gt o, 3)) (ho : 0 ≤ (pc : Int) + o) (hp : ((pc : Int) + o).toNat = pc') {pc2 : Nat} (hp2 : pc + 3 = pc2)
    (kt : 0 < a → Goes p e s below Q n0 C N T (mkF m pc' Ls st)) (kf : ¬ 0 < a → Goes p e s below Q n0 C N T (mkF m pc2 Ls st)) : Goes p e s below Q n0 C N T (mkF m pc Ls (.int x :: st)) := by
  subst ha hp2
  have hw : 0 < x ↔ 0 < x.toInt := Int32.lt_iff_toInt_lt
  by_cases hq : 0 < x
  · exact (kt (hw.mp hq)).go fun _ q => XS.ifYes X.here hx rfl rfl hd rfl (XT.i0_gt_t hq) ho hp q
  · exact (kf fun z => hq (hw.mpr z)).go fun _ q => XS.ifNo X.here hx rfl hd rfl (XT.i0_gt_f hq) q
theorem g_ii_le (X : Stand p l e R s m args below meth c T locs cells slots) (hx : p.tables.exec = Jvm.exec) {o : Int} {x y : Int32} {a b : Int} (ha : x.toInt = a) (hb : y.toInt = b) (hd : decode c.code pc = .ok (.if_icmp .le o, 3)) (ho : 0 ≤ (pc : Int) + o) (hp : ((pc : Int) + o).toNat = pc') {pc2 : Nat} (hp2 : pc + 3 = pc2)
    (kt : ¬ b < a → Goes p e s below Q n0 C N T (mkF m pc' Ls st)) (kf : b < a → Goes p e s below Q n0 C N T (mkF m pc2 Ls st)) : Goes p e s below Q n0 C N T (mkF m pc Ls (.int y :: .int x :: st)) := by
  subst ha hb hp2
  have hw : y < x ↔ y.toInt < x.toInt := Int32.lt_iff_toInt_lt
  by_cases hq : y < x
  · exact (kf (hw.mp hq)).go fun _ q => XS.icmpNo X.here hx rfl hd rfl (XT.ii_le_f hq) q
  · exact (kt fun z => hq (hw.mpr z)).go fun _ q => XS.icmpYes X.here hx rfl rfl hd rfl (XT.ii_le_t hq) ho hp q
theorem g_ll_le (X : Stand p l e R s m args below meth c T locs cells slots) (hx : p.tables.exec = Jvm.exec) {o : Int} {x y : Int64} {a b : Int} (ha : x.toInt = a) (hb : y.toInt = b) (hd1 : decode c.code pc = .ok (.lcmp, 1)) {pc1 : Nat} (hp1 : pc + 1 = pc1) (hd : decode c.code pc1 = .ok (.ifCond .le o, 3)) (ho : 0 ≤ (pc1 : Int) + o) (hp : ((pc1 : Int) + o).toNat = pc') {pc2 : Nat} (hp2 : pc1 + 3 = pc2)
    (kt : ¬ b < a → Goes p e s below Q n0 C N T (mkF m pc' Ls st)) (kf : b < a → Goes p e s below Q n0 C N T (mkF m pc2 Ls st)) : Goes p e s below Q n0 C N T (mkF m pc Ls (.long y :: .long x :: st)) := by
  subst ha hb hp1 hp2
  refine Goes.go (g' := mkF m (pc + 1) Ls (.int (XT.cmpL x y) :: st)) (fun _ q => XT.lcmp X.here hx rfl hd1 rfl q) ?_
  have hw : y < x ↔ y.toInt < x.toInt := Int64.lt_iff_toInt_lt
  by_cases hq : y < x
  · exact (kf (hw.mp hq)).go fun _ q => XS.ifNo X.here hx rfl hd rfl (XT.ll_le_f hq) q
  · exact (kt fun z => hq (hw.mpr z)).go fun _ q => XS.ifYes X.here hx rfl rfl hd rfl (XT.ll_le_t hq) ho hp q
theorem g_i0_le (X : Stand p l e R s m args below meth c T locs cells slots) (hx : p.tables.exec = Jvm.exec) {o : Int} {x : Int32} {a : Int} (ha : x.toInt = a) (hd : decode c.code pc = .ok (.ifCond .le o, 3)) (ho : 0 ≤ (pc : Int) + o) (hp : ((pc : Int) + o).toNat = pc') {pc2 : Nat} (hp2 : pc + 3 = pc2)
    (kt : ¬ 0 < a → Goes p e s below Q n0 C N T (mkF m pc' Ls st)) (kf : 0 < a → Goes p e s below Q n0 C N T (mkF m pc2 Ls st)) : Goes p e s below Q n0 C N T (mkF m pc Ls (.int x :: st)) := by
  subst ha hp2
  have hw : 0 < x ↔ 0 < x.toInt := Int32.lt_iff_toInt_lt
  by_cases hq : 0 < x
  · exact (kf (hw.mp hq)).go fun _ q => XS.ifNo X.here hx rfl hd rfl (XT.i0_le_f hq) q
  · exact (kt fun z => hq (hw.mpr z)).go fun _ q => XS.ifYes X.here hx rfl rfl hd rfl (XT.i0_le_t hq) ho hp q
theorem g_ifnullYes (X : Stand p l e R s m args below meth c T locs cells slots) (hx : p.tables.exec = Jvm.exec) {o : Int} (hd : decode c.code pc = .ok (.ifnull o, 3)) (ho : 0 ≤ (pc : Int) + o) (hp : ((pc : Int) + o).toNat = pc')
    (k : Goes p e s below Q n0 C N T (mkF m pc' Ls st)) : Goes p e s below Q n0 C N T (mkF m pc Ls (.null :: st)) := k.go fun _ q => XS.ifnullYes X.here hx rfl rfl hd rfl ho hp q
theorem g_ifnullNo (X : Stand p l e R s m args below meth c T locs cells slots) (hx : p.tables.exec = Jvm.exec) {o : Int} {b : Addr} (hd : decode c.code pc = .ok (.ifnull o, 3)) (hp : pc + 3 = pc')
    (k : Goes p e s below Q n0 C N T (mkF m pc' Ls st)) : Goes p e s below Q n0 C N T (mkF m pc Ls (.ref b :: st)) := by
  subst hp; exact k.go fun _ q => XS.ifnullNo X.here hx rfl hd rfl q
theorem g_ifnonnullYes (X : Stand p l e R s m args below meth c T locs cells slots) (hx : p.tables.exec = Jvm.exec) {o : Int} {b : Addr} (hd : decode c.code pc = .ok (.ifnonnull o, 3)) (ho : 0 ≤ (pc : Int) + o) (hp : ((pc : Int) + o).toNat = pc')
    (k : Goes p e s below Q n0 C N T (mkF m pc' Ls st)) : Goes p e s below Q n0 C N T (mkF m pc Ls (.ref b :: st)) := k.go fun _ q => XT.ifnonnullYes X.here hx rfl rfl hd rfl ho hp q
theorem IA.lt {h : Heap} {a n : Nat} {f : Nat → Int32} (F : IA Z h a n f) : a < h.size := by obtain ⟨_, c, A, -⟩ := F; exact A.lt
theorem IA.ext {h h' : Heap} {a n : Nat} {f : Nat → Int32} (F : IA Z h a n f) (E : Ext h h') : IA Z h' a n f := by obtain ⟨q, c, A, r⟩ := F; exact ⟨q, c, A.ext E, r⟩
theorem IA.keep {h h' : Heap} {a n : Nat} {f : Nat → Int32} {ws : List Addr} (F : IA Z h a n f) (K : Keep h h' ws) (q : a ∉ ws) : IA Z h' a n f := by obtain ⟨q', c, A, r⟩ := F; exact ⟨q', c, ⟨K.2.1 a c A.1 q, A.2⟩, r⟩
theorem IA.other {h h' : Heap} {a b n sl : Nat} {f : Nat → Int32} {v : Value} (F : IA Z h b n f) (W : Wr h h' a sl v) (q : b ≠ a) : IA Z h' b n f := by obtain ⟨q', c, A, r⟩ := F; exact ⟨q', c, A.other W q, r⟩
theorem IA.congr {h : Heap} {a n : Nat} {f f' : Nat → Int32} (F : IA Z h a n f) (q : ∀ i, i < n → f i = f' i) : IA Z h a n f' := by obtain ⟨q', c, A, r, s⟩ := F; exact ⟨q', c, A, r, fun i hi => by rw [← q i hi]; exact s i hi⟩
theorem g_iaload (X : Stand p l e R s m args below meth c T locs cells slots) (hx : p.tables.exec = Jvm.exec) (hZ : Z.Warmed39 s.vm) (eT : T.heap = h) {a n k : Nat} {f : Nat → Int32} {j : Int32} (F : IA Z h a n f) (hj : j.toInt = (k : Int)) (hk : k < n) (hd : decode c.code pc = .ok (.iaload, 1)) (hp : pc + 1 = pc')
    (kk : Goes p e s below Q n0 C N T (mkF m pc' Ls (.int (f k) :: st))) : Goes p e s below Q n0 C N T (mkF m pc Ls (.int j :: .ref a :: st)) := by
  subst hp; obtain ⟨-, cl, A, S, H⟩ := F
  exact kk.go fun t q => X.iaload hx (by rw [eT]; exact A.1) (State.isArrayOf_alike hZ.alike A.2.1) A.2.2 (by rw [S]; exact nin hj hk) (by rw [(nclamp hj).1]; exact H k hk) (g := mkF m pc Ls (.int j :: .ref a :: st)) rfl rfl hd t q
theorem g_lenIA (X : Stand p l e R s m args below meth c T locs cells slots) (hx : p.tables.exec = Jvm.exec) (hZ : Z.Warmed39 s.vm) (eT : T.heap = h) {a n : Nat} {f : Nat → Int32} {z : Int32} (F : IA Z h a n f) (hz : z.toInt = (n : Int)) (hd : decode c.code pc = .ok (.arraylength, 1)) (hp : pc + 1 = pc')
    (kk : Goes p e s below Q n0 C N T (mkF m pc' Ls (.int z :: st))) : Goes p e s below Q n0 C N T (mkF m pc Ls (.ref a :: st)) := by
  subst hp; obtain ⟨hn, cl, A, S, H⟩ := F
  have hzz : z = cl.slots.size.toInt32 := Int32.toInt_inj.mp (by rw [S, hz, len32 hn])
  subst hzz
  exact kk.go fun t q => X.arraylength hx (by rw [eT]; exact A.1) (State.isArrayOf_alike hZ.alike A.2.1) (g := mkF m pc Ls (.ref a :: st)) rfl rfl hd t q
theorem g_iastore (X : Stand p l e R s m args below meth c T locs cells slots) (hx : p.tables.exec = Jvm.exec) (hZ : Z.Warmed39 s.vm) (eT : T.heap = h) {a n k : Nat} {f : Nat → Int32} {j : Int32} {x : Int32} (F : IA Z h a n f) (hj : j.toInt = (k : Int)) (hk : k < n) (hN : Fr n0 locs) (ha : n0 ≤ a) (hd : decode c.code pc = .ok (.iastore, 1)) (hp : pc + 1 = pc')
    (kk : ∀ T' h' locs', Stand p l e R s m args below meth c T' locs' cells slots → T'.heap = h' → Wr h h' a k (.int x) → Fr n0 locs' → IA Z h' a n (oupd f k x) → Goes p e s below Q n0 C N T' (mkF m pc' Ls st)) : Goes p e s below Q n0 C N T (mkF m pc Ls (.int x :: .int j :: .ref a :: st)) := by
  subst hp; obtain ⟨hn, cl, A, S, H⟩ := F
  obtain ⟨T', h', X', e', W', st'⟩ := stI X hx hZ eT A (j := j) (x := x) (by rw [S]; exact nin hj hk) (g := mkF m pc Ls (.int x :: .int j :: .ref a :: st)) rfl rfl hd
  rw [(nclamp hj).1] at W' X'
  refine (kk T' h' _ X' e' W' (Fr.snoc X' hN ha) ⟨hn, _, A.same W', by rw [sz_set]; exact S, fun i hi => ?_⟩).go st'
  by_cases q : i = k
  · subst q; simp [Cell.setSlot, oupd, S, hi]
  · have := H i hi
    simp only [Cell.setSlot, oupd, q, if_false]
    rw [Array.getElem?_setIfInBounds_ne (fun z => q z.symm)]; exact this
theorem g_newIA (X : Stand p l e R s m args below meth c T locs cells slots) (hx : p.tables.exec = Jvm.exec) (hZ : Z.Warmed39 s.vm) (w : (Cond.arrayClass .int).before a0 Z = true) (eT : T.heap = h) {z : Int32} {n : Nat} (hz : z.toInt = (n : Int)) {cap : Nat} (hcap : n ≤ cap) (hb : cap * 8 ≤ 536870912) (hd : decode c.code pc = .ok (.newarray .int, 2)) (hc : cells + 1 ≤ R.cells) (hl : slots + cap ≤ R.slots) (hp : pc + 2 = pc')
    (kk : ∀ T' h' a, a = h.size → Stand p l e R s m args below meth c T' locs (cells + 1) (slots + cap) → T'.heap = h' → Ext h h' → a < h'.size → IA Z h' a n zeroI → Goes p e s below Q n0 C N T' (mkF m pc' Ls (.ref a :: st))) : Goes p e s below Q n0 C N T (mkF m pc Ls (.int z :: st)) := by
  subst hp
  obtain ⟨q1, q2⟩ := nclamp hz
  obtain ⟨T', h', cA, X', e', E', A', st'⟩ := newP X hx hZ (aty := .int) w eT (g := mkF m pc Ls (.int z :: st)) rfl hd (n := z) rfl q2 (cap := cap) (by rw [q1]; exact hcap) hb hc hl
  refine (kk T' h' h.size rfl X' e' E' A'.lt ⟨?_, _, A', by rw [sz_new, q1], fun i hi => ?_⟩).go st'
  · have := z.toInt_lt; omega
  · simp only [newA, q1]; simp [hi]; rfl
theorem LA.lt {h : Heap} {a n : Nat} {f : Nat → Int64} (F : LA Z h a n f) : a < h.size := by obtain ⟨_, c, A, -⟩ := F; exact A.lt
theorem LA.ext {h h' : Heap} {a n : Nat} {f : Nat → Int64} (F : LA Z h a n f) (E : Ext h h') : LA Z h' a n f := by obtain ⟨q, c, A, r⟩ := F; exact ⟨q, c, A.ext E, r⟩
theorem LA.keep {h h' : Heap} {a n : Nat} {f : Nat → Int64} {ws : List Addr} (F : LA Z h a n f) (K : Keep h h' ws) (q : a ∉ ws) : LA Z h' a n f := by obtain ⟨q', c, A, r⟩ := F; exact ⟨q', c, ⟨K.2.1 a c A.1 q, A.2⟩, r⟩
theorem LA.other {h h' : Heap} {a b n sl : Nat} {f : Nat → Int64} {v : Value} (F : LA Z h b n f) (W : Wr h h' a sl v) (q : b ≠ a) : LA Z h' b n f := by obtain ⟨q', c, A, r⟩ := F; exact ⟨q', c, A.other W q, r⟩
theorem LA.congr {h : Heap} {a n : Nat} {f f' : Nat → Int64} (F : LA Z h a n f) (q : ∀ i, i < n → f i = f' i) : LA Z h a n f' := by obtain ⟨q', c, A, r, s⟩ := F; exact ⟨q', c, A, r, fun i hi => by rw [← q i hi]; exact s i hi⟩
theorem g_laload (X : Stand p l e R s m args below meth c T locs cells slots) (hx : p.tables.exec = Jvm.exec) (hZ : Z.Warmed39 s.vm) (eT : T.heap = h) {a n k : Nat} {f : Nat → Int64} {j : Int32} (F : LA Z h a n f) (hj : j.toInt = (k : Int)) (hk : k < n) (hd : decode c.code pc = .ok (.laload, 1)) (hp : pc + 1 = pc')
    (kk : Goes p e s below Q n0 C N T (mkF m pc' Ls (.long (f k) :: st))) : Goes p e s below Q n0 C N T (mkF m pc Ls (.int j :: .ref a :: st)) := by
  subst hp; obtain ⟨-, cl, A, S, H⟩ := F
  exact kk.go fun t q => X.laload hx (by rw [eT]; exact A.1) (State.isArrayOf_alike hZ.alike A.2.1) A.2.2 (by rw [S]; exact nin hj hk) (by rw [(nclamp hj).1]; exact H k hk) (g := mkF m pc Ls (.int j :: .ref a :: st)) rfl rfl hd t q
theorem g_lenLA (X : Stand p l e R s m args below meth c T locs cells slots) (hx : p.tables.exec = Jvm.exec) (hZ : Z.Warmed39 s.vm) (eT : T.heap = h) {a n : Nat} {f : Nat → Int64} {z : Int32} (F : LA Z h a n f) (hz : z.toInt = (n : Int)) (hd : decode c.code pc = .ok (.arraylength, 1)) (hp : pc + 1 = pc')
    (kk : Goes p e s below Q n0 C N T (mkF m pc' Ls (.int z :: st))) : Goes p e s below Q n0 C N T (mkF m pc Ls (.ref a :: st)) := by
  subst hp; obtain ⟨hn, cl, A, S, H⟩ := F
  have hzz : z = cl.slots.size.toInt32 := Int32.toInt_inj.mp (by rw [S, hz, len32 hn])
  subst hzz
  exact kk.go fun t q => X.arraylength hx (by rw [eT]; exact A.1) (State.isArrayOf_alike hZ.alike A.2.1) (g := mkF m pc Ls (.ref a :: st)) rfl rfl hd t q
theorem g_lastore (X : Stand p l e R s m args below meth c T locs cells slots) (hx : p.tables.exec = Jvm.exec) (hZ : Z.Warmed39 s.vm) (eT : T.heap = h) {a n k : Nat} {f : Nat → Int64} {j : Int32} {x : Int64} (F : LA Z h a n f) (hj : j.toInt = (k : Int)) (hk : k < n) (hN : Fr n0 locs) (ha : n0 ≤ a) (hd : decode c.code pc = .ok (.lastore, 1)) (hp : pc + 1 = pc')
    (kk : ∀ T' h' locs', Stand p l e R s m args below meth c T' locs' cells slots → T'.heap = h' → Wr h h' a k (.long x) → Fr n0 locs' → LA Z h' a n (oupd f k x) → Goes p e s below Q n0 C N T' (mkF m pc' Ls st)) : Goes p e s below Q n0 C N T (mkF m pc Ls (.long x :: .int j :: .ref a :: st)) := by
  subst hp; obtain ⟨hn, cl, A, S, H⟩ := F
  obtain ⟨T', h', X', e', W', st'⟩ := stJ X hx hZ eT A (j := j) (x := x) (by rw [S]; exact nin hj hk) (g := mkF m pc Ls (.long x :: .int j :: .ref a :: st)) rfl rfl hd
  rw [(nclamp hj).1] at W' X'
  refine (kk T' h' _ X' e' W' (Fr.snoc X' hN ha) ⟨hn, _, A.same W', by rw [sz_set]; exact S, fun i hi => ?_⟩).go st'
  by_cases q : i = k
  · subst q; simp [Cell.setSlot, oupd, S, hi]
  · have := H i hi
    simp only [Cell.setSlot, oupd, q, if_false]
    rw [Array.getElem?_setIfInBounds_ne (fun z => q z.symm)]; exact this
theorem g_newLA (X : Stand p l e R s m args below meth c T locs cells slots) (hx : p.tables.exec = Jvm.exec) (hZ : Z.Warmed39 s.vm) (w : (Cond.arrayClass .long).before a0 Z = true) (eT : T.heap = h) {z : Int32} {n : Nat} (hz : z.toInt = (n : Int)) {cap : Nat} (hcap : n ≤ cap) (hb : cap * 8 ≤ 536870912) (hd : decode c.code pc = .ok (.newarray .long, 2)) (hc : cells + 1 ≤ R.cells) (hl : slots + cap ≤ R.slots) (hp : pc + 2 = pc')
    (kk : ∀ T' h' a, a = h.size → Stand p l e R s m args below meth c T' locs (cells + 1) (slots + cap) → T'.heap = h' → Ext h h' → a < h'.size → LA Z h' a n zeroL → Goes p e s below Q n0 C N T' (mkF m pc' Ls (.ref a :: st))) : Goes p e s below Q n0 C N T (mkF m pc Ls (.int z :: st)) := by
  subst hp
  obtain ⟨q1, q2⟩ := nclamp hz
  obtain ⟨T', h', cA, X', e', E', A', st'⟩ := newP X hx hZ (aty := .long) w eT (g := mkF m pc Ls (.int z :: st)) rfl hd (n := z) rfl q2 (cap := cap) (by rw [q1]; exact hcap) hb hc hl
  refine (kk T' h' h.size rfl X' e' E' A'.lt ⟨?_, _, A', by rw [sz_new, q1], fun i hi => ?_⟩).go st'
  · have := z.toInt_lt; omega
  · simp only [newA, q1]; simp [hi]; rfl
/-! numbers -/
theorem all_succ {P : Nat → Prop} {i : Nat} (h : ∀ y, y < i → P y) (hi : P i) : ∀ y, y < i + 1 → P y := fun y hy => by
  by_cases q : y = i
  · exact q ▸ hi
  · exact h y (by omega)
theorem oupd_at {A : Type} (f : Nat → A) (j : Nat) (v : A) : oupd f j v j = v := by simp [oupd]
theorem oupd_ne {A : Type} (f : Nat → A) {i j : Nat} (v : A) (q : ¬ i = j) : oupd f j v i = f i := by simp [oupd, q]
theorem i32_of_nat (n : Nat) (hn : n < 2147483648) : (Int32.ofNat n).toInt = (n : Int) := by
  rw [Int32.toInt_ofNat']; have hsz : (Int32.size : Int) = 4294967296 := rfl; exact Int.bmod_eq_of_le (by omega) (by omega)
theorem i32_get {x : Int32} (h : 0 ≤ x.toInt) : ∃ n : Nat, x.toInt = (n : Int) ∧ n < 2147483648 := ⟨x.toInt.toNat, (Int.toNat_of_nonneg h).symm, by have := x.toInt_lt; omega⟩
theorem oupdI (f : Nat → Int32) (j i : Nat) (v : Int32) : i = j ∧ (oupd f j v i).toInt = v.toInt ∨ ¬ i = j ∧ (oupd f j v i).toInt = (f i).toInt := by
  by_cases q : i = j
  · exact Or.inl ⟨q, by simp [oupd, q]⟩
  · exact Or.inr ⟨q, by simp [oupd, q]⟩
theorem oupdL (f : Nat → Int64) (j i : Nat) (v : Int64) : i = j ∧ (oupd f j v i).toInt = v.toInt ∨ ¬ i = j ∧ (oupd f j v i).toInt = (f i).toInt := by
  by_cases q : i = j
  · exact Or.inl ⟨q, by simp [oupd, q]⟩
  · exact Or.inr ⟨q, by simp [oupd, q]⟩
end Laws
end Jvm.OwnKit

namespace Jvm.Pilot.@@N@@
open Jvm Jvm.ClassFile Sem Op Lib Jvm.Free Jvm.Stand Jvm.LawKit Jvm.RoadKit Bundle Jvm.OwnKit Jvm.Pilot.@@N@@.Jvm.D
abbrev own_start (c : Int) : Prop := (65 ≤ c ∧ c ≤ 90) ∨ c = 95 ∨ (97 ≤ c ∧ c ≤ 122) ∨ (192 ≤ c ∧ c ≤ 214) ∨ (216 ≤ c ∧ c ≤ 246) ∨ (248 ≤ c ∧ c ≤ 767) ∨ (880 ≤ c ∧ c ≤ 893) ∨ (895 ≤ c ∧ c ≤ 8191) ∨ (8204 ≤ c ∧ c ≤ 8205) ∨ (8304 ≤ c ∧ c ≤ 8591) ∨ (11264 ≤ c ∧ c ≤ 12271) ∨ (12289 ≤ c ∧ c ≤ 55295) ∨ (63744 ≤ c ∧ c ≤ 64975) ∨ (65008 ≤ c ∧ c ≤ 65533) ∨ (65536 ≤ c ∧ c ≤ 983039)
theorem d1_0 : decode prog_19_method_6_code 0 = .ok (.iload_n 0, 1) := by decide +kernel
theorem d1_1 : decode prog_19_method_6_code 1 = .ok (.bipush 65, 2) := by decide +kernel
theorem d1_3 : decode prog_19_method_6_code 3 = .ok (.if_icmp .lt 9, 3) := by decide +kernel
theorem d1_6 : decode prog_19_method_6_code 6 = .ok (.iload_n 0, 1) := by decide +kernel
theorem d1_7 : decode prog_19_method_6_code 7 = .ok (.bipush 90, 2) := by decide +kernel
theorem d1_9 : decode prog_19_method_6_code 9 = .ok (.if_icmp .le 182, 3) := by decide +kernel
theorem d1_12 : decode prog_19_method_6_code 12 = .ok (.iload_n 0, 1) := by decide +kernel
theorem d1_13 : decode prog_19_method_6_code 13 = .ok (.bipush 95, 2) := by decide +kernel
theorem d1_15 : decode prog_19_method_6_code 15 = .ok (.if_icmp .eq 176, 3) := by decide +kernel
theorem d1_18 : decode prog_19_method_6_code 18 = .ok (.iload_n 0, 1) := by decide +kernel
theorem d1_19 : decode prog_19_method_6_code 19 = .ok (.bipush 97, 2) := by decide +kernel
theorem d1_21 : decode prog_19_method_6_code 21 = .ok (.if_icmp .lt 9, 3) := by decide +kernel
theorem d1_24 : decode prog_19_method_6_code 24 = .ok (.iload_n 0, 1) := by decide +kernel
theorem d1_25 : decode prog_19_method_6_code 25 = .ok (.bipush 122, 2) := by decide +kernel
theorem d1_27 : decode prog_19_method_6_code 27 = .ok (.if_icmp .le 164, 3) := by decide +kernel
theorem d1_30 : decode prog_19_method_6_code 30 = .ok (.iload_n 0, 1) := by decide +kernel
theorem d1_31 : decode prog_19_method_6_code 31 = .ok (.sipush 192, 3) := by decide +kernel
theorem d1_34 : decode prog_19_method_6_code 34 = .ok (.if_icmp .lt 10, 3) := by decide +kernel
theorem d1_37 : decode prog_19_method_6_code 37 = .ok (.iload_n 0, 1) := by decide +kernel
theorem d1_38 : decode prog_19_method_6_code 38 = .ok (.sipush 214, 3) := by decide +kernel
theorem d1_41 : decode prog_19_method_6_code 41 = .ok (.if_icmp .le 150, 3) := by decide +kernel
theorem d1_44 : decode prog_19_method_6_code 44 = .ok (.iload_n 0, 1) := by decide +kernel
theorem d1_45 : decode prog_19_method_6_code 45 = .ok (.sipush 216, 3) := by decide +kernel
theorem d1_48 : decode prog_19_method_6_code 48 = .ok (.if_icmp .lt 10, 3) := by decide +kernel
theorem d1_51 : decode prog_19_method_6_code 51 = .ok (.iload_n 0, 1) := by decide +kernel
theorem d1_52 : decode prog_19_method_6_code 52 = .ok (.sipush 246, 3) := by decide +kernel
theorem d1_55 : decode prog_19_method_6_code 55 = .ok (.if_icmp .le 136, 3) := by decide +kernel
theorem d1_58 : decode prog_19_method_6_code 58 = .ok (.iload_n 0, 1) := by decide +kernel
theorem d1_59 : decode prog_19_method_6_code 59 = .ok (.sipush 248, 3) := by decide +kernel
theorem d1_62 : decode prog_19_method_6_code 62 = .ok (.if_icmp .lt 10, 3) := by decide +kernel
theorem d1_65 : decode prog_19_method_6_code 65 = .ok (.iload_n 0, 1) := by decide +kernel
theorem d1_66 : decode prog_19_method_6_code 66 = .ok (.sipush 767, 3) := by decide +kernel
theorem d1_69 : decode prog_19_method_6_code 69 = .ok (.if_icmp .le 122, 3) := by decide +kernel
theorem d1_72 : decode prog_19_method_6_code 72 = .ok (.iload_n 0, 1) := by decide +kernel
theorem d1_73 : decode prog_19_method_6_code 73 = .ok (.sipush 880, 3) := by decide +kernel
theorem d1_76 : decode prog_19_method_6_code 76 = .ok (.if_icmp .lt 10, 3) := by decide +kernel
theorem d1_79 : decode prog_19_method_6_code 79 = .ok (.iload_n 0, 1) := by decide +kernel
theorem d1_80 : decode prog_19_method_6_code 80 = .ok (.sipush 893, 3) := by decide +kernel
theorem d1_83 : decode prog_19_method_6_code 83 = .ok (.if_icmp .le 108, 3) := by decide +kernel
theorem d1_86 : decode prog_19_method_6_code 86 = .ok (.iload_n 0, 1) := by decide +kernel
theorem d1_87 : decode prog_19_method_6_code 87 = .ok (.sipush 895, 3) := by decide +kernel
theorem d1_90 : decode prog_19_method_6_code 90 = .ok (.if_icmp .lt 10, 3) := by decide +kernel
theorem d1_93 : decode prog_19_method_6_code 93 = .ok (.iload_n 0, 1) := by decide +kernel
theorem d1_94 : decode prog_19_method_6_code 94 = .ok (.sipush 8191, 3) := by decide +kernel
theorem d1_97 : decode prog_19_method_6_code 97 = .ok (.if_icmp .le 94, 3) := by decide +kernel
theorem d1_100 : decode prog_19_method_6_code 100 = .ok (.iload_n 0, 1) := by decide +kernel
theorem d1_101 : decode prog_19_method_6_code 101 = .ok (.sipush 8204, 3) := by decide +kernel
theorem d1_104 : decode prog_19_method_6_code 104 = .ok (.if_icmp .lt 10, 3) := by decide +kernel
theorem d1_107 : decode prog_19_method_6_code 107 = .ok (.iload_n 0, 1) := by decide +kernel
theorem d1_108 : decode prog_19_method_6_code 108 = .ok (.sipush 8205, 3) := by decide +kernel
theorem d1_111 : decode prog_19_method_6_code 111 = .ok (.if_icmp .le 80, 3) := by decide +kernel
theorem d1_114 : decode prog_19_method_6_code 114 = .ok (.iload_n 0, 1) := by decide +kernel
theorem d1_115 : decode prog_19_method_6_code 115 = .ok (.sipush 8304, 3) := by decide +kernel
theorem d1_118 : decode prog_19_method_6_code 118 = .ok (.if_icmp .lt 10, 3) := by decide +kernel
theorem d1_121 : decode prog_19_method_6_code 121 = .ok (.iload_n 0, 1) := by decide +kernel
theorem d1_122 : decode prog_19_method_6_code 122 = .ok (.sipush 8591, 3) := by decide +kernel
theorem d1_125 : decode prog_19_method_6_code 125 = .ok (.if_icmp .le 66, 3) := by decide +kernel
theorem d1_128 : decode prog_19_method_6_code 128 = .ok (.iload_n 0, 1) := by decide +kernel
theorem d1_129 : decode prog_19_method_6_code 129 = .ok (.sipush 11264, 3) := by decide +kernel
theorem d1_132 : decode prog_19_method_6_code 132 = .ok (.if_icmp .lt 10, 3) := by decide +kernel
theorem d1_135 : decode prog_19_method_6_code 135 = .ok (.iload_n 0, 1) := by decide +kernel
theorem d1_136 : decode prog_19_method_6_code 136 = .ok (.sipush 12271, 3) := by decide +kernel
theorem d1_139 : decode prog_19_method_6_code 139 = .ok (.if_icmp .le 52, 3) := by decide +kernel
theorem d1_142 : decode prog_19_method_6_code 142 = .ok (.iload_n 0, 1) := by decide +kernel
theorem d1_143 : decode prog_19_method_6_code 143 = .ok (.sipush 12289, 3) := by decide +kernel
theorem d1_146 : decode prog_19_method_6_code 146 = .ok (.if_icmp .lt 9, 3) := by decide +kernel
theorem d1_149 : decode prog_19_method_6_code 149 = .ok (.iload_n 0, 1) := by decide +kernel
theorem d1_150 : decode prog_19_method_6_code 150 = .ok (.ldc 61, 2) := by decide +kernel
theorem d1_152 : decode prog_19_method_6_code 152 = .ok (.if_icmp .le 39, 3) := by decide +kernel
theorem d1_155 : decode prog_19_method_6_code 155 = .ok (.iload_n 0, 1) := by decide +kernel
theorem d1_156 : decode prog_19_method_6_code 156 = .ok (.ldc 62, 2) := by decide +kernel
theorem d1_158 : decode prog_19_method_6_code 158 = .ok (.if_icmp .lt 9, 3) := by decide +kernel
theorem d1_161 : decode prog_19_method_6_code 161 = .ok (.iload_n 0, 1) := by decide +kernel
theorem d1_162 : decode prog_19_method_6_code 162 = .ok (.ldc 63, 2) := by decide +kernel
theorem d1_164 : decode prog_19_method_6_code 164 = .ok (.if_icmp .le 27, 3) := by decide +kernel
theorem d1_167 : decode prog_19_method_6_code 167 = .ok (.iload_n 0, 1) := by decide +kernel
theorem d1_168 : decode prog_19_method_6_code 168 = .ok (.ldc 64, 2) := by decide +kernel
theorem d1_170 : decode prog_19_method_6_code 170 = .ok (.if_icmp .lt 9, 3) := by decide +kernel
theorem d1_173 : decode prog_19_method_6_code 173 = .ok (.iload_n 0, 1) := by decide +kernel
theorem d1_174 : decode prog_19_method_6_code 174 = .ok (.ldc 65, 2) := by decide +kernel
theorem d1_176 : decode prog_19_method_6_code 176 = .ok (.if_icmp .le 15, 3) := by decide +kernel
theorem d1_179 : decode prog_19_method_6_code 179 = .ok (.iload_n 0, 1) := by decide +kernel
theorem d1_180 : decode prog_19_method_6_code 180 = .ok (.ldc 66, 2) := by decide +kernel
theorem d1_182 : decode prog_19_method_6_code 182 = .ok (.if_icmp .lt 13, 3) := by decide +kernel
theorem d1_185 : decode prog_19_method_6_code 185 = .ok (.iload_n 0, 1) := by decide +kernel
theorem d1_186 : decode prog_19_method_6_code 186 = .ok (.ldc 67, 2) := by decide +kernel
theorem d1_188 : decode prog_19_method_6_code 188 = .ok (.if_icmp .gt 7, 3) := by decide +kernel
theorem d1_191 : decode prog_19_method_6_code 191 = .ok (.iconst 1, 1) := by decide +kernel
theorem d1_192 : decode prog_19_method_6_code 192 = .ok (.goto 4, 3) := by decide +kernel
theorem d1_195 : decode prog_19_method_6_code 195 = .ok (.iconst 0, 1) := by decide +kernel
theorem d1_196 : decode prog_19_method_6_code 196 = .ok (.ireturn, 1) := by decide +kernel
theorem pn_0 : plainFor (⟨"com/example/coextent/coextent/io/RdfXmlNames", "isNameStart", "(I)Z"⟩ : MethodName) = true := by first | exact plainFor_of_name (by first | (simp [plainName, overriddenIn]; done) | decide +kernel) | decide +kernel
def Q1 (Z : State) (p1 : Int32) (h0 : Heap) (n0 : Nat) (v : Option Value) (h : Heap) : Prop := ∃ b : Int32, v = some (.int b) ∧ ((own_start p1.toInt) ∧ b.toInt = 1 ∨ ¬ (own_start p1.toInt) ∧ b.toInt = 0) ∧ h = h0
abbrev R1 : Room := { frames := 0, cells := 0, slots := 0, locals := 0 }
set_option maxRecDepth 65536 in
set_option maxHeartbeats 40000000 in
theorem rm1 (l : Launch) (Z : State) (a0 : Array Value) (hw : ∀ d ∈ tables_1, d.before a0 Z = true)  (p1 : Int32) (h0 : Heap) (n0 : Nat) (Z0 : n0 ≤ h0.size)  :
    Con l (⟨"com/example/coextent/coextent/io/RdfXmlNames", "isNameStart", "(I)Z"⟩ : MethodName) prog_19_method_6_code 1 (some .boolean) [] R1 Z #[(.int p1)] h0 n0 (Q1 Z p1 h0 n0) := by
  refine con_of (Ls0 := #[.val (.int p1)]) pn_0 (fun m => by first | (simp [entryFrame, mkF, argsToLocals, Value.category, maxLocals]; done) | rfl) ?_
  intro p e s m below meth c s₁ X0 hx hby hml hZ hown hnm hret hlk e0 N0
  show Goes p e s below (Q1 Z p1 h0 n0) n0 R1.cells R1.slots s₁ (mkF m 0 #[.val (.int p1)] [])
  generalize hc : p1.toInt = cc
  have J191 : own_start cc → Goes p e s below (Q1 Z p1 h0 n0) n0 R1.cells R1.slots s₁ (mkF m 191 #[.val (.int p1)] []) := by
    intro j1
    refine g_iconst X0 hx (hb hby d1_191) (v := 1) (by decide) (pc' := 192) rfl ?_
    refine g_goto X0 hx (hb hby d1_192) (by decide) (pc' := 196) (by decide) ?_
    refine g_retZ X0 hx hlk (by decide) hret (hb hby d1_196) N0 (by decide) (by decide) ?_
    exact ⟨_, rfl, by rw [hc]; first | exact Or.inl ⟨by assumption, rfl⟩ | exact Or.inr ⟨by assumption, rfl⟩, e0⟩
  have J195 : ¬ own_start cc → Goes p e s below (Q1 Z p1 h0 n0) n0 R1.cells R1.slots s₁ (mkF m 195 #[.val (.int p1)] []) := by
    intro j2
    refine g_iconst X0 hx (hb hby d1_195) (v := 0) (by decide) (pc' := 196) rfl ?_
    refine g_retZ X0 hx hlk (by decide) hret (hb hby d1_196) N0 (by decide) (by decide) ?_
    exact ⟨_, rfl, by rw [hc]; first | exact Or.inl ⟨by assumption, rfl⟩ | exact Or.inr ⟨by assumption, rfl⟩, e0⟩
  have J179 : ¬ (65 ≤ cc ∧ cc ≤ 90) ∧ ¬ (cc = 95) ∧ ¬ (97 ≤ cc ∧ cc ≤ 122) ∧ ¬ (192 ≤ cc ∧ cc ≤ 214) ∧ ¬ (216 ≤ cc ∧ cc ≤ 246) ∧ ¬ (248 ≤ cc ∧ cc ≤ 767) ∧ ¬ (880 ≤ cc ∧ cc ≤ 893) ∧ ¬ (895 ≤ cc ∧ cc ≤ 8191) ∧ ¬ (8204 ≤ cc ∧ cc ≤ 8205) ∧ ¬ (8304 ≤ cc ∧ cc ≤ 8591) ∧ ¬ (11264 ≤ cc ∧ cc ≤ 12271) ∧ ¬ (12289 ≤ cc ∧ cc ≤ 55295) ∧ ¬ (63744 ≤ cc ∧ cc ≤ 64975) ∧ ¬ (65008 ≤ cc ∧ cc ≤ 65533) → Goes p e s below (Q1 Z p1 h0 n0) n0 R1.cells R1.slots s₁ (mkF m 179 #[.val (.int p1)] []) := by
    intro j3
    refine g_iloadN X0 hx (hb hby d1_179) (v := p1) rfl (pc' := 180) rfl ?_
    refine g_ldc X0 hx hZ hown (hb hby d1_180) (v := 65536) (hw _ (List.mem_of_getElem? (i := 18) rfl)) (pc' := 182) rfl ?_
    refine g_ii_lt X0 hx (a := cc) (b := 65536) hc rfl (hb hby d1_182) (by decide) (pc' := 195) (by decide) (pc2 := 185) rfl (fun c4 => ?_) (fun c4 => ?_)
    · exact J195 (by omega)
    · refine g_iloadN X0 hx (hb hby d1_185) (v := p1) rfl (pc' := 186) rfl ?_
      refine g_ldc X0 hx hZ hown (hb hby d1_186) (v := 983039) (hw _ (List.mem_of_getElem? (i := 22) rfl)) (pc' := 188) rfl ?_
      refine g_ii_gt X0 hx (a := cc) (b := 983039) hc rfl (hb hby d1_188) (by decide) (pc' := 195) (by decide) (pc2 := 191) rfl (fun c5 => ?_) (fun c5 => ?_)
      · exact J195 (by omega)
      · exact J191 (by omega)
  have J167 : ¬ (65 ≤ cc ∧ cc ≤ 90) ∧ ¬ (cc = 95) ∧ ¬ (97 ≤ cc ∧ cc ≤ 122) ∧ ¬ (192 ≤ cc ∧ cc ≤ 214) ∧ ¬ (216 ≤ cc ∧ cc ≤ 246) ∧ ¬ (248 ≤ cc ∧ cc ≤ 767) ∧ ¬ (880 ≤ cc ∧ cc ≤ 893) ∧ ¬ (895 ≤ cc ∧ cc ≤ 8191) ∧ ¬ (8204 ≤ cc ∧ cc ≤ 8205) ∧ ¬ (8304 ≤ cc ∧ cc ≤ 8591) ∧ ¬ (11264 ≤ cc ∧ cc ≤ 12271) ∧ ¬ (12289 ≤ cc ∧ cc ≤ 55295) ∧ ¬ (63744 ≤ cc ∧ cc ≤ 64975) → Goes p e s below (Q1 Z p1 h0 n0) n0 R1.cells R1.slots s₁ (mkF m 167 #[.val (.int p1)] []) := by
    intro j6
    refine g_iloadN X0 hx (hb hby d1_167) (v := p1) rfl (pc' := 168) rfl ?_
    refine g_ldc X0 hx hZ hown (hb hby d1_168) (v := 65008) (hw _ (List.mem_of_getElem? (i := 17) rfl)) (pc' := 170) rfl ?_
    refine g_ii_lt X0 hx (a := cc) (b := 65008) hc rfl (hb hby d1_170) (by decide) (pc' := 179) (by decide) (pc2 := 173) rfl (fun c7 => ?_) (fun c7 => ?_)
    · exact J179 (by omega)
    · refine g_iloadN X0 hx (hb hby d1_173) (v := p1) rfl (pc' := 174) rfl ?_
      refine g_ldc X0 hx hZ hown (hb hby d1_174) (v := 65533) (hw _ (List.mem_of_getElem? (i := 21) rfl)) (pc' := 176) rfl ?_
      refine g_ii_le X0 hx (a := cc) (b := 65533) hc rfl (hb hby d1_176) (by decide) (pc' := 191) (by decide) (pc2 := 179) rfl (fun c8 => ?_) (fun c8 => ?_)
      · exact J191 (by omega)
      · exact J179 (by omega)
  have J155 : ¬ (65 ≤ cc ∧ cc ≤ 90) ∧ ¬ (cc = 95) ∧ ¬ (97 ≤ cc ∧ cc ≤ 122) ∧ ¬ (192 ≤ cc ∧ cc ≤ 214) ∧ ¬ (216 ≤ cc ∧ cc ≤ 246) ∧ ¬ (248 ≤ cc ∧ cc ≤ 767) ∧ ¬ (880 ≤ cc ∧ cc ≤ 893) ∧ ¬ (895 ≤ cc ∧ cc ≤ 8191) ∧ ¬ (8204 ≤ cc ∧ cc ≤ 8205) ∧ ¬ (8304 ≤ cc ∧ cc ≤ 8591) ∧ ¬ (11264 ≤ cc ∧ cc ≤ 12271) ∧ ¬ (12289 ≤ cc ∧ cc ≤ 55295) → Goes p e s below (Q1 Z p1 h0 n0) n0 R1.cells R1.slots s₁ (mkF m 155 #[.val (.int p1)] []) := by
    intro j9
    refine g_iloadN X0 hx (hb hby d1_155) (v := p1) rfl (pc' := 156) rfl ?_
    refine g_ldc X0 hx hZ hown (hb hby d1_156) (v := 63744) (hw _ (List.mem_of_getElem? (i := 16) rfl)) (pc' := 158) rfl ?_
    refine g_ii_lt X0 hx (a := cc) (b := 63744) hc rfl (hb hby d1_158) (by decide) (pc' := 167) (by decide) (pc2 := 161) rfl (fun c10 => ?_) (fun c10 => ?_)
    · exact J167 (by omega)
    · refine g_iloadN X0 hx (hb hby d1_161) (v := p1) rfl (pc' := 162) rfl ?_
      refine g_ldc X0 hx hZ hown (hb hby d1_162) (v := 64975) (hw _ (List.mem_of_getElem? (i := 20) rfl)) (pc' := 164) rfl ?_
      refine g_ii_le X0 hx (a := cc) (b := 64975) hc rfl (hb hby d1_164) (by decide) (pc' := 191) (by decide) (pc2 := 167) rfl (fun c11 => ?_) (fun c11 => ?_)
      · exact J191 (by omega)
      · exact J167 (by omega)
  have J142 : ¬ (65 ≤ cc ∧ cc ≤ 90) ∧ ¬ (cc = 95) ∧ ¬ (97 ≤ cc ∧ cc ≤ 122) ∧ ¬ (192 ≤ cc ∧ cc ≤ 214) ∧ ¬ (216 ≤ cc ∧ cc ≤ 246) ∧ ¬ (248 ≤ cc ∧ cc ≤ 767) ∧ ¬ (880 ≤ cc ∧ cc ≤ 893) ∧ ¬ (895 ≤ cc ∧ cc ≤ 8191) ∧ ¬ (8204 ≤ cc ∧ cc ≤ 8205) ∧ ¬ (8304 ≤ cc ∧ cc ≤ 8591) ∧ ¬ (11264 ≤ cc ∧ cc ≤ 12271) → Goes p e s below (Q1 Z p1 h0 n0) n0 R1.cells R1.slots s₁ (mkF m 142 #[.val (.int p1)] []) := by
    intro j12
    refine g_iloadN X0 hx (hb hby d1_142) (v := p1) rfl (pc' := 143) rfl ?_
    refine g_sipush X0 hx (hb hby d1_143) (v := 12289) (by decide) (pc' := 146) rfl ?_
    refine g_ii_lt X0 hx (a := cc) (b := 12289) hc rfl (hb hby d1_146) (by decide) (pc' := 155) (by decide) (pc2 := 149) rfl (fun c13 => ?_) (fun c13 => ?_)
    · exact J155 (by omega)
    · refine g_iloadN X0 hx (hb hby d1_149) (v := p1) rfl (pc' := 150) rfl ?_
      refine g_ldc X0 hx hZ hown (hb hby d1_150) (v := 55295) (hw _ (List.mem_of_getElem? (i := 19) rfl)) (pc' := 152) rfl ?_
      refine g_ii_le X0 hx (a := cc) (b := 55295) hc rfl (hb hby d1_152) (by decide) (pc' := 191) (by decide) (pc2 := 155) rfl (fun c14 => ?_) (fun c14 => ?_)
      · exact J191 (by omega)
      · exact J155 (by omega)
  have J128 : ¬ (65 ≤ cc ∧ cc ≤ 90) ∧ ¬ (cc = 95) ∧ ¬ (97 ≤ cc ∧ cc ≤ 122) ∧ ¬ (192 ≤ cc ∧ cc ≤ 214) ∧ ¬ (216 ≤ cc ∧ cc ≤ 246) ∧ ¬ (248 ≤ cc ∧ cc ≤ 767) ∧ ¬ (880 ≤ cc ∧ cc ≤ 893) ∧ ¬ (895 ≤ cc ∧ cc ≤ 8191) ∧ ¬ (8204 ≤ cc ∧ cc ≤ 8205) ∧ ¬ (8304 ≤ cc ∧ cc ≤ 8591) → Goes p e s below (Q1 Z p1 h0 n0) n0 R1.cells R1.slots s₁ (mkF m 128 #[.val (.int p1)] []) := by
    intro j15
    refine g_iloadN X0 hx (hb hby d1_128) (v := p1) rfl (pc' := 129) rfl ?_
    refine g_sipush X0 hx (hb hby d1_129) (v := 11264) (by decide) (pc' := 132) rfl ?_
    refine g_ii_lt X0 hx (a := cc) (b := 11264) hc rfl (hb hby d1_132) (by decide) (pc' := 142) (by decide) (pc2 := 135) rfl (fun c16 => ?_) (fun c16 => ?_)
    · exact J142 (by omega)
    · refine g_iloadN X0 hx (hb hby d1_135) (v := p1) rfl (pc' := 136) rfl ?_
      refine g_sipush X0 hx (hb hby d1_136) (v := 12271) (by decide) (pc' := 139) rfl ?_
      refine g_ii_le X0 hx (a := cc) (b := 12271) hc rfl (hb hby d1_139) (by decide) (pc' := 191) (by decide) (pc2 := 142) rfl (fun c17 => ?_) (fun c17 => ?_)
      · exact J191 (by omega)
      · exact J142 (by omega)
  have J114 : ¬ (65 ≤ cc ∧ cc ≤ 90) ∧ ¬ (cc = 95) ∧ ¬ (97 ≤ cc ∧ cc ≤ 122) ∧ ¬ (192 ≤ cc ∧ cc ≤ 214) ∧ ¬ (216 ≤ cc ∧ cc ≤ 246) ∧ ¬ (248 ≤ cc ∧ cc ≤ 767) ∧ ¬ (880 ≤ cc ∧ cc ≤ 893) ∧ ¬ (895 ≤ cc ∧ cc ≤ 8191) ∧ ¬ (8204 ≤ cc ∧ cc ≤ 8205) → Goes p e s below (Q1 Z p1 h0 n0) n0 R1.cells R1.slots s₁ (mkF m 114 #[.val (.int p1)] []) := by
    intro j18
    refine g_iloadN X0 hx (hb hby d1_114) (v := p1) rfl (pc' := 115) rfl ?_
    refine g_sipush X0 hx (hb hby d1_115) (v := 8304) (by decide) (pc' := 118) rfl ?_
    refine g_ii_lt X0 hx (a := cc) (b := 8304) hc rfl (hb hby d1_118) (by decide) (pc' := 128) (by decide) (pc2 := 121) rfl (fun c19 => ?_) (fun c19 => ?_)
    · exact J128 (by omega)
    · refine g_iloadN X0 hx (hb hby d1_121) (v := p1) rfl (pc' := 122) rfl ?_
      refine g_sipush X0 hx (hb hby d1_122) (v := 8591) (by decide) (pc' := 125) rfl ?_
      refine g_ii_le X0 hx (a := cc) (b := 8591) hc rfl (hb hby d1_125) (by decide) (pc' := 191) (by decide) (pc2 := 128) rfl (fun c20 => ?_) (fun c20 => ?_)
      · exact J191 (by omega)
      · exact J128 (by omega)
  have J100 : ¬ (65 ≤ cc ∧ cc ≤ 90) ∧ ¬ (cc = 95) ∧ ¬ (97 ≤ cc ∧ cc ≤ 122) ∧ ¬ (192 ≤ cc ∧ cc ≤ 214) ∧ ¬ (216 ≤ cc ∧ cc ≤ 246) ∧ ¬ (248 ≤ cc ∧ cc ≤ 767) ∧ ¬ (880 ≤ cc ∧ cc ≤ 893) ∧ ¬ (895 ≤ cc ∧ cc ≤ 8191) → Goes p e s below (Q1 Z p1 h0 n0) n0 R1.cells R1.slots s₁ (mkF m 100 #[.val (.int p1)] []) := by
    intro j21
    refine g_iloadN X0 hx (hb hby d1_100) (v := p1) rfl (pc' := 101) rfl ?_
    refine g_sipush X0 hx (hb hby d1_101) (v := 8204) (by decide) (pc' := 104) rfl ?_
    refine g_ii_lt X0 hx (a := cc) (b := 8204) hc rfl (hb hby d1_104) (by decide) (pc' := 114) (by decide) (pc2 := 107) rfl (fun c22 => ?_) (fun c22 => ?_)
    · exact J114 (by omega)
    · refine g_iloadN X0 hx (hb hby d1_107) (v := p1) rfl (pc' := 108) rfl ?_
      refine g_sipush X0 hx (hb hby d1_108) (v := 8205) (by decide) (pc' := 111) rfl ?_
      refine g_ii_le X0 hx (a := cc) (b := 8205) hc rfl (hb hby d1_111) (by decide) (pc' := 191) (by decide) (pc2 := 114) rfl (fun c23 => ?_) (fun c23 => ?_)
      · exact J191 (by omega)
      · exact J114 (by omega)
  have J86 : ¬ (65 ≤ cc ∧ cc ≤ 90) ∧ ¬ (cc = 95) ∧ ¬ (97 ≤ cc ∧ cc ≤ 122) ∧ ¬ (192 ≤ cc ∧ cc ≤ 214) ∧ ¬ (216 ≤ cc ∧ cc ≤ 246) ∧ ¬ (248 ≤ cc ∧ cc ≤ 767) ∧ ¬ (880 ≤ cc ∧ cc ≤ 893) → Goes p e s below (Q1 Z p1 h0 n0) n0 R1.cells R1.slots s₁ (mkF m 86 #[.val (.int p1)] []) := by
    intro j24
    refine g_iloadN X0 hx (hb hby d1_86) (v := p1) rfl (pc' := 87) rfl ?_
    refine g_sipush X0 hx (hb hby d1_87) (v := 895) (by decide) (pc' := 90) rfl ?_
    refine g_ii_lt X0 hx (a := cc) (b := 895) hc rfl (hb hby d1_90) (by decide) (pc' := 100) (by decide) (pc2 := 93) rfl (fun c25 => ?_) (fun c25 => ?_)
    · exact J100 (by omega)
    · refine g_iloadN X0 hx (hb hby d1_93) (v := p1) rfl (pc' := 94) rfl ?_
      refine g_sipush X0 hx (hb hby d1_94) (v := 8191) (by decide) (pc' := 97) rfl ?_
      refine g_ii_le X0 hx (a := cc) (b := 8191) hc rfl (hb hby d1_97) (by decide) (pc' := 191) (by decide) (pc2 := 100) rfl (fun c26 => ?_) (fun c26 => ?_)
      · exact J191 (by omega)
      · exact J100 (by omega)
  have J72 : ¬ (65 ≤ cc ∧ cc ≤ 90) ∧ ¬ (cc = 95) ∧ ¬ (97 ≤ cc ∧ cc ≤ 122) ∧ ¬ (192 ≤ cc ∧ cc ≤ 214) ∧ ¬ (216 ≤ cc ∧ cc ≤ 246) ∧ ¬ (248 ≤ cc ∧ cc ≤ 767) → Goes p e s below (Q1 Z p1 h0 n0) n0 R1.cells R1.slots s₁ (mkF m 72 #[.val (.int p1)] []) := by
    intro j27
    refine g_iloadN X0 hx (hb hby d1_72) (v := p1) rfl (pc' := 73) rfl ?_
    refine g_sipush X0 hx (hb hby d1_73) (v := 880) (by decide) (pc' := 76) rfl ?_
    refine g_ii_lt X0 hx (a := cc) (b := 880) hc rfl (hb hby d1_76) (by decide) (pc' := 86) (by decide) (pc2 := 79) rfl (fun c28 => ?_) (fun c28 => ?_)
    · exact J86 (by omega)
    · refine g_iloadN X0 hx (hb hby d1_79) (v := p1) rfl (pc' := 80) rfl ?_
      refine g_sipush X0 hx (hb hby d1_80) (v := 893) (by decide) (pc' := 83) rfl ?_
      refine g_ii_le X0 hx (a := cc) (b := 893) hc rfl (hb hby d1_83) (by decide) (pc' := 191) (by decide) (pc2 := 86) rfl (fun c29 => ?_) (fun c29 => ?_)
      · exact J191 (by omega)
      · exact J86 (by omega)
  have J58 : ¬ (65 ≤ cc ∧ cc ≤ 90) ∧ ¬ (cc = 95) ∧ ¬ (97 ≤ cc ∧ cc ≤ 122) ∧ ¬ (192 ≤ cc ∧ cc ≤ 214) ∧ ¬ (216 ≤ cc ∧ cc ≤ 246) → Goes p e s below (Q1 Z p1 h0 n0) n0 R1.cells R1.slots s₁ (mkF m 58 #[.val (.int p1)] []) := by
    intro j30
    refine g_iloadN X0 hx (hb hby d1_58) (v := p1) rfl (pc' := 59) rfl ?_
    refine g_sipush X0 hx (hb hby d1_59) (v := 248) (by decide) (pc' := 62) rfl ?_
    refine g_ii_lt X0 hx (a := cc) (b := 248) hc rfl (hb hby d1_62) (by decide) (pc' := 72) (by decide) (pc2 := 65) rfl (fun c31 => ?_) (fun c31 => ?_)
    · exact J72 (by omega)
    · refine g_iloadN X0 hx (hb hby d1_65) (v := p1) rfl (pc' := 66) rfl ?_
      refine g_sipush X0 hx (hb hby d1_66) (v := 767) (by decide) (pc' := 69) rfl ?_
      refine g_ii_le X0 hx (a := cc) (b := 767) hc rfl (hb hby d1_69) (by decide) (pc' := 191) (by decide) (pc2 := 72) rfl (fun c32 => ?_) (fun c32 => ?_)
      · exact J191 (by omega)
      · exact J72 (by omega)
  have J44 : ¬ (65 ≤ cc ∧ cc ≤ 90) ∧ ¬ (cc = 95) ∧ ¬ (97 ≤ cc ∧ cc ≤ 122) ∧ ¬ (192 ≤ cc ∧ cc ≤ 214) → Goes p e s below (Q1 Z p1 h0 n0) n0 R1.cells R1.slots s₁ (mkF m 44 #[.val (.int p1)] []) := by
    intro j33
    refine g_iloadN X0 hx (hb hby d1_44) (v := p1) rfl (pc' := 45) rfl ?_
    refine g_sipush X0 hx (hb hby d1_45) (v := 216) (by decide) (pc' := 48) rfl ?_
    refine g_ii_lt X0 hx (a := cc) (b := 216) hc rfl (hb hby d1_48) (by decide) (pc' := 58) (by decide) (pc2 := 51) rfl (fun c34 => ?_) (fun c34 => ?_)
    · exact J58 (by omega)
    · refine g_iloadN X0 hx (hb hby d1_51) (v := p1) rfl (pc' := 52) rfl ?_
      refine g_sipush X0 hx (hb hby d1_52) (v := 246) (by decide) (pc' := 55) rfl ?_
      refine g_ii_le X0 hx (a := cc) (b := 246) hc rfl (hb hby d1_55) (by decide) (pc' := 191) (by decide) (pc2 := 58) rfl (fun c35 => ?_) (fun c35 => ?_)
      · exact J191 (by omega)
      · exact J58 (by omega)
  have J30 : ¬ (65 ≤ cc ∧ cc ≤ 90) ∧ ¬ (cc = 95) ∧ ¬ (97 ≤ cc ∧ cc ≤ 122) → Goes p e s below (Q1 Z p1 h0 n0) n0 R1.cells R1.slots s₁ (mkF m 30 #[.val (.int p1)] []) := by
    intro j36
    refine g_iloadN X0 hx (hb hby d1_30) (v := p1) rfl (pc' := 31) rfl ?_
    refine g_sipush X0 hx (hb hby d1_31) (v := 192) (by decide) (pc' := 34) rfl ?_
    refine g_ii_lt X0 hx (a := cc) (b := 192) hc rfl (hb hby d1_34) (by decide) (pc' := 44) (by decide) (pc2 := 37) rfl (fun c37 => ?_) (fun c37 => ?_)
    · exact J44 (by omega)
    · refine g_iloadN X0 hx (hb hby d1_37) (v := p1) rfl (pc' := 38) rfl ?_
      refine g_sipush X0 hx (hb hby d1_38) (v := 214) (by decide) (pc' := 41) rfl ?_
      refine g_ii_le X0 hx (a := cc) (b := 214) hc rfl (hb hby d1_41) (by decide) (pc' := 191) (by decide) (pc2 := 44) rfl (fun c38 => ?_) (fun c38 => ?_)
      · exact J191 (by omega)
      · exact J44 (by omega)
  have J18 : ¬ (65 ≤ cc ∧ cc ≤ 90) ∧ ¬ (cc = 95) → Goes p e s below (Q1 Z p1 h0 n0) n0 R1.cells R1.slots s₁ (mkF m 18 #[.val (.int p1)] []) := by
    intro j39
    refine g_iloadN X0 hx (hb hby d1_18) (v := p1) rfl (pc' := 19) rfl ?_
    refine g_bipush X0 hx (hb hby d1_19) (v := 97) (by decide) (pc' := 21) rfl ?_
    refine g_ii_lt X0 hx (a := cc) (b := 97) hc rfl (hb hby d1_21) (by decide) (pc' := 30) (by decide) (pc2 := 24) rfl (fun c40 => ?_) (fun c40 => ?_)
    · exact J30 (by omega)
    · refine g_iloadN X0 hx (hb hby d1_24) (v := p1) rfl (pc' := 25) rfl ?_
      refine g_bipush X0 hx (hb hby d1_25) (v := 122) (by decide) (pc' := 27) rfl ?_
      refine g_ii_le X0 hx (a := cc) (b := 122) hc rfl (hb hby d1_27) (by decide) (pc' := 191) (by decide) (pc2 := 30) rfl (fun c41 => ?_) (fun c41 => ?_)
      · exact J191 (by omega)
      · exact J30 (by omega)
  have J12 : ¬ (65 ≤ cc ∧ cc ≤ 90) → Goes p e s below (Q1 Z p1 h0 n0) n0 R1.cells R1.slots s₁ (mkF m 12 #[.val (.int p1)] []) := by
    intro j42
    refine g_iloadN X0 hx (hb hby d1_12) (v := p1) rfl (pc' := 13) rfl ?_
    refine g_bipush X0 hx (hb hby d1_13) (v := 95) (by decide) (pc' := 15) rfl ?_
    refine g_ii_eq X0 hx (a := cc) (b := 95) hc rfl (hb hby d1_15) (by decide) (pc' := 191) (by decide) (pc2 := 18) rfl (fun c43 => ?_) (fun c43 => ?_)
    · exact J191 (by omega)
    · exact J18 (by omega)
  refine g_iloadN X0 hx (hb hby d1_0) (v := p1) rfl (pc' := 1) rfl ?_
  refine g_bipush X0 hx (hb hby d1_1) (v := 65) (by decide) (pc' := 3) rfl ?_
  refine g_ii_lt X0 hx (a := cc) (b := 65) hc rfl (hb hby d1_3) (by decide) (pc' := 12) (by decide) (pc2 := 6) rfl (fun c44 => ?_) (fun c44 => ?_)
  · exact J12 (by omega)
  · refine g_iloadN X0 hx (hb hby d1_6) (v := p1) rfl (pc' := 7) rfl ?_
    refine g_bipush X0 hx (hb hby d1_7) (v := 90) (by decide) (pc' := 9) rfl ?_
    refine g_ii_le X0 hx (a := cc) (b := 90) hc rfl (hb hby d1_9) (by decide) (pc' := 191) (by decide) (pc2 := 12) rfl (fun c45 => ?_) (fun c45 => ?_)
    · exact J191 (by omega)
    · exact J12 (by omega)
theorem d2_0 : decode method_3_code 0 = .ok (.iload_n 0, 1) := by decide +kernel
theorem d2_1 : decode method_3_code 1 = .ok (.bipush 65, 2) := by decide +kernel
theorem d2_3 : decode method_3_code 3 = .ok (.if_icmp .ge 5, 3) := by decide +kernel
theorem d2_6 : decode method_3_code 6 = .ok (.iconst 1, 1) := by decide +kernel
theorem d2_7 : decode method_3_code 7 = .ok (.ireturn, 1) := by decide +kernel
theorem d2_8 : decode method_3_code 8 = .ok (.iload_n 0, 1) := by decide +kernel
theorem d2_9 : decode method_3_code 9 = .ok (.bipush 90, 2) := by decide +kernel
theorem d2_11 : decode method_3_code 11 = .ok (.if_icmp .gt 5, 3) := by decide +kernel
theorem d2_14 : decode method_3_code 14 = .ok (.iconst 0, 1) := by decide +kernel
theorem d2_15 : decode method_3_code 15 = .ok (.ireturn, 1) := by decide +kernel
theorem d2_16 : decode method_3_code 16 = .ok (.iload_n 0, 1) := by decide +kernel
theorem d2_17 : decode method_3_code 17 = .ok (.bipush 95, 2) := by decide +kernel
theorem d2_19 : decode method_3_code 19 = .ok (.if_icmp .ge 5, 3) := by decide +kernel
theorem d2_22 : decode method_3_code 22 = .ok (.iconst 1, 1) := by decide +kernel
theorem d2_23 : decode method_3_code 23 = .ok (.ireturn, 1) := by decide +kernel
theorem d2_24 : decode method_3_code 24 = .ok (.iload_n 0, 1) := by decide +kernel
theorem d2_25 : decode method_3_code 25 = .ok (.bipush 95, 2) := by decide +kernel
theorem d2_27 : decode method_3_code 27 = .ok (.if_icmp .ne 5, 3) := by decide +kernel
theorem d2_30 : decode method_3_code 30 = .ok (.iconst 0, 1) := by decide +kernel
theorem d2_31 : decode method_3_code 31 = .ok (.ireturn, 1) := by decide +kernel
theorem d2_32 : decode method_3_code 32 = .ok (.iload_n 0, 1) := by decide +kernel
theorem d2_33 : decode method_3_code 33 = .ok (.bipush 97, 2) := by decide +kernel
theorem d2_35 : decode method_3_code 35 = .ok (.if_icmp .ge 5, 3) := by decide +kernel
theorem d2_38 : decode method_3_code 38 = .ok (.iconst 1, 1) := by decide +kernel
theorem d2_39 : decode method_3_code 39 = .ok (.ireturn, 1) := by decide +kernel
theorem d2_40 : decode method_3_code 40 = .ok (.iload_n 0, 1) := by decide +kernel
theorem d2_41 : decode method_3_code 41 = .ok (.bipush 122, 2) := by decide +kernel
theorem d2_43 : decode method_3_code 43 = .ok (.if_icmp .gt 5, 3) := by decide +kernel
theorem d2_46 : decode method_3_code 46 = .ok (.iconst 0, 1) := by decide +kernel
theorem d2_47 : decode method_3_code 47 = .ok (.ireturn, 1) := by decide +kernel
theorem d2_48 : decode method_3_code 48 = .ok (.iload_n 0, 1) := by decide +kernel
theorem d2_49 : decode method_3_code 49 = .ok (.sipush 192, 3) := by decide +kernel
theorem d2_52 : decode method_3_code 52 = .ok (.if_icmp .ge 5, 3) := by decide +kernel
theorem d2_55 : decode method_3_code 55 = .ok (.iconst 1, 1) := by decide +kernel
theorem d2_56 : decode method_3_code 56 = .ok (.ireturn, 1) := by decide +kernel
theorem d2_57 : decode method_3_code 57 = .ok (.iload_n 0, 1) := by decide +kernel
theorem d2_58 : decode method_3_code 58 = .ok (.sipush 215, 3) := by decide +kernel
theorem d2_61 : decode method_3_code 61 = .ok (.if_icmp .eq 10, 3) := by decide +kernel
theorem d2_64 : decode method_3_code 64 = .ok (.iload_n 0, 1) := by decide +kernel
theorem d2_65 : decode method_3_code 65 = .ok (.sipush 247, 3) := by decide +kernel
theorem d2_68 : decode method_3_code 68 = .ok (.if_icmp .ne 5, 3) := by decide +kernel
theorem d2_71 : decode method_3_code 71 = .ok (.iconst 1, 1) := by decide +kernel
theorem d2_72 : decode method_3_code 72 = .ok (.ireturn, 1) := by decide +kernel
theorem d2_73 : decode method_3_code 73 = .ok (.iload_n 0, 1) := by decide +kernel
theorem d2_74 : decode method_3_code 74 = .ok (.sipush 767, 3) := by decide +kernel
theorem d2_77 : decode method_3_code 77 = .ok (.if_icmp .gt 5, 3) := by decide +kernel
theorem d2_80 : decode method_3_code 80 = .ok (.iconst 0, 1) := by decide +kernel
theorem d2_81 : decode method_3_code 81 = .ok (.ireturn, 1) := by decide +kernel
theorem d2_82 : decode method_3_code 82 = .ok (.iload_n 0, 1) := by decide +kernel
theorem d2_83 : decode method_3_code 83 = .ok (.sipush 880, 3) := by decide +kernel
theorem d2_86 : decode method_3_code 86 = .ok (.if_icmp .ge 5, 3) := by decide +kernel
theorem d2_89 : decode method_3_code 89 = .ok (.iconst 1, 1) := by decide +kernel
theorem d2_90 : decode method_3_code 90 = .ok (.ireturn, 1) := by decide +kernel
theorem d2_91 : decode method_3_code 91 = .ok (.iload_n 0, 1) := by decide +kernel
theorem d2_92 : decode method_3_code 92 = .ok (.sipush 894, 3) := by decide +kernel
theorem d2_95 : decode method_3_code 95 = .ok (.if_icmp .ne 5, 3) := by decide +kernel
theorem d2_98 : decode method_3_code 98 = .ok (.iconst 1, 1) := by decide +kernel
theorem d2_99 : decode method_3_code 99 = .ok (.ireturn, 1) := by decide +kernel
theorem d2_100 : decode method_3_code 100 = .ok (.iload_n 0, 1) := by decide +kernel
theorem d2_101 : decode method_3_code 101 = .ok (.sipush 8191, 3) := by decide +kernel
theorem d2_104 : decode method_3_code 104 = .ok (.if_icmp .gt 5, 3) := by decide +kernel
theorem d2_107 : decode method_3_code 107 = .ok (.iconst 0, 1) := by decide +kernel
theorem d2_108 : decode method_3_code 108 = .ok (.ireturn, 1) := by decide +kernel
theorem d2_109 : decode method_3_code 109 = .ok (.iload_n 0, 1) := by decide +kernel
theorem d2_110 : decode method_3_code 110 = .ok (.sipush 8204, 3) := by decide +kernel
theorem d2_113 : decode method_3_code 113 = .ok (.if_icmp .ge 5, 3) := by decide +kernel
theorem d2_116 : decode method_3_code 116 = .ok (.iconst 1, 1) := by decide +kernel
theorem d2_117 : decode method_3_code 117 = .ok (.ireturn, 1) := by decide +kernel
theorem d2_118 : decode method_3_code 118 = .ok (.iload_n 0, 1) := by decide +kernel
theorem d2_119 : decode method_3_code 119 = .ok (.sipush 8205, 3) := by decide +kernel
theorem d2_122 : decode method_3_code 122 = .ok (.if_icmp .gt 5, 3) := by decide +kernel
theorem d2_125 : decode method_3_code 125 = .ok (.iconst 0, 1) := by decide +kernel
theorem d2_126 : decode method_3_code 126 = .ok (.ireturn, 1) := by decide +kernel
theorem d2_127 : decode method_3_code 127 = .ok (.iload_n 0, 1) := by decide +kernel
theorem d2_128 : decode method_3_code 128 = .ok (.sipush 8304, 3) := by decide +kernel
theorem d2_131 : decode method_3_code 131 = .ok (.if_icmp .ge 5, 3) := by decide +kernel
theorem d2_134 : decode method_3_code 134 = .ok (.iconst 1, 1) := by decide +kernel
theorem d2_135 : decode method_3_code 135 = .ok (.ireturn, 1) := by decide +kernel
theorem d2_136 : decode method_3_code 136 = .ok (.iload_n 0, 1) := by decide +kernel
theorem d2_137 : decode method_3_code 137 = .ok (.sipush 8591, 3) := by decide +kernel
theorem d2_140 : decode method_3_code 140 = .ok (.if_icmp .gt 5, 3) := by decide +kernel
theorem d2_143 : decode method_3_code 143 = .ok (.iconst 0, 1) := by decide +kernel
theorem d2_144 : decode method_3_code 144 = .ok (.ireturn, 1) := by decide +kernel
theorem d2_145 : decode method_3_code 145 = .ok (.iload_n 0, 1) := by decide +kernel
theorem d2_146 : decode method_3_code 146 = .ok (.sipush 11264, 3) := by decide +kernel
theorem d2_149 : decode method_3_code 149 = .ok (.if_icmp .ge 5, 3) := by decide +kernel
theorem d2_152 : decode method_3_code 152 = .ok (.iconst 1, 1) := by decide +kernel
theorem d2_153 : decode method_3_code 153 = .ok (.ireturn, 1) := by decide +kernel
theorem d2_154 : decode method_3_code 154 = .ok (.iload_n 0, 1) := by decide +kernel
theorem d2_155 : decode method_3_code 155 = .ok (.sipush 12271, 3) := by decide +kernel
theorem d2_158 : decode method_3_code 158 = .ok (.if_icmp .gt 5, 3) := by decide +kernel
theorem d2_161 : decode method_3_code 161 = .ok (.iconst 0, 1) := by decide +kernel
theorem d2_162 : decode method_3_code 162 = .ok (.ireturn, 1) := by decide +kernel
theorem d2_163 : decode method_3_code 163 = .ok (.iload_n 0, 1) := by decide +kernel
theorem d2_164 : decode method_3_code 164 = .ok (.sipush 12289, 3) := by decide +kernel
theorem d2_167 : decode method_3_code 167 = .ok (.if_icmp .ge 5, 3) := by decide +kernel
theorem d2_170 : decode method_3_code 170 = .ok (.iconst 1, 1) := by decide +kernel
theorem d2_171 : decode method_3_code 171 = .ok (.ireturn, 1) := by decide +kernel
theorem d2_172 : decode method_3_code 172 = .ok (.iload_n 0, 1) := by decide +kernel
theorem d2_173 : decode method_3_code 173 = .ok (.ldc 7, 2) := by decide +kernel
theorem d2_175 : decode method_3_code 175 = .ok (.if_icmp .gt 5, 3) := by decide +kernel
theorem d2_178 : decode method_3_code 178 = .ok (.iconst 0, 1) := by decide +kernel
theorem d2_179 : decode method_3_code 179 = .ok (.ireturn, 1) := by decide +kernel
theorem d2_180 : decode method_3_code 180 = .ok (.iload_n 0, 1) := by decide +kernel
theorem d2_181 : decode method_3_code 181 = .ok (.ldc 8, 2) := by decide +kernel
theorem d2_183 : decode method_3_code 183 = .ok (.if_icmp .ge 5, 3) := by decide +kernel
theorem d2_186 : decode method_3_code 186 = .ok (.iconst 1, 1) := by decide +kernel
theorem d2_187 : decode method_3_code 187 = .ok (.ireturn, 1) := by decide +kernel
theorem d2_188 : decode method_3_code 188 = .ok (.iload_n 0, 1) := by decide +kernel
theorem d2_189 : decode method_3_code 189 = .ok (.ldc 9, 2) := by decide +kernel
theorem d2_191 : decode method_3_code 191 = .ok (.if_icmp .gt 5, 3) := by decide +kernel
theorem d2_194 : decode method_3_code 194 = .ok (.iconst 0, 1) := by decide +kernel
theorem d2_195 : decode method_3_code 195 = .ok (.ireturn, 1) := by decide +kernel
theorem d2_196 : decode method_3_code 196 = .ok (.iload_n 0, 1) := by decide +kernel
theorem d2_197 : decode method_3_code 197 = .ok (.ldc 10, 2) := by decide +kernel
theorem d2_199 : decode method_3_code 199 = .ok (.if_icmp .ge 5, 3) := by decide +kernel
theorem d2_202 : decode method_3_code 202 = .ok (.iconst 1, 1) := by decide +kernel
theorem d2_203 : decode method_3_code 203 = .ok (.ireturn, 1) := by decide +kernel
theorem d2_204 : decode method_3_code 204 = .ok (.iload_n 0, 1) := by decide +kernel
theorem d2_205 : decode method_3_code 205 = .ok (.ldc 11, 2) := by decide +kernel
theorem d2_207 : decode method_3_code 207 = .ok (.if_icmp .gt 5, 3) := by decide +kernel
theorem d2_210 : decode method_3_code 210 = .ok (.iconst 0, 1) := by decide +kernel
theorem d2_211 : decode method_3_code 211 = .ok (.ireturn, 1) := by decide +kernel
theorem d2_212 : decode method_3_code 212 = .ok (.iload_n 0, 1) := by decide +kernel
theorem d2_213 : decode method_3_code 213 = .ok (.ldc 12, 2) := by decide +kernel
theorem d2_215 : decode method_3_code 215 = .ok (.if_icmp .ge 5, 3) := by decide +kernel
theorem d2_218 : decode method_3_code 218 = .ok (.iconst 1, 1) := by decide +kernel
theorem d2_219 : decode method_3_code 219 = .ok (.ireturn, 1) := by decide +kernel
theorem d2_220 : decode method_3_code 220 = .ok (.iload_n 0, 1) := by decide +kernel
theorem d2_221 : decode method_3_code 221 = .ok (.ldc 13, 2) := by decide +kernel
theorem d2_223 : decode method_3_code 223 = .ok (.if_icmp .le 7, 3) := by decide +kernel
theorem d2_226 : decode method_3_code 226 = .ok (.iconst 1, 1) := by decide +kernel
theorem d2_227 : decode method_3_code 227 = .ok (.goto 4, 3) := by decide +kernel
theorem d2_230 : decode method_3_code 230 = .ok (.iconst 0, 1) := by decide +kernel
theorem d2_231 : decode method_3_code 231 = .ok (.ireturn, 1) := by decide +kernel
theorem pn_1 : plainFor (⟨"com/example/coextent/coextent/io/RdfXmlNamesIsNameStartPinLaw", "outside", "(I)Z"⟩ : MethodName) = true := by first | exact plainFor_of_name (by first | (simp [plainName, overriddenIn]; done) | decide +kernel) | decide +kernel
def Q2 (Z : State) (p1 : Int32) (h0 : Heap) (n0 : Nat) (v : Option Value) (h : Heap) : Prop := ∃ b : Int32, v = some (.int b) ∧ ((¬ own_start p1.toInt) ∧ b.toInt = 1 ∨ ¬ (¬ own_start p1.toInt) ∧ b.toInt = 0) ∧ h = h0
abbrev R2 : Room := { frames := 0, cells := 0, slots := 0, locals := 0 }
set_option maxRecDepth 65536 in
set_option maxHeartbeats 40000000 in
theorem rm2 (l : Launch) (Z : State) (a0 : Array Value) (hw : ∀ d ∈ tables_1, d.before a0 Z = true)  (p1 : Int32) (h0 : Heap) (n0 : Nat) (Z0 : n0 ≤ h0.size)  :
    Con l (⟨"com/example/coextent/coextent/io/RdfXmlNamesIsNameStartPinLaw", "outside", "(I)Z"⟩ : MethodName) method_3_code 1 (some .boolean) [] R2 Z #[(.int p1)] h0 n0 (Q2 Z p1 h0 n0) := by
  refine con_of (Ls0 := #[.val (.int p1)]) pn_1 (fun m => by first | (simp [entryFrame, mkF, argsToLocals, Value.category, maxLocals]; done) | rfl) ?_
  intro p e s m below meth c s₁ X0 hx hby hml hZ hown hnm hret hlk e0 N0
  show Goes p e s below (Q2 Z p1 h0 n0) n0 R2.cells R2.slots s₁ (mkF m 0 #[.val (.int p1)] [])
  refine g_iloadN X0 hx (hb hby d2_0) (v := p1) rfl (pc' := 1) rfl ?_
  refine g_bipush X0 hx (hb hby d2_1) (v := 65) (by decide) (pc' := 3) rfl ?_
  refine g_ii_ge X0 hx (a := p1.toInt) (b := 65) rfl rfl (hb hby d2_3) (by decide) (pc' := 8) (by decide) (pc2 := 6) rfl (fun c1 => ?_) (fun c1 => ?_)
  · refine g_iloadN X0 hx (hb hby d2_8) (v := p1) rfl (pc' := 9) rfl ?_
    refine g_bipush X0 hx (hb hby d2_9) (v := 90) (by decide) (pc' := 11) rfl ?_
    refine g_ii_gt X0 hx (a := p1.toInt) (b := 90) rfl rfl (hb hby d2_11) (by decide) (pc' := 16) (by decide) (pc2 := 14) rfl (fun c2 => ?_) (fun c2 => ?_)
    · refine g_iloadN X0 hx (hb hby d2_16) (v := p1) rfl (pc' := 17) rfl ?_
      refine g_bipush X0 hx (hb hby d2_17) (v := 95) (by decide) (pc' := 19) rfl ?_
      refine g_ii_ge X0 hx (a := p1.toInt) (b := 95) rfl rfl (hb hby d2_19) (by decide) (pc' := 24) (by decide) (pc2 := 22) rfl (fun c3 => ?_) (fun c3 => ?_)
      · refine g_iloadN X0 hx (hb hby d2_24) (v := p1) rfl (pc' := 25) rfl ?_
        refine g_bipush X0 hx (hb hby d2_25) (v := 95) (by decide) (pc' := 27) rfl ?_
        refine g_ii_ne X0 hx (a := p1.toInt) (b := 95) rfl rfl (hb hby d2_27) (by decide) (pc' := 32) (by decide) (pc2 := 30) rfl (fun c4 => ?_) (fun c4 => ?_)
        · refine g_iloadN X0 hx (hb hby d2_32) (v := p1) rfl (pc' := 33) rfl ?_
          refine g_bipush X0 hx (hb hby d2_33) (v := 97) (by decide) (pc' := 35) rfl ?_
          refine g_ii_ge X0 hx (a := p1.toInt) (b := 97) rfl rfl (hb hby d2_35) (by decide) (pc' := 40) (by decide) (pc2 := 38) rfl (fun c5 => ?_) (fun c5 => ?_)
          · refine g_iloadN X0 hx (hb hby d2_40) (v := p1) rfl (pc' := 41) rfl ?_
            refine g_bipush X0 hx (hb hby d2_41) (v := 122) (by decide) (pc' := 43) rfl ?_
            refine g_ii_gt X0 hx (a := p1.toInt) (b := 122) rfl rfl (hb hby d2_43) (by decide) (pc' := 48) (by decide) (pc2 := 46) rfl (fun c6 => ?_) (fun c6 => ?_)
            · refine g_iloadN X0 hx (hb hby d2_48) (v := p1) rfl (pc' := 49) rfl ?_
              refine g_sipush X0 hx (hb hby d2_49) (v := 192) (by decide) (pc' := 52) rfl ?_
              refine g_ii_ge X0 hx (a := p1.toInt) (b := 192) rfl rfl (hb hby d2_52) (by decide) (pc' := 57) (by decide) (pc2 := 55) rfl (fun c7 => ?_) (fun c7 => ?_)
              · refine g_iloadN X0 hx (hb hby d2_57) (v := p1) rfl (pc' := 58) rfl ?_
                refine g_sipush X0 hx (hb hby d2_58) (v := 215) (by decide) (pc' := 61) rfl ?_
                refine g_ii_eq X0 hx (a := p1.toInt) (b := 215) rfl rfl (hb hby d2_61) (by decide) (pc' := 71) (by decide) (pc2 := 64) rfl (fun c8 => ?_) (fun c8 => ?_)
                · refine g_iconst X0 hx (hb hby d2_71) (v := 1) (by decide) (pc' := 72) rfl ?_
                  refine g_retZ X0 hx hlk (by decide) hret (hb hby d2_72) N0 (by decide) (by decide) ?_
                  exact ⟨_, rfl, by first | exact Or.inl ⟨by omega, rfl⟩ | exact Or.inr ⟨by omega, rfl⟩, e0⟩
                · refine g_iloadN X0 hx (hb hby d2_64) (v := p1) rfl (pc' := 65) rfl ?_
                  refine g_sipush X0 hx (hb hby d2_65) (v := 247) (by decide) (pc' := 68) rfl ?_
                  refine g_ii_ne X0 hx (a := p1.toInt) (b := 247) rfl rfl (hb hby d2_68) (by decide) (pc' := 73) (by decide) (pc2 := 71) rfl (fun c9 => ?_) (fun c9 => ?_)
                  · refine g_iloadN X0 hx (hb hby d2_73) (v := p1) rfl (pc' := 74) rfl ?_
                    refine g_sipush X0 hx (hb hby d2_74) (v := 767) (by decide) (pc' := 77) rfl ?_
                    refine g_ii_gt X0 hx (a := p1.toInt) (b := 767) rfl rfl (hb hby d2_77) (by decide) (pc' := 82) (by decide) (pc2 := 80) rfl (fun c10 => ?_) (fun c10 => ?_)
                    · refine g_iloadN X0 hx (hb hby d2_82) (v := p1) rfl (pc' := 83) rfl ?_
                      refine g_sipush X0 hx (hb hby d2_83) (v := 880) (by decide) (pc' := 86) rfl ?_
                      refine g_ii_ge X0 hx (a := p1.toInt) (b := 880) rfl rfl (hb hby d2_86) (by decide) (pc' := 91) (by decide) (pc2 := 89) rfl (fun c11 => ?_) (fun c11 => ?_)
                      · refine g_iloadN X0 hx (hb hby d2_91) (v := p1) rfl (pc' := 92) rfl ?_
                        refine g_sipush X0 hx (hb hby d2_92) (v := 894) (by decide) (pc' := 95) rfl ?_
                        refine g_ii_ne X0 hx (a := p1.toInt) (b := 894) rfl rfl (hb hby d2_95) (by decide) (pc' := 100) (by decide) (pc2 := 98) rfl (fun c12 => ?_) (fun c12 => ?_)
                        · refine g_iloadN X0 hx (hb hby d2_100) (v := p1) rfl (pc' := 101) rfl ?_
                          refine g_sipush X0 hx (hb hby d2_101) (v := 8191) (by decide) (pc' := 104) rfl ?_
                          refine g_ii_gt X0 hx (a := p1.toInt) (b := 8191) rfl rfl (hb hby d2_104) (by decide) (pc' := 109) (by decide) (pc2 := 107) rfl (fun c13 => ?_) (fun c13 => ?_)
                          · refine g_iloadN X0 hx (hb hby d2_109) (v := p1) rfl (pc' := 110) rfl ?_
                            refine g_sipush X0 hx (hb hby d2_110) (v := 8204) (by decide) (pc' := 113) rfl ?_
                            refine g_ii_ge X0 hx (a := p1.toInt) (b := 8204) rfl rfl (hb hby d2_113) (by decide) (pc' := 118) (by decide) (pc2 := 116) rfl (fun c14 => ?_) (fun c14 => ?_)
                            · refine g_iloadN X0 hx (hb hby d2_118) (v := p1) rfl (pc' := 119) rfl ?_
                              refine g_sipush X0 hx (hb hby d2_119) (v := 8205) (by decide) (pc' := 122) rfl ?_
                              refine g_ii_gt X0 hx (a := p1.toInt) (b := 8205) rfl rfl (hb hby d2_122) (by decide) (pc' := 127) (by decide) (pc2 := 125) rfl (fun c15 => ?_) (fun c15 => ?_)
                              · refine g_iloadN X0 hx (hb hby d2_127) (v := p1) rfl (pc' := 128) rfl ?_
                                refine g_sipush X0 hx (hb hby d2_128) (v := 8304) (by decide) (pc' := 131) rfl ?_
                                refine g_ii_ge X0 hx (a := p1.toInt) (b := 8304) rfl rfl (hb hby d2_131) (by decide) (pc' := 136) (by decide) (pc2 := 134) rfl (fun c16 => ?_) (fun c16 => ?_)
                                · refine g_iloadN X0 hx (hb hby d2_136) (v := p1) rfl (pc' := 137) rfl ?_
                                  refine g_sipush X0 hx (hb hby d2_137) (v := 8591) (by decide) (pc' := 140) rfl ?_
                                  refine g_ii_gt X0 hx (a := p1.toInt) (b := 8591) rfl rfl (hb hby d2_140) (by decide) (pc' := 145) (by decide) (pc2 := 143) rfl (fun c17 => ?_) (fun c17 => ?_)
                                  · refine g_iloadN X0 hx (hb hby d2_145) (v := p1) rfl (pc' := 146) rfl ?_
                                    refine g_sipush X0 hx (hb hby d2_146) (v := 11264) (by decide) (pc' := 149) rfl ?_
                                    refine g_ii_ge X0 hx (a := p1.toInt) (b := 11264) rfl rfl (hb hby d2_149) (by decide) (pc' := 154) (by decide) (pc2 := 152) rfl (fun c18 => ?_) (fun c18 => ?_)
                                    · refine g_iloadN X0 hx (hb hby d2_154) (v := p1) rfl (pc' := 155) rfl ?_
                                      refine g_sipush X0 hx (hb hby d2_155) (v := 12271) (by decide) (pc' := 158) rfl ?_
                                      refine g_ii_gt X0 hx (a := p1.toInt) (b := 12271) rfl rfl (hb hby d2_158) (by decide) (pc' := 163) (by decide) (pc2 := 161) rfl (fun c19 => ?_) (fun c19 => ?_)
                                      · refine g_iloadN X0 hx (hb hby d2_163) (v := p1) rfl (pc' := 164) rfl ?_
                                        refine g_sipush X0 hx (hb hby d2_164) (v := 12289) (by decide) (pc' := 167) rfl ?_
                                        refine g_ii_ge X0 hx (a := p1.toInt) (b := 12289) rfl rfl (hb hby d2_167) (by decide) (pc' := 172) (by decide) (pc2 := 170) rfl (fun c20 => ?_) (fun c20 => ?_)
                                        · refine g_iloadN X0 hx (hb hby d2_172) (v := p1) rfl (pc' := 173) rfl ?_
                                          refine g_ldc X0 hx hZ hown (hb hby d2_173) (v := 55295) (hw _ (List.mem_of_getElem? (i := 1) rfl)) (pc' := 175) rfl ?_
                                          refine g_ii_gt X0 hx (a := p1.toInt) (b := 55295) rfl rfl (hb hby d2_175) (by decide) (pc' := 180) (by decide) (pc2 := 178) rfl (fun c21 => ?_) (fun c21 => ?_)
                                          · refine g_iloadN X0 hx (hb hby d2_180) (v := p1) rfl (pc' := 181) rfl ?_
                                            refine g_ldc X0 hx hZ hown (hb hby d2_181) (v := 63744) (hw _ (List.mem_of_getElem? (i := 2) rfl)) (pc' := 183) rfl ?_
                                            refine g_ii_ge X0 hx (a := p1.toInt) (b := 63744) rfl rfl (hb hby d2_183) (by decide) (pc' := 188) (by decide) (pc2 := 186) rfl (fun c22 => ?_) (fun c22 => ?_)
                                            · refine g_iloadN X0 hx (hb hby d2_188) (v := p1) rfl (pc' := 189) rfl ?_
                                              refine g_ldc X0 hx hZ hown (hb hby d2_189) (v := 64975) (hw _ (List.mem_of_getElem? (i := 3) rfl)) (pc' := 191) rfl ?_
                                              refine g_ii_gt X0 hx (a := p1.toInt) (b := 64975) rfl rfl (hb hby d2_191) (by decide) (pc' := 196) (by decide) (pc2 := 194) rfl (fun c23 => ?_) (fun c23 => ?_)
                                              · refine g_iloadN X0 hx (hb hby d2_196) (v := p1) rfl (pc' := 197) rfl ?_
                                                refine g_ldc X0 hx hZ hown (hb hby d2_197) (v := 65008) (hw _ (List.mem_of_getElem? (i := 4) rfl)) (pc' := 199) rfl ?_
                                                refine g_ii_ge X0 hx (a := p1.toInt) (b := 65008) rfl rfl (hb hby d2_199) (by decide) (pc' := 204) (by decide) (pc2 := 202) rfl (fun c24 => ?_) (fun c24 => ?_)
                                                · refine g_iloadN X0 hx (hb hby d2_204) (v := p1) rfl (pc' := 205) rfl ?_
                                                  refine g_ldc X0 hx hZ hown (hb hby d2_205) (v := 65533) (hw _ (List.mem_of_getElem? (i := 5) rfl)) (pc' := 207) rfl ?_
                                                  refine g_ii_gt X0 hx (a := p1.toInt) (b := 65533) rfl rfl (hb hby d2_207) (by decide) (pc' := 212) (by decide) (pc2 := 210) rfl (fun c25 => ?_) (fun c25 => ?_)
                                                  · refine g_iloadN X0 hx (hb hby d2_212) (v := p1) rfl (pc' := 213) rfl ?_
                                                    refine g_ldc X0 hx hZ hown (hb hby d2_213) (v := 65536) (hw _ (List.mem_of_getElem? (i := 6) rfl)) (pc' := 215) rfl ?_
                                                    refine g_ii_ge X0 hx (a := p1.toInt) (b := 65536) rfl rfl (hb hby d2_215) (by decide) (pc' := 220) (by decide) (pc2 := 218) rfl (fun c26 => ?_) (fun c26 => ?_)
                                                    · refine g_iloadN X0 hx (hb hby d2_220) (v := p1) rfl (pc' := 221) rfl ?_
                                                      refine g_ldc X0 hx hZ hown (hb hby d2_221) (v := 983039) (hw _ (List.mem_of_getElem? (i := 7) rfl)) (pc' := 223) rfl ?_
                                                      refine g_ii_le X0 hx (a := p1.toInt) (b := 983039) rfl rfl (hb hby d2_223) (by decide) (pc' := 230) (by decide) (pc2 := 226) rfl (fun c27 => ?_) (fun c27 => ?_)
                                                      · refine g_iconst X0 hx (hb hby d2_230) (v := 0) (by decide) (pc' := 231) rfl ?_
                                                        refine g_retZ X0 hx hlk (by decide) hret (hb hby d2_231) N0 (by decide) (by decide) ?_
                                                        exact ⟨_, rfl, by first | exact Or.inl ⟨by omega, rfl⟩ | exact Or.inr ⟨by omega, rfl⟩, e0⟩
                                                      · refine g_iconst X0 hx (hb hby d2_226) (v := 1) (by decide) (pc' := 227) rfl ?_
                                                        refine g_goto X0 hx (hb hby d2_227) (by decide) (pc' := 231) (by decide) ?_
                                                        refine g_retZ X0 hx hlk (by decide) hret (hb hby d2_231) N0 (by decide) (by decide) ?_
                                                        exact ⟨_, rfl, by first | exact Or.inl ⟨by omega, rfl⟩ | exact Or.inr ⟨by omega, rfl⟩, e0⟩
                                                    · refine g_iconst X0 hx (hb hby d2_218) (v := 1) (by decide) (pc' := 219) rfl ?_
                                                      refine g_retZ X0 hx hlk (by decide) hret (hb hby d2_219) N0 (by decide) (by decide) ?_
                                                      exact ⟨_, rfl, by first | exact Or.inl ⟨by omega, rfl⟩ | exact Or.inr ⟨by omega, rfl⟩, e0⟩
                                                  · refine g_iconst X0 hx (hb hby d2_210) (v := 0) (by decide) (pc' := 211) rfl ?_
                                                    refine g_retZ X0 hx hlk (by decide) hret (hb hby d2_211) N0 (by decide) (by decide) ?_
                                                    exact ⟨_, rfl, by first | exact Or.inl ⟨by omega, rfl⟩ | exact Or.inr ⟨by omega, rfl⟩, e0⟩
                                                · refine g_iconst X0 hx (hb hby d2_202) (v := 1) (by decide) (pc' := 203) rfl ?_
                                                  refine g_retZ X0 hx hlk (by decide) hret (hb hby d2_203) N0 (by decide) (by decide) ?_
                                                  exact ⟨_, rfl, by first | exact Or.inl ⟨by omega, rfl⟩ | exact Or.inr ⟨by omega, rfl⟩, e0⟩
                                              · refine g_iconst X0 hx (hb hby d2_194) (v := 0) (by decide) (pc' := 195) rfl ?_
                                                refine g_retZ X0 hx hlk (by decide) hret (hb hby d2_195) N0 (by decide) (by decide) ?_
                                                exact ⟨_, rfl, by first | exact Or.inl ⟨by omega, rfl⟩ | exact Or.inr ⟨by omega, rfl⟩, e0⟩
                                            · refine g_iconst X0 hx (hb hby d2_186) (v := 1) (by decide) (pc' := 187) rfl ?_
                                              refine g_retZ X0 hx hlk (by decide) hret (hb hby d2_187) N0 (by decide) (by decide) ?_
                                              exact ⟨_, rfl, by first | exact Or.inl ⟨by omega, rfl⟩ | exact Or.inr ⟨by omega, rfl⟩, e0⟩
                                          · refine g_iconst X0 hx (hb hby d2_178) (v := 0) (by decide) (pc' := 179) rfl ?_
                                            refine g_retZ X0 hx hlk (by decide) hret (hb hby d2_179) N0 (by decide) (by decide) ?_
                                            exact ⟨_, rfl, by first | exact Or.inl ⟨by omega, rfl⟩ | exact Or.inr ⟨by omega, rfl⟩, e0⟩
                                        · refine g_iconst X0 hx (hb hby d2_170) (v := 1) (by decide) (pc' := 171) rfl ?_
                                          refine g_retZ X0 hx hlk (by decide) hret (hb hby d2_171) N0 (by decide) (by decide) ?_
                                          exact ⟨_, rfl, by first | exact Or.inl ⟨by omega, rfl⟩ | exact Or.inr ⟨by omega, rfl⟩, e0⟩
                                      · refine g_iconst X0 hx (hb hby d2_161) (v := 0) (by decide) (pc' := 162) rfl ?_
                                        refine g_retZ X0 hx hlk (by decide) hret (hb hby d2_162) N0 (by decide) (by decide) ?_
                                        exact ⟨_, rfl, by first | exact Or.inl ⟨by omega, rfl⟩ | exact Or.inr ⟨by omega, rfl⟩, e0⟩
                                    · refine g_iconst X0 hx (hb hby d2_152) (v := 1) (by decide) (pc' := 153) rfl ?_
                                      refine g_retZ X0 hx hlk (by decide) hret (hb hby d2_153) N0 (by decide) (by decide) ?_
                                      exact ⟨_, rfl, by first | exact Or.inl ⟨by omega, rfl⟩ | exact Or.inr ⟨by omega, rfl⟩, e0⟩
                                  · refine g_iconst X0 hx (hb hby d2_143) (v := 0) (by decide) (pc' := 144) rfl ?_
                                    refine g_retZ X0 hx hlk (by decide) hret (hb hby d2_144) N0 (by decide) (by decide) ?_
                                    exact ⟨_, rfl, by first | exact Or.inl ⟨by omega, rfl⟩ | exact Or.inr ⟨by omega, rfl⟩, e0⟩
                                · refine g_iconst X0 hx (hb hby d2_134) (v := 1) (by decide) (pc' := 135) rfl ?_
                                  refine g_retZ X0 hx hlk (by decide) hret (hb hby d2_135) N0 (by decide) (by decide) ?_
                                  exact ⟨_, rfl, by first | exact Or.inl ⟨by omega, rfl⟩ | exact Or.inr ⟨by omega, rfl⟩, e0⟩
                              · refine g_iconst X0 hx (hb hby d2_125) (v := 0) (by decide) (pc' := 126) rfl ?_
                                refine g_retZ X0 hx hlk (by decide) hret (hb hby d2_126) N0 (by decide) (by decide) ?_
                                exact ⟨_, rfl, by first | exact Or.inl ⟨by omega, rfl⟩ | exact Or.inr ⟨by omega, rfl⟩, e0⟩
                            · refine g_iconst X0 hx (hb hby d2_116) (v := 1) (by decide) (pc' := 117) rfl ?_
                              refine g_retZ X0 hx hlk (by decide) hret (hb hby d2_117) N0 (by decide) (by decide) ?_
                              exact ⟨_, rfl, by first | exact Or.inl ⟨by omega, rfl⟩ | exact Or.inr ⟨by omega, rfl⟩, e0⟩
                          · refine g_iconst X0 hx (hb hby d2_107) (v := 0) (by decide) (pc' := 108) rfl ?_
                            refine g_retZ X0 hx hlk (by decide) hret (hb hby d2_108) N0 (by decide) (by decide) ?_
                            exact ⟨_, rfl, by first | exact Or.inl ⟨by omega, rfl⟩ | exact Or.inr ⟨by omega, rfl⟩, e0⟩
                        · refine g_iconst X0 hx (hb hby d2_98) (v := 1) (by decide) (pc' := 99) rfl ?_
                          refine g_retZ X0 hx hlk (by decide) hret (hb hby d2_99) N0 (by decide) (by decide) ?_
                          exact ⟨_, rfl, by first | exact Or.inl ⟨by omega, rfl⟩ | exact Or.inr ⟨by omega, rfl⟩, e0⟩
                      · refine g_iconst X0 hx (hb hby d2_89) (v := 1) (by decide) (pc' := 90) rfl ?_
                        refine g_retZ X0 hx hlk (by decide) hret (hb hby d2_90) N0 (by decide) (by decide) ?_
                        exact ⟨_, rfl, by first | exact Or.inl ⟨by omega, rfl⟩ | exact Or.inr ⟨by omega, rfl⟩, e0⟩
                    · refine g_iconst X0 hx (hb hby d2_80) (v := 0) (by decide) (pc' := 81) rfl ?_
                      refine g_retZ X0 hx hlk (by decide) hret (hb hby d2_81) N0 (by decide) (by decide) ?_
                      exact ⟨_, rfl, by first | exact Or.inl ⟨by omega, rfl⟩ | exact Or.inr ⟨by omega, rfl⟩, e0⟩
                  · refine g_iconst X0 hx (hb hby d2_71) (v := 1) (by decide) (pc' := 72) rfl ?_
                    refine g_retZ X0 hx hlk (by decide) hret (hb hby d2_72) N0 (by decide) (by decide) ?_
                    exact ⟨_, rfl, by first | exact Or.inl ⟨by omega, rfl⟩ | exact Or.inr ⟨by omega, rfl⟩, e0⟩
              · refine g_iconst X0 hx (hb hby d2_55) (v := 1) (by decide) (pc' := 56) rfl ?_
                refine g_retZ X0 hx hlk (by decide) hret (hb hby d2_56) N0 (by decide) (by decide) ?_
                exact ⟨_, rfl, by first | exact Or.inl ⟨by omega, rfl⟩ | exact Or.inr ⟨by omega, rfl⟩, e0⟩
            · refine g_iconst X0 hx (hb hby d2_46) (v := 0) (by decide) (pc' := 47) rfl ?_
              refine g_retZ X0 hx hlk (by decide) hret (hb hby d2_47) N0 (by decide) (by decide) ?_
              exact ⟨_, rfl, by first | exact Or.inl ⟨by omega, rfl⟩ | exact Or.inr ⟨by omega, rfl⟩, e0⟩
          · refine g_iconst X0 hx (hb hby d2_38) (v := 1) (by decide) (pc' := 39) rfl ?_
            refine g_retZ X0 hx hlk (by decide) hret (hb hby d2_39) N0 (by decide) (by decide) ?_
            exact ⟨_, rfl, by first | exact Or.inl ⟨by omega, rfl⟩ | exact Or.inr ⟨by omega, rfl⟩, e0⟩
        · refine g_iconst X0 hx (hb hby d2_30) (v := 0) (by decide) (pc' := 31) rfl ?_
          refine g_retZ X0 hx hlk (by decide) hret (hb hby d2_31) N0 (by decide) (by decide) ?_
          exact ⟨_, rfl, by first | exact Or.inl ⟨by omega, rfl⟩ | exact Or.inr ⟨by omega, rfl⟩, e0⟩
      · refine g_iconst X0 hx (hb hby d2_22) (v := 1) (by decide) (pc' := 23) rfl ?_
        refine g_retZ X0 hx hlk (by decide) hret (hb hby d2_23) N0 (by decide) (by decide) ?_
        exact ⟨_, rfl, by first | exact Or.inl ⟨by omega, rfl⟩ | exact Or.inr ⟨by omega, rfl⟩, e0⟩
    · refine g_iconst X0 hx (hb hby d2_14) (v := 0) (by decide) (pc' := 15) rfl ?_
      refine g_retZ X0 hx hlk (by decide) hret (hb hby d2_15) N0 (by decide) (by decide) ?_
      exact ⟨_, rfl, by first | exact Or.inl ⟨by omega, rfl⟩ | exact Or.inr ⟨by omega, rfl⟩, e0⟩
  · refine g_iconst X0 hx (hb hby d2_6) (v := 1) (by decide) (pc' := 7) rfl ?_
    refine g_retZ X0 hx hlk (by decide) hret (hb hby d2_7) N0 (by decide) (by decide) ?_
    exact ⟨_, rfl, by first | exact Or.inl ⟨by omega, rfl⟩ | exact Or.inr ⟨by omega, rfl⟩, e0⟩
theorem pd_0 : parseMethodDescriptor "(I)Z" = some ⟨[.int], some .boolean⟩ := by decide +kernel
theorem pn_2 : plainFor (⟨"com/example/coextent/coextent/io/RdfXmlNamesIsNameStartPinLaw", "law", "(III)Z"⟩ : MethodName) = true := by first | exact plainFor_of_name (by first | (simp [plainName, overriddenIn]; done) | decide +kernel) | decide +kernel
def Q0 (Z : State) (p0 : Int32) (p1 : Int32) (p2 : Int32) (h0 : Heap) (n0 : Nat) (v : Option Value) (h : Heap) : Prop := v = some (.int 1)
set_option maxRecDepth 65536 in
set_option maxHeartbeats 40000000 in
theorem rm0 (l : Launch) (Z : State) (a0 : Array Value) (hw : ∀ d ∈ tables_1, d.before a0 Z = true) (ws : List Jvm.Cond) (p0 : Int32) (p1 : Int32) (p2 : Int32) (h0 : Heap) (n0 : Nat) (Z0 : n0 ≤ h0.size)  :
    Con l x code maxLocals ret ws room_1 Z #[(.int p0), (.int p1), (.int p2)] h0 n0 (Q0 Z p0 p1 p2 h0 n0) := by
  refine con_of (Ls0 := #[.val (.int p0), .val (.int p1), .val (.int p2), .unset, .unset, .unset]) pn_2 (fun m => by first | (simp [entryFrame, mkF, argsToLocals, Value.category, maxLocals]; done) | rfl) ?_
  intro p e s m below meth c s₁ X0 hx hby hml hZ hown hnm hret hlk e0 N0
  refine g_bipush X0 hx (hb hby at_0) (v := 29) (by decide) (pc' := 2) rfl ?_
  refine g_newIA X0 hx hZ (hw _ (List.mem_of_getElem? (i := 0) rfl)) e0 (n := 29) rfl (cap := 29) (by decide) (by decide) (hb hby at_2) (by decide) (by decide) (pc' := 4) rfl (fun T1 h2 a3 g4 X5 e6 E7 l8 A9  => ?_)
  have Z10 : n0 ≤ h2.size := Nat.le_trans Z0 E7.1
  have nl11 : n0 ≤ a3 := by rw [g4]; exact Z0
  refine g_dup X5 hx (hb hby at_4) rfl (pc' := 5) rfl ?_
  refine g_iconst X5 hx (hb hby at_5) (v := 0) (by decide) (pc' := 6) rfl ?_
  refine g_bipush X5 hx (hb hby at_6) (v := 65) (by decide) (pc' := 8) rfl ?_
  refine g_iastore X5 hx hZ e6 (k := 0) (x := (65 : Int32)) A9 rfl (by decide) N0 nl11 (hb hby at_8) (pc' := 9) rfl (fun T12 h13 L14 X15 e16 W17 N18 A19 => ?_)
  have Z20 : n0 ≤ h13.size := by rw [W17.size]; exact Z10
  obtain ⟨f22, A23⟩ : ∃ f, IA Z h13 a3 29 f := ⟨_, A19⟩
  clear A19
  refine g_dup X15 hx (hb hby at_9) rfl (pc' := 10) rfl ?_
  refine g_iconst X15 hx (hb hby at_10) (v := 1) (by decide) (pc' := 11) rfl ?_
  refine g_bipush X15 hx (hb hby at_11) (v := 90) (by decide) (pc' := 13) rfl ?_
  refine g_iastore X15 hx hZ e16 (k := 1) (x := (90 : Int32)) A23 rfl (by decide) N18 nl11 (hb hby at_13) (pc' := 14) rfl (fun T24 h25 L26 X27 e28 W29 N30 A31 => ?_)
  have Z32 : n0 ≤ h25.size := by rw [W29.size]; exact Z20
  obtain ⟨f34, A35⟩ : ∃ f, IA Z h25 a3 29 f := ⟨_, A31⟩
  clear A31
  refine g_dup X27 hx (hb hby at_14) rfl (pc' := 15) rfl ?_
  refine g_iconst X27 hx (hb hby at_15) (v := 2) (by decide) (pc' := 16) rfl ?_
  refine g_bipush X27 hx (hb hby at_16) (v := 95) (by decide) (pc' := 18) rfl ?_
  refine g_iastore X27 hx hZ e28 (k := 2) (x := (95 : Int32)) A35 rfl (by decide) N30 nl11 (hb hby at_18) (pc' := 19) rfl (fun T36 h37 L38 X39 e40 W41 N42 A43 => ?_)
  have Z44 : n0 ≤ h37.size := by rw [W41.size]; exact Z32
  obtain ⟨f46, A47⟩ : ∃ f, IA Z h37 a3 29 f := ⟨_, A43⟩
  clear A43
  refine g_dup X39 hx (hb hby at_19) rfl (pc' := 20) rfl ?_
  refine g_iconst X39 hx (hb hby at_20) (v := 3) (by decide) (pc' := 21) rfl ?_
  refine g_bipush X39 hx (hb hby at_21) (v := 97) (by decide) (pc' := 23) rfl ?_
  refine g_iastore X39 hx hZ e40 (k := 3) (x := (97 : Int32)) A47 rfl (by decide) N42 nl11 (hb hby at_23) (pc' := 24) rfl (fun T48 h49 L50 X51 e52 W53 N54 A55 => ?_)
  have Z56 : n0 ≤ h49.size := by rw [W53.size]; exact Z44
  obtain ⟨f58, A59⟩ : ∃ f, IA Z h49 a3 29 f := ⟨_, A55⟩
  clear A55
  refine g_dup X51 hx (hb hby at_24) rfl (pc' := 25) rfl ?_
  refine g_iconst X51 hx (hb hby at_25) (v := 4) (by decide) (pc' := 26) rfl ?_
  refine g_bipush X51 hx (hb hby at_26) (v := 122) (by decide) (pc' := 28) rfl ?_
  refine g_iastore X51 hx hZ e52 (k := 4) (x := (122 : Int32)) A59 rfl (by decide) N54 nl11 (hb hby at_28) (pc' := 29) rfl (fun T60 h61 L62 X63 e64 W65 N66 A67 => ?_)
  have Z68 : n0 ≤ h61.size := by rw [W65.size]; exact Z56
  obtain ⟨f70, A71⟩ : ∃ f, IA Z h61 a3 29 f := ⟨_, A67⟩
  clear A67
  refine g_dup X63 hx (hb hby at_29) rfl (pc' := 30) rfl ?_
  refine g_iconst X63 hx (hb hby at_30) (v := 5) (by decide) (pc' := 31) rfl ?_
  refine g_sipush X63 hx (hb hby at_31) (v := 192) (by decide) (pc' := 34) rfl ?_
  refine g_iastore X63 hx hZ e64 (k := 5) (x := (192 : Int32)) A71 rfl (by decide) N66 nl11 (hb hby at_34) (pc' := 35) rfl (fun T72 h73 L74 X75 e76 W77 N78 A79 => ?_)
  have Z80 : n0 ≤ h73.size := by rw [W77.size]; exact Z68
  obtain ⟨f82, A83⟩ : ∃ f, IA Z h73 a3 29 f := ⟨_, A79⟩
  clear A79
  refine g_dup X75 hx (hb hby at_35) rfl (pc' := 36) rfl ?_
  refine g_bipush X75 hx (hb hby at_36) (v := 6) (by decide) (pc' := 38) rfl ?_
  refine g_sipush X75 hx (hb hby at_38) (v := 214) (by decide) (pc' := 41) rfl ?_
  refine g_iastore X75 hx hZ e76 (k := 6) (x := (214 : Int32)) A83 rfl (by decide) N78 nl11 (hb hby at_41) (pc' := 42) rfl (fun T84 h85 L86 X87 e88 W89 N90 A91 => ?_)
  have Z92 : n0 ≤ h85.size := by rw [W89.size]; exact Z80
  obtain ⟨f94, A95⟩ : ∃ f, IA Z h85 a3 29 f := ⟨_, A91⟩
  clear A91
  refine g_dup X87 hx (hb hby at_42) rfl (pc' := 43) rfl ?_
  refine g_bipush X87 hx (hb hby at_43) (v := 7) (by decide) (pc' := 45) rfl ?_
  refine g_sipush X87 hx (hb hby at_45) (v := 216) (by decide) (pc' := 48) rfl ?_
  refine g_iastore X87 hx hZ e88 (k := 7) (x := (216 : Int32)) A95 rfl (by decide) N90 nl11 (hb hby at_48) (pc' := 49) rfl (fun T96 h97 L98 X99 e100 W101 N102 A103 => ?_)
  have Z104 : n0 ≤ h97.size := by rw [W101.size]; exact Z92
  obtain ⟨f106, A107⟩ : ∃ f, IA Z h97 a3 29 f := ⟨_, A103⟩
  clear A103
  refine g_dup X99 hx (hb hby at_49) rfl (pc' := 50) rfl ?_
  refine g_bipush X99 hx (hb hby at_50) (v := 8) (by decide) (pc' := 52) rfl ?_
  refine g_sipush X99 hx (hb hby at_52) (v := 246) (by decide) (pc' := 55) rfl ?_
  refine g_iastore X99 hx hZ e100 (k := 8) (x := (246 : Int32)) A107 rfl (by decide) N102 nl11 (hb hby at_55) (pc' := 56) rfl (fun T108 h109 L110 X111 e112 W113 N114 A115 => ?_)
  have Z116 : n0 ≤ h109.size := by rw [W113.size]; exact Z104
  obtain ⟨f118, A119⟩ : ∃ f, IA Z h109 a3 29 f := ⟨_, A115⟩
  clear A115
  refine g_dup X111 hx (hb hby at_56) rfl (pc' := 57) rfl ?_
  refine g_bipush X111 hx (hb hby at_57) (v := 9) (by decide) (pc' := 59) rfl ?_
  refine g_sipush X111 hx (hb hby at_59) (v := 248) (by decide) (pc' := 62) rfl ?_
  refine g_iastore X111 hx hZ e112 (k := 9) (x := (248 : Int32)) A119 rfl (by decide) N114 nl11 (hb hby at_62) (pc' := 63) rfl (fun T120 h121 L122 X123 e124 W125 N126 A127 => ?_)
  have Z128 : n0 ≤ h121.size := by rw [W125.size]; exact Z116
  obtain ⟨f130, A131⟩ : ∃ f, IA Z h121 a3 29 f := ⟨_, A127⟩
  clear A127
  refine g_dup X123 hx (hb hby at_63) rfl (pc' := 64) rfl ?_
  refine g_bipush X123 hx (hb hby at_64) (v := 10) (by decide) (pc' := 66) rfl ?_
  refine g_sipush X123 hx (hb hby at_66) (v := 767) (by decide) (pc' := 69) rfl ?_
  refine g_iastore X123 hx hZ e124 (k := 10) (x := (767 : Int32)) A131 rfl (by decide) N126 nl11 (hb hby at_69) (pc' := 70) rfl (fun T132 h133 L134 X135 e136 W137 N138 A139 => ?_)
  have Z140 : n0 ≤ h133.size := by rw [W137.size]; exact Z128
  obtain ⟨f142, A143⟩ : ∃ f, IA Z h133 a3 29 f := ⟨_, A139⟩
  clear A139
  refine g_dup X135 hx (hb hby at_70) rfl (pc' := 71) rfl ?_
  refine g_bipush X135 hx (hb hby at_71) (v := 11) (by decide) (pc' := 73) rfl ?_
  refine g_sipush X135 hx (hb hby at_73) (v := 880) (by decide) (pc' := 76) rfl ?_
  refine g_iastore X135 hx hZ e136 (k := 11) (x := (880 : Int32)) A143 rfl (by decide) N138 nl11 (hb hby at_76) (pc' := 77) rfl (fun T144 h145 L146 X147 e148 W149 N150 A151 => ?_)
  have Z152 : n0 ≤ h145.size := by rw [W149.size]; exact Z140
  obtain ⟨f154, A155⟩ : ∃ f, IA Z h145 a3 29 f := ⟨_, A151⟩
  clear A151
  refine g_dup X147 hx (hb hby at_77) rfl (pc' := 78) rfl ?_
  refine g_bipush X147 hx (hb hby at_78) (v := 12) (by decide) (pc' := 80) rfl ?_
  refine g_sipush X147 hx (hb hby at_80) (v := 893) (by decide) (pc' := 83) rfl ?_
  refine g_iastore X147 hx hZ e148 (k := 12) (x := (893 : Int32)) A155 rfl (by decide) N150 nl11 (hb hby at_83) (pc' := 84) rfl (fun T156 h157 L158 X159 e160 W161 N162 A163 => ?_)
  have Z164 : n0 ≤ h157.size := by rw [W161.size]; exact Z152
  obtain ⟨f166, A167⟩ : ∃ f, IA Z h157 a3 29 f := ⟨_, A163⟩
  clear A163
  refine g_dup X159 hx (hb hby at_84) rfl (pc' := 85) rfl ?_
  refine g_bipush X159 hx (hb hby at_85) (v := 13) (by decide) (pc' := 87) rfl ?_
  refine g_sipush X159 hx (hb hby at_87) (v := 895) (by decide) (pc' := 90) rfl ?_
  refine g_iastore X159 hx hZ e160 (k := 13) (x := (895 : Int32)) A167 rfl (by decide) N162 nl11 (hb hby at_90) (pc' := 91) rfl (fun T168 h169 L170 X171 e172 W173 N174 A175 => ?_)
  have Z176 : n0 ≤ h169.size := by rw [W173.size]; exact Z164
  obtain ⟨f178, A179⟩ : ∃ f, IA Z h169 a3 29 f := ⟨_, A175⟩
  clear A175
  refine g_dup X171 hx (hb hby at_91) rfl (pc' := 92) rfl ?_
  refine g_bipush X171 hx (hb hby at_92) (v := 14) (by decide) (pc' := 94) rfl ?_
  refine g_sipush X171 hx (hb hby at_94) (v := 8191) (by decide) (pc' := 97) rfl ?_
  refine g_iastore X171 hx hZ e172 (k := 14) (x := (8191 : Int32)) A179 rfl (by decide) N174 nl11 (hb hby at_97) (pc' := 98) rfl (fun T180 h181 L182 X183 e184 W185 N186 A187 => ?_)
  have Z188 : n0 ≤ h181.size := by rw [W185.size]; exact Z176
  obtain ⟨f190, A191⟩ : ∃ f, IA Z h181 a3 29 f := ⟨_, A187⟩
  clear A187
  refine g_dup X183 hx (hb hby at_98) rfl (pc' := 99) rfl ?_
  refine g_bipush X183 hx (hb hby at_99) (v := 15) (by decide) (pc' := 101) rfl ?_
  refine g_sipush X183 hx (hb hby at_101) (v := 8204) (by decide) (pc' := 104) rfl ?_
  refine g_iastore X183 hx hZ e184 (k := 15) (x := (8204 : Int32)) A191 rfl (by decide) N186 nl11 (hb hby at_104) (pc' := 105) rfl (fun T192 h193 L194 X195 e196 W197 N198 A199 => ?_)
  have Z200 : n0 ≤ h193.size := by rw [W197.size]; exact Z188
  obtain ⟨f202, A203⟩ : ∃ f, IA Z h193 a3 29 f := ⟨_, A199⟩
  clear A199
  refine g_dup X195 hx (hb hby at_105) rfl (pc' := 106) rfl ?_
  refine g_bipush X195 hx (hb hby at_106) (v := 16) (by decide) (pc' := 108) rfl ?_
  refine g_sipush X195 hx (hb hby at_108) (v := 8205) (by decide) (pc' := 111) rfl ?_
  refine g_iastore X195 hx hZ e196 (k := 16) (x := (8205 : Int32)) A203 rfl (by decide) N198 nl11 (hb hby at_111) (pc' := 112) rfl (fun T204 h205 L206 X207 e208 W209 N210 A211 => ?_)
  have Z212 : n0 ≤ h205.size := by rw [W209.size]; exact Z200
  obtain ⟨f214, A215⟩ : ∃ f, IA Z h205 a3 29 f := ⟨_, A211⟩
  clear A211
  refine g_dup X207 hx (hb hby at_112) rfl (pc' := 113) rfl ?_
  refine g_bipush X207 hx (hb hby at_113) (v := 17) (by decide) (pc' := 115) rfl ?_
  refine g_sipush X207 hx (hb hby at_115) (v := 8304) (by decide) (pc' := 118) rfl ?_
  refine g_iastore X207 hx hZ e208 (k := 17) (x := (8304 : Int32)) A215 rfl (by decide) N210 nl11 (hb hby at_118) (pc' := 119) rfl (fun T216 h217 L218 X219 e220 W221 N222 A223 => ?_)
  have Z224 : n0 ≤ h217.size := by rw [W221.size]; exact Z212
  obtain ⟨f226, A227⟩ : ∃ f, IA Z h217 a3 29 f := ⟨_, A223⟩
  clear A223
  refine g_dup X219 hx (hb hby at_119) rfl (pc' := 120) rfl ?_
  refine g_bipush X219 hx (hb hby at_120) (v := 18) (by decide) (pc' := 122) rfl ?_
  refine g_sipush X219 hx (hb hby at_122) (v := 8591) (by decide) (pc' := 125) rfl ?_
  refine g_iastore X219 hx hZ e220 (k := 18) (x := (8591 : Int32)) A227 rfl (by decide) N222 nl11 (hb hby at_125) (pc' := 126) rfl (fun T228 h229 L230 X231 e232 W233 N234 A235 => ?_)
  have Z236 : n0 ≤ h229.size := by rw [W233.size]; exact Z224
  obtain ⟨f238, A239⟩ : ∃ f, IA Z h229 a3 29 f := ⟨_, A235⟩
  clear A235
  refine g_dup X231 hx (hb hby at_126) rfl (pc' := 127) rfl ?_
  refine g_bipush X231 hx (hb hby at_127) (v := 19) (by decide) (pc' := 129) rfl ?_
  refine g_sipush X231 hx (hb hby at_129) (v := 11264) (by decide) (pc' := 132) rfl ?_
  refine g_iastore X231 hx hZ e232 (k := 19) (x := (11264 : Int32)) A239 rfl (by decide) N234 nl11 (hb hby at_132) (pc' := 133) rfl (fun T240 h241 L242 X243 e244 W245 N246 A247 => ?_)
  have Z248 : n0 ≤ h241.size := by rw [W245.size]; exact Z236
  obtain ⟨f250, A251⟩ : ∃ f, IA Z h241 a3 29 f := ⟨_, A247⟩
  clear A247
  refine g_dup X243 hx (hb hby at_133) rfl (pc' := 134) rfl ?_
  refine g_bipush X243 hx (hb hby at_134) (v := 20) (by decide) (pc' := 136) rfl ?_
  refine g_sipush X243 hx (hb hby at_136) (v := 12271) (by decide) (pc' := 139) rfl ?_
  refine g_iastore X243 hx hZ e244 (k := 20) (x := (12271 : Int32)) A251 rfl (by decide) N246 nl11 (hb hby at_139) (pc' := 140) rfl (fun T252 h253 L254 X255 e256 W257 N258 A259 => ?_)
  have Z260 : n0 ≤ h253.size := by rw [W257.size]; exact Z248
  obtain ⟨f262, A263⟩ : ∃ f, IA Z h253 a3 29 f := ⟨_, A259⟩
  clear A259
  refine g_dup X255 hx (hb hby at_140) rfl (pc' := 141) rfl ?_
  refine g_bipush X255 hx (hb hby at_141) (v := 21) (by decide) (pc' := 143) rfl ?_
  refine g_sipush X255 hx (hb hby at_143) (v := 12289) (by decide) (pc' := 146) rfl ?_
  refine g_iastore X255 hx hZ e256 (k := 21) (x := (12289 : Int32)) A263 rfl (by decide) N258 nl11 (hb hby at_146) (pc' := 147) rfl (fun T264 h265 L266 X267 e268 W269 N270 A271 => ?_)
  have Z272 : n0 ≤ h265.size := by rw [W269.size]; exact Z260
  obtain ⟨f274, A275⟩ : ∃ f, IA Z h265 a3 29 f := ⟨_, A271⟩
  clear A271
  refine g_dup X267 hx (hb hby at_147) rfl (pc' := 148) rfl ?_
  refine g_bipush X267 hx (hb hby at_148) (v := 22) (by decide) (pc' := 150) rfl ?_
  refine g_ldc X267 hx hZ hown (hb hby at_150) (v := 55295) (hw _ (List.mem_of_getElem? (i := 1) rfl)) (pc' := 152) rfl ?_
  refine g_iastore X267 hx hZ e268 (k := 22) (x := (55295 : Int32)) A275 rfl (by decide) N270 nl11 (hb hby at_152) (pc' := 153) rfl (fun T276 h277 L278 X279 e280 W281 N282 A283 => ?_)
  have Z284 : n0 ≤ h277.size := by rw [W281.size]; exact Z272
  obtain ⟨f286, A287⟩ : ∃ f, IA Z h277 a3 29 f := ⟨_, A283⟩
  clear A283
  refine g_dup X279 hx (hb hby at_153) rfl (pc' := 154) rfl ?_
  refine g_bipush X279 hx (hb hby at_154) (v := 23) (by decide) (pc' := 156) rfl ?_
  refine g_ldc X279 hx hZ hown (hb hby at_156) (v := 63744) (hw _ (List.mem_of_getElem? (i := 2) rfl)) (pc' := 158) rfl ?_
  refine g_iastore X279 hx hZ e280 (k := 23) (x := (63744 : Int32)) A287 rfl (by decide) N282 nl11 (hb hby at_158) (pc' := 159) rfl (fun T288 h289 L290 X291 e292 W293 N294 A295 => ?_)
  have Z296 : n0 ≤ h289.size := by rw [W293.size]; exact Z284
  obtain ⟨f298, A299⟩ : ∃ f, IA Z h289 a3 29 f := ⟨_, A295⟩
  clear A295
  refine g_dup X291 hx (hb hby at_159) rfl (pc' := 160) rfl ?_
  refine g_bipush X291 hx (hb hby at_160) (v := 24) (by decide) (pc' := 162) rfl ?_
  refine g_ldc X291 hx hZ hown (hb hby at_162) (v := 64975) (hw _ (List.mem_of_getElem? (i := 3) rfl)) (pc' := 164) rfl ?_
  refine g_iastore X291 hx hZ e292 (k := 24) (x := (64975 : Int32)) A299 rfl (by decide) N294 nl11 (hb hby at_164) (pc' := 165) rfl (fun T300 h301 L302 X303 e304 W305 N306 A307 => ?_)
  have Z308 : n0 ≤ h301.size := by rw [W305.size]; exact Z296
  obtain ⟨f310, A311⟩ : ∃ f, IA Z h301 a3 29 f := ⟨_, A307⟩
  clear A307
  refine g_dup X303 hx (hb hby at_165) rfl (pc' := 166) rfl ?_
  refine g_bipush X303 hx (hb hby at_166) (v := 25) (by decide) (pc' := 168) rfl ?_
  refine g_ldc X303 hx hZ hown (hb hby at_168) (v := 65008) (hw _ (List.mem_of_getElem? (i := 4) rfl)) (pc' := 170) rfl ?_
  refine g_iastore X303 hx hZ e304 (k := 25) (x := (65008 : Int32)) A311 rfl (by decide) N306 nl11 (hb hby at_170) (pc' := 171) rfl (fun T312 h313 L314 X315 e316 W317 N318 A319 => ?_)
  have Z320 : n0 ≤ h313.size := by rw [W317.size]; exact Z308
  obtain ⟨f322, A323⟩ : ∃ f, IA Z h313 a3 29 f := ⟨_, A319⟩
  clear A319
  refine g_dup X315 hx (hb hby at_171) rfl (pc' := 172) rfl ?_
  refine g_bipush X315 hx (hb hby at_172) (v := 26) (by decide) (pc' := 174) rfl ?_
  refine g_ldc X315 hx hZ hown (hb hby at_174) (v := 65533) (hw _ (List.mem_of_getElem? (i := 5) rfl)) (pc' := 176) rfl ?_
  refine g_iastore X315 hx hZ e316 (k := 26) (x := (65533 : Int32)) A323 rfl (by decide) N318 nl11 (hb hby at_176) (pc' := 177) rfl (fun T324 h325 L326 X327 e328 W329 N330 A331 => ?_)
  have Z332 : n0 ≤ h325.size := by rw [W329.size]; exact Z320
  obtain ⟨f334, A335⟩ : ∃ f, IA Z h325 a3 29 f := ⟨_, A331⟩
  clear A331
  refine g_dup X327 hx (hb hby at_177) rfl (pc' := 178) rfl ?_
  refine g_bipush X327 hx (hb hby at_178) (v := 27) (by decide) (pc' := 180) rfl ?_
  refine g_ldc X327 hx hZ hown (hb hby at_180) (v := 65536) (hw _ (List.mem_of_getElem? (i := 6) rfl)) (pc' := 182) rfl ?_
  refine g_iastore X327 hx hZ e328 (k := 27) (x := (65536 : Int32)) A335 rfl (by decide) N330 nl11 (hb hby at_182) (pc' := 183) rfl (fun T336 h337 L338 X339 e340 W341 N342 A343 => ?_)
  have Z344 : n0 ≤ h337.size := by rw [W341.size]; exact Z332
  obtain ⟨f346, A347⟩ : ∃ f, IA Z h337 a3 29 f := ⟨_, A343⟩
  clear A343
  refine g_dup X339 hx (hb hby at_183) rfl (pc' := 184) rfl ?_
  refine g_bipush X339 hx (hb hby at_184) (v := 28) (by decide) (pc' := 186) rfl ?_
  refine g_ldc X339 hx hZ hown (hb hby at_186) (v := 983039) (hw _ (List.mem_of_getElem? (i := 7) rfl)) (pc' := 188) rfl ?_
  refine g_iastore X339 hx hZ e340 (k := 28) (x := (983039 : Int32)) A347 rfl (by decide) N342 nl11 (hb hby at_188) (pc' := 189) rfl (fun T348 h349 L350 X351 e352 W353 N354 A355 => ?_)
  have Z356 : n0 ≤ h349.size := by rw [W353.size]; exact Z344
  obtain ⟨f358, A359⟩ : ∃ f, IA Z h349 a3 29 f := ⟨_, A355⟩
  clear A355
  refine g_astoreN X351 hx (hb hby at_189) rfl (Ls' := #[.val (.int p0), .val (.int p1), .val (.int p2), .val (.ref a3), .unset, .unset]) rfl (pc' := 190) rfl ?_
  refine g_iloadN X351 hx (hb hby at_190) (v := p1) rfl (pc' := 191) rfl ?_
  refine g_iconst X351 hx (hb hby at_191) (v := 1) (by decide) (pc' := 192) rfl ?_
  refine g_iand X351 hx (hb hby at_192) (pc' := 193) rfl ?_
  refine g_i0_ne X351 hx (a := (p1 &&& (1 : Int32)).toInt) rfl (hb hby at_193) (by decide) (pc' := 202) (by decide) (pc2 := 196) rfl (fun c360 => ?_) (fun c360 => ?_)
  · refine g_iloadN X351 hx (hb hby at_202) (v := p1) rfl (pc' := 203) rfl ?_
    refine g_iconst X351 hx (hb hby at_203) (v := 1) (by decide) (pc' := 204) rfl ?_
    refine g_iushr X351 hx (hb hby at_204) (pc' := 205) rfl ?_
    refine g_bipush X351 hx (hb hby at_205) (v := 29) (by decide) (pc' := 207) rfl ?_
    refine g_irem X351 hx (hb hby at_207) (by decide) (pc' := 208) rfl ?_
    refine g_istore X351 hx (hb hby at_208) (Ls' := #[.val (.int p0), .val (.int p1), .val (.int p2), .val (.ref a3), .unset, .val (.int ((XT.ushr p1 (1 : Int32)) % (29 : Int32)))]) rfl (pc' := 210) rfl ?_
    refine g_aloadN X351 hx (hb hby at_210) (v := (.ref a3)) rfl rfl (pc' := 211) rfl ?_
    refine g_iload X351 hx (hb hby at_211) (v := ((XT.ushr p1 (1 : Int32)) % (29 : Int32))) rfl (pc' := 213) rfl ?_
    have hu : (XT.ushr p1 (1 : Int32)).toInt = p1.toInt % 4294967296 / 2 := c_iushr p1 1 1 (by decide) (by decide)
    have hr := c_irem (XT.ushr p1 (1 : Int32)) 29 29 rfl
    obtain ⟨kn, hkn, hkl⟩ := i32_get (x := ((XT.ushr p1 (1 : Int32)) % (29 : Int32))) (by omega)
    refine g_iaload X351 hx hZ e352 (k := kn) A359 hkn (by omega) (hb hby at_213) (pc' := 214) rfl ?_
    refine g_iloadN X351 hx (hb hby at_214) (v := p2) rfl (pc' := 215) rfl ?_
    refine g_bipush X351 hx (hb hby at_215) (v := 7) (by decide) (pc' := 217) rfl ?_
    refine g_iand X351 hx (hb hby at_217) (pc' := 218) rfl ?_
    refine g_iconst X351 hx (hb hby at_218) (v := 3) (by decide) (pc' := 219) rfl ?_
    refine g_isub X351 hx (hb hby at_219) (pc' := 220) rfl ?_
    refine g_iadd X351 hx (hb hby at_220) (pc' := 221) rfl ?_
    refine g_istore X351 hx (hb hby at_221) (Ls' := #[.val (.int p0), .val (.int p1), .val (.int p2), .val (.ref a3), .val (.int ((f358 kn) + ((p2 &&& (7 : Int32)) - (3 : Int32)))), .val (.int ((XT.ushr p1 (1 : Int32)) % (29 : Int32)))]) rfl (pc' := 223) rfl ?_
    generalize ((f358 kn) + ((p2 &&& (7 : Int32)) - (3 : Int32))) = cz
    show Goes p e s below (Q0 Z p0 p1 p2 h0 n0) n0 room_1.cells room_1.slots T348 (mkF m 223 #[.val (.int p0), .val (.int p1), .val (.int p2), .val (.ref a3), .val (.int cz), .val (.int ((XT.ushr p1 (1 : Int32)) % (29 : Int32)))] [])
    refine g_iload X351 hx (hb hby at_223) (v := cz) rfl (pc' := 225) rfl ?_
    refine g_static X351 hx hZ hown (hw _ (List.mem_of_getElem? (i := 8) rfl)) (hw _ (List.mem_of_getElem? (i := 9) rfl)) (hw _ (List.mem_of_getElem? (i := 10) rfl)) (hw _ (List.mem_of_getElem? (i := 11) rfl)) (by decide) (argsL := [(.int cz)]) (rm1 l Z a0 hw cz h349 n0 Z356 ) rfl e352 (by rw [hml]; rfl) pd_0 rfl (rest := []) rfl (W := 0) (Nat.le_of_eq rfl) (by decide) (by decide) (by decide) (by decide) N354 (hb hby at_225) (pc' := 228) rfl (fun v361 T362 L363 X364 N365 q366 => ?_)
    obtain ⟨b367, rfl, f368, e369⟩ := q366
    show Goes p e s below (Q0 Z p0 p1 p2 h0 n0) n0 room_1.cells room_1.slots T362 (mkF m 228 #[.val (.int p0), .val (.int p1), .val (.int p2), .val (.ref a3), .val (.int cz), .val (.int ((XT.ushr p1 (1 : Int32)) % (29 : Int32)))] [(.int b367)])
    refine g_iload X364 hx (hb hby at_228) (v := cz) rfl (pc' := 230) rfl ?_
    refine g_static X364 hx hZ hown (hw _ (List.mem_of_getElem? (i := 12) rfl)) (hw _ (List.mem_of_getElem? (i := 13) rfl)) (hw _ (List.mem_of_getElem? (i := 14) rfl)) (hw _ (List.mem_of_getElem? (i := 15) rfl)) (by decide) (argsL := [(.int cz)]) (rm2 l Z a0 hw cz h349 n0 Z356 ) rfl e369 (by rw [hml]; rfl) pd_0 rfl (rest := [(.int b367)]) rfl (W := 1) (Nat.le_of_eq rfl) (by decide) (by decide) (by decide) (by decide) N365 (hb hby at_230) (pc' := 233) rfl (fun v370 T371 L372 X373 N374 q375 => ?_)
    obtain ⟨b376, rfl, f377, e378⟩ := q375
    show Goes p e s below (Q0 Z p0 p1 p2 h0 n0) n0 room_1.cells room_1.slots T371 (mkF m 233 #[.val (.int p0), .val (.int p1), .val (.int p2), .val (.ref a3), .val (.int cz), .val (.int ((XT.ushr p1 (1 : Int32)) % (29 : Int32)))] [(.int b376), (.int b367)])
    refine g_i0_ne X373 hx (a := b376.toInt) rfl (hb hby at_233) (by decide) (pc' := 240) (by decide) (pc2 := 236) rfl (fun c379 => ?_) (fun c379 => ?_)
    · refine g_iconst X373 hx (hb hby at_240) (v := 0) (by decide) (pc' := 241) rfl ?_
      refine g_ii_ne X373 hx (a := b367.toInt) (b := 0) rfl rfl (hb hby at_241) (by decide) (pc' := 248) (by decide) (pc2 := 244) rfl (fun c380 => False.elim (by omega)) (fun c380 => ?_)
      refine g_iconst X373 hx (hb hby at_244) (v := 1) (by decide) (pc' := 245) rfl ?_
      refine g_goto X373 hx (hb hby at_245) (by decide) (pc' := 249) (by decide) ?_
      refine g_retZ X373 hx hlk (by decide) hret (hb hby at_249) N374 (by decide) (by decide) ?_
      exact rfl
    · refine g_iconst X373 hx (hb hby at_236) (v := 1) (by decide) (pc' := 237) rfl ?_
      refine g_goto X373 hx (hb hby at_237) (by decide) (pc' := 241) (by decide) ?_
      refine g_ii_ne X373 hx (a := b367.toInt) (b := 1) rfl rfl (hb hby at_241) (by decide) (pc' := 248) (by decide) (pc2 := 244) rfl (fun c381 => False.elim (by omega)) (fun c381 => ?_)
      refine g_iconst X373 hx (hb hby at_244) (v := 1) (by decide) (pc' := 245) rfl ?_
      refine g_goto X373 hx (hb hby at_245) (by decide) (pc' := 249) (by decide) ?_
      refine g_retZ X373 hx hlk (by decide) hret (hb hby at_249) N374 (by decide) (by decide) ?_
      exact rfl
  · refine g_iloadN X351 hx (hb hby at_196) (v := p0) rfl (pc' := 197) rfl ?_
    refine g_istore X351 hx (hb hby at_197) (Ls' := #[.val (.int p0), .val (.int p1), .val (.int p2), .val (.ref a3), .val (.int p0), .unset]) rfl (pc' := 199) rfl ?_
    refine g_goto X351 hx (hb hby at_199) (by decide) (pc' := 223) (by decide) ?_
    refine g_iload X351 hx (hb hby at_223) (v := p0) rfl (pc' := 225) rfl ?_
    refine g_static X351 hx hZ hown (hw _ (List.mem_of_getElem? (i := 8) rfl)) (hw _ (List.mem_of_getElem? (i := 9) rfl)) (hw _ (List.mem_of_getElem? (i := 10) rfl)) (hw _ (List.mem_of_getElem? (i := 11) rfl)) (by decide) (argsL := [(.int p0)]) (rm1 l Z a0 hw p0 h349 n0 Z356 ) rfl e352 (by rw [hml]; rfl) pd_0 rfl (rest := []) rfl (W := 0) (Nat.le_of_eq rfl) (by decide) (by decide) (by decide) (by decide) N354 (hb hby at_225) (pc' := 228) rfl (fun v382 T383 L384 X385 N386 q387 => ?_)
    obtain ⟨b388, rfl, f389, e390⟩ := q387
    show Goes p e s below (Q0 Z p0 p1 p2 h0 n0) n0 room_1.cells room_1.slots T383 (mkF m 228 #[.val (.int p0), .val (.int p1), .val (.int p2), .val (.ref a3), .val (.int p0), .unset] [(.int b388)])
    refine g_iload X385 hx (hb hby at_228) (v := p0) rfl (pc' := 230) rfl ?_
    refine g_static X385 hx hZ hown (hw _ (List.mem_of_getElem? (i := 12) rfl)) (hw _ (List.mem_of_getElem? (i := 13) rfl)) (hw _ (List.mem_of_getElem? (i := 14) rfl)) (hw _ (List.mem_of_getElem? (i := 15) rfl)) (by decide) (argsL := [(.int p0)]) (rm2 l Z a0 hw p0 h349 n0 Z356 ) rfl e390 (by rw [hml]; rfl) pd_0 rfl (rest := [(.int b388)]) rfl (W := 1) (Nat.le_of_eq rfl) (by decide) (by decide) (by decide) (by decide) N386 (hb hby at_230) (pc' := 233) rfl (fun v391 T392 L393 X394 N395 q396 => ?_)
    obtain ⟨b397, rfl, f398, e399⟩ := q396
    show Goes p e s below (Q0 Z p0 p1 p2 h0 n0) n0 room_1.cells room_1.slots T392 (mkF m 233 #[.val (.int p0), .val (.int p1), .val (.int p2), .val (.ref a3), .val (.int p0), .unset] [(.int b397), (.int b388)])
    refine g_i0_ne X394 hx (a := b397.toInt) rfl (hb hby at_233) (by decide) (pc' := 240) (by decide) (pc2 := 236) rfl (fun c400 => ?_) (fun c400 => ?_)
    · refine g_iconst X394 hx (hb hby at_240) (v := 0) (by decide) (pc' := 241) rfl ?_
      refine g_ii_ne X394 hx (a := b388.toInt) (b := 0) rfl rfl (hb hby at_241) (by decide) (pc' := 248) (by decide) (pc2 := 244) rfl (fun c401 => False.elim (by omega)) (fun c401 => ?_)
      refine g_iconst X394 hx (hb hby at_244) (v := 1) (by decide) (pc' := 245) rfl ?_
      refine g_goto X394 hx (hb hby at_245) (by decide) (pc' := 249) (by decide) ?_
      refine g_retZ X394 hx hlk (by decide) hret (hb hby at_249) N395 (by decide) (by decide) ?_
      exact rfl
    · refine g_iconst X394 hx (hb hby at_236) (v := 1) (by decide) (pc' := 237) rfl ?_
      refine g_goto X394 hx (hb hby at_237) (by decide) (pc' := 241) (by decide) ?_
      refine g_ii_ne X394 hx (a := b388.toInt) (b := 1) rfl rfl (hb hby at_241) (by decide) (pc' := 248) (by decide) (pc2 := 244) rfl (fun c402 => False.elim (by omega)) (fun c402 => ?_)
      refine g_iconst X394 hx (hb hby at_244) (v := 1) (by decide) (pc' := 245) rfl ?_
      refine g_goto X394 hx (hb hby at_245) (by decide) (pc' := 249) (by decide) ?_
      refine g_retZ X394 hx hlk (by decide) hret (hb hby at_249) N395 (by decide) (by decide) ?_
      exact rfl
set_option maxRecDepth 65536 in
set_option maxHeartbeats 40000000 in
theorem comes_1 {Post : Tables → Env → Array Value → State → Outcome → State → Prop} (hpost : ∀ tb e args s v u, (limb_1_1.after args s (.returned v) u = true ∧ limb_1_2.after args s (.returned v) u = true ∧ True) → FrameEnd s (.returned v) u (Jvm.fieldLocs frame_1_writes args s ++ Jvm.arrayLocs frame_1_arrays args s ++ Jvm.staticLocs frame_1_statics s) 16 128 → Post tb e args s (.returned v) u) :
    ArmFor flags0 classFile x code maxLocals ret World_1 tables_1 room_1 Calls_1 rest_1 Pre_1 Post := by
  intro l hfl _ _ p e ha hc hk s m args below hf hA hF happ hP
  obtain ⟨hcalls, hrest, hpre⟩ := hP
  obtain ⟨-, -, -, hnamed, -, -, -, hat⟩ := (Spec.applies_iff hf).mp happ
  obtain ⟨hg, hn⟩ := and_e (Cond.before_iff.mp (show (Jvm.Cond.and given_1 narrow_1).before args s = true from hpre))
  obtain ⟨hcount, k0⟩ := and_e hg
  obtain ⟨g0, k1⟩ := and_e k0
  obtain ⟨g1, k2⟩ := and_e k1
  have g2 := k2
  obtain ⟨w0, w1, w2, rfl⟩ : ∃ w0 w1 w2 : Value, args = #[w0, w1, w2] := by
    have hs : args.size = 3 := by simpa [Cond.value, given_1] using hcount
    obtain ⟨L⟩ := args
    match L, hs with
    | [w0, w1, w2], _ => exact ⟨w0, w1, w2, rfl⟩
  have hw := fun d (hd : d ∈ tables_1) => atoms_spec (ws := Jvm.Cond.code x code maxLocals ret :: tables_1) hat d (List.mem_cons_of_mem _ hd)
  obtain ⟨i0, z0⟩ := is_v g0
  obtain rfl : w0 = (.int i0) := Option.some.inj z0
  obtain ⟨i1, z1⟩ := is_v g1
  obtain rfl : w1 = (.int i1) := Option.some.inj z1
  obtain ⟨i2, z2⟩ := is_v g2
  obtain rfl : w2 = (.int i2) := Option.some.inj z2
  obtain ⟨n, o, h1, h2, h3, _, L, rfl, ⟨N, rfl⟩, hq⟩ := rm0 l s _ hw tables_1 i0 i1 i2  s.heap s.heap.size (Nat.le_refl _)  p e ha hc hk s m _ below hf ((Spec.applies_iff_loose hf).mp happ).1 ⟨rfl, State.Warmed39.refl s, rfl⟩ trivial
  exact ⟨n, _, h1, h2, h3, hpost _ _ _ _ _ _ ⟨Cond.after_iff.mpr rfl, Cond.after_iff.mpr (eq_i res_at (Term.int_eval (1)) rfl), trivial⟩ ⟨hq.1, hq.2.1, (hq.2.2.sift fun y hy => Or.inr (N y hy)).mono (by decide) (by decide)⟩⟩
theorem main_1_1 : Claimed_1_1 := comes_1 fun _ _ _ _ _ _ h hF => ⟨h.1, hF⟩
theorem main_1_2 : Claimed_1_2 := comes_1 fun _ _ _ _ _ _ h hF => ⟨h.2.1, hF⟩
end Jvm.Pilot.@@N@@
namespace Jvm.Pilot.@@N@@
open Jvm Jvm.ClassFile Sem Op Lib Jvm.Free Jvm.Stand Jvm.Pilot.@@N@@.Jvm.D
/-! MADE BY PROGRAM (witnessworld.py) out of the Statement's table words and the real class files: 9 classes; the members and pool entries that the words name. The judged class is class 1, her method 1. -/
namespace start1
open Jvm.ClassFile
def u (s : String) : CpInfo := .utf8 (stringToUtf16 s)
/-- a pool by its gaps: so many unusable entries, then the entry; so many at the end -/
def gap : Nat → List CpInfo → List CpInfo
  | 0, r => r
  | n + 1, r => .unusable :: gap n r
def poolList (es : List (Nat × CpInfo)) (last : Nat) : List CpInfo := es.foldr (fun e r => gap e.1 (e.2 :: r)) (gap last [])
def pool (es : List (Nat × CpInfo)) (last : Nat) : Array CpInfo := ⟨poolList es last⟩
def fileOf (pool : Array CpInfo) (this : Nat) (attrs : Array Attribute := #[]) (ms : Array MethodInfo := #[]) (fl : Nat := 33) (sup : Nat := 0) (ifs : Array Nat := #[]) (fds : Array FieldInfo := #[]) : ClassFile where
  minorVersion := 0
  majorVersion := 65
  constantPool := pool
  accessFlags := fl
  thisClass := this
  superClass := sup
  interfaces := ifs
  fields := fds
  methods := ms
  attributes := attrs
def plain (name : String) (sup : Option ClassId) : Class where
  name := name
  kind := .ordinary
  loader := none
  accessFlags := 33
  super := sup
  interfaces := #[]
  cf := none
  fields := #[]
  methods := #[]
  instanceTypes := #[]
  staticTypes := #[]
  resolved := #[]
  callSites := []
  init := .initialized
  statics := none
  mirror := none

def pool0 : Array CpInfo := pool [(5, u "<init>"), (0, u "()V"), (1, .class_ 10), (1, u "java/lang/Object")] 113

def k0m0 : Method := { name := "<init>", desc := "()V", sig := { parameters := [], returnType := none }, accessFlags := 1, code := none }
/-- java/lang/Object -/
def k0 : Class := { plain "java/lang/Object" none with
  accessFlags := 33
  interfaces := #[]
  cf := some (fileOf pool0 8 #[] #[{ accessFlags := 1, nameIndex := 5, descriptorIndex := 6, attributes := #[] }] 33 0 #[] #[])
  fields := #[]
  methods := #[k0m0]
  instanceTypes := #[]
  staticTypes := #[]
  resolved := Array.replicate 124 none
  statics := none }

def pool1 : Array CpInfo := pool [(2, .class_ 4), (1, u "java/lang/Object"), (0, u "<init>"), (0, u "()V"), (0, .integer 55295), (0, .integer 63744), (0, .integer 64975), (0, .integer 65008), (0, .integer 65533), (0, .integer 65536), (0, .integer 983039), (0, .methodref 15 16), (0, .class_ 17), (0, .nameAndType 18 19), (0, u "com/example/coextent/coextent/io/RdfXmlNames"), (0, u "isNameStart"), (0, u "(I)Z"), (0, .methodref 21 22), (0, .class_ 23), (0, .nameAndType 24 19), (0, u "com/example/coextent/coextent/io/RdfXmlNamesIsNameStartPinLaw"), (0, u "outside"), (2, u "law"), (0, u "(III)Z")] 5

def k1m0 : Method := { name := "<init>", desc := "()V", sig := { parameters := [], returnType := none }, accessFlags := 2, code := none }
def k1c1 : Code := { maxStack := 4, maxLocals := 6, code := code, exceptionTable := #[], attributes := #[] }
def k1m1 : Method := { name := "law", desc := "(III)Z", sig := { parameters := [.int, .int, .int], returnType := some .boolean }, accessFlags := 9, code := some k1c1 }
def k1c2 : Code := { maxStack := 2, maxLocals := 1, code := method_3_code, exceptionTable := #[], attributes := #[] }
def k1m2 : Method := { name := "outside", desc := "(I)Z", sig := { parameters := [.int], returnType := some .boolean }, accessFlags := 10, code := some k1c2 }
/-- com/example/coextent/coextent/io/RdfXmlNamesIsNameStartPinLaw -/
def k1 : Class := { plain "com/example/coextent/coextent/io/RdfXmlNamesIsNameStartPinLaw" (some 0) with
  accessFlags := 49
  interfaces := #[]
  cf := some (fileOf pool1 21 #[] #[{ accessFlags := 2, nameIndex := 5, descriptorIndex := 6, attributes := #[] }, { accessFlags := 9, nameIndex := 27, descriptorIndex := 28, attributes := #[] }, { accessFlags := 10, nameIndex := 24, descriptorIndex := 19, attributes := #[] }] 49 2 #[] #[])
  fields := #[]
  methods := #[k1m0, k1m1, k1m2]
  instanceTypes := #[]
  staticTypes := #[]
  resolved := Array.replicate 34 none
  statics := none }

def pool2 : Array CpInfo := pool [(2, .class_ 4), (1, u "java/lang/Object"), (0, u "<init>"), (0, u "()V"), (1, .class_ 10), (1, u "com/example/coextent/coextent/io/RdfXmlNames"), (4, u "NOT_NODES"), (0, u "Ljava/util/Set;"), (8, u "NOT_PROPERTIES"), (19, u "isNameStart"), (0, u "(I)Z"), (14, .integer 55295), (0, .integer 63744), (0, .integer 64975), (0, .integer 65008), (0, .integer 65533), (0, .integer 65536), (0, .integer 983039), (38, u "CORE_TERMS"), (11, u "OLD_TERMS"), (10, u "NOT_PROPERTY_ATTRIBUTES")] 32

def k2m0 : Method := { name := "<init>", desc := "()V", sig := { parameters := [], returnType := none }, accessFlags := 2, code := none }
def k2c1 : Code := { maxStack := 2, maxLocals := 1, code := prog_19_method_6_code, exceptionTable := #[], attributes := #[] }
def k2m1 : Method := { name := "isNameStart", desc := "(I)Z", sig := { parameters := [.int], returnType := some .boolean }, accessFlags := 8, code := some k2c1 }
/-- com/example/coextent/coextent/io/RdfXmlNames -/
def k2 : Class := { plain "com/example/coextent/coextent/io/RdfXmlNames" (some 0) with
  accessFlags := 48
  interfaces := #[]
  cf := some (fileOf pool2 8 #[] #[{ accessFlags := 2, nameIndex := 5, descriptorIndex := 6, attributes := #[] }, { accessFlags := 8, nameIndex := 45, descriptorIndex := 46, attributes := #[] }] 48 2 #[] #[{ accessFlags := 26, nameIndex := 106, descriptorIndex := 16, attributes := #[] }, { accessFlags := 26, nameIndex := 118, descriptorIndex := 16, attributes := #[] }, { accessFlags := 26, nameIndex := 15, descriptorIndex := 16, attributes := #[] }, { accessFlags := 26, nameIndex := 25, descriptorIndex := 16, attributes := #[] }, { accessFlags := 24, nameIndex := 129, descriptorIndex := 16, attributes := #[] }])
  fields := #[{ name := "CORE_TERMS", type := (.object "java/util/Set"), accessFlags := 26, slot := 0, constantValue := 0 }, { name := "OLD_TERMS", type := (.object "java/util/Set"), accessFlags := 26, slot := 1, constantValue := 0 }, { name := "NOT_NODES", type := (.object "java/util/Set"), accessFlags := 26, slot := 2, constantValue := 0 }, { name := "NOT_PROPERTIES", type := (.object "java/util/Set"), accessFlags := 26, slot := 3, constantValue := 0 }, { name := "NOT_PROPERTY_ATTRIBUTES", type := (.object "java/util/Set"), accessFlags := 24, slot := 4, constantValue := 0 }]
  methods := #[k2m0, k2m1]
  instanceTypes := #[]
  staticTypes := #[(.object "java/util/Set"), (.object "java/util/Set"), (.object "java/util/Set"), (.object "java/util/Set"), (.object "java/util/Set")]
  resolved := Array.replicate 162 none
  statics := none }

def pool3 : Array CpInfo := pool [(1, u "java/lang/Cloneable"), (0, .class_ 1), (0, u "java/lang/Object"), (0, .class_ 3)] 3

/-- java/lang/Cloneable -/
def k3 : Class := { plain "java/lang/Cloneable" (some 0) with
  accessFlags := 1537
  interfaces := #[]
  cf := some (fileOf pool3 2 #[] #[] 1537 4 #[] #[])
  fields := #[]
  methods := #[]
  instanceTypes := #[]
  staticTypes := #[]
  resolved := Array.replicate 8 none
  statics := none }

def pool4 : Array CpInfo := pool [(1, u "java/io/Serializable"), (0, .class_ 1), (0, u "java/lang/Object"), (0, .class_ 3)] 3

/-- java/io/Serializable -/
def k4 : Class := { plain "java/io/Serializable" (some 0) with
  accessFlags := 1537
  interfaces := #[]
  cf := some (fileOf pool4 2 #[] #[] 1537 4 #[] #[])
  fields := #[]
  methods := #[]
  instanceTypes := #[]
  staticTypes := #[]
  resolved := Array.replicate 8 none
  statics := none }

/-- the primitive byte -/
def k5 : Class := { plain "byte" none with kind := .primitive 'B', accessFlags := 0x411 }
/-- [B -/
def k6 : Class := { plain "[B" (some 0) with kind := .array 5 .byte, interfaces := #[3, 4], accessFlags := 1041 }

/-- the primitive int -/
def k7 : Class := { plain "int" none with kind := .primitive 'I', accessFlags := 0x411 }
/-- [I -/
def k8 : Class := { plain "[I" (some 0) with kind := .array 7 .int, interfaces := #[3, 4], accessFlags := 1041 }

def heap : Heap := #[]
def classes : Array Class := #[k0, k1, k2, k3, k4, k5, k6, k7, k8]
def interned : List (Array UInt16 × Addr) := []
def slotsUsed : Nat := 0
def theMethod : MethodId := ⟨1, 1⟩
def args0 : Array Value := #[.int 5, .int 300, .int 7]
def aboutOver (below : List Frame) : State where
  vm := { classes := classes, interned := interned.toArray }
  heap := heap
  slotsUsed := slotsUsed
  threads := #[{ frames := .invoking theMethod args0 :: below }]
def below0 : List Frame := [.native { method := ⟨0, 0⟩, args := #[] }]
def about1 : State := aboutOver below0
def p0 : Program := .bare "" "" ""
def e0 : Env := launch0.env 0 0 0
theorem w_frames : about1.frames = Frame.invoking theMethod args0 :: below0 := rfl
set_option maxRecDepth 65536 in
theorem w_args : argsFit about1.vm theMethod args0 = true := by decide +kernel
set_option maxRecDepth 65536 in
theorem w_heap : heapFits about1 = true := by decide +kernel
set_option maxRecDepth 65536 in
theorem w_runnable : about1.curStatus? = some .runnable := by decide +kernel
set_option maxRecDepth 65536 in
theorem w_alone : about1.alone = true := by decide +kernel
set_option maxRecDepth 65536 in
theorem w_named : about1.methodNamed? x = some theMethod := by decide +kernel
set_option maxRecDepth 65536 in
theorem w_hears : about1.hears theMethod below0 = true := by decide +kernel
set_option maxRecDepth 65536 in
theorem w_ripe : about1.ripe theMethod args0 below0 = true := by decide +kernel
theorem w_running : about1.status = .running := rfl
set_option maxRecDepth 65536 in
theorem w_room : about1.hasRoom e0.platform room_1 = true :=
  launch0.hasRoom_least _ room_1 (by decide +kernel) (by decide +kernel) (by decide +kernel) (by decide +kernel) (by decide +kernel) (by decide +kernel)
theorem allAtoms_all (ts : List Jvm.Cond) (a : Array Jvm.Value) (st : Jvm.State) : (allAtoms ts).before a st = ts.all (fun c => c.before a st) := by
  induction ts with
  | nil => rfl
  | cons c t ih =>
    show (Jvm.Cond.and c (allAtoms t)).before a st = _
    rw [Jvm.Cond.before_and, ih, List.all_cons]
def words1 : List Jvm.Cond := Jvm.Cond.code x code maxLocals ret :: tables_1
/-- a 'code' word, met by the world's own term for the bytes: nothing is compared byte by byte -/
theorem code_word {y : MethodName} {bytes : ByteArray} {mx : Nat} {rt : Option FieldType} {a : Array Value} {s : State} {m : MethodId} {meth : Method} {c : Code} (h1 : s.methodNamed? y = some m) (h2 : s.vm.method? m = some meth) (h3 : meth.code = some c) (h4 : c.code = bytes)
    (h5 : (c.maxLocals == mx && c.exceptionTable.isEmpty && decide (c.maxStack ≤ mostOperands) && decide (meth.sig.returnType = rt) && !meth.locks && decide (parseMethodDescriptor y.desc = some meth.sig)) = true) : (Jvm.Cond.code y bytes mx rt).before a s = true := by
  simp only [Bool.and_eq_true, beq_iff_eq, Bool.not_eq_true', decide_eq_true_eq] at h5
  obtain ⟨⟨⟨⟨⟨g1, g2⟩, g3⟩, g4⟩, g5⟩, g6⟩ := h5
  simp [Cond.before, Cond.holds, Cond.value, h1, h2, h3, h4, g1, g2, g3, g4, g5, g6]
def isCode : Jvm.Cond → Bool
  | .code _ _ _ _ => true
  | _ => false
theorem all_split {L : List Jvm.Cond} {P : Jvm.Cond → Bool} (h1 : L.all (fun c => isCode c || P c) = true) (h2 : ∀ c ∈ L.filter isCode, P c = true) : L.all P = true := by
  refine List.all_eq_true.mpr fun c hc => ?_
  have h := List.all_eq_true.mp h1 c hc
  rcases Bool.eq_false_or_eq_true (isCode c) with hi | hi
  · exact h2 c (List.mem_filter.mpr ⟨hc, hi⟩)
  · simpa [hi] using h
set_option maxRecDepth 65536 in
theorem w_c0 : (Jvm.Cond.code x code maxLocals ret).before args0 about1 = true := code_word (m := ⟨1, 1⟩) (meth := k1m1) (c := k1c1) (by decide +kernel) rfl rfl rfl (by decide +kernel)
set_option maxRecDepth 65536 in
theorem w_c1 : (Jvm.Cond.code ({ cls := "com/example/coextent/coextent/io/RdfXmlNames", name := "isNameStart", desc := "(I)Z" } : Jvm.MethodName) prog_19_method_6_code (1 : Nat) (Option.some Jvm.ClassFile.FieldType.boolean)).before args0 about1 = true := code_word (m := ⟨2, 1⟩) (meth := k2m1) (c := k2c1) (by decide +kernel) rfl rfl rfl (by decide +kernel)
set_option maxRecDepth 65536 in
theorem w_c2 : (Jvm.Cond.code ({ cls := "com/example/coextent/coextent/io/RdfXmlNamesIsNameStartPinLaw", name := "outside", desc := "(I)Z" } : Jvm.MethodName) method_3_code (1 : Nat) (Option.some Jvm.ClassFile.FieldType.boolean)).before args0 about1 = true := code_word (m := ⟨1, 2⟩) (meth := k1m2) (c := k1c2) (by decide +kernel) rfl rfl rfl (by decide +kernel)
def codes1 : List Jvm.Cond := [Jvm.Cond.code x code maxLocals ret, Jvm.Cond.code ({ cls := "com/example/coextent/coextent/io/RdfXmlNames", name := "isNameStart", desc := "(I)Z" } : Jvm.MethodName) prog_19_method_6_code (1 : Nat) (Option.some Jvm.ClassFile.FieldType.boolean), Jvm.Cond.code ({ cls := "com/example/coextent/coextent/io/RdfXmlNamesIsNameStartPinLaw", name := "outside", desc := "(I)Z" } : Jvm.MethodName) method_3_code (1 : Nat) (Option.some Jvm.ClassFile.FieldType.boolean)]
set_option maxRecDepth 65536 in
theorem codes_eq : words1.filter isCode = codes1 := rfl
theorem w_codes : ∀ c ∈ words1.filter isCode, c.before args0 about1 = true := by
  rw [codes_eq]
  intro c hc
  simp only [codes1, List.mem_cons, List.not_mem_nil, or_false] at hc
  rcases hc with rfl | rfl | rfl
  · exact w_c0
  · exact w_c1
  · exact w_c2
set_option maxRecDepth 65536 in
theorem w_t1 : words1.all (fun c => isCode c || c.before args0 about1) = true := by decide +kernel
theorem w_tables : (allAtoms (Jvm.Cond.code x code maxLocals ret :: tables_1)).before args0 about1 = true := by
  rw [allAtoms_all]
  show words1.all (fun c => c.before args0 about1) = true
  refine all_split ?_ w_codes
  rw [w_t1]
set_option maxRecDepth 65536 in
theorem w_case : (Jvm.Cond.and given_1 narrow_1).before args0 about1 = true := by decide +kernel
theorem w_applies : (headSpec (Jvm.Cond.code x code maxLocals ret :: tables_1) room_1).applies x e0.platform about1 = true :=
  (Spec.applies_iff w_frames).mpr ⟨w_running, w_runnable, w_alone, w_named, w_hears, w_ripe, w_room, w_tables⟩
theorem atStart : AtStart classFile x code maxLocals ret World_1 tables_1 room_1 Calls_1 rest_1 Pre_1 launch0 p0 e0 about1 theMethod args0 below0 :=
  ⟨lists_1, trivial, launch0.admits_env _ _ _, launch0.least_env, fairChoices_fair.cas, fairChoices_fair.clock, w_frames, w_args, w_heap, w_applies, trivial, trivial, w_case⟩
end start1
theorem witness_1 : WitnessClaimed_1 := ⟨start1.p0, start1.e0, start1.about1, start1.theMethod, start1.args0, start1.below0, start1.atStart⟩
end Jvm.Pilot.@@N@@
