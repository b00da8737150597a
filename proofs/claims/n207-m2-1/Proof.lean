import JvmDerived
import JvmDerived.Pilot.@@N@@Statement
import JvmDerived.Pilot.@@N@@Code
set_option linter.unusedVariables false
set_option linter.unusedSimpArgs false
namespace Jvm.OwnKit
open Sem ClassFile Op Lib Jvm.Stand Jvm.Free Jvm.LawKit Jvm.RoadKit
/-- from here the run returns; it wrote new cells alone, and what it leaves is as Q says -/
def Goes (p : Program) (e : Env) (s : State) (below : List Frame) (Q : Option Value → Heap → Prop) (n0 C N : Nat) (T : State) (g : JFrame) : Prop :=
  ∃ s₂ o, Steps p.tables e below (T.setTop g) s₂ ∧ s₂.status = .running ∧ Ended s₂ below o ∧ ∃ v L, o = .returned v ∧ (Fr n0 L ∧ Q v s₂.heap) ∧ FrameEnd s o s₂ L C N
/-- a method's contract: entered with these arguments over the heap h it returns as Q says -/
abbrev Con (l : Launch) (y : MethodName) (bytes : ByteArray) (maxL : Nat) (ret : Option FieldType) (ws : List Jvm.Cond) (rm : Room) (Z : State) (as' : Array Value) (h : Heap) (n0 : Nat) (Q : Option Value → Heap → Prop) : Prop :=
  MetFree l y (head1 (Jvm.Cond.code y bytes maxL ret :: ws) rm) (fun a U => a = as' ∧ Z.Warmed39 U.vm ∧ U.heap = h) (fun _ _ _ _ _ => True) (fun _ U o U' => ∃ v L, o = .returned v ∧ (Fr n0 L ∧ Q v U'.heap) ∧ FrameEnd U o U' L rm.cells rm.slots)
section Laws
variable {p : Program} {l : Launch} {e : Env} {R : Room} {s : State} {m : MethodId} {args : Array Value} {below : List Frame} {meth : Method} {c : Code} {T T' : State} {locs : List Loc} {cells slots : Nat} {Z : State} {h : Heap} {a0 : Array Value} {Q : Option Value → Heap → Prop} {n0 C N pc pc' : Nat} {Ls Ls' : Array Slot} {st : List Value} {g g' : JFrame}
theorem Goes.go (k : ∀ t, Steps p.tables e below (T'.setTop g') t → Steps p.tables e below (T.setTop g) t) (h : Goes p e s below Q n0 C N T' g') : Goes p e s below Q n0 C N T g := by
  obtain ⟨s₂, o, h1, h2⟩ := h; exact ⟨s₂, o, k _ h1, h2⟩
/-- what opens every body's walk -/
theorem con_of {y : MethodName} {bytes : ByteArray} {maxL : Nat} {ret : Option FieldType} {ws : List Jvm.Cond} {rm : Room} {as' : Array Value} {Ls0 : Array Slot} (hn : plainFor y = true) (hef : ∀ m, entryFrame m as' maxL = mkF m 0 Ls0 [])
    (body : ∀ (p : Program) (e : Env) (s : State) (m : MethodId) (below : List Frame) (meth : Method) (c : Code) (s₁ : State), Stand p l e rm s m as' below meth c s₁ [] 0 0 → p.tables.exec = Jvm.exec → c.code = bytes → c.maxLocals = maxL → Z.Warmed39 s.vm → s.vm.findClass y.cls = some m.cls → meth.name = y.name → meth.sig.returnType = ret → meth.locks = false → s₁.heap = h → Fr n0 [] →
      Goes p e s below Q n0 rm.cells rm.slots s₁ (mkF m 0 Ls0 [])) : Con l y bytes maxL ret ws rm Z as' h n0 Q := by
  refine MetFree.of_bodySF hn hisR ?_
  intro p e s m args below meth c s₁ Bd hml0 hP hK
  obtain ⟨rfl, hZ, hh⟩ := hP
  have e0 : s₁.heap = h := by rw [← hh, Bd.state]; rfl
  have q := body p e s m below meth c s₁ (Stand.of_body Bd) Bd.exec Bd.bytes hml0 hZ (findClass_of_methodNamed Bd.named) (name_of_methodNamed Bd.named Bd.method).1 Bd.returns Bd.notSynchronized e0 (Fr.nil n0)
  rw [hef m]
  exact q
/-- a return -/
theorem g_ret (X : Stand p l e R s m args below meth c T locs cells slots) (hx : p.tables.exec = Jvm.exec) (hlk : meth.locks = false) {w : Value} {t : FieldType} {i : Instr} (hret : meth.sig.returnType = some t) (hn : narrow t w = w)
    (hi : (i = .ireturn ∧ (t = .int ∨ t = .boolean ∨ t = .byte ∨ t = .char ∨ t = .short) ∧ ∃ z, w = .int z) ∨ (i = .lreturn ∧ t = .long ∧ ∃ z, w = .long z) ∨ (i = .dreturn ∧ t = .double ∧ ∃ z, w = .double z) ∨ (i = .freturn ∧ t = .float ∧ ∃ z, w = .float z) ∨ (i = .areturn ∧ t.isReference = true ∧ w.isRef = true))
    (hd : decode c.code pc = .ok (i, 1)) (hN : Fr n0 locs) (hc : cells ≤ C) (hs : slots ≤ N) (hQ : Q (some w) T.heap) : Goes p e s below Q n0 C N T (mkF m pc Ls (w :: st)) := by
  obtain ⟨fs, hr, hrun, hended, hW, hsame⟩ := X.leave (v := some w) (fun z => by rw [hret] at z; cases z)
  exact ⟨_, _, retOut X hx hret hn hi hd hr, hrun, hended, _, _, rfl, ⟨hN, hQ⟩, ⟨_, rfl⟩, hW, hsame.mono hc hs⟩
theorem g_retI (X : Stand p l e R s m args below meth c T locs cells slots) (hx : p.tables.exec = Jvm.exec) (hlk : meth.locks = false) {z : Int32} (hret : meth.sig.returnType = some .int) (hd : decode c.code pc = .ok (.ireturn, 1)) (hN : Fr n0 locs) (hc : cells ≤ C) (hs : slots ≤ N) (hQ : Q (some (.int z)) T.heap) : Goes p e s below Q n0 C N T (mkF m pc Ls (.int z :: st)) :=
  g_ret X hx hlk hret rfl (Or.inl ⟨rfl, Or.inl rfl, _, rfl⟩) hd hN hc hs hQ
theorem g_retZ (X : Stand p l e R s m args below meth c T locs cells slots) (hx : p.tables.exec = Jvm.exec) (hlk : meth.locks = false) {z : Int32} (hz : z &&& 1 = z) (hret : meth.sig.returnType = some .boolean) (hd : decode c.code pc = .ok (.ireturn, 1)) (hN : Fr n0 locs) (hc : cells ≤ C) (hs : slots ≤ N) (hQ : Q (some (.int z)) T.heap) : Goes p e s below Q n0 C N T (mkF m pc Ls (.int z :: st)) :=
  g_ret X hx hlk hret (congrArg Value.int hz) (Or.inl ⟨rfl, Or.inr (Or.inl rfl), _, rfl⟩) hd hN hc hs hQ
theorem g_retJ (X : Stand p l e R s m args below meth c T locs cells slots) (hx : p.tables.exec = Jvm.exec) (hlk : meth.locks = false) {z : Int64} (hret : meth.sig.returnType = some .long) (hd : decode c.code pc = .ok (.lreturn, 1)) (hN : Fr n0 locs) (hc : cells ≤ C) (hs : slots ≤ N) (hQ : Q (some (.long z)) T.heap) : Goes p e s below Q n0 C N T (mkF m pc Ls (.long z :: st)) :=
  g_ret X hx hlk hret rfl (Or.inr (Or.inl ⟨rfl, rfl, _, rfl⟩)) hd hN hc hs hQ
theorem g_retA (X : Stand p l e R s m args below meth c T locs cells slots) (hx : p.tables.exec = Jvm.exec) (hlk : meth.locks = false) {v : Value} {t : FieldType} (hret : meth.sig.returnType = some t) (ht : t.isReference = true) (hn : narrow t v = v) (hv : v.isRef = true) (hd : decode c.code pc = .ok (.areturn, 1)) (hN : Fr n0 locs) (hc : cells ≤ C) (hs : slots ≤ N) (hQ : Q (some v) T.heap) : Goes p e s below Q n0 C N T (mkF m pc Ls (v :: st)) :=
  g_ret X hx hlk hret hn (Or.inr (Or.inr (Or.inr (Or.inr ⟨rfl, ht, hv⟩)))) hd hN hc hs hQ
theorem g_retV (X : Stand p l e R s m args below meth c T locs cells slots) (hx : p.tables.exec = Jvm.exec) (hlk : meth.locks = false) (hret : meth.sig.returnType = none) (hd : decode c.code pc = .ok (.return_, 1)) (hN : Fr n0 locs) (hc : cells ≤ C) (hs : slots ≤ N) (hQ : Q none T.heap) : Goes p e s below Q n0 C N T (mkF m pc Ls []) := by
  obtain ⟨fs, hr, hrun, hended, hW, hsame⟩ := X.leave (v := none) (fun _ => rfl)
  exact ⟨_, _, X.returnOut hx hret hd hr, hrun, hended, _, _, rfl, ⟨hN, hQ⟩, ⟨_, rfl⟩, hW, hsame.mono hc hs⟩
/-! fields and objects -/
theorem g_getF (X : Stand p l e R s m args below meth c T locs cells slots) (hx : p.tables.exec = Jvm.exec) (hZ : Z.Warmed39 s.vm) {own O n d : String} {i : Nat} (hown : s.vm.findClass own = some m.cls) (w : (Cond.fieldLink own i O n d).before a0 Z = true) (eT : T.heap = h) {a : Addr} {v : Value} (F : Fld Z h a O n d v) (hd : decode c.code pc = .ok (.getfield i, 3)) (hp : pc + 3 = pc')
    (k : ∀ T', Stand p l e R s m args below meth c T' locs cells slots → T'.heap = h → Goes p e s below Q n0 C N T' (mkF m pc' Ls (v :: st))) : Goes p e s below Q n0 C N T (mkF m pc Ls (.ref a :: st)) := by
  subst hp
  obtain ⟨T', X', e', st'⟩ := getF X hx hZ hown (host := "") (Or.inl w) Via.refl eT F (g := mkF m pc Ls (.ref a :: st)) rfl rfl hd
  exact (k T' X' e').go st'
theorem g_putF (X : Stand p l e R s m args below meth c T locs cells slots) (hx : p.tables.exec = Jvm.exec) (hZ : Z.Warmed39 s.vm) {own O n d K : String} {i kk : Nat} {ty : FieldType} (hown : s.vm.findClass own = some m.cls) (w : (Cond.fieldLink own i O n d).before a0 Z = true) (eT : T.heap = h) {a : Addr} {v old : Value} (F : Fld Z h a O n d old) (E : Exa Z h a K) (L : (Cond.lays K O n d).before a0 Z = true ∨ ((Cond.laysFinal K O n d).before a0 Z = true ∧ own = O ∧ meth.name = "<init>")) (wi : (Cond.instantiable K kk).before a0 Z = true)
    (hty : parseFieldDescriptor d = some ty) (hn : narrow ty v = v) (hf : fits ty v = true) (hN : Fr n0 locs) (ha : n0 ≤ a) (hd : decode c.code pc = .ok (.putfield i, 3)) (hp : pc + 3 = pc')
    (k : ∀ T' h' locs', Stand p l e R s m args below meth c T' locs' cells slots → T'.heap = h' → Wr h h' a (RoadKit.slotOf Z O n d) v → Fr n0 locs' → Goes p e s below Q n0 C N T' (mkF m pc' Ls st)) : Goes p e s below Q n0 C N T (mkF m pc Ls (v :: .ref a :: st)) := by
  subst hp
  obtain ⟨T', h', X', e', W', st'⟩ := putF X hx hZ hown (host := "") (Or.inl w) Via.refl eT F E L wi hty hn hf (g := mkF m pc Ls (v :: .ref a :: st)) rfl rfl hd
  exact (k T' h' _ X' e' W' (Fr.snoc X' hN ha)).go st'
theorem g_new (X : Stand p l e R s m args below meth c T locs cells slots) (hx : p.tables.exec = Jvm.exec) (hZ : Z.Warmed39 s.vm) {own K : String} {i n : Nat} (hown : s.vm.findClass own = some m.cls) (w : (Cond.classLink own i K).before a0 Z = true) (wi : (Cond.instantiable K n).before a0 Z = true) (wz : (Cond.initialized K).before a0 Z = true) (eT : T.heap = h) (hd : decode c.code pc = .ok (.new i, 3)) (hc : cells + 1 ≤ R.cells) (hl : slots + n ≤ R.slots) (hp : pc + 3 = pc')
    (k : ∀ T' h' a, a = h.size → Stand p l e R s m args below meth c T' locs (cells + 1) (slots + n) → T'.heap = h' → Ext h h' → a < h'.size → Exa Z h' a K → (∀ {O nm d : String} {ty : FieldType}, Laid Z a0 K O nm d → parseFieldDescriptor d = some ty → Fld Z h' a O nm d (defaultValue ty)) → Goes p e s below Q n0 C N T' (mkF m pc' Ls (.ref a :: st))) : Goes p e s below Q n0 C N T (mkF m pc Ls st) := by
  subst hp
  obtain ⟨T', h', X', e', E', A', D', -, st'⟩ := newO X hx hZ hown w wi wz eT (g := mkF m pc Ls st) rfl hd hc hl
  exact (k T' h' h.size rfl X' e' E' A'.lt A' D').go st'
theorem g_initO (X : Stand p l e R s m args below meth c T locs cells slots) (hx : p.tables.exec = Jvm.exec) (hZ : Z.Warmed39 s.vm) {own : String} {i : Nat} (hown : s.vm.findClass own = some m.cls) (w1 : (Cond.methodLink own i Lib.objectInit).before a0 Z = true) (w2 : (Cond.instanceMethod Lib.objectInit).before a0 Z = true) (w3 : (Cond.code Lib.objectInit ⟨#[0xb1]⟩ 1 none).before a0 Z = true) (eT : T.heap = h) (hsz : Ls.size = c.maxLocals) {a : Addr} (hd : decode c.code pc = .ok (.invokespecial i, 3))
    (hf : 1 ≤ R.frames) {W : Nat} (hW : (st.map fun v => v.category).sum ≤ W) (hl : W + 12 ≤ R.locals) (hp : pc + 3 = pc')
    (k : ∀ T', Stand p l e R s m args below meth c T' locs cells slots → T'.heap = h → Goes p e s below Q n0 C N T' (mkF m pc' Ls st)) : Goes p e s below Q n0 C N T (mkF m pc Ls (.ref a :: st)) := by
  subst hp
  obtain ⟨T', X', e', st'⟩ := initO X hx hZ hown w1 w2 w3 eT (g := mkF m pc Ls (.ref a :: st)) rfl hsz rfl hd hf (W := W) (by show 2 * 0 + _ ≤ _; omega) hl
  exact (k T' X' e').go st'
theorem g_getS (X : Stand p l e R s m args below meth c T locs cells slots) (hx : p.tables.exec = Jvm.exec) (hZ : Z.Warmed39 s.vm) {own O n d : String} {i : Nat} (hown : s.vm.findClass own = some m.cls) (w : (Cond.fieldLink own i O n d).before a0 Z = true) (eT : T.heap = h) {v : Value} (F : Sta Z h O n d v) (hd : decode c.code pc = .ok (.getstatic i, 3)) (hp : pc + 3 = pc')
    (k : ∀ T', Stand p l e R s m args below meth c T' locs cells slots → T'.heap = h → Goes p e s below Q n0 C N T' (mkF m pc' Ls (v :: st))) : Goes p e s below Q n0 C N T (mkF m pc Ls st) := by
  subst hp
  obtain ⟨T', X', e', st'⟩ := getS X hx hZ hown (host := "") w Via.refl eT F (g := mkF m pc Ls st) rfl hd
  exact (k T' X' e').go st'
theorem g_ldcF (X : Stand p l e R s m args below meth c T locs cells slots) (hx : p.tables.exec = Jvm.exec) (hZ : Z.Warmed39 s.vm) {own : String} {i : Nat} {b : UInt32} (hown : s.vm.findClass own = some m.cls) (w : (Cond.constantFloat own i b).before a0 Z = true) (hd : decode c.code pc = .ok (.ldc i, 2)) (hp : pc + 2 = pc')
    (k : Goes p e s below Q n0 C N T (mkF m pc' Ls (.float b :: st))) : Goes p e s below Q n0 C N T (mkF m pc Ls st) := by
  subst hp
  exact k.go fun t q => X.ldcFloatC hx hown (mvT hZ w) (g := mkF m pc Ls st) rfl hd t q
/-! calls: the callee's contract pays -/
theorem g_static (X : Stand p l e R s m args below meth c T locs cells slots) (hx : p.tables.exec = Jvm.exec) (hZ : Z.Warmed39 s.vm) {own : String} {i : Nat} {y : MethodName} {bytes : ByteArray} {maxL : Nat} {ret : Option FieldType} (hown : s.vm.findClass own = some m.cls) (w1 : (Cond.methodLink own i y).before a0 Z = true) (w2 : (Cond.static y).before a0 Z = true) (w3 : (Cond.initialized y.cls).before a0 Z = true) (w4 : (Cond.code y bytes maxL ret).before a0 Z = true) (hy : y.cls ≠ "java/lang/invoke/MethodHandle" ∧ y.cls ≠ "java/lang/invoke/VarHandle")
    {rm : Room} {argsL : List Value} {as' : Array Value} {Qy : Option Value → Heap → Prop} (hM : Con l y bytes maxL ret [] rm Z as' h n0 Qy) (has : argsL.toArray = as') (eT : T.heap = h) (hsz : Ls.size = c.maxLocals) {ps : List FieldType} {rt : Option FieldType} (pd : parseMethodDescriptor y.desc = some ⟨ps, rt⟩) (hlen : argsL.length = ps.length) {rest : List Value} (hst : st = argsL.reverse ++ rest) {W : Nat} (hW : (rest.map fun v => v.category).sum ≤ W)
    (hf : rm.frames + 1 ≤ R.frames) (hl : W + (maxL + 11) + rm.locals ≤ R.locals) (hc : cells + rm.cells ≤ R.cells) (hs : slots + rm.slots ≤ R.slots) (hN : Fr n0 locs) (hd : decode c.code pc = .ok (.invokestatic i, 3)) (hp : pc + 3 = pc')
    (k : ∀ v T' locs', Stand p l e R s m args below meth c T' locs' (cells + rm.cells) (slots + rm.slots) → Fr n0 locs' → Qy v T'.heap → Goes p e s below Q n0 C N T' (mkF m pc' Ls (v.toList ++ rest))) : Goes p e s below Q n0 C N T (mkF m pc Ls st) := by
  subst hp has
  obtain ⟨v, _, ⟨T', L', k', n'⟩, -, X', ⟨L, ⟨hNL, hQ⟩, q1, q2, q3⟩, st'⟩ := Jvm.LawKit.callS X hx (y := y) hown (mvT hZ w1) (mvT hZ w2) (mvT hZ w3) (mvT hZ w4) hy (backOf (W := W) (Q := fun v h L => Fr n0 L ∧ Qy v h) hM hZ w4 w3 hf hl) (g := mkF m pc Ls st) rfl hsz (argsL := argsL) (rest := rest) (lenOf pd hlen) hst (by show 2 * 0 + _ ≤ _; omega) hd (fun _ _ => ⟨rfl, eT, hc, hs⟩)
  dsimp only [Pt.U, Pt.locs, Pt.cells, Pt.slots] at X' q1 q2 q3 st' hQ
  subst q1 q2 q3
  exact (k v T' _ X' (Fr.app hN hNL) hQ).go st'
theorem g_special (X : Stand p l e R s m args below meth c T locs cells slots) (hx : p.tables.exec = Jvm.exec) (hZ : Z.Warmed39 s.vm) {own : String} {i : Nat} {y : MethodName} {bytes : ByteArray} {maxL : Nat} (hy1 : y.name = "<init>") (hown : s.vm.findClass own = some m.cls) (w1 : (Cond.methodLink own i y).before a0 Z = true) (w2 : (Cond.instanceMethod y).before a0 Z = true) (w3 : (Cond.initialized y.cls).before a0 Z = true) (w4 : (Cond.code y bytes maxL none).before a0 Z = true) (hy : y.cls ≠ "java/lang/invoke/MethodHandle" ∧ y.cls ≠ "java/lang/invoke/VarHandle")
    {rm : Room} {a : Addr} {argsL : List Value} {as' : Array Value} {Qy : Option Value → Heap → Prop} (hM : Con l y bytes maxL none [] rm Z as' h n0 Qy) (has : (.ref a :: argsL).toArray = as') (eT : T.heap = h) (hsz : Ls.size = c.maxLocals) {ps : List FieldType} {rt : Option FieldType} (pd : parseMethodDescriptor y.desc = some ⟨ps, rt⟩) (hlen : argsL.length = ps.length) {rest : List Value} (hst : st = argsL.reverse ++ .ref a :: rest) {W : Nat} (hW : (rest.map fun v => v.category).sum ≤ W)
    (hf : rm.frames + 1 ≤ R.frames) (hl : W + (maxL + 11) + rm.locals ≤ R.locals) (hc : cells + rm.cells ≤ R.cells) (hs : slots + rm.slots ≤ R.slots) (hN : Fr n0 locs) (hd : decode c.code pc = .ok (.invokespecial i, 3)) (hp : pc + 3 = pc')
    (k : ∀ v T' locs', Stand p l e R s m args below meth c T' locs' (cells + rm.cells) (slots + rm.slots) → Fr n0 locs' → Qy v T'.heap → Goes p e s below Q n0 C N T' (mkF m pc' Ls (v.toList ++ rest))) : Goes p e s below Q n0 C N T (mkF m pc Ls st) := by
  subst hp has
  obtain ⟨v, _, ⟨T', L', k', n'⟩, -, X', ⟨L, ⟨hNL, hQ⟩, q1, q2, q3⟩, st'⟩ := X.specialBack hx (y := y) hy1 hown (mvT hZ w1) (mvT hZ w2) (mvT hZ w4) hy (backOf (W := W) (Q := fun v h L => Fr n0 L ∧ Qy v h) hM hZ w4 w3 hf hl) (g := mkF m pc Ls st) rfl hsz (Steps.refl _) (a := a) (argsL := argsL) (rest := rest) (lenOf pd hlen) hst (by show 2 * 0 + _ ≤ _; omega) hd (fun _ _ => ⟨rfl, eT, hc, hs⟩)
  dsimp only [Pt.U, Pt.locs, Pt.cells, Pt.slots] at X' q1 q2 q3 st' hQ
  subst q1 q2 q3
  exact (k v T' _ X' (Fr.app hN hNL) hQ).go fun _ z => st'.trans z
theorem g_virtual (X : Stand p l e R s m args below meth c T locs cells slots) (hx : p.tables.exec = Jvm.exec) (hZ : Z.Warmed39 s.vm) {own K : String} {i : Nat} {y : MethodName} {bytes : ByteArray} {maxL : Nat} {ret : Option FieldType} (hown : s.vm.findClass own = some m.cls) (w1 : (Cond.methodLink own i y).before a0 Z = true) (w2 : (Cond.declares y).before a0 Z = true) (w5 : (Cond.selects K y y).before a0 Z = true) (w6 : (Cond.instanceMethod y).before a0 Z = true) (w3 : (Cond.initialized y.cls).before a0 Z = true) (w4 : (Cond.code y bytes maxL ret).before a0 Z = true) (hy : y.cls ≠ "java/lang/invoke/MethodHandle" ∧ y.cls ≠ "java/lang/invoke/VarHandle")
    {rm : Room} {a : Addr} {argsL : List Value} {as' : Array Value} {Qy : Option Value → Heap → Prop} (hM : Con l y bytes maxL ret [] rm Z as' h n0 Qy) (has : (.ref a :: argsL).toArray = as') (eT : T.heap = h) (E : Exa Z h a K) (hsz : Ls.size = c.maxLocals) {ps : List FieldType} {rt : Option FieldType} (pd : parseMethodDescriptor y.desc = some ⟨ps, rt⟩) (hlen : argsL.length = ps.length) {rest : List Value} (hst : st = argsL.reverse ++ .ref a :: rest) {W : Nat} (hW : (rest.map fun v => v.category).sum ≤ W)
    (hf : rm.frames + 1 ≤ R.frames) (hl : W + (maxL + 11) + rm.locals ≤ R.locals) (hc : cells + rm.cells ≤ R.cells) (hs : slots + rm.slots ≤ R.slots) (hN : Fr n0 locs) (hd : decode c.code pc = .ok (.invokevirtual i, 3)) (hp : pc + 3 = pc')
    (k : ∀ v T' locs', Stand p l e R s m args below meth c T' locs' (cells + rm.cells) (slots + rm.slots) → Fr n0 locs' → Qy v T'.heap → Goes p e s below Q n0 C N T' (mkF m pc' Ls (v.toList ++ rest))) : Goes p e s below Q n0 C N T (mkF m pc Ls st) := by
  subst hp has
  obtain ⟨cq, kq, qa, qb, qc⟩ := isOf hZ eT E
  obtain ⟨v, _, ⟨T', L', k', n'⟩, -, X', ⟨L, ⟨hNL, hQ⟩, q1, q2, q3⟩, st'⟩ := X.virtualBack hx (y := y) (z := y) hown (mvT hZ w1) (mvT hZ w2) (notFace_of_selects (args := #[]) (mvT hZ w5)) (mvT hZ w5) (mvT hZ w6) hy (backOf (W := W) (Q := fun v h L => Fr n0 L ∧ Qy v h) hM hZ w4 w3 hf hl) qa qc (g := mkF m pc Ls st) rfl hsz (Steps.refl _) (argsL := argsL) (rest := rest) (lenOf pd hlen) hst (by show 2 * 0 + _ ≤ _; omega) hd (fun _ _ => ⟨rfl, eT, hc, hs⟩)
  dsimp only [Pt.U, Pt.locs, Pt.cells, Pt.slots] at X' q1 q2 q3 st' hQ
  subst q1 q2 q3
  exact (k v T' _ X' (Fr.app hN hNL) hQ).go fun _ z => st'.trans z
/-! int arrays and long arrays, by their values -/
def IA (Z : State) (h : Heap) (a : Addr) (n : Nat) (f : Nat → Int32) : Prop := n < 2147483648 ∧ ∃ c : Cell, Arr Z h a c .int ∧ c.slots.size = n ∧ ∀ i, i < n → c.slots[i]? = some (.int (f i))
def LA (Z : State) (h : Heap) (a : Addr) (n : Nat) (f : Nat → Int64) : Prop := n < 2147483648 ∧ ∃ c : Cell, Arr Z h a c .long ∧ c.slots.size = n ∧ ∀ i, i < n → c.slots[i]? = some (.long (f i))
def zeroI : Nat → Int32 := fun _ => 0
def zeroL : Nat → Int64 := fun _ => 0
def oupd {A : Type} (f : Nat → A) (j : Nat) (v : A) : Nat → A := fun i => if i = j then v else f i
theorem nclamp {j : Int32} {k : Nat} (hj : j.toInt = (k : Int)) : j.toNatClampNeg = k ∧ ¬ j < 0 := by
  refine ⟨by simp only [Int32.toNatClampNeg, hj]; rfl, fun z => ?_⟩
  rw [Int32.lt_iff_toInt_lt, hj] at z; have : (0 : Int32).toInt = 0 := rfl; omega
theorem nin {j : Int32} {k n : Nat} (hj : j.toInt = (k : Int)) (hk : k < n) : ¬ (j < 0 ∨ n ≤ j.toNatClampNeg) := by
  obtain ⟨q1, q2⟩ := nclamp hj; rw [q1]; rintro (z | z)
  · exact q2 z
  · omega
theorem len32 {n : Nat} (hn : n < 2147483648) : (n.toInt32).toInt = (n : Int) := len_toInt hn
theorem g_iloadN (X : Stand p l e R s m args below meth c T locs cells slots) (hx : p.tables.exec = Jvm.exec) {k : Fin 4} {v : Int32} (hd : decode c.code pc = .ok (.iload_n k, 1)) (hl : Ls[k.val]? = some (.val (.int v))) (hp : pc + 1 = pc')
    (k : Goes p e s below Q n0 C N T (mkF m pc' Ls (.int v :: st))) : Goes p e s below Q n0 C N T (mkF m pc Ls (st)) := by
  subst hp; exact k.go fun _ q => XS.iloadN X.here hx rfl hd hl q
theorem g_iload (X : Stand p l e R s m args below meth c T locs cells slots) (hx : p.tables.exec = Jvm.exec) {k : Nat} {v : Int32} (hd : decode c.code pc = .ok (.iload k, 2)) (hl : Ls[k]? = some (.val (.int v))) (hp : pc + 2 = pc')
    (k : Goes p e s below Q n0 C N T (mkF m pc' Ls (.int v :: st))) : Goes p e s below Q n0 C N T (mkF m pc Ls (st)) := by
  subst hp; exact k.go fun _ q => XS.iload X.here hx rfl hd hl q
theorem g_lloadN (X : Stand p l e R s m args below meth c T locs cells slots) (hx : p.tables.exec = Jvm.exec) {k : Fin 4} {v : Int64} (hd : decode c.code pc = .ok (.lload_n k, 1)) (hl : Ls[k.val]? = some (.val (.long v))) (hp : pc + 1 = pc')
    (k : Goes p e s below Q n0 C N T (mkF m pc' Ls (.long v :: st))) : Goes p e s below Q n0 C N T (mkF m pc Ls (st)) := by
  subst hp; exact k.go fun _ q => XT.lloadN X.here hx rfl hd hl q
theorem g_lload (X : Stand p l e R s m args below meth c T locs cells slots) (hx : p.tables.exec = Jvm.exec) {k : Nat} {v : Int64} (hd : decode c.code pc = .ok (.lload k, 2)) (hl : Ls[k]? = some (.val (.long v))) (hp : pc + 2 = pc')
    (k : Goes p e s below Q n0 C N T (mkF m pc' Ls (.long v :: st))) : Goes p e s below Q n0 C N T (mkF m pc Ls (st)) := by
  subst hp; exact k.go fun _ q => XT.lload X.here hx rfl hd hl q
theorem g_aloadN (X : Stand p l e R s m args below meth c T locs cells slots) (hx : p.tables.exec = Jvm.exec) {k : Fin 4} {v : Value} (hd : decode c.code pc = .ok (.aload_n k, 1)) (hl : Ls[k.val]? = some (.val v)) (hv : v.isRef = true) (hp : pc + 1 = pc')
    (k : Goes p e s below Q n0 C N T (mkF m pc' Ls (v :: st))) : Goes p e s below Q n0 C N T (mkF m pc Ls (st)) := by
  subst hp; exact k.go fun _ q => XS.aloadN X.here hx rfl hd hl hv q
theorem g_aload (X : Stand p l e R s m args below meth c T locs cells slots) (hx : p.tables.exec = Jvm.exec) {k : Nat} {v : Value} (hd : decode c.code pc = .ok (.aload k, 2)) (hl : Ls[k]? = some (.val v)) (hv : v.isRef = true) (hp : pc + 2 = pc')
    (k : Goes p e s below Q n0 C N T (mkF m pc' Ls (v :: st))) : Goes p e s below Q n0 C N T (mkF m pc Ls (st)) := by
  subst hp; exact k.go fun _ q => XS.aload X.here hx rfl hd hl hv q
theorem g_istoreN (X : Stand p l e R s m args below meth c T locs cells slots) (hx : p.tables.exec = Jvm.exec) {k : Fin 4} {x : Int32} (hd : decode c.code pc = .ok (.istore_n k, 1)) (hl : storeLocals Ls k.val (.int x) = some Ls') (hp : pc + 1 = pc')
    (k : Goes p e s below Q n0 C N T (mkF m pc' Ls' (st))) : Goes p e s below Q n0 C N T (mkF m pc Ls (.int x :: st)) := by
  subst hp; exact k.go fun _ q => XS.istoreN X.here hx rfl hd rfl hl q
theorem g_istore (X : Stand p l e R s m args below meth c T locs cells slots) (hx : p.tables.exec = Jvm.exec) {k : Nat} {x : Int32} (hd : decode c.code pc = .ok (.istore k, 2)) (hl : storeLocals Ls k (.int x) = some Ls') (hp : pc + 2 = pc')
    (k : Goes p e s below Q n0 C N T (mkF m pc' Ls' (st))) : Goes p e s below Q n0 C N T (mkF m pc Ls (.int x :: st)) := by
  subst hp; exact k.go fun _ q => XS.istore X.here hx rfl hd rfl hl q
theorem g_lstoreN (X : Stand p l e R s m args below meth c T locs cells slots) (hx : p.tables.exec = Jvm.exec) {k : Fin 4} {x : Int64} (hd : decode c.code pc = .ok (.lstore_n k, 1)) (hl : storeLocals Ls k.val (.long x) = some Ls') (hp : pc + 1 = pc')
    (k : Goes p e s below Q n0 C N T (mkF m pc' Ls' (st))) : Goes p e s below Q n0 C N T (mkF m pc Ls (.long x :: st)) := by
  subst hp; exact k.go fun _ q => XT.lstoreN X.here hx rfl hd rfl hl q
theorem g_lstore (X : Stand p l e R s m args below meth c T locs cells slots) (hx : p.tables.exec = Jvm.exec) {k : Nat} {x : Int64} (hd : decode c.code pc = .ok (.lstore k, 2)) (hl : storeLocals Ls k (.long x) = some Ls') (hp : pc + 2 = pc')
    (k : Goes p e s below Q n0 C N T (mkF m pc' Ls' (st))) : Goes p e s below Q n0 C N T (mkF m pc Ls (.long x :: st)) := by
  subst hp; exact k.go fun _ q => XT.lstore X.here hx rfl hd rfl hl q
theorem g_astoreN (X : Stand p l e R s m args below meth c T locs cells slots) (hx : p.tables.exec = Jvm.exec) {k : Fin 4} {x : Value} (hd : decode c.code pc = .ok (.astore_n k, 1)) (hv : x.isRef = true) (hl : storeLocals Ls k.val x = some Ls') (hp : pc + 1 = pc')
    (k : Goes p e s below Q n0 C N T (mkF m pc' Ls' (st))) : Goes p e s below Q n0 C N T (mkF m pc Ls (x :: st)) := by
  subst hp; exact k.go fun _ q => XS.astoreN X.here hx rfl hd rfl hv hl q
theorem g_astore (X : Stand p l e R s m args below meth c T locs cells slots) (hx : p.tables.exec = Jvm.exec) {k : Nat} {x : Value} (hd : decode c.code pc = .ok (.astore k, 2)) (hv : x.isRef = true) (hl : storeLocals Ls k x = some Ls') (hp : pc + 2 = pc')
    (k : Goes p e s below Q n0 C N T (mkF m pc' Ls' (st))) : Goes p e s below Q n0 C N T (mkF m pc Ls (x :: st)) := by
  subst hp; exact k.go fun _ q => XS.astore X.here hx rfl hd rfl hv hl q
theorem g_iinc (X : Stand p l e R s m args below meth c T locs cells slots) (hx : p.tables.exec = Jvm.exec) {k : Nat} {cst : Int} {x v : Int32} (hd : decode c.code pc = .ok (.iinc k cst, 3)) (hv : Int32.ofInt cst = v) (hl : Ls[k]? = some (.val (.int x))) (hl' : storeLocals Ls k (.int (x + v)) = some Ls') (hp : pc + 3 = pc')
    (k : Goes p e s below Q n0 C N T (mkF m pc' Ls' (st))) : Goes p e s below Q n0 C N T (mkF m pc Ls (st)) := by
  subst hp; exact k.go fun _ q => XT.iincV X.here hx rfl v hd hv hl hl' q
theorem g_iconst (X : Stand p l e R s m args below meth c T locs cells slots) (hx : p.tables.exec = Jvm.exec) {i : Int} {v : Int32} (hd : decode c.code pc = .ok (.iconst i, 1)) (hv : Int32.ofInt i = v) (hp : pc + 1 = pc')
    (k : Goes p e s below Q n0 C N T (mkF m pc' Ls (.int v :: st))) : Goes p e s below Q n0 C N T (mkF m pc Ls (st)) := by
  subst hp; exact k.go fun _ q => XT.iconstV X.here hx rfl v hd hv q
theorem g_bipush (X : Stand p l e R s m args below meth c T locs cells slots) (hx : p.tables.exec = Jvm.exec) {i : Int} {v : Int32} (hd : decode c.code pc = .ok (.bipush i, 2)) (hv : (Int8.ofInt i).toInt32 = v) (hp : pc + 2 = pc')
    (k : Goes p e s below Q n0 C N T (mkF m pc' Ls (.int v :: st))) : Goes p e s below Q n0 C N T (mkF m pc Ls (st)) := by
  subst hp; exact k.go fun _ q => XT.bipushV X.here hx rfl v hd hv q
theorem g_sipush (X : Stand p l e R s m args below meth c T locs cells slots) (hx : p.tables.exec = Jvm.exec) {i : Int} {v : Int32} (hd : decode c.code pc = .ok (.sipush i, 3)) (hv : (Int16.ofInt i).toInt32 = v) (hp : pc + 3 = pc')
    (k : Goes p e s below Q n0 C N T (mkF m pc' Ls (.int v :: st))) : Goes p e s below Q n0 C N T (mkF m pc Ls (st)) := by
  subst hp; exact k.go fun _ q => XT.sipushV X.here hx rfl v hd hv q
theorem g_lconst (X : Stand p l e R s m args below meth c T locs cells slots) (hx : p.tables.exec = Jvm.exec) {k : Fin 2} {v : Int64} (hd : decode c.code pc = .ok (.lconst k, 1)) (hv : Int64.ofNat k = v) (hp : pc + 1 = pc')
    (k : Goes p e s below Q n0 C N T (mkF m pc' Ls (.long v :: st))) : Goes p e s below Q n0 C N T (mkF m pc Ls (st)) := by
  subst hp; exact k.go fun _ q => XT.lconstV X.here hx rfl v hd hv q
theorem g_null (X : Stand p l e R s m args below meth c T locs cells slots) (hx : p.tables.exec = Jvm.exec)  (hd : decode c.code pc = .ok (.aconst_null, 1))  (hp : pc + 1 = pc')
    (k : Goes p e s below Q n0 C N T (mkF m pc' Ls (.null :: st))) : Goes p e s below Q n0 C N T (mkF m pc Ls (st)) := by
  subst hp; exact k.go fun _ q => XS.aconstNull X.here hx rfl hd q
theorem g_ldc (X : Stand p l e R s m args below meth c T locs cells slots) (hx : p.tables.exec = Jvm.exec) (hZ : Z.Warmed39 s.vm) {own : String} {i : Nat} (hown : s.vm.findClass own = some m.cls) {v : Int32} (hd : decode c.code pc = .ok (.ldc i, 2)) (w : (Cond.constant own i v).before a0 Z = true) (hp : pc + 2 = pc')
    (k : Goes p e s below Q n0 C N T (mkF m pc' Ls (.int v :: st))) : Goes p e s below Q n0 C N T (mkF m pc Ls (st)) := by
  subst hp; exact k.go fun _ q => X.ldcI hx hown (mvT hZ w) rfl hd q
theorem g_ldcW (X : Stand p l e R s m args below meth c T locs cells slots) (hx : p.tables.exec = Jvm.exec) (hZ : Z.Warmed39 s.vm) {own : String} {i : Nat} (hown : s.vm.findClass own = some m.cls) {v : Int32} (hd : decode c.code pc = .ok (.ldc_w i, 3)) (w : (Cond.constant own i v).before a0 Z = true) (hp : pc + 3 = pc')
    (k : Goes p e s below Q n0 C N T (mkF m pc' Ls (.int v :: st))) : Goes p e s below Q n0 C N T (mkF m pc Ls (st)) := by
  subst hp; exact k.go fun _ q => X.ldcWI hx hown (mvT hZ w) rfl hd q
theorem g_ldc2 (X : Stand p l e R s m args below meth c T locs cells slots) (hx : p.tables.exec = Jvm.exec) (hZ : Z.Warmed39 s.vm) {own : String} {i : Nat} (hown : s.vm.findClass own = some m.cls) {v : Int64} (hd : decode c.code pc = .ok (.ldc2_w i, 3)) (w : (Cond.constantLong own i v).before a0 Z = true) (hp : pc + 3 = pc')
    (k : Goes p e s below Q n0 C N T (mkF m pc' Ls (.long v :: st))) : Goes p e s below Q n0 C N T (mkF m pc Ls (st)) := by
  subst hp; exact k.go fun _ q => X.ldc2J hx hown (mvT hZ w) rfl hd q
theorem g_iadd (X : Stand p l e R s m args below meth c T locs cells slots) (hx : p.tables.exec = Jvm.exec) {x y : Int32} (hd : decode c.code pc = .ok (.iadd, 1))  (hp : pc + 1 = pc')
    (k : Goes p e s below Q n0 C N T (mkF m pc' Ls (.int (x + y) :: st))) : Goes p e s below Q n0 C N T (mkF m pc Ls (.int y :: .int x :: st)) := by
  subst hp; exact k.go fun _ q => XS.iadd X.here hx rfl hd rfl q
theorem g_isub (X : Stand p l e R s m args below meth c T locs cells slots) (hx : p.tables.exec = Jvm.exec) {x y : Int32} (hd : decode c.code pc = .ok (.isub, 1))  (hp : pc + 1 = pc')
    (k : Goes p e s below Q n0 C N T (mkF m pc' Ls (.int (x - y) :: st))) : Goes p e s below Q n0 C N T (mkF m pc Ls (.int y :: .int x :: st)) := by
  subst hp; exact k.go fun _ q => XS.isub X.here hx rfl hd rfl q
theorem g_iand (X : Stand p l e R s m args below meth c T locs cells slots) (hx : p.tables.exec = Jvm.exec) {x y : Int32} (hd : decode c.code pc = .ok (.iand, 1))  (hp : pc + 1 = pc')
    (k : Goes p e s below Q n0 C N T (mkF m pc' Ls (.int (x &&& y) :: st))) : Goes p e s below Q n0 C N T (mkF m pc Ls (.int y :: .int x :: st)) := by
  subst hp; exact k.go fun _ q => XS.iand X.here hx rfl hd rfl q
theorem g_imul (X : Stand p l e R s m args below meth c T locs cells slots) (hx : p.tables.exec = Jvm.exec) {x y : Int32} (hd : decode c.code pc = .ok (.imul, 1))  (hp : pc + 1 = pc')
    (k : Goes p e s below Q n0 C N T (mkF m pc' Ls (.int (x * y) :: st))) : Goes p e s below Q n0 C N T (mkF m pc Ls (.int y :: .int x :: st)) := by
  subst hp; exact k.go fun _ q => XS.imul X.here hx rfl hd rfl q
theorem g_ior (X : Stand p l e R s m args below meth c T locs cells slots) (hx : p.tables.exec = Jvm.exec) {x y : Int32} (hd : decode c.code pc = .ok (.ior, 1))  (hp : pc + 1 = pc')
    (k : Goes p e s below Q n0 C N T (mkF m pc' Ls (.int (x ||| y) :: st))) : Goes p e s below Q n0 C N T (mkF m pc Ls (.int y :: .int x :: st)) := by
  subst hp; exact k.go fun _ q => XT.ior X.here hx rfl hd rfl q
theorem g_ixor (X : Stand p l e R s m args below meth c T locs cells slots) (hx : p.tables.exec = Jvm.exec) {x y : Int32} (hd : decode c.code pc = .ok (.ixor, 1))  (hp : pc + 1 = pc')
    (k : Goes p e s below Q n0 C N T (mkF m pc' Ls (.int (x ^^^ y) :: st))) : Goes p e s below Q n0 C N T (mkF m pc Ls (.int y :: .int x :: st)) := by
  subst hp; exact k.go fun _ q => XT.ixor X.here hx rfl hd rfl q
theorem g_ishl (X : Stand p l e R s m args below meth c T locs cells slots) (hx : p.tables.exec = Jvm.exec) {x y : Int32} (hd : decode c.code pc = .ok (.ishl, 1))  (hp : pc + 1 = pc')
    (k : Goes p e s below Q n0 C N T (mkF m pc' Ls (.int (x <<< (y &&& 31)) :: st))) : Goes p e s below Q n0 C N T (mkF m pc Ls (.int y :: .int x :: st)) := by
  subst hp; exact k.go fun _ q => XT.ishl X.here hx rfl hd rfl q
theorem g_ishr (X : Stand p l e R s m args below meth c T locs cells slots) (hx : p.tables.exec = Jvm.exec) {x y : Int32} (hd : decode c.code pc = .ok (.ishr, 1))  (hp : pc + 1 = pc')
    (k : Goes p e s below Q n0 C N T (mkF m pc' Ls (.int (x >>> (y &&& 31)) :: st))) : Goes p e s below Q n0 C N T (mkF m pc Ls (.int y :: .int x :: st)) := by
  subst hp; exact k.go fun _ q => XT.ishr X.here hx rfl hd rfl q
theorem g_iushr (X : Stand p l e R s m args below meth c T locs cells slots) (hx : p.tables.exec = Jvm.exec) {x y : Int32} (hd : decode c.code pc = .ok (.iushr, 1))  (hp : pc + 1 = pc')
    (k : Goes p e s below Q n0 C N T (mkF m pc' Ls (.int (XT.ushr x y) :: st))) : Goes p e s below Q n0 C N T (mkF m pc Ls (.int y :: .int x :: st)) := by
  subst hp; exact k.go fun _ q => XT.iushr X.here hx rfl hd rfl q
theorem g_ineg (X : Stand p l e R s m args below meth c T locs cells slots) (hx : p.tables.exec = Jvm.exec) {x : Int32} (hd : decode c.code pc = .ok (.ineg, 1))  (hp : pc + 1 = pc')
    (k : Goes p e s below Q n0 C N T (mkF m pc' Ls (.int (-x) :: st))) : Goes p e s below Q n0 C N T (mkF m pc Ls (.int x :: st)) := by
  subst hp; exact k.go fun _ q => XS.ineg X.here hx rfl hd rfl q
theorem g_idiv (X : Stand p l e R s m args below meth c T locs cells slots) (hx : p.tables.exec = Jvm.exec) {x y : Int32} (hd : decode c.code pc = .ok (.idiv, 1)) (hy : y ≠ 0) (hp : pc + 1 = pc')
    (k : Goes p e s below Q n0 C N T (mkF m pc' Ls (.int (x / y) :: st))) : Goes p e s below Q n0 C N T (mkF m pc Ls (.int y :: .int x :: st)) := by
  subst hp; exact k.go fun _ q => XS.idiv X.here hx rfl hd rfl hy q
theorem g_irem (X : Stand p l e R s m args below meth c T locs cells slots) (hx : p.tables.exec = Jvm.exec) {x y : Int32} (hd : decode c.code pc = .ok (.irem, 1)) (hy : y ≠ 0) (hp : pc + 1 = pc')
    (k : Goes p e s below Q n0 C N T (mkF m pc' Ls (.int (x % y) :: st))) : Goes p e s below Q n0 C N T (mkF m pc Ls (.int y :: .int x :: st)) := by
  subst hp; exact k.go fun _ q => iremM X hx rfl hd rfl hy q
theorem g_ladd (X : Stand p l e R s m args below meth c T locs cells slots) (hx : p.tables.exec = Jvm.exec) {x y : Int64} (hd : decode c.code pc = .ok (.ladd, 1))  (hp : pc + 1 = pc')
    (k : Goes p e s below Q n0 C N T (mkF m pc' Ls (.long (x + y) :: st))) : Goes p e s below Q n0 C N T (mkF m pc Ls (.long y :: .long x :: st)) := by
  subst hp; exact k.go fun _ q => XT.ladd X.here hx rfl hd rfl q
theorem g_lsub (X : Stand p l e R s m args below meth c T locs cells slots) (hx : p.tables.exec = Jvm.exec) {x y : Int64} (hd : decode c.code pc = .ok (.lsub, 1))  (hp : pc + 1 = pc')
    (k : Goes p e s below Q n0 C N T (mkF m pc' Ls (.long (x - y) :: st))) : Goes p e s below Q n0 C N T (mkF m pc Ls (.long y :: .long x :: st)) := by
  subst hp; exact k.go fun _ q => XT.lsub X.here hx rfl hd rfl q
theorem g_lmul (X : Stand p l e R s m args below meth c T locs cells slots) (hx : p.tables.exec = Jvm.exec) {x y : Int64} (hd : decode c.code pc = .ok (.lmul, 1))  (hp : pc + 1 = pc')
    (k : Goes p e s below Q n0 C N T (mkF m pc' Ls (.long (x * y) :: st))) : Goes p e s below Q n0 C N T (mkF m pc Ls (.long y :: .long x :: st)) := by
  subst hp; exact k.go fun _ q => XT.lmul X.here hx rfl hd rfl q
theorem g_land (X : Stand p l e R s m args below meth c T locs cells slots) (hx : p.tables.exec = Jvm.exec) {x y : Int64} (hd : decode c.code pc = .ok (.land, 1))  (hp : pc + 1 = pc')
    (k : Goes p e s below Q n0 C N T (mkF m pc' Ls (.long (x &&& y) :: st))) : Goes p e s below Q n0 C N T (mkF m pc Ls (.long y :: .long x :: st)) := by
  subst hp; exact k.go fun _ q => XT.land X.here hx rfl hd rfl q
theorem g_lor (X : Stand p l e R s m args below meth c T locs cells slots) (hx : p.tables.exec = Jvm.exec) {x y : Int64} (hd : decode c.code pc = .ok (.lor, 1))  (hp : pc + 1 = pc')
    (k : Goes p e s below Q n0 C N T (mkF m pc' Ls (.long (x ||| y) :: st))) : Goes p e s below Q n0 C N T (mkF m pc Ls (.long y :: .long x :: st)) := by
  subst hp; exact k.go fun _ q => XT.lor X.here hx rfl hd rfl q
theorem g_lxor (X : Stand p l e R s m args below meth c T locs cells slots) (hx : p.tables.exec = Jvm.exec) {x y : Int64} (hd : decode c.code pc = .ok (.lxor, 1))  (hp : pc + 1 = pc')
    (k : Goes p e s below Q n0 C N T (mkF m pc' Ls (.long (x ^^^ y) :: st))) : Goes p e s below Q n0 C N T (mkF m pc Ls (.long y :: .long x :: st)) := by
  subst hp; exact k.go fun _ q => XT.lxor X.here hx rfl hd rfl q
theorem g_lshl (X : Stand p l e R s m args below meth c T locs cells slots) (hx : p.tables.exec = Jvm.exec) {x : Int64} {y : Int32} (hd : decode c.code pc = .ok (.lshl, 1))  (hp : pc + 1 = pc')
    (k : Goes p e s below Q n0 C N T (mkF m pc' Ls (.long (x <<< (y.toInt64 &&& 63)) :: st))) : Goes p e s below Q n0 C N T (mkF m pc Ls (.int y :: .long x :: st)) := by
  subst hp; exact k.go fun _ q => XT.lshl X.here hx rfl hd rfl q
theorem g_lshr (X : Stand p l e R s m args below meth c T locs cells slots) (hx : p.tables.exec = Jvm.exec) {x : Int64} {y : Int32} (hd : decode c.code pc = .ok (.lshr, 1))  (hp : pc + 1 = pc')
    (k : Goes p e s below Q n0 C N T (mkF m pc' Ls (.long (x >>> (y.toInt64 &&& 63)) :: st))) : Goes p e s below Q n0 C N T (mkF m pc Ls (.int y :: .long x :: st)) := by
  subst hp; exact k.go fun _ q => XT.lshr X.here hx rfl hd rfl q
theorem g_lushr (X : Stand p l e R s m args below meth c T locs cells slots) (hx : p.tables.exec = Jvm.exec) {x : Int64} {y : Int32} (hd : decode c.code pc = .ok (.lushr, 1))  (hp : pc + 1 = pc')
    (k : Goes p e s below Q n0 C N T (mkF m pc' Ls (.long (XT.ushrL x y) :: st))) : Goes p e s below Q n0 C N T (mkF m pc Ls (.int y :: .long x :: st)) := by
  subst hp; exact k.go fun _ q => XT.lushr X.here hx rfl hd rfl q
theorem g_ldiv (X : Stand p l e R s m args below meth c T locs cells slots) (hx : p.tables.exec = Jvm.exec) {x y : Int64} (hd : decode c.code pc = .ok (.ldiv, 1)) (hy : y ≠ 0) (hp : pc + 1 = pc')
    (k : Goes p e s below Q n0 C N T (mkF m pc' Ls (.long (x / y) :: st))) : Goes p e s below Q n0 C N T (mkF m pc Ls (.long y :: .long x :: st)) := by
  subst hp; exact k.go fun _ q => XT.ldiv X.here hx rfl hd rfl hy q
theorem g_lrem (X : Stand p l e R s m args below meth c T locs cells slots) (hx : p.tables.exec = Jvm.exec) {x y : Int64} (hd : decode c.code pc = .ok (.lrem, 1)) (hy : y ≠ 0) (hp : pc + 1 = pc')
    (k : Goes p e s below Q n0 C N T (mkF m pc' Ls (.long (x - (x / y) * y) :: st))) : Goes p e s below Q n0 C N T (mkF m pc Ls (.long y :: .long x :: st)) := by
  subst hp; exact k.go fun _ q => XT.lrem X.here hx rfl hd rfl hy q
theorem g_lneg (X : Stand p l e R s m args below meth c T locs cells slots) (hx : p.tables.exec = Jvm.exec) {x : Int64} (hd : decode c.code pc = .ok (.lneg, 1))  (hp : pc + 1 = pc')
    (k : Goes p e s below Q n0 C N T (mkF m pc' Ls (.long (-x) :: st))) : Goes p e s below Q n0 C N T (mkF m pc Ls (.long x :: st)) := by
  subst hp; exact k.go fun _ q => XT.lneg X.here hx rfl hd rfl q
theorem g_i2l (X : Stand p l e R s m args below meth c T locs cells slots) (hx : p.tables.exec = Jvm.exec) {x : Int32} (hd : decode c.code pc = .ok (.i2l, 1))  (hp : pc + 1 = pc')
    (k : Goes p e s below Q n0 C N T (mkF m pc' Ls (.long x.toInt64 :: st))) : Goes p e s below Q n0 C N T (mkF m pc Ls (.int x :: st)) := by
  subst hp; exact k.go fun _ q => XT.i2l X.here hx rfl hd rfl q
theorem g_l2i (X : Stand p l e R s m args below meth c T locs cells slots) (hx : p.tables.exec = Jvm.exec) {x : Int64} (hd : decode c.code pc = .ok (.l2i, 1))  (hp : pc + 1 = pc')
    (k : Goes p e s below Q n0 C N T (mkF m pc' Ls (.int x.toInt32 :: st))) : Goes p e s below Q n0 C N T (mkF m pc Ls (.long x :: st)) := by
  subst hp; exact k.go fun _ q => XT.l2i X.here hx rfl hd rfl q
theorem g_i2b (X : Stand p l e R s m args below meth c T locs cells slots) (hx : p.tables.exec = Jvm.exec) {x : Int32} (hd : decode c.code pc = .ok (.i2b, 1))  (hp : pc + 1 = pc')
    (k : Goes p e s below Q n0 C N T (mkF m pc' Ls (.int x.toInt8.toInt32 :: st))) : Goes p e s below Q n0 C N T (mkF m pc Ls (.int x :: st)) := by
  subst hp; exact k.go fun _ q => XT.i2b X.here hx rfl hd rfl q
theorem g_dup (X : Stand p l e R s m args below meth c T locs cells slots) (hx : p.tables.exec = Jvm.exec) {v : Value} (hd : decode c.code pc = .ok (.dup, 1)) (hc : v.category = 1) (hp : pc + 1 = pc')
    (k : Goes p e s below Q n0 C N T (mkF m pc' Ls (v :: v :: st))) : Goes p e s below Q n0 C N T (mkF m pc Ls (v :: st)) := by
  subst hp; exact k.go fun _ q => XS.dup X.here hx rfl hd rfl hc q
theorem g_pop (X : Stand p l e R s m args below meth c T locs cells slots) (hx : p.tables.exec = Jvm.exec) {v : Value} (hd : decode c.code pc = .ok (.pop, 1)) (hc : v.category = 1) (hp : pc + 1 = pc')
    (k : Goes p e s below Q n0 C N T (mkF m pc' Ls (st))) : Goes p e s below Q n0 C N T (mkF m pc Ls (v :: st)) := by
  subst hp; exact k.go fun _ q => XT.pop X.here hx rfl hd rfl hc q
theorem g_dupX1 (X : Stand p l e R s m args below meth c T locs cells slots) (hx : p.tables.exec = Jvm.exec) {v w : Value} (hd : decode c.code pc = .ok (.dup_x1, 1)) (hc : v.category = 1) (hc' : w.category = 1) (hp : pc + 1 = pc')
    (k : Goes p e s below Q n0 C N T (mkF m pc' Ls (v :: w :: v :: st))) : Goes p e s below Q n0 C N T (mkF m pc Ls (v :: w :: st)) := by
  subst hp; exact k.go fun _ q => XT.dupX1 X.here hx rfl hd rfl hc hc' q
theorem g_dup2 (X : Stand p l e R s m args below meth c T locs cells slots) (hx : p.tables.exec = Jvm.exec) {v w : Value} (hd : decode c.code pc = .ok (.dup2, 1)) (hc : v.category = 1) (hc' : w.category = 1) (hp : pc + 1 = pc')
    (k : Goes p e s below Q n0 C N T (mkF m pc' Ls (v :: w :: v :: w :: st))) : Goes p e s below Q n0 C N T (mkF m pc Ls (v :: w :: st)) := by
  subst hp; exact k.go fun _ q => XT.dup2 X.here hx rfl hd rfl hc hc' q
theorem g_dup2L (X : Stand p l e R s m args below meth c T locs cells slots) (hx : p.tables.exec = Jvm.exec) {x : Int64} (hd : decode c.code pc = .ok (.dup2, 1))  (hp : pc + 1 = pc')
    (k : Goes p e s below Q n0 C N T (mkF m pc' Ls (.long x :: .long x :: st))) : Goes p e s below Q n0 C N T (mkF m pc Ls (.long x :: st)) := by
  subst hp; exact k.go fun _ q => XT.dup2L X.here hx rfl hd rfl q
theorem g_goto (X : Stand p l e R s m args below meth c T locs cells slots) (hx : p.tables.exec = Jvm.exec) {o : Int} (hd : decode c.code pc = .ok (.goto o, 3)) (ho : 0 ≤ (pc : Int) + o) (hp : ((pc : Int) + o).toNat = pc')
    (k : Goes p e s below Q n0 C N T (mkF m pc' Ls st)) : Goes p e s below Q n0 C N T (mkF m pc Ls st) := k.go fun _ q => XS.goto X.here hx rfl rfl hd ho hp q
theorem g_ii_eq (X : Stand p l e R s m args below meth c T locs cells slots) (hx : p.tables.exec = Jvm.exec) {o : Int} {x y : Int32} {a b : Int} (ha : x.toInt = a) (hb : y.toInt = b) (hd : decode c.code pc = .ok (.if_icmp .eq o, 3)) (ho : 0 ≤ (pc : Int) + o) (hp : ((pc : Int) + o).toNat = pc') {pc2 : Nat} (hp2 : pc + 3 = pc2)
    (kt : a = b → Goes p e s below Q n0 C N T (mkF m pc' Ls st)) (kf : ¬ a = b → Goes p e s below Q n0 C N T (mkF m pc2 Ls st)) : Goes p e s below Q n0 C N T (mkF m pc Ls (.int y :: .int x :: st)) := by
  subst ha hb hp2
  have hw : x = y ↔ x.toInt = y.toInt := Int32.toInt_inj.symm
  by_cases hq : x = y
  · exact (kt (hw.mp hq)).go fun _ q => XS.icmpYes X.here hx rfl rfl hd rfl (XT.ii_eq_t hq) ho hp q
  · exact (kf fun z => hq (hw.mpr z)).go fun _ q => XS.icmpNo X.here hx rfl hd rfl (XT.ii_eq_f hq) q
theorem g_ll_eq (X : Stand p l e R s m args below meth c T locs cells slots) (hx : p.tables.exec = Jvm.exec) {o : Int} {x y : Int64} {a b : Int} (ha : x.toInt = a) (hb : y.toInt = b) (hd1 : decode c.code pc = .ok (.lcmp, 1)) {pc1 : Nat} (hp1 : pc + 1 = pc1) (hd : decode c.code pc1 = .ok (.ifCond .eq o, 3)) (ho : 0 ≤ (pc1 : Int) + o) (hp : ((pc1 : Int) + o).toNat = pc') {pc2 : Nat} (hp2 : pc1 + 3 = pc2)
    (kt : a = b → Goes p e s below Q n0 C N T (mkF m pc' Ls st)) (kf : ¬ a = b → Goes p e s below Q n0 C N T (mkF m pc2 Ls st)) : Goes p e s below Q n0 C N T (mkF m pc Ls (.long y :: .long x :: st)) := by
  subst ha hb hp1 hp2
  refine Goes.go (g' := mkF m (pc + 1) Ls (.int (XT.cmpL x y) :: st)) (fun _ q => XT.lcmp X.here hx rfl hd1 rfl q) ?_
  have hw : x = y ↔ x.toInt = y.toInt := Int64.toInt_inj.symm
  by_cases hq : x = y
  · exact (kt (hw.mp hq)).go fun _ q => XS.ifYes X.here hx rfl rfl hd rfl (XT.ll_eq_t hq) ho hp q
  · exact (kf fun z => hq (hw.mpr z)).go fun _ q => XS.ifNo X.here hx rfl hd rfl (XT.ll_eq_f hq) q
theorem g_i0_eq (X : Stand p l e R s m args below meth c T locs cells slots) (hx : p.tables.exec = Jvm.exec) {o : Int} {x : Int32} {a : Int} (ha : x.toInt = a) (hd : decode c.code pc = .ok (.ifCond .eq o, 3)) (ho : 0 ≤ (pc : Int) + o) (hp : ((pc : Int) + o).toNat = pc') {pc2 : Nat} (hp2 : pc + 3 = pc2)
    (kt : a = 0 → Goes p e s below Q n0 C N T (mkF m pc' Ls st)) (kf : ¬ a = 0 → Goes p e s below Q n0 C N T (mkF m pc2 Ls st)) : Goes p e s below Q n0 C N T (mkF m pc Ls (.int x :: st)) := by
  subst ha hp2
  have hw : x = 0 ↔ x.toInt = 0 := ⟨fun z => by rw [z]; rfl, fun z => Int32.toInt_inj.mp (z.trans rfl)⟩
  by_cases hq : x = 0
  · exact (kt (hw.mp hq)).go fun _ q => XS.ifYes X.here hx rfl rfl hd rfl (XT.i0_eq_t hq) ho hp q
  · exact (kf fun z => hq (hw.mpr z)).go fun _ q => XS.ifNo X.here hx rfl hd rfl (XT.i0_eq_f hq) q
theorem g_ii_ne (X : Stand p l e R s m args below meth c T locs cells slots) (hx : p.tables.exec = Jvm.exec) {o : Int} {x y : Int32} {a b : Int} (ha : x.toInt = a) (hb : y.toInt = b) (hd : decode c.code pc = .ok (.if_icmp .ne o, 3)) (ho : 0 ≤ (pc : Int) + o) (hp : ((pc : Int) + o).toNat = pc') {pc2 : Nat} (hp2 : pc + 3 = pc2)
    (kt : ¬ a = b → Goes p e s below Q n0 C N T (mkF m pc' Ls st)) (kf : a = b → Goes p e s below Q n0 C N T (mkF m pc2 Ls st)) : Goes p e s below Q n0 C N T (mkF m pc Ls (.int y :: .int x :: st)) := by
  subst ha hb hp2
  have hw : x = y ↔ x.toInt = y.toInt := Int32.toInt_inj.symm
  by_cases hq : x = y
  · exact (kf (hw.mp hq)).go fun _ q => XS.icmpNo X.here hx rfl hd rfl (XT.ii_ne_f hq) q
  · exact (kt fun z => hq (hw.mpr z)).go fun _ q => XS.icmpYes X.here hx rfl rfl hd rfl (XT.ii_ne_t hq) ho hp q
theorem g_ll_ne (X : Stand p l e R s m args below meth c T locs cells slots) (hx : p.tables.exec = Jvm.exec) {o : Int} {x y : Int64} {a b : Int} (ha : x.toInt = a) (hb : y.toInt = b) (hd1 : decode c.code pc = .ok (.lcmp, 1)) {pc1 : Nat} (hp1 : pc + 1 = pc1) (hd : decode c.code pc1 = .ok (.ifCond .ne o, 3)) (ho : 0 ≤ (pc1 : Int) + o) (hp : ((pc1 : Int) + o).toNat = pc') {pc2 : Nat} (hp2 : pc1 + 3 = pc2)
    (kt : ¬ a = b → Goes p e s below Q n0 C N T (mkF m pc' Ls st)) (kf : a = b → Goes p e s below Q n0 C N T (mkF m pc2 Ls st)) : Goes p e s below Q n0 C N T (mkF m pc Ls (.long y :: .long x :: st)) := by
  subst ha hb hp1 hp2
  refine Goes.go (g' := mkF m (pc + 1) Ls (.int (XT.cmpL x y) :: st)) (fun _ q => XT.lcmp X.here hx rfl hd1 rfl q) ?_
  have hw : x = y ↔ x.toInt = y.toInt := Int64.toInt_inj.symm
  by_cases hq : x = y
  · exact (kf (hw.mp hq)).go fun _ q => XS.ifNo X.here hx rfl hd rfl (XT.ll_ne_f hq) q
  · exact (kt fun z => hq (hw.mpr z)).go fun _ q => XS.ifYes X.here hx rfl rfl hd rfl (XT.ll_ne_t hq) ho hp q
theorem g_i0_ne (X : Stand p l e R s m args below meth c T locs cells slots) (hx : p.tables.exec = Jvm.exec) {o : Int} {x : Int32} {a : Int} (ha : x.toInt = a) (hd : decode c.code pc = .ok (.ifCond .ne o, 3)) (ho : 0 ≤ (pc : Int) + o) (hp : ((pc : Int) + o).toNat = pc') {pc2 : Nat} (hp2 : pc + 3 = pc2)
    (kt : ¬ a = 0 → Goes p e s below Q n0 C N T (mkF m pc' Ls st)) (kf : a = 0 → Goes p e s below Q n0 C N T (mkF m pc2 Ls st)) : Goes p e s below Q n0 C N T (mkF m pc Ls (.int x :: st)) := by
  subst ha hp2
  have hw : x = 0 ↔ x.toInt = 0 := ⟨fun z => by rw [z]; rfl, fun z => Int32.toInt_inj.mp (z.trans rfl)⟩
  by_cases hq : x = 0
  · exact (kf (hw.mp hq)).go fun _ q => XS.ifNo X.here hx rfl hd rfl (XT.i0_ne_f hq) q
  · exact (kt fun z => hq (hw.mpr z)).go fun _ q => XS.ifYes X.here hx rfl rfl hd rfl (XT.i0_ne_t hq) ho hp q
theorem g_ii_lt (X : Stand p l e R s m args below meth c T locs cells slots) (hx : p.tables.exec = Jvm.exec) {o : Int} {x y : Int32} {a b : Int} (ha : x.toInt = a) (hb : y.toInt = b) (hd : decode c.code pc = .ok (.if_icmp .lt o, 3)) (ho : 0 ≤ (pc : Int) + o) (hp : ((pc : Int) + o).toNat = pc') {pc2 : Nat} (hp2 : pc + 3 = pc2)
    (kt : a < b → Goes p e s below Q n0 C N T (mkF m pc' Ls st)) (kf : ¬ a < b → Goes p e s below Q n0 C N T (mkF m pc2 Ls st)) : Goes p e s below Q n0 C N T (mkF m pc Ls (.int y :: .int x :: st)) := by
  subst ha hb hp2
  have hw : x < y ↔ x.toInt < y.toInt := Int32.lt_iff_toInt_lt
  by_cases hq : x < y
  · exact (kt (hw.mp hq)).go fun _ q => XS.icmpYes X.here hx rfl rfl hd rfl (XT.ii_lt_t hq) ho hp q
  · exact (kf fun z => hq (hw.mpr z)).go fun _ q => XS.icmpNo X.here hx rfl hd rfl (XT.ii_lt_f hq) q
theorem g_ll_lt (X : Stand p l e R s m args below meth c T locs cells slots) (hx : p.tables.exec = Jvm.exec) {o : Int} {x y : Int64} {a b : Int} (ha : x.toInt = a) (hb : y.toInt = b) (hd1 : decode c.code pc = .ok (.lcmp, 1)) {pc1 : Nat} (hp1 : pc + 1 = pc1) (hd : decode c.code pc1 = .ok (.ifCond .lt o, 3)) (ho : 0 ≤ (pc1 : Int) + o) (hp : ((pc1 : Int) + o).toNat = pc') {pc2 : Nat} (hp2 : pc1 + 3 = pc2)
    (kt : a < b → Goes p e s below Q n0 C N T (mkF m pc' Ls st)) (kf : ¬ a < b → Goes p e s below Q n0 C N T (mkF m pc2 Ls st)) : Goes p e s below Q n0 C N T (mkF m pc Ls (.long y :: .long x :: st)) := by
  subst ha hb hp1 hp2
  refine Goes.go (g' := mkF m (pc + 1) Ls (.int (XT.cmpL x y) :: st)) (fun _ q => XT.lcmp X.here hx rfl hd1 rfl q) ?_
  have hw : x < y ↔ x.toInt < y.toInt := Int64.lt_iff_toInt_lt
  by_cases hq : x < y
  · exact (kt (hw.mp hq)).go fun _ q => XS.ifYes X.here hx rfl rfl hd rfl (XT.ll_lt_t hq) ho hp q
  · exact (kf fun z => hq (hw.mpr z)).go fun _ q => XS.ifNo X.here hx rfl hd rfl (XT.ll_lt_f hq) q
theorem g_i0_lt (X : Stand p l e R s m args below meth c T locs cells slots) (hx : p.tables.exec = Jvm.exec) {o : Int} {x : Int32} {a : Int} (ha : x.toInt = a) (hd : decode c.code pc = .ok (.ifCond .lt o, 3)) (ho : 0 ≤ (pc : Int) + o) (hp : ((pc : Int) + o).toNat = pc') {pc2 : Nat} (hp2 : pc + 3 = pc2)
    (kt : a < 0 → Goes p e s below Q n0 C N T (mkF m pc' Ls st)) (kf : ¬ a < 0 → Goes p e s below Q n0 C N T (mkF m pc2 Ls st)) : Goes p e s below Q n0 C N T (mkF m pc Ls (.int x :: st)) := by
  subst ha hp2
  have hw : x < 0 ↔ x.toInt < 0 := Int32.lt_iff_toInt_lt
  by_cases hq : x < 0
  · exact (kt (hw.mp hq)).go fun _ q => XS.ifYes X.here hx rfl rfl hd rfl (XT.i0_lt_t hq) ho hp q
  · exact (kf fun z => hq (hw.mpr z)).go fun _ q => XS.ifNo X.here hx rfl hd rfl (XT.i0_lt_f hq) q
theorem g_ii_ge (X : Stand p l e R s m args below meth c T locs cells slots) (hx : p.tables.exec = Jvm.exec) {o : Int} {x y : Int32} {a b : Int} (ha : x.toInt = a) (hb : y.toInt = b) (hd : decode c.code pc = .ok (.if_icmp .ge o, 3)) (ho : 0 ≤ (pc : Int) + o) (hp : ((pc : Int) + o).toNat = pc') {pc2 : Nat} (hp2 : pc + 3 = pc2)
    (kt : ¬ a < b → Goes p e s below Q n0 C N T (mkF m pc' Ls st)) (kf : a < b → Goes p e s below Q n0 C N T (mkF m pc2 Ls st)) : Goes p e s below Q n0 C N T (mkF m pc Ls (.int y :: .int x :: st)) := by
  subst ha hb hp2
  have hw : x < y ↔ x.toInt < y.toInt := Int32.lt_iff_toInt_lt
  by_cases hq : x < y
  · exact (kf (hw.mp hq)).go fun _ q => XS.icmpNo X.here hx rfl hd rfl (XT.ii_ge_f hq) q
  · exact (kt fun z => hq (hw.mpr z)).go fun _ q => XS.icmpYes X.here hx rfl rfl hd rfl (XT.ii_ge_t hq) ho hp q
theorem g_ll_ge (X : Stand p l e R s m args below meth c T locs cells slots) (hx : p.tables.exec = Jvm.exec) {o : Int} {x y : Int64} {a b : Int} (ha : x.toInt = a) (hb : y.toInt = b) (hd1 : decode c.code pc = .ok (.lcmp, 1)) {pc1 : Nat} (hp1 : pc + 1 = pc1) (hd : decode c.code pc1 = .ok (.ifCond .ge o, 3)) (ho : 0 ≤ (pc1 : Int) + o) (hp : ((pc1 : Int) + o).toNat = pc') {pc2 : Nat} (hp2 : pc1 + 3 = pc2)
    (kt : ¬ a < b → Goes p e s below Q n0 C N T (mkF m pc' Ls st)) (kf : a < b → Goes p e s below Q n0 C N T (mkF m pc2 Ls st)) : Goes p e s below Q n0 C N T (mkF m pc Ls (.long y :: .long x :: st)) := by
  subst ha hb hp1 hp2
  refine Goes.go (g' := mkF m (pc + 1) Ls (.int (XT.cmpL x y) :: st)) (fun _ q => XT.lcmp X.here hx rfl hd1 rfl q) ?_
  have hw : x < y ↔ x.toInt < y.toInt := Int64.lt_iff_toInt_lt
  by_cases hq : x < y
  · exact (kf (hw.mp hq)).go fun _ q => XS.ifNo X.here hx rfl hd rfl (XT.ll_ge_f hq) q
  · exact (kt fun z => hq (hw.mpr z)).go fun _ q => XS.ifYes X.here hx rfl rfl hd rfl (XT.ll_ge_t hq) ho hp q
theorem g_i0_ge (X : Stand p l e R s m args below meth c T locs cells slots) (hx : p.tables.exec = Jvm.exec) {o : Int} {x : Int32} {a : Int} (ha : x.toInt = a) (hd : decode c.code pc = .ok (.ifCond .ge o, 3)) (ho : 0 ≤ (pc : Int) + o) (hp : ((pc : Int) + o).toNat = pc') {pc2 : Nat} (hp2 : pc + 3 = pc2)
    (kt : ¬ a < 0 → Goes p e s below Q n0 C N T (mkF m pc' Ls st)) (kf : a < 0 → Goes p e s below Q n0 C N T (mkF m pc2 Ls st)) : Goes p e s below Q n0 C N T (mkF m pc Ls (.int x :: st)) := by
  subst ha hp2
  have hw : x < 0 ↔ x.toInt < 0 := Int32.lt_iff_toInt_lt
  by_cases hq : x < 0
  · exact (kf (hw.mp hq)).go fun _ q => XS.ifNo X.here hx rfl hd rfl (XT.i0_ge_f hq) q
  · exact (kt fun z => hq (hw.mpr z)).go fun _ q => XS.ifYes X.here hx rfl rfl hd rfl (XT.i0_ge_t hq) ho hp q
theorem g_ii_gt (X : Stand p l e R s m args below meth c T locs cells slots) (hx : p.tables.exec = Jvm.exec) {o : Int} {x y : Int32} {a b : Int} (ha : x.toInt = a) (hb : y.toInt = b) (hd : decode c.code pc = .ok (.if_icmp .gt o, 3)) (ho : 0 ≤ (pc : Int) + o) (hp : ((pc : Int) + o).toNat = pc') {pc2 : Nat} (hp2 : pc + 3 = pc2)
    (kt : b < a → Goes p e s below Q n0 C N T (mkF m pc' Ls st)) (kf : ¬ b < a → Goes p e s below Q n0 C N T (mkF m pc2 Ls st)) : Goes p e s below Q n0 C N T (mkF m pc Ls (.int y :: .int x :: st)) := by
  subst ha hb hp2
  have hw : y < x ↔ y.toInt < x.toInt := Int32.lt_iff_toInt_lt
  by_cases hq : y < x
  · exact (kt (hw.mp hq)).go fun _ q => XS.icmpYes X.here hx rfl rfl hd rfl (XT.ii_gt_t hq) ho hp q
  · exact (kf fun z => hq (hw.mpr z)).go fun _ q => XS.icmpNo X.here hx rfl hd rfl (XT.ii_gt_f hq) q
theorem g_ll_gt (X : Stand p l e R s m args below meth c T locs cells slots) (hx : p.tables.exec = Jvm.exec) {o : Int} {x y : Int64} {a b : Int} (ha : x.toInt = a) (hb : y.toInt = b) (hd1 : decode c.code pc = .ok (.lcmp, 1)) {pc1 : Nat} (hp1 : pc + 1 = pc1) (hd : decode c.code pc1 = .ok (.ifCond .gt o, 3)) (ho : 0 ≤ (pc1 : Int) + o) (hp : ((pc1 : Int) + o).toNat = pc') {pc2 : Nat} (hp2 : pc1 + 3 = pc2)
    (kt : b < a → Goes p e s below Q n0 C N T (mkF m pc' Ls st)) (kf : ¬ b < a → Goes p e s below Q n0 C N T (mkF m pc2 Ls st)) : Goes p e s below Q n0 C N T (mkF m pc Ls (.long y :: .long x :: st)) := by
  subst ha hb hp1 hp2
  refine Goes.go (g' := mkF m (pc + 1) Ls (.int (XT.cmpL x y) :: st)) (fun _ q => XT.lcmp X.here hx rfl hd1 rfl q) ?_
  have hw : y < x ↔ y.toInt < x.toInt := Int64.lt_iff_toInt_lt
  by_cases hq : y < x
  · exact (kt (hw.mp hq)).go fun _ q => XS.ifYes X.here hx rfl rfl hd rfl (XT.ll_gt_t hq) ho hp q
  · exact (kf fun z => hq (hw.mpr z)).go fun _ q => XS.ifNo X.here hx rfl hd rfl (XT.ll_gt_f hq) q
theorem g_i0_gt (X : Stand p l e R s m args below meth c T locs cells slots) (hx : p.tables.exec = Jvm.exec) {o : Int} {x : Int32} {a : Int} (ha : x.toInt = a) (hd : decode c.code pc = .ok (.ifCond .gt o, 3)) (ho : 0 ≤ (pc : Int) + o) (hp : ((pc : Int) + o).toNat = pc') {pc2 : Nat} (hp2 : pc + 3 = pc2)
    (kt : 0 < a → Goes p e s below Q n0 C N T (mkF m pc' Ls st)) (kf : ¬ 0 < a → Goes p e s below Q n0 C N T (mkF m pc2 Ls st)) : Goes p e s below Q n0 C N T (mkF m pc Ls (.int x :: st)) := by
  subst ha hp2
  have hw : 0 < x ↔ 0 < x.toInt := Int32.lt_iff_toInt_lt
  by_cases hq : 0 < x
  · exact (kt (hw.mp hq)).go fun _ q => XS.ifYes X.here hx rfl rfl hd rfl (XT.i0_gt_t hq) ho hp q
  · exact (kf fun z => hq (hw.mpr z)).go fun _ q => XS.ifNo X.here hx rfl hd rfl (XT.i0_gt_f hq) q
theorem g_ii_le (X : Stand p l e R s m args below meth c T locs cells slots) (hx : p.tables.exec = Jvm.exec) {o : Int} {x y : Int32} {a b : Int} (ha : x.toInt = a) (hb : y.toInt = b) (hd : decode c.code pc = .ok (.if_icmp .le o, 3)) (ho : 0 ≤ (pc : Int) + o) (hp : ((pc : Int) + o).toNat = pc') {pc2 : Nat} (hp2 : pc + 3 = pc2)
    (kt : ¬ b < a → Goes p e s below Q n0 C N T (mkF m pc' Ls st)) (kf : b < a → Goes p e s below Q n0 C N T (mkF m pc2 Ls st)) : Goes p e s below Q n0 C N T (mkF m pc Ls (.int y :: .int x :: st)) := by
  subst ha hb hp2
  have hw : y < x ↔ y.toInt < x.toInt := Int32.lt_iff_toInt_lt
  by_cases hq : y < x
  · exact (kf (hw.mp hq)).go fun _ q => XS.icmpNo X.here hx rfl hd rfl (XT.ii_le_f hq) q
  · exact (kt fun z => hq (hw.mpr z)).go fun _ q => XS.icmpYes X.here hx rfl rfl hd rfl (XT.ii_le_t hq) ho hp q
theorem g_ll_le (X : Stand p l e R s m args below meth c T locs cells slots) (hx : p.tables.exec = Jvm.exec) {o : Int} {x y : Int64} {a b : Int} (ha : x.toInt = a) (hb : y.toInt = b) (hd1 : decode c.code pc = .ok (.lcmp, 1)) {pc1 : Nat} (hp1 : pc + 1 = pc1) (hd : decode c.code pc1 = .ok (.ifCond .le o, 3)) (ho : 0 ≤ (pc1 : Int) + o) (hp : ((pc1 : Int) + o).toNat = pc') {pc2 : Nat} (hp2 : pc1 + 3 = pc2)
    (kt : ¬ b < a → Goes p e s below Q n0 C N T (mkF m pc' Ls st)) (kf : b < a → Goes p e s below Q n0 C N T (mkF m pc2 Ls st)) : Goes p e s below Q n0 C N T (mkF m pc Ls (.long y :: .long x :: st)) := by
  subst ha hb hp1 hp2
  refine Goes.go (g' := mkF m (pc + 1) Ls (.int (XT.cmpL x y) :: st)) (fun _ q => XT.lcmp X.here hx rfl hd1 rfl q) ?_
  have hw : y < x ↔ y.toInt < x.toInt := Int64.lt_iff_toInt_lt
  by_cases hq : y < x
  · exact (kf (hw.mp hq)).go fun _ q => XS.ifNo X.here hx rfl hd rfl (XT.ll_le_f hq) q
  · exact (kt fun z => hq (hw.mpr z)).go fun _ q => XS.ifYes X.here hx rfl rfl hd rfl (XT.ll_le_t hq) ho hp q
theorem g_i0_le (X : Stand p l e R s m args below meth c T locs cells slots) (hx : p.tables.exec = Jvm.exec) {o : Int} {x : Int32} {a : Int} (ha : x.toInt = a) (hd : decode c.code pc = .ok (.ifCond .le o, 3)) (ho : 0 ≤ (pc : Int) + o) (hp : ((pc : Int) + o).toNat = pc') {pc2 : Nat} (hp2 : pc + 3 = pc2)
    (kt : ¬ 0 < a → Goes p e s below Q n0 C N T (mkF m pc' Ls st)) (kf : 0 < a → Goes p e s below Q n0 C N T (mkF m pc2 Ls st)) : Goes p e s below Q n0 C N T (mkF m pc Ls (.int x :: st)) := by
  subst ha hp2
  have hw : 0 < x ↔ 0 < x.toInt := Int32.lt_iff_toInt_lt
  by_cases hq : 0 < x
  · exact (kf (hw.mp hq)).go fun _ q => XS.ifNo X.here hx rfl hd rfl (XT.i0_le_f hq) q
  · exact (kt fun z => hq (hw.mpr z)).go fun _ q => XS.ifYes X.here hx rfl rfl hd rfl (XT.i0_le_t hq) ho hp q
theorem g_ifnullYes (X : Stand p l e R s m args below meth c T locs cells slots) (hx : p.tables.exec = Jvm.exec) {o : Int} (hd : decode c.code pc = .ok (.ifnull o, 3)) (ho : 0 ≤ (pc : Int) + o) (hp : ((pc : Int) + o).toNat = pc')
    (k : Goes p e s below Q n0 C N T (mkF m pc' Ls st)) : Goes p e s below Q n0 C N T (mkF m pc Ls (.null :: st)) := k.go fun _ q => XS.ifnullYes X.here hx rfl rfl hd rfl ho hp q
theorem g_ifnullNo (X : Stand p l e R s m args below meth c T locs cells slots) (hx : p.tables.exec = Jvm.exec) {o : Int} {b : Addr} (hd : decode c.code pc = .ok (.ifnull o, 3)) (hp : pc + 3 = pc')
    (k : Goes p e s below Q n0 C N T (mkF m pc' Ls st)) : Goes p e s below Q n0 C N T (mkF m pc Ls (.ref b :: st)) := by
  subst hp; exact k.go fun _ q => XS.ifnullNo X.here hx rfl hd rfl q
theorem g_ifnonnullYes (X : Stand p l e R s m args below meth c T locs cells slots) (hx : p.tables.exec = Jvm.exec) {o : Int} {b : Addr} (hd : decode c.code pc = .ok (.ifnonnull o, 3)) (ho : 0 ≤ (pc : Int) + o) (hp : ((pc : Int) + o).toNat = pc')
    (k : Goes p e s below Q n0 C N T (mkF m pc' Ls st)) : Goes p e s below Q n0 C N T (mkF m pc Ls (.ref b :: st)) := k.go fun _ q => XT.ifnonnullYes X.here hx rfl rfl hd rfl ho hp q
theorem IA.lt {h : Heap} {a n : Nat} {f : Nat → Int32} (F : IA Z h a n f) : a < h.size := by obtain ⟨_, c, A, -⟩ := F; exact A.lt
theorem IA.ext {h h' : Heap} {a n : Nat} {f : Nat → Int32} (F : IA Z h a n f) (E : Ext h h') : IA Z h' a n f := by obtain ⟨q, c, A, r⟩ := F; exact ⟨q, c, A.ext E, r⟩
theorem IA.keep {h h' : Heap} {a n : Nat} {f : Nat → Int32} {ws : List Addr} (F : IA Z h a n f) (K : Keep h h' ws) (q : a ∉ ws) : IA Z h' a n f := by obtain ⟨q', c, A, r⟩ := F; exact ⟨q', c, ⟨K.2.1 a c A.1 q, A.2⟩, r⟩
theorem IA.other {h h' : Heap} {a b n sl : Nat} {f : Nat → Int32} {v : Value} (F : IA Z h b n f) (W : Wr h h' a sl v) (q : b ≠ a) : IA Z h' b n f := by obtain ⟨q', c, A, r⟩ := F; exact ⟨q', c, A.other W q, r⟩
theorem IA.congr {h : Heap} {a n : Nat} {f f' : Nat → Int32} (F : IA Z h a n f) (q : ∀ i, i < n → f i = f' i) : IA Z h a n f' := by obtain ⟨q', c, A, r, s⟩ := F; exact ⟨q', c, A, r, fun i hi => by rw [← q i hi]; exact s i hi⟩
theorem g_iaload (X : Stand p l e R s m args below meth c T locs cells slots) (hx : p.tables.exec = Jvm.exec) (hZ : Z.Warmed39 s.vm) (eT : T.heap = h) {a n k : Nat} {f : Nat → Int32} {j : Int32} (F : IA Z h a n f) (hj : j.toInt = (k : Int)) (hk : k < n) (hd : decode c.code pc = .ok (.iaload, 1)) (hp : pc + 1 = pc')
    (kk : Goes p e s below Q n0 C N T (mkF m pc' Ls (.int (f k) :: st))) : Goes p e s below Q n0 C N T (mkF m pc Ls (.int j :: .ref a :: st)) := by
  subst hp; obtain ⟨-, cl, A, S, H⟩ := F
  exact kk.go fun t q => X.iaload hx (by rw [eT]; exact A.1) (State.isArrayOf_alike hZ.alike A.2.1) A.2.2 (by rw [S]; exact nin hj hk) (by rw [(nclamp hj).1]; exact H k hk) (g := mkF m pc Ls (.int j :: .ref a :: st)) rfl rfl hd t q
theorem g_lenIA (X : Stand p l e R s m args below meth c T locs cells slots) (hx : p.tables.exec = Jvm.exec) (hZ : Z.Warmed39 s.vm) (eT : T.heap = h) {a n : Nat} {f : Nat → Int32} {z : Int32} (F : IA Z h a n f) (hz : z.toInt = (n : Int)) (hd : decode c.code pc = .ok (.arraylength, 1)) (hp : pc + 1 = pc')
    (kk : Goes p e s below Q n0 C N T (mkF m pc' Ls (.int z :: st))) : Goes p e s below Q n0 C N T (mkF m pc Ls (.ref a :: st)) := by
  subst hp; obtain ⟨hn, cl, A, S, H⟩ := F
  have hzz : z = cl.slots.size.toInt32 := Int32.toInt_inj.mp (by rw [S, hz, len32 hn])
  subst hzz
  exact kk.go fun t q => X.arraylength hx (by rw [eT]; exact A.1) (State.isArrayOf_alike hZ.alike A.2.1) (g := mkF m pc Ls (.ref a :: st)) rfl rfl hd t q
theorem g_iastore (X : Stand p l e R s m args below meth c T locs cells slots) (hx : p.tables.exec = Jvm.exec) (hZ : Z.Warmed39 s.vm) (eT : T.heap = h) {a n k : Nat} {f : Nat → Int32} {j : Int32} {x : Int32} (F : IA Z h a n f) (hj : j.toInt = (k : Int)) (hk : k < n) (hN : Fr n0 locs) (ha : n0 ≤ a) (hd : decode c.code pc = .ok (.iastore, 1)) (hp : pc + 1 = pc')
    (kk : ∀ T' h' locs', Stand p l e R s m args below meth c T' locs' cells slots → T'.heap = h' → Wr h h' a k (.int x) → Fr n0 locs' → IA Z h' a n (oupd f k x) → Goes p e s below Q n0 C N T' (mkF m pc' Ls st)) : Goes p e s below Q n0 C N T (mkF m pc Ls (.int x :: .int j :: .ref a :: st)) := by
  subst hp; obtain ⟨hn, cl, A, S, H⟩ := F
  obtain ⟨T', h', X', e', W', st'⟩ := stI X hx hZ eT A (j := j) (x := x) (by rw [S]; exact nin hj hk) (g := mkF m pc Ls (.int x :: .int j :: .ref a :: st)) rfl rfl hd
  rw [(nclamp hj).1] at W' X'
  refine (kk T' h' _ X' e' W' (Fr.snoc X' hN ha) ⟨hn, _, A.same W', by rw [sz_set]; exact S, fun i hi => ?_⟩).go st'
  by_cases q : i = k
  · subst q; simp [Cell.setSlot, oupd, S, hi]
  · have := H i hi
    simp only [Cell.setSlot, oupd, q, if_false]
    rw [Array.getElem?_setIfInBounds_ne (fun z => q z.symm)]; exact this
theorem g_newIA (X : Stand p l e R s m args below meth c T locs cells slots) (hx : p.tables.exec = Jvm.exec) (hZ : Z.Warmed39 s.vm) (w : (Cond.arrayClass .int).before a0 Z = true) (eT : T.heap = h) {z : Int32} {n : Nat} (hz : z.toInt = (n : Int)) {cap : Nat} (hcap : n ≤ cap) (hb : cap * 8 ≤ 536870912) (hd : decode c.code pc = .ok (.newarray .int, 2)) (hc : cells + 1 ≤ R.cells) (hl : slots + cap ≤ R.slots) (hp : pc + 2 = pc')
    (kk : ∀ T' h' a, a = h.size → Stand p l e R s m args below meth c T' locs (cells + 1) (slots + cap) → T'.heap = h' → Ext h h' → a < h'.size → IA Z h' a n zeroI → Goes p e s below Q n0 C N T' (mkF m pc' Ls (.ref a :: st))) : Goes p e s below Q n0 C N T (mkF m pc Ls (.int z :: st)) := by
  subst hp
  obtain ⟨q1, q2⟩ := nclamp hz
  obtain ⟨T', h', cA, X', e', E', A', st'⟩ := newP X hx hZ (aty := .int) w eT (g := mkF m pc Ls (.int z :: st)) rfl hd (n := z) rfl q2 (cap := cap) (by rw [q1]; exact hcap) hb hc hl
  refine (kk T' h' h.size rfl X' e' E' A'.lt ⟨?_, _, A', by rw [sz_new, q1], fun i hi => ?_⟩).go st'
  · have := z.toInt_lt; omega
  · simp only [newA, q1]; simp [hi]; rfl
theorem LA.lt {h : Heap} {a n : Nat} {f : Nat → Int64} (F : LA Z h a n f) : a < h.size := by obtain ⟨_, c, A, -⟩ := F; exact A.lt
theorem LA.ext {h h' : Heap} {a n : Nat} {f : Nat → Int64} (F : LA Z h a n f) (E : Ext h h') : LA Z h' a n f := by obtain ⟨q, c, A, r⟩ := F; exact ⟨q, c, A.ext E, r⟩
theorem LA.keep {h h' : Heap} {a n : Nat} {f : Nat → Int64} {ws : List Addr} (F : LA Z h a n f) (K : Keep h h' ws) (q : a ∉ ws) : LA Z h' a n f := by obtain ⟨q', c, A, r⟩ := F; exact ⟨q', c, ⟨K.2.1 a c A.1 q, A.2⟩, r⟩
theorem LA.other {h h' : Heap} {a b n sl : Nat} {f : Nat → Int64} {v : Value} (F : LA Z h b n f) (W : Wr h h' a sl v) (q : b ≠ a) : LA Z h' b n f := by obtain ⟨q', c, A, r⟩ := F; exact ⟨q', c, A.other W q, r⟩
theorem LA.congr {h : Heap} {a n : Nat} {f f' : Nat → Int64} (F : LA Z h a n f) (q : ∀ i, i < n → f i = f' i) : LA Z h a n f' := by obtain ⟨q', c, A, r, s⟩ := F; exact ⟨q', c, A, r, fun i hi => by rw [← q i hi]; exact s i hi⟩
theorem g_laload (X : Stand p l e R s m args below meth c T locs cells slots) (hx : p.tables.exec = Jvm.exec) (hZ : Z.Warmed39 s.vm) (eT : T.heap = h) {a n k : Nat} {f : Nat → Int64} {j : Int32} (F : LA Z h a n f) (hj : j.toInt = (k : Int)) (hk : k < n) (hd : decode c.code pc = .ok (.laload, 1)) (hp : pc + 1 = pc')
    (kk : Goes p e s below Q n0 C N T (mkF m pc' Ls (.long (f k) :: st))) : Goes p e s below Q n0 C N T (mkF m pc Ls (.int j :: .ref a :: st)) := by
  subst hp; obtain ⟨-, cl, A, S, H⟩ := F
  exact kk.go fun t q => X.laload hx (by rw [eT]; exact A.1) (State.isArrayOf_alike hZ.alike A.2.1) A.2.2 (by rw [S]; exact nin hj hk) (by rw [(nclamp hj).1]; exact H k hk) (g := mkF m pc Ls (.int j :: .ref a :: st)) rfl rfl hd t q
theorem g_lenLA (X : Stand p l e R s m args below meth c T locs cells slots) (hx : p.tables.exec = Jvm.exec) (hZ : Z.Warmed39 s.vm) (eT : T.heap = h) {a n : Nat} {f : Nat → Int64} {z : Int32} (F : LA Z h a n f) (hz : z.toInt = (n : Int)) (hd : decode c.code pc = .ok (.arraylength, 1)) (hp : pc + 1 = pc')
    (kk : Goes p e s below Q n0 C N T (mkF m pc' Ls (.int z :: st))) : Goes p e s below Q n0 C N T (mkF m pc Ls (.ref a :: st)) := by
  subst hp; obtain ⟨hn, cl, A, S, H⟩ := F
  have hzz : z = cl.slots.size.toInt32 := Int32.toInt_inj.mp (by rw [S, hz, len32 hn])
  subst hzz
  exact kk.go fun t q => X.arraylength hx (by rw [eT]; exact A.1) (State.isArrayOf_alike hZ.alike A.2.1) (g := mkF m pc Ls (.ref a :: st)) rfl rfl hd t q
theorem g_lastore (X : Stand p l e R s m args below meth c T locs cells slots) (hx : p.tables.exec = Jvm.exec) (hZ : Z.Warmed39 s.vm) (eT : T.heap = h) {a n k : Nat} {f : Nat → Int64} {j : Int32} {x : Int64} (F : LA Z h a n f) (hj : j.toInt = (k : Int)) (hk : k < n) (hN : Fr n0 locs) (ha : n0 ≤ a) (hd : decode c.code pc = .ok (.lastore, 1)) (hp : pc + 1 = pc')
    (kk : ∀ T' h' locs', Stand p l e R s m args below meth c T' locs' cells slots → T'.heap = h' → Wr h h' a k (.long x) → Fr n0 locs' → LA Z h' a n (oupd f k x) → Goes p e s below Q n0 C N T' (mkF m pc' Ls st)) : Goes p e s below Q n0 C N T (mkF m pc Ls (.long x :: .int j :: .ref a :: st)) := by
  subst hp; obtain ⟨hn, cl, A, S, H⟩ := F
  obtain ⟨T', h', X', e', W', st'⟩ := stJ X hx hZ eT A (j := j) (x := x) (by rw [S]; exact nin hj hk) (g := mkF m pc Ls (.long x :: .int j :: .ref a :: st)) rfl rfl hd
  rw [(nclamp hj).1] at W' X'
  refine (kk T' h' _ X' e' W' (Fr.snoc X' hN ha) ⟨hn, _, A.same W', by rw [sz_set]; exact S, fun i hi => ?_⟩).go st'
  by_cases q : i = k
  · subst q; simp [Cell.setSlot, oupd, S, hi]
  · have := H i hi
    simp only [Cell.setSlot, oupd, q, if_false]
    rw [Array.getElem?_setIfInBounds_ne (fun z => q z.symm)]; exact this
theorem g_newLA (X : Stand p l e R s m args below meth c T locs cells slots) (hx : p.tables.exec = Jvm.exec) (hZ : Z.Warmed39 s.vm) (w : (Cond.arrayClass .long).before a0 Z = true) (eT : T.heap = h) {z : Int32} {n : Nat} (hz : z.toInt = (n : Int)) {cap : Nat} (hcap : n ≤ cap) (hb : cap * 8 ≤ 536870912) (hd : decode c.code pc = .ok (.newarray .long, 2)) (hc : cells + 1 ≤ R.cells) (hl : slots + cap ≤ R.slots) (hp : pc + 2 = pc')
    (kk : ∀ T' h' a, a = h.size → Stand p l e R s m args below meth c T' locs (cells + 1) (slots + cap) → T'.heap = h' → Ext h h' → a < h'.size → LA Z h' a n zeroL → Goes p e s below Q n0 C N T' (mkF m pc' Ls (.ref a :: st))) : Goes p e s below Q n0 C N T (mkF m pc Ls (.int z :: st)) := by
  subst hp
  obtain ⟨q1, q2⟩ := nclamp hz
  obtain ⟨T', h', cA, X', e', E', A', st'⟩ := newP X hx hZ (aty := .long) w eT (g := mkF m pc Ls (.int z :: st)) rfl hd (n := z) rfl q2 (cap := cap) (by rw [q1]; exact hcap) hb hc hl
  refine (kk T' h' h.size rfl X' e' E' A'.lt ⟨?_, _, A', by rw [sz_new, q1], fun i hi => ?_⟩).go st'
  · have := z.toInt_lt; omega
  · simp only [newA, q1]; simp [hi]; rfl
/-! numbers -/
theorem all_succ {P : Nat → Prop} {i : Nat} (h : ∀ y, y < i → P y) (hi : P i) : ∀ y, y < i + 1 → P y := fun y hy => by
  by_cases q : y = i
  · exact q ▸ hi
  · exact h y (by omega)
theorem oupd_at {A : Type} (f : Nat → A) (j : Nat) (v : A) : oupd f j v j = v := by simp [oupd]
theorem oupd_ne {A : Type} (f : Nat → A) {i j : Nat} (v : A) (q : ¬ i = j) : oupd f j v i = f i := by simp [oupd, q]
theorem i32_of_nat (n : Nat) (hn : n < 2147483648) : (Int32.ofNat n).toInt = (n : Int) := by
  rw [Int32.toInt_ofNat']; have hsz : (Int32.size : Int) = 4294967296 := rfl; exact Int.bmod_eq_of_le (by omega) (by omega)
theorem i32_get {x : Int32} (h : 0 ≤ x.toInt) : ∃ n : Nat, x.toInt = (n : Int) ∧ n < 2147483648 := ⟨x.toInt.toNat, (Int.toNat_of_nonneg h).symm, by have := x.toInt_lt; omega⟩
theorem oupdI (f : Nat → Int32) (j i : Nat) (v : Int32) : i = j ∧ (oupd f j v i).toInt = v.toInt ∨ ¬ i = j ∧ (oupd f j v i).toInt = (f i).toInt := by
  by_cases q : i = j
  · exact Or.inl ⟨q, by simp [oupd, q]⟩
  · exact Or.inr ⟨q, by simp [oupd, q]⟩
theorem oupdL (f : Nat → Int64) (j i : Nat) (v : Int64) : i = j ∧ (oupd f j v i).toInt = v.toInt ∨ ¬ i = j ∧ (oupd f j v i).toInt = (f i).toInt := by
  by_cases q : i = j
  · exact Or.inl ⟨q, by simp [oupd, q]⟩
  · exact Or.inr ⟨q, by simp [oupd, q]⟩
end Laws
end Jvm.OwnKit

namespace Jvm.Pilot.@@N@@
open Jvm Jvm.ClassFile Sem Op Lib Jvm.Free Jvm.Stand Jvm.LawKit Jvm.RoadKit Bundle Jvm.OwnKit Jvm.Pilot.@@N@@.Jvm.D
theorem pd_0 : parseMethodDescriptor "()V" = some ⟨[], none⟩ := by decide +kernel
theorem pd_1 : parseMethodDescriptor "(III)V" = some ⟨[.int, .int, .int], none⟩ := by decide +kernel
theorem pd_2 : parseMethodDescriptor "(IILcom/example/coextent/coextent/reasoner/CompletionGraph$Slot;Z)V" = some ⟨[.int, .int, (.object "com/example/coextent/coextent/reasoner/CompletionGraph$Slot"), .boolean], none⟩ := by decide +kernel
theorem pd_3 : parseMethodDescriptor "()Z" = some ⟨[], some .boolean⟩ := by decide +kernel
theorem own_ref {v : Value} (h : v.isRef = true) (K : String) : narrow (.object K) v = v ∧ fits (.object K) v = true := by cases v <;> simp_all [Value.isRef, narrow, fits]
theorem own_refA {v : Value} (h : v.isRef = true) (t : FieldType) : narrow (.array t) v = v ∧ fits (.array t) v = true := by cases v <;> simp_all [Value.isRef, narrow, fits]
theorem d2_0 : decode jdk_30_method_1_code 0 = .ok (.aload_n 0, 1) := by decide +kernel
theorem d2_1 : decode jdk_30_method_1_code 1 = .ok (.invokespecial 1, 3) := by decide +kernel
theorem d2_4 : decode jdk_30_method_1_code 4 = .ok (.return_, 1) := by decide +kernel
theorem pn_0 : plainFor (⟨"java/lang/Record", "<init>", "()V"⟩ : MethodName) = true := by first | exact plainFor_of_name (by first | (simp [plainName, overriddenIn]; done) | decide +kernel) | decide +kernel
def Q1 (Z : State) (a : Addr) (h0 : Heap) (n0 : Nat) (v : Option Value) (h : Heap) : Prop := v = none ∧ h = h0
abbrev R1 : Room := { frames := 1, cells := 0, slots := 0, locals := 12 }
set_option maxRecDepth 65536 in
set_option maxHeartbeats 40000000 in
theorem rm1 (l : Launch) (Z : State) (a0 : Array Value) (hw : ∀ d ∈ tables_1, d.before a0 Z = true)  (a : Addr) (h0 : Heap) (n0 : Nat) (Z0 : n0 ≤ h0.size)  :
    Con l (⟨"java/lang/Record", "<init>", "()V"⟩ : MethodName) jdk_30_method_1_code 1 none [] R1 Z #[(.ref a)] h0 n0 (Q1 Z a h0 n0) := by
  refine con_of (Ls0 := #[.val (.ref a)]) pn_0 (fun m => by first | (simp [entryFrame, mkF, argsToLocals, Value.category, maxLocals]; done) | rfl) ?_
  intro p e s m below meth c s₁ X0 hx hby hml hZ hown hnm hret hlk e0 N0
  show Goes p e s below (Q1 Z a h0 n0) n0 R1.cells R1.slots s₁ (mkF m 0 #[.val (.ref a)] [])
  refine g_aloadN X0 hx (hb hby d2_0) (v := (.ref a)) rfl rfl (pc' := 1) rfl ?_
  refine g_initO X0 hx hZ hown (hw _ (List.mem_of_getElem? (i := 11) rfl)) (hw _ (List.mem_of_getElem? (i := 12) rfl)) (hw _ (List.mem_of_getElem? (i := 13) rfl)) e0 (by rw [hml]; rfl) (hb hby d2_1) (by decide) (W := 0) (Nat.le_of_eq rfl) (by decide) (pc' := 4) rfl (fun T1 X2 e3 => ?_)
  refine g_retV X2 hx hlk hret (hb hby d2_4) N0 (by decide) (by decide) ?_
  exact ⟨rfl, e3⟩
theorem d1_0 : decode prog_93_method_1_code 0 = .ok (.aload_n 0, 1) := by decide +kernel
theorem d1_1 : decode prog_93_method_1_code 1 = .ok (.invokespecial 1, 3) := by decide +kernel
theorem d1_4 : decode prog_93_method_1_code 4 = .ok (.aload_n 0, 1) := by decide +kernel
theorem d1_5 : decode prog_93_method_1_code 5 = .ok (.iload_n 1, 1) := by decide +kernel
theorem d1_6 : decode prog_93_method_1_code 6 = .ok (.putfield 7, 3) := by decide +kernel
theorem d1_9 : decode prog_93_method_1_code 9 = .ok (.aload_n 0, 1) := by decide +kernel
theorem d1_10 : decode prog_93_method_1_code 10 = .ok (.iload_n 2, 1) := by decide +kernel
theorem d1_11 : decode prog_93_method_1_code 11 = .ok (.putfield 13, 3) := by decide +kernel
theorem d1_14 : decode prog_93_method_1_code 14 = .ok (.aload_n 0, 1) := by decide +kernel
theorem d1_15 : decode prog_93_method_1_code 15 = .ok (.iload_n 3, 1) := by decide +kernel
theorem d1_16 : decode prog_93_method_1_code 16 = .ok (.putfield 16, 3) := by decide +kernel
theorem d1_19 : decode prog_93_method_1_code 19 = .ok (.return_, 1) := by decide +kernel
theorem pn_1 : plainFor (⟨"com/example/coextent/coextent/reasoner/CompletionGraph$Slot", "<init>", "(III)V"⟩ : MethodName) = true := by first | exact plainFor_of_name (by first | (simp [plainName, overriddenIn]; done) | decide +kernel) | decide +kernel
def Q2 (Z : State) (a : Addr) (p1 : Int32) (p2 : Int32) (p3 : Int32) (h0 : Heap) (n0 : Nat) (v : Option Value) (h : Heap) : Prop := v = none ∧ Keep h0 h [a] ∧ Exa Z h a "com/example/coextent/coextent/reasoner/CompletionGraph$Slot"
abbrev R2 : Room := { frames := 2, cells := 0, slots := 0, locals := 24 }
set_option maxRecDepth 65536 in
set_option maxHeartbeats 40000000 in
theorem rm2 (l : Launch) (Z : State) (a0 : Array Value) (hw : ∀ d ∈ tables_1, d.before a0 Z = true)  (a : Addr) (p1 : Int32) (p2 : Int32) (p3 : Int32) (h0 : Heap) (n0 : Nat) (Z0 : n0 ≤ h0.size) (Fp0 : Fld Z h0 a "com/example/coextent/coextent/reasoner/CompletionGraph$Slot" "holder" "I" (.int (0 : Int32))) (Fp1 : Fld Z h0 a "com/example/coextent/coextent/reasoner/CompletionGraph$Slot" "atMost" "I" (.int (0 : Int32))) (Fp2 : Fld Z h0 a "com/example/coextent/coextent/reasoner/CompletionGraph$Slot" "place" "I" (.int (0 : Int32))) (Fp3 : Exa Z h0 a "com/example/coextent/coextent/reasoner/CompletionGraph$Slot") (gn_a : n0 ≤ a) :
    Con l (⟨"com/example/coextent/coextent/reasoner/CompletionGraph$Slot", "<init>", "(III)V"⟩ : MethodName) prog_93_method_1_code 4 none [] R2 Z #[(.ref a), (.int p1), (.int p2), (.int p3)] h0 n0 (Q2 Z a p1 p2 p3 h0 n0) := by
  refine con_of (Ls0 := #[.val (.ref a), .val (.int p1), .val (.int p2), .val (.int p3)]) pn_1 (fun m => by first | (simp [entryFrame, mkF, argsToLocals, Value.category, maxLocals]; done) | rfl) ?_
  intro p e s m below meth c s₁ X0 hx hby hml hZ hown hnm hret hlk e0 N0
  show Goes p e s below (Q2 Z a p1 p2 p3 h0 n0) n0 R2.cells R2.slots s₁ (mkF m 0 #[.val (.ref a), .val (.int p1), .val (.int p2), .val (.int p3)] [])
  have K0 : Keep h0 h0 [a] := Keep.refl _ _
  refine g_aloadN X0 hx (hb hby d1_0) (v := (.ref a)) rfl rfl (pc' := 1) rfl ?_
  refine g_special X0 hx hZ rfl hown (hw _ (List.mem_of_getElem? (i := 6) rfl)) (hw _ (List.mem_of_getElem? (i := 7) rfl)) (hw _ (List.mem_of_getElem? (i := 9) rfl)) (hw _ (List.mem_of_getElem? (i := 10) rfl)) (by decide) (a := a) (argsL := []) (rm1 l Z a0 hw a h0 n0 Z0 ) rfl e0 (by rw [hml]; rfl) pd_0 rfl (rest := []) rfl (W := 0) (Nat.le_of_eq rfl) (by decide) (by decide) (by decide) (by decide) N0 (hb hby d1_1) (pc' := 4) rfl (fun v1 T2 L3 X4 N5 q6 => ?_)
  obtain ⟨rfl, K7⟩ := q6
  show Goes p e s below (Q2 Z a p1 p2 p3 h0 n0) n0 R2.cells R2.slots T2 (mkF m 4 #[.val (.ref a), .val (.int p1), .val (.int p2), .val (.int p3)] [])
  refine g_aloadN X4 hx (hb hby d1_4) (v := (.ref a)) rfl rfl (pc' := 5) rfl ?_
  refine g_iloadN X4 hx (hb hby d1_5) (v := p1) rfl (pc' := 6) rfl ?_
  refine g_putF X4 hx hZ hown (hw _ (List.mem_of_getElem? (i := 14) rfl)) K7 (v := (.int p1)) Fp0 Fp3 (Or.inr ⟨(hw _ (List.mem_of_getElem? (i := 15) rfl)), rfl, hnm⟩) (hw _ (List.mem_of_getElem? (i := 1) rfl)) (ty := .int) (by decide) rfl rfl N5 gn_a (hb hby d1_6) (pc' := 9) rfl (fun T8 h9 L10 X11 e12 W13 N14 => ?_)
  have K15 := K0.wr W13 (Or.inl (by simp))
  have Z16 : n0 ≤ h9.size := by rw [W13.size]; exact Z0
  have F18 := Fld.other W13 Fp1 (Or.inr (slot_ne (Or.inr (hw _ (List.mem_of_getElem? (i := 17) rfl))) (Or.inr (hw _ (List.mem_of_getElem? (i := 15) rfl))) (by decide) (t := .int) (t' := .int) (by decide) (by decide)))
  have F19 := Fld.other W13 Fp2 (Or.inr (slot_ne (Or.inr (hw _ (List.mem_of_getElem? (i := 19) rfl))) (Or.inr (hw _ (List.mem_of_getElem? (i := 15) rfl))) (by decide) (t := .int) (t' := .int) (by decide) (by decide)))
  have F20 := Exa.wr W13 Fp3
  refine g_aloadN X11 hx (hb hby d1_9) (v := (.ref a)) rfl rfl (pc' := 10) rfl ?_
  refine g_iloadN X11 hx (hb hby d1_10) (v := p2) rfl (pc' := 11) rfl ?_
  refine g_putF X11 hx hZ hown (hw _ (List.mem_of_getElem? (i := 16) rfl)) e12 (v := (.int p2)) F18 F20 (Or.inr ⟨(hw _ (List.mem_of_getElem? (i := 17) rfl)), rfl, hnm⟩) (hw _ (List.mem_of_getElem? (i := 1) rfl)) (ty := .int) (by decide) rfl rfl N14 gn_a (hb hby d1_11) (pc' := 14) rfl (fun T21 h22 L23 X24 e25 W26 N27 => ?_)
  have K28 := K15.wr W26 (Or.inl (by simp))
  have Z29 : n0 ≤ h22.size := by rw [W26.size]; exact Z16
  have F31 := Fld.other W26 F19 (Or.inr (slot_ne (Or.inr (hw _ (List.mem_of_getElem? (i := 19) rfl))) (Or.inr (hw _ (List.mem_of_getElem? (i := 17) rfl))) (by decide) (t := .int) (t' := .int) (by decide) (by decide)))
  have F32 := Exa.wr W26 F20
  refine g_aloadN X24 hx (hb hby d1_14) (v := (.ref a)) rfl rfl (pc' := 15) rfl ?_
  refine g_iloadN X24 hx (hb hby d1_15) (v := p3) rfl (pc' := 16) rfl ?_
  refine g_putF X24 hx hZ hown (hw _ (List.mem_of_getElem? (i := 18) rfl)) e25 (v := (.int p3)) F31 F32 (Or.inr ⟨(hw _ (List.mem_of_getElem? (i := 19) rfl)), rfl, hnm⟩) (hw _ (List.mem_of_getElem? (i := 1) rfl)) (ty := .int) (by decide) rfl rfl N27 gn_a (hb hby d1_16) (pc' := 19) rfl (fun T33 h34 L35 X36 e37 W38 N39 => ?_)
  have K40 := K28.wr W38 (Or.inl (by simp))
  have Z41 : n0 ≤ h34.size := by rw [W38.size]; exact Z29
  have F43 := Exa.wr W38 F32
  refine g_retV X36 hx hlk hret (hb hby d1_19) N39 (by decide) (by decide) ?_
  rw [e37]
  exact ⟨rfl, K40, F43⟩
theorem d6_0 : decode jdk_71_method_1_code 0 = .ok (.aload_n 0, 1) := by decide +kernel
theorem d6_1 : decode jdk_71_method_1_code 1 = .ok (.invokespecial 1, 3) := by decide +kernel
theorem d6_4 : decode jdk_71_method_1_code 4 = .ok (.return_, 1) := by decide +kernel
theorem pn_2 : plainFor (⟨"java/util/AbstractMap", "<init>", "()V"⟩ : MethodName) = true := by first | exact plainFor_of_name (by first | (simp [plainName, overriddenIn]; done) | decide +kernel) | decide +kernel
def Q3 (Z : State) (a : Addr) (h0 : Heap) (n0 : Nat) (v : Option Value) (h : Heap) : Prop := v = none ∧ h = h0
abbrev R3 : Room := { frames := 1, cells := 0, slots := 0, locals := 12 }
set_option maxRecDepth 65536 in
set_option maxHeartbeats 40000000 in
theorem rm3 (l : Launch) (Z : State) (a0 : Array Value) (hw : ∀ d ∈ tables_1, d.before a0 Z = true)  (a : Addr) (h0 : Heap) (n0 : Nat) (Z0 : n0 ≤ h0.size)  :
    Con l (⟨"java/util/AbstractMap", "<init>", "()V"⟩ : MethodName) jdk_71_method_1_code 1 none [] R3 Z #[(.ref a)] h0 n0 (Q3 Z a h0 n0) := by
  refine con_of (Ls0 := #[.val (.ref a)]) pn_2 (fun m => by first | (simp [entryFrame, mkF, argsToLocals, Value.category, maxLocals]; done) | rfl) ?_
  intro p e s m below meth c s₁ X0 hx hby hml hZ hown hnm hret hlk e0 N0
  show Goes p e s below (Q3 Z a h0 n0) n0 R3.cells R3.slots s₁ (mkF m 0 #[.val (.ref a)] [])
  refine g_aloadN X0 hx (hb hby d6_0) (v := (.ref a)) rfl rfl (pc' := 1) rfl ?_
  refine g_initO X0 hx hZ hown (hw _ (List.mem_of_getElem? (i := 39) rfl)) (hw _ (List.mem_of_getElem? (i := 12) rfl)) (hw _ (List.mem_of_getElem? (i := 13) rfl)) e0 (by rw [hml]; rfl) (hb hby d6_1) (by decide) (W := 0) (Nat.le_of_eq rfl) (by decide) (pc' := 4) rfl (fun T1 X2 e3 => ?_)
  refine g_retV X2 hx hlk hret (hb hby d6_4) N0 (by decide) (by decide) ?_
  exact ⟨rfl, e3⟩
theorem d5_0 : decode jdk_69_method_7_code 0 = .ok (.aload_n 0, 1) := by decide +kernel
theorem d5_1 : decode jdk_69_method_7_code 1 = .ok (.invokespecial 43, 3) := by decide +kernel
theorem d5_4 : decode jdk_69_method_7_code 4 = .ok (.aload_n 0, 1) := by decide +kernel
theorem d5_5 : decode jdk_69_method_7_code 5 = .ok (.ldc 92, 2) := by decide +kernel
theorem d5_7 : decode jdk_69_method_7_code 7 = .ok (.putfield 81, 3) := by decide +kernel
theorem d5_10 : decode jdk_69_method_7_code 10 = .ok (.return_, 1) := by decide +kernel
theorem pn_3 : plainFor (⟨"java/util/HashMap", "<init>", "()V"⟩ : MethodName) = true := by first | exact plainFor_of_name (by first | (simp [plainName, overriddenIn]; done) | decide +kernel) | decide +kernel
def Q4 (Z : State) (a : Addr) (h0 : Heap) (n0 : Nat) (v : Option Value) (h : Heap) : Prop := v = none ∧ Keep h0 h [a] ∧ Exa Z h a "java/util/HashMap"
abbrev R4 : Room := { frames := 2, cells := 0, slots := 0, locals := 24 }
set_option maxRecDepth 65536 in
set_option maxHeartbeats 40000000 in
theorem rm4 (l : Launch) (Z : State) (a0 : Array Value) (hw : ∀ d ∈ tables_1, d.before a0 Z = true)  (a : Addr) (h0 : Heap) (n0 : Nat) (Z0 : n0 ≤ h0.size) (Fp0 : Fld Z h0 a "java/util/HashMap" "loadFactor" "F" (.float 0)) (Fp1 : Exa Z h0 a "java/util/HashMap") (gn_a : n0 ≤ a) :
    Con l (⟨"java/util/HashMap", "<init>", "()V"⟩ : MethodName) jdk_69_method_7_code 1 none [] R4 Z #[(.ref a)] h0 n0 (Q4 Z a h0 n0) := by
  refine con_of (Ls0 := #[.val (.ref a)]) pn_3 (fun m => by first | (simp [entryFrame, mkF, argsToLocals, Value.category, maxLocals]; done) | rfl) ?_
  intro p e s m below meth c s₁ X0 hx hby hml hZ hown hnm hret hlk e0 N0
  show Goes p e s below (Q4 Z a h0 n0) n0 R4.cells R4.slots s₁ (mkF m 0 #[.val (.ref a)] [])
  have K0 : Keep h0 h0 [a] := Keep.refl _ _
  refine g_aloadN X0 hx (hb hby d5_0) (v := (.ref a)) rfl rfl (pc' := 1) rfl ?_
  refine g_special X0 hx hZ rfl hown (hw _ (List.mem_of_getElem? (i := 33) rfl)) (hw _ (List.mem_of_getElem? (i := 34) rfl)) (hw _ (List.mem_of_getElem? (i := 37) rfl)) (hw _ (List.mem_of_getElem? (i := 38) rfl)) (by decide) (a := a) (argsL := []) (rm3 l Z a0 hw a h0 n0 Z0 ) rfl e0 (by rw [hml]; rfl) pd_0 rfl (rest := []) rfl (W := 0) (Nat.le_of_eq rfl) (by decide) (by decide) (by decide) (by decide) N0 (hb hby d5_1) (pc' := 4) rfl (fun v1 T2 L3 X4 N5 q6 => ?_)
  obtain ⟨rfl, K7⟩ := q6
  show Goes p e s below (Q4 Z a h0 n0) n0 R4.cells R4.slots T2 (mkF m 4 #[.val (.ref a)] [])
  refine g_aloadN X4 hx (hb hby d5_4) (v := (.ref a)) rfl rfl (pc' := 5) rfl ?_
  refine g_ldcF X4 hx hZ (b := 1061158912) hown (hw _ (List.mem_of_getElem? (i := 40) rfl)) (hb hby d5_5) (pc' := 7) rfl ?_
  refine g_putF X4 hx hZ hown (hw _ (List.mem_of_getElem? (i := 41) rfl)) K7 (v := (.float (1061158912 : UInt32))) Fp0 Fp1 (Or.inr ⟨(hw _ (List.mem_of_getElem? (i := 42) rfl)), rfl, hnm⟩) (hw _ (List.mem_of_getElem? (i := 28) rfl)) (ty := .float) (by decide) rfl rfl N5 gn_a (hb hby d5_7) (pc' := 10) rfl (fun T8 h9 L10 X11 e12 W13 N14 => ?_)
  have K15 := K0.wr W13 (Or.inl (by simp))
  have Z16 : n0 ≤ h9.size := by rw [W13.size]; exact Z0
  have F17 := Fld.same W13 Fp0
  have F18 := Exa.wr W13 Fp1
  refine g_retV X11 hx hlk hret (hb hby d5_10) N14 (by decide) (by decide) ?_
  rw [e12]
  exact ⟨rfl, K15, F18⟩
theorem d9_0 : decode jdk_22_method_1_code 0 = .ok (.aload_n 0, 1) := by decide +kernel
theorem d9_1 : decode jdk_22_method_1_code 1 = .ok (.invokespecial 1, 3) := by decide +kernel
theorem d9_4 : decode jdk_22_method_1_code 4 = .ok (.return_, 1) := by decide +kernel
theorem pn_4 : plainFor (⟨"java/util/AbstractCollection", "<init>", "()V"⟩ : MethodName) = true := by first | exact plainFor_of_name (by first | (simp [plainName, overriddenIn]; done) | decide +kernel) | decide +kernel
def Q5 (Z : State) (a : Addr) (h0 : Heap) (n0 : Nat) (v : Option Value) (h : Heap) : Prop := v = none ∧ h = h0
abbrev R5 : Room := { frames := 1, cells := 0, slots := 0, locals := 12 }
set_option maxRecDepth 65536 in
set_option maxHeartbeats 40000000 in
theorem rm5 (l : Launch) (Z : State) (a0 : Array Value) (hw : ∀ d ∈ tables_1, d.before a0 Z = true)  (a : Addr) (h0 : Heap) (n0 : Nat) (Z0 : n0 ≤ h0.size)  :
    Con l (⟨"java/util/AbstractCollection", "<init>", "()V"⟩ : MethodName) jdk_22_method_1_code 1 none [] R5 Z #[(.ref a)] h0 n0 (Q5 Z a h0 n0) := by
  refine con_of (Ls0 := #[.val (.ref a)]) pn_4 (fun m => by first | (simp [entryFrame, mkF, argsToLocals, Value.category, maxLocals]; done) | rfl) ?_
  intro p e s m below meth c s₁ X0 hx hby hml hZ hown hnm hret hlk e0 N0
  show Goes p e s below (Q5 Z a h0 n0) n0 R5.cells R5.slots s₁ (mkF m 0 #[.val (.ref a)] [])
  refine g_aloadN X0 hx (hb hby d9_0) (v := (.ref a)) rfl rfl (pc' := 1) rfl ?_
  refine g_initO X0 hx hZ hown (hw _ (List.mem_of_getElem? (i := 63) rfl)) (hw _ (List.mem_of_getElem? (i := 12) rfl)) (hw _ (List.mem_of_getElem? (i := 13) rfl)) e0 (by rw [hml]; rfl) (hb hby d9_1) (by decide) (W := 0) (Nat.le_of_eq rfl) (by decide) (pc' := 4) rfl (fun T1 X2 e3 => ?_)
  refine g_retV X2 hx hlk hret (hb hby d9_4) N0 (by decide) (by decide) ?_
  exact ⟨rfl, e3⟩
theorem d8_0 : decode jdk_39_method_1_code 0 = .ok (.aload_n 0, 1) := by decide +kernel
theorem d8_1 : decode jdk_39_method_1_code 1 = .ok (.invokespecial 1, 3) := by decide +kernel
theorem d8_4 : decode jdk_39_method_1_code 4 = .ok (.aload_n 0, 1) := by decide +kernel
theorem d8_5 : decode jdk_39_method_1_code 5 = .ok (.iconst 0, 1) := by decide +kernel
theorem d8_6 : decode jdk_39_method_1_code 6 = .ok (.putfield 7, 3) := by decide +kernel
theorem d8_9 : decode jdk_39_method_1_code 9 = .ok (.return_, 1) := by decide +kernel
theorem pn_5 : plainFor (⟨"java/util/AbstractList", "<init>", "()V"⟩ : MethodName) = true := by first | exact plainFor_of_name (by first | (simp [plainName, overriddenIn]; done) | decide +kernel) | decide +kernel
def Q6 (Z : State) (a : Addr) (h0 : Heap) (n0 : Nat) (v : Option Value) (h : Heap) : Prop := v = none ∧ Keep h0 h [a] ∧ Exa Z h a "java/util/ArrayList" ∧ Fld Z h a "java/util/ArrayList" "elementData" "[Ljava/lang/Object;" .null
abbrev R6 : Room := { frames := 2, cells := 0, slots := 0, locals := 24 }
set_option maxRecDepth 65536 in
set_option maxHeartbeats 40000000 in
theorem rm6 (l : Launch) (Z : State) (a0 : Array Value) (hw : ∀ d ∈ tables_1, d.before a0 Z = true)  (a : Addr) (h0 : Heap) (n0 : Nat) (Z0 : n0 ≤ h0.size) (Fp0 : Fld Z h0 a "java/util/AbstractList" "modCount" "I" (.int (0 : Int32))) (Fp1 : Fld Z h0 a "java/util/ArrayList" "elementData" "[Ljava/lang/Object;" .null) (Fp2 : Exa Z h0 a "java/util/ArrayList") (gn_a : n0 ≤ a) :
    Con l (⟨"java/util/AbstractList", "<init>", "()V"⟩ : MethodName) jdk_39_method_1_code 1 none [] R6 Z #[(.ref a)] h0 n0 (Q6 Z a h0 n0) := by
  refine con_of (Ls0 := #[.val (.ref a)]) pn_5 (fun m => by first | (simp [entryFrame, mkF, argsToLocals, Value.category, maxLocals]; done) | rfl) ?_
  intro p e s m below meth c s₁ X0 hx hby hml hZ hown hnm hret hlk e0 N0
  show Goes p e s below (Q6 Z a h0 n0) n0 R6.cells R6.slots s₁ (mkF m 0 #[.val (.ref a)] [])
  have K0 : Keep h0 h0 [a] := Keep.refl _ _
  refine g_aloadN X0 hx (hb hby d8_0) (v := (.ref a)) rfl rfl (pc' := 1) rfl ?_
  refine g_special X0 hx hZ rfl hown (hw _ (List.mem_of_getElem? (i := 57) rfl)) (hw _ (List.mem_of_getElem? (i := 58) rfl)) (hw _ (List.mem_of_getElem? (i := 61) rfl)) (hw _ (List.mem_of_getElem? (i := 62) rfl)) (by decide) (a := a) (argsL := []) (rm5 l Z a0 hw a h0 n0 Z0 ) rfl e0 (by rw [hml]; rfl) pd_0 rfl (rest := []) rfl (W := 0) (Nat.le_of_eq rfl) (by decide) (by decide) (by decide) (by decide) N0 (hb hby d8_1) (pc' := 4) rfl (fun v1 T2 L3 X4 N5 q6 => ?_)
  obtain ⟨rfl, K7⟩ := q6
  show Goes p e s below (Q6 Z a h0 n0) n0 R6.cells R6.slots T2 (mkF m 4 #[.val (.ref a)] [])
  refine g_aloadN X4 hx (hb hby d8_4) (v := (.ref a)) rfl rfl (pc' := 5) rfl ?_
  refine g_iconst X4 hx (hb hby d8_5) (v := 0) (by decide) (pc' := 6) rfl ?_
  refine g_putF X4 hx hZ hown (hw _ (List.mem_of_getElem? (i := 64) rfl)) K7 (v := (.int (0 : Int32))) Fp0 Fp2 (Or.inl (hw _ (List.mem_of_getElem? (i := 65) rfl))) (hw _ (List.mem_of_getElem? (i := 46) rfl)) (ty := .int) (by decide) rfl rfl N5 gn_a (hb hby d8_6) (pc' := 9) rfl (fun T8 h9 L10 X11 e12 W13 N14 => ?_)
  have K15 := K0.wr W13 (Or.inl (by simp))
  have Z16 : n0 ≤ h9.size := by rw [W13.size]; exact Z0
  have F18 := Fld.other W13 Fp1 (Or.inr (slot_ne (Or.inl (hw _ (List.mem_of_getElem? (i := 68) rfl))) (Or.inl (hw _ (List.mem_of_getElem? (i := 65) rfl))) (by decide) (t := (.array (.object "java/lang/Object"))) (t' := .int) (by decide) (by decide)))
  have F19 := Exa.wr W13 Fp2
  refine g_retV X11 hx hlk hret (hb hby d8_9) N14 (by decide) (by decide) ?_
  rw [e12]
  exact ⟨rfl, K15, F19, F18⟩
theorem d7_0 : decode jdk_38_method_2_code 0 = .ok (.aload_n 0, 1) := by decide +kernel
theorem d7_1 : decode jdk_38_method_2_code 1 = .ok (.invokespecial 1, 3) := by decide +kernel
theorem d7_4 : decode jdk_38_method_2_code 4 = .ok (.aload_n 0, 1) := by decide +kernel
theorem d7_5 : decode jdk_38_method_2_code 5 = .ok (.getstatic 39, 3) := by decide +kernel
theorem d7_8 : decode jdk_38_method_2_code 8 = .ok (.putfield 9, 3) := by decide +kernel
theorem d7_11 : decode jdk_38_method_2_code 11 = .ok (.return_, 1) := by decide +kernel
theorem pn_6 : plainFor (⟨"java/util/ArrayList", "<init>", "()V"⟩ : MethodName) = true := by first | exact plainFor_of_name (by first | (simp [plainName, overriddenIn]; done) | decide +kernel) | decide +kernel
def Q7 (Z : State) (a : Addr) (sv : Value) (h0 : Heap) (n0 : Nat) (v : Option Value) (h : Heap) : Prop := v = none ∧ Keep h0 h [a] ∧ Exa Z h a "java/util/ArrayList"
abbrev R7 : Room := { frames := 3, cells := 0, slots := 0, locals := 36 }
set_option maxRecDepth 65536 in
set_option maxHeartbeats 40000000 in
theorem rm7 (l : Launch) (Z : State) (a0 : Array Value) (hw : ∀ d ∈ tables_1, d.before a0 Z = true)  (a : Addr) (sv : Value) (h0 : Heap) (n0 : Nat) (Z0 : n0 ≤ h0.size) (Fp0 : Fld Z h0 a "java/util/AbstractList" "modCount" "I" (.int (0 : Int32))) (Fp1 : Fld Z h0 a "java/util/ArrayList" "elementData" "[Ljava/lang/Object;" .null) (Fp2 : Exa Z h0 a "java/util/ArrayList") (Fp3 : Old Z n0 h0) (S0 : Sta Z Z.heap "java/util/ArrayList" "DEFAULTCAPACITY_EMPTY_ELEMENTDATA" "[Ljava/lang/Object;" sv) (r0 : sv.isRef = true) (gn_a : n0 ≤ a) :
    Con l (⟨"java/util/ArrayList", "<init>", "()V"⟩ : MethodName) jdk_38_method_2_code 1 none [] R7 Z #[(.ref a)] h0 n0 (Q7 Z a sv h0 n0) := by
  refine con_of (Ls0 := #[.val (.ref a)]) pn_6 (fun m => by first | (simp [entryFrame, mkF, argsToLocals, Value.category, maxLocals]; done) | rfl) ?_
  intro p e s m below meth c s₁ X0 hx hby hml hZ hown hnm hret hlk e0 N0
  show Goes p e s below (Q7 Z a sv h0 n0) n0 R7.cells R7.slots s₁ (mkF m 0 #[.val (.ref a)] [])
  have K0 : Keep h0 h0 [a] := Keep.refl _ _
  refine g_aloadN X0 hx (hb hby d7_0) (v := (.ref a)) rfl rfl (pc' := 1) rfl ?_
  refine g_special X0 hx hZ rfl hown (hw _ (List.mem_of_getElem? (i := 51) rfl)) (hw _ (List.mem_of_getElem? (i := 52) rfl)) (hw _ (List.mem_of_getElem? (i := 55) rfl)) (hw _ (List.mem_of_getElem? (i := 56) rfl)) (by decide) (a := a) (argsL := []) (rm6 l Z a0 hw a h0 n0 Z0 Fp0 Fp1 Fp2 gn_a) rfl e0 (by rw [hml]; rfl) pd_0 rfl (rest := []) rfl (W := 0) (Nat.le_of_eq rfl) (by decide) (by decide) (by decide) (by decide) N0 (hb hby d7_1) (pc' := 4) rfl (fun v1 T2 L3 X4 N5 q6 => ?_)
  obtain ⟨rfl, K7, F8, F9⟩ := q6
  have Z10 : n0 ≤ T2.heap.size := Nat.le_trans Z0 K7.1
  have F12 := Fp3.keep K7 (allS gn_a all0)
  have K13 := K0.trans K7 (allS (Or.inl (by simp)) all0)
  show Goes p e s below (Q7 Z a sv h0 n0) n0 R7.cells R7.slots T2 (mkF m 4 #[.val (.ref a)] [])
  refine g_aloadN X4 hx (hb hby d7_4) (v := (.ref a)) rfl rfl (pc' := 5) rfl ?_
  refine g_getS X4 hx hZ hown (hw _ (List.mem_of_getElem? (i := 66) rfl)) rfl (Sta.ext F12.2 S0) (hb hby d7_5) (pc' := 8) rfl (fun T14 X15 e16 => ?_)
  refine g_putF X15 hx hZ hown (hw _ (List.mem_of_getElem? (i := 67) rfl)) e16 (v := sv) F9 F8 (Or.inl (hw _ (List.mem_of_getElem? (i := 68) rfl))) (hw _ (List.mem_of_getElem? (i := 46) rfl)) (ty := (.array (.object "java/lang/Object"))) (by decide) (own_refA r0 _).1 (own_refA r0 _).2 N5 gn_a (hb hby d7_8) (pc' := 11) rfl (fun T17 h18 L19 X20 e21 W22 N23 => ?_)
  have K24 := K13.wr W22 (Or.inl (by simp))
  have Z25 : n0 ≤ h18.size := by rw [W22.size]; exact Z10
  have F26 := F12.wr W22 gn_a
  have F27 := Exa.wr W22 F8
  refine g_retV X20 hx hlk hret (hb hby d7_11) N23 (by decide) (by decide) ?_
  rw [e21]
  exact ⟨rfl, K24, F27⟩
theorem d11_0 : decode jdk_91_method_1_code 0 = .ok (.aload_n 0, 1) := by decide +kernel
theorem d11_1 : decode jdk_91_method_1_code 1 = .ok (.invokespecial 1, 3) := by decide +kernel
theorem d11_4 : decode jdk_91_method_1_code 4 = .ok (.return_, 1) := by decide +kernel
theorem pn_7 : plainFor (⟨"java/util/AbstractSet", "<init>", "()V"⟩ : MethodName) = true := by first | exact plainFor_of_name (by first | (simp [plainName, overriddenIn]; done) | decide +kernel) | decide +kernel
def Q8 (Z : State) (a : Addr) (h0 : Heap) (n0 : Nat) (v : Option Value) (h : Heap) : Prop := v = none ∧ h = h0
abbrev R8 : Room := { frames := 2, cells := 0, slots := 0, locals := 24 }
set_option maxRecDepth 65536 in
set_option maxHeartbeats 40000000 in
theorem rm8 (l : Launch) (Z : State) (a0 : Array Value) (hw : ∀ d ∈ tables_1, d.before a0 Z = true)  (a : Addr) (h0 : Heap) (n0 : Nat) (Z0 : n0 ≤ h0.size)  :
    Con l (⟨"java/util/AbstractSet", "<init>", "()V"⟩ : MethodName) jdk_91_method_1_code 1 none [] R8 Z #[(.ref a)] h0 n0 (Q8 Z a h0 n0) := by
  refine con_of (Ls0 := #[.val (.ref a)]) pn_7 (fun m => by first | (simp [entryFrame, mkF, argsToLocals, Value.category, maxLocals]; done) | rfl) ?_
  intro p e s m below meth c s₁ X0 hx hby hml hZ hown hnm hret hlk e0 N0
  show Goes p e s below (Q8 Z a h0 n0) n0 R8.cells R8.slots s₁ (mkF m 0 #[.val (.ref a)] [])
  refine g_aloadN X0 hx (hb hby d11_0) (v := (.ref a)) rfl rfl (pc' := 1) rfl ?_
  refine g_special X0 hx hZ rfl hown (hw _ (List.mem_of_getElem? (i := 95) rfl)) (hw _ (List.mem_of_getElem? (i := 58) rfl)) (hw _ (List.mem_of_getElem? (i := 61) rfl)) (hw _ (List.mem_of_getElem? (i := 62) rfl)) (by decide) (a := a) (argsL := []) (rm5 l Z a0 hw a h0 n0 Z0 ) rfl e0 (by rw [hml]; rfl) pd_0 rfl (rest := []) rfl (W := 0) (Nat.le_of_eq rfl) (by decide) (by decide) (by decide) (by decide) N0 (hb hby d11_1) (pc' := 4) rfl (fun v1 T2 L3 X4 N5 q6 => ?_)
  obtain ⟨rfl, K7⟩ := q6
  show Goes p e s below (Q8 Z a h0 n0) n0 R8.cells R8.slots T2 (mkF m 4 #[.val (.ref a)] [])
  refine g_retV X4 hx hlk hret (hb hby d11_4) N5 (by decide) (by decide) ?_
  exact ⟨rfl, K7⟩
theorem d10_0 : decode jdk_93_method_1_code 0 = .ok (.aload_n 0, 1) := by decide +kernel
theorem d10_1 : decode jdk_93_method_1_code 1 = .ok (.invokespecial 1, 3) := by decide +kernel
theorem d10_4 : decode jdk_93_method_1_code 4 = .ok (.aload_n 0, 1) := by decide +kernel
theorem d10_5 : decode jdk_93_method_1_code 5 = .ok (.new 7, 3) := by decide +kernel
theorem d10_8 : decode jdk_93_method_1_code 8 = .ok (.dup, 1) := by decide +kernel
theorem d10_9 : decode jdk_93_method_1_code 9 = .ok (.invokespecial 9, 3) := by decide +kernel
theorem d10_12 : decode jdk_93_method_1_code 12 = .ok (.putfield 10, 3) := by decide +kernel
theorem d10_15 : decode jdk_93_method_1_code 15 = .ok (.return_, 1) := by decide +kernel
theorem pn_8 : plainFor (⟨"java/util/HashSet", "<init>", "()V"⟩ : MethodName) = true := by first | exact plainFor_of_name (by first | (simp [plainName, overriddenIn]; done) | decide +kernel) | decide +kernel
def Q9 (Z : State) (a : Addr) (h0 : Heap) (n0 : Nat) (v : Option Value) (h : Heap) : Prop := v = none ∧ Keep h0 h [a] ∧ Exa Z h a "java/util/HashSet"
abbrev R9 : Room := { frames := 3, cells := 1, slots := 8, locals := 38 }
set_option maxRecDepth 65536 in
set_option maxHeartbeats 40000000 in
theorem rm9 (l : Launch) (Z : State) (a0 : Array Value) (hw : ∀ d ∈ tables_1, d.before a0 Z = true)  (a : Addr) (h0 : Heap) (n0 : Nat) (Z0 : n0 ≤ h0.size) (Fp0 : Fld Z h0 a "java/util/HashSet" "map" "Ljava/util/HashMap;" .null) (Fp1 : Exa Z h0 a "java/util/HashSet") (gn_a : n0 ≤ a) :
    Con l (⟨"java/util/HashSet", "<init>", "()V"⟩ : MethodName) jdk_93_method_1_code 1 none [] R9 Z #[(.ref a)] h0 n0 (Q9 Z a h0 n0) := by
  refine con_of (Ls0 := #[.val (.ref a)]) pn_8 (fun m => by first | (simp [entryFrame, mkF, argsToLocals, Value.category, maxLocals]; done) | rfl) ?_
  intro p e s m below meth c s₁ X0 hx hby hml hZ hown hnm hret hlk e0 N0
  show Goes p e s below (Q9 Z a h0 n0) n0 R9.cells R9.slots s₁ (mkF m 0 #[.val (.ref a)] [])
  have K0 : Keep h0 h0 [a] := Keep.refl _ _
  refine g_aloadN X0 hx (hb hby d10_0) (v := (.ref a)) rfl rfl (pc' := 1) rfl ?_
  refine g_special X0 hx hZ rfl hown (hw _ (List.mem_of_getElem? (i := 89) rfl)) (hw _ (List.mem_of_getElem? (i := 90) rfl)) (hw _ (List.mem_of_getElem? (i := 93) rfl)) (hw _ (List.mem_of_getElem? (i := 94) rfl)) (by decide) (a := a) (argsL := []) (rm8 l Z a0 hw a h0 n0 Z0 ) rfl e0 (by rw [hml]; rfl) pd_0 rfl (rest := []) rfl (W := 0) (Nat.le_of_eq rfl) (by decide) (by decide) (by decide) (by decide) N0 (hb hby d10_1) (pc' := 4) rfl (fun v1 T2 L3 X4 N5 q6 => ?_)
  obtain ⟨rfl, K7⟩ := q6
  show Goes p e s below (Q9 Z a h0 n0) n0 R9.cells R9.slots T2 (mkF m 4 #[.val (.ref a)] [])
  refine g_aloadN X4 hx (hb hby d10_4) (v := (.ref a)) rfl rfl (pc' := 5) rfl ?_
  refine g_new X4 hx hZ hown (hw _ (List.mem_of_getElem? (i := 97) rfl)) (hw _ (List.mem_of_getElem? (i := 28) rfl)) (hw _ (List.mem_of_getElem? (i := 29) rfl)) K7 (hb hby d10_5) (by decide) (by decide) (pc' := 8) rfl (fun T8 h9 a10 g11 X12 e13 E14 l15 A16 D17 => ?_)
  have Z18 : n0 ≤ h9.size := Nat.le_trans Z0 E14.1
  have nl19 : n0 ≤ a10 := by rw [g11]; exact Z0
  have ne20 : a ≠ a10 := by rw [g11]; exact Nat.ne_of_lt Fp0.lt
  have F21 := Fld.ext E14 Fp0
  have F22 := Exa.ext E14 Fp1
  have kf23 : h0.size ≤ a10 := by rw [g11]; exact K0.1
  have K24 := K0.ext E14
  have F25 : Fld Z h9 a10 "java/util/HashMap" "loadFactor" "F" (.float 0) := D17 (Or.inr (hw _ (List.mem_of_getElem? (i := 42) rfl))) (ty := .float) (by decide)
  refine g_dup X12 hx (hb hby d10_8) rfl (pc' := 9) rfl ?_
  refine g_special X12 hx hZ rfl hown (hw _ (List.mem_of_getElem? (i := 98) rfl)) (hw _ (List.mem_of_getElem? (i := 31) rfl)) (hw _ (List.mem_of_getElem? (i := 29) rfl)) (hw _ (List.mem_of_getElem? (i := 32) rfl)) (by decide) (a := a10) (argsL := []) (rm4 l Z a0 hw a10 h9 n0 Z18 F25 A16 nl19) rfl e13 (by rw [hml]; rfl) pd_0 rfl (rest := [(.ref a10), (.ref a)]) rfl (W := 2) (Nat.le_of_eq rfl) (by decide) (by decide) (by decide) (by decide) N5 (hb hby d10_9) (pc' := 12) rfl (fun v26 T27 L28 X29 N30 q31 => ?_)
  obtain ⟨rfl, K32, F33⟩ := q31
  have Z34 : n0 ≤ T27.heap.size := Nat.le_trans Z18 K32.1
  have F35 := F21.keep K32 (ninS ne20 nin0)
  have F36 := F22.keep K32
  have K38 := K24.trans K32 (allS (Or.inr kf23) all0)
  show Goes p e s below (Q9 Z a h0 n0) n0 R9.cells R9.slots T27 (mkF m 12 #[.val (.ref a)] [(.ref a10), (.ref a)])
  refine g_putF X29 hx hZ hown (hw _ (List.mem_of_getElem? (i := 100) rfl)) rfl (v := (.ref a10)) F35 F36 (Or.inl (hw _ (List.mem_of_getElem? (i := 101) rfl))) (hw _ (List.mem_of_getElem? (i := 84) rfl)) (ty := (.object "java/util/HashMap")) (by decide) rfl rfl N30 gn_a (hb hby d10_12) (pc' := 15) rfl (fun T39 h40 L41 X42 e43 W44 N45 => ?_)
  have K46 := K38.wr W44 (Or.inl (by simp))
  have Z47 : n0 ≤ h40.size := by rw [W44.size]; exact Z34
  have F48 := Fld.same W44 F35
  have F49 := Exa.wr W44 F36
  have F50 := Exa.wr W44 F33
  refine g_retV X42 hx hlk hret (hb hby d10_15) N45 (by decide) (by decide) ?_
  rw [e43]
  exact ⟨rfl, K46, F49⟩
theorem d4_0 : decode prog_91_method_1_code 0 = .ok (.aload_n 0, 1) := by decide +kernel
theorem d4_1 : decode prog_91_method_1_code 1 = .ok (.invokespecial 3, 3) := by decide +kernel
theorem d4_4 : decode prog_91_method_1_code 4 = .ok (.aload_n 0, 1) := by decide +kernel
theorem d4_5 : decode prog_91_method_1_code 5 = .ok (.new 9, 3) := by decide +kernel
theorem d4_8 : decode prog_91_method_1_code 8 = .ok (.dup, 1) := by decide +kernel
theorem d4_9 : decode prog_91_method_1_code 9 = .ok (.invokespecial 11, 3) := by decide +kernel
theorem d4_12 : decode prog_91_method_1_code 12 = .ok (.putfield 12, 3) := by decide +kernel
theorem d4_15 : decode prog_91_method_1_code 15 = .ok (.aload_n 0, 1) := by decide +kernel
theorem d4_16 : decode prog_91_method_1_code 16 = .ok (.new 18, 3) := by decide +kernel
theorem d4_19 : decode prog_91_method_1_code 19 = .ok (.dup, 1) := by decide +kernel
theorem d4_20 : decode prog_91_method_1_code 20 = .ok (.invokespecial 20, 3) := by decide +kernel
theorem d4_23 : decode prog_91_method_1_code 23 = .ok (.putfield 21, 3) := by decide +kernel
theorem d4_26 : decode prog_91_method_1_code 26 = .ok (.aload_n 0, 1) := by decide +kernel
theorem d4_27 : decode prog_91_method_1_code 27 = .ok (.new 18, 3) := by decide +kernel
theorem d4_30 : decode prog_91_method_1_code 30 = .ok (.dup, 1) := by decide +kernel
theorem d4_31 : decode prog_91_method_1_code 31 = .ok (.invokespecial 20, 3) := by decide +kernel
theorem d4_34 : decode prog_91_method_1_code 34 = .ok (.putfield 25, 3) := by decide +kernel
theorem d4_37 : decode prog_91_method_1_code 37 = .ok (.aload_n 0, 1) := by decide +kernel
theorem d4_38 : decode prog_91_method_1_code 38 = .ok (.new 18, 3) := by decide +kernel
theorem d4_41 : decode prog_91_method_1_code 41 = .ok (.dup, 1) := by decide +kernel
theorem d4_42 : decode prog_91_method_1_code 42 = .ok (.invokespecial 20, 3) := by decide +kernel
theorem d4_45 : decode prog_91_method_1_code 45 = .ok (.putfield 28, 3) := by decide +kernel
theorem d4_48 : decode prog_91_method_1_code 48 = .ok (.aload_n 0, 1) := by decide +kernel
theorem d4_49 : decode prog_91_method_1_code 49 = .ok (.new 18, 3) := by decide +kernel
theorem d4_52 : decode prog_91_method_1_code 52 = .ok (.dup, 1) := by decide +kernel
theorem d4_53 : decode prog_91_method_1_code 53 = .ok (.invokespecial 20, 3) := by decide +kernel
theorem d4_56 : decode prog_91_method_1_code 56 = .ok (.putfield 31, 3) := by decide +kernel
theorem d4_59 : decode prog_91_method_1_code 59 = .ok (.aload_n 0, 1) := by decide +kernel
theorem d4_60 : decode prog_91_method_1_code 60 = .ok (.new 18, 3) := by decide +kernel
theorem d4_63 : decode prog_91_method_1_code 63 = .ok (.dup, 1) := by decide +kernel
theorem d4_64 : decode prog_91_method_1_code 64 = .ok (.invokespecial 20, 3) := by decide +kernel
theorem d4_67 : decode prog_91_method_1_code 67 = .ok (.putfield 34, 3) := by decide +kernel
theorem d4_70 : decode prog_91_method_1_code 70 = .ok (.aload_n 0, 1) := by decide +kernel
theorem d4_71 : decode prog_91_method_1_code 71 = .ok (.new 18, 3) := by decide +kernel
theorem d4_74 : decode prog_91_method_1_code 74 = .ok (.dup, 1) := by decide +kernel
theorem d4_75 : decode prog_91_method_1_code 75 = .ok (.invokespecial 20, 3) := by decide +kernel
theorem d4_78 : decode prog_91_method_1_code 78 = .ok (.putfield 37, 3) := by decide +kernel
theorem d4_81 : decode prog_91_method_1_code 81 = .ok (.aload_n 0, 1) := by decide +kernel
theorem d4_82 : decode prog_91_method_1_code 82 = .ok (.new 9, 3) := by decide +kernel
theorem d4_85 : decode prog_91_method_1_code 85 = .ok (.dup, 1) := by decide +kernel
theorem d4_86 : decode prog_91_method_1_code 86 = .ok (.invokespecial 11, 3) := by decide +kernel
theorem d4_89 : decode prog_91_method_1_code 89 = .ok (.putfield 40, 3) := by decide +kernel
theorem d4_92 : decode prog_91_method_1_code 92 = .ok (.aload_n 0, 1) := by decide +kernel
theorem d4_93 : decode prog_91_method_1_code 93 = .ok (.new 43, 3) := by decide +kernel
theorem d4_96 : decode prog_91_method_1_code 96 = .ok (.dup, 1) := by decide +kernel
theorem d4_97 : decode prog_91_method_1_code 97 = .ok (.invokespecial 45, 3) := by decide +kernel
theorem d4_100 : decode prog_91_method_1_code 100 = .ok (.putfield 46, 3) := by decide +kernel
theorem d4_103 : decode prog_91_method_1_code 103 = .ok (.aload_n 0, 1) := by decide +kernel
theorem d4_104 : decode prog_91_method_1_code 104 = .ok (.iconst (-1), 1) := by decide +kernel
theorem d4_105 : decode prog_91_method_1_code 105 = .ok (.putfield 50, 3) := by decide +kernel
theorem d4_108 : decode prog_91_method_1_code 108 = .ok (.aload_n 0, 1) := by decide +kernel
theorem d4_109 : decode prog_91_method_1_code 109 = .ok (.iload_n 1, 1) := by decide +kernel
theorem d4_110 : decode prog_91_method_1_code 110 = .ok (.putfield 54, 3) := by decide +kernel
theorem d4_113 : decode prog_91_method_1_code 113 = .ok (.aload_n 0, 1) := by decide +kernel
theorem d4_114 : decode prog_91_method_1_code 114 = .ok (.iload_n 2, 1) := by decide +kernel
theorem d4_115 : decode prog_91_method_1_code 115 = .ok (.putfield 57, 3) := by decide +kernel
theorem d4_118 : decode prog_91_method_1_code 118 = .ok (.aload_n 0, 1) := by decide +kernel
theorem d4_119 : decode prog_91_method_1_code 119 = .ok (.aload_n 3, 1) := by decide +kernel
theorem d4_120 : decode prog_91_method_1_code 120 = .ok (.putfield 60, 3) := by decide +kernel
theorem d4_123 : decode prog_91_method_1_code 123 = .ok (.aload_n 0, 1) := by decide +kernel
theorem d4_124 : decode prog_91_method_1_code 124 = .ok (.iload 4, 2) := by decide +kernel
theorem d4_126 : decode prog_91_method_1_code 126 = .ok (.putfield 64, 3) := by decide +kernel
theorem d4_129 : decode prog_91_method_1_code 129 = .ok (.return_, 1) := by decide +kernel
theorem pn_9 : plainFor (⟨"com/example/coextent/coextent/reasoner/CompletionGraph$Node", "<init>", "(IILcom/example/coextent/coextent/reasoner/CompletionGraph$Slot;Z)V"⟩ : MethodName) = true := by first | exact plainFor_of_name (by first | (simp [plainName, overriddenIn]; done) | decide +kernel) | decide +kernel
def Q10 (Z : State) (a : Addr) (p1 : Int32) (p2 : Int32) (sl : Value) (p4 : Int32) (sv : Value) (h0 : Heap) (n0 : Nat) (v : Option Value) (h : Heap) : Prop := v = none ∧ Keep h0 h [a] ∧ Exa Z h a "com/example/coextent/coextent/reasoner/CompletionGraph$Node" ∧ Fld Z h a "com/example/coextent/coextent/reasoner/CompletionGraph$Node" "parent" "I" (.int p1)
abbrev R10 : Room := { frames := 4, cells := 10, slots := 43, locals := 52 }
set_option maxRecDepth 65536 in
set_option maxHeartbeats 40000000 in
theorem rm10 (l : Launch) (Z : State) (a0 : Array Value) (hw : ∀ d ∈ tables_1, d.before a0 Z = true)  (a : Addr) (p1 : Int32) (p2 : Int32) (sl : Value) (p4 : Int32) (sv : Value) (h0 : Heap) (n0 : Nat) (Z0 : n0 ≤ h0.size) (Fp0 : Fld Z h0 a "com/example/coextent/coextent/reasoner/CompletionGraph$Node" "label" "Ljava/util/Map;" .null) (Fp1 : Fld Z h0 a "com/example/coextent/coextent/reasoner/CompletionGraph$Node" "disjunctions" "Ljava/util/List;" .null) (Fp2 : Fld Z h0 a "com/example/coextent/coextent/reasoner/CompletionGraph$Node" "somes" "Ljava/util/List;" .null) (Fp3 : Fld Z h0 a "com/example/coextent/coextent/reasoner/CompletionGraph$Node" "alls" "Ljava/util/List;" .null) (Fp4 : Fld Z h0 a "com/example/coextent/coextent/reasoner/CompletionGraph$Node" "atLeasts" "Ljava/util/List;" .null) (Fp5 : Fld Z h0 a "com/example/coextent/coextent/reasoner/CompletionGraph$Node" "atMosts" "Ljava/util/List;" .null) (Fp6 : Fld Z h0 a "com/example/coextent/coextent/reasoner/CompletionGraph$Node" "edges" "Ljava/util/List;" .null) (Fp7 : Fld Z h0 a "com/example/coextent/coextent/reasoner/CompletionGraph$Node" "different" "Ljava/util/Map;" .null) (Fp8 : Fld Z h0 a "com/example/coextent/coextent/reasoner/CompletionGraph$Node" "generated" "Ljava/util/Set;" .null) (Fp9 : Fld Z h0 a "com/example/coextent/coextent/reasoner/CompletionGraph$Node" "mergedInto" "I" (.int (0 : Int32))) (Fp10 : Fld Z h0 a "com/example/coextent/coextent/reasoner/CompletionGraph$Node" "parent" "I" (.int (0 : Int32))) (Fp11 : Fld Z h0 a "com/example/coextent/coextent/reasoner/CompletionGraph$Node" "individual" "I" (.int (0 : Int32))) (Fp12 : Fld Z h0 a "com/example/coextent/coextent/reasoner/CompletionGraph$Node" "slot" "Lcom/example/coextent/coextent/reasoner/CompletionGraph$Slot;" .null) (Fp13 : Fld Z h0 a "com/example/coextent/coextent/reasoner/CompletionGraph$Node" "data" "Z" (.int (0 : Int32))) (Fp14 : Exa Z h0 a "com/example/coextent/coextent/reasoner/CompletionGraph$Node") (Fp15 : Old Z n0 h0) (S0 : Sta Z Z.heap "java/util/ArrayList" "DEFAULTCAPACITY_EMPTY_ELEMENTDATA" "[Ljava/lang/Object;" sv) (r0 : sv.isRef = true) (rs : sl.isRef = true) (z4 : p4 = 0 ∨ p4 = 1) (gn_a : n0 ≤ a) :
    Con l (⟨"com/example/coextent/coextent/reasoner/CompletionGraph$Node", "<init>", "(IILcom/example/coextent/coextent/reasoner/CompletionGraph$Slot;Z)V"⟩ : MethodName) prog_91_method_1_code 5 none [] R10 Z #[(.ref a), (.int p1), (.int p2), sl, (.int p4)] h0 n0 (Q10 Z a p1 p2 sl p4 sv h0 n0) := by
  refine con_of (Ls0 := #[.val (.ref a), .val (.int p1), .val (.int p2), .val sl, .val (.int p4)]) pn_9 (fun m => by rcases XT.refc rs with rfl | ⟨_, rfl⟩ <;> first | (simp [entryFrame, mkF, argsToLocals, Value.category, maxLocals]; done) | rfl) ?_
  intro p e s m below meth c s₁ X0 hx hby hml hZ hown hnm hret hlk e0 N0
  show Goes p e s below (Q10 Z a p1 p2 sl p4 sv h0 n0) n0 R10.cells R10.slots s₁ (mkF m 0 #[.val (.ref a), .val (.int p1), .val (.int p2), .val sl, .val (.int p4)] [])
  have K0 : Keep h0 h0 [a] := Keep.refl _ _
  refine g_aloadN X0 hx (hb hby d4_0) (v := (.ref a)) rfl rfl (pc' := 1) rfl ?_
  refine g_initO X0 hx hZ hown (hw _ (List.mem_of_getElem? (i := 26) rfl)) (hw _ (List.mem_of_getElem? (i := 12) rfl)) (hw _ (List.mem_of_getElem? (i := 13) rfl)) e0 (by rw [hml]; rfl) (hb hby d4_1) (by decide) (W := 0) (Nat.le_of_eq rfl) (by decide) (pc' := 4) rfl (fun T1 X2 e3 => ?_)
  refine g_aloadN X2 hx (hb hby d4_4) (v := (.ref a)) rfl rfl (pc' := 5) rfl ?_
  refine g_new X2 hx hZ hown (hw _ (List.mem_of_getElem? (i := 27) rfl)) (hw _ (List.mem_of_getElem? (i := 28) rfl)) (hw _ (List.mem_of_getElem? (i := 29) rfl)) e3 (hb hby d4_5) (by decide) (by decide) (pc' := 8) rfl (fun T4 h5 a6 g7 X8 e9 E10 l11 A12 D13 => ?_)
  have Z14 : n0 ≤ h5.size := Nat.le_trans Z0 E10.1
  have nl15 : n0 ≤ a6 := by rw [g7]; exact Z0
  have ne16 : a ≠ a6 := by rw [g7]; exact Nat.ne_of_lt Fp0.lt
  have F17 := Fld.ext E10 Fp0
  have F18 := Fld.ext E10 Fp1
  have F19 := Fld.ext E10 Fp2
  have F20 := Fld.ext E10 Fp3
  have F21 := Fld.ext E10 Fp4
  have F22 := Fld.ext E10 Fp5
  have F23 := Fld.ext E10 Fp6
  have F24 := Fld.ext E10 Fp7
  have F25 := Fld.ext E10 Fp8
  have F26 := Fld.ext E10 Fp9
  have F27 := Fld.ext E10 Fp10
  have F28 := Fld.ext E10 Fp11
  have F29 := Fld.ext E10 Fp12
  have F30 := Fld.ext E10 Fp13
  have F31 := Exa.ext E10 Fp14
  have F32 := Fp15.ext E10
  have kf33 : h0.size ≤ a6 := by rw [g7]; exact K0.1
  have K34 := K0.ext E10
  have F35 : Fld Z h5 a6 "java/util/HashMap" "loadFactor" "F" (.float 0) := D13 (Or.inr (hw _ (List.mem_of_getElem? (i := 42) rfl))) (ty := .float) (by decide)
  refine g_dup X8 hx (hb hby d4_8) rfl (pc' := 9) rfl ?_
  refine g_special X8 hx hZ rfl hown (hw _ (List.mem_of_getElem? (i := 30) rfl)) (hw _ (List.mem_of_getElem? (i := 31) rfl)) (hw _ (List.mem_of_getElem? (i := 29) rfl)) (hw _ (List.mem_of_getElem? (i := 32) rfl)) (by decide) (a := a6) (argsL := []) (rm4 l Z a0 hw a6 h5 n0 Z14 F35 A12 nl15) rfl e9 (by rw [hml]; rfl) pd_0 rfl (rest := [(.ref a6), (.ref a)]) rfl (W := 2) (Nat.le_of_eq rfl) (by decide) (by decide) (by decide) (by decide) N0 (hb hby d4_9) (pc' := 12) rfl (fun v36 T37 L38 X39 N40 q41 => ?_)
  obtain ⟨rfl, K42, F43⟩ := q41
  have Z44 : n0 ≤ T37.heap.size := Nat.le_trans Z14 K42.1
  have F45 := F17.keep K42 (ninS ne16 nin0)
  have F46 := F18.keep K42 (ninS ne16 nin0)
  have F47 := F19.keep K42 (ninS ne16 nin0)
  have F48 := F20.keep K42 (ninS ne16 nin0)
  have F49 := F21.keep K42 (ninS ne16 nin0)
  have F50 := F22.keep K42 (ninS ne16 nin0)
  have F51 := F23.keep K42 (ninS ne16 nin0)
  have F52 := F24.keep K42 (ninS ne16 nin0)
  have F53 := F25.keep K42 (ninS ne16 nin0)
  have F54 := F26.keep K42 (ninS ne16 nin0)
  have F55 := F27.keep K42 (ninS ne16 nin0)
  have F56 := F28.keep K42 (ninS ne16 nin0)
  have F57 := F29.keep K42 (ninS ne16 nin0)
  have F58 := F30.keep K42 (ninS ne16 nin0)
  have F59 := F31.keep K42
  have F60 := F32.keep K42 (allS nl15 all0)
  have K62 := K34.trans K42 (allS (Or.inr kf33) all0)
  show Goes p e s below (Q10 Z a p1 p2 sl p4 sv h0 n0) n0 R10.cells R10.slots T37 (mkF m 12 #[.val (.ref a), .val (.int p1), .val (.int p2), .val sl, .val (.int p4)] [(.ref a6), (.ref a)])
  refine g_putF X39 hx hZ hown (hw _ (List.mem_of_getElem? (i := 43) rfl)) rfl (v := (.ref a6)) F45 F59 (Or.inr ⟨(hw _ (List.mem_of_getElem? (i := 44) rfl)), rfl, hnm⟩) (hw _ (List.mem_of_getElem? (i := 21) rfl)) (ty := (.object "java/util/Map")) (by decide) rfl rfl N40 gn_a (hb hby d4_12) (pc' := 15) rfl (fun T63 h64 L65 X66 e67 W68 N69 => ?_)
  have K70 := K62.wr W68 (Or.inl (by simp))
  have Z71 : n0 ≤ h64.size := by rw [W68.size]; exact Z44
  have F73 := Fld.other W68 F46 (Or.inr (slot_ne (Or.inr (hw _ (List.mem_of_getElem? (i := 70) rfl))) (Or.inr (hw _ (List.mem_of_getElem? (i := 44) rfl))) (by decide) (t := (.object "java/util/List")) (t' := (.object "java/util/Map")) (by decide) (by decide)))
  have F74 := Fld.other W68 F47 (Or.inr (slot_ne (Or.inr (hw _ (List.mem_of_getElem? (i := 72) rfl))) (Or.inr (hw _ (List.mem_of_getElem? (i := 44) rfl))) (by decide) (t := (.object "java/util/List")) (t' := (.object "java/util/Map")) (by decide) (by decide)))
  have F75 := Fld.other W68 F48 (Or.inr (slot_ne (Or.inr (hw _ (List.mem_of_getElem? (i := 74) rfl))) (Or.inr (hw _ (List.mem_of_getElem? (i := 44) rfl))) (by decide) (t := (.object "java/util/List")) (t' := (.object "java/util/Map")) (by decide) (by decide)))
  have F76 := Fld.other W68 F49 (Or.inr (slot_ne (Or.inr (hw _ (List.mem_of_getElem? (i := 76) rfl))) (Or.inr (hw _ (List.mem_of_getElem? (i := 44) rfl))) (by decide) (t := (.object "java/util/List")) (t' := (.object "java/util/Map")) (by decide) (by decide)))
  have F77 := Fld.other W68 F50 (Or.inr (slot_ne (Or.inr (hw _ (List.mem_of_getElem? (i := 78) rfl))) (Or.inr (hw _ (List.mem_of_getElem? (i := 44) rfl))) (by decide) (t := (.object "java/util/List")) (t' := (.object "java/util/Map")) (by decide) (by decide)))
  have F78 := Fld.other W68 F51 (Or.inr (slot_ne (Or.inr (hw _ (List.mem_of_getElem? (i := 80) rfl))) (Or.inr (hw _ (List.mem_of_getElem? (i := 44) rfl))) (by decide) (t := (.object "java/util/List")) (t' := (.object "java/util/Map")) (by decide) (by decide)))
  have F79 := Fld.other W68 F52 (Or.inr (slot_ne (Or.inr (hw _ (List.mem_of_getElem? (i := 82) rfl))) (Or.inr (hw _ (List.mem_of_getElem? (i := 44) rfl))) (by decide) (t := (.object "java/util/Map")) (t' := (.object "java/util/Map")) (by decide) (by decide)))
  have F80 := Fld.other W68 F53 (Or.inr (slot_ne (Or.inr (hw _ (List.mem_of_getElem? (i := 103) rfl))) (Or.inr (hw _ (List.mem_of_getElem? (i := 44) rfl))) (by decide) (t := (.object "java/util/Set")) (t' := (.object "java/util/Map")) (by decide) (by decide)))
  have F81 := Fld.other W68 F54 (Or.inr (slot_ne (Or.inl (hw _ (List.mem_of_getElem? (i := 105) rfl))) (Or.inr (hw _ (List.mem_of_getElem? (i := 44) rfl))) (by decide) (t := .int) (t' := (.object "java/util/Map")) (by decide) (by decide)))
  have F82 := Fld.other W68 F55 (Or.inr (slot_ne (Or.inr (hw _ (List.mem_of_getElem? (i := 107) rfl))) (Or.inr (hw _ (List.mem_of_getElem? (i := 44) rfl))) (by decide) (t := .int) (t' := (.object "java/util/Map")) (by decide) (by decide)))
  have F83 := Fld.other W68 F56 (Or.inr (slot_ne (Or.inr (hw _ (List.mem_of_getElem? (i := 109) rfl))) (Or.inr (hw _ (List.mem_of_getElem? (i := 44) rfl))) (by decide) (t := .int) (t' := (.object "java/util/Map")) (by decide) (by decide)))
  have F84 := Fld.other W68 F57 (Or.inr (slot_ne (Or.inr (hw _ (List.mem_of_getElem? (i := 111) rfl))) (Or.inr (hw _ (List.mem_of_getElem? (i := 44) rfl))) (by decide) (t := (.object "com/example/coextent/coextent/reasoner/CompletionGraph$Slot")) (t' := (.object "java/util/Map")) (by decide) (by decide)))
  have F85 := Fld.other W68 F58 (Or.inr (slot_ne (Or.inr (hw _ (List.mem_of_getElem? (i := 113) rfl))) (Or.inr (hw _ (List.mem_of_getElem? (i := 44) rfl))) (by decide) (t := .boolean) (t' := (.object "java/util/Map")) (by decide) (by decide)))
  have F86 := Exa.wr W68 F59
  have F87 := F60.wr W68 gn_a
  have F88 := Exa.wr W68 F43
  refine g_aloadN X66 hx (hb hby d4_15) (v := (.ref a)) rfl rfl (pc' := 16) rfl ?_
  refine g_new X66 hx hZ hown (hw _ (List.mem_of_getElem? (i := 45) rfl)) (hw _ (List.mem_of_getElem? (i := 46) rfl)) (hw _ (List.mem_of_getElem? (i := 47) rfl)) e67 (hb hby d4_16) (by decide) (by decide) (pc' := 19) rfl (fun T89 h90 a91 g92 X93 e94 E95 l96 A97 D98 => ?_)
  have Z99 : n0 ≤ h90.size := Nat.le_trans Z71 E95.1
  have nl100 : n0 ≤ a91 := by rw [g92]; exact Z71
  have ne101 : a ≠ a91 := by rw [g92]; exact Nat.ne_of_lt F73.lt
  have F102 := Fld.ext E95 F73
  have F103 := Fld.ext E95 F74
  have F104 := Fld.ext E95 F75
  have F105 := Fld.ext E95 F76
  have F106 := Fld.ext E95 F77
  have F107 := Fld.ext E95 F78
  have F108 := Fld.ext E95 F79
  have F109 := Fld.ext E95 F80
  have F110 := Fld.ext E95 F81
  have F111 := Fld.ext E95 F82
  have F112 := Fld.ext E95 F83
  have F113 := Fld.ext E95 F84
  have F114 := Fld.ext E95 F85
  have F115 := Exa.ext E95 F86
  have F116 := F87.ext E95
  have kf117 : h0.size ≤ a91 := by rw [g92]; exact K70.1
  have K118 := K70.ext E95
  have F119 : Fld Z h90 a91 "java/util/AbstractList" "modCount" "I" (.int (0 : Int32)) := D98 (Or.inl (hw _ (List.mem_of_getElem? (i := 65) rfl))) (ty := .int) (by decide)
  have F120 : Fld Z h90 a91 "java/util/ArrayList" "elementData" "[Ljava/lang/Object;" .null := D98 (Or.inl (hw _ (List.mem_of_getElem? (i := 68) rfl))) (ty := (.array (.object "java/lang/Object"))) (by decide)
  refine g_dup X93 hx (hb hby d4_19) rfl (pc' := 20) rfl ?_
  refine g_special X93 hx hZ rfl hown (hw _ (List.mem_of_getElem? (i := 48) rfl)) (hw _ (List.mem_of_getElem? (i := 49) rfl)) (hw _ (List.mem_of_getElem? (i := 47) rfl)) (hw _ (List.mem_of_getElem? (i := 50) rfl)) (by decide) (a := a91) (argsL := []) (rm7 l Z a0 hw a91 sv h90 n0 Z99 F119 F120 A97 F116 S0 r0 nl100) rfl e94 (by rw [hml]; rfl) pd_0 rfl (rest := [(.ref a91), (.ref a)]) rfl (W := 2) (Nat.le_of_eq rfl) (by decide) (by decide) (by decide) (by decide) N69 (hb hby d4_20) (pc' := 23) rfl (fun v121 T122 L123 X124 N125 q126 => ?_)
  obtain ⟨rfl, K127, F128⟩ := q126
  have Z129 : n0 ≤ T122.heap.size := Nat.le_trans Z99 K127.1
  have F130 := F102.keep K127 (ninS ne101 nin0)
  have F131 := F103.keep K127 (ninS ne101 nin0)
  have F132 := F104.keep K127 (ninS ne101 nin0)
  have F133 := F105.keep K127 (ninS ne101 nin0)
  have F134 := F106.keep K127 (ninS ne101 nin0)
  have F135 := F107.keep K127 (ninS ne101 nin0)
  have F136 := F108.keep K127 (ninS ne101 nin0)
  have F137 := F109.keep K127 (ninS ne101 nin0)
  have F138 := F110.keep K127 (ninS ne101 nin0)
  have F139 := F111.keep K127 (ninS ne101 nin0)
  have F140 := F112.keep K127 (ninS ne101 nin0)
  have F141 := F113.keep K127 (ninS ne101 nin0)
  have F142 := F114.keep K127 (ninS ne101 nin0)
  have F143 := F115.keep K127
  have F144 := F116.keep K127 (allS nl100 all0)
  have K147 := K118.trans K127 (allS (Or.inr kf117) all0)
  show Goes p e s below (Q10 Z a p1 p2 sl p4 sv h0 n0) n0 R10.cells R10.slots T122 (mkF m 23 #[.val (.ref a), .val (.int p1), .val (.int p2), .val sl, .val (.int p4)] [(.ref a91), (.ref a)])
  refine g_putF X124 hx hZ hown (hw _ (List.mem_of_getElem? (i := 69) rfl)) rfl (v := (.ref a91)) F130 F143 (Or.inr ⟨(hw _ (List.mem_of_getElem? (i := 70) rfl)), rfl, hnm⟩) (hw _ (List.mem_of_getElem? (i := 21) rfl)) (ty := (.object "java/util/List")) (by decide) rfl rfl N125 gn_a (hb hby d4_23) (pc' := 26) rfl (fun T148 h149 L150 X151 e152 W153 N154 => ?_)
  have K155 := K147.wr W153 (Or.inl (by simp))
  have Z156 : n0 ≤ h149.size := by rw [W153.size]; exact Z129
  have F158 := Fld.other W153 F131 (Or.inr (slot_ne (Or.inr (hw _ (List.mem_of_getElem? (i := 72) rfl))) (Or.inr (hw _ (List.mem_of_getElem? (i := 70) rfl))) (by decide) (t := (.object "java/util/List")) (t' := (.object "java/util/List")) (by decide) (by decide)))
  have F159 := Fld.other W153 F132 (Or.inr (slot_ne (Or.inr (hw _ (List.mem_of_getElem? (i := 74) rfl))) (Or.inr (hw _ (List.mem_of_getElem? (i := 70) rfl))) (by decide) (t := (.object "java/util/List")) (t' := (.object "java/util/List")) (by decide) (by decide)))
  have F160 := Fld.other W153 F133 (Or.inr (slot_ne (Or.inr (hw _ (List.mem_of_getElem? (i := 76) rfl))) (Or.inr (hw _ (List.mem_of_getElem? (i := 70) rfl))) (by decide) (t := (.object "java/util/List")) (t' := (.object "java/util/List")) (by decide) (by decide)))
  have F161 := Fld.other W153 F134 (Or.inr (slot_ne (Or.inr (hw _ (List.mem_of_getElem? (i := 78) rfl))) (Or.inr (hw _ (List.mem_of_getElem? (i := 70) rfl))) (by decide) (t := (.object "java/util/List")) (t' := (.object "java/util/List")) (by decide) (by decide)))
  have F162 := Fld.other W153 F135 (Or.inr (slot_ne (Or.inr (hw _ (List.mem_of_getElem? (i := 80) rfl))) (Or.inr (hw _ (List.mem_of_getElem? (i := 70) rfl))) (by decide) (t := (.object "java/util/List")) (t' := (.object "java/util/List")) (by decide) (by decide)))
  have F163 := Fld.other W153 F136 (Or.inr (slot_ne (Or.inr (hw _ (List.mem_of_getElem? (i := 82) rfl))) (Or.inr (hw _ (List.mem_of_getElem? (i := 70) rfl))) (by decide) (t := (.object "java/util/Map")) (t' := (.object "java/util/List")) (by decide) (by decide)))
  have F164 := Fld.other W153 F137 (Or.inr (slot_ne (Or.inr (hw _ (List.mem_of_getElem? (i := 103) rfl))) (Or.inr (hw _ (List.mem_of_getElem? (i := 70) rfl))) (by decide) (t := (.object "java/util/Set")) (t' := (.object "java/util/List")) (by decide) (by decide)))
  have F165 := Fld.other W153 F138 (Or.inr (slot_ne (Or.inl (hw _ (List.mem_of_getElem? (i := 105) rfl))) (Or.inr (hw _ (List.mem_of_getElem? (i := 70) rfl))) (by decide) (t := .int) (t' := (.object "java/util/List")) (by decide) (by decide)))
  have F166 := Fld.other W153 F139 (Or.inr (slot_ne (Or.inr (hw _ (List.mem_of_getElem? (i := 107) rfl))) (Or.inr (hw _ (List.mem_of_getElem? (i := 70) rfl))) (by decide) (t := .int) (t' := (.object "java/util/List")) (by decide) (by decide)))
  have F167 := Fld.other W153 F140 (Or.inr (slot_ne (Or.inr (hw _ (List.mem_of_getElem? (i := 109) rfl))) (Or.inr (hw _ (List.mem_of_getElem? (i := 70) rfl))) (by decide) (t := .int) (t' := (.object "java/util/List")) (by decide) (by decide)))
  have F168 := Fld.other W153 F141 (Or.inr (slot_ne (Or.inr (hw _ (List.mem_of_getElem? (i := 111) rfl))) (Or.inr (hw _ (List.mem_of_getElem? (i := 70) rfl))) (by decide) (t := (.object "com/example/coextent/coextent/reasoner/CompletionGraph$Slot")) (t' := (.object "java/util/List")) (by decide) (by decide)))
  have F169 := Fld.other W153 F142 (Or.inr (slot_ne (Or.inr (hw _ (List.mem_of_getElem? (i := 113) rfl))) (Or.inr (hw _ (List.mem_of_getElem? (i := 70) rfl))) (by decide) (t := .boolean) (t' := (.object "java/util/List")) (by decide) (by decide)))
  have F170 := Exa.wr W153 F143
  have F171 := F144.wr W153 gn_a
  have F172 := Exa.wr W153 F128
  refine g_aloadN X151 hx (hb hby d4_26) (v := (.ref a)) rfl rfl (pc' := 27) rfl ?_
  refine g_new X151 hx hZ hown (hw _ (List.mem_of_getElem? (i := 45) rfl)) (hw _ (List.mem_of_getElem? (i := 46) rfl)) (hw _ (List.mem_of_getElem? (i := 47) rfl)) e152 (hb hby d4_27) (by decide) (by decide) (pc' := 30) rfl (fun T173 h174 a175 g176 X177 e178 E179 l180 A181 D182 => ?_)
  have Z183 : n0 ≤ h174.size := Nat.le_trans Z156 E179.1
  have nl184 : n0 ≤ a175 := by rw [g176]; exact Z156
  have ne185 : a ≠ a175 := by rw [g176]; exact Nat.ne_of_lt F158.lt
  have F186 := Fld.ext E179 F158
  have F187 := Fld.ext E179 F159
  have F188 := Fld.ext E179 F160
  have F189 := Fld.ext E179 F161
  have F190 := Fld.ext E179 F162
  have F191 := Fld.ext E179 F163
  have F192 := Fld.ext E179 F164
  have F193 := Fld.ext E179 F165
  have F194 := Fld.ext E179 F166
  have F195 := Fld.ext E179 F167
  have F196 := Fld.ext E179 F168
  have F197 := Fld.ext E179 F169
  have F198 := Exa.ext E179 F170
  have F199 := F171.ext E179
  have kf200 : h0.size ≤ a175 := by rw [g176]; exact K155.1
  have K201 := K155.ext E179
  have F202 : Fld Z h174 a175 "java/util/AbstractList" "modCount" "I" (.int (0 : Int32)) := D182 (Or.inl (hw _ (List.mem_of_getElem? (i := 65) rfl))) (ty := .int) (by decide)
  have F203 : Fld Z h174 a175 "java/util/ArrayList" "elementData" "[Ljava/lang/Object;" .null := D182 (Or.inl (hw _ (List.mem_of_getElem? (i := 68) rfl))) (ty := (.array (.object "java/lang/Object"))) (by decide)
  refine g_dup X177 hx (hb hby d4_30) rfl (pc' := 31) rfl ?_
  refine g_special X177 hx hZ rfl hown (hw _ (List.mem_of_getElem? (i := 48) rfl)) (hw _ (List.mem_of_getElem? (i := 49) rfl)) (hw _ (List.mem_of_getElem? (i := 47) rfl)) (hw _ (List.mem_of_getElem? (i := 50) rfl)) (by decide) (a := a175) (argsL := []) (rm7 l Z a0 hw a175 sv h174 n0 Z183 F202 F203 A181 F199 S0 r0 nl184) rfl e178 (by rw [hml]; rfl) pd_0 rfl (rest := [(.ref a175), (.ref a)]) rfl (W := 2) (Nat.le_of_eq rfl) (by decide) (by decide) (by decide) (by decide) N154 (hb hby d4_31) (pc' := 34) rfl (fun v204 T205 L206 X207 N208 q209 => ?_)
  obtain ⟨rfl, K210, F211⟩ := q209
  have Z212 : n0 ≤ T205.heap.size := Nat.le_trans Z183 K210.1
  have F213 := F186.keep K210 (ninS ne185 nin0)
  have F214 := F187.keep K210 (ninS ne185 nin0)
  have F215 := F188.keep K210 (ninS ne185 nin0)
  have F216 := F189.keep K210 (ninS ne185 nin0)
  have F217 := F190.keep K210 (ninS ne185 nin0)
  have F218 := F191.keep K210 (ninS ne185 nin0)
  have F219 := F192.keep K210 (ninS ne185 nin0)
  have F220 := F193.keep K210 (ninS ne185 nin0)
  have F221 := F194.keep K210 (ninS ne185 nin0)
  have F222 := F195.keep K210 (ninS ne185 nin0)
  have F223 := F196.keep K210 (ninS ne185 nin0)
  have F224 := F197.keep K210 (ninS ne185 nin0)
  have F225 := F198.keep K210
  have F226 := F199.keep K210 (allS nl184 all0)
  have K229 := K201.trans K210 (allS (Or.inr kf200) all0)
  show Goes p e s below (Q10 Z a p1 p2 sl p4 sv h0 n0) n0 R10.cells R10.slots T205 (mkF m 34 #[.val (.ref a), .val (.int p1), .val (.int p2), .val sl, .val (.int p4)] [(.ref a175), (.ref a)])
  refine g_putF X207 hx hZ hown (hw _ (List.mem_of_getElem? (i := 71) rfl)) rfl (v := (.ref a175)) F213 F225 (Or.inr ⟨(hw _ (List.mem_of_getElem? (i := 72) rfl)), rfl, hnm⟩) (hw _ (List.mem_of_getElem? (i := 21) rfl)) (ty := (.object "java/util/List")) (by decide) rfl rfl N208 gn_a (hb hby d4_34) (pc' := 37) rfl (fun T230 h231 L232 X233 e234 W235 N236 => ?_)
  have K237 := K229.wr W235 (Or.inl (by simp))
  have Z238 : n0 ≤ h231.size := by rw [W235.size]; exact Z212
  have F240 := Fld.other W235 F214 (Or.inr (slot_ne (Or.inr (hw _ (List.mem_of_getElem? (i := 74) rfl))) (Or.inr (hw _ (List.mem_of_getElem? (i := 72) rfl))) (by decide) (t := (.object "java/util/List")) (t' := (.object "java/util/List")) (by decide) (by decide)))
  have F241 := Fld.other W235 F215 (Or.inr (slot_ne (Or.inr (hw _ (List.mem_of_getElem? (i := 76) rfl))) (Or.inr (hw _ (List.mem_of_getElem? (i := 72) rfl))) (by decide) (t := (.object "java/util/List")) (t' := (.object "java/util/List")) (by decide) (by decide)))
  have F242 := Fld.other W235 F216 (Or.inr (slot_ne (Or.inr (hw _ (List.mem_of_getElem? (i := 78) rfl))) (Or.inr (hw _ (List.mem_of_getElem? (i := 72) rfl))) (by decide) (t := (.object "java/util/List")) (t' := (.object "java/util/List")) (by decide) (by decide)))
  have F243 := Fld.other W235 F217 (Or.inr (slot_ne (Or.inr (hw _ (List.mem_of_getElem? (i := 80) rfl))) (Or.inr (hw _ (List.mem_of_getElem? (i := 72) rfl))) (by decide) (t := (.object "java/util/List")) (t' := (.object "java/util/List")) (by decide) (by decide)))
  have F244 := Fld.other W235 F218 (Or.inr (slot_ne (Or.inr (hw _ (List.mem_of_getElem? (i := 82) rfl))) (Or.inr (hw _ (List.mem_of_getElem? (i := 72) rfl))) (by decide) (t := (.object "java/util/Map")) (t' := (.object "java/util/List")) (by decide) (by decide)))
  have F245 := Fld.other W235 F219 (Or.inr (slot_ne (Or.inr (hw _ (List.mem_of_getElem? (i := 103) rfl))) (Or.inr (hw _ (List.mem_of_getElem? (i := 72) rfl))) (by decide) (t := (.object "java/util/Set")) (t' := (.object "java/util/List")) (by decide) (by decide)))
  have F246 := Fld.other W235 F220 (Or.inr (slot_ne (Or.inl (hw _ (List.mem_of_getElem? (i := 105) rfl))) (Or.inr (hw _ (List.mem_of_getElem? (i := 72) rfl))) (by decide) (t := .int) (t' := (.object "java/util/List")) (by decide) (by decide)))
  have F247 := Fld.other W235 F221 (Or.inr (slot_ne (Or.inr (hw _ (List.mem_of_getElem? (i := 107) rfl))) (Or.inr (hw _ (List.mem_of_getElem? (i := 72) rfl))) (by decide) (t := .int) (t' := (.object "java/util/List")) (by decide) (by decide)))
  have F248 := Fld.other W235 F222 (Or.inr (slot_ne (Or.inr (hw _ (List.mem_of_getElem? (i := 109) rfl))) (Or.inr (hw _ (List.mem_of_getElem? (i := 72) rfl))) (by decide) (t := .int) (t' := (.object "java/util/List")) (by decide) (by decide)))
  have F249 := Fld.other W235 F223 (Or.inr (slot_ne (Or.inr (hw _ (List.mem_of_getElem? (i := 111) rfl))) (Or.inr (hw _ (List.mem_of_getElem? (i := 72) rfl))) (by decide) (t := (.object "com/example/coextent/coextent/reasoner/CompletionGraph$Slot")) (t' := (.object "java/util/List")) (by decide) (by decide)))
  have F250 := Fld.other W235 F224 (Or.inr (slot_ne (Or.inr (hw _ (List.mem_of_getElem? (i := 113) rfl))) (Or.inr (hw _ (List.mem_of_getElem? (i := 72) rfl))) (by decide) (t := .boolean) (t' := (.object "java/util/List")) (by decide) (by decide)))
  have F251 := Exa.wr W235 F225
  have F252 := F226.wr W235 gn_a
  have F253 := Exa.wr W235 F211
  refine g_aloadN X233 hx (hb hby d4_37) (v := (.ref a)) rfl rfl (pc' := 38) rfl ?_
  refine g_new X233 hx hZ hown (hw _ (List.mem_of_getElem? (i := 45) rfl)) (hw _ (List.mem_of_getElem? (i := 46) rfl)) (hw _ (List.mem_of_getElem? (i := 47) rfl)) e234 (hb hby d4_38) (by decide) (by decide) (pc' := 41) rfl (fun T254 h255 a256 g257 X258 e259 E260 l261 A262 D263 => ?_)
  have Z264 : n0 ≤ h255.size := Nat.le_trans Z238 E260.1
  have nl265 : n0 ≤ a256 := by rw [g257]; exact Z238
  have ne266 : a ≠ a256 := by rw [g257]; exact Nat.ne_of_lt F240.lt
  have F267 := Fld.ext E260 F240
  have F268 := Fld.ext E260 F241
  have F269 := Fld.ext E260 F242
  have F270 := Fld.ext E260 F243
  have F271 := Fld.ext E260 F244
  have F272 := Fld.ext E260 F245
  have F273 := Fld.ext E260 F246
  have F274 := Fld.ext E260 F247
  have F275 := Fld.ext E260 F248
  have F276 := Fld.ext E260 F249
  have F277 := Fld.ext E260 F250
  have F278 := Exa.ext E260 F251
  have F279 := F252.ext E260
  have kf280 : h0.size ≤ a256 := by rw [g257]; exact K237.1
  have K281 := K237.ext E260
  have F282 : Fld Z h255 a256 "java/util/AbstractList" "modCount" "I" (.int (0 : Int32)) := D263 (Or.inl (hw _ (List.mem_of_getElem? (i := 65) rfl))) (ty := .int) (by decide)
  have F283 : Fld Z h255 a256 "java/util/ArrayList" "elementData" "[Ljava/lang/Object;" .null := D263 (Or.inl (hw _ (List.mem_of_getElem? (i := 68) rfl))) (ty := (.array (.object "java/lang/Object"))) (by decide)
  refine g_dup X258 hx (hb hby d4_41) rfl (pc' := 42) rfl ?_
  refine g_special X258 hx hZ rfl hown (hw _ (List.mem_of_getElem? (i := 48) rfl)) (hw _ (List.mem_of_getElem? (i := 49) rfl)) (hw _ (List.mem_of_getElem? (i := 47) rfl)) (hw _ (List.mem_of_getElem? (i := 50) rfl)) (by decide) (a := a256) (argsL := []) (rm7 l Z a0 hw a256 sv h255 n0 Z264 F282 F283 A262 F279 S0 r0 nl265) rfl e259 (by rw [hml]; rfl) pd_0 rfl (rest := [(.ref a256), (.ref a)]) rfl (W := 2) (Nat.le_of_eq rfl) (by decide) (by decide) (by decide) (by decide) N236 (hb hby d4_42) (pc' := 45) rfl (fun v284 T285 L286 X287 N288 q289 => ?_)
  obtain ⟨rfl, K290, F291⟩ := q289
  have Z292 : n0 ≤ T285.heap.size := Nat.le_trans Z264 K290.1
  have F293 := F267.keep K290 (ninS ne266 nin0)
  have F294 := F268.keep K290 (ninS ne266 nin0)
  have F295 := F269.keep K290 (ninS ne266 nin0)
  have F296 := F270.keep K290 (ninS ne266 nin0)
  have F297 := F271.keep K290 (ninS ne266 nin0)
  have F298 := F272.keep K290 (ninS ne266 nin0)
  have F299 := F273.keep K290 (ninS ne266 nin0)
  have F300 := F274.keep K290 (ninS ne266 nin0)
  have F301 := F275.keep K290 (ninS ne266 nin0)
  have F302 := F276.keep K290 (ninS ne266 nin0)
  have F303 := F277.keep K290 (ninS ne266 nin0)
  have F304 := F278.keep K290
  have F305 := F279.keep K290 (allS nl265 all0)
  have K308 := K281.trans K290 (allS (Or.inr kf280) all0)
  show Goes p e s below (Q10 Z a p1 p2 sl p4 sv h0 n0) n0 R10.cells R10.slots T285 (mkF m 45 #[.val (.ref a), .val (.int p1), .val (.int p2), .val sl, .val (.int p4)] [(.ref a256), (.ref a)])
  refine g_putF X287 hx hZ hown (hw _ (List.mem_of_getElem? (i := 73) rfl)) rfl (v := (.ref a256)) F293 F304 (Or.inr ⟨(hw _ (List.mem_of_getElem? (i := 74) rfl)), rfl, hnm⟩) (hw _ (List.mem_of_getElem? (i := 21) rfl)) (ty := (.object "java/util/List")) (by decide) rfl rfl N288 gn_a (hb hby d4_45) (pc' := 48) rfl (fun T309 h310 L311 X312 e313 W314 N315 => ?_)
  have K316 := K308.wr W314 (Or.inl (by simp))
  have Z317 : n0 ≤ h310.size := by rw [W314.size]; exact Z292
  have F319 := Fld.other W314 F294 (Or.inr (slot_ne (Or.inr (hw _ (List.mem_of_getElem? (i := 76) rfl))) (Or.inr (hw _ (List.mem_of_getElem? (i := 74) rfl))) (by decide) (t := (.object "java/util/List")) (t' := (.object "java/util/List")) (by decide) (by decide)))
  have F320 := Fld.other W314 F295 (Or.inr (slot_ne (Or.inr (hw _ (List.mem_of_getElem? (i := 78) rfl))) (Or.inr (hw _ (List.mem_of_getElem? (i := 74) rfl))) (by decide) (t := (.object "java/util/List")) (t' := (.object "java/util/List")) (by decide) (by decide)))
  have F321 := Fld.other W314 F296 (Or.inr (slot_ne (Or.inr (hw _ (List.mem_of_getElem? (i := 80) rfl))) (Or.inr (hw _ (List.mem_of_getElem? (i := 74) rfl))) (by decide) (t := (.object "java/util/List")) (t' := (.object "java/util/List")) (by decide) (by decide)))
  have F322 := Fld.other W314 F297 (Or.inr (slot_ne (Or.inr (hw _ (List.mem_of_getElem? (i := 82) rfl))) (Or.inr (hw _ (List.mem_of_getElem? (i := 74) rfl))) (by decide) (t := (.object "java/util/Map")) (t' := (.object "java/util/List")) (by decide) (by decide)))
  have F323 := Fld.other W314 F298 (Or.inr (slot_ne (Or.inr (hw _ (List.mem_of_getElem? (i := 103) rfl))) (Or.inr (hw _ (List.mem_of_getElem? (i := 74) rfl))) (by decide) (t := (.object "java/util/Set")) (t' := (.object "java/util/List")) (by decide) (by decide)))
  have F324 := Fld.other W314 F299 (Or.inr (slot_ne (Or.inl (hw _ (List.mem_of_getElem? (i := 105) rfl))) (Or.inr (hw _ (List.mem_of_getElem? (i := 74) rfl))) (by decide) (t := .int) (t' := (.object "java/util/List")) (by decide) (by decide)))
  have F325 := Fld.other W314 F300 (Or.inr (slot_ne (Or.inr (hw _ (List.mem_of_getElem? (i := 107) rfl))) (Or.inr (hw _ (List.mem_of_getElem? (i := 74) rfl))) (by decide) (t := .int) (t' := (.object "java/util/List")) (by decide) (by decide)))
  have F326 := Fld.other W314 F301 (Or.inr (slot_ne (Or.inr (hw _ (List.mem_of_getElem? (i := 109) rfl))) (Or.inr (hw _ (List.mem_of_getElem? (i := 74) rfl))) (by decide) (t := .int) (t' := (.object "java/util/List")) (by decide) (by decide)))
  have F327 := Fld.other W314 F302 (Or.inr (slot_ne (Or.inr (hw _ (List.mem_of_getElem? (i := 111) rfl))) (Or.inr (hw _ (List.mem_of_getElem? (i := 74) rfl))) (by decide) (t := (.object "com/example/coextent/coextent/reasoner/CompletionGraph$Slot")) (t' := (.object "java/util/List")) (by decide) (by decide)))
  have F328 := Fld.other W314 F303 (Or.inr (slot_ne (Or.inr (hw _ (List.mem_of_getElem? (i := 113) rfl))) (Or.inr (hw _ (List.mem_of_getElem? (i := 74) rfl))) (by decide) (t := .boolean) (t' := (.object "java/util/List")) (by decide) (by decide)))
  have F329 := Exa.wr W314 F304
  have F330 := F305.wr W314 gn_a
  have F331 := Exa.wr W314 F291
  refine g_aloadN X312 hx (hb hby d4_48) (v := (.ref a)) rfl rfl (pc' := 49) rfl ?_
  refine g_new X312 hx hZ hown (hw _ (List.mem_of_getElem? (i := 45) rfl)) (hw _ (List.mem_of_getElem? (i := 46) rfl)) (hw _ (List.mem_of_getElem? (i := 47) rfl)) e313 (hb hby d4_49) (by decide) (by decide) (pc' := 52) rfl (fun T332 h333 a334 g335 X336 e337 E338 l339 A340 D341 => ?_)
  have Z342 : n0 ≤ h333.size := Nat.le_trans Z317 E338.1
  have nl343 : n0 ≤ a334 := by rw [g335]; exact Z317
  have ne344 : a ≠ a334 := by rw [g335]; exact Nat.ne_of_lt F319.lt
  have F345 := Fld.ext E338 F319
  have F346 := Fld.ext E338 F320
  have F347 := Fld.ext E338 F321
  have F348 := Fld.ext E338 F322
  have F349 := Fld.ext E338 F323
  have F350 := Fld.ext E338 F324
  have F351 := Fld.ext E338 F325
  have F352 := Fld.ext E338 F326
  have F353 := Fld.ext E338 F327
  have F354 := Fld.ext E338 F328
  have F355 := Exa.ext E338 F329
  have F356 := F330.ext E338
  have kf357 : h0.size ≤ a334 := by rw [g335]; exact K316.1
  have K358 := K316.ext E338
  have F359 : Fld Z h333 a334 "java/util/AbstractList" "modCount" "I" (.int (0 : Int32)) := D341 (Or.inl (hw _ (List.mem_of_getElem? (i := 65) rfl))) (ty := .int) (by decide)
  have F360 : Fld Z h333 a334 "java/util/ArrayList" "elementData" "[Ljava/lang/Object;" .null := D341 (Or.inl (hw _ (List.mem_of_getElem? (i := 68) rfl))) (ty := (.array (.object "java/lang/Object"))) (by decide)
  refine g_dup X336 hx (hb hby d4_52) rfl (pc' := 53) rfl ?_
  refine g_special X336 hx hZ rfl hown (hw _ (List.mem_of_getElem? (i := 48) rfl)) (hw _ (List.mem_of_getElem? (i := 49) rfl)) (hw _ (List.mem_of_getElem? (i := 47) rfl)) (hw _ (List.mem_of_getElem? (i := 50) rfl)) (by decide) (a := a334) (argsL := []) (rm7 l Z a0 hw a334 sv h333 n0 Z342 F359 F360 A340 F356 S0 r0 nl343) rfl e337 (by rw [hml]; rfl) pd_0 rfl (rest := [(.ref a334), (.ref a)]) rfl (W := 2) (Nat.le_of_eq rfl) (by decide) (by decide) (by decide) (by decide) N315 (hb hby d4_53) (pc' := 56) rfl (fun v361 T362 L363 X364 N365 q366 => ?_)
  obtain ⟨rfl, K367, F368⟩ := q366
  have Z369 : n0 ≤ T362.heap.size := Nat.le_trans Z342 K367.1
  have F370 := F345.keep K367 (ninS ne344 nin0)
  have F371 := F346.keep K367 (ninS ne344 nin0)
  have F372 := F347.keep K367 (ninS ne344 nin0)
  have F373 := F348.keep K367 (ninS ne344 nin0)
  have F374 := F349.keep K367 (ninS ne344 nin0)
  have F375 := F350.keep K367 (ninS ne344 nin0)
  have F376 := F351.keep K367 (ninS ne344 nin0)
  have F377 := F352.keep K367 (ninS ne344 nin0)
  have F378 := F353.keep K367 (ninS ne344 nin0)
  have F379 := F354.keep K367 (ninS ne344 nin0)
  have F380 := F355.keep K367
  have F381 := F356.keep K367 (allS nl343 all0)
  have K384 := K358.trans K367 (allS (Or.inr kf357) all0)
  show Goes p e s below (Q10 Z a p1 p2 sl p4 sv h0 n0) n0 R10.cells R10.slots T362 (mkF m 56 #[.val (.ref a), .val (.int p1), .val (.int p2), .val sl, .val (.int p4)] [(.ref a334), (.ref a)])
  refine g_putF X364 hx hZ hown (hw _ (List.mem_of_getElem? (i := 75) rfl)) rfl (v := (.ref a334)) F370 F380 (Or.inr ⟨(hw _ (List.mem_of_getElem? (i := 76) rfl)), rfl, hnm⟩) (hw _ (List.mem_of_getElem? (i := 21) rfl)) (ty := (.object "java/util/List")) (by decide) rfl rfl N365 gn_a (hb hby d4_56) (pc' := 59) rfl (fun T385 h386 L387 X388 e389 W390 N391 => ?_)
  have K392 := K384.wr W390 (Or.inl (by simp))
  have Z393 : n0 ≤ h386.size := by rw [W390.size]; exact Z369
  have F395 := Fld.other W390 F371 (Or.inr (slot_ne (Or.inr (hw _ (List.mem_of_getElem? (i := 78) rfl))) (Or.inr (hw _ (List.mem_of_getElem? (i := 76) rfl))) (by decide) (t := (.object "java/util/List")) (t' := (.object "java/util/List")) (by decide) (by decide)))
  have F396 := Fld.other W390 F372 (Or.inr (slot_ne (Or.inr (hw _ (List.mem_of_getElem? (i := 80) rfl))) (Or.inr (hw _ (List.mem_of_getElem? (i := 76) rfl))) (by decide) (t := (.object "java/util/List")) (t' := (.object "java/util/List")) (by decide) (by decide)))
  have F397 := Fld.other W390 F373 (Or.inr (slot_ne (Or.inr (hw _ (List.mem_of_getElem? (i := 82) rfl))) (Or.inr (hw _ (List.mem_of_getElem? (i := 76) rfl))) (by decide) (t := (.object "java/util/Map")) (t' := (.object "java/util/List")) (by decide) (by decide)))
  have F398 := Fld.other W390 F374 (Or.inr (slot_ne (Or.inr (hw _ (List.mem_of_getElem? (i := 103) rfl))) (Or.inr (hw _ (List.mem_of_getElem? (i := 76) rfl))) (by decide) (t := (.object "java/util/Set")) (t' := (.object "java/util/List")) (by decide) (by decide)))
  have F399 := Fld.other W390 F375 (Or.inr (slot_ne (Or.inl (hw _ (List.mem_of_getElem? (i := 105) rfl))) (Or.inr (hw _ (List.mem_of_getElem? (i := 76) rfl))) (by decide) (t := .int) (t' := (.object "java/util/List")) (by decide) (by decide)))
  have F400 := Fld.other W390 F376 (Or.inr (slot_ne (Or.inr (hw _ (List.mem_of_getElem? (i := 107) rfl))) (Or.inr (hw _ (List.mem_of_getElem? (i := 76) rfl))) (by decide) (t := .int) (t' := (.object "java/util/List")) (by decide) (by decide)))
  have F401 := Fld.other W390 F377 (Or.inr (slot_ne (Or.inr (hw _ (List.mem_of_getElem? (i := 109) rfl))) (Or.inr (hw _ (List.mem_of_getElem? (i := 76) rfl))) (by decide) (t := .int) (t' := (.object "java/util/List")) (by decide) (by decide)))
  have F402 := Fld.other W390 F378 (Or.inr (slot_ne (Or.inr (hw _ (List.mem_of_getElem? (i := 111) rfl))) (Or.inr (hw _ (List.mem_of_getElem? (i := 76) rfl))) (by decide) (t := (.object "com/example/coextent/coextent/reasoner/CompletionGraph$Slot")) (t' := (.object "java/util/List")) (by decide) (by decide)))
  have F403 := Fld.other W390 F379 (Or.inr (slot_ne (Or.inr (hw _ (List.mem_of_getElem? (i := 113) rfl))) (Or.inr (hw _ (List.mem_of_getElem? (i := 76) rfl))) (by decide) (t := .boolean) (t' := (.object "java/util/List")) (by decide) (by decide)))
  have F404 := Exa.wr W390 F380
  have F405 := F381.wr W390 gn_a
  have F406 := Exa.wr W390 F368
  refine g_aloadN X388 hx (hb hby d4_59) (v := (.ref a)) rfl rfl (pc' := 60) rfl ?_
  refine g_new X388 hx hZ hown (hw _ (List.mem_of_getElem? (i := 45) rfl)) (hw _ (List.mem_of_getElem? (i := 46) rfl)) (hw _ (List.mem_of_getElem? (i := 47) rfl)) e389 (hb hby d4_60) (by decide) (by decide) (pc' := 63) rfl (fun T407 h408 a409 g410 X411 e412 E413 l414 A415 D416 => ?_)
  have Z417 : n0 ≤ h408.size := Nat.le_trans Z393 E413.1
  have nl418 : n0 ≤ a409 := by rw [g410]; exact Z393
  have ne419 : a ≠ a409 := by rw [g410]; exact Nat.ne_of_lt F395.lt
  have F420 := Fld.ext E413 F395
  have F421 := Fld.ext E413 F396
  have F422 := Fld.ext E413 F397
  have F423 := Fld.ext E413 F398
  have F424 := Fld.ext E413 F399
  have F425 := Fld.ext E413 F400
  have F426 := Fld.ext E413 F401
  have F427 := Fld.ext E413 F402
  have F428 := Fld.ext E413 F403
  have F429 := Exa.ext E413 F404
  have F430 := F405.ext E413
  have kf431 : h0.size ≤ a409 := by rw [g410]; exact K392.1
  have K432 := K392.ext E413
  have F433 : Fld Z h408 a409 "java/util/AbstractList" "modCount" "I" (.int (0 : Int32)) := D416 (Or.inl (hw _ (List.mem_of_getElem? (i := 65) rfl))) (ty := .int) (by decide)
  have F434 : Fld Z h408 a409 "java/util/ArrayList" "elementData" "[Ljava/lang/Object;" .null := D416 (Or.inl (hw _ (List.mem_of_getElem? (i := 68) rfl))) (ty := (.array (.object "java/lang/Object"))) (by decide)
  refine g_dup X411 hx (hb hby d4_63) rfl (pc' := 64) rfl ?_
  refine g_special X411 hx hZ rfl hown (hw _ (List.mem_of_getElem? (i := 48) rfl)) (hw _ (List.mem_of_getElem? (i := 49) rfl)) (hw _ (List.mem_of_getElem? (i := 47) rfl)) (hw _ (List.mem_of_getElem? (i := 50) rfl)) (by decide) (a := a409) (argsL := []) (rm7 l Z a0 hw a409 sv h408 n0 Z417 F433 F434 A415 F430 S0 r0 nl418) rfl e412 (by rw [hml]; rfl) pd_0 rfl (rest := [(.ref a409), (.ref a)]) rfl (W := 2) (Nat.le_of_eq rfl) (by decide) (by decide) (by decide) (by decide) N391 (hb hby d4_64) (pc' := 67) rfl (fun v435 T436 L437 X438 N439 q440 => ?_)
  obtain ⟨rfl, K441, F442⟩ := q440
  have Z443 : n0 ≤ T436.heap.size := Nat.le_trans Z417 K441.1
  have F444 := F420.keep K441 (ninS ne419 nin0)
  have F445 := F421.keep K441 (ninS ne419 nin0)
  have F446 := F422.keep K441 (ninS ne419 nin0)
  have F447 := F423.keep K441 (ninS ne419 nin0)
  have F448 := F424.keep K441 (ninS ne419 nin0)
  have F449 := F425.keep K441 (ninS ne419 nin0)
  have F450 := F426.keep K441 (ninS ne419 nin0)
  have F451 := F427.keep K441 (ninS ne419 nin0)
  have F452 := F428.keep K441 (ninS ne419 nin0)
  have F453 := F429.keep K441
  have F454 := F430.keep K441 (allS nl418 all0)
  have K457 := K432.trans K441 (allS (Or.inr kf431) all0)
  show Goes p e s below (Q10 Z a p1 p2 sl p4 sv h0 n0) n0 R10.cells R10.slots T436 (mkF m 67 #[.val (.ref a), .val (.int p1), .val (.int p2), .val sl, .val (.int p4)] [(.ref a409), (.ref a)])
  refine g_putF X438 hx hZ hown (hw _ (List.mem_of_getElem? (i := 77) rfl)) rfl (v := (.ref a409)) F444 F453 (Or.inr ⟨(hw _ (List.mem_of_getElem? (i := 78) rfl)), rfl, hnm⟩) (hw _ (List.mem_of_getElem? (i := 21) rfl)) (ty := (.object "java/util/List")) (by decide) rfl rfl N439 gn_a (hb hby d4_67) (pc' := 70) rfl (fun T458 h459 L460 X461 e462 W463 N464 => ?_)
  have K465 := K457.wr W463 (Or.inl (by simp))
  have Z466 : n0 ≤ h459.size := by rw [W463.size]; exact Z443
  have F468 := Fld.other W463 F445 (Or.inr (slot_ne (Or.inr (hw _ (List.mem_of_getElem? (i := 80) rfl))) (Or.inr (hw _ (List.mem_of_getElem? (i := 78) rfl))) (by decide) (t := (.object "java/util/List")) (t' := (.object "java/util/List")) (by decide) (by decide)))
  have F469 := Fld.other W463 F446 (Or.inr (slot_ne (Or.inr (hw _ (List.mem_of_getElem? (i := 82) rfl))) (Or.inr (hw _ (List.mem_of_getElem? (i := 78) rfl))) (by decide) (t := (.object "java/util/Map")) (t' := (.object "java/util/List")) (by decide) (by decide)))
  have F470 := Fld.other W463 F447 (Or.inr (slot_ne (Or.inr (hw _ (List.mem_of_getElem? (i := 103) rfl))) (Or.inr (hw _ (List.mem_of_getElem? (i := 78) rfl))) (by decide) (t := (.object "java/util/Set")) (t' := (.object "java/util/List")) (by decide) (by decide)))
  have F471 := Fld.other W463 F448 (Or.inr (slot_ne (Or.inl (hw _ (List.mem_of_getElem? (i := 105) rfl))) (Or.inr (hw _ (List.mem_of_getElem? (i := 78) rfl))) (by decide) (t := .int) (t' := (.object "java/util/List")) (by decide) (by decide)))
  have F472 := Fld.other W463 F449 (Or.inr (slot_ne (Or.inr (hw _ (List.mem_of_getElem? (i := 107) rfl))) (Or.inr (hw _ (List.mem_of_getElem? (i := 78) rfl))) (by decide) (t := .int) (t' := (.object "java/util/List")) (by decide) (by decide)))
  have F473 := Fld.other W463 F450 (Or.inr (slot_ne (Or.inr (hw _ (List.mem_of_getElem? (i := 109) rfl))) (Or.inr (hw _ (List.mem_of_getElem? (i := 78) rfl))) (by decide) (t := .int) (t' := (.object "java/util/List")) (by decide) (by decide)))
  have F474 := Fld.other W463 F451 (Or.inr (slot_ne (Or.inr (hw _ (List.mem_of_getElem? (i := 111) rfl))) (Or.inr (hw _ (List.mem_of_getElem? (i := 78) rfl))) (by decide) (t := (.object "com/example/coextent/coextent/reasoner/CompletionGraph$Slot")) (t' := (.object "java/util/List")) (by decide) (by decide)))
  have F475 := Fld.other W463 F452 (Or.inr (slot_ne (Or.inr (hw _ (List.mem_of_getElem? (i := 113) rfl))) (Or.inr (hw _ (List.mem_of_getElem? (i := 78) rfl))) (by decide) (t := .boolean) (t' := (.object "java/util/List")) (by decide) (by decide)))
  have F476 := Exa.wr W463 F453
  have F477 := F454.wr W463 gn_a
  have F478 := Exa.wr W463 F442
  refine g_aloadN X461 hx (hb hby d4_70) (v := (.ref a)) rfl rfl (pc' := 71) rfl ?_
  refine g_new X461 hx hZ hown (hw _ (List.mem_of_getElem? (i := 45) rfl)) (hw _ (List.mem_of_getElem? (i := 46) rfl)) (hw _ (List.mem_of_getElem? (i := 47) rfl)) e462 (hb hby d4_71) (by decide) (by decide) (pc' := 74) rfl (fun T479 h480 a481 g482 X483 e484 E485 l486 A487 D488 => ?_)
  have Z489 : n0 ≤ h480.size := Nat.le_trans Z466 E485.1
  have nl490 : n0 ≤ a481 := by rw [g482]; exact Z466
  have ne491 : a ≠ a481 := by rw [g482]; exact Nat.ne_of_lt F468.lt
  have F492 := Fld.ext E485 F468
  have F493 := Fld.ext E485 F469
  have F494 := Fld.ext E485 F470
  have F495 := Fld.ext E485 F471
  have F496 := Fld.ext E485 F472
  have F497 := Fld.ext E485 F473
  have F498 := Fld.ext E485 F474
  have F499 := Fld.ext E485 F475
  have F500 := Exa.ext E485 F476
  have F501 := F477.ext E485
  have kf502 : h0.size ≤ a481 := by rw [g482]; exact K465.1
  have K503 := K465.ext E485
  have F504 : Fld Z h480 a481 "java/util/AbstractList" "modCount" "I" (.int (0 : Int32)) := D488 (Or.inl (hw _ (List.mem_of_getElem? (i := 65) rfl))) (ty := .int) (by decide)
  have F505 : Fld Z h480 a481 "java/util/ArrayList" "elementData" "[Ljava/lang/Object;" .null := D488 (Or.inl (hw _ (List.mem_of_getElem? (i := 68) rfl))) (ty := (.array (.object "java/lang/Object"))) (by decide)
  refine g_dup X483 hx (hb hby d4_74) rfl (pc' := 75) rfl ?_
  refine g_special X483 hx hZ rfl hown (hw _ (List.mem_of_getElem? (i := 48) rfl)) (hw _ (List.mem_of_getElem? (i := 49) rfl)) (hw _ (List.mem_of_getElem? (i := 47) rfl)) (hw _ (List.mem_of_getElem? (i := 50) rfl)) (by decide) (a := a481) (argsL := []) (rm7 l Z a0 hw a481 sv h480 n0 Z489 F504 F505 A487 F501 S0 r0 nl490) rfl e484 (by rw [hml]; rfl) pd_0 rfl (rest := [(.ref a481), (.ref a)]) rfl (W := 2) (Nat.le_of_eq rfl) (by decide) (by decide) (by decide) (by decide) N464 (hb hby d4_75) (pc' := 78) rfl (fun v506 T507 L508 X509 N510 q511 => ?_)
  obtain ⟨rfl, K512, F513⟩ := q511
  have Z514 : n0 ≤ T507.heap.size := Nat.le_trans Z489 K512.1
  have F515 := F492.keep K512 (ninS ne491 nin0)
  have F516 := F493.keep K512 (ninS ne491 nin0)
  have F517 := F494.keep K512 (ninS ne491 nin0)
  have F518 := F495.keep K512 (ninS ne491 nin0)
  have F519 := F496.keep K512 (ninS ne491 nin0)
  have F520 := F497.keep K512 (ninS ne491 nin0)
  have F521 := F498.keep K512 (ninS ne491 nin0)
  have F522 := F499.keep K512 (ninS ne491 nin0)
  have F523 := F500.keep K512
  have F524 := F501.keep K512 (allS nl490 all0)
  have K527 := K503.trans K512 (allS (Or.inr kf502) all0)
  show Goes p e s below (Q10 Z a p1 p2 sl p4 sv h0 n0) n0 R10.cells R10.slots T507 (mkF m 78 #[.val (.ref a), .val (.int p1), .val (.int p2), .val sl, .val (.int p4)] [(.ref a481), (.ref a)])
  refine g_putF X509 hx hZ hown (hw _ (List.mem_of_getElem? (i := 79) rfl)) rfl (v := (.ref a481)) F515 F523 (Or.inr ⟨(hw _ (List.mem_of_getElem? (i := 80) rfl)), rfl, hnm⟩) (hw _ (List.mem_of_getElem? (i := 21) rfl)) (ty := (.object "java/util/List")) (by decide) rfl rfl N510 gn_a (hb hby d4_78) (pc' := 81) rfl (fun T528 h529 L530 X531 e532 W533 N534 => ?_)
  have K535 := K527.wr W533 (Or.inl (by simp))
  have Z536 : n0 ≤ h529.size := by rw [W533.size]; exact Z514
  have F538 := Fld.other W533 F516 (Or.inr (slot_ne (Or.inr (hw _ (List.mem_of_getElem? (i := 82) rfl))) (Or.inr (hw _ (List.mem_of_getElem? (i := 80) rfl))) (by decide) (t := (.object "java/util/Map")) (t' := (.object "java/util/List")) (by decide) (by decide)))
  have F539 := Fld.other W533 F517 (Or.inr (slot_ne (Or.inr (hw _ (List.mem_of_getElem? (i := 103) rfl))) (Or.inr (hw _ (List.mem_of_getElem? (i := 80) rfl))) (by decide) (t := (.object "java/util/Set")) (t' := (.object "java/util/List")) (by decide) (by decide)))
  have F540 := Fld.other W533 F518 (Or.inr (slot_ne (Or.inl (hw _ (List.mem_of_getElem? (i := 105) rfl))) (Or.inr (hw _ (List.mem_of_getElem? (i := 80) rfl))) (by decide) (t := .int) (t' := (.object "java/util/List")) (by decide) (by decide)))
  have F541 := Fld.other W533 F519 (Or.inr (slot_ne (Or.inr (hw _ (List.mem_of_getElem? (i := 107) rfl))) (Or.inr (hw _ (List.mem_of_getElem? (i := 80) rfl))) (by decide) (t := .int) (t' := (.object "java/util/List")) (by decide) (by decide)))
  have F542 := Fld.other W533 F520 (Or.inr (slot_ne (Or.inr (hw _ (List.mem_of_getElem? (i := 109) rfl))) (Or.inr (hw _ (List.mem_of_getElem? (i := 80) rfl))) (by decide) (t := .int) (t' := (.object "java/util/List")) (by decide) (by decide)))
  have F543 := Fld.other W533 F521 (Or.inr (slot_ne (Or.inr (hw _ (List.mem_of_getElem? (i := 111) rfl))) (Or.inr (hw _ (List.mem_of_getElem? (i := 80) rfl))) (by decide) (t := (.object "com/example/coextent/coextent/reasoner/CompletionGraph$Slot")) (t' := (.object "java/util/List")) (by decide) (by decide)))
  have F544 := Fld.other W533 F522 (Or.inr (slot_ne (Or.inr (hw _ (List.mem_of_getElem? (i := 113) rfl))) (Or.inr (hw _ (List.mem_of_getElem? (i := 80) rfl))) (by decide) (t := .boolean) (t' := (.object "java/util/List")) (by decide) (by decide)))
  have F545 := Exa.wr W533 F523
  have F546 := F524.wr W533 gn_a
  have F547 := Exa.wr W533 F513
  refine g_aloadN X531 hx (hb hby d4_81) (v := (.ref a)) rfl rfl (pc' := 82) rfl ?_
  refine g_new X531 hx hZ hown (hw _ (List.mem_of_getElem? (i := 27) rfl)) (hw _ (List.mem_of_getElem? (i := 28) rfl)) (hw _ (List.mem_of_getElem? (i := 29) rfl)) e532 (hb hby d4_82) (by decide) (by decide) (pc' := 85) rfl (fun T548 h549 a550 g551 X552 e553 E554 l555 A556 D557 => ?_)
  have Z558 : n0 ≤ h549.size := Nat.le_trans Z536 E554.1
  have nl559 : n0 ≤ a550 := by rw [g551]; exact Z536
  have ne560 : a ≠ a550 := by rw [g551]; exact Nat.ne_of_lt F538.lt
  have F561 := Fld.ext E554 F538
  have F562 := Fld.ext E554 F539
  have F563 := Fld.ext E554 F540
  have F564 := Fld.ext E554 F541
  have F565 := Fld.ext E554 F542
  have F566 := Fld.ext E554 F543
  have F567 := Fld.ext E554 F544
  have F568 := Exa.ext E554 F545
  have F569 := F546.ext E554
  have kf570 : h0.size ≤ a550 := by rw [g551]; exact K535.1
  have K571 := K535.ext E554
  have F572 : Fld Z h549 a550 "java/util/HashMap" "loadFactor" "F" (.float 0) := D557 (Or.inr (hw _ (List.mem_of_getElem? (i := 42) rfl))) (ty := .float) (by decide)
  refine g_dup X552 hx (hb hby d4_85) rfl (pc' := 86) rfl ?_
  refine g_special X552 hx hZ rfl hown (hw _ (List.mem_of_getElem? (i := 30) rfl)) (hw _ (List.mem_of_getElem? (i := 31) rfl)) (hw _ (List.mem_of_getElem? (i := 29) rfl)) (hw _ (List.mem_of_getElem? (i := 32) rfl)) (by decide) (a := a550) (argsL := []) (rm4 l Z a0 hw a550 h549 n0 Z558 F572 A556 nl559) rfl e553 (by rw [hml]; rfl) pd_0 rfl (rest := [(.ref a550), (.ref a)]) rfl (W := 2) (Nat.le_of_eq rfl) (by decide) (by decide) (by decide) (by decide) N534 (hb hby d4_86) (pc' := 89) rfl (fun v573 T574 L575 X576 N577 q578 => ?_)
  obtain ⟨rfl, K579, F580⟩ := q578
  have Z581 : n0 ≤ T574.heap.size := Nat.le_trans Z558 K579.1
  have F582 := F561.keep K579 (ninS ne560 nin0)
  have F583 := F562.keep K579 (ninS ne560 nin0)
  have F584 := F563.keep K579 (ninS ne560 nin0)
  have F585 := F564.keep K579 (ninS ne560 nin0)
  have F586 := F565.keep K579 (ninS ne560 nin0)
  have F587 := F566.keep K579 (ninS ne560 nin0)
  have F588 := F567.keep K579 (ninS ne560 nin0)
  have F589 := F568.keep K579
  have F590 := F569.keep K579 (allS nl559 all0)
  have K592 := K571.trans K579 (allS (Or.inr kf570) all0)
  show Goes p e s below (Q10 Z a p1 p2 sl p4 sv h0 n0) n0 R10.cells R10.slots T574 (mkF m 89 #[.val (.ref a), .val (.int p1), .val (.int p2), .val sl, .val (.int p4)] [(.ref a550), (.ref a)])
  refine g_putF X576 hx hZ hown (hw _ (List.mem_of_getElem? (i := 81) rfl)) rfl (v := (.ref a550)) F582 F589 (Or.inr ⟨(hw _ (List.mem_of_getElem? (i := 82) rfl)), rfl, hnm⟩) (hw _ (List.mem_of_getElem? (i := 21) rfl)) (ty := (.object "java/util/Map")) (by decide) rfl rfl N577 gn_a (hb hby d4_89) (pc' := 92) rfl (fun T593 h594 L595 X596 e597 W598 N599 => ?_)
  have K600 := K592.wr W598 (Or.inl (by simp))
  have Z601 : n0 ≤ h594.size := by rw [W598.size]; exact Z581
  have F603 := Fld.other W598 F583 (Or.inr (slot_ne (Or.inr (hw _ (List.mem_of_getElem? (i := 103) rfl))) (Or.inr (hw _ (List.mem_of_getElem? (i := 82) rfl))) (by decide) (t := (.object "java/util/Set")) (t' := (.object "java/util/Map")) (by decide) (by decide)))
  have F604 := Fld.other W598 F584 (Or.inr (slot_ne (Or.inl (hw _ (List.mem_of_getElem? (i := 105) rfl))) (Or.inr (hw _ (List.mem_of_getElem? (i := 82) rfl))) (by decide) (t := .int) (t' := (.object "java/util/Map")) (by decide) (by decide)))
  have F605 := Fld.other W598 F585 (Or.inr (slot_ne (Or.inr (hw _ (List.mem_of_getElem? (i := 107) rfl))) (Or.inr (hw _ (List.mem_of_getElem? (i := 82) rfl))) (by decide) (t := .int) (t' := (.object "java/util/Map")) (by decide) (by decide)))
  have F606 := Fld.other W598 F586 (Or.inr (slot_ne (Or.inr (hw _ (List.mem_of_getElem? (i := 109) rfl))) (Or.inr (hw _ (List.mem_of_getElem? (i := 82) rfl))) (by decide) (t := .int) (t' := (.object "java/util/Map")) (by decide) (by decide)))
  have F607 := Fld.other W598 F587 (Or.inr (slot_ne (Or.inr (hw _ (List.mem_of_getElem? (i := 111) rfl))) (Or.inr (hw _ (List.mem_of_getElem? (i := 82) rfl))) (by decide) (t := (.object "com/example/coextent/coextent/reasoner/CompletionGraph$Slot")) (t' := (.object "java/util/Map")) (by decide) (by decide)))
  have F608 := Fld.other W598 F588 (Or.inr (slot_ne (Or.inr (hw _ (List.mem_of_getElem? (i := 113) rfl))) (Or.inr (hw _ (List.mem_of_getElem? (i := 82) rfl))) (by decide) (t := .boolean) (t' := (.object "java/util/Map")) (by decide) (by decide)))
  have F609 := Exa.wr W598 F589
  have F610 := F590.wr W598 gn_a
  have F611 := Exa.wr W598 F580
  refine g_aloadN X596 hx (hb hby d4_92) (v := (.ref a)) rfl rfl (pc' := 93) rfl ?_
  refine g_new X596 hx hZ hown (hw _ (List.mem_of_getElem? (i := 83) rfl)) (hw _ (List.mem_of_getElem? (i := 84) rfl)) (hw _ (List.mem_of_getElem? (i := 85) rfl)) e597 (hb hby d4_93) (by decide) (by decide) (pc' := 96) rfl (fun T612 h613 a614 g615 X616 e617 E618 l619 A620 D621 => ?_)
  have Z622 : n0 ≤ h613.size := Nat.le_trans Z601 E618.1
  have nl623 : n0 ≤ a614 := by rw [g615]; exact Z601
  have ne624 : a ≠ a614 := by rw [g615]; exact Nat.ne_of_lt F603.lt
  have F625 := Fld.ext E618 F603
  have F626 := Fld.ext E618 F604
  have F627 := Fld.ext E618 F605
  have F628 := Fld.ext E618 F606
  have F629 := Fld.ext E618 F607
  have F630 := Fld.ext E618 F608
  have F631 := Exa.ext E618 F609
  have F632 := F610.ext E618
  have kf633 : h0.size ≤ a614 := by rw [g615]; exact K600.1
  have K634 := K600.ext E618
  have F635 : Fld Z h613 a614 "java/util/HashSet" "map" "Ljava/util/HashMap;" .null := D621 (Or.inl (hw _ (List.mem_of_getElem? (i := 101) rfl))) (ty := (.object "java/util/HashMap")) (by decide)
  refine g_dup X616 hx (hb hby d4_96) rfl (pc' := 97) rfl ?_
  refine g_special X616 hx hZ rfl hown (hw _ (List.mem_of_getElem? (i := 86) rfl)) (hw _ (List.mem_of_getElem? (i := 87) rfl)) (hw _ (List.mem_of_getElem? (i := 85) rfl)) (hw _ (List.mem_of_getElem? (i := 88) rfl)) (by decide) (a := a614) (argsL := []) (rm9 l Z a0 hw a614 h613 n0 Z622 F635 A620 nl623) rfl e617 (by rw [hml]; rfl) pd_0 rfl (rest := [(.ref a614), (.ref a)]) rfl (W := 2) (Nat.le_of_eq rfl) (by decide) (by decide) (by decide) (by decide) N599 (hb hby d4_97) (pc' := 100) rfl (fun v636 T637 L638 X639 N640 q641 => ?_)
  obtain ⟨rfl, K642, F643⟩ := q641
  have Z644 : n0 ≤ T637.heap.size := Nat.le_trans Z622 K642.1
  have F645 := F625.keep K642 (ninS ne624 nin0)
  have F646 := F626.keep K642 (ninS ne624 nin0)
  have F647 := F627.keep K642 (ninS ne624 nin0)
  have F648 := F628.keep K642 (ninS ne624 nin0)
  have F649 := F629.keep K642 (ninS ne624 nin0)
  have F650 := F630.keep K642 (ninS ne624 nin0)
  have F651 := F631.keep K642
  have F652 := F632.keep K642 (allS nl623 all0)
  have K654 := K634.trans K642 (allS (Or.inr kf633) all0)
  show Goes p e s below (Q10 Z a p1 p2 sl p4 sv h0 n0) n0 R10.cells R10.slots T637 (mkF m 100 #[.val (.ref a), .val (.int p1), .val (.int p2), .val sl, .val (.int p4)] [(.ref a614), (.ref a)])
  refine g_putF X639 hx hZ hown (hw _ (List.mem_of_getElem? (i := 102) rfl)) rfl (v := (.ref a614)) F645 F651 (Or.inr ⟨(hw _ (List.mem_of_getElem? (i := 103) rfl)), rfl, hnm⟩) (hw _ (List.mem_of_getElem? (i := 21) rfl)) (ty := (.object "java/util/Set")) (by decide) rfl rfl N640 gn_a (hb hby d4_100) (pc' := 103) rfl (fun T655 h656 L657 X658 e659 W660 N661 => ?_)
  have K662 := K654.wr W660 (Or.inl (by simp))
  have Z663 : n0 ≤ h656.size := by rw [W660.size]; exact Z644
  have F665 := Fld.other W660 F646 (Or.inr (slot_ne (Or.inl (hw _ (List.mem_of_getElem? (i := 105) rfl))) (Or.inr (hw _ (List.mem_of_getElem? (i := 103) rfl))) (by decide) (t := .int) (t' := (.object "java/util/Set")) (by decide) (by decide)))
  have F666 := Fld.other W660 F647 (Or.inr (slot_ne (Or.inr (hw _ (List.mem_of_getElem? (i := 107) rfl))) (Or.inr (hw _ (List.mem_of_getElem? (i := 103) rfl))) (by decide) (t := .int) (t' := (.object "java/util/Set")) (by decide) (by decide)))
  have F667 := Fld.other W660 F648 (Or.inr (slot_ne (Or.inr (hw _ (List.mem_of_getElem? (i := 109) rfl))) (Or.inr (hw _ (List.mem_of_getElem? (i := 103) rfl))) (by decide) (t := .int) (t' := (.object "java/util/Set")) (by decide) (by decide)))
  have F668 := Fld.other W660 F649 (Or.inr (slot_ne (Or.inr (hw _ (List.mem_of_getElem? (i := 111) rfl))) (Or.inr (hw _ (List.mem_of_getElem? (i := 103) rfl))) (by decide) (t := (.object "com/example/coextent/coextent/reasoner/CompletionGraph$Slot")) (t' := (.object "java/util/Set")) (by decide) (by decide)))
  have F669 := Fld.other W660 F650 (Or.inr (slot_ne (Or.inr (hw _ (List.mem_of_getElem? (i := 113) rfl))) (Or.inr (hw _ (List.mem_of_getElem? (i := 103) rfl))) (by decide) (t := .boolean) (t' := (.object "java/util/Set")) (by decide) (by decide)))
  have F670 := Exa.wr W660 F651
  have F671 := F652.wr W660 gn_a
  have F672 := Exa.wr W660 F643
  refine g_aloadN X658 hx (hb hby d4_103) (v := (.ref a)) rfl rfl (pc' := 104) rfl ?_
  refine g_iconst X658 hx (hb hby d4_104) (v := -1) (by decide) (pc' := 105) rfl ?_
  refine g_putF X658 hx hZ hown (hw _ (List.mem_of_getElem? (i := 104) rfl)) e659 (v := (.int (-1 : Int32))) F665 F670 (Or.inl (hw _ (List.mem_of_getElem? (i := 105) rfl))) (hw _ (List.mem_of_getElem? (i := 21) rfl)) (ty := .int) (by decide) rfl rfl N661 gn_a (hb hby d4_105) (pc' := 108) rfl (fun T673 h674 L675 X676 e677 W678 N679 => ?_)
  have K680 := K662.wr W678 (Or.inl (by simp))
  have Z681 : n0 ≤ h674.size := by rw [W678.size]; exact Z663
  have F683 := Fld.other W678 F666 (Or.inr (slot_ne (Or.inr (hw _ (List.mem_of_getElem? (i := 107) rfl))) (Or.inl (hw _ (List.mem_of_getElem? (i := 105) rfl))) (by decide) (t := .int) (t' := .int) (by decide) (by decide)))
  have F684 := Fld.other W678 F667 (Or.inr (slot_ne (Or.inr (hw _ (List.mem_of_getElem? (i := 109) rfl))) (Or.inl (hw _ (List.mem_of_getElem? (i := 105) rfl))) (by decide) (t := .int) (t' := .int) (by decide) (by decide)))
  have F685 := Fld.other W678 F668 (Or.inr (slot_ne (Or.inr (hw _ (List.mem_of_getElem? (i := 111) rfl))) (Or.inl (hw _ (List.mem_of_getElem? (i := 105) rfl))) (by decide) (t := (.object "com/example/coextent/coextent/reasoner/CompletionGraph$Slot")) (t' := .int) (by decide) (by decide)))
  have F686 := Fld.other W678 F669 (Or.inr (slot_ne (Or.inr (hw _ (List.mem_of_getElem? (i := 113) rfl))) (Or.inl (hw _ (List.mem_of_getElem? (i := 105) rfl))) (by decide) (t := .boolean) (t' := .int) (by decide) (by decide)))
  have F687 := Exa.wr W678 F670
  have F688 := F671.wr W678 gn_a
  refine g_aloadN X676 hx (hb hby d4_108) (v := (.ref a)) rfl rfl (pc' := 109) rfl ?_
  refine g_iloadN X676 hx (hb hby d4_109) (v := p1) rfl (pc' := 110) rfl ?_
  refine g_putF X676 hx hZ hown (hw _ (List.mem_of_getElem? (i := 106) rfl)) e677 (v := (.int p1)) F683 F687 (Or.inr ⟨(hw _ (List.mem_of_getElem? (i := 107) rfl)), rfl, hnm⟩) (hw _ (List.mem_of_getElem? (i := 21) rfl)) (ty := .int) (by decide) rfl rfl N679 gn_a (hb hby d4_110) (pc' := 113) rfl (fun T689 h690 L691 X692 e693 W694 N695 => ?_)
  have K696 := K680.wr W694 (Or.inl (by simp))
  have Z697 : n0 ≤ h690.size := by rw [W694.size]; exact Z681
  have F698 := Fld.same W694 F683
  have F699 := Fld.other W694 F684 (Or.inr (slot_ne (Or.inr (hw _ (List.mem_of_getElem? (i := 109) rfl))) (Or.inr (hw _ (List.mem_of_getElem? (i := 107) rfl))) (by decide) (t := .int) (t' := .int) (by decide) (by decide)))
  have F700 := Fld.other W694 F685 (Or.inr (slot_ne (Or.inr (hw _ (List.mem_of_getElem? (i := 111) rfl))) (Or.inr (hw _ (List.mem_of_getElem? (i := 107) rfl))) (by decide) (t := (.object "com/example/coextent/coextent/reasoner/CompletionGraph$Slot")) (t' := .int) (by decide) (by decide)))
  have F701 := Fld.other W694 F686 (Or.inr (slot_ne (Or.inr (hw _ (List.mem_of_getElem? (i := 113) rfl))) (Or.inr (hw _ (List.mem_of_getElem? (i := 107) rfl))) (by decide) (t := .boolean) (t' := .int) (by decide) (by decide)))
  have F702 := Exa.wr W694 F687
  have F703 := F688.wr W694 gn_a
  refine g_aloadN X692 hx (hb hby d4_113) (v := (.ref a)) rfl rfl (pc' := 114) rfl ?_
  refine g_iloadN X692 hx (hb hby d4_114) (v := p2) rfl (pc' := 115) rfl ?_
  refine g_putF X692 hx hZ hown (hw _ (List.mem_of_getElem? (i := 108) rfl)) e693 (v := (.int p2)) F699 F702 (Or.inr ⟨(hw _ (List.mem_of_getElem? (i := 109) rfl)), rfl, hnm⟩) (hw _ (List.mem_of_getElem? (i := 21) rfl)) (ty := .int) (by decide) rfl rfl N695 gn_a (hb hby d4_115) (pc' := 118) rfl (fun T704 h705 L706 X707 e708 W709 N710 => ?_)
  have K711 := K696.wr W709 (Or.inl (by simp))
  have Z712 : n0 ≤ h705.size := by rw [W709.size]; exact Z697
  have F713 := Fld.other W709 F698 (Or.inr (slot_ne (Or.inr (hw _ (List.mem_of_getElem? (i := 107) rfl))) (Or.inr (hw _ (List.mem_of_getElem? (i := 109) rfl))) (by decide) (t := .int) (t' := .int) (by decide) (by decide)))
  have F715 := Fld.other W709 F700 (Or.inr (slot_ne (Or.inr (hw _ (List.mem_of_getElem? (i := 111) rfl))) (Or.inr (hw _ (List.mem_of_getElem? (i := 109) rfl))) (by decide) (t := (.object "com/example/coextent/coextent/reasoner/CompletionGraph$Slot")) (t' := .int) (by decide) (by decide)))
  have F716 := Fld.other W709 F701 (Or.inr (slot_ne (Or.inr (hw _ (List.mem_of_getElem? (i := 113) rfl))) (Or.inr (hw _ (List.mem_of_getElem? (i := 109) rfl))) (by decide) (t := .boolean) (t' := .int) (by decide) (by decide)))
  have F717 := Exa.wr W709 F702
  have F718 := F703.wr W709 gn_a
  refine g_aloadN X707 hx (hb hby d4_118) (v := (.ref a)) rfl rfl (pc' := 119) rfl ?_
  refine g_aloadN X707 hx (hb hby d4_119) (v := sl) rfl rs (pc' := 120) rfl ?_
  refine g_putF X707 hx hZ hown (hw _ (List.mem_of_getElem? (i := 110) rfl)) e708 (v := sl) F715 F717 (Or.inr ⟨(hw _ (List.mem_of_getElem? (i := 111) rfl)), rfl, hnm⟩) (hw _ (List.mem_of_getElem? (i := 21) rfl)) (ty := (.object "com/example/coextent/coextent/reasoner/CompletionGraph$Slot")) (by decide) (own_ref rs _).1 (own_ref rs _).2 N710 gn_a (hb hby d4_120) (pc' := 123) rfl (fun T719 h720 L721 X722 e723 W724 N725 => ?_)
  have K726 := K711.wr W724 (Or.inl (by simp))
  have Z727 : n0 ≤ h720.size := by rw [W724.size]; exact Z712
  have F728 := Fld.other W724 F713 (Or.inr (slot_ne (Or.inr (hw _ (List.mem_of_getElem? (i := 107) rfl))) (Or.inr (hw _ (List.mem_of_getElem? (i := 111) rfl))) (by decide) (t := .int) (t' := (.object "com/example/coextent/coextent/reasoner/CompletionGraph$Slot")) (by decide) (by decide)))
  have F730 := Fld.other W724 F716 (Or.inr (slot_ne (Or.inr (hw _ (List.mem_of_getElem? (i := 113) rfl))) (Or.inr (hw _ (List.mem_of_getElem? (i := 111) rfl))) (by decide) (t := .boolean) (t' := (.object "com/example/coextent/coextent/reasoner/CompletionGraph$Slot")) (by decide) (by decide)))
  have F731 := Exa.wr W724 F717
  have F732 := F718.wr W724 gn_a
  refine g_aloadN X722 hx (hb hby d4_123) (v := (.ref a)) rfl rfl (pc' := 124) rfl ?_
  refine g_iload X722 hx (hb hby d4_124) (v := p4) rfl (pc' := 126) rfl ?_
  refine g_putF X722 hx hZ hown (hw _ (List.mem_of_getElem? (i := 112) rfl)) e723 (v := (.int p4)) F730 F731 (Or.inr ⟨(hw _ (List.mem_of_getElem? (i := 113) rfl)), rfl, hnm⟩) (hw _ (List.mem_of_getElem? (i := 21) rfl)) (ty := .boolean) (by decide) (by rcases z4 with z | z <;> rw [z] <;> rfl) (by rcases z4 with z | z <;> rw [z] <;> rfl) N725 gn_a (hb hby d4_126) (pc' := 129) rfl (fun T733 h734 L735 X736 e737 W738 N739 => ?_)
  have K740 := K726.wr W738 (Or.inl (by simp))
  have Z741 : n0 ≤ h734.size := by rw [W738.size]; exact Z727
  have F742 := Fld.other W738 F728 (Or.inr (slot_ne (Or.inr (hw _ (List.mem_of_getElem? (i := 107) rfl))) (Or.inr (hw _ (List.mem_of_getElem? (i := 113) rfl))) (by decide) (t := .int) (t' := .boolean) (by decide) (by decide)))
  have F744 := Exa.wr W738 F731
  have F745 := F732.wr W738 gn_a
  refine g_retV X736 hx hlk hret (hb hby d4_129) N739 (by decide) (by decide) ?_
  rw [e737]
  exact ⟨rfl, K740, F744, F742⟩
theorem d12_0 : decode prog_91_method_2_code 0 = .ok (.aload_n 0, 1) := by decide +kernel
theorem d12_1 : decode prog_91_method_2_code 1 = .ok (.getfield 54, 3) := by decide +kernel
theorem d12_4 : decode prog_91_method_2_code 4 = .ok (.iconst (-1), 1) := by decide +kernel
theorem d12_5 : decode prog_91_method_2_code 5 = .ok (.if_icmp .ne 7, 3) := by decide +kernel
theorem d12_8 : decode prog_91_method_2_code 8 = .ok (.iconst 1, 1) := by decide +kernel
theorem d12_9 : decode prog_91_method_2_code 9 = .ok (.goto 4, 3) := by decide +kernel
theorem d12_12 : decode prog_91_method_2_code 12 = .ok (.iconst 0, 1) := by decide +kernel
theorem d12_13 : decode prog_91_method_2_code 13 = .ok (.ireturn, 1) := by decide +kernel
theorem pn_10 : plainFor (⟨"com/example/coextent/coextent/reasoner/CompletionGraph$Node", "isRoot", "()Z"⟩ : MethodName) = true := by first | exact plainFor_of_name (by first | (simp [plainName, overriddenIn]; done) | decide +kernel) | decide +kernel
def Q11 (Z : State) (a : Addr) (p1 : Int32) (h0 : Heap) (n0 : Nat) (v : Option Value) (h : Heap) : Prop := ∃ b : Int32, v = some (.int b) ∧ ((p1.toInt = -1) ∧ b.toInt = 1 ∨ ¬ (p1.toInt = -1) ∧ b.toInt = 0) ∧ h = h0
abbrev R11 : Room := { frames := 0, cells := 0, slots := 0, locals := 0 }
set_option maxRecDepth 65536 in
set_option maxHeartbeats 40000000 in
theorem rm11 (l : Launch) (Z : State) (a0 : Array Value) (hw : ∀ d ∈ tables_1, d.before a0 Z = true)  (a : Addr) (p1 : Int32) (h0 : Heap) (n0 : Nat) (Z0 : n0 ≤ h0.size) (Fp0 : Fld Z h0 a "com/example/coextent/coextent/reasoner/CompletionGraph$Node" "parent" "I" (.int p1)) :
    Con l (⟨"com/example/coextent/coextent/reasoner/CompletionGraph$Node", "isRoot", "()Z"⟩ : MethodName) prog_91_method_2_code 1 (some .boolean) [] R11 Z #[(.ref a)] h0 n0 (Q11 Z a p1 h0 n0) := by
  refine con_of (Ls0 := #[.val (.ref a)]) pn_10 (fun m => by first | (simp [entryFrame, mkF, argsToLocals, Value.category, maxLocals]; done) | rfl) ?_
  intro p e s m below meth c s₁ X0 hx hby hml hZ hown hnm hret hlk e0 N0
  show Goes p e s below (Q11 Z a p1 h0 n0) n0 R11.cells R11.slots s₁ (mkF m 0 #[.val (.ref a)] [])
  refine g_aloadN X0 hx (hb hby d12_0) (v := (.ref a)) rfl rfl (pc' := 1) rfl ?_
  refine g_getF X0 hx hZ hown (hw _ (List.mem_of_getElem? (i := 106) rfl)) e0 Fp0 (hb hby d12_1) (pc' := 4) rfl (fun T1 X2 e3 => ?_)
  refine g_iconst X2 hx (hb hby d12_4) (v := -1) (by decide) (pc' := 5) rfl ?_
  refine g_ii_ne X2 hx (a := p1.toInt) (b := (-1)) rfl rfl (hb hby d12_5) (by decide) (pc' := 12) (by decide) (pc2 := 8) rfl (fun c4 => ?_) (fun c4 => ?_)
  · refine g_iconst X2 hx (hb hby d12_12) (v := 0) (by decide) (pc' := 13) rfl ?_
    refine g_retZ X2 hx hlk (by decide) hret (hb hby d12_13) N0 (by decide) (by decide) ?_
    exact ⟨_, rfl, by first | exact Or.inl ⟨by omega, rfl⟩ | exact Or.inr ⟨by omega, rfl⟩, e3⟩
  · refine g_iconst X2 hx (hb hby d12_8) (v := 1) (by decide) (pc' := 9) rfl ?_
    refine g_goto X2 hx (hb hby d12_9) (by decide) (pc' := 13) (by decide) ?_
    refine g_retZ X2 hx hlk (by decide) hret (hb hby d12_13) N0 (by decide) (by decide) ?_
    exact ⟨_, rfl, by first | exact Or.inl ⟨by omega, rfl⟩ | exact Or.inr ⟨by omega, rfl⟩, e3⟩
theorem pn_11 : plainFor (⟨"com/example/coextent/coextent/reasoner/NodeIsRootPinLaw", "law", "(IIIIII)Z"⟩ : MethodName) = true := by first | exact plainFor_of_name (by first | (simp [plainName, overriddenIn]; done) | decide +kernel) | decide +kernel
def Q0 (Z : State) (p0 : Int32) (p1 : Int32) (p2 : Int32) (p3 : Int32) (p4 : Int32) (p5 : Int32) (sv : Value) (h0 : Heap) (n0 : Nat) (v : Option Value) (h : Heap) : Prop := v = some (.int 1)
set_option maxRecDepth 65536 in
set_option maxHeartbeats 40000000 in
theorem rm0 (l : Launch) (Z : State) (a0 : Array Value) (hw : ∀ d ∈ tables_1, d.before a0 Z = true) (ws : List Jvm.Cond) (p0 : Int32) (p1 : Int32) (p2 : Int32) (p3 : Int32) (p4 : Int32) (p5 : Int32) (sv : Value) (h0 : Heap) (n0 : Nat) (Z0 : n0 ≤ h0.size) (S0 : Sta Z Z.heap "java/util/ArrayList" "DEFAULTCAPACITY_EMPTY_ELEMENTDATA" "[Ljava/lang/Object;" sv) (r0 : sv.isRef = true) (O0 : Old Z n0 h0) :
    Con l x code maxLocals ret ws room_1 Z #[(.int p0), (.int p1), (.int p2), (.int p3), (.int p4), (.int p5)] h0 n0 (Q0 Z p0 p1 p2 p3 p4 p5 sv h0 n0) := by
  refine con_of (Ls0 := #[.val (.int p0), .val (.int p1), .val (.int p2), .val (.int p3), .val (.int p4), .val (.int p5), .unset, .unset, .unset, .unset, .unset]) pn_11 (fun m => by first | (simp [entryFrame, mkF, argsToLocals, Value.category, maxLocals]; done) | rfl) ?_
  intro p e s m below meth c s₁ X0 hx hby hml hZ hown hnm hret hlk e0 N0
  refine g_iloadN X0 hx (hb hby at_0) (v := p2) rfl (pc' := 1) rfl ?_
  refine g_iconst X0 hx (hb hby at_1) (v := 1) (by decide) (pc' := 2) rfl ?_
  refine g_iand X0 hx (hb hby at_2) (pc' := 3) rfl ?_
  have J1 : ∀ (pp : Int32), Goes p e s below (Q0 Z p0 p1 p2 p3 p4 p5 sv h0 n0) n0 room_1.cells room_1.slots s₁ (mkF m 11 #[.val (.int p0), .val (.int p1), .val (.int p2), .val (.int p3), .val (.int p4), .val (.int p5), .unset, .unset, .unset, .unset, .unset] [(.int pp)]) := by
    intro pp
    refine g_istore X0 hx (hb hby at_11) (Ls' := #[.val (.int p0), .val (.int p1), .val (.int p2), .val (.int p3), .val (.int p4), .val (.int p5), .val (.int pp), .unset, .unset, .unset, .unset]) rfl (pc' := 13) rfl ?_
    refine g_iloadN X0 hx (hb hby at_13) (v := p2) rfl (pc' := 14) rfl ?_
    refine g_iconst X0 hx (hb hby at_14) (v := 2) (by decide) (pc' := 15) rfl ?_
    refine g_iand X0 hx (hb hby at_15) (pc' := 16) rfl ?_
    refine g_i0_eq X0 hx (a := (p2 &&& (2 : Int32)).toInt) rfl (hb hby at_16) (by decide) (pc' := 34) (by decide) (pc2 := 19) rfl (fun c2 => ?_) (fun c2 => ?_)
    · refine g_null X0 hx (hb hby at_34) (pc' := 35) rfl ?_
      refine g_astore X0 hx (hb hby at_35) rfl (Ls' := #[.val (.int p0), .val (.int p1), .val (.int p2), .val (.int p3), .val (.int p4), .val (.int p5), .val (.int pp), .val .null, .unset, .unset, .unset]) rfl (pc' := 37) rfl ?_
      refine g_iloadN X0 hx (hb hby at_37) (v := p2) rfl (pc' := 38) rfl ?_
      refine g_iconst X0 hx (hb hby at_38) (v := 4) (by decide) (pc' := 39) rfl ?_
      refine g_iand X0 hx (hb hby at_39) (pc' := 40) rfl ?_
      have J3 : ∀ (dt : Int32), dt = 0 ∨ dt = 1 → Goes p e s below (Q0 Z p0 p1 p2 p3 p4 p5 sv h0 n0) n0 room_1.cells room_1.slots s₁ (mkF m 48 #[.val (.int p0), .val (.int p1), .val (.int p2), .val (.int p3), .val (.int p4), .val (.int p5), .val (.int pp), .val .null, .unset, .unset, .unset] [(.int dt)]) := by
        intro dt j4
        refine g_istore X0 hx (hb hby at_48) (Ls' := #[.val (.int p0), .val (.int p1), .val (.int p2), .val (.int p3), .val (.int p4), .val (.int p5), .val (.int pp), .val .null, .val (.int dt), .unset, .unset]) rfl (pc' := 50) rfl ?_
        refine g_new X0 hx hZ hown (hw _ (List.mem_of_getElem? (i := 20) rfl)) (hw _ (List.mem_of_getElem? (i := 21) rfl)) (hw _ (List.mem_of_getElem? (i := 22) rfl)) e0 (hb hby at_50) (by decide) (by decide) (pc' := 53) rfl (fun T5 h6 a7 g8 X9 e10 E11 l12 A13 D14 => ?_)
        have Z15 : n0 ≤ h6.size := Nat.le_trans Z0 E11.1
        have nl16 : n0 ≤ a7 := by rw [g8]; exact Z0
        have F17 := O0.ext E11
        have F18 : Fld Z h6 a7 "com/example/coextent/coextent/reasoner/CompletionGraph$Node" "label" "Ljava/util/Map;" .null := D14 (Or.inr (hw _ (List.mem_of_getElem? (i := 44) rfl))) (ty := (.object "java/util/Map")) (by decide)
        have F19 : Fld Z h6 a7 "com/example/coextent/coextent/reasoner/CompletionGraph$Node" "disjunctions" "Ljava/util/List;" .null := D14 (Or.inr (hw _ (List.mem_of_getElem? (i := 70) rfl))) (ty := (.object "java/util/List")) (by decide)
        have F20 : Fld Z h6 a7 "com/example/coextent/coextent/reasoner/CompletionGraph$Node" "somes" "Ljava/util/List;" .null := D14 (Or.inr (hw _ (List.mem_of_getElem? (i := 72) rfl))) (ty := (.object "java/util/List")) (by decide)
        have F21 : Fld Z h6 a7 "com/example/coextent/coextent/reasoner/CompletionGraph$Node" "alls" "Ljava/util/List;" .null := D14 (Or.inr (hw _ (List.mem_of_getElem? (i := 74) rfl))) (ty := (.object "java/util/List")) (by decide)
        have F22 : Fld Z h6 a7 "com/example/coextent/coextent/reasoner/CompletionGraph$Node" "atLeasts" "Ljava/util/List;" .null := D14 (Or.inr (hw _ (List.mem_of_getElem? (i := 76) rfl))) (ty := (.object "java/util/List")) (by decide)
        have F23 : Fld Z h6 a7 "com/example/coextent/coextent/reasoner/CompletionGraph$Node" "atMosts" "Ljava/util/List;" .null := D14 (Or.inr (hw _ (List.mem_of_getElem? (i := 78) rfl))) (ty := (.object "java/util/List")) (by decide)
        have F24 : Fld Z h6 a7 "com/example/coextent/coextent/reasoner/CompletionGraph$Node" "edges" "Ljava/util/List;" .null := D14 (Or.inr (hw _ (List.mem_of_getElem? (i := 80) rfl))) (ty := (.object "java/util/List")) (by decide)
        have F25 : Fld Z h6 a7 "com/example/coextent/coextent/reasoner/CompletionGraph$Node" "different" "Ljava/util/Map;" .null := D14 (Or.inr (hw _ (List.mem_of_getElem? (i := 82) rfl))) (ty := (.object "java/util/Map")) (by decide)
        have F26 : Fld Z h6 a7 "com/example/coextent/coextent/reasoner/CompletionGraph$Node" "generated" "Ljava/util/Set;" .null := D14 (Or.inr (hw _ (List.mem_of_getElem? (i := 103) rfl))) (ty := (.object "java/util/Set")) (by decide)
        have F27 : Fld Z h6 a7 "com/example/coextent/coextent/reasoner/CompletionGraph$Node" "mergedInto" "I" (.int (0 : Int32)) := D14 (Or.inl (hw _ (List.mem_of_getElem? (i := 105) rfl))) (ty := .int) (by decide)
        have F28 : Fld Z h6 a7 "com/example/coextent/coextent/reasoner/CompletionGraph$Node" "parent" "I" (.int (0 : Int32)) := D14 (Or.inr (hw _ (List.mem_of_getElem? (i := 107) rfl))) (ty := .int) (by decide)
        have F29 : Fld Z h6 a7 "com/example/coextent/coextent/reasoner/CompletionGraph$Node" "individual" "I" (.int (0 : Int32)) := D14 (Or.inr (hw _ (List.mem_of_getElem? (i := 109) rfl))) (ty := .int) (by decide)
        have F30 : Fld Z h6 a7 "com/example/coextent/coextent/reasoner/CompletionGraph$Node" "slot" "Lcom/example/coextent/coextent/reasoner/CompletionGraph$Slot;" .null := D14 (Or.inr (hw _ (List.mem_of_getElem? (i := 111) rfl))) (ty := (.object "com/example/coextent/coextent/reasoner/CompletionGraph$Slot")) (by decide)
        have F31 : Fld Z h6 a7 "com/example/coextent/coextent/reasoner/CompletionGraph$Node" "data" "Z" (.int (0 : Int32)) := D14 (Or.inr (hw _ (List.mem_of_getElem? (i := 113) rfl))) (ty := .boolean) (by decide)
        refine g_dup X9 hx (hb hby at_53) rfl (pc' := 54) rfl ?_
        refine g_iload X9 hx (hb hby at_54) (v := pp) rfl (pc' := 56) rfl ?_
        refine g_iloadN X9 hx (hb hby at_56) (v := p1) rfl (pc' := 57) rfl ?_
        refine g_aload X9 hx (hb hby at_57) (v := .null) rfl rfl (pc' := 59) rfl ?_
        refine g_iload X9 hx (hb hby at_59) (v := dt) rfl (pc' := 61) rfl ?_
        refine g_special X9 hx hZ rfl hown (hw _ (List.mem_of_getElem? (i := 23) rfl)) (hw _ (List.mem_of_getElem? (i := 24) rfl)) (hw _ (List.mem_of_getElem? (i := 22) rfl)) (hw _ (List.mem_of_getElem? (i := 25) rfl)) (by decide) (a := a7) (argsL := [(.int pp), (.int p1), .null, (.int dt)]) (rm10 l Z a0 hw a7 pp p1 .null dt sv h6 n0 Z15 F18 F19 F20 F21 F22 F23 F24 F25 F26 F27 F28 F29 F30 F31 A13 F17 S0 r0 rfl j4 nl16) rfl e10 (by rw [hml]; rfl) pd_2 rfl (rest := [(.ref a7)]) rfl (W := 1) (Nat.le_of_eq rfl) (by decide) (by decide) (by decide) (by decide) N0 (hb hby at_61) (pc' := 64) rfl (fun v32 T33 L34 X35 N36 q37 => ?_)
        obtain ⟨rfl, K38, F39, F40⟩ := q37
        have Z41 : n0 ≤ T33.heap.size := Nat.le_trans Z15 K38.1
        have F42 := F17.keep K38 (allS nl16 all0)
        show Goes p e s below (Q0 Z p0 p1 p2 p3 p4 p5 sv h0 n0) n0 room_1.cells room_1.slots T33 (mkF m 64 #[.val (.int p0), .val (.int p1), .val (.int p2), .val (.int p3), .val (.int p4), .val (.int p5), .val (.int pp), .val .null, .val (.int dt), .unset, .unset] [(.ref a7)])
        refine g_astore X35 hx (hb hby at_64) rfl (Ls' := #[.val (.int p0), .val (.int p1), .val (.int p2), .val (.int p3), .val (.int p4), .val (.int p5), .val (.int pp), .val .null, .val (.int dt), .val (.ref a7), .unset]) rfl (pc' := 66) rfl ?_
        refine g_iload X35 hx (hb hby at_66) (v := pp) rfl (pc' := 68) rfl ?_
        refine g_iconst X35 hx (hb hby at_68) (v := -1) (by decide) (pc' := 69) rfl ?_
        have J56 : ∀ (ex : Int32), (pp.toInt = -1 ∧ ex.toInt = 1 ∨ ¬ pp.toInt = -1 ∧ ex.toInt = 0) → Goes p e s below (Q0 Z p0 p1 p2 p3 p4 p5 sv h0 n0) n0 room_1.cells room_1.slots T33 (mkF m 77 #[.val (.int p0), .val (.int p1), .val (.int p2), .val (.int p3), .val (.int p4), .val (.int p5), .val (.int pp), .val .null, .val (.int dt), .val (.ref a7), .unset] [(.int ex)]) := by
          intro ex j57
          refine g_istore X35 hx (hb hby at_77) (Ls' := #[.val (.int p0), .val (.int p1), .val (.int p2), .val (.int p3), .val (.int p4), .val (.int p5), .val (.int pp), .val .null, .val (.int dt), .val (.ref a7), .val (.int ex)]) rfl (pc' := 79) rfl ?_
          refine g_aload X35 hx (hb hby at_79) (v := (.ref a7)) rfl rfl (pc' := 81) rfl ?_
          refine g_virtual X35 hx hZ hown (hw _ (List.mem_of_getElem? (i := 114) rfl)) (hw _ (List.mem_of_getElem? (i := 115) rfl)) (hw _ (List.mem_of_getElem? (i := 117) rfl)) (hw _ (List.mem_of_getElem? (i := 116) rfl)) (hw _ (List.mem_of_getElem? (i := 22) rfl)) (hw _ (List.mem_of_getElem? (i := 118) rfl)) (by decide) (a := a7) (argsL := []) (rm11 l Z a0 hw a7 pp T33.heap n0 Z41 F40) rfl rfl F39 (by rw [hml]; rfl) pd_3 rfl (rest := []) rfl (W := 0) (Nat.le_of_eq rfl) (by decide) (by decide) (by decide) (by decide) N36 (hb hby at_81) (pc' := 84) rfl (fun v58 T59 L60 X61 N62 q63 => ?_)
          obtain ⟨b64, rfl, f65, K66⟩ := q63
          show Goes p e s below (Q0 Z p0 p1 p2 p3 p4 p5 sv h0 n0) n0 room_1.cells room_1.slots T59 (mkF m 84 #[.val (.int p0), .val (.int p1), .val (.int p2), .val (.int p3), .val (.int p4), .val (.int p5), .val (.int pp), .val .null, .val (.int dt), .val (.ref a7), .val (.int ex)] [(.int b64)])
          refine g_iload X61 hx (hb hby at_84) (v := ex) rfl (pc' := 86) rfl ?_
          refine g_ii_ne X61 hx (a := b64.toInt) (b := ex.toInt) rfl rfl (hb hby at_86) (by decide) (pc' := 93) (by decide) (pc2 := 89) rfl (fun c67 => False.elim (by omega)) (fun c67 => ?_)
          refine g_iconst X61 hx (hb hby at_89) (v := 1) (by decide) (pc' := 90) rfl ?_
          refine g_goto X61 hx (hb hby at_90) (by decide) (pc' := 94) (by decide) ?_
          refine g_retZ X61 hx hlk (by decide) hret (hb hby at_94) N62 (by decide) (by decide) ?_
          exact rfl
        refine g_ii_ne X35 hx (a := pp.toInt) (b := (-1)) rfl rfl (hb hby at_69) (by decide) (pc' := 76) (by decide) (pc2 := 72) rfl (fun c68 => ?_) (fun c68 => ?_)
        · refine g_iconst X35 hx (hb hby at_76) (v := 0) (by decide) (pc' := 77) rfl ?_
          exact J56 _ (by first | exact Or.inl ⟨by omega, rfl⟩ | exact Or.inr ⟨by omega, rfl⟩)
        · refine g_iconst X35 hx (hb hby at_72) (v := 1) (by decide) (pc' := 73) rfl ?_
          refine g_goto X35 hx (hb hby at_73) (by decide) (pc' := 77) (by decide) ?_
          exact J56 _ (by first | exact Or.inl ⟨by omega, rfl⟩ | exact Or.inr ⟨by omega, rfl⟩)
      refine g_i0_eq X0 hx (a := (p2 &&& (4 : Int32)).toInt) rfl (hb hby at_40) (by decide) (pc' := 47) (by decide) (pc2 := 43) rfl (fun c69 => ?_) (fun c69 => ?_)
      · refine g_iconst X0 hx (hb hby at_47) (v := 0) (by decide) (pc' := 48) rfl ?_
        exact J3 _ (by decide)
      · refine g_iconst X0 hx (hb hby at_43) (v := 1) (by decide) (pc' := 44) rfl ?_
        refine g_goto X0 hx (hb hby at_44) (by decide) (pc' := 48) (by decide) ?_
        exact J3 _ (by decide)
    · refine g_new X0 hx hZ hown (hw _ (List.mem_of_getElem? (i := 0) rfl)) (hw _ (List.mem_of_getElem? (i := 1) rfl)) (hw _ (List.mem_of_getElem? (i := 2) rfl)) e0 (hb hby at_19) (by decide) (by decide) (pc' := 22) rfl (fun T70 h71 a72 g73 X74 e75 E76 l77 A78 D79 => ?_)
      have Z80 : n0 ≤ h71.size := Nat.le_trans Z0 E76.1
      have nl81 : n0 ≤ a72 := by rw [g73]; exact Z0
      have F82 := O0.ext E76
      have F83 : Fld Z h71 a72 "com/example/coextent/coextent/reasoner/CompletionGraph$Slot" "holder" "I" (.int (0 : Int32)) := D79 (Or.inr (hw _ (List.mem_of_getElem? (i := 15) rfl))) (ty := .int) (by decide)
      have F84 : Fld Z h71 a72 "com/example/coextent/coextent/reasoner/CompletionGraph$Slot" "atMost" "I" (.int (0 : Int32)) := D79 (Or.inr (hw _ (List.mem_of_getElem? (i := 17) rfl))) (ty := .int) (by decide)
      have F85 : Fld Z h71 a72 "com/example/coextent/coextent/reasoner/CompletionGraph$Slot" "place" "I" (.int (0 : Int32)) := D79 (Or.inr (hw _ (List.mem_of_getElem? (i := 19) rfl))) (ty := .int) (by decide)
      refine g_dup X74 hx (hb hby at_22) rfl (pc' := 23) rfl ?_
      refine g_iloadN X74 hx (hb hby at_23) (v := p3) rfl (pc' := 24) rfl ?_
      refine g_iload X74 hx (hb hby at_24) (v := p4) rfl (pc' := 26) rfl ?_
      refine g_iload X74 hx (hb hby at_26) (v := p5) rfl (pc' := 28) rfl ?_
      refine g_special X74 hx hZ rfl hown (hw _ (List.mem_of_getElem? (i := 3) rfl)) (hw _ (List.mem_of_getElem? (i := 4) rfl)) (hw _ (List.mem_of_getElem? (i := 2) rfl)) (hw _ (List.mem_of_getElem? (i := 5) rfl)) (by decide) (a := a72) (argsL := [(.int p3), (.int p4), (.int p5)]) (rm2 l Z a0 hw a72 p3 p4 p5 h71 n0 Z80 F83 F84 F85 A78 nl81) rfl e75 (by rw [hml]; rfl) pd_1 rfl (rest := [(.ref a72)]) rfl (W := 1) (Nat.le_of_eq rfl) (by decide) (by decide) (by decide) (by decide) N0 (hb hby at_28) (pc' := 31) rfl (fun v86 T87 L88 X89 N90 q91 => ?_)
      obtain ⟨rfl, K92, F93⟩ := q91
      have Z94 : n0 ≤ T87.heap.size := Nat.le_trans Z80 K92.1
      have F95 := F82.keep K92 (allS nl81 all0)
      show Goes p e s below (Q0 Z p0 p1 p2 p3 p4 p5 sv h0 n0) n0 room_1.cells room_1.slots T87 (mkF m 31 #[.val (.int p0), .val (.int p1), .val (.int p2), .val (.int p3), .val (.int p4), .val (.int p5), .val (.int pp), .unset, .unset, .unset, .unset] [(.ref a72)])
      refine g_goto X89 hx (hb hby at_31) (by decide) (pc' := 35) (by decide) ?_
      refine g_astore X89 hx (hb hby at_35) rfl (Ls' := #[.val (.int p0), .val (.int p1), .val (.int p2), .val (.int p3), .val (.int p4), .val (.int p5), .val (.int pp), .val (.ref a72), .unset, .unset, .unset]) rfl (pc' := 37) rfl ?_
      refine g_iloadN X89 hx (hb hby at_37) (v := p2) rfl (pc' := 38) rfl ?_
      refine g_iconst X89 hx (hb hby at_38) (v := 4) (by decide) (pc' := 39) rfl ?_
      refine g_iand X89 hx (hb hby at_39) (pc' := 40) rfl ?_
      have J99 : ∀ (dt : Int32), dt = 0 ∨ dt = 1 → Goes p e s below (Q0 Z p0 p1 p2 p3 p4 p5 sv h0 n0) n0 room_1.cells room_1.slots T87 (mkF m 48 #[.val (.int p0), .val (.int p1), .val (.int p2), .val (.int p3), .val (.int p4), .val (.int p5), .val (.int pp), .val (.ref a72), .unset, .unset, .unset] [(.int dt)]) := by
        intro dt j100
        refine g_istore X89 hx (hb hby at_48) (Ls' := #[.val (.int p0), .val (.int p1), .val (.int p2), .val (.int p3), .val (.int p4), .val (.int p5), .val (.int pp), .val (.ref a72), .val (.int dt), .unset, .unset]) rfl (pc' := 50) rfl ?_
        refine g_new X89 hx hZ hown (hw _ (List.mem_of_getElem? (i := 20) rfl)) (hw _ (List.mem_of_getElem? (i := 21) rfl)) (hw _ (List.mem_of_getElem? (i := 22) rfl)) rfl (hb hby at_50) (by decide) (by decide) (pc' := 53) rfl (fun T101 h102 a103 g104 X105 e106 E107 l108 A109 D110 => ?_)
        have Z111 : n0 ≤ h102.size := Nat.le_trans Z94 E107.1
        have nl112 : n0 ≤ a103 := by rw [g104]; exact Z94
        have F113 := F95.ext E107
        have F114 : Fld Z h102 a103 "com/example/coextent/coextent/reasoner/CompletionGraph$Node" "label" "Ljava/util/Map;" .null := D110 (Or.inr (hw _ (List.mem_of_getElem? (i := 44) rfl))) (ty := (.object "java/util/Map")) (by decide)
        have F115 : Fld Z h102 a103 "com/example/coextent/coextent/reasoner/CompletionGraph$Node" "disjunctions" "Ljava/util/List;" .null := D110 (Or.inr (hw _ (List.mem_of_getElem? (i := 70) rfl))) (ty := (.object "java/util/List")) (by decide)
        have F116 : Fld Z h102 a103 "com/example/coextent/coextent/reasoner/CompletionGraph$Node" "somes" "Ljava/util/List;" .null := D110 (Or.inr (hw _ (List.mem_of_getElem? (i := 72) rfl))) (ty := (.object "java/util/List")) (by decide)
        have F117 : Fld Z h102 a103 "com/example/coextent/coextent/reasoner/CompletionGraph$Node" "alls" "Ljava/util/List;" .null := D110 (Or.inr (hw _ (List.mem_of_getElem? (i := 74) rfl))) (ty := (.object "java/util/List")) (by decide)
        have F118 : Fld Z h102 a103 "com/example/coextent/coextent/reasoner/CompletionGraph$Node" "atLeasts" "Ljava/util/List;" .null := D110 (Or.inr (hw _ (List.mem_of_getElem? (i := 76) rfl))) (ty := (.object "java/util/List")) (by decide)
        have F119 : Fld Z h102 a103 "com/example/coextent/coextent/reasoner/CompletionGraph$Node" "atMosts" "Ljava/util/List;" .null := D110 (Or.inr (hw _ (List.mem_of_getElem? (i := 78) rfl))) (ty := (.object "java/util/List")) (by decide)
        have F120 : Fld Z h102 a103 "com/example/coextent/coextent/reasoner/CompletionGraph$Node" "edges" "Ljava/util/List;" .null := D110 (Or.inr (hw _ (List.mem_of_getElem? (i := 80) rfl))) (ty := (.object "java/util/List")) (by decide)
        have F121 : Fld Z h102 a103 "com/example/coextent/coextent/reasoner/CompletionGraph$Node" "different" "Ljava/util/Map;" .null := D110 (Or.inr (hw _ (List.mem_of_getElem? (i := 82) rfl))) (ty := (.object "java/util/Map")) (by decide)
        have F122 : Fld Z h102 a103 "com/example/coextent/coextent/reasoner/CompletionGraph$Node" "generated" "Ljava/util/Set;" .null := D110 (Or.inr (hw _ (List.mem_of_getElem? (i := 103) rfl))) (ty := (.object "java/util/Set")) (by decide)
        have F123 : Fld Z h102 a103 "com/example/coextent/coextent/reasoner/CompletionGraph$Node" "mergedInto" "I" (.int (0 : Int32)) := D110 (Or.inl (hw _ (List.mem_of_getElem? (i := 105) rfl))) (ty := .int) (by decide)
        have F124 : Fld Z h102 a103 "com/example/coextent/coextent/reasoner/CompletionGraph$Node" "parent" "I" (.int (0 : Int32)) := D110 (Or.inr (hw _ (List.mem_of_getElem? (i := 107) rfl))) (ty := .int) (by decide)
        have F125 : Fld Z h102 a103 "com/example/coextent/coextent/reasoner/CompletionGraph$Node" "individual" "I" (.int (0 : Int32)) := D110 (Or.inr (hw _ (List.mem_of_getElem? (i := 109) rfl))) (ty := .int) (by decide)
        have F126 : Fld Z h102 a103 "com/example/coextent/coextent/reasoner/CompletionGraph$Node" "slot" "Lcom/example/coextent/coextent/reasoner/CompletionGraph$Slot;" .null := D110 (Or.inr (hw _ (List.mem_of_getElem? (i := 111) rfl))) (ty := (.object "com/example/coextent/coextent/reasoner/CompletionGraph$Slot")) (by decide)
        have F127 : Fld Z h102 a103 "com/example/coextent/coextent/reasoner/CompletionGraph$Node" "data" "Z" (.int (0 : Int32)) := D110 (Or.inr (hw _ (List.mem_of_getElem? (i := 113) rfl))) (ty := .boolean) (by decide)
        refine g_dup X105 hx (hb hby at_53) rfl (pc' := 54) rfl ?_
        refine g_iload X105 hx (hb hby at_54) (v := pp) rfl (pc' := 56) rfl ?_
        refine g_iloadN X105 hx (hb hby at_56) (v := p1) rfl (pc' := 57) rfl ?_
        refine g_aload X105 hx (hb hby at_57) (v := (.ref a72)) rfl rfl (pc' := 59) rfl ?_
        refine g_iload X105 hx (hb hby at_59) (v := dt) rfl (pc' := 61) rfl ?_
        refine g_special X105 hx hZ rfl hown (hw _ (List.mem_of_getElem? (i := 23) rfl)) (hw _ (List.mem_of_getElem? (i := 24) rfl)) (hw _ (List.mem_of_getElem? (i := 22) rfl)) (hw _ (List.mem_of_getElem? (i := 25) rfl)) (by decide) (a := a103) (argsL := [(.int pp), (.int p1), (.ref a72), (.int dt)]) (rm10 l Z a0 hw a103 pp p1 (.ref a72) dt sv h102 n0 Z111 F114 F115 F116 F117 F118 F119 F120 F121 F122 F123 F124 F125 F126 F127 A109 F113 S0 r0 rfl j100 nl112) rfl e106 (by rw [hml]; rfl) pd_2 rfl (rest := [(.ref a103)]) rfl (W := 1) (Nat.le_of_eq rfl) (by decide) (by decide) (by decide) (by decide) N90 (hb hby at_61) (pc' := 64) rfl (fun v128 T129 L130 X131 N132 q133 => ?_)
        obtain ⟨rfl, K134, F135, F136⟩ := q133
        have Z137 : n0 ≤ T129.heap.size := Nat.le_trans Z111 K134.1
        have F138 := F113.keep K134 (allS nl112 all0)
        show Goes p e s below (Q0 Z p0 p1 p2 p3 p4 p5 sv h0 n0) n0 room_1.cells room_1.slots T129 (mkF m 64 #[.val (.int p0), .val (.int p1), .val (.int p2), .val (.int p3), .val (.int p4), .val (.int p5), .val (.int pp), .val (.ref a72), .val (.int dt), .unset, .unset] [(.ref a103)])
        refine g_astore X131 hx (hb hby at_64) rfl (Ls' := #[.val (.int p0), .val (.int p1), .val (.int p2), .val (.int p3), .val (.int p4), .val (.int p5), .val (.int pp), .val (.ref a72), .val (.int dt), .val (.ref a103), .unset]) rfl (pc' := 66) rfl ?_
        refine g_iload X131 hx (hb hby at_66) (v := pp) rfl (pc' := 68) rfl ?_
        refine g_iconst X131 hx (hb hby at_68) (v := -1) (by decide) (pc' := 69) rfl ?_
        have J152 : ∀ (ex : Int32), (pp.toInt = -1 ∧ ex.toInt = 1 ∨ ¬ pp.toInt = -1 ∧ ex.toInt = 0) → Goes p e s below (Q0 Z p0 p1 p2 p3 p4 p5 sv h0 n0) n0 room_1.cells room_1.slots T129 (mkF m 77 #[.val (.int p0), .val (.int p1), .val (.int p2), .val (.int p3), .val (.int p4), .val (.int p5), .val (.int pp), .val (.ref a72), .val (.int dt), .val (.ref a103), .unset] [(.int ex)]) := by
          intro ex j153
          refine g_istore X131 hx (hb hby at_77) (Ls' := #[.val (.int p0), .val (.int p1), .val (.int p2), .val (.int p3), .val (.int p4), .val (.int p5), .val (.int pp), .val (.ref a72), .val (.int dt), .val (.ref a103), .val (.int ex)]) rfl (pc' := 79) rfl ?_
          refine g_aload X131 hx (hb hby at_79) (v := (.ref a103)) rfl rfl (pc' := 81) rfl ?_
          refine g_virtual X131 hx hZ hown (hw _ (List.mem_of_getElem? (i := 114) rfl)) (hw _ (List.mem_of_getElem? (i := 115) rfl)) (hw _ (List.mem_of_getElem? (i := 117) rfl)) (hw _ (List.mem_of_getElem? (i := 116) rfl)) (hw _ (List.mem_of_getElem? (i := 22) rfl)) (hw _ (List.mem_of_getElem? (i := 118) rfl)) (by decide) (a := a103) (argsL := []) (rm11 l Z a0 hw a103 pp T129.heap n0 Z137 F136) rfl rfl F135 (by rw [hml]; rfl) pd_3 rfl (rest := []) rfl (W := 0) (Nat.le_of_eq rfl) (by decide) (by decide) (by decide) (by decide) N132 (hb hby at_81) (pc' := 84) rfl (fun v154 T155 L156 X157 N158 q159 => ?_)
          obtain ⟨b160, rfl, f161, K162⟩ := q159
          show Goes p e s below (Q0 Z p0 p1 p2 p3 p4 p5 sv h0 n0) n0 room_1.cells room_1.slots T155 (mkF m 84 #[.val (.int p0), .val (.int p1), .val (.int p2), .val (.int p3), .val (.int p4), .val (.int p5), .val (.int pp), .val (.ref a72), .val (.int dt), .val (.ref a103), .val (.int ex)] [(.int b160)])
          refine g_iload X157 hx (hb hby at_84) (v := ex) rfl (pc' := 86) rfl ?_
          refine g_ii_ne X157 hx (a := b160.toInt) (b := ex.toInt) rfl rfl (hb hby at_86) (by decide) (pc' := 93) (by decide) (pc2 := 89) rfl (fun c163 => False.elim (by omega)) (fun c163 => ?_)
          refine g_iconst X157 hx (hb hby at_89) (v := 1) (by decide) (pc' := 90) rfl ?_
          refine g_goto X157 hx (hb hby at_90) (by decide) (pc' := 94) (by decide) ?_
          refine g_retZ X157 hx hlk (by decide) hret (hb hby at_94) N158 (by decide) (by decide) ?_
          exact rfl
        refine g_ii_ne X131 hx (a := pp.toInt) (b := (-1)) rfl rfl (hb hby at_69) (by decide) (pc' := 76) (by decide) (pc2 := 72) rfl (fun c164 => ?_) (fun c164 => ?_)
        · refine g_iconst X131 hx (hb hby at_76) (v := 0) (by decide) (pc' := 77) rfl ?_
          exact J152 _ (by first | exact Or.inl ⟨by omega, rfl⟩ | exact Or.inr ⟨by omega, rfl⟩)
        · refine g_iconst X131 hx (hb hby at_72) (v := 1) (by decide) (pc' := 73) rfl ?_
          refine g_goto X131 hx (hb hby at_73) (by decide) (pc' := 77) (by decide) ?_
          exact J152 _ (by first | exact Or.inl ⟨by omega, rfl⟩ | exact Or.inr ⟨by omega, rfl⟩)
      refine g_i0_eq X89 hx (a := (p2 &&& (4 : Int32)).toInt) rfl (hb hby at_40) (by decide) (pc' := 47) (by decide) (pc2 := 43) rfl (fun c165 => ?_) (fun c165 => ?_)
      · refine g_iconst X89 hx (hb hby at_47) (v := 0) (by decide) (pc' := 48) rfl ?_
        exact J99 _ (by decide)
      · refine g_iconst X89 hx (hb hby at_43) (v := 1) (by decide) (pc' := 44) rfl ?_
        refine g_goto X89 hx (hb hby at_44) (by decide) (pc' := 48) (by decide) ?_
        exact J99 _ (by decide)
  refine g_i0_eq X0 hx (a := (p2 &&& (1 : Int32)).toInt) rfl (hb hby at_3) (by decide) (pc' := 10) (by decide) (pc2 := 6) rfl (fun c166 => ?_) (fun c166 => ?_)
  · refine g_iloadN X0 hx (hb hby at_10) (v := p0) rfl (pc' := 11) rfl ?_
    exact J1 _
  · refine g_iconst X0 hx (hb hby at_6) (v := -1) (by decide) (pc' := 7) rfl ?_
    refine g_goto X0 hx (hb hby at_7) (by decide) (pc' := 11) (by decide) ?_
    exact J1 _
set_option maxRecDepth 65536 in
set_option maxHeartbeats 40000000 in
theorem comes_1 {Post : Tables → Env → Array Value → State → Outcome → State → Prop} (hpost : ∀ tb e args s v u, (limb_1_1.after args s (.returned v) u = true ∧ limb_1_2.after args s (.returned v) u = true ∧ True) → FrameEnd s (.returned v) u (Jvm.fieldLocs frame_1_writes args s ++ Jvm.arrayLocs frame_1_arrays args s ++ Jvm.staticLocs frame_1_statics s) 32 192 → Post tb e args s (.returned v) u) :
    ArmFor flags0 classFile x code maxLocals ret World_1 tables_1 room_1 Calls_1 rest_1 Pre_1 Post := by
  intro l hfl _ _ p e ha hc hk s m args below hf hA hF happ hP
  obtain ⟨hcalls, hrest, hpre⟩ := hP
  obtain ⟨-, -, -, hnamed, -, -, -, hat⟩ := (Spec.applies_iff hf).mp happ
  obtain ⟨hg, hn⟩ := and_e (Cond.before_iff.mp (show (Jvm.Cond.and given_1 narrow_1).before args s = true from hpre))
  obtain ⟨hcount, k0⟩ := and_e hg
  obtain ⟨g0, k1⟩ := and_e k0
  obtain ⟨g1, k2⟩ := and_e k1
  obtain ⟨g2, k3⟩ := and_e k2
  obtain ⟨g3, k4⟩ := and_e k3
  obtain ⟨g4, k5⟩ := and_e k4
  have g5 := k5
  obtain ⟨w0, w1, w2, w3, w4, w5, rfl⟩ : ∃ w0 w1 w2 w3 w4 w5 : Value, args = #[w0, w1, w2, w3, w4, w5] := by
    have hs : args.size = 6 := by simpa [Cond.value, given_1] using hcount
    obtain ⟨L⟩ := args
    match L, hs with
    | [w0, w1, w2, w3, w4, w5], _ => exact ⟨w0, w1, w2, w3, w4, w5, rfl⟩
  have hw := fun d (hd : d ∈ tables_1) => atoms_spec (ws := Jvm.Cond.code x code maxLocals ret :: tables_1) hat d (List.mem_cons_of_mem _ hd)
  obtain ⟨hsets, hown0⟩ := atoms_of _ (rest_1_c_eq ▸ (show rest_1_c.before _ s = true from hrest))
  have hfit : Fit s := fun {y c} hc i hi => by
    obtain ⟨ha, rfl⟩ := Array.getElem?_eq_some_iff.mp hc
    have q := List.all_eq_true.mp ((Array.all_eq_true_iff_forall_mem.mp hF) _ (Array.getElem_mem ha)) i (List.mem_range.mpr hi)
    simpa [Array.getElem?_eq_getElem hi] using q
  have hlay := hsets _ (List.mem_of_getElem? (i := 2) rfl)
  obtain ⟨sv, esv, fsv⟩ := static_fit hfit hlay (ty := .array (.object "java/lang/Object")) (by decide)
  have S0 := Sta.start esv (Or.inr ⟨hw _ (List.mem_of_getElem? (i := 47) rfl), hlay⟩)
  have r0 := fit_R fsv rfl
  obtain ⟨i0, z0⟩ := is_v g0
  obtain rfl : w0 = (.int i0) := Option.some.inj z0
  obtain ⟨i1, z1⟩ := is_v g1
  obtain rfl : w1 = (.int i1) := Option.some.inj z1
  obtain ⟨i2, z2⟩ := is_v g2
  obtain rfl : w2 = (.int i2) := Option.some.inj z2
  obtain ⟨i3, z3⟩ := is_v g3
  obtain rfl : w3 = (.int i3) := Option.some.inj z3
  obtain ⟨i4, z4⟩ := is_v g4
  obtain rfl : w4 = (.int i4) := Option.some.inj z4
  obtain ⟨i5, z5⟩ := is_v g5
  obtain rfl : w5 = (.int i5) := Option.some.inj z5
  obtain ⟨n, o, h1, h2, h3, _, L, rfl, ⟨N, rfl⟩, hq⟩ := rm0 l s _ hw tables_1 i0 i1 i2 i3 i4 i5 sv s.heap s.heap.size (Nat.le_refl _) S0 r0 (Old.start s) p e ha hc hk s m _ below hf ((Spec.applies_iff_loose hf).mp happ).1 ⟨rfl, State.Warmed39.refl s, rfl⟩ trivial
  exact ⟨n, _, h1, h2, h3, hpost _ _ _ _ _ _ ⟨Cond.after_iff.mpr rfl, Cond.after_iff.mpr (eq_i res_at (Term.int_eval (1)) rfl), trivial⟩ ⟨hq.1, hq.2.1, (hq.2.2.sift fun y hy => Or.inr (N y hy)).mono (by decide) (by decide)⟩⟩
theorem main_1_1 : Claimed_1_1 := comes_1 fun _ _ _ _ _ _ h hF => ⟨h.1, hF⟩
theorem main_1_2 : Claimed_1_2 := comes_1 fun _ _ _ _ _ _ h hF => ⟨h.2.1, hF⟩
end Jvm.Pilot.@@N@@
namespace Jvm.Pilot.@@N@@
open Jvm Jvm.ClassFile Sem Op Lib Jvm.Free Jvm.Stand Jvm.Pilot.@@N@@.Jvm.D
/-! MADE BY PROGRAM (witnessworld.py) out of the Statement's table words and the real class files: 26 classes; the members and pool entries that the words name. The judged class is class 1, her method 1. -/
namespace start1
open Jvm.ClassFile
def u (s : String) : CpInfo := .utf8 (stringToUtf16 s)
/-- a pool by its gaps: so many unusable entries, then the entry; so many at the end -/
def gap : Nat → List CpInfo → List CpInfo
  | 0, r => r
  | n + 1, r => .unusable :: gap n r
def poolList (es : List (Nat × CpInfo)) (last : Nat) : List CpInfo := es.foldr (fun e r => gap e.1 (e.2 :: r)) (gap last [])
def pool (es : List (Nat × CpInfo)) (last : Nat) : Array CpInfo := ⟨poolList es last⟩
def fileOf (pool : Array CpInfo) (this : Nat) (attrs : Array Attribute := #[]) (ms : Array MethodInfo := #[]) (fl : Nat := 33) (sup : Nat := 0) (ifs : Array Nat := #[]) (fds : Array FieldInfo := #[]) : ClassFile where
  minorVersion := 0
  majorVersion := 65
  constantPool := pool
  accessFlags := fl
  thisClass := this
  superClass := sup
  interfaces := ifs
  fields := fds
  methods := ms
  attributes := attrs
def plain (name : String) (sup : Option ClassId) : Class where
  name := name
  kind := .ordinary
  loader := none
  accessFlags := 33
  super := sup
  interfaces := #[]
  cf := none
  fields := #[]
  methods := #[]
  instanceTypes := #[]
  staticTypes := #[]
  resolved := #[]
  callSites := []
  init := .initialized
  statics := none
  mirror := none

def pool0 : Array CpInfo := pool [(5, u "<init>"), (0, u "()V"), (1, .class_ 10), (1, u "java/lang/Object")] 113

def k0c0 : Code := { maxStack := 0, maxLocals := 1, code := object_method_1_code, exceptionTable := #[], attributes := #[] }
def k0m0 : Method := { name := "<init>", desc := "()V", sig := { parameters := [], returnType := none }, accessFlags := 1, code := some k0c0 }
/-- java/lang/Object -/
def k0 : Class := { plain "java/lang/Object" none with
  accessFlags := 33
  interfaces := #[]
  cf := some (fileOf pool0 8 #[] #[{ accessFlags := 1, nameIndex := 5, descriptorIndex := 6, attributes := #[] }] 33 0 #[] #[])
  fields := #[]
  methods := #[k0m0]
  instanceTypes := #[]
  staticTypes := #[]
  resolved := Array.replicate 124 none
  statics := none }

def pool1 : Array CpInfo := pool [(2, .class_ 4), (1, u "java/lang/Object"), (0, u "<init>"), (0, u "()V"), (0, .class_ 8), (0, u "com/example/coextent/coextent/reasoner/CompletionGraph$Slot"), (0, .methodref 7 10), (0, .nameAndType 5 11), (0, u "(III)V"), (0, .class_ 13), (0, u "com/example/coextent/coextent/reasoner/CompletionGraph$Node"), (0, .methodref 12 15), (0, .nameAndType 5 16), (0, u "(IILcom/example/coextent/coextent/reasoner/CompletionGraph$Slot;Z)V"), (0, .methodref 12 18), (0, .nameAndType 19 20), (0, u "isRoot"), (0, u "()Z"), (0, .class_ 22), (0, u "com/example/coextent/coextent/reasoner/NodeIsRootPinLaw"), (2, u "law"), (0, u "(IIIIII)Z")] 8

def k1m0 : Method := { name := "<init>", desc := "()V", sig := { parameters := [], returnType := none }, accessFlags := 1, code := none }
def k1c1 : Code := { maxStack := 6, maxLocals := 11, code := code, exceptionTable := #[], attributes := #[] }
def k1m1 : Method := { name := "law", desc := "(IIIIII)Z", sig := { parameters := [.int, .int, .int, .int, .int, .int], returnType := some .boolean }, accessFlags := 9, code := some k1c1 }
/-- com/example/coextent/coextent/reasoner/NodeIsRootPinLaw -/
def k1 : Class := { plain "com/example/coextent/coextent/reasoner/NodeIsRootPinLaw" (some 0) with
  accessFlags := 49
  interfaces := #[]
  cf := some (fileOf pool1 21 #[] #[{ accessFlags := 1, nameIndex := 5, descriptorIndex := 6, attributes := #[] }, { accessFlags := 9, nameIndex := 25, descriptorIndex := 26, attributes := #[] }] 49 2 #[] #[])
  fields := #[]
  methods := #[k1m0, k1m1]
  instanceTypes := #[]
  staticTypes := #[]
  resolved := Array.replicate 35 none
  statics := none }

def pool2 : Array CpInfo := pool [(1, .methodref 2 3), (0, .class_ 4), (0, .nameAndType 5 6), (0, u "java/lang/Object"), (0, u "<init>"), (0, u "()V"), (0, .class_ 8), (0, u "java/lang/Record")] 13

def k2c0 : Code := { maxStack := 1, maxLocals := 1, code := jdk_30_method_1_code, exceptionTable := #[], attributes := #[] }
def k2m0 : Method := { name := "<init>", desc := "()V", sig := { parameters := [], returnType := none }, accessFlags := 4, code := some k2c0 }
/-- java/lang/Record -/
def k2 : Class := { plain "java/lang/Record" (some 0) with
  accessFlags := 1057
  interfaces := #[]
  cf := some (fileOf pool2 7 #[] #[{ accessFlags := 4, nameIndex := 5, descriptorIndex := 6, attributes := #[] }] 1057 2 #[] #[])
  fields := #[]
  methods := #[k2m0]
  instanceTypes := #[]
  staticTypes := #[]
  resolved := Array.replicate 22 none
  statics := none }

def pool3 : Array CpInfo := pool [(1, .methodref 2 3), (0, .class_ 4), (0, .nameAndType 5 6), (0, u "java/lang/Record"), (0, u "<init>"), (0, u "()V"), (0, .fieldref 8 9), (0, .class_ 10), (0, .nameAndType 11 12), (0, u "com/example/coextent/coextent/reasoner/CompletionGraph$Slot"), (0, u "holder"), (0, u "I"), (0, .fieldref 8 14), (0, .nameAndType 15 12), (0, u "atMost"), (0, .fieldref 8 17), (0, .nameAndType 18 12), (0, u "place"), (12, u "(III)V"), (9, .class_ 42), (0, u "com/example/coextent/coextent/reasoner/CompletionGraph")] 21

def k3c0 : Code := { maxStack := 2, maxLocals := 4, code := prog_93_method_1_code, exceptionTable := #[], attributes := #[] }
def k3m0 : Method := { name := "<init>", desc := "(III)V", sig := { parameters := [.int, .int, .int], returnType := none }, accessFlags := 0, code := some k3c0 }
/-- com/example/coextent/coextent/reasoner/CompletionGraph$Slot -/
def k3 : Class := { plain "com/example/coextent/coextent/reasoner/CompletionGraph$Slot" (some 2) with
  accessFlags := 48
  interfaces := #[]
  cf := some (fileOf pool3 8 #[.nestHost 41] #[{ accessFlags := 0, nameIndex := 5, descriptorIndex := 31, attributes := #[] }] 48 2 #[] #[{ accessFlags := 18, nameIndex := 11, descriptorIndex := 12, attributes := #[] }, { accessFlags := 18, nameIndex := 15, descriptorIndex := 12, attributes := #[] }, { accessFlags := 18, nameIndex := 18, descriptorIndex := 12, attributes := #[] }])
  fields := #[{ name := "holder", type := .int, accessFlags := 18, slot := 0, constantValue := 0 }, { name := "atMost", type := .int, accessFlags := 18, slot := 1, constantValue := 0 }, { name := "place", type := .int, accessFlags := 18, slot := 2, constantValue := 0 }]
  methods := #[k3m0]
  instanceTypes := #[.int, .int, .int]
  staticTypes := #[]
  resolved := Array.replicate 64 none
  statics := none }

def pool4 : Array CpInfo := pool [(1, .class_ 2), (0, u "com/example/coextent/coextent/reasoner/CompletionGraph"), (0, .methodref 4 5), (0, .class_ 6), (0, .nameAndType 7 8), (0, u "java/lang/Object"), (0, u "<init>"), (0, u "()V"), (0, .class_ 10), (0, u "java/util/HashMap"), (0, .methodref 9 5), (0, .fieldref 13 14), (0, .class_ 15), (0, .nameAndType 16 17), (0, u "com/example/coextent/coextent/reasoner/CompletionGraph$Node"), (0, u "label"), (0, u "Ljava/util/Map;"), (0, .class_ 19), (0, u "java/util/ArrayList"), (0, .methodref 18 5), (0, .fieldref 13 22), (0, .nameAndType 23 24), (0, u "disjunctions"), (0, u "Ljava/util/List;"), (0, .fieldref 13 26), (0, .nameAndType 27 24), (0, u "somes"), (0, .fieldref 13 29), (0, .nameAndType 30 24), (0, u "alls"), (0, .fieldref 13 32), (0, .nameAndType 33 24), (0, u "atLeasts"), (0, .fieldref 13 35), (0, .nameAndType 36 24), (0, u "atMosts"), (0, .fieldref 13 38), (0, .nameAndType 39 24), (0, u "edges"), (0, .fieldref 13 41), (0, .nameAndType 42 17), (0, u "different"), (0, .class_ 44), (0, u "java/util/HashSet"), (0, .methodref 43 5), (0, .fieldref 13 47), (0, .nameAndType 48 49), (0, u "generated"), (0, u "Ljava/util/Set;"), (0, .fieldref 13 51), (0, .nameAndType 52 53), (0, u "mergedInto"), (0, u "I"), (0, .fieldref 13 55), (0, .nameAndType 56 53), (0, u "parent"), (0, .fieldref 13 58), (0, .nameAndType 59 53), (0, u "individual"), (0, .fieldref 13 61), (0, .nameAndType 62 63), (0, u "slot"), (0, u "Lcom/example/coextent/coextent/reasoner/CompletionGraph$Slot;"), (0, .fieldref 13 65), (0, .nameAndType 66 67), (0, u "data"), (0, u "Z"), (3, u "met"), (2, u "signature"), (0, u "J"), (0, u "removed"), (0, u "mergedBecause"), (0, u "Lcom/example/coextent/coextent/reasoner/DependencySet;"), (0, u "(IILcom/example/coextent/coextent/reasoner/CompletionGraph$Slot;Z)V"), (2, u "isRoot"), (0, u "()Z")] 12

def k4c0 : Code := { maxStack := 3, maxLocals := 5, code := prog_91_method_1_code, exceptionTable := #[], attributes := #[] }
def k4m0 : Method := { name := "<init>", desc := "(IILcom/example/coextent/coextent/reasoner/CompletionGraph$Slot;Z)V", sig := { parameters := [.int, .int, (.object "com/example/coextent/coextent/reasoner/CompletionGraph$Slot"), .boolean], returnType := none }, accessFlags := 0, code := some k4c0 }
def k4c1 : Code := { maxStack := 2, maxLocals := 1, code := prog_91_method_2_code, exceptionTable := #[], attributes := #[] }
def k4m1 : Method := { name := "isRoot", desc := "()Z", sig := { parameters := [], returnType := some .boolean }, accessFlags := 0, code := some k4c1 }
/-- com/example/coextent/coextent/reasoner/CompletionGraph$Node -/
def k4 : Class := { plain "com/example/coextent/coextent/reasoner/CompletionGraph$Node" (some 0) with
  accessFlags := 48
  interfaces := #[]
  cf := some (fileOf pool4 13 #[.nestHost 1] #[{ accessFlags := 0, nameIndex := 7, descriptorIndex := 79, attributes := #[] }, { accessFlags := 0, nameIndex := 82, descriptorIndex := 83, attributes := #[] }] 48 4 #[] #[{ accessFlags := 16, nameIndex := 56, descriptorIndex := 53, attributes := #[] }, { accessFlags := 16, nameIndex := 59, descriptorIndex := 53, attributes := #[] }, { accessFlags := 16, nameIndex := 62, descriptorIndex := 63, attributes := #[] }, { accessFlags := 16, nameIndex := 66, descriptorIndex := 67, attributes := #[] }, { accessFlags := 16, nameIndex := 16, descriptorIndex := 17, attributes := #[] }, { accessFlags := 16, nameIndex := 23, descriptorIndex := 24, attributes := #[] }, { accessFlags := 2, nameIndex := 71, descriptorIndex := 53, attributes := #[] }, { accessFlags := 16, nameIndex := 27, descriptorIndex := 24, attributes := #[] }, { accessFlags := 16, nameIndex := 30, descriptorIndex := 24, attributes := #[] }, { accessFlags := 16, nameIndex := 33, descriptorIndex := 24, attributes := #[] }, { accessFlags := 16, nameIndex := 36, descriptorIndex := 24, attributes := #[] }, { accessFlags := 16, nameIndex := 39, descriptorIndex := 24, attributes := #[] }, { accessFlags := 16, nameIndex := 42, descriptorIndex := 17, attributes := #[] }, { accessFlags := 16, nameIndex := 48, descriptorIndex := 49, attributes := #[] }, { accessFlags := 0, nameIndex := 74, descriptorIndex := 75, attributes := #[] }, { accessFlags := 0, nameIndex := 76, descriptorIndex := 67, attributes := #[] }, { accessFlags := 0, nameIndex := 52, descriptorIndex := 53, attributes := #[] }, { accessFlags := 0, nameIndex := 77, descriptorIndex := 78, attributes := #[] }])
  fields := #[{ name := "parent", type := .int, accessFlags := 16, slot := 0, constantValue := 0 }, { name := "individual", type := .int, accessFlags := 16, slot := 1, constantValue := 0 }, { name := "slot", type := (.object "com/example/coextent/coextent/reasoner/CompletionGraph$Slot"), accessFlags := 16, slot := 2, constantValue := 0 }, { name := "data", type := .boolean, accessFlags := 16, slot := 3, constantValue := 0 }, { name := "label", type := (.object "java/util/Map"), accessFlags := 16, slot := 4, constantValue := 0 }, { name := "disjunctions", type := (.object "java/util/List"), accessFlags := 16, slot := 5, constantValue := 0 }, { name := "met", type := .int, accessFlags := 2, slot := 6, constantValue := 0 }, { name := "somes", type := (.object "java/util/List"), accessFlags := 16, slot := 7, constantValue := 0 }, { name := "alls", type := (.object "java/util/List"), accessFlags := 16, slot := 8, constantValue := 0 }, { name := "atLeasts", type := (.object "java/util/List"), accessFlags := 16, slot := 9, constantValue := 0 }, { name := "atMosts", type := (.object "java/util/List"), accessFlags := 16, slot := 10, constantValue := 0 }, { name := "edges", type := (.object "java/util/List"), accessFlags := 16, slot := 11, constantValue := 0 }, { name := "different", type := (.object "java/util/Map"), accessFlags := 16, slot := 12, constantValue := 0 }, { name := "generated", type := (.object "java/util/Set"), accessFlags := 16, slot := 13, constantValue := 0 }, { name := "signature", type := .long, accessFlags := 0, slot := 14, constantValue := 0 }, { name := "removed", type := .boolean, accessFlags := 0, slot := 15, constantValue := 0 }, { name := "mergedInto", type := .int, accessFlags := 0, slot := 16, constantValue := 0 }, { name := "mergedBecause", type := (.object "com/example/coextent/coextent/reasoner/DependencySet"), accessFlags := 0, slot := 17, constantValue := 0 }]
  methods := #[k4m0, k4m1]
  instanceTypes := #[.int, .int, (.object "com/example/coextent/coextent/reasoner/CompletionGraph$Slot"), .boolean, (.object "java/util/Map"), (.object "java/util/List"), .int, (.object "java/util/List"), (.object "java/util/List"), (.object "java/util/List"), (.object "java/util/List"), (.object "java/util/List"), (.object "java/util/Map"), (.object "java/util/Set"), .long, .boolean, .int, (.object "com/example/coextent/coextent/reasoner/DependencySet")]
  staticTypes := #[]
  resolved := Array.replicate 96 none
  statics := none }

def pool5 : Array CpInfo := pool [(2, .class_ 4), (1, u "java/util/Map"), (31, .class_ 37), (0, u "java/util/Map$Entry"), (55, .class_ 94), (0, u "java/lang/Object")] 168

/-- java/util/Map -/
def k5 : Class := { plain "java/util/Map" (some 0) with
  accessFlags := 1537
  interfaces := #[]
  cf := some (fileOf pool5 2 #[.nestMembers #[36]] #[] 1537 93 #[] #[])
  fields := #[]
  methods := #[]
  instanceTypes := #[]
  staticTypes := #[]
  resolved := Array.replicate 263 none
  statics := none }

def pool6 : Array CpInfo := pool [(1, .methodref 2 3), (0, .class_ 4), (0, .nameAndType 5 6), (0, u "java/lang/Object"), (0, u "<init>"), (0, u "()V"), (1, .class_ 10), (1, u "java/util/AbstractMap"), (42, .class_ 54), (0, u "java/util/Map"), (9, u "keySet"), (0, u "Ljava/util/Set;"), (0, .class_ 67), (0, u "java/util/AbstractMap$1"), (5, u "values"), (0, u "Ljava/util/Collection;"), (0, .class_ 76), (0, u "java/util/AbstractMap$2"), (104, .class_ 182), (0, u "java/util/AbstractMap$ViewCollection"), (0, .class_ 184), (0, u "java/util/AbstractMap$SimpleImmutableEntry"), (0, .class_ 186), (0, u "java/util/AbstractMap$SimpleEntry"), (0, .class_ 188), (0, u "java/util/AbstractMap$2$1"), (0, .class_ 190), (0, u "java/util/AbstractMap$1$1")] 5

def k6c0 : Code := { maxStack := 1, maxLocals := 1, code := jdk_71_method_1_code, exceptionTable := #[], attributes := #[] }
def k6m0 : Method := { name := "<init>", desc := "()V", sig := { parameters := [], returnType := none }, accessFlags := 4, code := some k6c0 }
/-- java/util/AbstractMap -/
def k6 : Class := { plain "java/util/AbstractMap" (some 0) with
  accessFlags := 1057
  interfaces := #[5]
  cf := some (fileOf pool6 8 #[.nestMembers #[181, 183, 185, 75, 187, 66, 189]] #[{ accessFlags := 4, nameIndex := 5, descriptorIndex := 6, attributes := #[] }] 1057 2 #[53] #[{ accessFlags := 128, nameIndex := 64, descriptorIndex := 65, attributes := #[] }, { accessFlags := 128, nameIndex := 73, descriptorIndex := 74, attributes := #[] }])
  fields := #[{ name := "keySet", type := (.object "java/util/Set"), accessFlags := 128, slot := 0, constantValue := 0 }, { name := "values", type := (.object "java/util/Collection"), accessFlags := 128, slot := 1, constantValue := 0 }]
  methods := #[k6m0]
  instanceTypes := #[(.object "java/util/Set"), (.object "java/util/Collection")]
  staticTypes := #[]
  resolved := Array.replicate 196 none
  statics := none }

def pool7 : Array CpInfo := pool [(1, .class_ 2), (0, u "java/lang/Cloneable"), (0, .class_ 4), (0, u "java/lang/Object")] 2

/-- java/lang/Cloneable -/
def k7 : Class := { plain "java/lang/Cloneable" (some 0) with
  accessFlags := 1537
  interfaces := #[]
  cf := some (fileOf pool7 1 #[] #[] 1537 3 #[] #[])
  fields := #[]
  methods := #[]
  instanceTypes := #[]
  staticTypes := #[]
  resolved := Array.replicate 7 none
  statics := none }

def pool8 : Array CpInfo := pool [(1, .class_ 2), (0, u "java/io/Serializable"), (0, .class_ 4), (0, u "java/lang/Object")] 2

/-- java/io/Serializable -/
def k8 : Class := { plain "java/io/Serializable" (some 0) with
  accessFlags := 1537
  interfaces := #[]
  cf := some (fileOf pool8 1 #[] #[] 1537 3 #[] #[])
  fields := #[]
  methods := #[]
  instanceTypes := #[]
  staticTypes := #[]
  resolved := Array.replicate 7 none
  statics := none }

def pool9 : Array CpInfo := pool [(40, .class_ 41), (0, u "java/util/HashMap"), (1, .methodref 44 45), (0, .class_ 46), (0, .nameAndType 47 48), (0, u "java/util/AbstractMap"), (0, u "<init>"), (0, u "()V"), (32, .fieldref 40 82), (0, .nameAndType 83 84), (0, u "loadFactor"), (0, u "F"), (5, u "threshold"), (0, u "I"), (0, .float 1061158912), (8, .class_ 103), (1, u "java/util/Map"), (0, u "size"), (2, u "table"), (0, u "[Ljava/util/HashMap$Node;"), (14, u "entrySet"), (39, .class_ 165), (1, u "java/util/HashMap$Node"), (14, .class_ 181), (0, u "java/util/HashMap$TreeNode"), (22, u "modCount"), (37, u "Ljava/util/Set;"), (0, .class_ 244), (0, u "java/util/HashMap$KeySet"), (18, .class_ 264), (0, u "java/util/HashMap$Values"), (3, .class_ 269), (0, u "java/util/HashMap$EntrySet"), (76, .class_ 348), (1, u "java/util/HashMap$UnsafeHolder"), (43, .class_ 393), (0, u "java/lang/Cloneable"), (0, .class_ 395), (0, u "java/io/Serializable"), (0, u "serialVersionUID"), (0, u "J"), (3, u "DEFAULT_INITIAL_CAPACITY"), (1, u "MAXIMUM_CAPACITY"), (0, u "DEFAULT_LOAD_FACTOR"), (0, u "TREEIFY_THRESHOLD"), (1, u "UNTREEIFY_THRESHOLD"), (1, u "MIN_TREEIFY_CAPACITY"), (186, .class_ 597), (0, u "java/util/HashMap$EntrySpliterator"), (0, .class_ 599), (0, u "java/util/HashMap$ValueSpliterator"), (0, .class_ 601), (0, u "java/util/HashMap$KeySpliterator"), (0, .class_ 603), (0, u "java/util/HashMap$HashMapSpliterator"), (0, .class_ 605), (0, u "java/util/HashMap$EntryIterator"), (0, .class_ 607), (0, u "java/util/HashMap$ValueIterator"), (0, .class_ 609), (0, u "java/util/HashMap$KeyIterator"), (0, .class_ 611), (0, u "java/util/HashMap$HashIterator")] 17

def k9c0 : Code := { maxStack := 2, maxLocals := 1, code := jdk_69_method_7_code, exceptionTable := #[], attributes := #[] }
def k9m0 : Method := { name := "<init>", desc := "()V", sig := { parameters := [], returnType := none }, accessFlags := 1, code := some k9c0 }
/-- java/util/HashMap -/
def k9 : Class := { plain "java/util/HashMap" (some 6) with
  accessFlags := 33
  interfaces := #[5, 7, 8]
  cf := some (fileOf pool9 40 #[.nestMembers #[180, 596, 598, 600, 602, 604, 606, 608, 610, 346, 268, 263, 243, 163]] #[{ accessFlags := 1, nameIndex := 47, descriptorIndex := 48, attributes := #[] }] 33 44 #[101, 392, 394] #[{ accessFlags := 26, nameIndex := 396, descriptorIndex := 397, attributes := #[] }, { accessFlags := 24, nameIndex := 401, descriptorIndex := 91, attributes := #[] }, { accessFlags := 24, nameIndex := 403, descriptorIndex := 91, attributes := #[] }, { accessFlags := 24, nameIndex := 404, descriptorIndex := 84, attributes := #[] }, { accessFlags := 24, nameIndex := 405, descriptorIndex := 91, attributes := #[] }, { accessFlags := 24, nameIndex := 407, descriptorIndex := 91, attributes := #[] }, { accessFlags := 24, nameIndex := 409, descriptorIndex := 91, attributes := #[] }, { accessFlags := 128, nameIndex := 107, descriptorIndex := 108, attributes := #[] }, { accessFlags := 128, nameIndex := 123, descriptorIndex := 242, attributes := #[] }, { accessFlags := 128, nameIndex := 104, descriptorIndex := 91, attributes := #[] }, { accessFlags := 128, nameIndex := 204, descriptorIndex := 91, attributes := #[] }, { accessFlags := 0, nameIndex := 90, descriptorIndex := 91, attributes := #[] }, { accessFlags := 16, nameIndex := 83, descriptorIndex := 84, attributes := #[] }])
  fields := #[{ name := "serialVersionUID", type := .long, accessFlags := 26, slot := 0, constantValue := 0 }, { name := "DEFAULT_INITIAL_CAPACITY", type := .int, accessFlags := 24, slot := 1, constantValue := 0 }, { name := "MAXIMUM_CAPACITY", type := .int, accessFlags := 24, slot := 2, constantValue := 0 }, { name := "DEFAULT_LOAD_FACTOR", type := .float, accessFlags := 24, slot := 3, constantValue := 0 }, { name := "TREEIFY_THRESHOLD", type := .int, accessFlags := 24, slot := 4, constantValue := 0 }, { name := "UNTREEIFY_THRESHOLD", type := .int, accessFlags := 24, slot := 5, constantValue := 0 }, { name := "MIN_TREEIFY_CAPACITY", type := .int, accessFlags := 24, slot := 6, constantValue := 0 }, { name := "table", type := (.array (.object "java/util/HashMap$Node")), accessFlags := 128, slot := 2, constantValue := 0 }, { name := "entrySet", type := (.object "java/util/Set"), accessFlags := 128, slot := 3, constantValue := 0 }, { name := "size", type := .int, accessFlags := 128, slot := 4, constantValue := 0 }, { name := "modCount", type := .int, accessFlags := 128, slot := 5, constantValue := 0 }, { name := "threshold", type := .int, accessFlags := 0, slot := 6, constantValue := 0 }, { name := "loadFactor", type := .float, accessFlags := 16, slot := 7, constantValue := 0 }]
  methods := #[k9m0]
  instanceTypes := #[(.object "java/util/Set"), (.object "java/util/Collection"), (.array (.object "java/util/HashMap$Node")), (.object "java/util/Set"), .int, .int, .int, .float]
  staticTypes := #[.long, .int, .int, .float, .int, .int, .int]
  resolved := Array.replicate 629 none
  statics := none }

def pool10 : Array CpInfo := pool [(8, .class_ 10), (1, u "java/lang/Iterable"), (24, .class_ 36), (0, u "java/lang/Object")] 25

/-- java/lang/Iterable -/
def k10 : Class := { plain "java/lang/Iterable" (some 0) with
  accessFlags := 1537
  interfaces := #[]
  cf := some (fileOf pool10 8 #[] #[] 1537 35 #[] #[])
  fields := #[]
  methods := #[]
  instanceTypes := #[]
  staticTypes := #[]
  resolved := Array.replicate 62 none
  statics := none }

def pool11 : Array CpInfo := pool [(10, .class_ 12), (1, u "java/util/Collection"), (47, .class_ 61), (0, u "java/lang/Object"), (0, .class_ 63), (0, u "java/lang/Iterable")] 51

/-- java/util/Collection -/
def k11 : Class := { plain "java/util/Collection" (some 0) with
  accessFlags := 1537
  interfaces := #[10]
  cf := some (fileOf pool11 10 #[] #[] 1537 60 #[62] #[])
  fields := #[]
  methods := #[]
  instanceTypes := #[]
  staticTypes := #[]
  resolved := Array.replicate 115 none
  statics := none }

def pool12 : Array CpInfo := pool [(1, .methodref 2 3), (0, .class_ 4), (0, .nameAndType 5 6), (0, u "java/lang/Object"), (0, u "<init>"), (0, u "()V"), (1, .class_ 10), (1, u "java/util/AbstractCollection"), (66, .class_ 78), (0, u "java/util/Collection")] 81

def k12c0 : Code := { maxStack := 1, maxLocals := 1, code := jdk_22_method_1_code, exceptionTable := #[], attributes := #[] }
def k12m0 : Method := { name := "<init>", desc := "()V", sig := { parameters := [], returnType := none }, accessFlags := 4, code := some k12c0 }
/-- java/util/AbstractCollection -/
def k12 : Class := { plain "java/util/AbstractCollection" (some 0) with
  accessFlags := 1057
  interfaces := #[11]
  cf := some (fileOf pool12 8 #[] #[{ accessFlags := 4, nameIndex := 5, descriptorIndex := 6, attributes := #[] }] 1057 2 #[77] #[])
  fields := #[]
  methods := #[k12m0]
  instanceTypes := #[]
  staticTypes := #[]
  resolved := Array.replicate 160 none
  statics := none }

def pool13 : Array CpInfo := pool [(8, .class_ 10), (1, u "java/util/SequencedCollection"), (15, .class_ 27), (0, u "java/lang/Object"), (0, .class_ 29), (0, u "java/util/Collection")] 27

/-- java/util/SequencedCollection -/
def k13 : Class := { plain "java/util/SequencedCollection" (some 0) with
  accessFlags := 1537
  interfaces := #[11]
  cf := some (fileOf pool13 8 #[] #[] 1537 26 #[28] #[])
  fields := #[]
  methods := #[]
  instanceTypes := #[]
  staticTypes := #[]
  resolved := Array.replicate 57 none
  statics := none }

def pool14 : Array CpInfo := pool [(8, .class_ 10), (1, u "java/util/List"), (92, .class_ 104), (0, u "java/lang/Object"), (15, .class_ 121), (0, u "java/util/SequencedCollection")] 129

/-- java/util/List -/
def k14 : Class := { plain "java/util/List" (some 0) with
  accessFlags := 1537
  interfaces := #[13]
  cf := some (fileOf pool14 8 #[] #[] 1537 103 #[120] #[])
  fields := #[]
  methods := #[]
  instanceTypes := #[]
  staticTypes := #[]
  resolved := Array.replicate 251 none
  statics := none }

def pool15 : Array CpInfo := pool [(1, .methodref 2 3), (0, .class_ 4), (0, .nameAndType 5 6), (0, u "java/util/AbstractCollection"), (0, u "<init>"), (0, u "()V"), (0, .fieldref 8 9), (0, .class_ 10), (0, .nameAndType 11 12), (0, u "java/util/AbstractList"), (0, u "modCount"), (0, u "I"), (64, .class_ 78), (0, u "java/util/AbstractList$Itr"), (3, .class_ 83), (0, u "java/util/AbstractList$ListItr"), (9, .class_ 94), (0, u "java/util/AbstractList$RandomAccessSubList"), (3, .class_ 99), (0, u "java/util/AbstractList$SubList"), (33, .class_ 134), (0, u "java/util/List"), (73, .class_ 209), (0, u "java/util/AbstractList$SubList$1"), (0, .class_ 211), (0, u "java/util/AbstractList$RandomAccessSpliterator")] 6

def k15c0 : Code := { maxStack := 2, maxLocals := 1, code := jdk_39_method_1_code, exceptionTable := #[], attributes := #[] }
def k15m0 : Method := { name := "<init>", desc := "()V", sig := { parameters := [], returnType := none }, accessFlags := 4, code := some k15c0 }
/-- java/util/AbstractList -/
def k15 : Class := { plain "java/util/AbstractList" (some 12) with
  accessFlags := 1057
  interfaces := #[14]
  cf := some (fileOf pool15 8 #[.nestMembers #[93, 98, 208, 210, 82, 77]] #[{ accessFlags := 4, nameIndex := 5, descriptorIndex := 6, attributes := #[] }] 1057 2 #[133] #[{ accessFlags := 132, nameIndex := 11, descriptorIndex := 12, attributes := #[] }])
  fields := #[{ name := "modCount", type := .int, accessFlags := 132, slot := 0, constantValue := 0 }]
  methods := #[k15m0]
  instanceTypes := #[.int]
  staticTypes := #[]
  resolved := Array.replicate 218 none
  statics := none }

def pool16 : Array CpInfo := pool [(1, .class_ 2), (0, u "java/util/RandomAccess"), (0, .class_ 4), (0, u "java/lang/Object")] 2

/-- java/util/RandomAccess -/
def k16 : Class := { plain "java/util/RandomAccess" (some 0) with
  accessFlags := 1537
  interfaces := #[]
  cf := some (fileOf pool16 1 #[] #[] 1537 3 #[] #[])
  fields := #[]
  methods := #[]
  instanceTypes := #[]
  staticTypes := #[]
  resolved := Array.replicate 7 none
  statics := none }

def pool17 : Array CpInfo := pool [(1, .methodref 2 3), (0, .class_ 4), (0, .nameAndType 5 6), (0, u "java/util/AbstractList"), (0, u "<init>"), (0, u "()V"), (2, .fieldref 10 11), (0, .class_ 12), (0, .nameAndType 13 14), (0, u "java/util/ArrayList"), (0, u "elementData"), (0, u "[Ljava/lang/Object;"), (2, u "EMPTY_ELEMENTDATA"), (21, .fieldref 10 40), (0, .nameAndType 41 14), (0, u "DEFAULTCAPACITY_EMPTY_ELEMENTDATA"), (8, u "size"), (0, u "I"), (96, .class_ 149), (0, u "java/util/List"), (112, .class_ 263), (0, u "java/util/ArrayList$ListItr"), (3, .class_ 268), (0, u "java/util/ArrayList$Itr"), (7, .class_ 277), (0, u "java/util/ArrayList$SubList"), (12, .class_ 291), (0, u "java/util/ArrayList$ArrayListSpliterator"), (37, .class_ 330), (0, u "java/util/RandomAccess"), (0, .class_ 332), (0, u "java/lang/Cloneable"), (0, .class_ 334), (0, u "java/io/Serializable"), (0, u "serialVersionUID"), (0, u "J"), (3, u "DEFAULT_CAPACITY"), (159, .class_ 501), (0, u "java/util/ArrayList$SubList$2"), (0, .class_ 503), (0, u "java/util/ArrayList$SubList$1")] 5

def k17c0 : Code := { maxStack := 2, maxLocals := 1, code := jdk_38_method_2_code, exceptionTable := #[], attributes := #[] }
def k17m0 : Method := { name := "<init>", desc := "()V", sig := { parameters := [], returnType := none }, accessFlags := 1, code := some k17c0 }
/-- java/util/ArrayList -/
def k17 : Class := { plain "java/util/ArrayList" (some 15) with
  accessFlags := 33
  interfaces := #[14, 16, 7, 8]
  cf := some (fileOf pool17 10 #[.nestMembers #[290, 276, 500, 502, 262, 267]] #[{ accessFlags := 1, nameIndex := 5, descriptorIndex := 6, attributes := #[] }] 33 2 #[148, 329, 331, 333] #[{ accessFlags := 26, nameIndex := 335, descriptorIndex := 336, attributes := #[] }, { accessFlags := 26, nameIndex := 340, descriptorIndex := 51, attributes := #[] }, { accessFlags := 26, nameIndex := 17, descriptorIndex := 14, attributes := #[] }, { accessFlags := 26, nameIndex := 41, descriptorIndex := 14, attributes := #[] }, { accessFlags := 128, nameIndex := 13, descriptorIndex := 14, attributes := #[] }, { accessFlags := 2, nameIndex := 50, descriptorIndex := 51, attributes := #[] }])
  fields := #[{ name := "serialVersionUID", type := .long, accessFlags := 26, slot := 0, constantValue := 0 }, { name := "DEFAULT_CAPACITY", type := .int, accessFlags := 26, slot := 1, constantValue := 0 }, { name := "EMPTY_ELEMENTDATA", type := (.array (.object "java/lang/Object")), accessFlags := 26, slot := 2, constantValue := 0 }, { name := "DEFAULTCAPACITY_EMPTY_ELEMENTDATA", type := (.array (.object "java/lang/Object")), accessFlags := 26, slot := 3, constantValue := 0 }, { name := "elementData", type := (.array (.object "java/lang/Object")), accessFlags := 128, slot := 1, constantValue := 0 }, { name := "size", type := .int, accessFlags := 2, slot := 2, constantValue := 0 }]
  methods := #[k17m0]
  instanceTypes := #[.int, (.array (.object "java/lang/Object")), .int]
  staticTypes := #[.long, .int, (.array (.object "java/lang/Object")), (.array (.object "java/lang/Object"))]
  resolved := Array.replicate 509 none
  statics := some 0 }

def pool18 : Array CpInfo := pool [(26, .class_ 27), (0, u "java/lang/Object"), (5, .class_ 34), (0, u "java/util/Set"), (1, .class_ 38), (1, u "java/util/Collection")] 105

/-- java/util/Set -/
def k18 : Class := { plain "java/util/Set" (some 0) with
  accessFlags := 1537
  interfaces := #[11]
  cf := some (fileOf pool18 33 #[] #[] 1537 26 #[36] #[])
  fields := #[]
  methods := #[]
  instanceTypes := #[]
  staticTypes := #[]
  resolved := Array.replicate 144 none
  statics := none }

def pool19 : Array CpInfo := pool [(1, .methodref 2 3), (0, .class_ 4), (0, .nameAndType 5 6), (0, u "java/util/AbstractCollection"), (0, u "<init>"), (0, u "()V"), (0, .class_ 8), (0, u "java/util/Set"), (7, .class_ 17), (0, u "java/util/AbstractSet")] 78

def k19c0 : Code := { maxStack := 1, maxLocals := 1, code := jdk_91_method_1_code, exceptionTable := #[], attributes := #[] }
def k19m0 : Method := { name := "<init>", desc := "()V", sig := { parameters := [], returnType := none }, accessFlags := 4, code := some k19c0 }
/-- java/util/AbstractSet -/
def k19 : Class := { plain "java/util/AbstractSet" (some 12) with
  accessFlags := 1057
  interfaces := #[18]
  cf := some (fileOf pool19 16 #[] #[{ accessFlags := 4, nameIndex := 5, descriptorIndex := 6, attributes := #[] }] 1057 2 #[7] #[])
  fields := #[]
  methods := #[k19m0]
  instanceTypes := #[]
  staticTypes := #[]
  resolved := Array.replicate 96 none
  statics := none }

def pool20 : Array CpInfo := pool [(1, .methodref 2 3), (0, .class_ 4), (0, .nameAndType 5 6), (0, u "java/util/AbstractSet"), (0, u "<init>"), (0, u "()V"), (0, .class_ 8), (0, u "java/util/HashMap"), (0, .methodref 7 3), (0, .fieldref 11 12), (0, .class_ 13), (0, .nameAndType 14 15), (0, u "java/util/HashSet"), (0, u "map"), (0, u "Ljava/util/HashMap;"), (34, .class_ 52), (1, u "java/util/Set"), (13, u "PRESENT"), (0, u "Ljava/lang/Object;"), (158, .class_ 227), (0, u "java/lang/Cloneable"), (0, .class_ 229), (0, u "java/io/Serializable"), (0, u "serialVersionUID"), (0, u "J")] 71

def k20c0 : Code := { maxStack := 3, maxLocals := 1, code := jdk_93_method_1_code, exceptionTable := #[], attributes := #[] }
def k20m0 : Method := { name := "<init>", desc := "()V", sig := { parameters := [], returnType := none }, accessFlags := 1, code := some k20c0 }
/-- java/util/HashSet -/
def k20 : Class := { plain "java/util/HashSet" (some 19) with
  accessFlags := 33
  interfaces := #[18, 7, 8]
  cf := some (fileOf pool20 11 #[] #[{ accessFlags := 1, nameIndex := 5, descriptorIndex := 6, attributes := #[] }] 33 2 #[50, 226, 228] #[{ accessFlags := 24, nameIndex := 230, descriptorIndex := 231, attributes := #[] }, { accessFlags := 128, nameIndex := 14, descriptorIndex := 15, attributes := #[] }, { accessFlags := 24, nameIndex := 66, descriptorIndex := 67, attributes := #[] }])
  fields := #[{ name := "serialVersionUID", type := .long, accessFlags := 24, slot := 0, constantValue := 0 }, { name := "map", type := (.object "java/util/HashMap"), accessFlags := 128, slot := 0, constantValue := 0 }, { name := "PRESENT", type := (.object "java/lang/Object"), accessFlags := 24, slot := 1, constantValue := 0 }]
  methods := #[k20m0]
  instanceTypes := #[(.object "java/util/HashMap")]
  staticTypes := #[.long, (.object "java/lang/Object")]
  resolved := Array.replicate 303 none
  statics := none }

/-- the primitive byte -/
def k21 : Class := { plain "byte" none with kind := .primitive 'B', accessFlags := 0x411 }
/-- [B -/
def k22 : Class := { plain "[B" (some 0) with kind := .array 21 .byte, interfaces := #[7, 8], accessFlags := 1041 }

/-- the primitive int -/
def k23 : Class := { plain "int" none with kind := .primitive 'I', accessFlags := 0x411 }
/-- [I -/
def k24 : Class := { plain "[I" (some 0) with kind := .array 23 .int, interfaces := #[7, 8], accessFlags := 1041 }

/-- [Ljava/lang/Object; -/
def k25 : Class := { plain "[Ljava/lang/Object;" (some 0) with kind := .array 0 (.object "java/lang/Object"), interfaces := #[7, 8], accessFlags := 1041 }

def heap : Heap := #[{ cls := 17, slots := #[.long 0, .int 0, .ref 1, .ref 2], vm := .statics 17 },
  { cls := 25, slots := #[], vm := .none },
  { cls := 25, slots := #[], vm := .none }]
def classes : Array Class := #[k0, k1, k2, k3, k4, k5, k6, k7, k8, k9, k10, k11, k12, k13, k14, k15, k16, k17, k18, k19, k20, k21, k22, k23, k24, k25]
def interned : List (Array UInt16 × Addr) := []
def slotsUsed : Nat := 4
def theMethod : MethodId := ⟨1, 1⟩
def args0 : Array Value := #[.int 5, .int 300, .int 7, .int 2, .int 1, .int 8]
def aboutOver (below : List Frame) : State where
  vm := { classes := classes, interned := interned.toArray }
  heap := heap
  slotsUsed := slotsUsed
  threads := #[{ frames := .invoking theMethod args0 :: below }]
def below0 : List Frame := [.native { method := ⟨0, 0⟩, args := #[] }]
def about1 : State := aboutOver below0
def p0 : Program := .bare "" "" ""
def e0 : Env := launch0.env 0 0 0
theorem w_frames : about1.frames = Frame.invoking theMethod args0 :: below0 := rfl
set_option maxRecDepth 65536 in
theorem w_args : argsFit about1.vm theMethod args0 = true := by decide +kernel
set_option maxRecDepth 65536 in
theorem w_heap : heapFits about1 = true := by decide +kernel
set_option maxRecDepth 65536 in
theorem w_runnable : about1.curStatus? = some .runnable := by decide +kernel
set_option maxRecDepth 65536 in
theorem w_alone : about1.alone = true := by decide +kernel
set_option maxRecDepth 65536 in
theorem w_named : about1.methodNamed? x = some theMethod := by decide +kernel
set_option maxRecDepth 65536 in
theorem w_hears : about1.hears theMethod below0 = true := by decide +kernel
set_option maxRecDepth 65536 in
theorem w_ripe : about1.ripe theMethod args0 below0 = true := by decide +kernel
theorem w_running : about1.status = .running := rfl
set_option maxRecDepth 65536 in
theorem w_room : about1.hasRoom e0.platform room_1 = true :=
  launch0.hasRoom_least _ room_1 (by decide +kernel) (by decide +kernel) (by decide +kernel) (by decide +kernel) (by decide +kernel) (by decide +kernel)
theorem allAtoms_all (ts : List Jvm.Cond) (a : Array Jvm.Value) (st : Jvm.State) : (allAtoms ts).before a st = ts.all (fun c => c.before a st) := by
  induction ts with
  | nil => rfl
  | cons c t ih =>
    show (Jvm.Cond.and c (allAtoms t)).before a st = _
    rw [Jvm.Cond.before_and, ih, List.all_cons]
def words1 : List Jvm.Cond := Jvm.Cond.code x code maxLocals ret :: tables_1
/-- a 'code' word, met by the world's own term for the bytes: nothing is compared byte by byte -/
theorem code_word {y : MethodName} {bytes : ByteArray} {mx : Nat} {rt : Option FieldType} {a : Array Value} {s : State} {m : MethodId} {meth : Method} {c : Code} (h1 : s.methodNamed? y = some m) (h2 : s.vm.method? m = some meth) (h3 : meth.code = some c) (h4 : c.code = bytes)
    (h5 : (c.maxLocals == mx && c.exceptionTable.isEmpty && decide (c.maxStack ≤ mostOperands) && decide (meth.sig.returnType = rt) && !meth.locks && decide (parseMethodDescriptor y.desc = some meth.sig)) = true) : (Jvm.Cond.code y bytes mx rt).before a s = true := by
  simp only [Bool.and_eq_true, beq_iff_eq, Bool.not_eq_true', decide_eq_true_eq] at h5
  obtain ⟨⟨⟨⟨⟨g1, g2⟩, g3⟩, g4⟩, g5⟩, g6⟩ := h5
  simp [Cond.before, Cond.holds, Cond.value, h1, h2, h3, h4, g1, g2, g3, g4, g5, g6]
def isCode : Jvm.Cond → Bool
  | .code _ _ _ _ => true
  | _ => false
theorem all_split {L : List Jvm.Cond} {P : Jvm.Cond → Bool} (h1 : L.all (fun c => isCode c || P c) = true) (h2 : ∀ c ∈ L.filter isCode, P c = true) : L.all P = true := by
  refine List.all_eq_true.mpr fun c hc => ?_
  have h := List.all_eq_true.mp h1 c hc
  rcases Bool.eq_false_or_eq_true (isCode c) with hi | hi
  · exact h2 c (List.mem_filter.mpr ⟨hc, hi⟩)
  · simpa [hi] using h
set_option maxRecDepth 65536 in
theorem w_c0 : (Jvm.Cond.code x code maxLocals ret).before args0 about1 = true := code_word (m := ⟨1, 1⟩) (meth := k1m1) (c := k1c1) (by decide +kernel) rfl rfl rfl (by decide +kernel)
set_option maxRecDepth 65536 in
theorem w_c1 : (Jvm.Cond.code ({ cls := "com/example/coextent/coextent/reasoner/CompletionGraph$Slot", name := "<init>", desc := "(III)V" } : Jvm.MethodName) prog_93_method_1_code (4 : Nat) (Option.none : Option Jvm.ClassFile.FieldType)).before args0 about1 = true := code_word (m := ⟨3, 0⟩) (meth := k3m0) (c := k3c0) (by decide +kernel) rfl rfl rfl (by decide +kernel)
set_option maxRecDepth 65536 in
theorem w_c2 : (Jvm.Cond.code ({ cls := "java/lang/Record", name := "<init>", desc := "()V" } : Jvm.MethodName) jdk_30_method_1_code (1 : Nat) (Option.none : Option Jvm.ClassFile.FieldType)).before args0 about1 = true := code_word (m := ⟨2, 0⟩) (meth := k2m0) (c := k2c0) (by decide +kernel) rfl rfl rfl (by decide +kernel)
set_option maxRecDepth 65536 in
theorem w_c3 : (Jvm.Cond.code ({ cls := "java/lang/Object", name := "<init>", desc := "()V" } : Jvm.MethodName) object_method_1_code (1 : Nat) (Option.none : Option Jvm.ClassFile.FieldType)).before args0 about1 = true := code_word (m := ⟨0, 0⟩) (meth := k0m0) (c := k0c0) (by decide +kernel) rfl rfl rfl (by decide +kernel)
set_option maxRecDepth 65536 in
theorem w_c4 : (Jvm.Cond.code ({ cls := "com/example/coextent/coextent/reasoner/CompletionGraph$Node", name := "<init>", desc := "(IILcom/example/coextent/coextent/reasoner/CompletionGraph$Slot;Z)V" } : Jvm.MethodName) prog_91_method_1_code (5 : Nat) (Option.none : Option Jvm.ClassFile.FieldType)).before args0 about1 = true := code_word (m := ⟨4, 0⟩) (meth := k4m0) (c := k4c0) (by decide +kernel) rfl rfl rfl (by decide +kernel)
set_option maxRecDepth 65536 in
theorem w_c5 : (Jvm.Cond.code ({ cls := "java/util/HashMap", name := "<init>", desc := "()V" } : Jvm.MethodName) jdk_69_method_7_code (1 : Nat) (Option.none : Option Jvm.ClassFile.FieldType)).before args0 about1 = true := code_word (m := ⟨9, 0⟩) (meth := k9m0) (c := k9c0) (by decide +kernel) rfl rfl rfl (by decide +kernel)
set_option maxRecDepth 65536 in
theorem w_c6 : (Jvm.Cond.code ({ cls := "java/util/AbstractMap", name := "<init>", desc := "()V" } : Jvm.MethodName) jdk_71_method_1_code (1 : Nat) (Option.none : Option Jvm.ClassFile.FieldType)).before args0 about1 = true := code_word (m := ⟨6, 0⟩) (meth := k6m0) (c := k6c0) (by decide +kernel) rfl rfl rfl (by decide +kernel)
set_option maxRecDepth 65536 in
theorem w_c7 : (Jvm.Cond.code ({ cls := "java/util/ArrayList", name := "<init>", desc := "()V" } : Jvm.MethodName) jdk_38_method_2_code (1 : Nat) (Option.none : Option Jvm.ClassFile.FieldType)).before args0 about1 = true := code_word (m := ⟨17, 0⟩) (meth := k17m0) (c := k17c0) (by decide +kernel) rfl rfl rfl (by decide +kernel)
set_option maxRecDepth 65536 in
theorem w_c8 : (Jvm.Cond.code ({ cls := "java/util/AbstractList", name := "<init>", desc := "()V" } : Jvm.MethodName) jdk_39_method_1_code (1 : Nat) (Option.none : Option Jvm.ClassFile.FieldType)).before args0 about1 = true := code_word (m := ⟨15, 0⟩) (meth := k15m0) (c := k15c0) (by decide +kernel) rfl rfl rfl (by decide +kernel)
set_option maxRecDepth 65536 in
theorem w_c9 : (Jvm.Cond.code ({ cls := "java/util/AbstractCollection", name := "<init>", desc := "()V" } : Jvm.MethodName) jdk_22_method_1_code (1 : Nat) (Option.none : Option Jvm.ClassFile.FieldType)).before args0 about1 = true := code_word (m := ⟨12, 0⟩) (meth := k12m0) (c := k12c0) (by decide +kernel) rfl rfl rfl (by decide +kernel)
set_option maxRecDepth 65536 in
theorem w_c10 : (Jvm.Cond.code ({ cls := "java/util/HashSet", name := "<init>", desc := "()V" } : Jvm.MethodName) jdk_93_method_1_code (1 : Nat) (Option.none : Option Jvm.ClassFile.FieldType)).before args0 about1 = true := code_word (m := ⟨20, 0⟩) (meth := k20m0) (c := k20c0) (by decide +kernel) rfl rfl rfl (by decide +kernel)
set_option maxRecDepth 65536 in
theorem w_c11 : (Jvm.Cond.code ({ cls := "java/util/AbstractSet", name := "<init>", desc := "()V" } : Jvm.MethodName) jdk_91_method_1_code (1 : Nat) (Option.none : Option Jvm.ClassFile.FieldType)).before args0 about1 = true := code_word (m := ⟨19, 0⟩) (meth := k19m0) (c := k19c0) (by decide +kernel) rfl rfl rfl (by decide +kernel)
set_option maxRecDepth 65536 in
theorem w_c12 : (Jvm.Cond.code ({ cls := "com/example/coextent/coextent/reasoner/CompletionGraph$Node", name := "isRoot", desc := "()Z" } : Jvm.MethodName) prog_91_method_2_code (1 : Nat) (Option.some Jvm.ClassFile.FieldType.boolean)).before args0 about1 = true := code_word (m := ⟨4, 1⟩) (meth := k4m1) (c := k4c1) (by decide +kernel) rfl rfl rfl (by decide +kernel)
def codes1 : List Jvm.Cond := [Jvm.Cond.code x code maxLocals ret, Jvm.Cond.code ({ cls := "com/example/coextent/coextent/reasoner/CompletionGraph$Slot", name := "<init>", desc := "(III)V" } : Jvm.MethodName) prog_93_method_1_code (4 : Nat) (Option.none : Option Jvm.ClassFile.FieldType), Jvm.Cond.code ({ cls := "java/lang/Record", name := "<init>", desc := "()V" } : Jvm.MethodName) jdk_30_method_1_code (1 : Nat) (Option.none : Option Jvm.ClassFile.FieldType), Jvm.Cond.code ({ cls := "java/lang/Object", name := "<init>", desc := "()V" } : Jvm.MethodName) object_method_1_code (1 : Nat) (Option.none : Option Jvm.ClassFile.FieldType), Jvm.Cond.code ({ cls := "com/example/coextent/coextent/reasoner/CompletionGraph$Node", name := "<init>", desc := "(IILcom/example/coextent/coextent/reasoner/CompletionGraph$Slot;Z)V" } : Jvm.MethodName) prog_91_method_1_code (5 : Nat) (Option.none : Option Jvm.ClassFile.FieldType), Jvm.Cond.code ({ cls := "java/util/HashMap", name := "<init>", desc := "()V" } : Jvm.MethodName) jdk_69_method_7_code (1 : Nat) (Option.none : Option Jvm.ClassFile.FieldType), Jvm.Cond.code ({ cls := "java/util/AbstractMap", name := "<init>", desc := "()V" } : Jvm.MethodName) jdk_71_method_1_code (1 : Nat) (Option.none : Option Jvm.ClassFile.FieldType), Jvm.Cond.code ({ cls := "java/util/ArrayList", name := "<init>", desc := "()V" } : Jvm.MethodName) jdk_38_method_2_code (1 : Nat) (Option.none : Option Jvm.ClassFile.FieldType), Jvm.Cond.code ({ cls := "java/util/AbstractList", name := "<init>", desc := "()V" } : Jvm.MethodName) jdk_39_method_1_code (1 : Nat) (Option.none : Option Jvm.ClassFile.FieldType), Jvm.Cond.code ({ cls := "java/util/AbstractCollection", name := "<init>", desc := "()V" } : Jvm.MethodName) jdk_22_method_1_code (1 : Nat) (Option.none : Option Jvm.ClassFile.FieldType), Jvm.Cond.code ({ cls := "java/util/HashSet", name := "<init>", desc := "()V" } : Jvm.MethodName) jdk_93_method_1_code (1 : Nat) (Option.none : Option Jvm.ClassFile.FieldType), Jvm.Cond.code ({ cls := "java/util/AbstractSet", name := "<init>", desc := "()V" } : Jvm.MethodName) jdk_91_method_1_code (1 : Nat) (Option.none : Option Jvm.ClassFile.FieldType), Jvm.Cond.code ({ cls := "com/example/coextent/coextent/reasoner/CompletionGraph$Node", name := "isRoot", desc := "()Z" } : Jvm.MethodName) prog_91_method_2_code (1 : Nat) (Option.some Jvm.ClassFile.FieldType.boolean)]
set_option maxRecDepth 65536 in
theorem codes_eq : words1.filter isCode = codes1 := rfl
theorem w_codes : ∀ c ∈ words1.filter isCode, c.before args0 about1 = true := by
  rw [codes_eq]
  intro c hc
  simp only [codes1, List.mem_cons, List.not_mem_nil, or_false] at hc
  rcases hc with rfl | rfl | rfl | rfl | rfl | rfl | rfl | rfl | rfl | rfl | rfl | rfl | rfl
  · exact w_c0
  · exact w_c1
  · exact w_c2
  · exact w_c3
  · exact w_c4
  · exact w_c5
  · exact w_c6
  · exact w_c7
  · exact w_c8
  · exact w_c9
  · exact w_c10
  · exact w_c11
  · exact w_c12
set_option maxRecDepth 65536 in
theorem w_t1 : (words1.take 24).all (fun c => isCode c || c.before args0 about1) = true := by decide +kernel
set_option maxRecDepth 65536 in
theorem w_t2 : ((words1.drop 24).take 24).all (fun c => isCode c || c.before args0 about1) = true := by decide +kernel
set_option maxRecDepth 65536 in
theorem w_t3 : (((words1.drop 24).drop 24).take 24).all (fun c => isCode c || c.before args0 about1) = true := by decide +kernel
set_option maxRecDepth 65536 in
theorem w_t4 : ((((words1.drop 24).drop 24).drop 24).take 24).all (fun c => isCode c || c.before args0 about1) = true := by decide +kernel
set_option maxRecDepth 65536 in
theorem w_t5 : ((((words1.drop 24).drop 24).drop 24).drop 24).all (fun c => isCode c || c.before args0 about1) = true := by decide +kernel
theorem w_tables : (allAtoms (Jvm.Cond.code x code maxLocals ret :: tables_1)).before args0 about1 = true := by
  rw [allAtoms_all]
  show words1.all (fun c => c.before args0 about1) = true
  refine all_split ?_ w_codes
  rw [← List.take_append_drop 24 words1, List.all_append, w_t1, ← List.take_append_drop 24 (words1.drop 24), List.all_append, w_t2, ← List.take_append_drop 24 ((words1.drop 24).drop 24), List.all_append, w_t3, ← List.take_append_drop 24 (((words1.drop 24).drop 24).drop 24), List.all_append, w_t4, w_t5]
  rfl
set_option maxRecDepth 65536 in
theorem w_rest : rest_1_c.before args0 about1 = true := by decide +kernel
set_option maxRecDepth 65536 in
theorem w_case : (Jvm.Cond.and given_1 narrow_1).before args0 about1 = true := by decide +kernel
theorem w_applies : (headSpec (Jvm.Cond.code x code maxLocals ret :: tables_1) room_1).applies x e0.platform about1 = true :=
  (Spec.applies_iff w_frames).mpr ⟨w_running, w_runnable, w_alone, w_named, w_hears, w_ripe, w_room, w_tables⟩
theorem atStart : AtStart classFile x code maxLocals ret World_1 tables_1 room_1 Calls_1 rest_1 Pre_1 launch0 p0 e0 about1 theMethod args0 below0 :=
  ⟨lists_1, trivial, launch0.admits_env _ _ _, launch0.least_env, fairChoices_fair.cas, fairChoices_fair.clock, w_frames, w_args, w_heap, w_applies, trivial, w_rest, w_case⟩
end start1
theorem witness_1 : WitnessClaimed_1 := ⟨start1.p0, start1.e0, start1.about1, start1.theMethod, start1.args0, start1.below0, start1.atStart⟩
end Jvm.Pilot.@@N@@
