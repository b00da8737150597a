import JvmDerived
import JvmDerived.Pilot.@@N@@Statement
import JvmDerived.Pilot.@@N@@Code
set_option linter.unusedVariables false
set_option linter.unusedSimpArgs false
namespace Jvm.OwnKit
open Sem ClassFile Op Lib Jvm.Stand Jvm.Free Jvm.LawKit Jvm.RoadKit
/-- from here the run returns; it wrote new cells alone, and what it leaves is as Q says -/
def Goes (p : Program) (e : Env) (s : State) (below : List Frame) (Q : Option Value → Heap → Prop) (n0 C N : Nat) (T : State) (g : JFrame) : Prop :=
  ∃ s₂ o, Steps p.tables e below (T.setTop g) s₂ ∧ s₂.status = .running ∧ Ended s₂ below o ∧ ∃ v L, o = .returned v ∧ (Fr n0 L ∧ Q v s₂.heap) ∧ FrameEnd s o s₂ L C N
/-- a method's contract: entered with these arguments over the heap h it returns as Q says -/
abbrev Con (l : Launch) (y : MethodName) (bytes : ByteArray) (maxL : Nat) (ret : Option FieldType) (ws : List Jvm.Cond) (rm : Room) (Z : State) (as' : Array Value) (h : Heap) (n0 : Nat) (Q : Option Value → Heap → Prop) : Prop :=
  MetFree l y (head1 (Jvm.Cond.code y bytes maxL ret :: ws) rm) (fun a U => a = as' ∧ Z.Warmed39 U.vm ∧ U.heap = h) (fun _ _ _ _ _ => True) (fun _ U o U' => ∃ v L, o = .returned v ∧ (Fr n0 L ∧ Q v U'.heap) ∧ FrameEnd U o U' L rm.cells rm.slots)
section Laws
variable {p : Program} {l : Launch} {e : Env} {R : Room} {s : State} {m : MethodId} {args : Array Value} {below : List Frame} {meth : Method} {c : Code} {T T' : State} {locs : List Loc} {cells slots : Nat} {Z : State} {h : Heap} {a0 : Array Value} {Q : Option Value → Heap → Prop} {n0 C N pc pc' : Nat} {Ls Ls' : Array Slot} {st : List Value} {g g' : JFrame}
theorem Goes.go (k : ∀ t, Steps p.tables e below (T'.setTop g') t → Steps p.tables e below (T.setTop g) t) (h : Goes p e s below Q n0 C N T' g') : Goes p e s below Q n0 C N T g := by
  obtain ⟨s₂, o, h1, h2⟩ := h; exact ⟨s₂, o, k _ h1, h2⟩
/-- what opens every body's walk -/
theorem con_of {y : MethodName} {bytes : ByteArray} {maxL : Nat} {ret : Option FieldType} {ws : List Jvm.Cond} {rm : Room} {as' : Array Value} {Ls0 : Array Slot} (hn : plainFor y = true) (hef : ∀ m, entryFrame m as' maxL = mkF m 0 Ls0 [])
    (body : ∀ (p : Program) (e : Env) (s : State) (m : MethodId) (below : List Frame) (meth : Method) (c : Code) (s₁ : State), Stand p l e rm s m as' below meth c s₁ [] 0 0 → p.tables.exec = Jvm.exec → c.code = bytes → c.maxLocals = maxL → Z.Warmed39 s.vm → s.vm.findClass y.cls = some m.cls → meth.name = y.name → meth.sig.returnType = ret → meth.locks = false → s₁.heap = h → Fr n0 [] →
      Goes p e s below Q n0 rm.cells rm.slots s₁ (mkF m 0 Ls0 [])) : Con l y bytes maxL ret ws rm Z as' h n0 Q := by
  refine MetFree.of_bodySF hn hisR ?_
  intro p e s m args below meth c s₁ Bd hml0 hP hK
  obtain ⟨rfl, hZ, hh⟩ := hP
  have e0 : s₁.heap = h := by rw [← hh, Bd.state]; rfl
  have q := body p e s m below meth c s₁ (Stand.of_body Bd) Bd.exec Bd.bytes hml0 hZ (findClass_of_methodNamed Bd.named) (name_of_methodNamed Bd.named Bd.method).1 Bd.returns Bd.notSynchronized e0 (Fr.nil n0)
  rw [hef m]
  exact q
/-- a return -/
theorem g_ret (X : Stand p l e R s m args below meth c T locs cells slots) (hx : p.tables.exec = Jvm.exec) (hlk : meth.locks = false) {w : Value} {t : FieldType} {i : Instr} (hret : meth.sig.returnType = some t) (hn : narrow t w = w)
    (hi : (i = .ireturn ∧ (t = .int ∨ t = .boolean ∨ t = .byte ∨ t = .char ∨ t = .short) ∧ ∃ z, w = .int z) ∨ (i = .lreturn ∧ t = .long ∧ ∃ z, w = .long z) ∨ (i = .dreturn ∧ t = .double ∧ ∃ z, w = .double z) ∨ (i = .freturn ∧ t = .float ∧ ∃ z, w = .float z) ∨ (i = .areturn ∧ t.isReference = true ∧ w.isRef = true))
    (hd : decode c.code pc = .ok (i, 1)) (hN : Fr n0 locs) (hc : cells ≤ C) (hs : slots ≤ N) (hQ : Q (some w) T.heap) : Goes p e s below Q n0 C N T (mkF m pc Ls (w :: st)) := by
  obtain ⟨fs, hr, hrun, hended, hW, hsame⟩ := X.leave (v := some w) (fun z => by rw [hret] at z; cases z)
  exact ⟨_, _, retOut X hx hret hn hi hd hr, hrun, hended, _, _, rfl, ⟨hN, hQ⟩, ⟨_, rfl⟩, hW, hsame.mono hc hs⟩
theorem g_retI (X : Stand p l e R s m args below meth c T locs cells slots) (hx : p.tables.exec = Jvm.exec) (hlk : meth.locks = false) {z : Int32} (hret : meth.sig.returnType = some .int) (hd : decode c.code pc = .ok (.ireturn, 1)) (hN : Fr n0 locs) (hc : cells ≤ C) (hs : slots ≤ N) (hQ : Q (some (.int z)) T.heap) : Goes p e s below Q n0 C N T (mkF m pc Ls (.int z :: st)) :=
  g_ret X hx hlk hret rfl (Or.inl ⟨rfl, Or.inl rfl, _, rfl⟩) hd hN hc hs hQ
theorem g_retZ (X : Stand p l e R s m args below meth c T locs cells slots) (hx : p.tables.exec = Jvm.exec) (hlk : meth.locks = false) {z : Int32} (hz : z &&& 1 = z) (hret : meth.sig.returnType = some .boolean) (hd : decode c.code pc = .ok (.ireturn, 1)) (hN : Fr n0 locs) (hc : cells ≤ C) (hs : slots ≤ N) (hQ : Q (some (.int z)) T.heap) : Goes p e s below Q n0 C N T (mkF m pc Ls (.int z :: st)) :=
  g_ret X hx hlk hret (congrArg Value.int hz) (Or.inl ⟨rfl, Or.inr (Or.inl rfl), _, rfl⟩) hd hN hc hs hQ
theorem g_retJ (X : Stand p l e R s m args below meth c T locs cells slots) (hx : p.tables.exec = Jvm.exec) (hlk : meth.locks = false) {z : Int64} (hret : meth.sig.returnType = some .long) (hd : decode c.code pc = .ok (.lreturn, 1)) (hN : Fr n0 locs) (hc : cells ≤ C) (hs : slots ≤ N) (hQ : Q (some (.long z)) T.heap) : Goes p e s below Q n0 C N T (mkF m pc Ls (.long z :: st)) :=
  g_ret X hx hlk hret rfl (Or.inr (Or.inl ⟨rfl, rfl, _, rfl⟩)) hd hN hc hs hQ
theorem g_retA (X : Stand p l e R s m args below meth c T locs cells slots) (hx : p.tables.exec = Jvm.exec) (hlk : meth.locks = false) {v : Value} {t : FieldType} (hret : meth.sig.returnType = some t) (ht : t.isReference = true) (hn : narrow t v = v) (hv : v.isRef = true) (hd : decode c.code pc = .ok (.areturn, 1)) (hN : Fr n0 locs) (hc : cells ≤ C) (hs : slots ≤ N) (hQ : Q (some v) T.heap) : Goes p e s below Q n0 C N T (mkF m pc Ls (v :: st)) :=
  g_ret X hx hlk hret hn (Or.inr (Or.inr (Or.inr (Or.inr ⟨rfl, ht, hv⟩)))) hd hN hc hs hQ
theorem g_retV (X : Stand p l e R s m args below meth c T locs cells slots) (hx : p.tables.exec = Jvm.exec) (hlk : meth.locks = false) (hret : meth.sig.returnType = none) (hd : decode c.code pc = .ok (.return_, 1)) (hN : Fr n0 locs) (hc : cells ≤ C) (hs : slots ≤ N) (hQ : Q none T.heap) : Goes p e s below Q n0 C N T (mkF m pc Ls []) := by
  obtain ⟨fs, hr, hrun, hended, hW, hsame⟩ := X.leave (v := none) (fun _ => rfl)
  exact ⟨_, _, X.returnOut hx hret hd hr, hrun, hended, _, _, rfl, ⟨hN, hQ⟩, ⟨_, rfl⟩, hW, hsame.mono hc hs⟩
/-! fields and objects -/
theorem g_getF (X : Stand p l e R s m args below meth c T locs cells slots) (hx : p.tables.exec = Jvm.exec) (hZ : Z.Warmed39 s.vm) {own O n d : String} {i : Nat} (hown : s.vm.findClass own = some m.cls) (w : (Cond.fieldLink own i O n d).before a0 Z = true) (eT : T.heap = h) {a : Addr} {v : Value} (F : Fld Z h a O n d v) (hd : decode c.code pc = .ok (.getfield i, 3)) (hp : pc + 3 = pc')
    (k : ∀ T', Stand p l e R s m args below meth c T' locs cells slots → T'.heap = h → Goes p e s below Q n0 C N T' (mkF m pc' Ls (v :: st))) : Goes p e s below Q n0 C N T (mkF m pc Ls (.ref a :: st)) := by
  subst hp
  obtain ⟨T', X', e', st'⟩ := getF X hx hZ hown (host := "") (Or.inl w) Via.refl eT F (g := mkF m pc Ls (.ref a :: st)) rfl rfl hd
  exact (k T' X' e').go st'
theorem g_putF (X : Stand p l e R s m args below meth c T locs cells slots) (hx : p.tables.exec = Jvm.exec) (hZ : Z.Warmed39 s.vm) {own O n d K : String} {i kk : Nat} {ty : FieldType} (hown : s.vm.findClass own = some m.cls) (w : (Cond.fieldLink own i O n d).before a0 Z = true) (eT : T.heap = h) {a : Addr} {v old : Value} (F : Fld Z h a O n d old) (E : Exa Z h a K) (L : (Cond.lays K O n d).before a0 Z = true ∨ ((Cond.laysFinal K O n d).before a0 Z = true ∧ own = O ∧ meth.name = "<init>")) (wi : (Cond.instantiable K kk).before a0 Z = true)
    (hty : parseFieldDescriptor d = some ty) (hn : narrow ty v = v) (hf : fits ty v = true) (hN : Fr n0 locs) (ha : n0 ≤ a) (hd : decode c.code pc = .ok (.putfield i, 3)) (hp : pc + 3 = pc')
    (k : ∀ T' h' locs', Stand p l e R s m args below meth c T' locs' cells slots → T'.heap = h' → Wr h h' a (RoadKit.slotOf Z O n d) v → Fr n0 locs' → Goes p e s below Q n0 C N T' (mkF m pc' Ls st)) : Goes p e s below Q n0 C N T (mkF m pc Ls (v :: .ref a :: st)) := by
  subst hp
  obtain ⟨T', h', X', e', W', st'⟩ := putF X hx hZ hown (host := "") (Or.inl w) Via.refl eT F E L wi hty hn hf (g := mkF m pc Ls (v :: .ref a :: st)) rfl rfl hd
  exact (k T' h' _ X' e' W' (Fr.snoc X' hN ha)).go st'
theorem g_new (X : Stand p l e R s m args below meth c T locs cells slots) (hx : p.tables.exec = Jvm.exec) (hZ : Z.Warmed39 s.vm) {own K : String} {i n : Nat} (hown : s.vm.findClass own = some m.cls) (w : (Cond.classLink own i K).before a0 Z = true) (wi : (Cond.instantiable K n).before a0 Z = true) (wz : (Cond.initialized K).before a0 Z = true) (eT : T.heap = h) (hd : decode c.code pc = .ok (.new i, 3)) (hc : cells + 1 ≤ R.cells) (hl : slots + n ≤ R.slots) (hp : pc + 3 = pc')
    (k : ∀ T' h' a, a = h.size → Stand p l e R s m args below meth c T' locs (cells + 1) (slots + n) → T'.heap = h' → Ext h h' → a < h'.size → Exa Z h' a K → (∀ {O nm d : String} {ty : FieldType}, Laid Z a0 K O nm d → parseFieldDescriptor d = some ty → Fld Z h' a O nm d (defaultValue ty)) → Goes p e s below Q n0 C N T' (mkF m pc' Ls (.ref a :: st))) : Goes p e s below Q n0 C N T (mkF m pc Ls st) := by
  subst hp
  obtain ⟨T', h', X', e', E', A', D', -, st'⟩ := newO X hx hZ hown w wi wz eT (g := mkF m pc Ls st) rfl hd hc hl
  exact (k T' h' h.size rfl X' e' E' A'.lt A' D').go st'
theorem g_initO (X : Stand p l e R s m args below meth c T locs cells slots) (hx : p.tables.exec = Jvm.exec) (hZ : Z.Warmed39 s.vm) {own : String} {i : Nat} (hown : s.vm.findClass own = some m.cls) (w1 : (Cond.methodLink own i Lib.objectInit).before a0 Z = true) (w2 : (Cond.instanceMethod Lib.objectInit).before a0 Z = true) (w3 : (Cond.code Lib.objectInit ⟨#[0xb1]⟩ 1 none).before a0 Z = true) (eT : T.heap = h) (hsz : Ls.size = c.maxLocals) {a : Addr} (hd : decode c.code pc = .ok (.invokespecial i, 3))
    (hf : 1 ≤ R.frames) {W : Nat} (hW : (st.map fun v => v.category).sum ≤ W) (hl : W + 12 ≤ R.locals) (hp : pc + 3 = pc')
    (k : ∀ T', Stand p l e R s m args below meth c T' locs cells slots → T'.heap = h → Goes p e s below Q n0 C N T' (mkF m pc' Ls st)) : Goes p e s below Q n0 C N T (mkF m pc Ls (.ref a :: st)) := by
  subst hp
  obtain ⟨T', X', e', st'⟩ := initO X hx hZ hown w1 w2 w3 eT (g := mkF m pc Ls (.ref a :: st)) rfl hsz rfl hd hf (W := W) (by show 2 * 0 + _ ≤ _; omega) hl
  exact (k T' X' e').go st'
theorem g_getS (X : Stand p l e R s m args below meth c T locs cells slots) (hx : p.tables.exec = Jvm.exec) (hZ : Z.Warmed39 s.vm) {own O n d : String} {i : Nat} (hown : s.vm.findClass own = some m.cls) (w : (Cond.fieldLink own i O n d).before a0 Z = true) (eT : T.heap = h) {v : Value} (F : Sta Z h O n d v) (hd : decode c.code pc = .ok (.getstatic i, 3)) (hp : pc + 3 = pc')
    (k : ∀ T', Stand p l e R s m args below meth c T' locs cells slots → T'.heap = h → Goes p e s below Q n0 C N T' (mkF m pc' Ls (v :: st))) : Goes p e s below Q n0 C N T (mkF m pc Ls st) := by
  subst hp
  obtain ⟨T', X', e', st'⟩ := getS X hx hZ hown (host := "") w Via.refl eT F (g := mkF m pc Ls st) rfl hd
  exact (k T' X' e').go st'
theorem g_ldcF (X : Stand p l e R s m args below meth c T locs cells slots) (hx : p.tables.exec = Jvm.exec) (hZ : Z.Warmed39 s.vm) {own : String} {i : Nat} {b : UInt32} (hown : s.vm.findClass own = some m.cls) (w : (Cond.constantFloat own i b).before a0 Z = true) (hd : decode c.code pc = .ok (.ldc i, 2)) (hp : pc + 2 = pc')
    (k : Goes p e s below Q n0 C N T (mkF m pc' Ls (.float b :: st))) : Goes p e s below Q n0 C N T (mkF m pc Ls st) := by
  subst hp
  exact k.go fun t q => X.ldcFloatC hx hown (mvT hZ w) (g := mkF m pc Ls st) rfl hd t q
/-! calls: the callee's contract pays -/
theorem g_static (X : Stand p l e R s m args below meth c T locs cells slots) (hx : p.tables.exec = Jvm.exec) (hZ : Z.Warmed39 s.vm) {own : String} {i : Nat} {y : MethodName} {bytes : ByteArray} {maxL : Nat} {ret : Option FieldType} (hown : s.vm.findClass own = some m.cls) (w1 : (Cond.methodLink own i y).before a0 Z = true) (w2 : (Cond.static y).before a0 Z = true) (w3 : (Cond.initialized y.cls).before a0 Z = true) (w4 : (Cond.code y bytes maxL ret).before a0 Z = true) (hy : y.cls ≠ "java/lang/invoke/MethodHandle" ∧ y.cls ≠ "java/lang/invoke/VarHandle")
    {rm : Room} {argsL : List Value} {as' : Array Value} {Qy : Option Value → Heap → Prop} (hM : Con l y bytes maxL ret [] rm Z as' h n0 Qy) (has : argsL.toArray = as') (eT : T.heap = h) (hsz : Ls.size = c.maxLocals) {ps : List FieldType} {rt : Option FieldType} (pd : parseMethodDescriptor y.desc = some ⟨ps, rt⟩) (hlen : argsL.length = ps.length) {rest : List Value} (hst : st = argsL.reverse ++ rest) {W : Nat} (hW : (rest.map fun v => v.category).sum ≤ W)
    (hf : rm.frames + 1 ≤ R.frames) (hl : W + (maxL + 11) + rm.locals ≤ R.locals) (hc : cells + rm.cells ≤ R.cells) (hs : slots + rm.slots ≤ R.slots) (hN : Fr n0 locs) (hd : decode c.code pc = .ok (.invokestatic i, 3)) (hp : pc + 3 = pc')
    (k : ∀ v T' locs', Stand p l e R s m args below meth c T' locs' (cells + rm.cells) (slots + rm.slots) → Fr n0 locs' → Qy v T'.heap → Goes p e s below Q n0 C N T' (mkF m pc' Ls (v.toList ++ rest))) : Goes p e s below Q n0 C N T (mkF m pc Ls st) := by
  subst hp has
  obtain ⟨v, _, ⟨T', L', k', n'⟩, -, X', ⟨L, ⟨hNL, hQ⟩, q1, q2, q3⟩, st'⟩ := Jvm.LawKit.callS X hx (y := y) hown (mvT hZ w1) (mvT hZ w2) (mvT hZ w3) (mvT hZ w4) hy (backOf (W := W) (Q := fun v h L => Fr n0 L ∧ Qy v h) hM hZ w4 w3 hf hl) (g := mkF m pc Ls st) rfl hsz (argsL := argsL) (rest := rest) (lenOf pd hlen) hst (by show 2 * 0 + _ ≤ _; omega) hd (fun _ _ => ⟨rfl, eT, hc, hs⟩)
  dsimp only [Pt.U, Pt.locs, Pt.cells, Pt.slots] at X' q1 q2 q3 st' hQ
  subst q1 q2 q3
  exact (k v T' _ X' (Fr.app hN hNL) hQ).go st'
theorem g_special (X : Stand p l e R s m args below meth c T locs cells slots) (hx : p.tables.exec = Jvm.exec) (hZ : Z.Warmed39 s.vm) {own : String} {i : Nat} {y : MethodName} {bytes : ByteArray} {maxL : Nat} (hy1 : y.name = "<init>") (hown : s.vm.findClass own = some m.cls) (w1 : (Cond.methodLink own i y).before a0 Z = true) (w2 : (Cond.instanceMethod y).before a0 Z = true) (w3 : (Cond.initialized y.cls).before a0 Z = true) (w4 : (Cond.code y bytes maxL none).before a0 Z = true) (hy : y.cls ≠ "java/lang/invoke/MethodHandle" ∧ y.cls ≠ "java/lang/invoke/VarHandle")
    {rm : Room} {a : Addr} {argsL : List Value} {as' : Array Value} {Qy : Option Value → Heap → Prop} (hM : Con l y bytes maxL none [] rm Z as' h n0 Qy) (has : (.ref a :: argsL).toArray = as') (eT : T.heap = h) (hsz : Ls.size = c.maxLocals) {ps : List FieldType} {rt : Option FieldType} (pd : parseMethodDescriptor y.desc = some ⟨ps, rt⟩) (hlen : argsL.length = ps.length) {rest : List Value} (hst : st = argsL.reverse ++ .ref a :: rest) {W : Nat} (hW : (rest.map fun v => v.category).sum ≤ W)
    (hf : rm.frames + 1 ≤ R.frames) (hl : W + (maxL + 11) + rm.locals ≤ R.locals) (hc : cells + rm.cells ≤ R.cells) (hs : slots + rm.slots ≤ R.slots) (hN : Fr n0 locs) (hd : decode c.code pc = .ok (.invokespecial i, 3)) (hp : pc + 3 = pc')
    (k : ∀ v T' locs', Stand p l e R s m args below meth c T' locs' (cells + rm.cells) (slots + rm.slots) → Fr n0 locs' → Qy v T'.heap → Goes p e s below Q n0 C N T' (mkF m pc' Ls (v.toList ++ rest))) : Goes p e s below Q n0 C N T (mkF m pc Ls st) := by
  subst hp has
  obtain ⟨v, _, ⟨T', L', k', n'⟩, -, X', ⟨L, ⟨hNL, hQ⟩, q1, q2, q3⟩, st'⟩ := X.specialBack hx (y := y) hy1 hown (mvT hZ w1) (mvT hZ w2) (mvT hZ w4) hy (backOf (W := W) (Q := fun v h L => Fr n0 L ∧ Qy v h) hM hZ w4 w3 hf hl) (g := mkF m pc Ls st) rfl hsz (Steps.refl _) (a := a) (argsL := argsL) (rest := rest) (lenOf pd hlen) hst (by show 2 * 0 + _ ≤ _; omega) hd (fun _ _ => ⟨rfl, eT, hc, hs⟩)
  dsimp only [Pt.U, Pt.locs, Pt.cells, Pt.slots] at X' q1 q2 q3 st' hQ
  subst q1 q2 q3
  exact (k v T' _ X' (Fr.app hN hNL) hQ).go fun _ z => st'.trans z
theorem g_virtual (X : Stand p l e R s m args below meth c T locs cells slots) (hx : p.tables.exec = Jvm.exec) (hZ : Z.Warmed39 s.vm) {own K : String} {i : Nat} {y : MethodName} {bytes : ByteArray} {maxL : Nat} {ret : Option FieldType} (hown : s.vm.findClass own = some m.cls) (w1 : (Cond.methodLink own i y).before a0 Z = true) (w2 : (Cond.declares y).before a0 Z = true) (w5 : (Cond.selects K y y).before a0 Z = true) (w6 : (Cond.instanceMethod y).before a0 Z = true) (w3 : (Cond.initialized y.cls).before a0 Z = true) (w4 : (Cond.code y bytes maxL ret).before a0 Z = true) (hy : y.cls ≠ "java/lang/invoke/MethodHandle" ∧ y.cls ≠ "java/lang/invoke/VarHandle")
    {rm : Room} {a : Addr} {argsL : List Value} {as' : Array Value} {Qy : Option Value → Heap → Prop} (hM : Con l y bytes maxL ret [] rm Z as' h n0 Qy) (has : (.ref a :: argsL).toArray = as') (eT : T.heap = h) (E : Exa Z h a K) (hsz : Ls.size = c.maxLocals) {ps : List FieldType} {rt : Option FieldType} (pd : parseMethodDescriptor y.desc = some ⟨ps, rt⟩) (hlen : argsL.length = ps.length) {rest : List Value} (hst : st = argsL.reverse ++ .ref a :: rest) {W : Nat} (hW : (rest.map fun v => v.category).sum ≤ W)
    (hf : rm.frames + 1 ≤ R.frames) (hl : W + (maxL + 11) + rm.locals ≤ R.locals) (hc : cells + rm.cells ≤ R.cells) (hs : slots + rm.slots ≤ R.slots) (hN : Fr n0 locs) (hd : decode c.code pc = .ok (.invokevirtual i, 3)) (hp : pc + 3 = pc')
    (k : ∀ v T' locs', Stand p l e R s m args below meth c T' locs' (cells + rm.cells) (slots + rm.slots) → Fr n0 locs' → Qy v T'.heap → Goes p e s below Q n0 C N T' (mkF m pc' Ls (v.toList ++ rest))) : Goes p e s below Q n0 C N T (mkF m pc Ls st) := by
  subst hp has
  obtain ⟨cq, kq, qa, qb, qc⟩ := isOf hZ eT E
  obtain ⟨v, _, ⟨T', L', k', n'⟩, -, X', ⟨L, ⟨hNL, hQ⟩, q1, q2, q3⟩, st'⟩ := X.virtualBack hx (y := y) (z := y) hown (mvT hZ w1) (mvT hZ w2) (notFace_of_selects (args := #[]) (mvT hZ w5)) (mvT hZ w5) (mvT hZ w6) hy (backOf (W := W) (Q := fun v h L => Fr n0 L ∧ Qy v h) hM hZ w4 w3 hf hl) qa qc (g := mkF m pc Ls st) rfl hsz (Steps.refl _) (argsL := argsL) (rest := rest) (lenOf pd hlen) hst (by show 2 * 0 + _ ≤ _; omega) hd (fun _ _ => ⟨rfl, eT, hc, hs⟩)
  dsimp only [Pt.U, Pt.locs, Pt.cells, Pt.slots] at X' q1 q2 q3 st' hQ
  subst q1 q2 q3
  exact (k v T' _ X' (Fr.app hN hNL) hQ).go fun _ z => st'.trans z
/-! int arrays and long arrays, by their values -/
def IA (Z : State) (h : Heap) (a : Addr) (n : Nat) (f : Nat → Int32) : Prop := n < 2147483648 ∧ ∃ c : Cell, Arr Z h a c .int ∧ c.slots.size = n ∧ ∀ i, i < n → c.slots[i]? = some (.int (f i))
def LA (Z : State) (h : Heap) (a : Addr) (n : Nat) (f : Nat → Int64) : Prop := n < 2147483648 ∧ ∃ c : Cell, Arr Z h a c .long ∧ c.slots.size = n ∧ ∀ i, i < n → c.slots[i]? = some (.long (f i))
def zeroI : Nat → Int32 := fun _ => 0
def zeroL : Nat → Int64 := fun _ => 0
def oupd {A : Type} (f : Nat → A) (j : Nat) (v : A) : Nat → A := fun i => if i = j then v else f i
theorem nclamp {j : Int32} {k : Nat} (hj : j.toInt = (k : Int)) : j.toNatClampNeg = k ∧ ¬ j < 0 := by
  refine ⟨by simp only [Int32.toNatClampNeg, hj]; rfl, fun z => ?_⟩
  rw [Int32.lt_iff_toInt_lt, hj] at z; have : (0 : Int32).toInt = 0 := rfl; omega
theorem nin {j : Int32} {k n : Nat} (hj : j.toInt = (k : Int)) (hk : k < n) : ¬ (j < 0 ∨ n ≤ j.toNatClampNeg) := by
  obtain ⟨q1, q2⟩ := nclamp hj; rw [q1]; rintro (z | z)
  · exact q2 z
  · omega
theorem len32 {n : Nat} (hn : n < 2147483648) : (n.toInt32).toInt = (n : Int) := len_toInt hn
theorem g_iloadN (X : Stand p l e R s m args below meth c T locs cells slots) (hx : p.tables.exec = Jvm.exec) {k : Fin 4} {v : Int32} (hd : decode c.code pc = .ok (.iload_n k, 1)) (hl : Ls[k.val]? = some (.val (.int v))) (hp : pc + 1 = pc')
    (k : Goes p e s below Q n0 C N T (mkF m pc' Ls (.int v :: st))) : Goes p e s below Q n0 C N T (mkF m pc Ls (st)) := by
  subst hp; exact k.go fun _ q => XS.iloadN X.here hx rfl hd hl q
theorem g_iload (X : Stand p l e R s m args below meth c T locs cells slots) (hx : p.tables.exec = Jvm.exec) {k : Nat} {v : Int32} (hd : decode c.code pc = .ok (.iload k, 2)) (hl : Ls[k]? = some (.val (.int v))) (hp : pc + 2 = pc')
    (k : Goes p e s below Q n0 C N T (mkF m pc' Ls (.int v :: st))) : Goes p e s below Q n0 C N T (mkF m pc Ls (st)) := by
  subst hp; exact k.go fun _ q => XS.iload X.here hx rfl hd hl q
theorem g_lloadN (X : Stand p l e R s m args below meth c T locs cells slots) (hx : p.tables.exec = Jvm.exec) {k : Fin 4} {v : Int64} (hd : decode c.code pc = .ok (.lload_n k, 1)) (hl : Ls[k.val]? = some (.val (.long v))) (hp : pc + 1 = pc')
    (k : Goes p e s below Q n0 C N T (mkF m pc' Ls (.long v :: st))) : Goes p e s below Q n0 C N T (mkF m pc Ls (st)) := by
  subst hp; exact k.go fun _ q => XT.lloadN X.here hx rfl hd hl q
theorem g_lload (X : Stand p l e R s m args below meth c T locs cells slots) (hx : p.tables.exec = Jvm.exec) {k : Nat} {v : Int64} (hd : decode c.code pc = .ok (.lload k, 2)) (hl : Ls[k]? = some (.val (.long v))) (hp : pc + 2 = pc')
    (k : Goes p e s below Q n0 C N T (mkF m pc' Ls (.long v :: st))) : Goes p e s below Q n0 C N T (mkF m pc Ls (st)) := by
  subst hp; exact k.go fun _ q => XT.lload X.here hx rfl hd hl q
theorem g_aloadN (X : Stand p l e R s m args below meth c T locs cells slots) (hx : p.tables.exec = Jvm.exec) {k : Fin 4} {v : Value} (hd : decode c.code pc = .ok (.aload_n k, 1)) (hl : Ls[k.val]? = some (.val v)) (hv : v.isRef = true) (hp : pc + 1 = pc')
    (k : Goes p e s below Q n0 C N T (mkF m pc' Ls (v :: st))) : Goes p e s below Q n0 C N T (mkF m pc Ls (st)) := by
  subst hp; exact k.go fun _ q => XS.aloadN X.here hx rfl hd hl hv q
theorem g_aload (X : Stand p l e R s m args below meth c T locs cells slots) (hx : p.tables.exec = Jvm.exec) {k : Nat} {v : Value} (hd : decode c.code pc = .ok (.aload k, 2)) (hl : Ls[k]? = some (.val v)) (hv : v.isRef = true) (hp : pc + 2 = pc')
    (k : Goes p e s below Q n0 C N T (mkF m pc' Ls (v :: st))) : Goes p e s below Q n0 C N T (mkF m pc Ls (st)) := by
  subst hp; exact k.go fun _ q => XS.aload X.here hx rfl hd hl hv q
theorem g_istoreN (X : Stand p l e R s m args below meth c T locs cells slots) (hx : p.tables.exec = Jvm.exec) {k : Fin 4} {x : Int32} (hd : decode c.code pc = .ok (.istore_n k, 1)) (hl : storeLocals Ls k.val (.int x) = some Ls') (hp : pc + 1 = pc')
    (k : Goes p e s below Q n0 C N T (mkF m pc' Ls' (st))) : Goes p e s below Q n0 C N T (mkF m pc Ls (.int x :: st)) := by
  subst hp; exact k.go fun _ q => XS.istoreN X.here hx rfl hd rfl hl q
theorem g_istore (X : Stand p l e R s m args below meth c T locs cells slots) (hx : p.tables.exec = Jvm.exec) {k : Nat} {x : Int32} (hd : decode c.code pc = .ok (.istore k, 2)) (hl : storeLocals Ls k (.int x) = some Ls') (hp : pc + 2 = pc')
    (k : Goes p e s below Q n0 C N T (mkF m pc' Ls' (st))) : Goes p e s below Q n0 C N T (mkF m pc Ls (.int x :: st)) := by
  subst hp; exact k.go fun _ q => XS.istore X.here hx rfl hd rfl hl q
theorem g_lstoreN (X : Stand p l e R s m args below meth c T locs cells slots) (hx : p.tables.exec = Jvm.exec) {k : Fin 4} {x : Int64} (hd : decode c.code pc = .ok (.lstore_n k, 1)) (hl : storeLocals Ls k.val (.long x) = some Ls') (hp : pc + 1 = pc')
    (k : Goes p e s below Q n0 C N T (mkF m pc' Ls' (st))) : Goes p e s below Q n0 C N T (mkF m pc Ls (.long x :: st)) := by
  subst hp; exact k.go fun _ q => XT.lstoreN X.here hx rfl hd rfl hl q
theorem g_lstore (X : Stand p l e R s m args below meth c T locs cells slots) (hx : p.tables.exec = Jvm.exec) {k : Nat} {x : Int64} (hd : decode c.code pc = .ok (.lstore k, 2)) (hl : storeLocals Ls k (.long x) = some Ls') (hp : pc + 2 = pc')
    (k : Goes p e s below Q n0 C N T (mkF m pc' Ls' (st))) : Goes p e s below Q n0 C N T (mkF m pc Ls (.long x :: st)) := by
  subst hp; exact k.go fun _ q => XT.lstore X.here hx rfl hd rfl hl q
theorem g_astoreN (X : Stand p l e R s m args below meth c T locs cells slots) (hx : p.tables.exec = Jvm.exec) {k : Fin 4} {x : Value} (hd : decode c.code pc = .ok (.astore_n k, 1)) (hv : x.isRef = true) (hl : storeLocals Ls k.val x = some Ls') (hp : pc + 1 = pc')
    (k : Goes p e s below Q n0 C N T (mkF m pc' Ls' (st))) : Goes p e s below Q n0 C N T (mkF m pc Ls (x :: st)) := by
  subst hp; exact k.go fun _ q => XS.astoreN X.here hx rfl hd rfl hv hl q
theorem g_astore (X : Stand p l e R s m args below meth c T locs cells slots) (hx : p.tables.exec = Jvm.exec) {k : Nat} {x : Value} (hd : decode c.code pc = .ok (.astore k, 2)) (hv : x.isRef = true) (hl : storeLocals Ls k x = some Ls') (hp : pc + 2 = pc')
    (k : Goes p e s below Q n0 C N T (mkF m pc' Ls' (st))) : Goes p e s below Q n0 C N T (mkF m pc Ls (x :: st)) := by
  subst hp; exact k.go fun _ q => XS.astore X.here hx rfl hd rfl hv hl q
theorem g_iinc (X : Stand p l e R s m args below meth c T locs cells slots) (hx : p.tables.exec = Jvm.exec) {k : Nat} {cst : Int} {x v : Int32} (hd : decode c.code pc = .ok (.iinc k cst, 3)) (hv : Int32.ofInt cst = v) (hl : Ls[k]? = some (.val (.int x))) (hl' : storeLocals Ls k (.int (x + v)) = some Ls') (hp : pc + 3 = pc')
    (k : Goes p e s below Q n0 C N T (mkF m pc' Ls' (st))) : Goes p e s below Q n0 C N T (mkF m pc Ls (st)) := by
  subst hp; exact k.go fun _ q => XT.iincV X.here hx rfl v hd hv hl hl' q
theorem g_iconst (X : Stand p l e R s m args below meth c T locs cells slots) (hx : p.tables.exec = Jvm.exec) {i : Int} {v : Int32} (hd : decode c.code pc = .ok (.iconst i, 1)) (hv : Int32.ofInt i = v) (hp : pc + 1 = pc')
    (k : Goes p e s below Q n0 C N T (mkF m pc' Ls (.int v :: st))) : Goes p e s below Q n0 C N T (mkF m pc Ls (st)) := by
  subst hp; exact k.go fun _ q => XT.iconstV X.here hx rfl v hd hv q
theorem g_bipush (X : Stand p l e R s m args below meth c T locs cells slots) (hx : p.tables.exec = Jvm.exec) {i : Int} {v : Int32} (hd : decode c.code pc = .ok (.bipush i, 2)) (hv : (Int8.ofInt i).toInt32 = v) (hp : pc + 2 = pc')
    (k : Goes p e s below Q n0 C N T (mkF m pc' Ls (.int v :: st))) : Goes p e s below Q n0 C N T (mkF m pc Ls (st)) := by
  subst hp; exact k.go fun _ q => XT.bipushV X.here hx rfl v hd hv q
theorem g_sipush (X : Stand p l e R s m args below meth c T locs cells slots) (hx : p.tables.exec = Jvm.exec) {i : Int} {v : Int32} (hd : decode c.code pc = .ok (.sipush i, 3)) (hv : (Int16.ofInt i).toInt32 = v) (hp : pc + 3 = pc')
    (k : Goes p e s below Q n0 C N T (mkF m pc' Ls (.int v :: st))) : Goes p e s below Q n0 C N T (mkF m pc Ls (st)) := by
  subst hp; exact k.go fun _ q => XT.sipushV X.here hx rfl v hd hv q
theorem g_lconst (X : Stand p l e R s m args below meth c T locs cells slots) (hx : p.tables.exec = Jvm.exec) {k : Fin 2} {v : Int64} (hd : decode c.code pc = .ok (.lconst k, 1)) (hv : Int64.ofNat k = v) (hp : pc + 1 = pc')
    (k : Goes p e s below Q n0 C N T (mkF m pc' Ls (.long v :: st))) : Goes p e s below Q n0 C N T (mkF m pc Ls (st)) := by
  subst hp; exact k.go fun _ q => XT.lconstV X.here hx rfl v hd hv q
theorem g_null (X : Stand p l e R s m args below meth c T locs cells slots) (hx : p.tables.exec = Jvm.exec)  (hd : decode c.code pc = .ok (.aconst_null, 1))  (hp : pc + 1 = pc')
    (k : Goes p e s below Q n0 C N T (mkF m pc' Ls (.null :: st))) : Goes p e s below Q n0 C N T (mkF m pc Ls (st)) := by
  subst hp; exact k.go fun _ q => XS.aconstNull X.here hx rfl hd q
theorem g_ldc (X : Stand p l e R s m args below meth c T locs cells slots) (hx : p.tables.exec = Jvm.exec) (hZ : Z.Warmed39 s.vm) {own : String} {i : Nat} (hown : s.vm.findClass own = some m.cls) {v : Int32} (hd : decode c.code pc = .ok (.ldc i, 2)) (w : (Cond.constant own i v).before a0 Z = true) (hp : pc + 2 = pc')
    (k : Goes p e s below Q n0 C N T (mkF m pc' Ls (.int v :: st))) : Goes p e s below Q n0 C N T (mkF m pc Ls (st)) := by
  subst hp; exact k.go fun _ q => X.ldcI hx hown (mvT hZ w) rfl hd q
theorem g_ldcW (X : Stand p l e R s m args below meth c T locs cells slots) (hx : p.tables.exec = Jvm.exec) (hZ : Z.Warmed39 s.vm) {own : String} {i : Nat} (hown : s.vm.findClass own = some m.cls) {v : Int32} (hd : decode c.code pc = .ok (.ldc_w i, 3)) (w : (Cond.constant own i v).before a0 Z = true) (hp : pc + 3 = pc')
    (k : Goes p e s below Q n0 C N T (mkF m pc' Ls (.int v :: st))) : Goes p e s below Q n0 C N T (mkF m pc Ls (st)) := by
  subst hp; exact k.go fun _ q => X.ldcWI hx hown (mvT hZ w) rfl hd q
theorem g_ldc2 (X : Stand p l e R s m args below meth c T locs cells slots) (hx : p.tables.exec = Jvm.exec) (hZ : Z.Warmed39 s.vm) {own : String} {i : Nat} (hown : s.vm.findClass own = some m.cls) {v : Int64} (hd : decode c.code pc = .ok (.ldc2_w i, 3)) (w : (Cond.constantLong own i v).before a0 Z = true) (hp : pc + 3 = pc')
    (k : Goes p e s below Q n0 C N T (mkF m pc' Ls (.long v :: st))) : Goes p e s below Q n0 C N T (mkF m pc Ls (st)) := by
  subst hp; exact k.go fun _ q => X.ldc2J hx hown (mvT hZ w) rfl hd q
theorem g_iadd (X : Stand p l e R s m args below meth c T locs cells slots) (hx : p.tables.exec = Jvm.exec) {x y : Int32} (hd : decode c.code pc = .ok (.iadd, 1))  (hp : pc + 1 = pc')
    (k : Goes p e s below Q n0 C N T (mkF m pc' Ls (.int (x + y) :: st))) : Goes p e s below Q n0 C N T (mkF m pc Ls (.int y :: .int x :: st)) := by
  subst hp; exact k.go fun _ q => XS.iadd X.here hx rfl hd rfl q
theorem g_isub (X : Stand p l e R s m args below meth c T locs cells slots) (hx : p.tables.exec = Jvm.exec) {x y : Int32} (hd : decode c.code pc = .ok (.isub, 1))  (hp : pc + 1 = pc')
    (k : Goes p e s below Q n0 C N T (mkF m pc' Ls (.int (x - y) :: st))) : Goes p e s below Q n0 C N T (mkF m pc Ls (.int y :: .int x :: st)) := by
  subst hp; exact k.go fun _ q => XS.isub X.here hx rfl hd rfl q
theorem g_iand (X : Stand p l e R s m args below meth c T locs cells slots) (hx : p.tables.exec = Jvm.exec) {x y : Int32} (hd : decode c.code pc = .ok (.iand, 1))  (hp : pc + 1 = pc')
    (k : Goes p e s below Q n0 C N T (mkF m pc' Ls (.int (x &&& y) :: st))) : Goes p e s below Q n0 C N T (mkF m pc Ls (.int y :: .int x :: st)) := by
  subst hp; exact k.go fun _ q => XS.iand X.here hx rfl hd rfl q
theorem g_imul (X : Stand p l e R s m args below meth c T locs cells slots) (hx : p.tables.exec = Jvm.exec) {x y : Int32} (hd : decode c.code pc = .ok (.imul, 1))  (hp : pc + 1 = pc')
    (k : Goes p e s below Q n0 C N T (mkF m pc' Ls (.int (x * y) :: st))) : Goes p e s below Q n0 C N T (mkF m pc Ls (.int y :: .int x :: st)) := by
  subst hp; exact k.go fun _ q => XS.imul X.here hx rfl hd rfl q
theorem g_ior (X : Stand p l e R s m args below meth c T locs cells slots) (hx : p.tables.exec = Jvm.exec) {x y : Int32} (hd : decode c.code pc = .ok (.ior, 1))  (hp : pc + 1 = pc')
    (k : Goes p e s below Q n0 C N T (mkF m pc' Ls (.int (x ||| y) :: st))) : Goes p e s below Q n0 C N T (mkF m pc Ls (.int y :: .int x :: st)) := by
  subst hp; exact k.go fun _ q => XT.ior X.here hx rfl hd rfl q
theorem g_ixor (X : Stand p l e R s m args below meth c T locs cells slots) (hx : p.tables.exec = Jvm.exec) {x y : Int32} (hd : decode c.code pc = .ok (.ixor, 1))  (hp : pc + 1 = pc')
    (k : Goes p e s below Q n0 C N T (mkF m pc' Ls (.int (x ^^^ y) :: st))) : Goes p e s below Q n0 C N T (mkF m pc Ls (.int y :: .int x :: st)) := by
  subst hp; exact k.go fun _ q => XT.ixor X.here hx rfl hd rfl q
theorem g_ishl (X : Stand p l e R s m args below meth c T locs cells slots) (hx : p.tables.exec = Jvm.exec) {x y : Int32} (hd : decode c.code pc = .ok (.ishl, 1))  (hp : pc + 1 = pc')
    (k : Goes p e s below Q n0 C N T (mkF m pc' Ls (.int (x <<< (y &&& 31)) :: st))) : Goes p e s below Q n0 C N T (mkF m pc Ls (.int y :: .int x :: st)) := by
  subst hp; exact k.go fun _ q => XT.ishl X.here hx rfl hd rfl q
theorem g_ishr (X : Stand p l e R s m args below meth c T locs cells slots) (hx : p.tables.exec = Jvm.exec) {x y : Int32} (hd : decode c.code pc = .ok (.ishr, 1))  (hp : pc + 1 = pc')
    (k : Goes p e s below Q n0 C N T (mkF m pc' Ls (.int (x >>> (y &&& 31)) :: st))) : Goes p e s below Q n0 C N T (mkF m pc Ls (.int y :: .int x :: st)) := by
  subst hp; exact k.go fun _ q => XT.ishr X.here hx rfl hd rfl q
theorem g_iushr (X : Stand p l e R s m args below meth c T locs cells slots) (hx : p.tables.exec = Jvm.exec) {x y : Int32} (hd : decode c.code pc = .ok (.iushr, 1))  (hp : pc + 1 = pc')
    (k : Goes p e s below Q n0 C N T (mkF m pc' Ls (.int (XT.ushr x y) :: st))) : Goes p e s below Q n0 C N T (mkF m pc Ls (.int y :: .int x :: st)) := by
  subst hp; exact k.go fun _ q => XT.iushr X.here hx rfl hd rfl q
theorem g_ineg (X : Stand p l e R s m args below meth c T locs cells slots) (hx : p.tables.exec = Jvm.exec) {x : Int32} (hd : decode c.code pc = .ok (.ineg, 1))  (hp : pc + 1 = pc')
    (k : Goes p e s below Q n0 C N T (mkF m pc' Ls (.int (-x) :: st))) : Goes p e s below Q n0 C N T (mkF m pc Ls (.int x :: st)) := by
  subst hp; exact k.go fun _ q => XS.ineg X.here hx rfl hd rfl q
theorem g_idiv (X : Stand p l e R s m args below meth c T locs cells slots) (hx : p.tables.exec = Jvm.exec) {x y : Int32} (hd : decode c.code pc = .ok (.idiv, 1)) (hy : y ≠ 0) (hp : pc + 1 = pc')
    (k : Goes p e s below Q n0 C N T (mkF m pc' Ls (.int (x / y) :: st))) : Goes p e s below Q n0 C N T (mkF m pc Ls (.int y :: .int x :: st)) := by
  subst hp; exact k.go fun _ q => XS.idiv X.here hx rfl hd rfl hy q
theorem g_irem (X : Stand p l e R s m args below meth c T locs cells slots) (hx : p.tables.exec = Jvm.exec) {x y : Int32} (hd : decode c.code pc = .ok (.irem, 1)) (hy : y ≠ 0) (hp : pc + 1 = pc')
    (k : Goes p e s below Q n0 C N T (mkF m pc' Ls (.int (x % y) :: st))) : Goes p e s below Q n0 C N T (mkF m pc Ls (.int y :: .int x :: st)) := by
  subst hp; exact k.go fun _ q => iremM X hx rfl hd rfl hy q
theorem g_ladd (X : Stand p l e R s m args below meth c T locs cells slots) (hx : p.tables.exec = Jvm.exec) {x y : Int64} (hd : decode c.code pc = .ok (.ladd, 1))  (hp : pc + 1 = pc')
    (k : Goes p e s below Q n0 C N T (mkF m pc' Ls (.long (x + y) :: st))) : Goes p e s below Q n0 C N T (mkF m pc Ls (.long y :: .long x :: st)) := by
  subst hp; exact k.go fun _ q => XT.ladd X.here hx rfl hd rfl q
theorem g_lsub (X : Stand p l e R s m args below meth c T locs cells slots) (hx : p.tables.exec = Jvm.exec) {x y : Int64} (hd : decode c.code pc = .ok (.lsub, 1))  (hp : pc + 1 = pc')
    (k : Goes p e s below Q n0 C N T (mkF m pc' Ls (.long (x - y) :: st))) : Goes p e s below Q n0 C N T (mkF m pc Ls (.long y :: .long x :: st)) := by
  subst hp; exact k.go fun _ q => XT.lsub X.here hx rfl hd rfl q
theorem g_lmul (X : Stand p l e R s m args below meth c T locs cells slots) (hx : p.tables.exec = Jvm.exec) {x y : Int64} (hd : decode c.code pc = .ok (.lmul, 1))  (hp : pc + 1 = pc')
    (k : Goes p e s below Q n0 C N T (mkF m pc' Ls (.long (x * y) :: st))) : Goes p e s below Q n0 C N T (mkF m pc Ls (.long y :: .long x :: st)) := by
  subst hp; exact k.go fun _ q => XT.lmul X.here hx rfl hd rfl q
theorem g_land (X : Stand p l e R s m args below meth c T locs cells slots) (hx : p.tables.exec = Jvm.exec) {x y : Int64} (hd : decode c.code pc = .ok (.land, 1))  (hp : pc + 1 = pc')
    (k : Goes p e s below Q n0 C N T (mkF m pc' Ls (.long (x &&& y) :: st))) : Goes p e s below Q n0 C N T (mkF m pc Ls (.long y :: .long x :: st)) := by
  subst hp; exact k.go fun _ q => XT.land X.here hx rfl hd rfl q
theorem g_lor (X : Stand p l e R s m args below meth c T locs cells slots) (hx : p.tables.exec = Jvm.exec) {x y : Int64} (hd : decode c.code pc = .ok (.lor, 1))  (hp : pc + 1 = pc')
    (k : Goes p e s below Q n0 C N T (mkF m pc' Ls (.long (x ||| y) :: st))) : Goes p e s below Q n0 C N T (mkF m pc Ls (.long y :: .long x :: st)) := by
  subst hp; exact k.go fun _ q => XT.lor X.here hx rfl hd rfl q
theorem g_lxor (X : Stand p l e R s m args below meth c T locs cells slots) (hx : p.tables.exec = Jvm.exec) {x y : Int64} (hd : decode c.code pc = .ok (.lxor, 1))  (hp : pc + 1 = pc')
    (k : Goes p e s below Q n0 C N T (mkF m pc' Ls (.long (x ^^^ y) :: st))) : Goes p e s below Q n0 C N T (mkF m pc Ls (.long y :: .long x :: st)) := by
  subst hp; exact k.go fun _ q => XT.lxor X.here hx rfl hd rfl q
theorem g_lshl (X : Stand p l e R s m args below meth c T locs cells slots) (hx : p.tables.exec = Jvm.exec) {x : Int64} {y : Int32} (hd : decode c.code pc = .ok (.lshl, 1))  (hp : pc + 1 = pc')
    (k : Goes p e s below Q n0 C N T (mkF m pc' Ls (.long (x <<< (y.toInt64 &&& 63)) :: st))) : Goes p e s below Q n0 C N T (mkF m pc Ls (.int y :: .long x :: st)) := by
  subst hp; exact k.go fun _ q => XT.lshl X.here hx rfl hd rfl q
theorem g_lshr (X : Stand p l e R s m args below meth c T locs cells slots) (hx : p.tables.exec = Jvm.exec) {x : Int64} {y : Int32} (hd : decode c.code pc = .ok (.lshr, 1))  (hp : pc + 1 = pc')
    (k : Goes p e s below Q n0 C N T (mkF m pc' Ls (.long (x >>> (y.toInt64 &&& 63)) :: st))) : Goes p e s below Q n0 C N T (mkF m pc Ls (.int y :: .long x :: st)) := by
  subst hp; exact k.go fun _ q => XT.lshr X.here hx rfl hd rfl q
theorem g_lushr (X : Stand p l e R s m args below meth c T locs cells slots) (hx : p.tables.exec = Jvm.exec) {x : Int64} {y : Int32} (hd : decode c.code pc = .ok (.lushr, 1))  (hp : pc + 1 = pc')
    (k : Goes p e s below Q n0 C N T (mkF m pc' Ls (.long (XT.ushrL x y) :: st))) : Goes p e s below Q n0 C N T (mkF m pc Ls (.int y :: .long x :: st)) := by
  subst hp; exact k.go fun _ q => XT.lushr X.here hx rfl hd rfl q
theorem g_ldiv (X : Stand p l e R s m args below meth c T locs cells slots) (hx : p.tables.exec = Jvm.exec) {x y : Int64} (hd : decode c.code pc = .ok (.ldiv, 1)) (hy : y ≠ 0) (hp : pc + 1 = pc')
    (k : Goes p e s below Q n0 C N T (mkF m pc' Ls (.long (x / y) :: st))) : Goes p e s below Q n0 C N T (mkF m pc Ls (.long y :: .long x :: st)) := by
  subst hp; exact k.go fun _ q => XT.ldiv X.here hx rfl hd rfl hy q
theorem g_lrem (X : Stand p l e R s m args below meth c T locs cells slots) (hx : p.tables.exec = Jvm.exec) {x y : Int64} (hd : decode c.code pc = .ok (.lrem, 1)) (hy : y ≠ 0) (hp : pc + 1 = pc')
    (k : Goes p e s below Q n0 C N T (mkF m pc' Ls (.long (x - (x / y) * y) :: st))) : Goes p e s below Q n0 C N T (mkF m pc Ls (.long y :: .long x :: st)) := by
  subst hp; exact k.go fun _ q => XT.lrem X.here hx rfl hd rfl hy q
theorem g_lneg (X : Stand p l e R s m args below meth c T locs cells slots) (hx : p.tables.exec = Jvm.exec) {x : Int64} (hd : decode c.code pc = .ok (.lneg, 1))  (hp : pc + 1 = pc')
    (k : Goes p e s below Q n0 C N T (mkF m pc' Ls (.long (-x) :: st))) : Goes p e s below Q n0 C N T (mkF m pc Ls (.long x :: st)) := by
  subst hp; exact k.go fun _ q => XT.lneg X.here hx rfl hd rfl q
theorem g_i2l (X : Stand p l e R s m args below meth c T locs cells slots) (hx : p.tables.exec = Jvm.exec) {x : Int32} (hd : decode c.code pc = .ok (.i2l, 1))  (hp : pc + 1 = pc')
    (k : Goes p e s below Q n0 C N T (mkF m pc' Ls (.long x.toInt64 :: st))) : Goes p e s below Q n0 C N T (mkF m pc Ls (.int x :: st)) := by
  subst hp; exact k.go fun _ q => XT.i2l X.here hx rfl hd rfl q
theorem g_l2i (X : Stand p l e R s m args below meth c T locs cells slots) (hx : p.tables.exec = Jvm.exec) {x : Int64} (hd : decode c.code pc = .ok (.l2i, 1))  (hp : pc + 1 = pc')
    (k : Goes p e s below Q n0 C N T (mkF m pc' Ls (.int x.toInt32 :: st))) : Goes p e s below Q n0 C N T (mkF m pc Ls (.long x :: st)) := by
  subst hp; exact k.go fun _ q => XT.l2i X.here hx rfl hd rfl q
theorem g_i2b (X : Stand p l e R s m args below meth c T locs cells slots) (hx : p.tables.exec = Jvm.exec) {x : Int32} (hd : decode c.code pc = .ok (.i2b, 1))  (hp : pc + 1 = pc')
    (k : Goes p e s below Q n0 C N T (mkF m pc' Ls (.int x.toInt8.toInt32 :: st))) : Goes p e s below Q n0 C N T (mkF m pc Ls (.int x :: st)) := by
  subst hp; exact k.go fun _ q => XT.i2b X.here hx rfl hd rfl q
theorem g_dup (X : Stand p l e R s m args below meth c T locs cells slots) (hx : p.tables.exec = Jvm.exec) {v : Value} (hd : decode c.code pc = .ok (.dup, 1)) (hc : v.category = 1) (hp : pc + 1 = pc')
    (k : Goes p e s below Q n0 C N T (mkF m pc' Ls (v :: v :: st))) : Goes p e s below Q n0 C N T (mkF m pc Ls (v :: st)) := by
  subst hp; exact k.go fun _ q => XS.dup X.here hx rfl hd rfl hc q
theorem g_pop (X : Stand p l e R s m args below meth c T locs cells slots) (hx : p.tables.exec = Jvm.exec) {v : Value} (hd : decode c.code pc = .ok (.pop, 1)) (hc : v.category = 1) (hp : pc + 1 = pc')
    (k : Goes p e s below Q n0 C N T (mkF m pc' Ls (st))) : Goes p e s below Q n0 C N T (mkF m pc Ls (v :: st)) := by
  subst hp; exact k.go fun _ q => XT.pop X.here hx rfl hd rfl hc q
theorem g_dupX1 (X : Stand p l e R s m args below meth c T locs cells slots) (hx : p.tables.exec = Jvm.exec) {v w : Value} (hd : decode c.code pc = .ok (.dup_x1, 1)) (hc : v.category = 1) (hc' : w.category = 1) (hp : pc + 1 = pc')
    (k : Goes p e s below Q n0 C N T (mkF m pc' Ls (v :: w :: v :: st))) : Goes p e s below Q n0 C N T (mkF m pc Ls (v :: w :: st)) := by
  subst hp; exact k.go fun _ q => XT.dupX1 X.here hx rfl hd rfl hc hc' q
theorem g_dup2 (X : Stand p l e R s m args below meth c T locs cells slots) (hx : p.tables.exec = Jvm.exec) {v w : Value} (hd : decode c.code pc = .ok (.dup2, 1)) (hc : v.category = 1) (hc' : w.category = 1) (hp : pc + 1 = pc')
    (k : Goes p e s below Q n0 C N T (mkF m pc' Ls (v :: w :: v :: w :: st))) : Goes p e s below Q n0 C N T (mkF m pc Ls (v :: w :: st)) := by
  subst hp; exact k.go fun _ q => XT.dup2 X.here hx rfl hd rfl hc hc' q
theorem g_dup2L (X : Stand p l e R s m args below meth c T locs cells slots) (hx : p.tables.exec = Jvm.exec) {x : Int64} (hd : decode c.code pc = .ok (.dup2, 1))  (hp : pc + 1 = pc')
    (k : Goes p e s below Q n0 C N T (mkF m pc' Ls (.long x :: .long x :: st))) : Goes p e s below Q n0 C N T (mkF m pc Ls (.long x :: st)) := by
  subst hp; exact k.go fun _ q => XT.dup2L X.here hx rfl hd rfl q
theorem g_goto (X : Stand p l e R s m args below meth c T locs cells slots) (hx : p.tables.exec = Jvm.exec) {o : Int} (hd : decode c.code pc = .ok (.goto o, 3)) (ho : 0 ≤ (pc : Int) + o) (hp : ((pc : Int) + o).toNat = pc')
    (k : Goes p e s below Q n0 C N T (mkF m pc' Ls st)) : Goes p e s below Q n0 C N T (mkF m pc Ls st) := k.go fun _ q => XS.goto X.here hx rfl rfl hd ho hp q
theorem g_ii_eq (X : Stand p l e R s m args below meth c T locs cells slots) (hx : p.tables.exec = Jvm.exec) {o : Int} {x y : Int32} {a b : Int} (ha : x.toInt = a) (hb : y.toInt = b) (hd : decode c.code pc = .ok (.if_icmp .eq o, 3)) (ho : 0 ≤ (pc : Int) + o) (hp : ((pc : Int) + o).toNat = pc') {pc2 : Nat} (hp2 : pc + 3 = pc2)
    (kt : a = b → Goes p e s below Q n0 C N T (mkF m pc' Ls st)) (kf : ¬ a = b → Goes p e s below Q n0 C N T (mkF m pc2 Ls st)) : Goes p e s below Q n0 C N T (mkF m pc Ls (.int y :: .int x :: st)) := by
  subst ha hb hp2
  have hw : x = y ↔ x.toInt = y.toInt := Int32.toInt_inj.symm
  by_cases hq : x = y
  · exact (kt (hw.mp hq)).go fun _ q => XS.icmpYes X.here hx rfl rfl hd rfl (XT.ii_eq_t hq) ho hp q
  · exact (kf fun z => hq (hw.mpr z)).go fun _ q => XS.icmpNo X.here hx rfl hd rfl (XT.ii_eq_f hq) q
theorem g_ll_eq (X : Stand p l e R s m args below meth c T locs cells slots) (hx : p.tables.exec = Jvm.exec) {o : Int} {x y : Int64} {a b : Int} (ha : x.toInt = a) (hb : y.toInt = b) (hd1 : decode c.code pc = .ok (.lcmp, 1)) {pc1 : Nat} (hp1 : pc + 1 = pc1) (hd : decode c.code pc1 = .ok (.ifCond .eq o, 3)) (ho : 0 ≤ (pc1 : Int) + o) (hp : ((pc1 : Int) + o).toNat = pc') {pc2 : Nat} (hp2 : pc1 + 3 = pc2)
    (kt : a = b → Goes p e s below Q n0 C N T (mkF m pc' Ls st)) (kf : ¬ a = b → Goes p e s below Q n0 C N T (mkF m pc2 Ls st)) : Goes p e s below Q n0 C N T (mkF m pc Ls (.long y :: .long x :: st)) := by
  subst ha hb hp1 hp2
  refine Goes.go (g' := mkF m (pc + 1) Ls (.int (XT.cmpL x y) :: st)) (fun _ q => XT.lcmp X.here hx rfl hd1 rfl q) ?_
  have hw : x = y ↔ x.toInt = y.toInt := Int64.toInt_inj.symm
  by_cases hq : x = y
  · exact (kt (hw.mp hq)).go fun _ q => XS.ifYes X.here hx rfl rfl hd rfl (XT.ll_eq_t hq) ho hp q
  · exact (kf fun z => hq (hw.mpr z)).go fun _ q => XS.ifNo X.here hx rfl hd rfl (XT.ll_eq_f hq) q
theorem g_i0_eq (X : Stand p l e R s m args below meth c T locs cells slots) (hx : p.tables.exec = Jvm.exec) {o : Int} {x : Int32} {a : Int} (ha : x.toInt = a) (hd : decode c.code pc = .ok (.ifCond .eq o, 3)) (ho : 0 ≤ (pc : Int) + o) (hp : ((pc : Int) + o).toNat = pc') {pc2 : Nat} (hp2 : pc + 3 = pc2)
    (kt : a = 0 → Goes p e s below Q n0 C N T (mkF m pc' Ls st)) (kf : ¬ a = 0 → Goes p e s below Q n0 C N T (mkF m pc2 Ls st)) : Goes p e s below Q n0 C N T (mkF m pc Ls (.int x :: st)) := by
  subst ha hp2
  have hw : x = 0 ↔ x.toInt = 0 := ⟨fun z => by rw [z]; rfl, fun z => Int32.toInt_inj.mp (z.trans rfl)⟩
  by_cases hq : x = 0
  · exact (kt (hw.mp hq)).go fun _ q => XS.ifYes X.here hx rfl rfl hd rfl (XT.i0_eq_t hq) ho hp q
  · exact (kf fun z => hq (hw.mpr z)).go fun _ q => XS.ifNo X.here hx rfl hd rfl (XT.i0_eq_f hq) q
theorem g_ii_ne (X : Stand p l e R s m args below meth c T locs cells slots) (hx : p.tables.exec = Jvm.exec) {o : Int} {x y : Int32} {a b : Int} (ha : x.toInt = a) (hb : y.toInt = b) (hd : decode c.code pc = .ok (.if_icmp .ne o, 3)) (ho : 0 ≤ (pc : Int) + o) (hp : ((pc : Int) + o).toNat = pc') {pc2 : Nat} (hp2 : pc + 3 = pc2)
    (kt : ¬ a = b → Goes p e s below Q n0 C N T (mkF m pc' Ls st)) (kf : a = b → Goes p e s below Q n0 C N T (mkF m pc2 Ls st)) : Goes p e s below Q n0 C N T (mkF m pc Ls (.int y :: .int x :: st)) := by
  subst ha hb hp2
  have hw : x = y ↔ x.toInt = y.toInt := Int32.toInt_inj.symm
  by_cases hq : x = y
  · exact (kf (hw.mp hq)).go fun _ q => XS.icmpNo X.here hx rfl hd rfl (XT.ii_ne_f hq) q
  · exact (kt fun z => hq (hw.mpr z)).go fun _ q => XS.icmpYes X.here hx rfl rfl hd rfl (XT.ii_ne_t hq) ho hp q
theorem g_ll_ne (X : Stand p l e R s m args below meth c T locs cells slots) (hx : p.tables.exec = Jvm.exec) {o : Int} {x y : Int64} {a b : Int} (ha : x.toInt = a) (hb : y.toInt = b) (hd1 : decode c.code pc = .ok (.lcmp, 1)) {pc1 : Nat} (hp1 : pc + 1 = pc1) (hd : decode c.code pc1 = .ok (.ifCond .ne o, 3)) (ho : 0 ≤ (pc1 : Int) + o) (hp : ((pc1 : Int) + o).toNat = pc') {pc2 : Nat} (hp2 : pc1 + 3 = pc2)
    (kt : ¬ a = b → Goes p e s below Q n0 C N T (mkF m pc' Ls st)) (kf : a = b → Goes p e s below Q n0 C N T (mkF m pc2 Ls st)) : Goes p e s below Q n0 C N T (mkF m pc Ls (.long y :: .long x :: st)) := by
  subst ha hb hp1 hp2
  refine Goes.go (g' := mkF m (pc + 1) Ls (.int (XT.cmpL x y) :: st)) (fun _ q => XT.lcmp X.here hx rfl hd1 rfl q) ?_
  have hw : x = y ↔ x.toInt = y.toInt := Int64.toInt_inj.symm
  by_cases hq : x = y
  · exact (kf (hw.mp hq)).go fun _ q => XS.ifNo X.here hx rfl hd rfl (XT.ll_ne_f hq) q
  · exact (kt fun z => hq (hw.mpr z)).go fun _ q => XS.ifYes X.here hx rfl rfl hd rfl (XT.ll_ne_t hq) ho hp q
theorem g_i0_ne (X : Stand p l e R s m args below meth c T locs cells slots) (hx : p.tables.exec = Jvm.exec) {o : Int} {x : Int32} {a : Int} (ha : x.toInt = a) (hd : decode c.code pc = .ok (.ifCond .ne o, 3)) (ho : 0 ≤ (pc : Int) + o) (hp : ((pc : Int) + o).toNat = pc') {pc2 : Nat} (hp2 : pc + 3 = pc2)
    (kt : ¬ a = 0 → Goes p e s below Q n0 C N T (mkF m pc' Ls st)) (kf : a = 0 → Goes p e s below Q n0 C N T (mkF m pc2 Ls st)) : Goes p e s below Q n0 C N T (mkF m pc Ls (.int x :: st)) := by
  subst ha hp2
  have hw : x = 0 ↔ x.toInt = 0 := ⟨fun z => by rw [z]; rfl, fun z => Int32.toInt_inj.mp (z.trans rfl)⟩
  by_cases hq : x = 0
  · exact (kf (hw.mp hq)).go fun _ q => XS.ifNo X.here hx rfl hd rfl (XT.i0_ne_f hq) q
  · exact (kt fun z => hq (hw.mpr z)).go fun _ q => XS.ifYes X.here hx rfl rfl hd rfl (XT.i0_ne_t hq) ho hp q
theorem g_ii_lt (X : Stand p l e R s m args below meth c T locs cells slots) (hx : p.tables.exec = Jvm.exec) {o : Int} {x y : Int32} {a b : Int} (ha : x.toInt = a) (hb : y.toInt = b) (hd : decode c.code pc = .ok (.if_icmp .lt o, 3)) (ho : 0 ≤ (pc : Int) + o) (hp : ((pc : Int) + o).toNat = pc') {pc2 : Nat} (hp2 : pc + 3 = pc2)
    (kt : a < b → Goes p e s below Q n0 C N T (mkF m pc' Ls st)) (kf : ¬ a < b → Goes p e s below Q n0 C N T (mkF m pc2 Ls st)) : Goes p e s below Q n0 C N T (mkF m pc Ls (.int y :: .int x :: st)) := by
  subst ha hb hp2
  have hw : x < y ↔ x.toInt < y.toInt := Int32.lt_iff_toInt_lt
  by_cases hq : x < y
  · exact (kt (hw.mp hq)).go fun _ q => XS.icmpYes X.here hx rfl rfl hd rfl (XT.ii_lt_t hq) ho hp q
  · exact (kf fun z => hq (hw.mpr z)).go fun _ q => XS.icmpNo X.here hx rfl hd rfl (XT.ii_lt_f hq) q
theorem g_ll_lt (X : Stand p l e R s m args below meth c T locs cells slots) (hx : p.tables.exec = Jvm.exec) {o : Int} {x y : Int64} {a b : Int} (ha : x.toInt = a) (hb : y.toInt = b) (hd1 : decode c.code pc = .ok (.lcmp, 1)) {pc1 : Nat} (hp1 : pc + 1 = pc1) (hd : decode c.code pc1 = .ok (.ifCond .lt o, 3)) (ho : 0 ≤ (pc1 : Int) + o) (hp : ((pc1 : Int) + o).toNat = pc') {pc2 : Nat} (hp2 : pc1 + 3 = pc2)
    (kt : a < b → Goes p e s below Q n0 C N T (mkF m pc' Ls st)) (kf : ¬ a < b → Goes p e s below Q n0 C N T (mkF m pc2 Ls st)) : Goes p e s below Q n0 C N T (mkF m pc Ls (.long y :: .long x :: st)) := by
  subst ha hb hp1 hp2
  refine Goes.go (g' := mkF m (pc + 1) Ls (.int (XT.cmpL x y) :: st)) (fun _ q => XT.lcmp X.here hx rfl hd1 rfl q) ?_
  have hw : x < y ↔ x.toInt < y.toInt := Int64.lt_iff_toInt_lt
  by_cases hq : x < y
  · exact (kt (hw.mp hq)).go fun _ q => XS.ifYes X.here hx rfl rfl hd rfl (XT.ll_lt_t hq) ho hp q
  · exact (kf fun z => hq (hw.mpr z)).go fun _ q => XS.ifNo X.here hx rfl hd rfl (XT.ll_lt_f hq) q
theorem g_i0_lt (X : Stand p l e R s m args below meth c T locs cells slots) (hx : p.tables.exec = Jvm.exec) {o : Int} {x : Int32} {a : Int} (ha : x.toInt = a) (hd : decode c.code pc = .ok (.ifCond .lt o, 3)) (ho : 0 ≤ (pc : Int) + o) (hp : ((pc : Int) + o).toNat = pc') {pc2 : Nat} (hp2 : pc + 3 = pc2)
    (kt : a < 0 → Goes p e s below Q n0 C N T (mkF m pc' Ls st)) (kf : ¬ a < 0 → Goes p e s below Q n0 C N T (mkF m pc2 Ls st)) : Goes p e s below Q n0 C N T (mkF m pc Ls (.int x :: st)) := by
  subst ha hp2
  have hw : x < 0 ↔ x.toInt < 0 := Int32.lt_iff_toInt_lt
  by_cases hq : x < 0
  · exact (kt (hw.mp hq)).go fun _ q => XS.ifYes X.here hx rfl rfl hd rfl (XT.i0_lt_t hq) ho hp q
  · exact (kf fun z => hq (hw.mpr z)).go fun _ q => XS.ifNo X.here hx rfl hd rfl (XT.i0_lt_f hq) q
theorem g_ii_ge (X : Stand p l e R s m args below meth c T locs cells slots) (hx : p.tables.exec = Jvm.exec) {o : Int} {x y : Int32} {a b : Int} (ha : x.toInt = a) (hb : y.toInt = b) (hd : decode c.code pc = .ok (.if_icmp .ge o, 3)) (ho : 0 ≤ (pc : Int) + o) (hp : ((pc : Int) + o).toNat = pc') {pc2 : Nat} (hp2 : pc + 3 = pc2)
    (kt : ¬ a < b → Goes p e s below Q n0 C N T (mkF m pc' Ls st)) (kf : a < b → Goes p e s below Q n0 C N T (mkF m pc2 Ls st)) : Goes p e s below Q n0 C N T (mkF m pc Ls (.int y :: .int x :: st)) := by
  subst ha hb hp2
  have hw : x < y ↔ x.toInt < y.toInt := Int32.lt_iff_toInt_lt
  by_cases hq : x < y
  · exact (kf (hw.mp hq)).go fun _ q => XS.icmpNo X.here hx rfl hd rfl (XT.ii_ge_f hq) q
  · exact (kt fun z => hq (hw.mpr z)).go fun _ q => XS.icmpYes X.here hx rfl rfl hd rfl (XT.ii_ge_t hq) ho hp q
theorem g_ll_ge (X : Stand p l e R s m args below meth c T locs cells slots) (hx : p.tables.exec = Jvm.exec) {o : Int} {x y : Int64} {a b : Int} (ha : x.toInt = a) (hb : y.toInt = b) (hd1 : decode c.code pc = .ok (.lcmp, 1)) {pc1 : Nat} (hp1 : pc + 1 = pc1) (hd : decode c.code pc1 = .ok (.ifCond .ge o, 3)) (ho : 0 ≤ (pc1 : Int) + o) (hp : ((pc1 : Int) + o).toNat = pc') {pc2 : Nat} (hp2 : pc1 + 3 = pc2)
    (kt : ¬ a < b → Goes p e s below Q n0 C N T (mkF m pc' Ls st)) (kf : a < b → Goes p e s below Q n0 C N T (mkF m pc2 Ls st)) : Goes p e s below Q n0 C N T (mkF m pc Ls (.long y :: .long x :: st)) := by
  subst ha hb hp1 hp2
  refine Goes.go (g' := mkF m (pc + 1) Ls (.int (XT.cmpL x y) :: st)) (fun _ q => XT.lcmp X.here hx rfl hd1 rfl q) ?_
  have hw : x < y ↔ x.toInt < y.toInt := Int64.lt_iff_toInt_lt
  by_cases hq : x < y
  · exact (kf (hw.mp hq)).go fun _ q => XS.ifNo X.here hx rfl hd rfl (XT.ll_ge_f hq) q
  · exact (kt fun z => hq (hw.mpr z)).go fun _ q => XS.ifYes X.here hx rfl rfl hd rfl (XT.ll_ge_t hq) ho hp q
theorem g_i0_ge (X : Stand p l e R s m args below meth c T locs cells slots) (hx : p.tables.exec = Jvm.exec) {o : Int} {x : Int32} {a : Int} (ha : x.toInt = a) (hd : decode c.code pc = .ok (.ifCond .ge o, 3)) (ho : 0 ≤ (pc : Int) + o) (hp : ((pc : Int) + o).toNat = pc') {pc2 : Nat} (hp2 : pc + 3 = pc2)
    (kt : ¬ a < 0 → Goes p e s below Q n0 C N T (mkF m pc' Ls st)) (kf : a < 0 → Goes p e s below Q n0 C N T (mkF m pc2 Ls st)) : Goes p e s below Q n0 C N T (mkF m pc Ls (.int x :: st)) := by
  subst ha hp2
  have hw : x < 0 ↔ x.toInt < 0 := Int32.lt_iff_toInt_lt
  by_cases hq : x < 0
  · exact (kf (hw.mp hq)).go fun _ q => XS.ifNo X.here hx rfl hd rfl (XT.i0_ge_f hq) q
  · exact (kt fun z => hq (hw.mpr z)).go fun _ q => XS.ifYes X.here hx rfl rfl hd rfl (XT.i0_ge_t hq) ho hp q
theorem g_ii_gt (X : Stand p l e R s m args below meth c T locs cells slots) (hx : p.tables.exec = Jvm.exec) {o : Int} {x y : Int32} {a b : Int} (ha : x.toInt = a) (hb : y.toInt = b) (hd : decode c.code pc = .ok (.if_icmp .gt o, 3)) (ho : 0 ≤ (pc : Int) + o) (hp : ((pc : Int) + o).toNat = pc') {pc2 : Nat} (hp2 : pc + 3 = pc2)
    (kt : b < a → Goes p e s below Q n0 C N T (mkF m pc' Ls st)) (kf : ¬ b < a → Goes p e s below Q n0 C N T (mkF m pc2 Ls st)) : Goes p e s below Q n0 C N T (mkF m pc Ls (.int y :: .int x :: st)) := by
  subst ha hb hp2
  have hw : y < x ↔ y.toInt < x.toInt := Int32.lt_iff_toInt_lt
  by_cases hq : y < x
  · exact (kt (hw.mp hq)).go fun _ q => XS.icmpYes X.here hx rfl rfl hd rfl (XT.ii_gt_t hq) ho hp q
  · exact (kf fun z => hq (hw.mpr z)).go fun _ q => XS.icmpNo X.here hx rfl hd rfl (XT.ii_gt_f hq) q
theorem g_ll_gt (X : Stand p l e R s m args below meth c T locs cells slots) (hx : p.tables.exec = Jvm.exec) {o : Int} {x y : Int64} {a b : Int} (ha : x.toInt = a) (hb : y.toInt = b) (hd1 : decode c.code pc = .ok (.lcmp, 1)) {pc1 : Nat} (hp1 : pc + 1 = pc1) (hd : decode c.code pc1 = .ok (.ifCond .gt o, 3)) (ho : 0 ≤ (pc1 : Int) + o) (hp : ((pc1 : Int) + o).toNat = pc') {pc2 : Nat} (hp2 : pc1 + 3 = pc2)
    (kt : b < a → Goes p e s below Q n0 C N T (mkF m pc' Ls st)) (kf : ¬ b < a → Goes p e s below Q n0 C N T (mkF m pc2 Ls st)) : Goes p e s below Q n0 C N T (mkF m pc Ls (.long y :: .long x :: st)) := by
  subst ha hb hp1 hp2
  refine Goes.go (g' := mkF m (pc + 1) Ls (.int (XT.cmpL x y) :: st)) (fun _ q => XT.lcmp X.here hx rfl hd1 rfl q) ?_
  have hw : y < x ↔ y.toInt < x.toInt := Int64.lt_iff_toInt_lt
  by_cases hq : y < x
  · exact (kt (hw.mp hq)).go fun _ q => XS.ifYes X.here hx rfl rfl hd rfl (XT.ll_gt_t hq) ho hp q
  · exact (kf fun z => hq (hw.mpr z)).go fun _ q => XS.ifNo X.here hx rfl hd rfl (XT.ll_gt_f hq) q
theorem g_i0_gt (X : Stand p l e R s m args below meth c T locs cells slots) (hx : p.tables.exec = Jvm.exec) {o : Int} {x : Int32} {a : Int} (ha : x.toInt = a) (hd : decode c.code pc = .ok (.ifCond .gt o, 3)) (ho : 0 ≤ (pc : Int) + o) (hp : ((pc : Int) + o).toNat = pc') {pc2 : Nat} (hp2 : pc + 3 = pc2)
    (kt : 0 < a → Goes p e s below Q n0 C N T (mkF m pc' Ls st)) (kf : ¬ 0 < a → Goes p e s below Q n0 C N T (mkF m pc2 Ls st)) : Goes p e s below Q n0 C N T (mkF m pc Ls (.int x :: st)) := by
  subst ha hp2
  have hw : 0 < x ↔ 0 < x.toInt := Int32.lt_iff_toInt_lt
  by_cases hq : 0 < x
  · exact (kt (hw.mp hq)).go fun _ q => XS.ifYes X.here hx rfl rfl hd rfl (XT.i0_gt_t hq) ho hp q
  · exact (kf fun z => hq (hw.mpr z)).go fun _ q => XS.ifNo X.here hx rfl hd rfl (XT.i0_gt_f hq) q
theorem g_ii_le (X : Stand p l e R s m args below meth c T locs cells slots) (hx : p.tables.exec = Jvm.exec) {o : Int} {x y : Int32} {a b : Int} (ha : x.toInt = a) (hb : y.toInt = b) (hd : decode c.code pc = .ok (.if_icmp .le o, 3)) (ho : 0 ≤ (pc : Int) + o) (hp : ((pc : Int) + o).toNat = pc') {pc2 : Nat} (hp2 : pc + 3 = pc2)
    (kt : ¬ b < a → Goes p e s below Q n0 C N T (mkF m pc' Ls st)) (kf : b < a → Goes p e s below Q n0 C N T (mkF m pc2 Ls st)) : Goes p e s below Q n0 C N T (mkF m pc Ls (.int y :: .int x :: st)) := by
  subst ha hb hp2
  have hw : y < x ↔ y.toInt < x.toInt := Int32.lt_iff_toInt_lt
  by_cases hq : y < x
  · exact (kf (hw.mp hq)).go fun _ q => XS.icmpNo X.here hx rfl hd rfl (XT.ii_le_f hq) q
  · exact (kt fun z => hq (hw.mpr z)).go fun _ q => XS.icmpYes X.here hx rfl rfl hd rfl (XT.ii_le_t hq) ho hp q
theorem g_ll_le (X : Stand p l e R s m args below meth c T locs cells slots) (hx : p.tables.exec = Jvm.exec) {o : Int} {x y : Int64} {a b : Int} (ha : x.toInt = a) (hb : y.toInt = b) (hd1 : decode c.code pc = .ok (.lcmp, 1)) {pc1 : Nat} (hp1 : pc + 1 = pc1) (hd : decode c.code pc1 = .ok (.ifCond .le o, 3)) (ho : 0 ≤ (pc1 : Int) + o) (hp : ((pc1 : Int) + o).toNat = pc') {pc2 : Nat} (hp2 : pc1 + 3 = pc2)
    (kt : ¬ b < a → Goes p e s below Q n0 C N T (mkF m pc' Ls st)) (kf : b < a → Goes p e s below Q n0 C N T (mkF m pc2 Ls st)) : Goes p e s below Q n0 C N T (mkF m pc Ls (.long y :: .long x :: st)) := by
  subst ha hb hp1 hp2
  refine Goes.go (g' := mkF m (pc + 1) Ls (.int (XT.cmpL x y) :: st)) (fun _ q => XT.lcmp X.here hx rfl hd1 rfl q) ?_
  have hw : y < x ↔ y.toInt < x.toInt := Int64.lt_iff_toInt_lt
  by_cases hq : y < x
  · exact (kf (hw.mp hq)).go fun _ q => XS.ifNo X.here hx rfl hd rfl (XT.ll_le_f hq) q
  · exact (kt fun z => hq (hw.mpr z)).go fun _ q => XS.ifYes X.here hx rfl rfl hd rfl (XT.ll_le_t hq) ho hp q
theorem g_i0_le (X : Stand p l e R s m args below meth c T locs cells slots) (hx : p.tables.exec = Jvm.exec) {o : Int} {x : Int32} {a : Int} (ha : x.toInt = a) (hd : decode c.code pc = .ok (.ifCond .le o, 3)) (ho : 0 ≤ (pc : Int) + o) (hp : ((pc : Int) + o).toNat = pc') {pc2 : Nat} (hp2 : pc + 3 = pc2)
    (kt : ¬ 0 < a → Goes p e s below Q n0 C N T (mkF m pc' Ls st)) (kf : 0 < a → Goes p e s below Q n0 C N T (mkF m pc2 Ls st)) : Goes p e s below Q n0 C N T (mkF m pc Ls (.int x :: st)) := by
  subst ha hp2
  have hw : 0 < x ↔ 0 < x.toInt := Int32.lt_iff_toInt_lt
  by_cases hq : 0 < x
  · exact (kf (hw.mp hq)).go fun _ q => XS.ifNo X.here hx rfl hd rfl (XT.i0_le_f hq) q
  · exact (kt fun z => hq (hw.mpr z)).go fun _ q => XS.ifYes X.here hx rfl rfl hd rfl (XT.i0_le_t hq) ho hp q
theorem g_ifnullYes (X : Stand p l e R s m args below meth c T locs cells slots) (hx : p.tables.exec = Jvm.exec) {o : Int} (hd : decode c.code pc = .ok (.ifnull o, 3)) (ho : 0 ≤ (pc : Int) + o) (hp : ((pc : Int) + o).toNat = pc')
    (k : Goes p e s below Q n0 C N T (mkF m pc' Ls st)) : Goes p e s below Q n0 C N T (mkF m pc Ls (.null :: st)) := k.go fun _ q => XS.ifnullYes X.here hx rfl rfl hd rfl ho hp q
theorem g_ifnullNo (X : Stand p l e R s m args below meth c T locs cells slots) (hx : p.tables.exec = Jvm.exec) {o : Int} {b : Addr} (hd : decode c.code pc = .ok (.ifnull o, 3)) (hp : pc + 3 = pc')
    (k : Goes p e s below Q n0 C N T (mkF m pc' Ls st)) : Goes p e s below Q n0 C N T (mkF m pc Ls (.ref b :: st)) := by
  subst hp; exact k.go fun _ q => XS.ifnullNo X.here hx rfl hd rfl q
theorem g_ifnonnullYes (X : Stand p l e R s m args below meth c T locs cells slots) (hx : p.tables.exec = Jvm.exec) {o : Int} {b : Addr} (hd : decode c.code pc = .ok (.ifnonnull o, 3)) (ho : 0 ≤ (pc : Int) + o) (hp : ((pc : Int) + o).toNat = pc')
    (k : Goes p e s below Q n0 C N T (mkF m pc' Ls st)) : Goes p e s below Q n0 C N T (mkF m pc Ls (.ref b :: st)) := k.go fun _ q => XT.ifnonnullYes X.here hx rfl rfl hd rfl ho hp q
theorem IA.lt {h : Heap} {a n : Nat} {f : Nat → Int32} (F : IA Z h a n f) : a < h.size := by obtain ⟨_, c, A, -⟩ := F; exact A.lt
theorem IA.ext {h h' : Heap} {a n : Nat} {f : Nat → Int32} (F : IA Z h a n f) (E : Ext h h') : IA Z h' a n f := by obtain ⟨q, c, A, r⟩ := F; exact ⟨q, c, A.ext E, r⟩
theorem IA.keep {h h' : Heap} {a n : Nat} {f : Nat → Int32} {ws : List Addr} (F : IA Z h a n f) (K : Keep h h' ws) (q : a ∉ ws) : IA Z h' a n f := by obtain ⟨q', c, A, r⟩ := F; exact ⟨q', c, ⟨K.2.1 a c A.1 q, A.2⟩, r⟩
theorem IA.other {h h' : Heap} {a b n sl : Nat} {f : Nat → Int32} {v : Value} (F : IA Z h b n f) (W : Wr h h' a sl v) (q : b ≠ a) : IA Z h' b n f := by obtain ⟨q', c, A, r⟩ := F; exact ⟨q', c, A.other W q, r⟩
theorem IA.congr {h : Heap} {a n : Nat} {f f' : Nat → Int32} (F : IA Z h a n f) (q : ∀ i, i < n → f i = f' i) : IA Z h a n f' := by obtain ⟨q', c, A, r, s⟩ := F; exact ⟨q', c, A, r, fun i hi => by rw [← q i hi]; exact s i hi⟩
theorem g_iaload (X : Stand p l e R s m args below meth c T locs cells slots) (hx : p.tables.exec = Jvm.exec) (hZ : Z.Warmed39 s.vm) (eT : T.heap = h) {a n k : Nat} {f : Nat → Int32} {j : Int32} (F : IA Z h a n f) (hj : j.toInt = (k : Int)) (hk : k < n) (hd : decode c.code pc = .ok (.iaload, 1)) (hp : pc + 1 = pc')
    (kk : Goes p e s below Q n0 C N T (mkF m pc' Ls (.int (f k) :: st))) : Goes p e s below Q n0 C N T (mkF m pc Ls (.int j :: .ref a :: st)) := by
  subst hp; obtain ⟨-, cl, A, S, H⟩ := F
  exact kk.go fun t q => X.iaload hx (by rw [eT]; exact A.1) (State.isArrayOf_alike hZ.alike A.2.1) A.2.2 (by rw [S]; exact nin hj hk) (by rw [(nclamp hj).1]; exact H k hk) (g := mkF m pc Ls (.int j :: .ref a :: st)) rfl rfl hd t q
theorem g_lenIA (X : Stand p l e R s m args below meth c T locs cells slots) (hx : p.tables.exec = Jvm.exec) (hZ : Z.Warmed39 s.vm) (eT : T.heap = h) {a n : Nat} {f : Nat → Int32} {z : Int32} (F : IA Z h a n f) (hz : z.toInt = (n : Int)) (hd : decode c.code pc = .ok (.arraylength, 1)) (hp : pc + 1 = pc')
    (kk : Goes p e s below Q n0 C N T (mkF m pc' Ls (.int z :: st))) : Goes p e s below Q n0 C N T (mkF m pc Ls (.ref a :: st)) := by
  subst hp; obtain ⟨hn, cl, A, S, H⟩ := F
  have hzz : z = cl.slots.size.toInt32 := Int32.toInt_inj.mp (by rw [S, hz, len32 hn])
  subst hzz
  exact kk.go fun t q => X.arraylength hx (by rw [eT]; exact A.1) (State.isArrayOf_alike hZ.alike A.2.1) (g := mkF m pc Ls (.ref a :: st)) rfl rfl hd t q
theorem g_iastore (X : Stand p l e R s m args below meth c T locs cells slots) (hx : p.tables.exec = Jvm.exec) (hZ : Z.Warmed39 s.vm) (eT : T.heap = h) {a n k : Nat} {f : Nat → Int32} {j : Int32} {x : Int32} (F : IA Z h a n f) (hj : j.toInt = (k : Int)) (hk : k < n) (hN : Fr n0 locs) (ha : n0 ≤ a) (hd : decode c.code pc = .ok (.iastore, 1)) (hp : pc + 1 = pc')
    (kk : ∀ T' h' locs', Stand p l e R s m args below meth c T' locs' cells slots → T'.heap = h' → Wr h h' a k (.int x) → Fr n0 locs' → IA Z h' a n (oupd f k x) → Goes p e s below Q n0 C N T' (mkF m pc' Ls st)) : Goes p e s below Q n0 C N T (mkF m pc Ls (.int x :: .int j :: .ref a :: st)) := by
  subst hp; obtain ⟨hn, cl, A, S, H⟩ := F
  obtain ⟨T', h', X', e', W', st'⟩ := stI X hx hZ eT A (j := j) (x := x) (by rw [S]; exact nin hj hk) (g := mkF m pc Ls (.int x :: .int j :: .ref a :: st)) rfl rfl hd
  rw [(nclamp hj).1] at W' X'
  refine (kk T' h' _ X' e' W' (Fr.snoc X' hN ha) ⟨hn, _, A.same W', by rw [sz_set]; exact S, fun i hi => ?_⟩).go st'
  by_cases q : i = k
  · subst q; simp [Cell.setSlot, oupd, S, hi]
  · have := H i hi
    simp only [Cell.setSlot, oupd, q, if_false]
    rw [Array.getElem?_setIfInBounds_ne (fun z => q z.symm)]; exact this
theorem g_newIA (X : Stand p l e R s m args below meth c T locs cells slots) (hx : p.tables.exec = Jvm.exec) (hZ : Z.Warmed39 s.vm) (w : (Cond.arrayClass .int).before a0 Z = true) (eT : T.heap = h) {z : Int32} {n : Nat} (hz : z.toInt = (n : Int)) {cap : Nat} (hcap : n ≤ cap) (hb : cap * 8 ≤ 536870912) (hd : decode c.code pc = .ok (.newarray .int, 2)) (hc : cells + 1 ≤ R.cells) (hl : slots + cap ≤ R.slots) (hp : pc + 2 = pc')
    (kk : ∀ T' h' a, a = h.size → Stand p l e R s m args below meth c T' locs (cells + 1) (slots + cap) → T'.heap = h' → Ext h h' → a < h'.size → IA Z h' a n zeroI → Goes p e s below Q n0 C N T' (mkF m pc' Ls (.ref a :: st))) : Goes p e s below Q n0 C N T (mkF m pc Ls (.int z :: st)) := by
  subst hp
  obtain ⟨q1, q2⟩ := nclamp hz
  obtain ⟨T', h', cA, X', e', E', A', st'⟩ := newP X hx hZ (aty := .int) w eT (g := mkF m pc Ls (.int z :: st)) rfl hd (n := z) rfl q2 (cap := cap) (by rw [q1]; exact hcap) hb hc hl
  refine (kk T' h' h.size rfl X' e' E' A'.lt ⟨?_, _, A', by rw [sz_new, q1], fun i hi => ?_⟩).go st'
  · have := z.toInt_lt; omega
  · simp only [newA, q1]; simp [hi]; rfl
theorem LA.lt {h : Heap} {a n : Nat} {f : Nat → Int64} (F : LA Z h a n f) : a < h.size := by obtain ⟨_, c, A, -⟩ := F; exact A.lt
theorem LA.ext {h h' : Heap} {a n : Nat} {f : Nat → Int64} (F : LA Z h a n f) (E : Ext h h') : LA Z h' a n f := by obtain ⟨q, c, A, r⟩ := F; exact ⟨q, c, A.ext E, r⟩
theorem LA.keep {h h' : Heap} {a n : Nat} {f : Nat → Int64} {ws : List Addr} (F : LA Z h a n f) (K : Keep h h' ws) (q : a ∉ ws) : LA Z h' a n f := by obtain ⟨q', c, A, r⟩ := F; exact ⟨q', c, ⟨K.2.1 a c A.1 q, A.2⟩, r⟩
theorem LA.other {h h' : Heap} {a b n sl : Nat} {f : Nat → Int64} {v : Value} (F : LA Z h b n f) (W : Wr h h' a sl v) (q : b ≠ a) : LA Z h' b n f := by obtain ⟨q', c, A, r⟩ := F; exact ⟨q', c, A.other W q, r⟩
theorem LA.congr {h : Heap} {a n : Nat} {f f' : Nat → Int64} (F : LA Z h a n f) (q : ∀ i, i < n → f i = f' i) : LA Z h a n f' := by obtain ⟨q', c, A, r, s⟩ := F; exact ⟨q', c, A, r, fun i hi => by rw [← q i hi]; exact s i hi⟩
theorem g_laload (X : Stand p l e R s m args below meth c T locs cells slots) (hx : p.tables.exec = Jvm.exec) (hZ : Z.Warmed39 s.vm) (eT : T.heap = h) {a n k : Nat} {f : Nat → Int64} {j : Int32} (F : LA Z h a n f) (hj : j.toInt = (k : Int)) (hk : k < n) (hd : decode c.code pc = .ok (.laload, 1)) (hp : pc + 1 = pc')
    (kk : Goes p e s below Q n0 C N T (mkF m pc' Ls (.long (f k) :: st))) : Goes p e s below Q n0 C N T (mkF m pc Ls (.int j :: .ref a :: st)) := by
  subst hp; obtain ⟨-, cl, A, S, H⟩ := F
  exact kk.go fun t q => X.laload hx (by rw [eT]; exact A.1) (State.isArrayOf_alike hZ.alike A.2.1) A.2.2 (by rw [S]; exact nin hj hk) (by rw [(nclamp hj).1]; exact H k hk) (g := mkF m pc Ls (.int j :: .ref a :: st)) rfl rfl hd t q
theorem g_lenLA (X : Stand p l e R s m args below meth c T locs cells slots) (hx : p.tables.exec = Jvm.exec) (hZ : Z.Warmed39 s.vm) (eT : T.heap = h) {a n : Nat} {f : Nat → Int64} {z : Int32} (F : LA Z h a n f) (hz : z.toInt = (n : Int)) (hd : decode c.code pc = .ok (.arraylength, 1)) (hp : pc + 1 = pc')
    (kk : Goes p e s below Q n0 C N T (mkF m pc' Ls (.int z :: st))) : Goes p e s below Q n0 C N T (mkF m pc Ls (.ref a :: st)) := by
  subst hp; obtain ⟨hn, cl, A, S, H⟩ := F
  have hzz : z = cl.slots.size.toInt32 := Int32.toInt_inj.mp (by rw [S, hz, len32 hn])
  subst hzz
  exact kk.go fun t q => X.arraylength hx (by rw [eT]; exact A.1) (State.isArrayOf_alike hZ.alike A.2.1) (g := mkF m pc Ls (.ref a :: st)) rfl rfl hd t q
theorem g_lastore (X : Stand p l e R s m args below meth c T locs cells slots) (hx : p.tables.exec = Jvm.exec) (hZ : Z.Warmed39 s.vm) (eT : T.heap = h) {a n k : Nat} {f : Nat → Int64} {j : Int32} {x : Int64} (F : LA Z h a n f) (hj : j.toInt = (k : Int)) (hk : k < n) (hN : Fr n0 locs) (ha : n0 ≤ a) (hd : decode c.code pc = .ok (.lastore, 1)) (hp : pc + 1 = pc')
    (kk : ∀ T' h' locs', Stand p l e R s m args below meth c T' locs' cells slots → T'.heap = h' → Wr h h' a k (.long x) → Fr n0 locs' → LA Z h' a n (oupd f k x) → Goes p e s below Q n0 C N T' (mkF m pc' Ls st)) : Goes p e s below Q n0 C N T (mkF m pc Ls (.long x :: .int j :: .ref a :: st)) := by
  subst hp; obtain ⟨hn, cl, A, S, H⟩ := F
  obtain ⟨T', h', X', e', W', st'⟩ := stJ X hx hZ eT A (j := j) (x := x) (by rw [S]; exact nin hj hk) (g := mkF m pc Ls (.long x :: .int j :: .ref a :: st)) rfl rfl hd
  rw [(nclamp hj).1] at W' X'
  refine (kk T' h' _ X' e' W' (Fr.snoc X' hN ha) ⟨hn, _, A.same W', by rw [sz_set]; exact S, fun i hi => ?_⟩).go st'
  by_cases q : i = k
  · subst q; simp [Cell.setSlot, oupd, S, hi]
  · have := H i hi
    simp only [Cell.setSlot, oupd, q, if_false]
    rw [Array.getElem?_setIfInBounds_ne (fun z => q z.symm)]; exact this
theorem g_newLA (X : Stand p l e R s m args below meth c T locs cells slots) (hx : p.tables.exec = Jvm.exec) (hZ : Z.Warmed39 s.vm) (w : (Cond.arrayClass .long).before a0 Z = true) (eT : T.heap = h) {z : Int32} {n : Nat} (hz : z.toInt = (n : Int)) {cap : Nat} (hcap : n ≤ cap) (hb : cap * 8 ≤ 536870912) (hd : decode c.code pc = .ok (.newarray .long, 2)) (hc : cells + 1 ≤ R.cells) (hl : slots + cap ≤ R.slots) (hp : pc + 2 = pc')
    (kk : ∀ T' h' a, a = h.size → Stand p l e R s m args below meth c T' locs (cells + 1) (slots + cap) → T'.heap = h' → Ext h h' → a < h'.size → LA Z h' a n zeroL → Goes p e s below Q n0 C N T' (mkF m pc' Ls (.ref a :: st))) : Goes p e s below Q n0 C N T (mkF m pc Ls (.int z :: st)) := by
  subst hp
  obtain ⟨q1, q2⟩ := nclamp hz
  obtain ⟨T', h', cA, X', e', E', A', st'⟩ := newP X hx hZ (aty := .long) w eT (g := mkF m pc Ls (.int z :: st)) rfl hd (n := z) rfl q2 (cap := cap) (by rw [q1]; exact hcap) hb hc hl
  refine (kk T' h' h.size rfl X' e' E' A'.lt ⟨?_, _, A', by rw [sz_new, q1], fun i hi => ?_⟩).go st'
  · have := z.toInt_lt; omega
  · simp only [newA, q1]; simp [hi]; rfl
/-! numbers -/
theorem all_succ {P : Nat → Prop} {i : Nat} (h : ∀ y, y < i → P y) (hi : P i) : ∀ y, y < i + 1 → P y := fun y hy => by
  by_cases q : y = i
  · exact q ▸ hi
  · exact h y (by omega)
theorem oupd_at {A : Type} (f : Nat → A) (j : Nat) (v : A) : oupd f j v j = v := by simp [oupd]
theorem oupd_ne {A : Type} (f : Nat → A) {i j : Nat} (v : A) (q : ¬ i = j) : oupd f j v i = f i := by simp [oupd, q]
theorem i32_of_nat (n : Nat) (hn : n < 2147483648) : (Int32.ofNat n).toInt = (n : Int) := by
  rw [Int32.toInt_ofNat']; have hsz : (Int32.size : Int) = 4294967296 := rfl; exact Int.bmod_eq_of_le (by omega) (by omega)
theorem i32_get {x : Int32} (h : 0 ≤ x.toInt) : ∃ n : Nat, x.toInt = (n : Int) ∧ n < 2147483648 := ⟨x.toInt.toNat, (Int.toNat_of_nonneg h).symm, by have := x.toInt_lt; omega⟩
theorem oupdI (f : Nat → Int32) (j i : Nat) (v : Int32) : i = j ∧ (oupd f j v i).toInt = v.toInt ∨ ¬ i = j ∧ (oupd f j v i).toInt = (f i).toInt := by
  by_cases q : i = j
  · exact Or.inl ⟨q, by simp [oupd, q]⟩
  · exact Or.inr ⟨q, by simp [oupd, q]⟩
theorem oupdL (f : Nat → Int64) (j i : Nat) (v : Int64) : i = j ∧ (oupd f j v i).toInt = v.toInt ∨ ¬ i = j ∧ (oupd f j v i).toInt = (f i).toInt := by
  by_cases q : i = j
  · exact Or.inl ⟨q, by simp [oupd, q]⟩
  · exact Or.inr ⟨q, by simp [oupd, q]⟩
end Laws
end Jvm.OwnKit

namespace Jvm.Pilot.@@N@@
open Jvm Jvm.ClassFile Sem Op Lib Jvm.Free Jvm.Stand Jvm.LawKit Jvm.RoadKit Bundle Jvm.OwnKit Jvm.Pilot.@@N@@.Jvm.D
abbrev own_start (c : Int) : Prop := (65 ≤ c ∧ c ≤ 90) ∨ c = 95 ∨ (97 ≤ c ∧ c ≤ 122) ∨ (192 ≤ c ∧ c ≤ 214) ∨ (216 ≤ c ∧ c ≤ 246) ∨ (248 ≤ c ∧ c ≤ 767) ∨ (880 ≤ c ∧ c ≤ 893) ∨ (895 ≤ c ∧ c ≤ 8191) ∨ (8204 ≤ c ∧ c ≤ 8205) ∨ (8304 ≤ c ∧ c ≤ 8591) ∨ (11264 ≤ c ∧ c ≤ 12271) ∨ (12289 ≤ c ∧ c ≤ 55295) ∨ (63744 ≤ c ∧ c ≤ 64975) ∨ (65008 ≤ c ∧ c ≤ 65533) ∨ (65536 ≤ c ∧ c ≤ 983039)
theorem d2_0 : decode prog_19_method_6_code 0 = .ok (.iload_n 0, 1) := by decide +kernel
theorem d2_1 : decode prog_19_method_6_code 1 = .ok (.bipush 65, 2) := by decide +kernel
theorem d2_3 : decode prog_19_method_6_code 3 = .ok (.if_icmp .lt 9, 3) := by decide +kernel
theorem d2_6 : decode prog_19_method_6_code 6 = .ok (.iload_n 0, 1) := by decide +kernel
theorem d2_7 : decode prog_19_method_6_code 7 = .ok (.bipush 90, 2) := by decide +kernel
theorem d2_9 : decode prog_19_method_6_code 9 = .ok (.if_icmp .le 182, 3) := by decide +kernel
theorem d2_12 : decode prog_19_method_6_code 12 = .ok (.iload_n 0, 1) := by decide +kernel
theorem d2_13 : decode prog_19_method_6_code 13 = .ok (.bipush 95, 2) := by decide +kernel
theorem d2_15 : decode prog_19_method_6_code 15 = .ok (.if_icmp .eq 176, 3) := by decide +kernel
theorem d2_18 : decode prog_19_method_6_code 18 = .ok (.iload_n 0, 1) := by decide +kernel
theorem d2_19 : decode prog_19_method_6_code 19 = .ok (.bipush 97, 2) := by decide +kernel
theorem d2_21 : decode prog_19_method_6_code 21 = .ok (.if_icmp .lt 9, 3) := by decide +kernel
theorem d2_24 : decode prog_19_method_6_code 24 = .ok (.iload_n 0, 1) := by decide +kernel
theorem d2_25 : decode prog_19_method_6_code 25 = .ok (.bipush 122, 2) := by decide +kernel
theorem d2_27 : decode prog_19_method_6_code 27 = .ok (.if_icmp .le 164, 3) := by decide +kernel
theorem d2_30 : decode prog_19_method_6_code 30 = .ok (.iload_n 0, 1) := by decide +kernel
theorem d2_31 : decode prog_19_method_6_code 31 = .ok (.sipush 192, 3) := by decide +kernel
theorem d2_34 : decode prog_19_method_6_code 34 = .ok (.if_icmp .lt 10, 3) := by decide +kernel
theorem d2_37 : decode prog_19_method_6_code 37 = .ok (.iload_n 0, 1) := by decide +kernel
theorem d2_38 : decode prog_19_method_6_code 38 = .ok (.sipush 214, 3) := by decide +kernel
theorem d2_41 : decode prog_19_method_6_code 41 = .ok (.if_icmp .le 150, 3) := by decide +kernel
theorem d2_44 : decode prog_19_method_6_code 44 = .ok (.iload_n 0, 1) := by decide +kernel
theorem d2_45 : decode prog_19_method_6_code 45 = .ok (.sipush 216, 3) := by decide +kernel
theorem d2_48 : decode prog_19_method_6_code 48 = .ok (.if_icmp .lt 10, 3) := by decide +kernel
theorem d2_51 : decode prog_19_method_6_code 51 = .ok (.iload_n 0, 1) := by decide +kernel
theorem d2_52 : decode prog_19_method_6_code 52 = .ok (.sipush 246, 3) := by decide +kernel
theorem d2_55 : decode prog_19_method_6_code 55 = .ok (.if_icmp .le 136, 3) := by decide +kernel
theorem d2_58 : decode prog_19_method_6_code 58 = .ok (.iload_n 0, 1) := by decide +kernel
theorem d2_59 : decode prog_19_method_6_code 59 = .ok (.sipush 248, 3) := by decide +kernel
theorem d2_62 : decode prog_19_method_6_code 62 = .ok (.if_icmp .lt 10, 3) := by decide +kernel
theorem d2_65 : decode prog_19_method_6_code 65 = .ok (.iload_n 0, 1) := by decide +kernel
theorem d2_66 : decode prog_19_method_6_code 66 = .ok (.sipush 767, 3) := by decide +kernel
theorem d2_69 : decode prog_19_method_6_code 69 = .ok (.if_icmp .le 122, 3) := by decide +kernel
theorem d2_72 : decode prog_19_method_6_code 72 = .ok (.iload_n 0, 1) := by decide +kernel
theorem d2_73 : decode prog_19_method_6_code 73 = .ok (.sipush 880, 3) := by decide +kernel
theorem d2_76 : decode prog_19_method_6_code 76 = .ok (.if_icmp .lt 10, 3) := by decide +kernel
theorem d2_79 : decode prog_19_method_6_code 79 = .ok (.iload_n 0, 1) := by decide +kernel
theorem d2_80 : decode prog_19_method_6_code 80 = .ok (.sipush 893, 3) := by decide +kernel
theorem d2_83 : decode prog_19_method_6_code 83 = .ok (.if_icmp .le 108, 3) := by decide +kernel
theorem d2_86 : decode prog_19_method_6_code 86 = .ok (.iload_n 0, 1) := by decide +kernel
theorem d2_87 : decode prog_19_method_6_code 87 = .ok (.sipush 895, 3) := by decide +kernel
theorem d2_90 : decode prog_19_method_6_code 90 = .ok (.if_icmp .lt 10, 3) := by decide +kernel
theorem d2_93 : decode prog_19_method_6_code 93 = .ok (.iload_n 0, 1) := by decide +kernel
theorem d2_94 : decode prog_19_method_6_code 94 = .ok (.sipush 8191, 3) := by decide +kernel
theorem d2_97 : decode prog_19_method_6_code 97 = .ok (.if_icmp .le 94, 3) := by decide +kernel
theorem d2_100 : decode prog_19_method_6_code 100 = .ok (.iload_n 0, 1) := by decide +kernel
theorem d2_101 : decode prog_19_method_6_code 101 = .ok (.sipush 8204, 3) := by decide +kernel
theorem d2_104 : decode prog_19_method_6_code 104 = .ok (.if_icmp .lt 10, 3) := by decide +kernel
theorem d2_107 : decode prog_19_method_6_code 107 = .ok (.iload_n 0, 1) := by decide +kernel
theorem d2_108 : decode prog_19_method_6_code 108 = .ok (.sipush 8205, 3) := by decide +kernel
theorem d2_111 : decode prog_19_method_6_code 111 = .ok (.if_icmp .le 80, 3) := by decide +kernel
theorem d2_114 : decode prog_19_method_6_code 114 = .ok (.iload_n 0, 1) := by decide +kernel
theorem d2_115 : decode prog_19_method_6_code 115 = .ok (.sipush 8304, 3) := by decide +kernel
theorem d2_118 : decode prog_19_method_6_code 118 = .ok (.if_icmp .lt 10, 3) := by decide +kernel
theorem d2_121 : decode prog_19_method_6_code 121 = .ok (.iload_n 0, 1) := by decide +kernel
theorem d2_122 : decode prog_19_method_6_code 122 = .ok (.sipush 8591, 3) := by decide +kernel
theorem d2_125 : decode prog_19_method_6_code 125 = .ok (.if_icmp .le 66, 3) := by decide +kernel
theorem d2_128 : decode prog_19_method_6_code 128 = .ok (.iload_n 0, 1) := by decide +kernel
theorem d2_129 : decode prog_19_method_6_code 129 = .ok (.sipush 11264, 3) := by decide +kernel
theorem d2_132 : decode prog_19_method_6_code 132 = .ok (.if_icmp .lt 10, 3) := by decide +kernel
theorem d2_135 : decode prog_19_method_6_code 135 = .ok (.iload_n 0, 1) := by decide +kernel
theorem d2_136 : decode prog_19_method_6_code 136 = .ok (.sipush 12271, 3) := by decide +kernel
theorem d2_139 : decode prog_19_method_6_code 139 = .ok (.if_icmp .le 52, 3) := by decide +kernel
theorem d2_142 : decode prog_19_method_6_code 142 = .ok (.iload_n 0, 1) := by decide +kernel
theorem d2_143 : decode prog_19_method_6_code 143 = .ok (.sipush 12289, 3) := by decide +kernel
theorem d2_146 : decode prog_19_method_6_code 146 = .ok (.if_icmp .lt 9, 3) := by decide +kernel
theorem d2_149 : decode prog_19_method_6_code 149 = .ok (.iload_n 0, 1) := by decide +kernel
theorem d2_150 : decode prog_19_method_6_code 150 = .ok (.ldc 61, 2) := by decide +kernel
theorem d2_152 : decode prog_19_method_6_code 152 = .ok (.if_icmp .le 39, 3) := by decide +kernel
theorem d2_155 : decode prog_19_method_6_code 155 = .ok (.iload_n 0, 1) := by decide +kernel
theorem d2_156 : decode prog_19_method_6_code 156 = .ok (.ldc 62, 2) := by decide +kernel
theorem d2_158 : decode prog_19_method_6_code 158 = .ok (.if_icmp .lt 9, 3) := by decide +kernel
theorem d2_161 : decode prog_19_method_6_code 161 = .ok (.iload_n 0, 1) := by decide +kernel
theorem d2_162 : decode prog_19_method_6_code 162 = .ok (.ldc 63, 2) := by decide +kernel
theorem d2_164 : decode prog_19_method_6_code 164 = .ok (.if_icmp .le 27, 3) := by decide +kernel
theorem d2_167 : decode prog_19_method_6_code 167 = .ok (.iload_n 0, 1) := by decide +kernel
theorem d2_168 : decode prog_19_method_6_code 168 = .ok (.ldc 64, 2) := by decide +kernel
theorem d2_170 : decode prog_19_method_6_code 170 = .ok (.if_icmp .lt 9, 3) := by decide +kernel
theorem d2_173 : decode prog_19_method_6_code 173 = .ok (.iload_n 0, 1) := by decide +kernel
theorem d2_174 : decode prog_19_method_6_code 174 = .ok (.ldc 65, 2) := by decide +kernel
theorem d2_176 : decode prog_19_method_6_code 176 = .ok (.if_icmp .le 15, 3) := by decide +kernel
theorem d2_179 : decode prog_19_method_6_code 179 = .ok (.iload_n 0, 1) := by decide +kernel
theorem d2_180 : decode prog_19_method_6_code 180 = .ok (.ldc 66, 2) := by decide +kernel
theorem d2_182 : decode prog_19_method_6_code 182 = .ok (.if_icmp .lt 13, 3) := by decide +kernel
theorem d2_185 : decode prog_19_method_6_code 185 = .ok (.iload_n 0, 1) := by decide +kernel
theorem d2_186 : decode prog_19_method_6_code 186 = .ok (.ldc 67, 2) := by decide +kernel
theorem d2_188 : decode prog_19_method_6_code 188 = .ok (.if_icmp .gt 7, 3) := by decide +kernel
theorem d2_191 : decode prog_19_method_6_code 191 = .ok (.iconst 1, 1) := by decide +kernel
theorem d2_192 : decode prog_19_method_6_code 192 = .ok (.goto 4, 3) := by decide +kernel
theorem d2_195 : decode prog_19_method_6_code 195 = .ok (.iconst 0, 1) := by decide +kernel
theorem d2_196 : decode prog_19_method_6_code 196 = .ok (.ireturn, 1) := by decide +kernel
theorem pn_0 : plainFor (⟨"com/example/coextent/coextent/io/RdfXmlNames", "isNameStart", "(I)Z"⟩ : MethodName) = true := by first | exact plainFor_of_name (by first | (simp [plainName, overriddenIn]; done) | decide +kernel) | decide +kernel
def Q1 (Z : State) (p1 : Int32) (h0 : Heap) (n0 : Nat) (v : Option Value) (h : Heap) : Prop := ∃ b : Int32, v = some (.int b) ∧ ((own_start p1.toInt) ∧ b.toInt = 1 ∨ ¬ (own_start p1.toInt) ∧ b.toInt = 0) ∧ h = h0
abbrev R1 : Room := { frames := 0, cells := 0, slots := 0, locals := 0 }
set_option maxRecDepth 65536 in
set_option maxHeartbeats 40000000 in
theorem rm1 (l : Launch) (Z : State) (a0 : Array Value) (hw : ∀ d ∈ tables_1, d.before a0 Z = true)  (p1 : Int32) (h0 : Heap) (n0 : Nat) (Z0 : n0 ≤ h0.size)  :
    Con l (⟨"com/example/coextent/coextent/io/RdfXmlNames", "isNameStart", "(I)Z"⟩ : MethodName) prog_19_method_6_code 1 (some .boolean) [] R1 Z #[(.int p1)] h0 n0 (Q1 Z p1 h0 n0) := by
  refine con_of (Ls0 := #[.val (.int p1)]) pn_0 (fun m => by first | (simp [entryFrame, mkF, argsToLocals, Value.category, maxLocals]; done) | rfl) ?_
  intro p e s m below meth c s₁ X0 hx hby hml hZ hown hnm hret hlk e0 N0
  show Goes p e s below (Q1 Z p1 h0 n0) n0 R1.cells R1.slots s₁ (mkF m 0 #[.val (.int p1)] [])
  generalize hc : p1.toInt = cc
  have J191 : own_start cc → Goes p e s below (Q1 Z p1 h0 n0) n0 R1.cells R1.slots s₁ (mkF m 191 #[.val (.int p1)] []) := by
    intro j1
    refine g_iconst X0 hx (hb hby d2_191) (v := 1) (by decide) (pc' := 192) rfl ?_
    refine g_goto X0 hx (hb hby d2_192) (by decide) (pc' := 196) (by decide) ?_
    refine g_retZ X0 hx hlk (by decide) hret (hb hby d2_196) N0 (by decide) (by decide) ?_
    exact ⟨_, rfl, by rw [hc]; first | exact Or.inl ⟨by assumption, rfl⟩ | exact Or.inr ⟨by assumption, rfl⟩, e0⟩
  have J195 : ¬ own_start cc → Goes p e s below (Q1 Z p1 h0 n0) n0 R1.cells R1.slots s₁ (mkF m 195 #[.val (.int p1)] []) := by
    intro j2
    refine g_iconst X0 hx (hb hby d2_195) (v := 0) (by decide) (pc' := 196) rfl ?_
    refine g_retZ X0 hx hlk (by decide) hret (hb hby d2_196) N0 (by decide) (by decide) ?_
    exact ⟨_, rfl, by rw [hc]; first | exact Or.inl ⟨by assumption, rfl⟩ | exact Or.inr ⟨by assumption, rfl⟩, e0⟩
  have J179 : ¬ (65 ≤ cc ∧ cc ≤ 90) ∧ ¬ (cc = 95) ∧ ¬ (97 ≤ cc ∧ cc ≤ 122) ∧ ¬ (192 ≤ cc ∧ cc ≤ 214) ∧ ¬ (216 ≤ cc ∧ cc ≤ 246) ∧ ¬ (248 ≤ cc ∧ cc ≤ 767) ∧ ¬ (880 ≤ cc ∧ cc ≤ 893) ∧ ¬ (895 ≤ cc ∧ cc ≤ 8191) ∧ ¬ (8204 ≤ cc ∧ cc ≤ 8205) ∧ ¬ (8304 ≤ cc ∧ cc ≤ 8591) ∧ ¬ (11264 ≤ cc ∧ cc ≤ 12271) ∧ ¬ (12289 ≤ cc ∧ cc ≤ 55295) ∧ ¬ (63744 ≤ cc ∧ cc ≤ 64975) ∧ ¬ (65008 ≤ cc ∧ cc ≤ 65533) → Goes p e s below (Q1 Z p1 h0 n0) n0 R1.cells R1.slots s₁ (mkF m 179 #[.val (.int p1)] []) := by
    intro j3
    refine g_iloadN X0 hx (hb hby d2_179) (v := p1) rfl (pc' := 180) rfl ?_
    refine g_ldc X0 hx hZ hown (hb hby d2_180) (v := 65536) (hw _ (List.mem_of_getElem? (i := 18) rfl)) (pc' := 182) rfl ?_
    refine g_ii_lt X0 hx (a := cc) (b := 65536) hc rfl (hb hby d2_182) (by decide) (pc' := 195) (by decide) (pc2 := 185) rfl (fun c4 => ?_) (fun c4 => ?_)
    · exact J195 (by omega)
    · refine g_iloadN X0 hx (hb hby d2_185) (v := p1) rfl (pc' := 186) rfl ?_
      refine g_ldc X0 hx hZ hown (hb hby d2_186) (v := 983039) (hw _ (List.mem_of_getElem? (i := 29) rfl)) (pc' := 188) rfl ?_
      refine g_ii_gt X0 hx (a := cc) (b := 983039) hc rfl (hb hby d2_188) (by decide) (pc' := 195) (by decide) (pc2 := 191) rfl (fun c5 => ?_) (fun c5 => ?_)
      · exact J195 (by omega)
      · exact J191 (by omega)
  have J167 : ¬ (65 ≤ cc ∧ cc ≤ 90) ∧ ¬ (cc = 95) ∧ ¬ (97 ≤ cc ∧ cc ≤ 122) ∧ ¬ (192 ≤ cc ∧ cc ≤ 214) ∧ ¬ (216 ≤ cc ∧ cc ≤ 246) ∧ ¬ (248 ≤ cc ∧ cc ≤ 767) ∧ ¬ (880 ≤ cc ∧ cc ≤ 893) ∧ ¬ (895 ≤ cc ∧ cc ≤ 8191) ∧ ¬ (8204 ≤ cc ∧ cc ≤ 8205) ∧ ¬ (8304 ≤ cc ∧ cc ≤ 8591) ∧ ¬ (11264 ≤ cc ∧ cc ≤ 12271) ∧ ¬ (12289 ≤ cc ∧ cc ≤ 55295) ∧ ¬ (63744 ≤ cc ∧ cc ≤ 64975) → Goes p e s below (Q1 Z p1 h0 n0) n0 R1.cells R1.slots s₁ (mkF m 167 #[.val (.int p1)] []) := by
    intro j6
    refine g_iloadN X0 hx (hb hby d2_167) (v := p1) rfl (pc' := 168) rfl ?_
    refine g_ldc X0 hx hZ hown (hb hby d2_168) (v := 65008) (hw _ (List.mem_of_getElem? (i := 17) rfl)) (pc' := 170) rfl ?_
    refine g_ii_lt X0 hx (a := cc) (b := 65008) hc rfl (hb hby d2_170) (by decide) (pc' := 179) (by decide) (pc2 := 173) rfl (fun c7 => ?_) (fun c7 => ?_)
    · exact J179 (by omega)
    · refine g_iloadN X0 hx (hb hby d2_173) (v := p1) rfl (pc' := 174) rfl ?_
      refine g_ldc X0 hx hZ hown (hb hby d2_174) (v := 65533) (hw _ (List.mem_of_getElem? (i := 28) rfl)) (pc' := 176) rfl ?_
      refine g_ii_le X0 hx (a := cc) (b := 65533) hc rfl (hb hby d2_176) (by decide) (pc' := 191) (by decide) (pc2 := 179) rfl (fun c8 => ?_) (fun c8 => ?_)
      · exact J191 (by omega)
      · exact J179 (by omega)
  have J155 : ¬ (65 ≤ cc ∧ cc ≤ 90) ∧ ¬ (cc = 95) ∧ ¬ (97 ≤ cc ∧ cc ≤ 122) ∧ ¬ (192 ≤ cc ∧ cc ≤ 214) ∧ ¬ (216 ≤ cc ∧ cc ≤ 246) ∧ ¬ (248 ≤ cc ∧ cc ≤ 767) ∧ ¬ (880 ≤ cc ∧ cc ≤ 893) ∧ ¬ (895 ≤ cc ∧ cc ≤ 8191) ∧ ¬ (8204 ≤ cc ∧ cc ≤ 8205) ∧ ¬ (8304 ≤ cc ∧ cc ≤ 8591) ∧ ¬ (11264 ≤ cc ∧ cc ≤ 12271) ∧ ¬ (12289 ≤ cc ∧ cc ≤ 55295) → Goes p e s below (Q1 Z p1 h0 n0) n0 R1.cells R1.slots s₁ (mkF m 155 #[.val (.int p1)] []) := by
    intro j9
    refine g_iloadN X0 hx (hb hby d2_155) (v := p1) rfl (pc' := 156) rfl ?_
    refine g_ldc X0 hx hZ hown (hb hby d2_156) (v := 63744) (hw _ (List.mem_of_getElem? (i := 16) rfl)) (pc' := 158) rfl ?_
    refine g_ii_lt X0 hx (a := cc) (b := 63744) hc rfl (hb hby d2_158) (by decide) (pc' := 167) (by decide) (pc2 := 161) rfl (fun c10 => ?_) (fun c10 => ?_)
    · exact J167 (by omega)
    · refine g_iloadN X0 hx (hb hby d2_161) (v := p1) rfl (pc' := 162) rfl ?_
      refine g_ldc X0 hx hZ hown (hb hby d2_162) (v := 64975) (hw _ (List.mem_of_getElem? (i := 27) rfl)) (pc' := 164) rfl ?_
      refine g_ii_le X0 hx (a := cc) (b := 64975) hc rfl (hb hby d2_164) (by decide) (pc' := 191) (by decide) (pc2 := 167) rfl (fun c11 => ?_) (fun c11 => ?_)
      · exact J191 (by omega)
      · exact J167 (by omega)
  have J142 : ¬ (65 ≤ cc ∧ cc ≤ 90) ∧ ¬ (cc = 95) ∧ ¬ (97 ≤ cc ∧ cc ≤ 122) ∧ ¬ (192 ≤ cc ∧ cc ≤ 214) ∧ ¬ (216 ≤ cc ∧ cc ≤ 246) ∧ ¬ (248 ≤ cc ∧ cc ≤ 767) ∧ ¬ (880 ≤ cc ∧ cc ≤ 893) ∧ ¬ (895 ≤ cc ∧ cc ≤ 8191) ∧ ¬ (8204 ≤ cc ∧ cc ≤ 8205) ∧ ¬ (8304 ≤ cc ∧ cc ≤ 8591) ∧ ¬ (11264 ≤ cc ∧ cc ≤ 12271) → Goes p e s below (Q1 Z p1 h0 n0) n0 R1.cells R1.slots s₁ (mkF m 142 #[.val (.int p1)] []) := by
    intro j12
    refine g_iloadN X0 hx (hb hby d2_142) (v := p1) rfl (pc' := 143) rfl ?_
    refine g_sipush X0 hx (hb hby d2_143) (v := 12289) (by decide) (pc' := 146) rfl ?_
    refine g_ii_lt X0 hx (a := cc) (b := 12289) hc rfl (hb hby d2_146) (by decide) (pc' := 155) (by decide) (pc2 := 149) rfl (fun c13 => ?_) (fun c13 => ?_)
    · exact J155 (by omega)
    · refine g_iloadN X0 hx (hb hby d2_149) (v := p1) rfl (pc' := 150) rfl ?_
      refine g_ldc X0 hx hZ hown (hb hby d2_150) (v := 55295) (hw _ (List.mem_of_getElem? (i := 26) rfl)) (pc' := 152) rfl ?_
      refine g_ii_le X0 hx (a := cc) (b := 55295) hc rfl (hb hby d2_152) (by decide) (pc' := 191) (by decide) (pc2 := 155) rfl (fun c14 => ?_) (fun c14 => ?_)
      · exact J191 (by omega)
      · exact J155 (by omega)
  have J128 : ¬ (65 ≤ cc ∧ cc ≤ 90) ∧ ¬ (cc = 95) ∧ ¬ (97 ≤ cc ∧ cc ≤ 122) ∧ ¬ (192 ≤ cc ∧ cc ≤ 214) ∧ ¬ (216 ≤ cc ∧ cc ≤ 246) ∧ ¬ (248 ≤ cc ∧ cc ≤ 767) ∧ ¬ (880 ≤ cc ∧ cc ≤ 893) ∧ ¬ (895 ≤ cc ∧ cc ≤ 8191) ∧ ¬ (8204 ≤ cc ∧ cc ≤ 8205) ∧ ¬ (8304 ≤ cc ∧ cc ≤ 8591) → Goes p e s below (Q1 Z p1 h0 n0) n0 R1.cells R1.slots s₁ (mkF m 128 #[.val (.int p1)] []) := by
    intro j15
    refine g_iloadN X0 hx (hb hby d2_128) (v := p1) rfl (pc' := 129) rfl ?_
    refine g_sipush X0 hx (hb hby d2_129) (v := 11264) (by decide) (pc' := 132) rfl ?_
    refine g_ii_lt X0 hx (a := cc) (b := 11264) hc rfl (hb hby d2_132) (by decide) (pc' := 142) (by decide) (pc2 := 135) rfl (fun c16 => ?_) (fun c16 => ?_)
    · exact J142 (by omega)
    · refine g_iloadN X0 hx (hb hby d2_135) (v := p1) rfl (pc' := 136) rfl ?_
      refine g_sipush X0 hx (hb hby d2_136) (v := 12271) (by decide) (pc' := 139) rfl ?_
      refine g_ii_le X0 hx (a := cc) (b := 12271) hc rfl (hb hby d2_139) (by decide) (pc' := 191) (by decide) (pc2 := 142) rfl (fun c17 => ?_) (fun c17 => ?_)
      · exact J191 (by omega)
      · exact J142 (by omega)
  have J114 : ¬ (65 ≤ cc ∧ cc ≤ 90) ∧ ¬ (cc = 95) ∧ ¬ (97 ≤ cc ∧ cc ≤ 122) ∧ ¬ (192 ≤ cc ∧ cc ≤ 214) ∧ ¬ (216 ≤ cc ∧ cc ≤ 246) ∧ ¬ (248 ≤ cc ∧ cc ≤ 767) ∧ ¬ (880 ≤ cc ∧ cc ≤ 893) ∧ ¬ (895 ≤ cc ∧ cc ≤ 8191) ∧ ¬ (8204 ≤ cc ∧ cc ≤ 8205) → Goes p e s below (Q1 Z p1 h0 n0) n0 R1.cells R1.slots s₁ (mkF m 114 #[.val (.int p1)] []) := by
    intro j18
    refine g_iloadN X0 hx (hb hby d2_114) (v := p1) rfl (pc' := 115) rfl ?_
    refine g_sipush X0 hx (hb hby d2_115) (v := 8304) (by decide) (pc' := 118) rfl ?_
    refine g_ii_lt X0 hx (a := cc) (b := 8304) hc rfl (hb hby d2_118) (by decide) (pc' := 128) (by decide) (pc2 := 121) rfl (fun c19 => ?_) (fun c19 => ?_)
    · exact J128 (by omega)
    · refine g_iloadN X0 hx (hb hby d2_121) (v := p1) rfl (pc' := 122) rfl ?_
      refine g_sipush X0 hx (hb hby d2_122) (v := 8591) (by decide) (pc' := 125) rfl ?_
      refine g_ii_le X0 hx (a := cc) (b := 8591) hc rfl (hb hby d2_125) (by decide) (pc' := 191) (by decide) (pc2 := 128) rfl (fun c20 => ?_) (fun c20 => ?_)
      · exact J191 (by omega)
      · exact J128 (by omega)
  have J100 : ¬ (65 ≤ cc ∧ cc ≤ 90) ∧ ¬ (cc = 95) ∧ ¬ (97 ≤ cc ∧ cc ≤ 122) ∧ ¬ (192 ≤ cc ∧ cc ≤ 214) ∧ ¬ (216 ≤ cc ∧ cc ≤ 246) ∧ ¬ (248 ≤ cc ∧ cc ≤ 767) ∧ ¬ (880 ≤ cc ∧ cc ≤ 893) ∧ ¬ (895 ≤ cc ∧ cc ≤ 8191) → Goes p e s below (Q1 Z p1 h0 n0) n0 R1.cells R1.slots s₁ (mkF m 100 #[.val (.int p1)] []) := by
    intro j21
    refine g_iloadN X0 hx (hb hby d2_100) (v := p1) rfl (pc' := 101) rfl ?_
    refine g_sipush X0 hx (hb hby d2_101) (v := 8204) (by decide) (pc' := 104) rfl ?_
    refine g_ii_lt X0 hx (a := cc) (b := 8204) hc rfl (hb hby d2_104) (by decide) (pc' := 114) (by decide) (pc2 := 107) rfl (fun c22 => ?_) (fun c22 => ?_)
    · exact J114 (by omega)
    · refine g_iloadN X0 hx (hb hby d2_107) (v := p1) rfl (pc' := 108) rfl ?_
      refine g_sipush X0 hx (hb hby d2_108) (v := 8205) (by decide) (pc' := 111) rfl ?_
      refine g_ii_le X0 hx (a := cc) (b := 8205) hc rfl (hb hby d2_111) (by decide) (pc' := 191) (by decide) (pc2 := 114) rfl (fun c23 => ?_) (fun c23 => ?_)
      · exact J191 (by omega)
      · exact J114 (by omega)
  have J86 : ¬ (65 ≤ cc ∧ cc ≤ 90) ∧ ¬ (cc = 95) ∧ ¬ (97 ≤ cc ∧ cc ≤ 122) ∧ ¬ (192 ≤ cc ∧ cc ≤ 214) ∧ ¬ (216 ≤ cc ∧ cc ≤ 246) ∧ ¬ (248 ≤ cc ∧ cc ≤ 767) ∧ ¬ (880 ≤ cc ∧ cc ≤ 893) → Goes p e s below (Q1 Z p1 h0 n0) n0 R1.cells R1.slots s₁ (mkF m 86 #[.val (.int p1)] []) := by
    intro j24
    refine g_iloadN X0 hx (hb hby d2_86) (v := p1) rfl (pc' := 87) rfl ?_
    refine g_sipush X0 hx (hb hby d2_87) (v := 895) (by decide) (pc' := 90) rfl ?_
    refine g_ii_lt X0 hx (a := cc) (b := 895) hc rfl (hb hby d2_90) (by decide) (pc' := 100) (by decide) (pc2 := 93) rfl (fun c25 => ?_) (fun c25 => ?_)
    · exact J100 (by omega)
    · refine g_iloadN X0 hx (hb hby d2_93) (v := p1) rfl (pc' := 94) rfl ?_
      refine g_sipush X0 hx (hb hby d2_94) (v := 8191) (by decide) (pc' := 97) rfl ?_
      refine g_ii_le X0 hx (a := cc) (b := 8191) hc rfl (hb hby d2_97) (by decide) (pc' := 191) (by decide) (pc2 := 100) rfl (fun c26 => ?_) (fun c26 => ?_)
      · exact J191 (by omega)
      · exact J100 (by omega)
  have J72 : ¬ (65 ≤ cc ∧ cc ≤ 90) ∧ ¬ (cc = 95) ∧ ¬ (97 ≤ cc ∧ cc ≤ 122) ∧ ¬ (192 ≤ cc ∧ cc ≤ 214) ∧ ¬ (216 ≤ cc ∧ cc ≤ 246) ∧ ¬ (248 ≤ cc ∧ cc ≤ 767) → Goes p e s below (Q1 Z p1 h0 n0) n0 R1.cells R1.slots s₁ (mkF m 72 #[.val (.int p1)] []) := by
    intro j27
    refine g_iloadN X0 hx (hb hby d2_72) (v := p1) rfl (pc' := 73) rfl ?_
    refine g_sipush X0 hx (hb hby d2_73) (v := 880) (by decide) (pc' := 76) rfl ?_
    refine g_ii_lt X0 hx (a := cc) (b := 880) hc rfl (hb hby d2_76) (by decide) (pc' := 86) (by decide) (pc2 := 79) rfl (fun c28 => ?_) (fun c28 => ?_)
    · exact J86 (by omega)
    · refine g_iloadN X0 hx (hb hby d2_79) (v := p1) rfl (pc' := 80) rfl ?_
      refine g_sipush X0 hx (hb hby d2_80) (v := 893) (by decide) (pc' := 83) rfl ?_
      refine g_ii_le X0 hx (a := cc) (b := 893) hc rfl (hb hby d2_83) (by decide) (pc' := 191) (by decide) (pc2 := 86) rfl (fun c29 => ?_) (fun c29 => ?_)
      · exact J191 (by omega)
      · exact J86 (by omega)
  have J58 : ¬ (65 ≤ cc ∧ cc ≤ 90) ∧ ¬ (cc = 95) ∧ ¬ (97 ≤ cc ∧ cc ≤ 122) ∧ ¬ (192 ≤ cc ∧ cc ≤ 214) ∧ ¬ (216 ≤ cc ∧ cc ≤ 246) → Goes p e s below (Q1 Z p1 h0 n0) n0 R1.cells R1.slots s₁ (mkF m 58 #[.val (.int p1)] []) := by
    intro j30
    refine g_iloadN X0 hx (hb hby d2_58) (v := p1) rfl (pc' := 59) rfl ?_
    refine g_sipush X0 hx (hb hby d2_59) (v := 248) (by decide) (pc' := 62) rfl ?_
    refine g_ii_lt X0 hx (a := cc) (b := 248) hc rfl (hb hby d2_62) (by decide) (pc' := 72) (by decide) (pc2 := 65) rfl (fun c31 => ?_) (fun c31 => ?_)
    · exact J72 (by omega)
    · refine g_iloadN X0 hx (hb hby d2_65) (v := p1) rfl (pc' := 66) rfl ?_
      refine g_sipush X0 hx (hb hby d2_66) (v := 767) (by decide) (pc' := 69) rfl ?_
      refine g_ii_le X0 hx (a := cc) (b := 767) hc rfl (hb hby d2_69) (by decide) (pc' := 191) (by decide) (pc2 := 72) rfl (fun c32 => ?_) (fun c32 => ?_)
      · exact J191 (by omega)
      · exact J72 (by omega)
  have J44 : ¬ (65 ≤ cc ∧ cc ≤ 90) ∧ ¬ (cc = 95) ∧ ¬ (97 ≤ cc ∧ cc ≤ 122) ∧ ¬ (192 ≤ cc ∧ cc ≤ 214) → Goes p e s below (Q1 Z p1 h0 n0) n0 R1.cells R1.slots s₁ (mkF m 44 #[.val (.int p1)] []) := by
    intro j33
    refine g_iloadN X0 hx (hb hby d2_44) (v := p1) rfl (pc' := 45) rfl ?_
    refine g_sipush X0 hx (hb hby d2_45) (v := 216) (by decide) (pc' := 48) rfl ?_
    refine g_ii_lt X0 hx (a := cc) (b := 216) hc rfl (hb hby d2_48) (by decide) (pc' := 58) (by decide) (pc2 := 51) rfl (fun c34 => ?_) (fun c34 => ?_)
    · exact J58 (by omega)
    · refine g_iloadN X0 hx (hb hby d2_51) (v := p1) rfl (pc' := 52) rfl ?_
      refine g_sipush X0 hx (hb hby d2_52) (v := 246) (by decide) (pc' := 55) rfl ?_
      refine g_ii_le X0 hx (a := cc) (b := 246) hc rfl (hb hby d2_55) (by decide) (pc' := 191) (by decide) (pc2 := 58) rfl (fun c35 => ?_) (fun c35 => ?_)
      · exact J191 (by omega)
      · exact J58 (by omega)
  have J30 : ¬ (65 ≤ cc ∧ cc ≤ 90) ∧ ¬ (cc = 95) ∧ ¬ (97 ≤ cc ∧ cc ≤ 122) → Goes p e s below (Q1 Z p1 h0 n0) n0 R1.cells R1.slots s₁ (mkF m 30 #[.val (.int p1)] []) := by
    intro j36
    refine g_iloadN X0 hx (hb hby d2_30) (v := p1) rfl (pc' := 31) rfl ?_
    refine g_sipush X0 hx (hb hby d2_31) (v := 192) (by decide) (pc' := 34) rfl ?_
    refine g_ii_lt X0 hx (a := cc) (b := 192) hc rfl (hb hby d2_34) (by decide) (pc' := 44) (by decide) (pc2 := 37) rfl (fun c37 => ?_) (fun c37 => ?_)
    · exact J44 (by omega)
    · refine g_iloadN X0 hx (hb hby d2_37) (v := p1) rfl (pc' := 38) rfl ?_
      refine g_sipush X0 hx (hb hby d2_38) (v := 214) (by decide) (pc' := 41) rfl ?_
      refine g_ii_le X0 hx (a := cc) (b := 214) hc rfl (hb hby d2_41) (by decide) (pc' := 191) (by decide) (pc2 := 44) rfl (fun c38 => ?_) (fun c38 => ?_)
      · exact J191 (by omega)
      · exact J44 (by omega)
  have J18 : ¬ (65 ≤ cc ∧ cc ≤ 90) ∧ ¬ (cc = 95) → Goes p e s below (Q1 Z p1 h0 n0) n0 R1.cells R1.slots s₁ (mkF m 18 #[.val (.int p1)] []) := by
    intro j39
    refine g_iloadN X0 hx (hb hby d2_18) (v := p1) rfl (pc' := 19) rfl ?_
    refine g_bipush X0 hx (hb hby d2_19) (v := 97) (by decide) (pc' := 21) rfl ?_
    refine g_ii_lt X0 hx (a := cc) (b := 97) hc rfl (hb hby d2_21) (by decide) (pc' := 30) (by decide) (pc2 := 24) rfl (fun c40 => ?_) (fun c40 => ?_)
    · exact J30 (by omega)
    · refine g_iloadN X0 hx (hb hby d2_24) (v := p1) rfl (pc' := 25) rfl ?_
      refine g_bipush X0 hx (hb hby d2_25) (v := 122) (by decide) (pc' := 27) rfl ?_
      refine g_ii_le X0 hx (a := cc) (b := 122) hc rfl (hb hby d2_27) (by decide) (pc' := 191) (by decide) (pc2 := 30) rfl (fun c41 => ?_) (fun c41 => ?_)
      · exact J191 (by omega)
      · exact J30 (by omega)
  have J12 : ¬ (65 ≤ cc ∧ cc ≤ 90) → Goes p e s below (Q1 Z p1 h0 n0) n0 R1.cells R1.slots s₁ (mkF m 12 #[.val (.int p1)] []) := by
    intro j42
    refine g_iloadN X0 hx (hb hby d2_12) (v := p1) rfl (pc' := 13) rfl ?_
    refine g_bipush X0 hx (hb hby d2_13) (v := 95) (by decide) (pc' := 15) rfl ?_
    refine g_ii_eq X0 hx (a := cc) (b := 95) hc rfl (hb hby d2_15) (by decide) (pc' := 191) (by decide) (pc2 := 18) rfl (fun c43 => ?_) (fun c43 => ?_)
    · exact J191 (by omega)
    · exact J18 (by omega)
  refine g_iloadN X0 hx (hb hby d2_0) (v := p1) rfl (pc' := 1) rfl ?_
  refine g_bipush X0 hx (hb hby d2_1) (v := 65) (by decide) (pc' := 3) rfl ?_
  refine g_ii_lt X0 hx (a := cc) (b := 65) hc rfl (hb hby d2_3) (by decide) (pc' := 12) (by decide) (pc2 := 6) rfl (fun c44 => ?_) (fun c44 => ?_)
  · exact J12 (by omega)
  · refine g_iloadN X0 hx (hb hby d2_6) (v := p1) rfl (pc' := 7) rfl ?_
    refine g_bipush X0 hx (hb hby d2_7) (v := 90) (by decide) (pc' := 9) rfl ?_
    refine g_ii_le X0 hx (a := cc) (b := 90) hc rfl (hb hby d2_9) (by decide) (pc' := 191) (by decide) (pc2 := 12) rfl (fun c45 => ?_) (fun c45 => ?_)
    · exact J191 (by omega)
    · exact J12 (by omega)
abbrev own_char (c : Int) : Prop := (own_start c) ∨ c = 45 ∨ c = 46 ∨ (48 ≤ c ∧ c ≤ 57) ∨ c = 183 ∨ (768 ≤ c ∧ c ≤ 879) ∨ (8255 ≤ c ∧ c ≤ 8256)
theorem pd_0 : parseMethodDescriptor "(I)Z" = some ⟨[.int], some .boolean⟩ := by decide +kernel
theorem pd_1 : parseMethodDescriptor "(III)Z" = some ⟨[.int, .int, .int], some .boolean⟩ := by decide +kernel
theorem d1_0 : decode prog_19_method_7_code 0 = .ok (.iload_n 0, 1) := by decide +kernel
theorem d1_1 : decode prog_19_method_7_code 1 = .ok (.invokestatic 43, 3) := by decide +kernel
theorem d1_4 : decode prog_19_method_7_code 4 = .ok (.ifCond .ne 62, 3) := by decide +kernel
theorem d1_7 : decode prog_19_method_7_code 7 = .ok (.iload_n 0, 1) := by decide +kernel
theorem d1_8 : decode prog_19_method_7_code 8 = .ok (.bipush 45, 2) := by decide +kernel
theorem d1_10 : decode prog_19_method_7_code 10 = .ok (.if_icmp .eq 56, 3) := by decide +kernel
theorem d1_13 : decode prog_19_method_7_code 13 = .ok (.iload_n 0, 1) := by decide +kernel
theorem d1_14 : decode prog_19_method_7_code 14 = .ok (.bipush 46, 2) := by decide +kernel
theorem d1_16 : decode prog_19_method_7_code 16 = .ok (.if_icmp .eq 50, 3) := by decide +kernel
theorem d1_19 : decode prog_19_method_7_code 19 = .ok (.iload_n 0, 1) := by decide +kernel
theorem d1_20 : decode prog_19_method_7_code 20 = .ok (.bipush 48, 2) := by decide +kernel
theorem d1_22 : decode prog_19_method_7_code 22 = .ok (.if_icmp .lt 9, 3) := by decide +kernel
theorem d1_25 : decode prog_19_method_7_code 25 = .ok (.iload_n 0, 1) := by decide +kernel
theorem d1_26 : decode prog_19_method_7_code 26 = .ok (.bipush 57, 2) := by decide +kernel
theorem d1_28 : decode prog_19_method_7_code 28 = .ok (.if_icmp .le 38, 3) := by decide +kernel
theorem d1_31 : decode prog_19_method_7_code 31 = .ok (.iload_n 0, 1) := by decide +kernel
theorem d1_32 : decode prog_19_method_7_code 32 = .ok (.sipush 183, 3) := by decide +kernel
theorem d1_35 : decode prog_19_method_7_code 35 = .ok (.if_icmp .eq 31, 3) := by decide +kernel
theorem d1_38 : decode prog_19_method_7_code 38 = .ok (.iload_n 0, 1) := by decide +kernel
theorem d1_39 : decode prog_19_method_7_code 39 = .ok (.sipush 768, 3) := by decide +kernel
theorem d1_42 : decode prog_19_method_7_code 42 = .ok (.if_icmp .lt 10, 3) := by decide +kernel
theorem d1_45 : decode prog_19_method_7_code 45 = .ok (.iload_n 0, 1) := by decide +kernel
theorem d1_46 : decode prog_19_method_7_code 46 = .ok (.sipush 879, 3) := by decide +kernel
theorem d1_49 : decode prog_19_method_7_code 49 = .ok (.if_icmp .le 17, 3) := by decide +kernel
theorem d1_52 : decode prog_19_method_7_code 52 = .ok (.iload_n 0, 1) := by decide +kernel
theorem d1_53 : decode prog_19_method_7_code 53 = .ok (.sipush 8255, 3) := by decide +kernel
theorem d1_56 : decode prog_19_method_7_code 56 = .ok (.if_icmp .lt 14, 3) := by decide +kernel
theorem d1_59 : decode prog_19_method_7_code 59 = .ok (.iload_n 0, 1) := by decide +kernel
theorem d1_60 : decode prog_19_method_7_code 60 = .ok (.sipush 8256, 3) := by decide +kernel
theorem d1_63 : decode prog_19_method_7_code 63 = .ok (.if_icmp .gt 7, 3) := by decide +kernel
theorem d1_66 : decode prog_19_method_7_code 66 = .ok (.iconst 1, 1) := by decide +kernel
theorem d1_67 : decode prog_19_method_7_code 67 = .ok (.goto 4, 3) := by decide +kernel
theorem d1_70 : decode prog_19_method_7_code 70 = .ok (.iconst 0, 1) := by decide +kernel
theorem d1_71 : decode prog_19_method_7_code 71 = .ok (.ireturn, 1) := by decide +kernel
theorem pn_1 : plainFor (⟨"com/example/coextent/coextent/io/RdfXmlNames", "isNameChar", "(I)Z"⟩ : MethodName) = true := by first | exact plainFor_of_name (by first | (simp [plainName, overriddenIn]; done) | decide +kernel) | decide +kernel
def Q2 (Z : State) (p1 : Int32) (h0 : Heap) (n0 : Nat) (v : Option Value) (h : Heap) : Prop := ∃ b : Int32, v = some (.int b) ∧ ((own_char p1.toInt) ∧ b.toInt = 1 ∨ ¬ (own_char p1.toInt) ∧ b.toInt = 0) ∧ h = h0
abbrev R2 : Room := { frames := 1, cells := 0, slots := 0, locals := 12 }
set_option maxRecDepth 65536 in
set_option maxHeartbeats 40000000 in
theorem rm2 (l : Launch) (Z : State) (a0 : Array Value) (hw : ∀ d ∈ tables_1, d.before a0 Z = true)  (p1 : Int32) (h0 : Heap) (n0 : Nat) (Z0 : n0 ≤ h0.size)  :
    Con l (⟨"com/example/coextent/coextent/io/RdfXmlNames", "isNameChar", "(I)Z"⟩ : MethodName) prog_19_method_7_code 1 (some .boolean) [] R2 Z #[(.int p1)] h0 n0 (Q2 Z p1 h0 n0) := by
  refine con_of (Ls0 := #[.val (.int p1)]) pn_1 (fun m => by first | (simp [entryFrame, mkF, argsToLocals, Value.category, maxLocals]; done) | rfl) ?_
  intro p e s m below meth c s₁ X0 hx hby hml hZ hown hnm hret hlk e0 N0
  show Goes p e s below (Q2 Z p1 h0 n0) n0 R2.cells R2.slots s₁ (mkF m 0 #[.val (.int p1)] [])
  refine g_iloadN X0 hx (hb hby d1_0) (v := p1) rfl (pc' := 1) rfl ?_
  refine g_static X0 hx hZ hown (hw _ (List.mem_of_getElem? (i := 13) rfl)) (hw _ (List.mem_of_getElem? (i := 14) rfl)) (hw _ (List.mem_of_getElem? (i := 11) rfl)) (hw _ (List.mem_of_getElem? (i := 15) rfl)) (by decide) (argsL := [(.int p1)]) (rm1 l Z a0 hw p1 h0 n0 Z0 ) rfl e0 (by rw [hml]; rfl) pd_0 rfl (rest := []) rfl (W := 0) (Nat.le_of_eq rfl) (by decide) (by decide) (by decide) (by decide) N0 (hb hby d1_1) (pc' := 4) rfl (fun v1 T2 L3 X4 N5 q6 => ?_)
  obtain ⟨b7, rfl, f8, e9⟩ := q6
  show Goes p e s below (Q2 Z p1 h0 n0) n0 R2.cells R2.slots T2 (mkF m 4 #[.val (.int p1)] [(.int b7)])
  refine g_i0_ne X4 hx (a := b7.toInt) rfl (hb hby d1_4) (by decide) (pc' := 66) (by decide) (pc2 := 7) rfl (fun c10 => ?_) (fun c10 => ?_)
  · refine g_iconst X4 hx (hb hby d1_66) (v := 1) (by decide) (pc' := 67) rfl ?_
    refine g_goto X4 hx (hb hby d1_67) (by decide) (pc' := 71) (by decide) ?_
    refine g_retZ X4 hx hlk (by decide) hret (hb hby d1_71) N5 (by decide) (by decide) ?_
    exact ⟨_, rfl, by first | exact Or.inl ⟨by omega, rfl⟩ | exact Or.inr ⟨by omega, rfl⟩, e9⟩
  · refine g_iloadN X4 hx (hb hby d1_7) (v := p1) rfl (pc' := 8) rfl ?_
    refine g_bipush X4 hx (hb hby d1_8) (v := 45) (by decide) (pc' := 10) rfl ?_
    refine g_ii_eq X4 hx (a := p1.toInt) (b := 45) rfl rfl (hb hby d1_10) (by decide) (pc' := 66) (by decide) (pc2 := 13) rfl (fun c11 => ?_) (fun c11 => ?_)
    · refine g_iconst X4 hx (hb hby d1_66) (v := 1) (by decide) (pc' := 67) rfl ?_
      refine g_goto X4 hx (hb hby d1_67) (by decide) (pc' := 71) (by decide) ?_
      refine g_retZ X4 hx hlk (by decide) hret (hb hby d1_71) N5 (by decide) (by decide) ?_
      exact ⟨_, rfl, by first | exact Or.inl ⟨by omega, rfl⟩ | exact Or.inr ⟨by omega, rfl⟩, e9⟩
    · refine g_iloadN X4 hx (hb hby d1_13) (v := p1) rfl (pc' := 14) rfl ?_
      refine g_bipush X4 hx (hb hby d1_14) (v := 46) (by decide) (pc' := 16) rfl ?_
      refine g_ii_eq X4 hx (a := p1.toInt) (b := 46) rfl rfl (hb hby d1_16) (by decide) (pc' := 66) (by decide) (pc2 := 19) rfl (fun c12 => ?_) (fun c12 => ?_)
      · refine g_iconst X4 hx (hb hby d1_66) (v := 1) (by decide) (pc' := 67) rfl ?_
        refine g_goto X4 hx (hb hby d1_67) (by decide) (pc' := 71) (by decide) ?_
        refine g_retZ X4 hx hlk (by decide) hret (hb hby d1_71) N5 (by decide) (by decide) ?_
        exact ⟨_, rfl, by first | exact Or.inl ⟨by omega, rfl⟩ | exact Or.inr ⟨by omega, rfl⟩, e9⟩
      · refine g_iloadN X4 hx (hb hby d1_19) (v := p1) rfl (pc' := 20) rfl ?_
        refine g_bipush X4 hx (hb hby d1_20) (v := 48) (by decide) (pc' := 22) rfl ?_
        refine g_ii_lt X4 hx (a := p1.toInt) (b := 48) rfl rfl (hb hby d1_22) (by decide) (pc' := 31) (by decide) (pc2 := 25) rfl (fun c13 => ?_) (fun c13 => ?_)
        · refine g_iloadN X4 hx (hb hby d1_31) (v := p1) rfl (pc' := 32) rfl ?_
          refine g_sipush X4 hx (hb hby d1_32) (v := 183) (by decide) (pc' := 35) rfl ?_
          refine g_ii_eq X4 hx (a := p1.toInt) (b := 183) rfl rfl (hb hby d1_35) (by decide) (pc' := 66) (by decide) (pc2 := 38) rfl (fun c14 => ?_) (fun c14 => ?_)
          · refine g_iconst X4 hx (hb hby d1_66) (v := 1) (by decide) (pc' := 67) rfl ?_
            refine g_goto X4 hx (hb hby d1_67) (by decide) (pc' := 71) (by decide) ?_
            refine g_retZ X4 hx hlk (by decide) hret (hb hby d1_71) N5 (by decide) (by decide) ?_
            exact ⟨_, rfl, by first | exact Or.inl ⟨by omega, rfl⟩ | exact Or.inr ⟨by omega, rfl⟩, e9⟩
          · refine g_iloadN X4 hx (hb hby d1_38) (v := p1) rfl (pc' := 39) rfl ?_
            refine g_sipush X4 hx (hb hby d1_39) (v := 768) (by decide) (pc' := 42) rfl ?_
            refine g_ii_lt X4 hx (a := p1.toInt) (b := 768) rfl rfl (hb hby d1_42) (by decide) (pc' := 52) (by decide) (pc2 := 45) rfl (fun c15 => ?_) (fun c15 => ?_)
            · refine g_iloadN X4 hx (hb hby d1_52) (v := p1) rfl (pc' := 53) rfl ?_
              refine g_sipush X4 hx (hb hby d1_53) (v := 8255) (by decide) (pc' := 56) rfl ?_
              refine g_ii_lt X4 hx (a := p1.toInt) (b := 8255) rfl rfl (hb hby d1_56) (by decide) (pc' := 70) (by decide) (pc2 := 59) rfl (fun c16 => ?_) (fun c16 => ?_)
              · refine g_iconst X4 hx (hb hby d1_70) (v := 0) (by decide) (pc' := 71) rfl ?_
                refine g_retZ X4 hx hlk (by decide) hret (hb hby d1_71) N5 (by decide) (by decide) ?_
                exact ⟨_, rfl, by first | exact Or.inl ⟨by omega, rfl⟩ | exact Or.inr ⟨by omega, rfl⟩, e9⟩
              · refine g_iloadN X4 hx (hb hby d1_59) (v := p1) rfl (pc' := 60) rfl ?_
                refine g_sipush X4 hx (hb hby d1_60) (v := 8256) (by decide) (pc' := 63) rfl ?_
                refine g_ii_gt X4 hx (a := p1.toInt) (b := 8256) rfl rfl (hb hby d1_63) (by decide) (pc' := 70) (by decide) (pc2 := 66) rfl (fun c17 => ?_) (fun c17 => ?_)
                · refine g_iconst X4 hx (hb hby d1_70) (v := 0) (by decide) (pc' := 71) rfl ?_
                  refine g_retZ X4 hx hlk (by decide) hret (hb hby d1_71) N5 (by decide) (by decide) ?_
                  exact ⟨_, rfl, by first | exact Or.inl ⟨by omega, rfl⟩ | exact Or.inr ⟨by omega, rfl⟩, e9⟩
                · refine g_iconst X4 hx (hb hby d1_66) (v := 1) (by decide) (pc' := 67) rfl ?_
                  refine g_goto X4 hx (hb hby d1_67) (by decide) (pc' := 71) (by decide) ?_
                  refine g_retZ X4 hx hlk (by decide) hret (hb hby d1_71) N5 (by decide) (by decide) ?_
                  exact ⟨_, rfl, by first | exact Or.inl ⟨by omega, rfl⟩ | exact Or.inr ⟨by omega, rfl⟩, e9⟩
            · refine g_iloadN X4 hx (hb hby d1_45) (v := p1) rfl (pc' := 46) rfl ?_
              refine g_sipush X4 hx (hb hby d1_46) (v := 879) (by decide) (pc' := 49) rfl ?_
              refine g_ii_le X4 hx (a := p1.toInt) (b := 879) rfl rfl (hb hby d1_49) (by decide) (pc' := 66) (by decide) (pc2 := 52) rfl (fun c18 => ?_) (fun c18 => ?_)
              · refine g_iconst X4 hx (hb hby d1_66) (v := 1) (by decide) (pc' := 67) rfl ?_
                refine g_goto X4 hx (hb hby d1_67) (by decide) (pc' := 71) (by decide) ?_
                refine g_retZ X4 hx hlk (by decide) hret (hb hby d1_71) N5 (by decide) (by decide) ?_
                exact ⟨_, rfl, by first | exact Or.inl ⟨by omega, rfl⟩ | exact Or.inr ⟨by omega, rfl⟩, e9⟩
              · refine g_iloadN X4 hx (hb hby d1_52) (v := p1) rfl (pc' := 53) rfl ?_
                refine g_sipush X4 hx (hb hby d1_53) (v := 8255) (by decide) (pc' := 56) rfl ?_
                refine g_ii_lt X4 hx (a := p1.toInt) (b := 8255) rfl rfl (hb hby d1_56) (by decide) (pc' := 70) (by decide) (pc2 := 59) rfl (fun c19 => ?_) (fun c19 => ?_)
                · refine g_iconst X4 hx (hb hby d1_70) (v := 0) (by decide) (pc' := 71) rfl ?_
                  refine g_retZ X4 hx hlk (by decide) hret (hb hby d1_71) N5 (by decide) (by decide) ?_
                  exact ⟨_, rfl, by first | exact Or.inl ⟨by omega, rfl⟩ | exact Or.inr ⟨by omega, rfl⟩, e9⟩
                · refine g_iloadN X4 hx (hb hby d1_59) (v := p1) rfl (pc' := 60) rfl ?_
                  refine g_sipush X4 hx (hb hby d1_60) (v := 8256) (by decide) (pc' := 63) rfl ?_
                  refine g_ii_gt X4 hx (a := p1.toInt) (b := 8256) rfl rfl (hb hby d1_63) (by decide) (pc' := 70) (by decide) (pc2 := 66) rfl (fun c20 => ?_) (fun c20 => ?_)
                  · refine g_iconst X4 hx (hb hby d1_70) (v := 0) (by decide) (pc' := 71) rfl ?_
                    refine g_retZ X4 hx hlk (by decide) hret (hb hby d1_71) N5 (by decide) (by decide) ?_
                    exact ⟨_, rfl, by first | exact Or.inl ⟨by omega, rfl⟩ | exact Or.inr ⟨by omega, rfl⟩, e9⟩
                  · refine g_iconst X4 hx (hb hby d1_66) (v := 1) (by decide) (pc' := 67) rfl ?_
                    refine g_goto X4 hx (hb hby d1_67) (by decide) (pc' := 71) (by decide) ?_
                    refine g_retZ X4 hx hlk (by decide) hret (hb hby d1_71) N5 (by decide) (by decide) ?_
                    exact ⟨_, rfl, by first | exact Or.inl ⟨by omega, rfl⟩ | exact Or.inr ⟨by omega, rfl⟩, e9⟩
        · refine g_iloadN X4 hx (hb hby d1_25) (v := p1) rfl (pc' := 26) rfl ?_
          refine g_bipush X4 hx (hb hby d1_26) (v := 57) (by decide) (pc' := 28) rfl ?_
          refine g_ii_le X4 hx (a := p1.toInt) (b := 57) rfl rfl (hb hby d1_28) (by decide) (pc' := 66) (by decide) (pc2 := 31) rfl (fun c21 => ?_) (fun c21 => ?_)
          · refine g_iconst X4 hx (hb hby d1_66) (v := 1) (by decide) (pc' := 67) rfl ?_
            refine g_goto X4 hx (hb hby d1_67) (by decide) (pc' := 71) (by decide) ?_
            refine g_retZ X4 hx hlk (by decide) hret (hb hby d1_71) N5 (by decide) (by decide) ?_
            exact ⟨_, rfl, by first | exact Or.inl ⟨by omega, rfl⟩ | exact Or.inr ⟨by omega, rfl⟩, e9⟩
          · refine g_iloadN X4 hx (hb hby d1_31) (v := p1) rfl (pc' := 32) rfl ?_
            refine g_sipush X4 hx (hb hby d1_32) (v := 183) (by decide) (pc' := 35) rfl ?_
            refine g_ii_eq X4 hx (a := p1.toInt) (b := 183) rfl rfl (hb hby d1_35) (by decide) (pc' := 66) (by decide) (pc2 := 38) rfl (fun c22 => ?_) (fun c22 => ?_)
            · refine g_iconst X4 hx (hb hby d1_66) (v := 1) (by decide) (pc' := 67) rfl ?_
              refine g_goto X4 hx (hb hby d1_67) (by decide) (pc' := 71) (by decide) ?_
              refine g_retZ X4 hx hlk (by decide) hret (hb hby d1_71) N5 (by decide) (by decide) ?_
              exact ⟨_, rfl, by first | exact Or.inl ⟨by omega, rfl⟩ | exact Or.inr ⟨by omega, rfl⟩, e9⟩
            · refine g_iloadN X4 hx (hb hby d1_38) (v := p1) rfl (pc' := 39) rfl ?_
              refine g_sipush X4 hx (hb hby d1_39) (v := 768) (by decide) (pc' := 42) rfl ?_
              refine g_ii_lt X4 hx (a := p1.toInt) (b := 768) rfl rfl (hb hby d1_42) (by decide) (pc' := 52) (by decide) (pc2 := 45) rfl (fun c23 => ?_) (fun c23 => ?_)
              · refine g_iloadN X4 hx (hb hby d1_52) (v := p1) rfl (pc' := 53) rfl ?_
                refine g_sipush X4 hx (hb hby d1_53) (v := 8255) (by decide) (pc' := 56) rfl ?_
                refine g_ii_lt X4 hx (a := p1.toInt) (b := 8255) rfl rfl (hb hby d1_56) (by decide) (pc' := 70) (by decide) (pc2 := 59) rfl (fun c24 => ?_) (fun c24 => ?_)
                · refine g_iconst X4 hx (hb hby d1_70) (v := 0) (by decide) (pc' := 71) rfl ?_
                  refine g_retZ X4 hx hlk (by decide) hret (hb hby d1_71) N5 (by decide) (by decide) ?_
                  exact ⟨_, rfl, by first | exact Or.inl ⟨by omega, rfl⟩ | exact Or.inr ⟨by omega, rfl⟩, e9⟩
                · refine g_iloadN X4 hx (hb hby d1_59) (v := p1) rfl (pc' := 60) rfl ?_
                  refine g_sipush X4 hx (hb hby d1_60) (v := 8256) (by decide) (pc' := 63) rfl ?_
                  refine g_ii_gt X4 hx (a := p1.toInt) (b := 8256) rfl rfl (hb hby d1_63) (by decide) (pc' := 70) (by decide) (pc2 := 66) rfl (fun c25 => ?_) (fun c25 => ?_)
                  · refine g_iconst X4 hx (hb hby d1_70) (v := 0) (by decide) (pc' := 71) rfl ?_
                    refine g_retZ X4 hx hlk (by decide) hret (hb hby d1_71) N5 (by decide) (by decide) ?_
                    exact ⟨_, rfl, by first | exact Or.inl ⟨by omega, rfl⟩ | exact Or.inr ⟨by omega, rfl⟩, e9⟩
                  · refine g_iconst X4 hx (hb hby d1_66) (v := 1) (by decide) (pc' := 67) rfl ?_
                    refine g_goto X4 hx (hb hby d1_67) (by decide) (pc' := 71) (by decide) ?_
                    refine g_retZ X4 hx hlk (by decide) hret (hb hby d1_71) N5 (by decide) (by decide) ?_
                    exact ⟨_, rfl, by first | exact Or.inl ⟨by omega, rfl⟩ | exact Or.inr ⟨by omega, rfl⟩, e9⟩
              · refine g_iloadN X4 hx (hb hby d1_45) (v := p1) rfl (pc' := 46) rfl ?_
                refine g_sipush X4 hx (hb hby d1_46) (v := 879) (by decide) (pc' := 49) rfl ?_
                refine g_ii_le X4 hx (a := p1.toInt) (b := 879) rfl rfl (hb hby d1_49) (by decide) (pc' := 66) (by decide) (pc2 := 52) rfl (fun c26 => ?_) (fun c26 => ?_)
                · refine g_iconst X4 hx (hb hby d1_66) (v := 1) (by decide) (pc' := 67) rfl ?_
                  refine g_goto X4 hx (hb hby d1_67) (by decide) (pc' := 71) (by decide) ?_
                  refine g_retZ X4 hx hlk (by decide) hret (hb hby d1_71) N5 (by decide) (by decide) ?_
                  exact ⟨_, rfl, by first | exact Or.inl ⟨by omega, rfl⟩ | exact Or.inr ⟨by omega, rfl⟩, e9⟩
                · refine g_iloadN X4 hx (hb hby d1_52) (v := p1) rfl (pc' := 53) rfl ?_
                  refine g_sipush X4 hx (hb hby d1_53) (v := 8255) (by decide) (pc' := 56) rfl ?_
                  refine g_ii_lt X4 hx (a := p1.toInt) (b := 8255) rfl rfl (hb hby d1_56) (by decide) (pc' := 70) (by decide) (pc2 := 59) rfl (fun c27 => ?_) (fun c27 => ?_)
                  · refine g_iconst X4 hx (hb hby d1_70) (v := 0) (by decide) (pc' := 71) rfl ?_
                    refine g_retZ X4 hx hlk (by decide) hret (hb hby d1_71) N5 (by decide) (by decide) ?_
                    exact ⟨_, rfl, by first | exact Or.inl ⟨by omega, rfl⟩ | exact Or.inr ⟨by omega, rfl⟩, e9⟩
                  · refine g_iloadN X4 hx (hb hby d1_59) (v := p1) rfl (pc' := 60) rfl ?_
                    refine g_sipush X4 hx (hb hby d1_60) (v := 8256) (by decide) (pc' := 63) rfl ?_
                    refine g_ii_gt X4 hx (a := p1.toInt) (b := 8256) rfl rfl (hb hby d1_63) (by decide) (pc' := 70) (by decide) (pc2 := 66) rfl (fun c28 => ?_) (fun c28 => ?_)
                    · refine g_iconst X4 hx (hb hby d1_70) (v := 0) (by decide) (pc' := 71) rfl ?_
                      refine g_retZ X4 hx hlk (by decide) hret (hb hby d1_71) N5 (by decide) (by decide) ?_
                      exact ⟨_, rfl, by first | exact Or.inl ⟨by omega, rfl⟩ | exact Or.inr ⟨by omega, rfl⟩, e9⟩
                    · refine g_iconst X4 hx (hb hby d1_66) (v := 1) (by decide) (pc' := 67) rfl ?_
                      refine g_goto X4 hx (hb hby d1_67) (by decide) (pc' := 71) (by decide) ?_
                      refine g_retZ X4 hx hlk (by decide) hret (hb hby d1_71) N5 (by decide) (by decide) ?_
                      exact ⟨_, rfl, by first | exact Or.inl ⟨by omega, rfl⟩ | exact Or.inr ⟨by omega, rfl⟩, e9⟩
theorem d4_0 : decode method_3_code 0 = .ok (.iload_n 1, 1) := by decide +kernel
theorem d4_1 : decode method_3_code 1 = .ok (.iload_n 0, 1) := by decide +kernel
theorem d4_2 : decode method_3_code 2 = .ok (.if_icmp .gt 12, 3) := by decide +kernel
theorem d4_5 : decode method_3_code 5 = .ok (.iload_n 0, 1) := by decide +kernel
theorem d4_6 : decode method_3_code 6 = .ok (.iload_n 2, 1) := by decide +kernel
theorem d4_7 : decode method_3_code 7 = .ok (.if_icmp .gt 7, 3) := by decide +kernel
theorem d4_10 : decode method_3_code 10 = .ok (.iconst 1, 1) := by decide +kernel
theorem d4_11 : decode method_3_code 11 = .ok (.goto 4, 3) := by decide +kernel
theorem d4_14 : decode method_3_code 14 = .ok (.iconst 0, 1) := by decide +kernel
theorem d4_15 : decode method_3_code 15 = .ok (.ireturn, 1) := by decide +kernel
theorem pn_2 : plainFor (⟨"com/example/coextent/coextent/io/RdfXmlNamesIsNameCharPinLaw", "in", "(III)Z"⟩ : MethodName) = true := by first | exact plainFor_of_name (by first | (simp [plainName, overriddenIn]; done) | decide +kernel) | decide +kernel
def Q3 (Z : State) (p1 : Int32) (p2 : Int32) (p3 : Int32) (h0 : Heap) (n0 : Nat) (v : Option Value) (h : Heap) : Prop := ∃ b : Int32, v = some (.int b) ∧ ((p2.toInt ≤ p1.toInt ∧ p1.toInt ≤ p3.toInt) ∧ b.toInt = 1 ∨ ¬ (p2.toInt ≤ p1.toInt ∧ p1.toInt ≤ p3.toInt) ∧ b.toInt = 0) ∧ h = h0
abbrev R3 : Room := { frames := 0, cells := 0, slots := 0, locals := 0 }
set_option maxRecDepth 65536 in
set_option maxHeartbeats 40000000 in
theorem rm3 (l : Launch) (Z : State) (a0 : Array Value) (hw : ∀ d ∈ tables_1, d.before a0 Z = true)  (p1 : Int32) (p2 : Int32) (p3 : Int32) (h0 : Heap) (n0 : Nat) (Z0 : n0 ≤ h0.size)  :
    Con l (⟨"com/example/coextent/coextent/io/RdfXmlNamesIsNameCharPinLaw", "in", "(III)Z"⟩ : MethodName) method_3_code 3 (some .boolean) [] R3 Z #[(.int p1), (.int p2), (.int p3)] h0 n0 (Q3 Z p1 p2 p3 h0 n0) := by
  refine con_of (Ls0 := #[.val (.int p1), .val (.int p2), .val (.int p3)]) pn_2 (fun m => by first | (simp [entryFrame, mkF, argsToLocals, Value.category, maxLocals]; done) | rfl) ?_
  intro p e s m below meth c s₁ X0 hx hby hml hZ hown hnm hret hlk e0 N0
  show Goes p e s below (Q3 Z p1 p2 p3 h0 n0) n0 R3.cells R3.slots s₁ (mkF m 0 #[.val (.int p1), .val (.int p2), .val (.int p3)] [])
  refine g_iloadN X0 hx (hb hby d4_0) (v := p2) rfl (pc' := 1) rfl ?_
  refine g_iloadN X0 hx (hb hby d4_1) (v := p1) rfl (pc' := 2) rfl ?_
  refine g_ii_gt X0 hx (a := p2.toInt) (b := p1.toInt) rfl rfl (hb hby d4_2) (by decide) (pc' := 14) (by decide) (pc2 := 5) rfl (fun c1 => ?_) (fun c1 => ?_)
  · refine g_iconst X0 hx (hb hby d4_14) (v := 0) (by decide) (pc' := 15) rfl ?_
    refine g_retZ X0 hx hlk (by decide) hret (hb hby d4_15) N0 (by decide) (by decide) ?_
    exact ⟨_, rfl, by first | exact Or.inl ⟨by omega, rfl⟩ | exact Or.inr ⟨by omega, rfl⟩, e0⟩
  · refine g_iloadN X0 hx (hb hby d4_5) (v := p1) rfl (pc' := 6) rfl ?_
    refine g_iloadN X0 hx (hb hby d4_6) (v := p3) rfl (pc' := 7) rfl ?_
    refine g_ii_gt X0 hx (a := p1.toInt) (b := p3.toInt) rfl rfl (hb hby d4_7) (by decide) (pc' := 14) (by decide) (pc2 := 10) rfl (fun c2 => ?_) (fun c2 => ?_)
    · refine g_iconst X0 hx (hb hby d4_14) (v := 0) (by decide) (pc' := 15) rfl ?_
      refine g_retZ X0 hx hlk (by decide) hret (hb hby d4_15) N0 (by decide) (by decide) ?_
      exact ⟨_, rfl, by first | exact Or.inl ⟨by omega, rfl⟩ | exact Or.inr ⟨by omega, rfl⟩, e0⟩
    · refine g_iconst X0 hx (hb hby d4_10) (v := 1) (by decide) (pc' := 11) rfl ?_
      refine g_goto X0 hx (hb hby d4_11) (by decide) (pc' := 15) (by decide) ?_
      refine g_retZ X0 hx hlk (by decide) hret (hb hby d4_15) N0 (by decide) (by decide) ?_
      exact ⟨_, rfl, by first | exact Or.inl ⟨by omega, rfl⟩ | exact Or.inr ⟨by omega, rfl⟩, e0⟩
theorem d3_0 : decode method_4_code 0 = .ok (.iload_n 0, 1) := by decide +kernel
theorem d3_1 : decode method_4_code 1 = .ok (.bipush 45, 2) := by decide +kernel
theorem d3_3 : decode method_4_code 3 = .ok (.bipush 46, 2) := by decide +kernel
theorem d3_5 : decode method_4_code 5 = .ok (.invokestatic 26, 3) := by decide +kernel
theorem d3_8 : decode method_4_code 8 = .ok (.ifCond .ne 198, 3) := by decide +kernel
theorem d3_11 : decode method_4_code 11 = .ok (.iload_n 0, 1) := by decide +kernel
theorem d3_12 : decode method_4_code 12 = .ok (.bipush 48, 2) := by decide +kernel
theorem d3_14 : decode method_4_code 14 = .ok (.bipush 57, 2) := by decide +kernel
theorem d3_16 : decode method_4_code 16 = .ok (.invokestatic 26, 3) := by decide +kernel
theorem d3_19 : decode method_4_code 19 = .ok (.ifCond .ne 187, 3) := by decide +kernel
theorem d3_22 : decode method_4_code 22 = .ok (.iload_n 0, 1) := by decide +kernel
theorem d3_23 : decode method_4_code 23 = .ok (.bipush 65, 2) := by decide +kernel
theorem d3_25 : decode method_4_code 25 = .ok (.bipush 90, 2) := by decide +kernel
theorem d3_27 : decode method_4_code 27 = .ok (.invokestatic 26, 3) := by decide +kernel
theorem d3_30 : decode method_4_code 30 = .ok (.ifCond .ne 176, 3) := by decide +kernel
theorem d3_33 : decode method_4_code 33 = .ok (.iload_n 0, 1) := by decide +kernel
theorem d3_34 : decode method_4_code 34 = .ok (.bipush 95, 2) := by decide +kernel
theorem d3_36 : decode method_4_code 36 = .ok (.if_icmp .eq 170, 3) := by decide +kernel
theorem d3_39 : decode method_4_code 39 = .ok (.iload_n 0, 1) := by decide +kernel
theorem d3_40 : decode method_4_code 40 = .ok (.bipush 97, 2) := by decide +kernel
theorem d3_42 : decode method_4_code 42 = .ok (.bipush 122, 2) := by decide +kernel
theorem d3_44 : decode method_4_code 44 = .ok (.invokestatic 26, 3) := by decide +kernel
theorem d3_47 : decode method_4_code 47 = .ok (.ifCond .ne 159, 3) := by decide +kernel
theorem d3_50 : decode method_4_code 50 = .ok (.iload_n 0, 1) := by decide +kernel
theorem d3_51 : decode method_4_code 51 = .ok (.sipush 183, 3) := by decide +kernel
theorem d3_54 : decode method_4_code 54 = .ok (.if_icmp .eq 152, 3) := by decide +kernel
theorem d3_57 : decode method_4_code 57 = .ok (.iload_n 0, 1) := by decide +kernel
theorem d3_58 : decode method_4_code 58 = .ok (.sipush 192, 3) := by decide +kernel
theorem d3_61 : decode method_4_code 61 = .ok (.sipush 214, 3) := by decide +kernel
theorem d3_64 : decode method_4_code 64 = .ok (.invokestatic 26, 3) := by decide +kernel
theorem d3_67 : decode method_4_code 67 = .ok (.ifCond .ne 139, 3) := by decide +kernel
theorem d3_70 : decode method_4_code 70 = .ok (.iload_n 0, 1) := by decide +kernel
theorem d3_71 : decode method_4_code 71 = .ok (.sipush 216, 3) := by decide +kernel
theorem d3_74 : decode method_4_code 74 = .ok (.sipush 246, 3) := by decide +kernel
theorem d3_77 : decode method_4_code 77 = .ok (.invokestatic 26, 3) := by decide +kernel
theorem d3_80 : decode method_4_code 80 = .ok (.ifCond .ne 126, 3) := by decide +kernel
theorem d3_83 : decode method_4_code 83 = .ok (.iload_n 0, 1) := by decide +kernel
theorem d3_84 : decode method_4_code 84 = .ok (.sipush 248, 3) := by decide +kernel
theorem d3_87 : decode method_4_code 87 = .ok (.sipush 893, 3) := by decide +kernel
theorem d3_90 : decode method_4_code 90 = .ok (.invokestatic 26, 3) := by decide +kernel
theorem d3_93 : decode method_4_code 93 = .ok (.ifCond .ne 113, 3) := by decide +kernel
theorem d3_96 : decode method_4_code 96 = .ok (.iload_n 0, 1) := by decide +kernel
theorem d3_97 : decode method_4_code 97 = .ok (.sipush 895, 3) := by decide +kernel
theorem d3_100 : decode method_4_code 100 = .ok (.sipush 8191, 3) := by decide +kernel
theorem d3_103 : decode method_4_code 103 = .ok (.invokestatic 26, 3) := by decide +kernel
theorem d3_106 : decode method_4_code 106 = .ok (.ifCond .ne 100, 3) := by decide +kernel
theorem d3_109 : decode method_4_code 109 = .ok (.iload_n 0, 1) := by decide +kernel
theorem d3_110 : decode method_4_code 110 = .ok (.sipush 8204, 3) := by decide +kernel
theorem d3_113 : decode method_4_code 113 = .ok (.sipush 8205, 3) := by decide +kernel
theorem d3_116 : decode method_4_code 116 = .ok (.invokestatic 26, 3) := by decide +kernel
theorem d3_119 : decode method_4_code 119 = .ok (.ifCond .ne 87, 3) := by decide +kernel
theorem d3_122 : decode method_4_code 122 = .ok (.iload_n 0, 1) := by decide +kernel
theorem d3_123 : decode method_4_code 123 = .ok (.sipush 8255, 3) := by decide +kernel
theorem d3_126 : decode method_4_code 126 = .ok (.sipush 8256, 3) := by decide +kernel
theorem d3_129 : decode method_4_code 129 = .ok (.invokestatic 26, 3) := by decide +kernel
theorem d3_132 : decode method_4_code 132 = .ok (.ifCond .ne 74, 3) := by decide +kernel
theorem d3_135 : decode method_4_code 135 = .ok (.iload_n 0, 1) := by decide +kernel
theorem d3_136 : decode method_4_code 136 = .ok (.sipush 8304, 3) := by decide +kernel
theorem d3_139 : decode method_4_code 139 = .ok (.sipush 8591, 3) := by decide +kernel
theorem d3_142 : decode method_4_code 142 = .ok (.invokestatic 26, 3) := by decide +kernel
theorem d3_145 : decode method_4_code 145 = .ok (.ifCond .ne 61, 3) := by decide +kernel
theorem d3_148 : decode method_4_code 148 = .ok (.iload_n 0, 1) := by decide +kernel
theorem d3_149 : decode method_4_code 149 = .ok (.sipush 11264, 3) := by decide +kernel
theorem d3_152 : decode method_4_code 152 = .ok (.sipush 12271, 3) := by decide +kernel
theorem d3_155 : decode method_4_code 155 = .ok (.invokestatic 26, 3) := by decide +kernel
theorem d3_158 : decode method_4_code 158 = .ok (.ifCond .ne 48, 3) := by decide +kernel
theorem d3_161 : decode method_4_code 161 = .ok (.iload_n 0, 1) := by decide +kernel
theorem d3_162 : decode method_4_code 162 = .ok (.sipush 12289, 3) := by decide +kernel
theorem d3_165 : decode method_4_code 165 = .ok (.ldc 7, 2) := by decide +kernel
theorem d3_167 : decode method_4_code 167 = .ok (.invokestatic 26, 3) := by decide +kernel
theorem d3_170 : decode method_4_code 170 = .ok (.ifCond .ne 36, 3) := by decide +kernel
theorem d3_173 : decode method_4_code 173 = .ok (.iload_n 0, 1) := by decide +kernel
theorem d3_174 : decode method_4_code 174 = .ok (.ldc 8, 2) := by decide +kernel
theorem d3_176 : decode method_4_code 176 = .ok (.ldc 9, 2) := by decide +kernel
theorem d3_178 : decode method_4_code 178 = .ok (.invokestatic 26, 3) := by decide +kernel
theorem d3_181 : decode method_4_code 181 = .ok (.ifCond .ne 25, 3) := by decide +kernel
theorem d3_184 : decode method_4_code 184 = .ok (.iload_n 0, 1) := by decide +kernel
theorem d3_185 : decode method_4_code 185 = .ok (.ldc 10, 2) := by decide +kernel
theorem d3_187 : decode method_4_code 187 = .ok (.ldc 11, 2) := by decide +kernel
theorem d3_189 : decode method_4_code 189 = .ok (.invokestatic 26, 3) := by decide +kernel
theorem d3_192 : decode method_4_code 192 = .ok (.ifCond .ne 14, 3) := by decide +kernel
theorem d3_195 : decode method_4_code 195 = .ok (.iload_n 0, 1) := by decide +kernel
theorem d3_196 : decode method_4_code 196 = .ok (.ldc 12, 2) := by decide +kernel
theorem d3_198 : decode method_4_code 198 = .ok (.ldc 13, 2) := by decide +kernel
theorem d3_200 : decode method_4_code 200 = .ok (.invokestatic 26, 3) := by decide +kernel
theorem d3_203 : decode method_4_code 203 = .ok (.ifCond .eq 7, 3) := by decide +kernel
theorem d3_206 : decode method_4_code 206 = .ok (.iconst 1, 1) := by decide +kernel
theorem d3_207 : decode method_4_code 207 = .ok (.goto 4, 3) := by decide +kernel
theorem d3_210 : decode method_4_code 210 = .ok (.iconst 0, 1) := by decide +kernel
theorem d3_211 : decode method_4_code 211 = .ok (.ireturn, 1) := by decide +kernel
theorem pn_3 : plainFor (⟨"com/example/coextent/coextent/io/RdfXmlNamesIsNameCharPinLaw", "ref", "(I)Z"⟩ : MethodName) = true := by first | exact plainFor_of_name (by first | (simp [plainName, overriddenIn]; done) | decide +kernel) | decide +kernel
def Q4 (Z : State) (p1 : Int32) (h0 : Heap) (n0 : Nat) (v : Option Value) (h : Heap) : Prop := ∃ b : Int32, v = some (.int b) ∧ ((own_char p1.toInt) ∧ b.toInt = 1 ∨ ¬ (own_char p1.toInt) ∧ b.toInt = 0) ∧ h = h0
abbrev R4 : Room := { frames := 1, cells := 0, slots := 0, locals := 14 }
set_option maxRecDepth 65536 in
set_option maxHeartbeats 40000000 in
theorem rm4 (l : Launch) (Z : State) (a0 : Array Value) (hw : ∀ d ∈ tables_1, d.before a0 Z = true)  (p1 : Int32) (h0 : Heap) (n0 : Nat) (Z0 : n0 ≤ h0.size)  :
    Con l (⟨"com/example/coextent/coextent/io/RdfXmlNamesIsNameCharPinLaw", "ref", "(I)Z"⟩ : MethodName) method_4_code 1 (some .boolean) [] R4 Z #[(.int p1)] h0 n0 (Q4 Z p1 h0 n0) := by
  refine con_of (Ls0 := #[.val (.int p1)]) pn_3 (fun m => by first | (simp [entryFrame, mkF, argsToLocals, Value.category, maxLocals]; done) | rfl) ?_
  intro p e s m below meth c s₁ X0 hx hby hml hZ hown hnm hret hlk e0 N0
  show Goes p e s below (Q4 Z p1 h0 n0) n0 R4.cells R4.slots s₁ (mkF m 0 #[.val (.int p1)] [])
  refine g_iloadN X0 hx (hb hby d3_0) (v := p1) rfl (pc' := 1) rfl ?_
  refine g_bipush X0 hx (hb hby d3_1) (v := 45) (by decide) (pc' := 3) rfl ?_
  refine g_bipush X0 hx (hb hby d3_3) (v := 46) (by decide) (pc' := 5) rfl ?_
  refine g_static X0 hx hZ hown (hw _ (List.mem_of_getElem? (i := 23) rfl)) (hw _ (List.mem_of_getElem? (i := 24) rfl)) (hw _ (List.mem_of_getElem? (i := 21) rfl)) (hw _ (List.mem_of_getElem? (i := 25) rfl)) (by decide) (argsL := [(.int p1), (.int (45 : Int32)), (.int (46 : Int32))]) (rm3 l Z a0 hw p1 (45 : Int32) (46 : Int32) h0 n0 Z0 ) rfl e0 (by rw [hml]; rfl) pd_1 rfl (rest := []) rfl (W := 0) (Nat.le_of_eq rfl) (by decide) (by decide) (by decide) (by decide) N0 (hb hby d3_5) (pc' := 8) rfl (fun v1 T2 L3 X4 N5 q6 => ?_)
  obtain ⟨b7, rfl, f8, e9⟩ := q6
  have lt10 : (45 : Int32).toInt = 45 := rfl
  have lt11 : (46 : Int32).toInt = 46 := rfl
  show Goes p e s below (Q4 Z p1 h0 n0) n0 R4.cells R4.slots T2 (mkF m 8 #[.val (.int p1)] [(.int b7)])
  refine g_i0_ne X4 hx (a := b7.toInt) rfl (hb hby d3_8) (by decide) (pc' := 206) (by decide) (pc2 := 11) rfl (fun c12 => ?_) (fun c12 => ?_)
  · refine g_iconst X4 hx (hb hby d3_206) (v := 1) (by decide) (pc' := 207) rfl ?_
    refine g_goto X4 hx (hb hby d3_207) (by decide) (pc' := 211) (by decide) ?_
    refine g_retZ X4 hx hlk (by decide) hret (hb hby d3_211) N5 (by decide) (by decide) ?_
    exact ⟨_, rfl, by first | exact Or.inl ⟨by omega, rfl⟩ | exact Or.inr ⟨by omega, rfl⟩, e9⟩
  · refine g_iloadN X4 hx (hb hby d3_11) (v := p1) rfl (pc' := 12) rfl ?_
    refine g_bipush X4 hx (hb hby d3_12) (v := 48) (by decide) (pc' := 14) rfl ?_
    refine g_bipush X4 hx (hb hby d3_14) (v := 57) (by decide) (pc' := 16) rfl ?_
    refine g_static X4 hx hZ hown (hw _ (List.mem_of_getElem? (i := 23) rfl)) (hw _ (List.mem_of_getElem? (i := 24) rfl)) (hw _ (List.mem_of_getElem? (i := 21) rfl)) (hw _ (List.mem_of_getElem? (i := 25) rfl)) (by decide) (argsL := [(.int p1), (.int (48 : Int32)), (.int (57 : Int32))]) (rm3 l Z a0 hw p1 (48 : Int32) (57 : Int32) h0 n0 Z0 ) rfl e9 (by rw [hml]; rfl) pd_1 rfl (rest := []) rfl (W := 0) (Nat.le_of_eq rfl) (by decide) (by decide) (by decide) (by decide) N5 (hb hby d3_16) (pc' := 19) rfl (fun v13 T14 L15 X16 N17 q18 => ?_)
    obtain ⟨b19, rfl, f20, e21⟩ := q18
    have lt22 : (48 : Int32).toInt = 48 := rfl
    have lt23 : (57 : Int32).toInt = 57 := rfl
    show Goes p e s below (Q4 Z p1 h0 n0) n0 R4.cells R4.slots T14 (mkF m 19 #[.val (.int p1)] [(.int b19)])
    refine g_i0_ne X16 hx (a := b19.toInt) rfl (hb hby d3_19) (by decide) (pc' := 206) (by decide) (pc2 := 22) rfl (fun c24 => ?_) (fun c24 => ?_)
    · refine g_iconst X16 hx (hb hby d3_206) (v := 1) (by decide) (pc' := 207) rfl ?_
      refine g_goto X16 hx (hb hby d3_207) (by decide) (pc' := 211) (by decide) ?_
      refine g_retZ X16 hx hlk (by decide) hret (hb hby d3_211) N17 (by decide) (by decide) ?_
      exact ⟨_, rfl, by first | exact Or.inl ⟨by omega, rfl⟩ | exact Or.inr ⟨by omega, rfl⟩, e21⟩
    · refine g_iloadN X16 hx (hb hby d3_22) (v := p1) rfl (pc' := 23) rfl ?_
      refine g_bipush X16 hx (hb hby d3_23) (v := 65) (by decide) (pc' := 25) rfl ?_
      refine g_bipush X16 hx (hb hby d3_25) (v := 90) (by decide) (pc' := 27) rfl ?_
      refine g_static X16 hx hZ hown (hw _ (List.mem_of_getElem? (i := 23) rfl)) (hw _ (List.mem_of_getElem? (i := 24) rfl)) (hw _ (List.mem_of_getElem? (i := 21) rfl)) (hw _ (List.mem_of_getElem? (i := 25) rfl)) (by decide) (argsL := [(.int p1), (.int (65 : Int32)), (.int (90 : Int32))]) (rm3 l Z a0 hw p1 (65 : Int32) (90 : Int32) h0 n0 Z0 ) rfl e21 (by rw [hml]; rfl) pd_1 rfl (rest := []) rfl (W := 0) (Nat.le_of_eq rfl) (by decide) (by decide) (by decide) (by decide) N17 (hb hby d3_27) (pc' := 30) rfl (fun v25 T26 L27 X28 N29 q30 => ?_)
      obtain ⟨b31, rfl, f32, e33⟩ := q30
      have lt34 : (65 : Int32).toInt = 65 := rfl
      have lt35 : (90 : Int32).toInt = 90 := rfl
      show Goes p e s below (Q4 Z p1 h0 n0) n0 R4.cells R4.slots T26 (mkF m 30 #[.val (.int p1)] [(.int b31)])
      refine g_i0_ne X28 hx (a := b31.toInt) rfl (hb hby d3_30) (by decide) (pc' := 206) (by decide) (pc2 := 33) rfl (fun c36 => ?_) (fun c36 => ?_)
      · refine g_iconst X28 hx (hb hby d3_206) (v := 1) (by decide) (pc' := 207) rfl ?_
        refine g_goto X28 hx (hb hby d3_207) (by decide) (pc' := 211) (by decide) ?_
        refine g_retZ X28 hx hlk (by decide) hret (hb hby d3_211) N29 (by decide) (by decide) ?_
        exact ⟨_, rfl, by first | exact Or.inl ⟨by omega, rfl⟩ | exact Or.inr ⟨by omega, rfl⟩, e33⟩
      · refine g_iloadN X28 hx (hb hby d3_33) (v := p1) rfl (pc' := 34) rfl ?_
        refine g_bipush X28 hx (hb hby d3_34) (v := 95) (by decide) (pc' := 36) rfl ?_
        refine g_ii_eq X28 hx (a := p1.toInt) (b := 95) rfl rfl (hb hby d3_36) (by decide) (pc' := 206) (by decide) (pc2 := 39) rfl (fun c37 => ?_) (fun c37 => ?_)
        · refine g_iconst X28 hx (hb hby d3_206) (v := 1) (by decide) (pc' := 207) rfl ?_
          refine g_goto X28 hx (hb hby d3_207) (by decide) (pc' := 211) (by decide) ?_
          refine g_retZ X28 hx hlk (by decide) hret (hb hby d3_211) N29 (by decide) (by decide) ?_
          exact ⟨_, rfl, by first | exact Or.inl ⟨by omega, rfl⟩ | exact Or.inr ⟨by omega, rfl⟩, e33⟩
        · refine g_iloadN X28 hx (hb hby d3_39) (v := p1) rfl (pc' := 40) rfl ?_
          refine g_bipush X28 hx (hb hby d3_40) (v := 97) (by decide) (pc' := 42) rfl ?_
          refine g_bipush X28 hx (hb hby d3_42) (v := 122) (by decide) (pc' := 44) rfl ?_
          refine g_static X28 hx hZ hown (hw _ (List.mem_of_getElem? (i := 23) rfl)) (hw _ (List.mem_of_getElem? (i := 24) rfl)) (hw _ (List.mem_of_getElem? (i := 21) rfl)) (hw _ (List.mem_of_getElem? (i := 25) rfl)) (by decide) (argsL := [(.int p1), (.int (97 : Int32)), (.int (122 : Int32))]) (rm3 l Z a0 hw p1 (97 : Int32) (122 : Int32) h0 n0 Z0 ) rfl e33 (by rw [hml]; rfl) pd_1 rfl (rest := []) rfl (W := 0) (Nat.le_of_eq rfl) (by decide) (by decide) (by decide) (by decide) N29 (hb hby d3_44) (pc' := 47) rfl (fun v38 T39 L40 X41 N42 q43 => ?_)
          obtain ⟨b44, rfl, f45, e46⟩ := q43
          have lt47 : (97 : Int32).toInt = 97 := rfl
          have lt48 : (122 : Int32).toInt = 122 := rfl
          show Goes p e s below (Q4 Z p1 h0 n0) n0 R4.cells R4.slots T39 (mkF m 47 #[.val (.int p1)] [(.int b44)])
          refine g_i0_ne X41 hx (a := b44.toInt) rfl (hb hby d3_47) (by decide) (pc' := 206) (by decide) (pc2 := 50) rfl (fun c49 => ?_) (fun c49 => ?_)
          · refine g_iconst X41 hx (hb hby d3_206) (v := 1) (by decide) (pc' := 207) rfl ?_
            refine g_goto X41 hx (hb hby d3_207) (by decide) (pc' := 211) (by decide) ?_
            refine g_retZ X41 hx hlk (by decide) hret (hb hby d3_211) N42 (by decide) (by decide) ?_
            exact ⟨_, rfl, by first | exact Or.inl ⟨by omega, rfl⟩ | exact Or.inr ⟨by omega, rfl⟩, e46⟩
          · refine g_iloadN X41 hx (hb hby d3_50) (v := p1) rfl (pc' := 51) rfl ?_
            refine g_sipush X41 hx (hb hby d3_51) (v := 183) (by decide) (pc' := 54) rfl ?_
            refine g_ii_eq X41 hx (a := p1.toInt) (b := 183) rfl rfl (hb hby d3_54) (by decide) (pc' := 206) (by decide) (pc2 := 57) rfl (fun c50 => ?_) (fun c50 => ?_)
            · refine g_iconst X41 hx (hb hby d3_206) (v := 1) (by decide) (pc' := 207) rfl ?_
              refine g_goto X41 hx (hb hby d3_207) (by decide) (pc' := 211) (by decide) ?_
              refine g_retZ X41 hx hlk (by decide) hret (hb hby d3_211) N42 (by decide) (by decide) ?_
              exact ⟨_, rfl, by first | exact Or.inl ⟨by omega, rfl⟩ | exact Or.inr ⟨by omega, rfl⟩, e46⟩
            · refine g_iloadN X41 hx (hb hby d3_57) (v := p1) rfl (pc' := 58) rfl ?_
              refine g_sipush X41 hx (hb hby d3_58) (v := 192) (by decide) (pc' := 61) rfl ?_
              refine g_sipush X41 hx (hb hby d3_61) (v := 214) (by decide) (pc' := 64) rfl ?_
              refine g_static X41 hx hZ hown (hw _ (List.mem_of_getElem? (i := 23) rfl)) (hw _ (List.mem_of_getElem? (i := 24) rfl)) (hw _ (List.mem_of_getElem? (i := 21) rfl)) (hw _ (List.mem_of_getElem? (i := 25) rfl)) (by decide) (argsL := [(.int p1), (.int (192 : Int32)), (.int (214 : Int32))]) (rm3 l Z a0 hw p1 (192 : Int32) (214 : Int32) h0 n0 Z0 ) rfl e46 (by rw [hml]; rfl) pd_1 rfl (rest := []) rfl (W := 0) (Nat.le_of_eq rfl) (by decide) (by decide) (by decide) (by decide) N42 (hb hby d3_64) (pc' := 67) rfl (fun v51 T52 L53 X54 N55 q56 => ?_)
              obtain ⟨b57, rfl, f58, e59⟩ := q56
              have lt60 : (192 : Int32).toInt = 192 := rfl
              have lt61 : (214 : Int32).toInt = 214 := rfl
              show Goes p e s below (Q4 Z p1 h0 n0) n0 R4.cells R4.slots T52 (mkF m 67 #[.val (.int p1)] [(.int b57)])
              refine g_i0_ne X54 hx (a := b57.toInt) rfl (hb hby d3_67) (by decide) (pc' := 206) (by decide) (pc2 := 70) rfl (fun c62 => ?_) (fun c62 => ?_)
              · refine g_iconst X54 hx (hb hby d3_206) (v := 1) (by decide) (pc' := 207) rfl ?_
                refine g_goto X54 hx (hb hby d3_207) (by decide) (pc' := 211) (by decide) ?_
                refine g_retZ X54 hx hlk (by decide) hret (hb hby d3_211) N55 (by decide) (by decide) ?_
                exact ⟨_, rfl, by first | exact Or.inl ⟨by omega, rfl⟩ | exact Or.inr ⟨by omega, rfl⟩, e59⟩
              · refine g_iloadN X54 hx (hb hby d3_70) (v := p1) rfl (pc' := 71) rfl ?_
                refine g_sipush X54 hx (hb hby d3_71) (v := 216) (by decide) (pc' := 74) rfl ?_
                refine g_sipush X54 hx (hb hby d3_74) (v := 246) (by decide) (pc' := 77) rfl ?_
                refine g_static X54 hx hZ hown (hw _ (List.mem_of_getElem? (i := 23) rfl)) (hw _ (List.mem_of_getElem? (i := 24) rfl)) (hw _ (List.mem_of_getElem? (i := 21) rfl)) (hw _ (List.mem_of_getElem? (i := 25) rfl)) (by decide) (argsL := [(.int p1), (.int (216 : Int32)), (.int (246 : Int32))]) (rm3 l Z a0 hw p1 (216 : Int32) (246 : Int32) h0 n0 Z0 ) rfl e59 (by rw [hml]; rfl) pd_1 rfl (rest := []) rfl (W := 0) (Nat.le_of_eq rfl) (by decide) (by decide) (by decide) (by decide) N55 (hb hby d3_77) (pc' := 80) rfl (fun v63 T64 L65 X66 N67 q68 => ?_)
                obtain ⟨b69, rfl, f70, e71⟩ := q68
                have lt72 : (216 : Int32).toInt = 216 := rfl
                have lt73 : (246 : Int32).toInt = 246 := rfl
                show Goes p e s below (Q4 Z p1 h0 n0) n0 R4.cells R4.slots T64 (mkF m 80 #[.val (.int p1)] [(.int b69)])
                refine g_i0_ne X66 hx (a := b69.toInt) rfl (hb hby d3_80) (by decide) (pc' := 206) (by decide) (pc2 := 83) rfl (fun c74 => ?_) (fun c74 => ?_)
                · refine g_iconst X66 hx (hb hby d3_206) (v := 1) (by decide) (pc' := 207) rfl ?_
                  refine g_goto X66 hx (hb hby d3_207) (by decide) (pc' := 211) (by decide) ?_
                  refine g_retZ X66 hx hlk (by decide) hret (hb hby d3_211) N67 (by decide) (by decide) ?_
                  exact ⟨_, rfl, by first | exact Or.inl ⟨by omega, rfl⟩ | exact Or.inr ⟨by omega, rfl⟩, e71⟩
                · refine g_iloadN X66 hx (hb hby d3_83) (v := p1) rfl (pc' := 84) rfl ?_
                  refine g_sipush X66 hx (hb hby d3_84) (v := 248) (by decide) (pc' := 87) rfl ?_
                  refine g_sipush X66 hx (hb hby d3_87) (v := 893) (by decide) (pc' := 90) rfl ?_
                  refine g_static X66 hx hZ hown (hw _ (List.mem_of_getElem? (i := 23) rfl)) (hw _ (List.mem_of_getElem? (i := 24) rfl)) (hw _ (List.mem_of_getElem? (i := 21) rfl)) (hw _ (List.mem_of_getElem? (i := 25) rfl)) (by decide) (argsL := [(.int p1), (.int (248 : Int32)), (.int (893 : Int32))]) (rm3 l Z a0 hw p1 (248 : Int32) (893 : Int32) h0 n0 Z0 ) rfl e71 (by rw [hml]; rfl) pd_1 rfl (rest := []) rfl (W := 0) (Nat.le_of_eq rfl) (by decide) (by decide) (by decide) (by decide) N67 (hb hby d3_90) (pc' := 93) rfl (fun v75 T76 L77 X78 N79 q80 => ?_)
                  obtain ⟨b81, rfl, f82, e83⟩ := q80
                  have lt84 : (248 : Int32).toInt = 248 := rfl
                  have lt85 : (893 : Int32).toInt = 893 := rfl
                  show Goes p e s below (Q4 Z p1 h0 n0) n0 R4.cells R4.slots T76 (mkF m 93 #[.val (.int p1)] [(.int b81)])
                  refine g_i0_ne X78 hx (a := b81.toInt) rfl (hb hby d3_93) (by decide) (pc' := 206) (by decide) (pc2 := 96) rfl (fun c86 => ?_) (fun c86 => ?_)
                  · refine g_iconst X78 hx (hb hby d3_206) (v := 1) (by decide) (pc' := 207) rfl ?_
                    refine g_goto X78 hx (hb hby d3_207) (by decide) (pc' := 211) (by decide) ?_
                    refine g_retZ X78 hx hlk (by decide) hret (hb hby d3_211) N79 (by decide) (by decide) ?_
                    exact ⟨_, rfl, by first | exact Or.inl ⟨by omega, rfl⟩ | exact Or.inr ⟨by omega, rfl⟩, e83⟩
                  · refine g_iloadN X78 hx (hb hby d3_96) (v := p1) rfl (pc' := 97) rfl ?_
                    refine g_sipush X78 hx (hb hby d3_97) (v := 895) (by decide) (pc' := 100) rfl ?_
                    refine g_sipush X78 hx (hb hby d3_100) (v := 8191) (by decide) (pc' := 103) rfl ?_
                    refine g_static X78 hx hZ hown (hw _ (List.mem_of_getElem? (i := 23) rfl)) (hw _ (List.mem_of_getElem? (i := 24) rfl)) (hw _ (List.mem_of_getElem? (i := 21) rfl)) (hw _ (List.mem_of_getElem? (i := 25) rfl)) (by decide) (argsL := [(.int p1), (.int (895 : Int32)), (.int (8191 : Int32))]) (rm3 l Z a0 hw p1 (895 : Int32) (8191 : Int32) h0 n0 Z0 ) rfl e83 (by rw [hml]; rfl) pd_1 rfl (rest := []) rfl (W := 0) (Nat.le_of_eq rfl) (by decide) (by decide) (by decide) (by decide) N79 (hb hby d3_103) (pc' := 106) rfl (fun v87 T88 L89 X90 N91 q92 => ?_)
                    obtain ⟨b93, rfl, f94, e95⟩ := q92
                    have lt96 : (895 : Int32).toInt = 895 := rfl
                    have lt97 : (8191 : Int32).toInt = 8191 := rfl
                    show Goes p e s below (Q4 Z p1 h0 n0) n0 R4.cells R4.slots T88 (mkF m 106 #[.val (.int p1)] [(.int b93)])
                    refine g_i0_ne X90 hx (a := b93.toInt) rfl (hb hby d3_106) (by decide) (pc' := 206) (by decide) (pc2 := 109) rfl (fun c98 => ?_) (fun c98 => ?_)
                    · refine g_iconst X90 hx (hb hby d3_206) (v := 1) (by decide) (pc' := 207) rfl ?_
                      refine g_goto X90 hx (hb hby d3_207) (by decide) (pc' := 211) (by decide) ?_
                      refine g_retZ X90 hx hlk (by decide) hret (hb hby d3_211) N91 (by decide) (by decide) ?_
                      exact ⟨_, rfl, by first | exact Or.inl ⟨by omega, rfl⟩ | exact Or.inr ⟨by omega, rfl⟩, e95⟩
                    · refine g_iloadN X90 hx (hb hby d3_109) (v := p1) rfl (pc' := 110) rfl ?_
                      refine g_sipush X90 hx (hb hby d3_110) (v := 8204) (by decide) (pc' := 113) rfl ?_
                      refine g_sipush X90 hx (hb hby d3_113) (v := 8205) (by decide) (pc' := 116) rfl ?_
                      refine g_static X90 hx hZ hown (hw _ (List.mem_of_getElem? (i := 23) rfl)) (hw _ (List.mem_of_getElem? (i := 24) rfl)) (hw _ (List.mem_of_getElem? (i := 21) rfl)) (hw _ (List.mem_of_getElem? (i := 25) rfl)) (by decide) (argsL := [(.int p1), (.int (8204 : Int32)), (.int (8205 : Int32))]) (rm3 l Z a0 hw p1 (8204 : Int32) (8205 : Int32) h0 n0 Z0 ) rfl e95 (by rw [hml]; rfl) pd_1 rfl (rest := []) rfl (W := 0) (Nat.le_of_eq rfl) (by decide) (by decide) (by decide) (by decide) N91 (hb hby d3_116) (pc' := 119) rfl (fun v99 T100 L101 X102 N103 q104 => ?_)
                      obtain ⟨b105, rfl, f106, e107⟩ := q104
                      have lt108 : (8204 : Int32).toInt = 8204 := rfl
                      have lt109 : (8205 : Int32).toInt = 8205 := rfl
                      show Goes p e s below (Q4 Z p1 h0 n0) n0 R4.cells R4.slots T100 (mkF m 119 #[.val (.int p1)] [(.int b105)])
                      refine g_i0_ne X102 hx (a := b105.toInt) rfl (hb hby d3_119) (by decide) (pc' := 206) (by decide) (pc2 := 122) rfl (fun c110 => ?_) (fun c110 => ?_)
                      · refine g_iconst X102 hx (hb hby d3_206) (v := 1) (by decide) (pc' := 207) rfl ?_
                        refine g_goto X102 hx (hb hby d3_207) (by decide) (pc' := 211) (by decide) ?_
                        refine g_retZ X102 hx hlk (by decide) hret (hb hby d3_211) N103 (by decide) (by decide) ?_
                        exact ⟨_, rfl, by first | exact Or.inl ⟨by omega, rfl⟩ | exact Or.inr ⟨by omega, rfl⟩, e107⟩
                      · refine g_iloadN X102 hx (hb hby d3_122) (v := p1) rfl (pc' := 123) rfl ?_
                        refine g_sipush X102 hx (hb hby d3_123) (v := 8255) (by decide) (pc' := 126) rfl ?_
                        refine g_sipush X102 hx (hb hby d3_126) (v := 8256) (by decide) (pc' := 129) rfl ?_
                        refine g_static X102 hx hZ hown (hw _ (List.mem_of_getElem? (i := 23) rfl)) (hw _ (List.mem_of_getElem? (i := 24) rfl)) (hw _ (List.mem_of_getElem? (i := 21) rfl)) (hw _ (List.mem_of_getElem? (i := 25) rfl)) (by decide) (argsL := [(.int p1), (.int (8255 : Int32)), (.int (8256 : Int32))]) (rm3 l Z a0 hw p1 (8255 : Int32) (8256 : Int32) h0 n0 Z0 ) rfl e107 (by rw [hml]; rfl) pd_1 rfl (rest := []) rfl (W := 0) (Nat.le_of_eq rfl) (by decide) (by decide) (by decide) (by decide) N103 (hb hby d3_129) (pc' := 132) rfl (fun v111 T112 L113 X114 N115 q116 => ?_)
                        obtain ⟨b117, rfl, f118, e119⟩ := q116
                        have lt120 : (8255 : Int32).toInt = 8255 := rfl
                        have lt121 : (8256 : Int32).toInt = 8256 := rfl
                        show Goes p e s below (Q4 Z p1 h0 n0) n0 R4.cells R4.slots T112 (mkF m 132 #[.val (.int p1)] [(.int b117)])
                        refine g_i0_ne X114 hx (a := b117.toInt) rfl (hb hby d3_132) (by decide) (pc' := 206) (by decide) (pc2 := 135) rfl (fun c122 => ?_) (fun c122 => ?_)
                        · refine g_iconst X114 hx (hb hby d3_206) (v := 1) (by decide) (pc' := 207) rfl ?_
                          refine g_goto X114 hx (hb hby d3_207) (by decide) (pc' := 211) (by decide) ?_
                          refine g_retZ X114 hx hlk (by decide) hret (hb hby d3_211) N115 (by decide) (by decide) ?_
                          exact ⟨_, rfl, by first | exact Or.inl ⟨by omega, rfl⟩ | exact Or.inr ⟨by omega, rfl⟩, e119⟩
                        · refine g_iloadN X114 hx (hb hby d3_135) (v := p1) rfl (pc' := 136) rfl ?_
                          refine g_sipush X114 hx (hb hby d3_136) (v := 8304) (by decide) (pc' := 139) rfl ?_
                          refine g_sipush X114 hx (hb hby d3_139) (v := 8591) (by decide) (pc' := 142) rfl ?_
                          refine g_static X114 hx hZ hown (hw _ (List.mem_of_getElem? (i := 23) rfl)) (hw _ (List.mem_of_getElem? (i := 24) rfl)) (hw _ (List.mem_of_getElem? (i := 21) rfl)) (hw _ (List.mem_of_getElem? (i := 25) rfl)) (by decide) (argsL := [(.int p1), (.int (8304 : Int32)), (.int (8591 : Int32))]) (rm3 l Z a0 hw p1 (8304 : Int32) (8591 : Int32) h0 n0 Z0 ) rfl e119 (by rw [hml]; rfl) pd_1 rfl (rest := []) rfl (W := 0) (Nat.le_of_eq rfl) (by decide) (by decide) (by decide) (by decide) N115 (hb hby d3_142) (pc' := 145) rfl (fun v123 T124 L125 X126 N127 q128 => ?_)
                          obtain ⟨b129, rfl, f130, e131⟩ := q128
                          have lt132 : (8304 : Int32).toInt = 8304 := rfl
                          have lt133 : (8591 : Int32).toInt = 8591 := rfl
                          show Goes p e s below (Q4 Z p1 h0 n0) n0 R4.cells R4.slots T124 (mkF m 145 #[.val (.int p1)] [(.int b129)])
                          refine g_i0_ne X126 hx (a := b129.toInt) rfl (hb hby d3_145) (by decide) (pc' := 206) (by decide) (pc2 := 148) rfl (fun c134 => ?_) (fun c134 => ?_)
                          · refine g_iconst X126 hx (hb hby d3_206) (v := 1) (by decide) (pc' := 207) rfl ?_
                            refine g_goto X126 hx (hb hby d3_207) (by decide) (pc' := 211) (by decide) ?_
                            refine g_retZ X126 hx hlk (by decide) hret (hb hby d3_211) N127 (by decide) (by decide) ?_
                            exact ⟨_, rfl, by first | exact Or.inl ⟨by omega, rfl⟩ | exact Or.inr ⟨by omega, rfl⟩, e131⟩
                          · refine g_iloadN X126 hx (hb hby d3_148) (v := p1) rfl (pc' := 149) rfl ?_
                            refine g_sipush X126 hx (hb hby d3_149) (v := 11264) (by decide) (pc' := 152) rfl ?_
                            refine g_sipush X126 hx (hb hby d3_152) (v := 12271) (by decide) (pc' := 155) rfl ?_
                            refine g_static X126 hx hZ hown (hw _ (List.mem_of_getElem? (i := 23) rfl)) (hw _ (List.mem_of_getElem? (i := 24) rfl)) (hw _ (List.mem_of_getElem? (i := 21) rfl)) (hw _ (List.mem_of_getElem? (i := 25) rfl)) (by decide) (argsL := [(.int p1), (.int (11264 : Int32)), (.int (12271 : Int32))]) (rm3 l Z a0 hw p1 (11264 : Int32) (12271 : Int32) h0 n0 Z0 ) rfl e131 (by rw [hml]; rfl) pd_1 rfl (rest := []) rfl (W := 0) (Nat.le_of_eq rfl) (by decide) (by decide) (by decide) (by decide) N127 (hb hby d3_155) (pc' := 158) rfl (fun v135 T136 L137 X138 N139 q140 => ?_)
                            obtain ⟨b141, rfl, f142, e143⟩ := q140
                            have lt144 : (11264 : Int32).toInt = 11264 := rfl
                            have lt145 : (12271 : Int32).toInt = 12271 := rfl
                            show Goes p e s below (Q4 Z p1 h0 n0) n0 R4.cells R4.slots T136 (mkF m 158 #[.val (.int p1)] [(.int b141)])
                            refine g_i0_ne X138 hx (a := b141.toInt) rfl (hb hby d3_158) (by decide) (pc' := 206) (by decide) (pc2 := 161) rfl (fun c146 => ?_) (fun c146 => ?_)
                            · refine g_iconst X138 hx (hb hby d3_206) (v := 1) (by decide) (pc' := 207) rfl ?_
                              refine g_goto X138 hx (hb hby d3_207) (by decide) (pc' := 211) (by decide) ?_
                              refine g_retZ X138 hx hlk (by decide) hret (hb hby d3_211) N139 (by decide) (by decide) ?_
                              exact ⟨_, rfl, by first | exact Or.inl ⟨by omega, rfl⟩ | exact Or.inr ⟨by omega, rfl⟩, e143⟩
                            · refine g_iloadN X138 hx (hb hby d3_161) (v := p1) rfl (pc' := 162) rfl ?_
                              refine g_sipush X138 hx (hb hby d3_162) (v := 12289) (by decide) (pc' := 165) rfl ?_
                              refine g_ldc X138 hx hZ hown (hb hby d3_165) (v := 55295) (hw _ (List.mem_of_getElem? (i := 1) rfl)) (pc' := 167) rfl ?_
                              refine g_static X138 hx hZ hown (hw _ (List.mem_of_getElem? (i := 23) rfl)) (hw _ (List.mem_of_getElem? (i := 24) rfl)) (hw _ (List.mem_of_getElem? (i := 21) rfl)) (hw _ (List.mem_of_getElem? (i := 25) rfl)) (by decide) (argsL := [(.int p1), (.int (12289 : Int32)), (.int (55295 : Int32))]) (rm3 l Z a0 hw p1 (12289 : Int32) (55295 : Int32) h0 n0 Z0 ) rfl e143 (by rw [hml]; rfl) pd_1 rfl (rest := []) rfl (W := 0) (Nat.le_of_eq rfl) (by decide) (by decide) (by decide) (by decide) N139 (hb hby d3_167) (pc' := 170) rfl (fun v147 T148 L149 X150 N151 q152 => ?_)
                              obtain ⟨b153, rfl, f154, e155⟩ := q152
                              have lt156 : (12289 : Int32).toInt = 12289 := rfl
                              have lt157 : (55295 : Int32).toInt = 55295 := rfl
                              show Goes p e s below (Q4 Z p1 h0 n0) n0 R4.cells R4.slots T148 (mkF m 170 #[.val (.int p1)] [(.int b153)])
                              refine g_i0_ne X150 hx (a := b153.toInt) rfl (hb hby d3_170) (by decide) (pc' := 206) (by decide) (pc2 := 173) rfl (fun c158 => ?_) (fun c158 => ?_)
                              · refine g_iconst X150 hx (hb hby d3_206) (v := 1) (by decide) (pc' := 207) rfl ?_
                                refine g_goto X150 hx (hb hby d3_207) (by decide) (pc' := 211) (by decide) ?_
                                refine g_retZ X150 hx hlk (by decide) hret (hb hby d3_211) N151 (by decide) (by decide) ?_
                                exact ⟨_, rfl, by first | exact Or.inl ⟨by omega, rfl⟩ | exact Or.inr ⟨by omega, rfl⟩, e155⟩
                              · refine g_iloadN X150 hx (hb hby d3_173) (v := p1) rfl (pc' := 174) rfl ?_
                                refine g_ldc X150 hx hZ hown (hb hby d3_174) (v := 63744) (hw _ (List.mem_of_getElem? (i := 2) rfl)) (pc' := 176) rfl ?_
                                refine g_ldc X150 hx hZ hown (hb hby d3_176) (v := 64975) (hw _ (List.mem_of_getElem? (i := 3) rfl)) (pc' := 178) rfl ?_
                                refine g_static X150 hx hZ hown (hw _ (List.mem_of_getElem? (i := 23) rfl)) (hw _ (List.mem_of_getElem? (i := 24) rfl)) (hw _ (List.mem_of_getElem? (i := 21) rfl)) (hw _ (List.mem_of_getElem? (i := 25) rfl)) (by decide) (argsL := [(.int p1), (.int (63744 : Int32)), (.int (64975 : Int32))]) (rm3 l Z a0 hw p1 (63744 : Int32) (64975 : Int32) h0 n0 Z0 ) rfl e155 (by rw [hml]; rfl) pd_1 rfl (rest := []) rfl (W := 0) (Nat.le_of_eq rfl) (by decide) (by decide) (by decide) (by decide) N151 (hb hby d3_178) (pc' := 181) rfl (fun v159 T160 L161 X162 N163 q164 => ?_)
                                obtain ⟨b165, rfl, f166, e167⟩ := q164
                                have lt168 : (63744 : Int32).toInt = 63744 := rfl
                                have lt169 : (64975 : Int32).toInt = 64975 := rfl
                                show Goes p e s below (Q4 Z p1 h0 n0) n0 R4.cells R4.slots T160 (mkF m 181 #[.val (.int p1)] [(.int b165)])
                                refine g_i0_ne X162 hx (a := b165.toInt) rfl (hb hby d3_181) (by decide) (pc' := 206) (by decide) (pc2 := 184) rfl (fun c170 => ?_) (fun c170 => ?_)
                                · refine g_iconst X162 hx (hb hby d3_206) (v := 1) (by decide) (pc' := 207) rfl ?_
                                  refine g_goto X162 hx (hb hby d3_207) (by decide) (pc' := 211) (by decide) ?_
                                  refine g_retZ X162 hx hlk (by decide) hret (hb hby d3_211) N163 (by decide) (by decide) ?_
                                  exact ⟨_, rfl, by first | exact Or.inl ⟨by omega, rfl⟩ | exact Or.inr ⟨by omega, rfl⟩, e167⟩
                                · refine g_iloadN X162 hx (hb hby d3_184) (v := p1) rfl (pc' := 185) rfl ?_
                                  refine g_ldc X162 hx hZ hown (hb hby d3_185) (v := 65008) (hw _ (List.mem_of_getElem? (i := 4) rfl)) (pc' := 187) rfl ?_
                                  refine g_ldc X162 hx hZ hown (hb hby d3_187) (v := 65533) (hw _ (List.mem_of_getElem? (i := 5) rfl)) (pc' := 189) rfl ?_
                                  refine g_static X162 hx hZ hown (hw _ (List.mem_of_getElem? (i := 23) rfl)) (hw _ (List.mem_of_getElem? (i := 24) rfl)) (hw _ (List.mem_of_getElem? (i := 21) rfl)) (hw _ (List.mem_of_getElem? (i := 25) rfl)) (by decide) (argsL := [(.int p1), (.int (65008 : Int32)), (.int (65533 : Int32))]) (rm3 l Z a0 hw p1 (65008 : Int32) (65533 : Int32) h0 n0 Z0 ) rfl e167 (by rw [hml]; rfl) pd_1 rfl (rest := []) rfl (W := 0) (Nat.le_of_eq rfl) (by decide) (by decide) (by decide) (by decide) N163 (hb hby d3_189) (pc' := 192) rfl (fun v171 T172 L173 X174 N175 q176 => ?_)
                                  obtain ⟨b177, rfl, f178, e179⟩ := q176
                                  have lt180 : (65008 : Int32).toInt = 65008 := rfl
                                  have lt181 : (65533 : Int32).toInt = 65533 := rfl
                                  show Goes p e s below (Q4 Z p1 h0 n0) n0 R4.cells R4.slots T172 (mkF m 192 #[.val (.int p1)] [(.int b177)])
                                  refine g_i0_ne X174 hx (a := b177.toInt) rfl (hb hby d3_192) (by decide) (pc' := 206) (by decide) (pc2 := 195) rfl (fun c182 => ?_) (fun c182 => ?_)
                                  · refine g_iconst X174 hx (hb hby d3_206) (v := 1) (by decide) (pc' := 207) rfl ?_
                                    refine g_goto X174 hx (hb hby d3_207) (by decide) (pc' := 211) (by decide) ?_
                                    refine g_retZ X174 hx hlk (by decide) hret (hb hby d3_211) N175 (by decide) (by decide) ?_
                                    exact ⟨_, rfl, by first | exact Or.inl ⟨by omega, rfl⟩ | exact Or.inr ⟨by omega, rfl⟩, e179⟩
                                  · refine g_iloadN X174 hx (hb hby d3_195) (v := p1) rfl (pc' := 196) rfl ?_
                                    refine g_ldc X174 hx hZ hown (hb hby d3_196) (v := 65536) (hw _ (List.mem_of_getElem? (i := 6) rfl)) (pc' := 198) rfl ?_
                                    refine g_ldc X174 hx hZ hown (hb hby d3_198) (v := 983039) (hw _ (List.mem_of_getElem? (i := 7) rfl)) (pc' := 200) rfl ?_
                                    refine g_static X174 hx hZ hown (hw _ (List.mem_of_getElem? (i := 23) rfl)) (hw _ (List.mem_of_getElem? (i := 24) rfl)) (hw _ (List.mem_of_getElem? (i := 21) rfl)) (hw _ (List.mem_of_getElem? (i := 25) rfl)) (by decide) (argsL := [(.int p1), (.int (65536 : Int32)), (.int (983039 : Int32))]) (rm3 l Z a0 hw p1 (65536 : Int32) (983039 : Int32) h0 n0 Z0 ) rfl e179 (by rw [hml]; rfl) pd_1 rfl (rest := []) rfl (W := 0) (Nat.le_of_eq rfl) (by decide) (by decide) (by decide) (by decide) N175 (hb hby d3_200) (pc' := 203) rfl (fun v183 T184 L185 X186 N187 q188 => ?_)
                                    obtain ⟨b189, rfl, f190, e191⟩ := q188
                                    have lt192 : (65536 : Int32).toInt = 65536 := rfl
                                    have lt193 : (983039 : Int32).toInt = 983039 := rfl
                                    show Goes p e s below (Q4 Z p1 h0 n0) n0 R4.cells R4.slots T184 (mkF m 203 #[.val (.int p1)] [(.int b189)])
                                    refine g_i0_eq X186 hx (a := b189.toInt) rfl (hb hby d3_203) (by decide) (pc' := 210) (by decide) (pc2 := 206) rfl (fun c194 => ?_) (fun c194 => ?_)
                                    · refine g_iconst X186 hx (hb hby d3_210) (v := 0) (by decide) (pc' := 211) rfl ?_
                                      refine g_retZ X186 hx hlk (by decide) hret (hb hby d3_211) N187 (by decide) (by decide) ?_
                                      exact ⟨_, rfl, by first | exact Or.inl ⟨by omega, rfl⟩ | exact Or.inr ⟨by omega, rfl⟩, e191⟩
                                    · refine g_iconst X186 hx (hb hby d3_206) (v := 1) (by decide) (pc' := 207) rfl ?_
                                      refine g_goto X186 hx (hb hby d3_207) (by decide) (pc' := 211) (by decide) ?_
                                      refine g_retZ X186 hx hlk (by decide) hret (hb hby d3_211) N187 (by decide) (by decide) ?_
                                      exact ⟨_, rfl, by first | exact Or.inl ⟨by omega, rfl⟩ | exact Or.inr ⟨by omega, rfl⟩, e191⟩
theorem pn_4 : plainFor (⟨"com/example/coextent/coextent/io/RdfXmlNamesIsNameCharPinLaw", "law", "(III)Z"⟩ : MethodName) = true := by first | exact plainFor_of_name (by first | (simp [plainName, overriddenIn]; done) | decide +kernel) | decide +kernel
def Q0 (Z : State) (p0 : Int32) (p1 : Int32) (p2 : Int32) (h0 : Heap) (n0 : Nat) (v : Option Value) (h : Heap) : Prop := v = some (.int 1)
set_option maxRecDepth 65536 in
set_option maxHeartbeats 40000000 in
theorem rm0 (l : Launch) (Z : State) (a0 : Array Value) (hw : ∀ d ∈ tables_1, d.before a0 Z = true) (ws : List Jvm.Cond) (p0 : Int32) (p1 : Int32) (p2 : Int32) (h0 : Heap) (n0 : Nat) (Z0 : n0 ≤ h0.size)  :
    Con l x code maxLocals ret ws room_1 Z #[(.int p0), (.int p1), (.int p2)] h0 n0 (Q0 Z p0 p1 p2 h0 n0) := by
  refine con_of (Ls0 := #[.val (.int p0), .val (.int p1), .val (.int p2), .unset, .unset, .unset, .unset]) pn_4 (fun m => by first | (simp [entryFrame, mkF, argsToLocals, Value.category, maxLocals]; done) | rfl) ?_
  intro p e s m below meth c s₁ X0 hx hby hml hZ hown hnm hret hlk e0 N0
  refine g_bipush X0 hx (hb hby at_0) (v := 40) (by decide) (pc' := 2) rfl ?_
  refine g_newIA X0 hx hZ (hw _ (List.mem_of_getElem? (i := 0) rfl)) e0 (n := 40) rfl (cap := 40) (by decide) (by decide) (hb hby at_2) (by decide) (by decide) (pc' := 4) rfl (fun T1 h2 a3 g4 X5 e6 E7 l8 A9  => ?_)
  have Z10 : n0 ≤ h2.size := Nat.le_trans Z0 E7.1
  have nl11 : n0 ≤ a3 := by rw [g4]; exact Z0
  refine g_dup X5 hx (hb hby at_4) rfl (pc' := 5) rfl ?_
  refine g_iconst X5 hx (hb hby at_5) (v := 0) (by decide) (pc' := 6) rfl ?_
  refine g_bipush X5 hx (hb hby at_6) (v := 45) (by decide) (pc' := 8) rfl ?_
  refine g_iastore X5 hx hZ e6 (k := 0) (x := (45 : Int32)) A9 rfl (by decide) N0 nl11 (hb hby at_8) (pc' := 9) rfl (fun T12 h13 L14 X15 e16 W17 N18 A19 => ?_)
  have Z20 : n0 ≤ h13.size := by rw [W17.size]; exact Z10
  obtain ⟨f22, A23⟩ : ∃ f, IA Z h13 a3 40 f := ⟨_, A19⟩
  clear A19
  refine g_dup X15 hx (hb hby at_9) rfl (pc' := 10) rfl ?_
  refine g_iconst X15 hx (hb hby at_10) (v := 1) (by decide) (pc' := 11) rfl ?_
  refine g_bipush X15 hx (hb hby at_11) (v := 46) (by decide) (pc' := 13) rfl ?_
  refine g_iastore X15 hx hZ e16 (k := 1) (x := (46 : Int32)) A23 rfl (by decide) N18 nl11 (hb hby at_13) (pc' := 14) rfl (fun T24 h25 L26 X27 e28 W29 N30 A31 => ?_)
  have Z32 : n0 ≤ h25.size := by rw [W29.size]; exact Z20
  obtain ⟨f34, A35⟩ : ∃ f, IA Z h25 a3 40 f := ⟨_, A31⟩
  clear A31
  refine g_dup X27 hx (hb hby at_14) rfl (pc' := 15) rfl ?_
  refine g_iconst X27 hx (hb hby at_15) (v := 2) (by decide) (pc' := 16) rfl ?_
  refine g_bipush X27 hx (hb hby at_16) (v := 48) (by decide) (pc' := 18) rfl ?_
  refine g_iastore X27 hx hZ e28 (k := 2) (x := (48 : Int32)) A35 rfl (by decide) N30 nl11 (hb hby at_18) (pc' := 19) rfl (fun T36 h37 L38 X39 e40 W41 N42 A43 => ?_)
  have Z44 : n0 ≤ h37.size := by rw [W41.size]; exact Z32
  obtain ⟨f46, A47⟩ : ∃ f, IA Z h37 a3 40 f := ⟨_, A43⟩
  clear A43
  refine g_dup X39 hx (hb hby at_19) rfl (pc' := 20) rfl ?_
  refine g_iconst X39 hx (hb hby at_20) (v := 3) (by decide) (pc' := 21) rfl ?_
  refine g_bipush X39 hx (hb hby at_21) (v := 57) (by decide) (pc' := 23) rfl ?_
  refine g_iastore X39 hx hZ e40 (k := 3) (x := (57 : Int32)) A47 rfl (by decide) N42 nl11 (hb hby at_23) (pc' := 24) rfl (fun T48 h49 L50 X51 e52 W53 N54 A55 => ?_)
  have Z56 : n0 ≤ h49.size := by rw [W53.size]; exact Z44
  obtain ⟨f58, A59⟩ : ∃ f, IA Z h49 a3 40 f := ⟨_, A55⟩
  clear A55
  refine g_dup X51 hx (hb hby at_24) rfl (pc' := 25) rfl ?_
  refine g_iconst X51 hx (hb hby at_25) (v := 4) (by decide) (pc' := 26) rfl ?_
  refine g_bipush X51 hx (hb hby at_26) (v := 65) (by decide) (pc' := 28) rfl ?_
  refine g_iastore X51 hx hZ e52 (k := 4) (x := (65 : Int32)) A59 rfl (by decide) N54 nl11 (hb hby at_28) (pc' := 29) rfl (fun T60 h61 L62 X63 e64 W65 N66 A67 => ?_)
  have Z68 : n0 ≤ h61.size := by rw [W65.size]; exact Z56
  obtain ⟨f70, A71⟩ : ∃ f, IA Z h61 a3 40 f := ⟨_, A67⟩
  clear A67
  refine g_dup X63 hx (hb hby at_29) rfl (pc' := 30) rfl ?_
  refine g_iconst X63 hx (hb hby at_30) (v := 5) (by decide) (pc' := 31) rfl ?_
  refine g_bipush X63 hx (hb hby at_31) (v := 90) (by decide) (pc' := 33) rfl ?_
  refine g_iastore X63 hx hZ e64 (k := 5) (x := (90 : Int32)) A71 rfl (by decide) N66 nl11 (hb hby at_33) (pc' := 34) rfl (fun T72 h73 L74 X75 e76 W77 N78 A79 => ?_)
  have Z80 : n0 ≤ h73.size := by rw [W77.size]; exact Z68
  obtain ⟨f82, A83⟩ : ∃ f, IA Z h73 a3 40 f := ⟨_, A79⟩
  clear A79
  refine g_dup X75 hx (hb hby at_34) rfl (pc' := 35) rfl ?_
  refine g_bipush X75 hx (hb hby at_35) (v := 6) (by decide) (pc' := 37) rfl ?_
  refine g_bipush X75 hx (hb hby at_37) (v := 95) (by decide) (pc' := 39) rfl ?_
  refine g_iastore X75 hx hZ e76 (k := 6) (x := (95 : Int32)) A83 rfl (by decide) N78 nl11 (hb hby at_39) (pc' := 40) rfl (fun T84 h85 L86 X87 e88 W89 N90 A91 => ?_)
  have Z92 : n0 ≤ h85.size := by rw [W89.size]; exact Z80
  obtain ⟨f94, A95⟩ : ∃ f, IA Z h85 a3 40 f := ⟨_, A91⟩
  clear A91
  refine g_dup X87 hx (hb hby at_40) rfl (pc' := 41) rfl ?_
  refine g_bipush X87 hx (hb hby at_41) (v := 7) (by decide) (pc' := 43) rfl ?_
  refine g_bipush X87 hx (hb hby at_43) (v := 97) (by decide) (pc' := 45) rfl ?_
  refine g_iastore X87 hx hZ e88 (k := 7) (x := (97 : Int32)) A95 rfl (by decide) N90 nl11 (hb hby at_45) (pc' := 46) rfl (fun T96 h97 L98 X99 e100 W101 N102 A103 => ?_)
  have Z104 : n0 ≤ h97.size := by rw [W101.size]; exact Z92
  obtain ⟨f106, A107⟩ : ∃ f, IA Z h97 a3 40 f := ⟨_, A103⟩
  clear A103
  refine g_dup X99 hx (hb hby at_46) rfl (pc' := 47) rfl ?_
  refine g_bipush X99 hx (hb hby at_47) (v := 8) (by decide) (pc' := 49) rfl ?_
  refine g_bipush X99 hx (hb hby at_49) (v := 122) (by decide) (pc' := 51) rfl ?_
  refine g_iastore X99 hx hZ e100 (k := 8) (x := (122 : Int32)) A107 rfl (by decide) N102 nl11 (hb hby at_51) (pc' := 52) rfl (fun T108 h109 L110 X111 e112 W113 N114 A115 => ?_)
  have Z116 : n0 ≤ h109.size := by rw [W113.size]; exact Z104
  obtain ⟨f118, A119⟩ : ∃ f, IA Z h109 a3 40 f := ⟨_, A115⟩
  clear A115
  refine g_dup X111 hx (hb hby at_52) rfl (pc' := 53) rfl ?_
  refine g_bipush X111 hx (hb hby at_53) (v := 9) (by decide) (pc' := 55) rfl ?_
  refine g_sipush X111 hx (hb hby at_55) (v := 183) (by decide) (pc' := 58) rfl ?_
  refine g_iastore X111 hx hZ e112 (k := 9) (x := (183 : Int32)) A119 rfl (by decide) N114 nl11 (hb hby at_58) (pc' := 59) rfl (fun T120 h121 L122 X123 e124 W125 N126 A127 => ?_)
  have Z128 : n0 ≤ h121.size := by rw [W125.size]; exact Z116
  obtain ⟨f130, A131⟩ : ∃ f, IA Z h121 a3 40 f := ⟨_, A127⟩
  clear A127
  refine g_dup X123 hx (hb hby at_59) rfl (pc' := 60) rfl ?_
  refine g_bipush X123 hx (hb hby at_60) (v := 10) (by decide) (pc' := 62) rfl ?_
  refine g_sipush X123 hx (hb hby at_62) (v := 192) (by decide) (pc' := 65) rfl ?_
  refine g_iastore X123 hx hZ e124 (k := 10) (x := (192 : Int32)) A131 rfl (by decide) N126 nl11 (hb hby at_65) (pc' := 66) rfl (fun T132 h133 L134 X135 e136 W137 N138 A139 => ?_)
  have Z140 : n0 ≤ h133.size := by rw [W137.size]; exact Z128
  obtain ⟨f142, A143⟩ : ∃ f, IA Z h133 a3 40 f := ⟨_, A139⟩
  clear A139
  refine g_dup X135 hx (hb hby at_66) rfl (pc' := 67) rfl ?_
  refine g_bipush X135 hx (hb hby at_67) (v := 11) (by decide) (pc' := 69) rfl ?_
  refine g_sipush X135 hx (hb hby at_69) (v := 214) (by decide) (pc' := 72) rfl ?_
  refine g_iastore X135 hx hZ e136 (k := 11) (x := (214 : Int32)) A143 rfl (by decide) N138 nl11 (hb hby at_72) (pc' := 73) rfl (fun T144 h145 L146 X147 e148 W149 N150 A151 => ?_)
  have Z152 : n0 ≤ h145.size := by rw [W149.size]; exact Z140
  obtain ⟨f154, A155⟩ : ∃ f, IA Z h145 a3 40 f := ⟨_, A151⟩
  clear A151
  refine g_dup X147 hx (hb hby at_73) rfl (pc' := 74) rfl ?_
  refine g_bipush X147 hx (hb hby at_74) (v := 12) (by decide) (pc' := 76) rfl ?_
  refine g_sipush X147 hx (hb hby at_76) (v := 216) (by decide) (pc' := 79) rfl ?_
  refine g_iastore X147 hx hZ e148 (k := 12) (x := (216 : Int32)) A155 rfl (by decide) N150 nl11 (hb hby at_79) (pc' := 80) rfl (fun T156 h157 L158 X159 e160 W161 N162 A163 => ?_)
  have Z164 : n0 ≤ h157.size := by rw [W161.size]; exact Z152
  obtain ⟨f166, A167⟩ : ∃ f, IA Z h157 a3 40 f := ⟨_, A163⟩
  clear A163
  refine g_dup X159 hx (hb hby at_80) rfl (pc' := 81) rfl ?_
  refine g_bipush X159 hx (hb hby at_81) (v := 13) (by decide) (pc' := 83) rfl ?_
  refine g_sipush X159 hx (hb hby at_83) (v := 246) (by decide) (pc' := 86) rfl ?_
  refine g_iastore X159 hx hZ e160 (k := 13) (x := (246 : Int32)) A167 rfl (by decide) N162 nl11 (hb hby at_86) (pc' := 87) rfl (fun T168 h169 L170 X171 e172 W173 N174 A175 => ?_)
  have Z176 : n0 ≤ h169.size := by rw [W173.size]; exact Z164
  obtain ⟨f178, A179⟩ : ∃ f, IA Z h169 a3 40 f := ⟨_, A175⟩
  clear A175
  refine g_dup X171 hx (hb hby at_87) rfl (pc' := 88) rfl ?_
  refine g_bipush X171 hx (hb hby at_88) (v := 14) (by decide) (pc' := 90) rfl ?_
  refine g_sipush X171 hx (hb hby at_90) (v := 248) (by decide) (pc' := 93) rfl ?_
  refine g_iastore X171 hx hZ e172 (k := 14) (x := (248 : Int32)) A179 rfl (by decide) N174 nl11 (hb hby at_93) (pc' := 94) rfl (fun T180 h181 L182 X183 e184 W185 N186 A187 => ?_)
  have Z188 : n0 ≤ h181.size := by rw [W185.size]; exact Z176
  obtain ⟨f190, A191⟩ : ∃ f, IA Z h181 a3 40 f := ⟨_, A187⟩
  clear A187
  refine g_dup X183 hx (hb hby at_94) rfl (pc' := 95) rfl ?_
  refine g_bipush X183 hx (hb hby at_95) (v := 15) (by decide) (pc' := 97) rfl ?_
  refine g_sipush X183 hx (hb hby at_97) (v := 767) (by decide) (pc' := 100) rfl ?_
  refine g_iastore X183 hx hZ e184 (k := 15) (x := (767 : Int32)) A191 rfl (by decide) N186 nl11 (hb hby at_100) (pc' := 101) rfl (fun T192 h193 L194 X195 e196 W197 N198 A199 => ?_)
  have Z200 : n0 ≤ h193.size := by rw [W197.size]; exact Z188
  obtain ⟨f202, A203⟩ : ∃ f, IA Z h193 a3 40 f := ⟨_, A199⟩
  clear A199
  refine g_dup X195 hx (hb hby at_101) rfl (pc' := 102) rfl ?_
  refine g_bipush X195 hx (hb hby at_102) (v := 16) (by decide) (pc' := 104) rfl ?_
  refine g_sipush X195 hx (hb hby at_104) (v := 768) (by decide) (pc' := 107) rfl ?_
  refine g_iastore X195 hx hZ e196 (k := 16) (x := (768 : Int32)) A203 rfl (by decide) N198 nl11 (hb hby at_107) (pc' := 108) rfl (fun T204 h205 L206 X207 e208 W209 N210 A211 => ?_)
  have Z212 : n0 ≤ h205.size := by rw [W209.size]; exact Z200
  obtain ⟨f214, A215⟩ : ∃ f, IA Z h205 a3 40 f := ⟨_, A211⟩
  clear A211
  refine g_dup X207 hx (hb hby at_108) rfl (pc' := 109) rfl ?_
  refine g_bipush X207 hx (hb hby at_109) (v := 17) (by decide) (pc' := 111) rfl ?_
  refine g_sipush X207 hx (hb hby at_111) (v := 879) (by decide) (pc' := 114) rfl ?_
  refine g_iastore X207 hx hZ e208 (k := 17) (x := (879 : Int32)) A215 rfl (by decide) N210 nl11 (hb hby at_114) (pc' := 115) rfl (fun T216 h217 L218 X219 e220 W221 N222 A223 => ?_)
  have Z224 : n0 ≤ h217.size := by rw [W221.size]; exact Z212
  obtain ⟨f226, A227⟩ : ∃ f, IA Z h217 a3 40 f := ⟨_, A223⟩
  clear A223
  refine g_dup X219 hx (hb hby at_115) rfl (pc' := 116) rfl ?_
  refine g_bipush X219 hx (hb hby at_116) (v := 18) (by decide) (pc' := 118) rfl ?_
  refine g_sipush X219 hx (hb hby at_118) (v := 880) (by decide) (pc' := 121) rfl ?_
  refine g_iastore X219 hx hZ e220 (k := 18) (x := (880 : Int32)) A227 rfl (by decide) N222 nl11 (hb hby at_121) (pc' := 122) rfl (fun T228 h229 L230 X231 e232 W233 N234 A235 => ?_)
  have Z236 : n0 ≤ h229.size := by rw [W233.size]; exact Z224
  obtain ⟨f238, A239⟩ : ∃ f, IA Z h229 a3 40 f := ⟨_, A235⟩
  clear A235
  refine g_dup X231 hx (hb hby at_122) rfl (pc' := 123) rfl ?_
  refine g_bipush X231 hx (hb hby at_123) (v := 19) (by decide) (pc' := 125) rfl ?_
  refine g_sipush X231 hx (hb hby at_125) (v := 893) (by decide) (pc' := 128) rfl ?_
  refine g_iastore X231 hx hZ e232 (k := 19) (x := (893 : Int32)) A239 rfl (by decide) N234 nl11 (hb hby at_128) (pc' := 129) rfl (fun T240 h241 L242 X243 e244 W245 N246 A247 => ?_)
  have Z248 : n0 ≤ h241.size := by rw [W245.size]; exact Z236
  obtain ⟨f250, A251⟩ : ∃ f, IA Z h241 a3 40 f := ⟨_, A247⟩
  clear A247
  refine g_dup X243 hx (hb hby at_129) rfl (pc' := 130) rfl ?_
  refine g_bipush X243 hx (hb hby at_130) (v := 20) (by decide) (pc' := 132) rfl ?_
  refine g_sipush X243 hx (hb hby at_132) (v := 895) (by decide) (pc' := 135) rfl ?_
  refine g_iastore X243 hx hZ e244 (k := 20) (x := (895 : Int32)) A251 rfl (by decide) N246 nl11 (hb hby at_135) (pc' := 136) rfl (fun T252 h253 L254 X255 e256 W257 N258 A259 => ?_)
  have Z260 : n0 ≤ h253.size := by rw [W257.size]; exact Z248
  obtain ⟨f262, A263⟩ : ∃ f, IA Z h253 a3 40 f := ⟨_, A259⟩
  clear A259
  refine g_dup X255 hx (hb hby at_136) rfl (pc' := 137) rfl ?_
  refine g_bipush X255 hx (hb hby at_137) (v := 21) (by decide) (pc' := 139) rfl ?_
  refine g_sipush X255 hx (hb hby at_139) (v := 8191) (by decide) (pc' := 142) rfl ?_
  refine g_iastore X255 hx hZ e256 (k := 21) (x := (8191 : Int32)) A263 rfl (by decide) N258 nl11 (hb hby at_142) (pc' := 143) rfl (fun T264 h265 L266 X267 e268 W269 N270 A271 => ?_)
  have Z272 : n0 ≤ h265.size := by rw [W269.size]; exact Z260
  obtain ⟨f274, A275⟩ : ∃ f, IA Z h265 a3 40 f := ⟨_, A271⟩
  clear A271
  refine g_dup X267 hx (hb hby at_143) rfl (pc' := 144) rfl ?_
  refine g_bipush X267 hx (hb hby at_144) (v := 22) (by decide) (pc' := 146) rfl ?_
  refine g_sipush X267 hx (hb hby at_146) (v := 8204) (by decide) (pc' := 149) rfl ?_
  refine g_iastore X267 hx hZ e268 (k := 22) (x := (8204 : Int32)) A275 rfl (by decide) N270 nl11 (hb hby at_149) (pc' := 150) rfl (fun T276 h277 L278 X279 e280 W281 N282 A283 => ?_)
  have Z284 : n0 ≤ h277.size := by rw [W281.size]; exact Z272
  obtain ⟨f286, A287⟩ : ∃ f, IA Z h277 a3 40 f := ⟨_, A283⟩
  clear A283
  refine g_dup X279 hx (hb hby at_150) rfl (pc' := 151) rfl ?_
  refine g_bipush X279 hx (hb hby at_151) (v := 23) (by decide) (pc' := 153) rfl ?_
  refine g_sipush X279 hx (hb hby at_153) (v := 8205) (by decide) (pc' := 156) rfl ?_
  refine g_iastore X279 hx hZ e280 (k := 23) (x := (8205 : Int32)) A287 rfl (by decide) N282 nl11 (hb hby at_156) (pc' := 157) rfl (fun T288 h289 L290 X291 e292 W293 N294 A295 => ?_)
  have Z296 : n0 ≤ h289.size := by rw [W293.size]; exact Z284
  obtain ⟨f298, A299⟩ : ∃ f, IA Z h289 a3 40 f := ⟨_, A295⟩
  clear A295
  refine g_dup X291 hx (hb hby at_157) rfl (pc' := 158) rfl ?_
  refine g_bipush X291 hx (hb hby at_158) (v := 24) (by decide) (pc' := 160) rfl ?_
  refine g_sipush X291 hx (hb hby at_160) (v := 8255) (by decide) (pc' := 163) rfl ?_
  refine g_iastore X291 hx hZ e292 (k := 24) (x := (8255 : Int32)) A299 rfl (by decide) N294 nl11 (hb hby at_163) (pc' := 164) rfl (fun T300 h301 L302 X303 e304 W305 N306 A307 => ?_)
  have Z308 : n0 ≤ h301.size := by rw [W305.size]; exact Z296
  obtain ⟨f310, A311⟩ : ∃ f, IA Z h301 a3 40 f := ⟨_, A307⟩
  clear A307
  refine g_dup X303 hx (hb hby at_164) rfl (pc' := 165) rfl ?_
  refine g_bipush X303 hx (hb hby at_165) (v := 25) (by decide) (pc' := 167) rfl ?_
  refine g_sipush X303 hx (hb hby at_167) (v := 8256) (by decide) (pc' := 170) rfl ?_
  refine g_iastore X303 hx hZ e304 (k := 25) (x := (8256 : Int32)) A311 rfl (by decide) N306 nl11 (hb hby at_170) (pc' := 171) rfl (fun T312 h313 L314 X315 e316 W317 N318 A319 => ?_)
  have Z320 : n0 ≤ h313.size := by rw [W317.size]; exact Z308
  obtain ⟨f322, A323⟩ : ∃ f, IA Z h313 a3 40 f := ⟨_, A319⟩
  clear A319
  refine g_dup X315 hx (hb hby at_171) rfl (pc' := 172) rfl ?_
  refine g_bipush X315 hx (hb hby at_172) (v := 26) (by decide) (pc' := 174) rfl ?_
  refine g_sipush X315 hx (hb hby at_174) (v := 8304) (by decide) (pc' := 177) rfl ?_
  refine g_iastore X315 hx hZ e316 (k := 26) (x := (8304 : Int32)) A323 rfl (by decide) N318 nl11 (hb hby at_177) (pc' := 178) rfl (fun T324 h325 L326 X327 e328 W329 N330 A331 => ?_)
  have Z332 : n0 ≤ h325.size := by rw [W329.size]; exact Z320
  obtain ⟨f334, A335⟩ : ∃ f, IA Z h325 a3 40 f := ⟨_, A331⟩
  clear A331
  refine g_dup X327 hx (hb hby at_178) rfl (pc' := 179) rfl ?_
  refine g_bipush X327 hx (hb hby at_179) (v := 27) (by decide) (pc' := 181) rfl ?_
  refine g_sipush X327 hx (hb hby at_181) (v := 8591) (by decide) (pc' := 184) rfl ?_
  refine g_iastore X327 hx hZ e328 (k := 27) (x := (8591 : Int32)) A335 rfl (by decide) N330 nl11 (hb hby at_184) (pc' := 185) rfl (fun T336 h337 L338 X339 e340 W341 N342 A343 => ?_)
  have Z344 : n0 ≤ h337.size := by rw [W341.size]; exact Z332
  obtain ⟨f346, A347⟩ : ∃ f, IA Z h337 a3 40 f := ⟨_, A343⟩
  clear A343
  refine g_dup X339 hx (hb hby at_185) rfl (pc' := 186) rfl ?_
  refine g_bipush X339 hx (hb hby at_186) (v := 28) (by decide) (pc' := 188) rfl ?_
  refine g_sipush X339 hx (hb hby at_188) (v := 11264) (by decide) (pc' := 191) rfl ?_
  refine g_iastore X339 hx hZ e340 (k := 28) (x := (11264 : Int32)) A347 rfl (by decide) N342 nl11 (hb hby at_191) (pc' := 192) rfl (fun T348 h349 L350 X351 e352 W353 N354 A355 => ?_)
  have Z356 : n0 ≤ h349.size := by rw [W353.size]; exact Z344
  obtain ⟨f358, A359⟩ : ∃ f, IA Z h349 a3 40 f := ⟨_, A355⟩
  clear A355
  refine g_dup X351 hx (hb hby at_192) rfl (pc' := 193) rfl ?_
  refine g_bipush X351 hx (hb hby at_193) (v := 29) (by decide) (pc' := 195) rfl ?_
  refine g_sipush X351 hx (hb hby at_195) (v := 12271) (by decide) (pc' := 198) rfl ?_
  refine g_iastore X351 hx hZ e352 (k := 29) (x := (12271 : Int32)) A359 rfl (by decide) N354 nl11 (hb hby at_198) (pc' := 199) rfl (fun T360 h361 L362 X363 e364 W365 N366 A367 => ?_)
  have Z368 : n0 ≤ h361.size := by rw [W365.size]; exact Z356
  obtain ⟨f370, A371⟩ : ∃ f, IA Z h361 a3 40 f := ⟨_, A367⟩
  clear A367
  refine g_dup X363 hx (hb hby at_199) rfl (pc' := 200) rfl ?_
  refine g_bipush X363 hx (hb hby at_200) (v := 30) (by decide) (pc' := 202) rfl ?_
  refine g_sipush X363 hx (hb hby at_202) (v := 12289) (by decide) (pc' := 205) rfl ?_
  refine g_iastore X363 hx hZ e364 (k := 30) (x := (12289 : Int32)) A371 rfl (by decide) N366 nl11 (hb hby at_205) (pc' := 206) rfl (fun T372 h373 L374 X375 e376 W377 N378 A379 => ?_)
  have Z380 : n0 ≤ h373.size := by rw [W377.size]; exact Z368
  obtain ⟨f382, A383⟩ : ∃ f, IA Z h373 a3 40 f := ⟨_, A379⟩
  clear A379
  refine g_dup X375 hx (hb hby at_206) rfl (pc' := 207) rfl ?_
  refine g_bipush X375 hx (hb hby at_207) (v := 31) (by decide) (pc' := 209) rfl ?_
  refine g_ldc X375 hx hZ hown (hb hby at_209) (v := 55295) (hw _ (List.mem_of_getElem? (i := 1) rfl)) (pc' := 211) rfl ?_
  refine g_iastore X375 hx hZ e376 (k := 31) (x := (55295 : Int32)) A383 rfl (by decide) N378 nl11 (hb hby at_211) (pc' := 212) rfl (fun T384 h385 L386 X387 e388 W389 N390 A391 => ?_)
  have Z392 : n0 ≤ h385.size := by rw [W389.size]; exact Z380
  obtain ⟨f394, A395⟩ : ∃ f, IA Z h385 a3 40 f := ⟨_, A391⟩
  clear A391
  refine g_dup X387 hx (hb hby at_212) rfl (pc' := 213) rfl ?_
  refine g_bipush X387 hx (hb hby at_213) (v := 32) (by decide) (pc' := 215) rfl ?_
  refine g_ldc X387 hx hZ hown (hb hby at_215) (v := 63744) (hw _ (List.mem_of_getElem? (i := 2) rfl)) (pc' := 217) rfl ?_
  refine g_iastore X387 hx hZ e388 (k := 32) (x := (63744 : Int32)) A395 rfl (by decide) N390 nl11 (hb hby at_217) (pc' := 218) rfl (fun T396 h397 L398 X399 e400 W401 N402 A403 => ?_)
  have Z404 : n0 ≤ h397.size := by rw [W401.size]; exact Z392
  obtain ⟨f406, A407⟩ : ∃ f, IA Z h397 a3 40 f := ⟨_, A403⟩
  clear A403
  refine g_dup X399 hx (hb hby at_218) rfl (pc' := 219) rfl ?_
  refine g_bipush X399 hx (hb hby at_219) (v := 33) (by decide) (pc' := 221) rfl ?_
  refine g_ldc X399 hx hZ hown (hb hby at_221) (v := 64975) (hw _ (List.mem_of_getElem? (i := 3) rfl)) (pc' := 223) rfl ?_
  refine g_iastore X399 hx hZ e400 (k := 33) (x := (64975 : Int32)) A407 rfl (by decide) N402 nl11 (hb hby at_223) (pc' := 224) rfl (fun T408 h409 L410 X411 e412 W413 N414 A415 => ?_)
  have Z416 : n0 ≤ h409.size := by rw [W413.size]; exact Z404
  obtain ⟨f418, A419⟩ : ∃ f, IA Z h409 a3 40 f := ⟨_, A415⟩
  clear A415
  refine g_dup X411 hx (hb hby at_224) rfl (pc' := 225) rfl ?_
  refine g_bipush X411 hx (hb hby at_225) (v := 34) (by decide) (pc' := 227) rfl ?_
  refine g_ldc X411 hx hZ hown (hb hby at_227) (v := 65008) (hw _ (List.mem_of_getElem? (i := 4) rfl)) (pc' := 229) rfl ?_
  refine g_iastore X411 hx hZ e412 (k := 34) (x := (65008 : Int32)) A419 rfl (by decide) N414 nl11 (hb hby at_229) (pc' := 230) rfl (fun T420 h421 L422 X423 e424 W425 N426 A427 => ?_)
  have Z428 : n0 ≤ h421.size := by rw [W425.size]; exact Z416
  obtain ⟨f430, A431⟩ : ∃ f, IA Z h421 a3 40 f := ⟨_, A427⟩
  clear A427
  refine g_dup X423 hx (hb hby at_230) rfl (pc' := 231) rfl ?_
  refine g_bipush X423 hx (hb hby at_231) (v := 35) (by decide) (pc' := 233) rfl ?_
  refine g_ldc X423 hx hZ hown (hb hby at_233) (v := 65533) (hw _ (List.mem_of_getElem? (i := 5) rfl)) (pc' := 235) rfl ?_
  refine g_iastore X423 hx hZ e424 (k := 35) (x := (65533 : Int32)) A431 rfl (by decide) N426 nl11 (hb hby at_235) (pc' := 236) rfl (fun T432 h433 L434 X435 e436 W437 N438 A439 => ?_)
  have Z440 : n0 ≤ h433.size := by rw [W437.size]; exact Z428
  obtain ⟨f442, A443⟩ : ∃ f, IA Z h433 a3 40 f := ⟨_, A439⟩
  clear A439
  refine g_dup X435 hx (hb hby at_236) rfl (pc' := 237) rfl ?_
  refine g_bipush X435 hx (hb hby at_237) (v := 36) (by decide) (pc' := 239) rfl ?_
  refine g_ldc X435 hx hZ hown (hb hby at_239) (v := 65536) (hw _ (List.mem_of_getElem? (i := 6) rfl)) (pc' := 241) rfl ?_
  refine g_iastore X435 hx hZ e436 (k := 36) (x := (65536 : Int32)) A443 rfl (by decide) N438 nl11 (hb hby at_241) (pc' := 242) rfl (fun T444 h445 L446 X447 e448 W449 N450 A451 => ?_)
  have Z452 : n0 ≤ h445.size := by rw [W449.size]; exact Z440
  obtain ⟨f454, A455⟩ : ∃ f, IA Z h445 a3 40 f := ⟨_, A451⟩
  clear A451
  refine g_dup X447 hx (hb hby at_242) rfl (pc' := 243) rfl ?_
  refine g_bipush X447 hx (hb hby at_243) (v := 37) (by decide) (pc' := 245) rfl ?_
  refine g_ldc X447 hx hZ hown (hb hby at_245) (v := 983039) (hw _ (List.mem_of_getElem? (i := 7) rfl)) (pc' := 247) rfl ?_
  refine g_iastore X447 hx hZ e448 (k := 37) (x := (983039 : Int32)) A455 rfl (by decide) N450 nl11 (hb hby at_247) (pc' := 248) rfl (fun T456 h457 L458 X459 e460 W461 N462 A463 => ?_)
  have Z464 : n0 ≤ h457.size := by rw [W461.size]; exact Z452
  obtain ⟨f466, A467⟩ : ∃ f, IA Z h457 a3 40 f := ⟨_, A463⟩
  clear A463
  refine g_dup X459 hx (hb hby at_248) rfl (pc' := 249) rfl ?_
  refine g_bipush X459 hx (hb hby at_249) (v := 38) (by decide) (pc' := 251) rfl ?_
  refine g_bipush X459 hx (hb hby at_251) (v := 58) (by decide) (pc' := 253) rfl ?_
  refine g_iastore X459 hx hZ e460 (k := 38) (x := (58 : Int32)) A467 rfl (by decide) N462 nl11 (hb hby at_253) (pc' := 254) rfl (fun T468 h469 L470 X471 e472 W473 N474 A475 => ?_)
  have Z476 : n0 ≤ h469.size := by rw [W473.size]; exact Z464
  obtain ⟨f478, A479⟩ : ∃ f, IA Z h469 a3 40 f := ⟨_, A475⟩
  clear A475
  refine g_dup X471 hx (hb hby at_254) rfl (pc' := 255) rfl ?_
  refine g_bipush X471 hx (hb hby at_255) (v := 39) (by decide) (pc' := 257) rfl ?_
  refine g_iconst X471 hx (hb hby at_257) (v := 0) (by decide) (pc' := 258) rfl ?_
  refine g_iastore X471 hx hZ e472 (k := 39) (x := (0 : Int32)) A479 rfl (by decide) N474 nl11 (hb hby at_258) (pc' := 259) rfl (fun T480 h481 L482 X483 e484 W485 N486 A487 => ?_)
  have Z488 : n0 ≤ h481.size := by rw [W485.size]; exact Z476
  obtain ⟨f490, A491⟩ : ∃ f, IA Z h481 a3 40 f := ⟨_, A487⟩
  clear A487
  refine g_astoreN X483 hx (hb hby at_259) rfl (Ls' := #[.val (.int p0), .val (.int p1), .val (.int p2), .val (.ref a3), .unset, .unset, .unset]) rfl (pc' := 260) rfl ?_
  refine g_aloadN X483 hx (hb hby at_260) (v := (.ref a3)) rfl rfl (pc' := 261) rfl ?_
  refine g_iloadN X483 hx (hb hby at_261) (v := p1) rfl (pc' := 262) rfl ?_
  refine g_ldc X483 hx hZ hown (hb hby at_262) (v := 2147483647) (hw _ (List.mem_of_getElem? (i := 8) rfl)) (pc' := 264) rfl ?_
  refine g_iand X483 hx (hb hby at_264) (pc' := 265) rfl ?_
  refine g_aloadN X483 hx (hb hby at_265) (v := (.ref a3)) rfl rfl (pc' := 266) rfl ?_
  refine g_lenIA X483 hx hZ e484 (z := (40 : Int32)) A491 rfl (hb hby at_266) (pc' := 267) rfl ?_
  have hm := c_mask p1 2147483647 31 (by decide) (by decide)
  have hr := c_irem (p1 &&& (2147483647 : Int32)) 40 40 rfl
  refine g_irem X483 hx (hb hby at_267) (by decide) (pc' := 268) rfl ?_
  obtain ⟨kn, hkn, hkl⟩ := i32_get (x := ((p1 &&& (2147483647 : Int32)) % (40 : Int32))) (by omega)
  refine g_iaload X483 hx hZ e484 (k := kn) A491 hkn (by omega) (hb hby at_268) (pc' := 269) rfl ?_
  refine g_iloadN X483 hx (hb hby at_269) (v := p2) rfl (pc' := 270) rfl ?_
  refine g_iconst X483 hx (hb hby at_270) (v := 3) (by decide) (pc' := 271) rfl ?_
  refine g_iand X483 hx (hb hby at_271) (pc' := 272) rfl ?_
  refine g_iconst X483 hx (hb hby at_272) (v := 1) (by decide) (pc' := 273) rfl ?_
  refine g_isub X483 hx (hb hby at_273) (pc' := 274) rfl ?_
  refine g_iadd X483 hx (hb hby at_274) (pc' := 275) rfl ?_
  refine g_istore X483 hx (hb hby at_275) (Ls' := #[.val (.int p0), .val (.int p1), .val (.int p2), .val (.ref a3), .val (.int ((f490 kn) + ((p2 &&& (3 : Int32)) - (1 : Int32)))), .unset, .unset]) rfl (pc' := 277) rfl ?_
  generalize ((f490 kn) + ((p2 &&& (3 : Int32)) - (1 : Int32))) = cz
  show Goes p e s below (Q0 Z p0 p1 p2 h0 n0) n0 room_1.cells room_1.slots T480 (mkF m 277 #[.val (.int p0), .val (.int p1), .val (.int p2), .val (.ref a3), .val (.int cz), .unset, .unset] [])
  refine g_iloadN X483 hx (hb hby at_277) (v := p0) rfl (pc' := 278) rfl ?_
  refine g_static X483 hx hZ hown (hw _ (List.mem_of_getElem? (i := 9) rfl)) (hw _ (List.mem_of_getElem? (i := 10) rfl)) (hw _ (List.mem_of_getElem? (i := 11) rfl)) (hw _ (List.mem_of_getElem? (i := 12) rfl)) (by decide) (argsL := [(.int p0)]) (rm2 l Z a0 hw p0 h481 n0 Z488 ) rfl e484 (by rw [hml]; rfl) pd_0 rfl (rest := []) rfl (W := 0) (Nat.le_of_eq rfl) (by decide) (by decide) (by decide) (by decide) N486 (hb hby at_278) (pc' := 281) rfl (fun v492 T493 L494 X495 N496 q497 => ?_)
  obtain ⟨b498, rfl, f499, e500⟩ := q497
  show Goes p e s below (Q0 Z p0 p1 p2 h0 n0) n0 room_1.cells room_1.slots T493 (mkF m 281 #[.val (.int p0), .val (.int p1), .val (.int p2), .val (.ref a3), .val (.int cz), .unset, .unset] [(.int b498)])
  refine g_iloadN X495 hx (hb hby at_281) (v := p0) rfl (pc' := 282) rfl ?_
  refine g_static X495 hx hZ hown (hw _ (List.mem_of_getElem? (i := 19) rfl)) (hw _ (List.mem_of_getElem? (i := 20) rfl)) (hw _ (List.mem_of_getElem? (i := 21) rfl)) (hw _ (List.mem_of_getElem? (i := 22) rfl)) (by decide) (argsL := [(.int p0)]) (rm4 l Z a0 hw p0 h481 n0 Z488 ) rfl e500 (by rw [hml]; rfl) pd_0 rfl (rest := [(.int b498)]) rfl (W := 1) (Nat.le_of_eq rfl) (by decide) (by decide) (by decide) (by decide) N496 (hb hby at_282) (pc' := 285) rfl (fun v501 T502 L503 X504 N505 q506 => ?_)
  obtain ⟨b507, rfl, f508, e509⟩ := q506
  show Goes p e s below (Q0 Z p0 p1 p2 h0 n0) n0 room_1.cells room_1.slots T502 (mkF m 285 #[.val (.int p0), .val (.int p1), .val (.int p2), .val (.ref a3), .val (.int cz), .unset, .unset] [(.int b507), (.int b498)])
  refine g_ii_ne X504 hx (a := b498.toInt) (b := b507.toInt) rfl rfl (hb hby at_285) (by decide) (pc' := 292) (by decide) (pc2 := 288) rfl (fun c510 => False.elim (by omega)) (fun c510 => ?_)
  refine g_iconst X504 hx (hb hby at_288) (v := 1) (by decide) (pc' := 289) rfl ?_
  refine g_goto X504 hx (hb hby at_289) (by decide) (pc' := 293) (by decide) ?_
  refine g_istore X504 hx (hb hby at_293) (Ls' := #[.val (.int p0), .val (.int p1), .val (.int p2), .val (.ref a3), .val (.int cz), .val (.int (1 : Int32)), .unset]) rfl (pc' := 295) rfl ?_
  refine g_iload X504 hx (hb hby at_295) (v := cz) rfl (pc' := 297) rfl ?_
  refine g_static X504 hx hZ hown (hw _ (List.mem_of_getElem? (i := 9) rfl)) (hw _ (List.mem_of_getElem? (i := 10) rfl)) (hw _ (List.mem_of_getElem? (i := 11) rfl)) (hw _ (List.mem_of_getElem? (i := 12) rfl)) (by decide) (argsL := [(.int cz)]) (rm2 l Z a0 hw cz h481 n0 Z488 ) rfl e509 (by rw [hml]; rfl) pd_0 rfl (rest := []) rfl (W := 0) (Nat.le_of_eq rfl) (by decide) (by decide) (by decide) (by decide) N505 (hb hby at_297) (pc' := 300) rfl (fun v511 T512 L513 X514 N515 q516 => ?_)
  obtain ⟨b517, rfl, f518, e519⟩ := q516
  show Goes p e s below (Q0 Z p0 p1 p2 h0 n0) n0 room_1.cells room_1.slots T512 (mkF m 300 #[.val (.int p0), .val (.int p1), .val (.int p2), .val (.ref a3), .val (.int cz), .val (.int (1 : Int32)), .unset] [(.int b517)])
  refine g_iload X514 hx (hb hby at_300) (v := cz) rfl (pc' := 302) rfl ?_
  refine g_static X514 hx hZ hown (hw _ (List.mem_of_getElem? (i := 19) rfl)) (hw _ (List.mem_of_getElem? (i := 20) rfl)) (hw _ (List.mem_of_getElem? (i := 21) rfl)) (hw _ (List.mem_of_getElem? (i := 22) rfl)) (by decide) (argsL := [(.int cz)]) (rm4 l Z a0 hw cz h481 n0 Z488 ) rfl e519 (by rw [hml]; rfl) pd_0 rfl (rest := [(.int b517)]) rfl (W := 1) (Nat.le_of_eq rfl) (by decide) (by decide) (by decide) (by decide) N515 (hb hby at_302) (pc' := 305) rfl (fun v520 T521 L522 X523 N524 q525 => ?_)
  obtain ⟨b526, rfl, f527, e528⟩ := q525
  show Goes p e s below (Q0 Z p0 p1 p2 h0 n0) n0 room_1.cells room_1.slots T521 (mkF m 305 #[.val (.int p0), .val (.int p1), .val (.int p2), .val (.ref a3), .val (.int cz), .val (.int (1 : Int32)), .unset] [(.int b526), (.int b517)])
  refine g_ii_ne X523 hx (a := b517.toInt) (b := b526.toInt) rfl rfl (hb hby at_305) (by decide) (pc' := 312) (by decide) (pc2 := 308) rfl (fun c529 => False.elim (by omega)) (fun c529 => ?_)
  refine g_iconst X523 hx (hb hby at_308) (v := 1) (by decide) (pc' := 309) rfl ?_
  refine g_goto X523 hx (hb hby at_309) (by decide) (pc' := 313) (by decide) ?_
  refine g_istore X523 hx (hb hby at_313) (Ls' := #[.val (.int p0), .val (.int p1), .val (.int p2), .val (.ref a3), .val (.int cz), .val (.int (1 : Int32)), .val (.int (1 : Int32))]) rfl (pc' := 315) rfl ?_
  refine g_iload X523 hx (hb hby at_315) (v := (1 : Int32)) rfl (pc' := 317) rfl ?_
  refine g_i0_eq X523 hx (a := 1) rfl (hb hby at_317) (by decide) (pc' := 329) (by decide) (pc2 := 320) rfl (fun c530 => False.elim (by omega)) (fun c530 => ?_)
  refine g_iload X523 hx (hb hby at_320) (v := (1 : Int32)) rfl (pc' := 322) rfl ?_
  refine g_i0_eq X523 hx (a := 1) rfl (hb hby at_322) (by decide) (pc' := 329) (by decide) (pc2 := 325) rfl (fun c531 => False.elim (by omega)) (fun c531 => ?_)
  refine g_iconst X523 hx (hb hby at_325) (v := 1) (by decide) (pc' := 326) rfl ?_
  refine g_goto X523 hx (hb hby at_326) (by decide) (pc' := 330) (by decide) ?_
  refine g_retZ X523 hx hlk (by decide) hret (hb hby at_330) N524 (by decide) (by decide) ?_
  exact rfl
set_option maxRecDepth 65536 in
set_option maxHeartbeats 40000000 in
theorem comes_1 {Post : Tables → Env → Array Value → State → Outcome → State → Prop} (hpost : ∀ tb e args s v u, (limb_1_1.after args s (.returned v) u = true ∧ limb_1_2.after args s (.returned v) u = true ∧ True) → FrameEnd s (.returned v) u (Jvm.fieldLocs frame_1_writes args s ++ Jvm.arrayLocs frame_1_arrays args s ++ Jvm.staticLocs frame_1_statics s) 16 192 → Post tb e args s (.returned v) u) :
    ArmFor flags0 classFile x code maxLocals ret World_1 tables_1 room_1 Calls_1 rest_1 Pre_1 Post := by
  intro l hfl _ _ p e ha hc hk s m args below hf hA hF happ hP
  obtain ⟨hcalls, hrest, hpre⟩ := hP
  obtain ⟨-, -, -, hnamed, -, -, -, hat⟩ := (Spec.applies_iff hf).mp happ
  obtain ⟨hg, hn⟩ := and_e (Cond.before_iff.mp (show (Jvm.Cond.and given_1 narrow_1).before args s = true from hpre))
  obtain ⟨hcount, k0⟩ := and_e hg
  obtain ⟨g0, k1⟩ := and_e k0
  obtain ⟨g1, k2⟩ := and_e k1
  have g2 := k2
  obtain ⟨w0, w1, w2, rfl⟩ : ∃ w0 w1 w2 : Value, args = #[w0, w1, w2] := by
    have hs : args.size = 3 := by simpa [Cond.value, given_1] using hcount
    obtain ⟨L⟩ := args
    match L, hs with
    | [w0, w1, w2], _ => exact ⟨w0, w1, w2, rfl⟩
  have hw := fun d (hd : d ∈ tables_1) => atoms_spec (ws := Jvm.Cond.code x code maxLocals ret :: tables_1) hat d (List.mem_cons_of_mem _ hd)
  obtain ⟨i0, z0⟩ := is_v g0
  obtain rfl : w0 = (.int i0) := Option.some.inj z0
  obtain ⟨i1, z1⟩ := is_v g1
  obtain rfl : w1 = (.int i1) := Option.some.inj z1
  obtain ⟨i2, z2⟩ := is_v g2
  obtain rfl : w2 = (.int i2) := Option.some.inj z2
  obtain ⟨n, o, h1, h2, h3, _, L, rfl, ⟨N, rfl⟩, hq⟩ := rm0 l s _ hw tables_1 i0 i1 i2  s.heap s.heap.size (Nat.le_refl _)  p e ha hc hk s m _ below hf ((Spec.applies_iff_loose hf).mp happ).1 ⟨rfl, State.Warmed39.refl s, rfl⟩ trivial
  exact ⟨n, _, h1, h2, h3, hpost _ _ _ _ _ _ ⟨Cond.after_iff.mpr rfl, Cond.after_iff.mpr (eq_i res_at (Term.int_eval (1)) rfl), trivial⟩ ⟨hq.1, hq.2.1, (hq.2.2.sift fun y hy => Or.inr (N y hy)).mono (by decide) (by decide)⟩⟩
theorem main_1_1 : Claimed_1_1 := comes_1 fun _ _ _ _ _ _ h hF => ⟨h.1, hF⟩
theorem main_1_2 : Claimed_1_2 := comes_1 fun _ _ _ _ _ _ h hF => ⟨h.2.1, hF⟩
end Jvm.Pilot.@@N@@
namespace Jvm.Pilot.@@N@@
open Jvm Jvm.ClassFile Sem Op Lib Jvm.Free Jvm.Stand Jvm.Pilot.@@N@@.Jvm.D
/-! MADE BY PROGRAM (witnessworld.py) out of the Statement's table words and the real class files: 9 classes; the members and pool entries that the words name. The judged class is class 1, her method 1. -/
namespace start1
open Jvm.ClassFile
def u (s : String) : CpInfo := .utf8 (stringToUtf16 s)
/-- a pool by its gaps: so many unusable entries, then the entry; so many at the end -/
def gap : Nat → List CpInfo → List CpInfo
  | 0, r => r
  | n + 1, r => .unusable :: gap n r
def poolList (es : List (Nat × CpInfo)) (last : Nat) : List CpInfo := es.foldr (fun e r => gap e.1 (e.2 :: r)) (gap last [])
def pool (es : List (Nat × CpInfo)) (last : Nat) : Array CpInfo := ⟨poolList es last⟩
def fileOf (pool : Array CpInfo) (this : Nat) (attrs : Array Attribute := #[]) (ms : Array MethodInfo := #[]) (fl : Nat := 33) (sup : Nat := 0) (ifs : Array Nat := #[]) (fds : Array FieldInfo := #[]) : ClassFile where
  minorVersion := 0
  majorVersion := 65
  constantPool := pool
  accessFlags := fl
  thisClass := this
  superClass := sup
  interfaces := ifs
  fields := fds
  methods := ms
  attributes := attrs
def plain (name : String) (sup : Option ClassId) : Class where
  name := name
  kind := .ordinary
  loader := none
  accessFlags := 33
  super := sup
  interfaces := #[]
  cf := none
  fields := #[]
  methods := #[]
  instanceTypes := #[]
  staticTypes := #[]
  resolved := #[]
  callSites := []
  init := .initialized
  statics := none
  mirror := none

def pool0 : Array CpInfo := pool [(5, u "<init>"), (0, u "()V"), (1, .class_ 10), (1, u "java/lang/Object")] 113

def k0m0 : Method := { name := "<init>", desc := "()V", sig := { parameters := [], returnType := none }, accessFlags := 1, code := none }
/-- java/lang/Object -/
def k0 : Class := { plain "java/lang/Object" none with
  accessFlags := 33
  interfaces := #[]
  cf := some (fileOf pool0 8 #[] #[{ accessFlags := 1, nameIndex := 5, descriptorIndex := 6, attributes := #[] }] 33 0 #[] #[])
  fields := #[]
  methods := #[k0m0]
  instanceTypes := #[]
  staticTypes := #[]
  resolved := Array.replicate 124 none
  statics := none }

def pool1 : Array CpInfo := pool [(2, .class_ 4), (1, u "java/lang/Object"), (0, u "<init>"), (0, u "()V"), (0, .integer 55295), (0, .integer 63744), (0, .integer 64975), (0, .integer 65008), (0, .integer 65533), (0, .integer 65536), (0, .integer 983039), (0, .integer 2147483647), (0, .methodref 16 17), (0, .class_ 18), (0, .nameAndType 19 20), (0, u "com/example/coextent/coextent/io/RdfXmlNames"), (0, u "isNameChar"), (0, u "(I)Z"), (0, .methodref 22 23), (0, .class_ 24), (0, .nameAndType 25 20), (0, u "com/example/coextent/coextent/io/RdfXmlNamesIsNameCharPinLaw"), (0, u "ref"), (0, .methodref 22 27), (0, .nameAndType 28 29), (0, u "in"), (0, u "(III)Z"), (2, u "law")] 5

def k1m0 : Method := { name := "<init>", desc := "()V", sig := { parameters := [], returnType := none }, accessFlags := 2, code := none }
def k1c1 : Code := { maxStack := 4, maxLocals := 7, code := code, exceptionTable := #[], attributes := #[] }
def k1m1 : Method := { name := "law", desc := "(III)Z", sig := { parameters := [.int, .int, .int], returnType := some .boolean }, accessFlags := 9, code := some k1c1 }
def k1c2 : Code := { maxStack := 2, maxLocals := 3, code := method_3_code, exceptionTable := #[], attributes := #[] }
def k1m2 : Method := { name := "in", desc := "(III)Z", sig := { parameters := [.int, .int, .int], returnType := some .boolean }, accessFlags := 10, code := some k1c2 }
def k1c3 : Code := { maxStack := 3, maxLocals := 1, code := method_4_code, exceptionTable := #[], attributes := #[] }
def k1m3 : Method := { name := "ref", desc := "(I)Z", sig := { parameters := [.int], returnType := some .boolean }, accessFlags := 10, code := some k1c3 }
/-- com/example/coextent/coextent/io/RdfXmlNamesIsNameCharPinLaw -/
def k1 : Class := { plain "com/example/coextent/coextent/io/RdfXmlNamesIsNameCharPinLaw" (some 0) with
  accessFlags := 49
  interfaces := #[]
  cf := some (fileOf pool1 22 #[] #[{ accessFlags := 2, nameIndex := 5, descriptorIndex := 6, attributes := #[] }, { accessFlags := 9, nameIndex := 32, descriptorIndex := 29, attributes := #[] }, { accessFlags := 10, nameIndex := 28, descriptorIndex := 29, attributes := #[] }, { accessFlags := 10, nameIndex := 25, descriptorIndex := 20, attributes := #[] }] 49 2 #[] #[])
  fields := #[]
  methods := #[k1m0, k1m1, k1m2, k1m3]
  instanceTypes := #[]
  staticTypes := #[]
  resolved := Array.replicate 38 none
  statics := none }

def pool2 : Array CpInfo := pool [(2, .class_ 4), (1, u "java/lang/Object"), (0, u "<init>"), (0, u "()V"), (1, .class_ 10), (1, u "com/example/coextent/coextent/io/RdfXmlNames"), (4, u "NOT_NODES"), (0, u "Ljava/util/Set;"), (8, u "NOT_PROPERTIES"), (17, .methodref 8 44), (0, .nameAndType 45 46), (0, u "isNameStart"), (0, u "(I)Z"), (14, .integer 55295), (0, .integer 63744), (0, .integer 64975), (0, .integer 65008), (0, .integer 65533), (0, .integer 65536), (0, .integer 983039), (38, u "CORE_TERMS"), (11, u "OLD_TERMS"), (10, u "NOT_PROPERTY_ATTRIBUTES"), (9, u "isNameChar")] 22

def k2m0 : Method := { name := "<init>", desc := "()V", sig := { parameters := [], returnType := none }, accessFlags := 2, code := none }
def k2c1 : Code := { maxStack := 2, maxLocals := 1, code := prog_19_method_6_code, exceptionTable := #[], attributes := #[] }
def k2m1 : Method := { name := "isNameStart", desc := "(I)Z", sig := { parameters := [.int], returnType := some .boolean }, accessFlags := 8, code := some k2c1 }
def k2c2 : Code := { maxStack := 2, maxLocals := 1, code := prog_19_method_7_code, exceptionTable := #[], attributes := #[] }
def k2m2 : Method := { name := "isNameChar", desc := "(I)Z", sig := { parameters := [.int], returnType := some .boolean }, accessFlags := 8, code := some k2c2 }
/-- com/example/coextent/coextent/io/RdfXmlNames -/
def k2 : Class := { plain "com/example/coextent/coextent/io/RdfXmlNames" (some 0) with
  accessFlags := 48
  interfaces := #[]
  cf := some (fileOf pool2 8 #[] #[{ accessFlags := 2, nameIndex := 5, descriptorIndex := 6, attributes := #[] }, { accessFlags := 8, nameIndex := 45, descriptorIndex := 46, attributes := #[] }, { accessFlags := 8, nameIndex := 139, descriptorIndex := 46, attributes := #[] }] 48 2 #[] #[{ accessFlags := 26, nameIndex := 106, descriptorIndex := 16, attributes := #[] }, { accessFlags := 26, nameIndex := 118, descriptorIndex := 16, attributes := #[] }, { accessFlags := 26, nameIndex := 15, descriptorIndex := 16, attributes := #[] }, { accessFlags := 26, nameIndex := 25, descriptorIndex := 16, attributes := #[] }, { accessFlags := 24, nameIndex := 129, descriptorIndex := 16, attributes := #[] }])
  fields := #[{ name := "CORE_TERMS", type := (.object "java/util/Set"), accessFlags := 26, slot := 0, constantValue := 0 }, { name := "OLD_TERMS", type := (.object "java/util/Set"), accessFlags := 26, slot := 1, constantValue := 0 }, { name := "NOT_NODES", type := (.object "java/util/Set"), accessFlags := 26, slot := 2, constantValue := 0 }, { name := "NOT_PROPERTIES", type := (.object "java/util/Set"), accessFlags := 26, slot := 3, constantValue := 0 }, { name := "NOT_PROPERTY_ATTRIBUTES", type := (.object "java/util/Set"), accessFlags := 24, slot := 4, constantValue := 0 }]
  methods := #[k2m0, k2m1, k2m2]
  instanceTypes := #[]
  staticTypes := #[(.object "java/util/Set"), (.object "java/util/Set"), (.object "java/util/Set"), (.object "java/util/Set"), (.object "java/util/Set")]
  resolved := Array.replicate 162 none
  statics := none }

def pool3 : Array CpInfo := pool [(1, u "java/lang/Cloneable"), (0, .class_ 1), (0, u "java/lang/Object"), (0, .class_ 3)] 3

/-- java/lang/Cloneable -/
def k3 : Class := { plain "java/lang/Cloneable" (some 0) with
  accessFlags := 1537
  interfaces := #[]
  cf := some (fileOf pool3 2 #[] #[] 1537 4 #[] #[])
  fields := #[]
  methods := #[]
  instanceTypes := #[]
  staticTypes := #[]
  resolved := Array.replicate 8 none
  statics := none }

def pool4 : Array CpInfo := pool [(1, u "java/io/Serializable"), (0, .class_ 1), (0, u "java/lang/Object"), (0, .class_ 3)] 3

/-- java/io/Serializable -/
def k4 : Class := { plain "java/io/Serializable" (some 0) with
  accessFlags := 1537
  interfaces := #[]
  cf := some (fileOf pool4 2 #[] #[] 1537 4 #[] #[])
  fields := #[]
  methods := #[]
  instanceTypes := #[]
  staticTypes := #[]
  resolved := Array.replicate 8 none
  statics := none }

/-- the primitive byte -/
def k5 : Class := { plain "byte" none with kind := .primitive 'B', accessFlags := 0x411 }
/-- [B -/
def k6 : Class := { plain "[B" (some 0) with kind := .array 5 .byte, interfaces := #[3, 4], accessFlags := 1041 }

/-- the primitive int -/
def k7 : Class := { plain "int" none with kind := .primitive 'I', accessFlags := 0x411 }
/-- [I -/
def k8 : Class := { plain "[I" (some 0) with kind := .array 7 .int, interfaces := #[3, 4], accessFlags := 1041 }

def heap : Heap := #[]
def classes : Array Class := #[k0, k1, k2, k3, k4, k5, k6, k7, k8]
def interned : List (Array UInt16 × Addr) := []
def slotsUsed : Nat := 0
def theMethod : MethodId := ⟨1, 1⟩
def args0 : Array Value := #[.int 5, .int 300, .int 7]
def aboutOver (below : List Frame) : State where
  vm := { classes := classes, interned := interned.toArray }
  heap := heap
  slotsUsed := slotsUsed
  threads := #[{ frames := .invoking theMethod args0 :: below }]
def below0 : List Frame := [.native { method := ⟨0, 0⟩, args := #[] }]
def about1 : State := aboutOver below0
def p0 : Program := .bare "" "" ""
def e0 : Env := launch0.env 0 0 0
theorem w_frames : about1.frames = Frame.invoking theMethod args0 :: below0 := rfl
set_option maxRecDepth 65536 in
theorem w_args : argsFit about1.vm theMethod args0 = true := by decide +kernel
set_option maxRecDepth 65536 in
theorem w_heap : heapFits about1 = true := by decide +kernel
set_option maxRecDepth 65536 in
theorem w_runnable : about1.curStatus? = some .runnable := by decide +kernel
set_option maxRecDepth 65536 in
theorem w_alone : about1.alone = true := by decide +kernel
set_option maxRecDepth 65536 in
theorem w_named : about1.methodNamed? x = some theMethod := by decide +kernel
set_option maxRecDepth 65536 in
theorem w_hears : about1.hears theMethod below0 = true := by decide +kernel
set_option maxRecDepth 65536 in
theorem w_ripe : about1.ripe theMethod args0 below0 = true := by decide +kernel
theorem w_running : about1.status = .running := rfl
set_option maxRecDepth 65536 in
theorem w_room : about1.hasRoom e0.platform room_1 = true :=
  launch0.hasRoom_least _ room_1 (by decide +kernel) (by decide +kernel) (by decide +kernel) (by decide +kernel) (by decide +kernel) (by decide +kernel)
theorem allAtoms_all (ts : List Jvm.Cond) (a : Array Jvm.Value) (st : Jvm.State) : (allAtoms ts).before a st = ts.all (fun c => c.before a st) := by
  induction ts with
  | nil => rfl
  | cons c t ih =>
    show (Jvm.Cond.and c (allAtoms t)).before a st = _
    rw [Jvm.Cond.before_and, ih, List.all_cons]
def words1 : List Jvm.Cond := Jvm.Cond.code x code maxLocals ret :: tables_1
/-- a 'code' word, met by the world's own term for the bytes: nothing is compared byte by byte -/
theorem code_word {y : MethodName} {bytes : ByteArray} {mx : Nat} {rt : Option FieldType} {a : Array Value} {s : State} {m : MethodId} {meth : Method} {c : Code} (h1 : s.methodNamed? y = some m) (h2 : s.vm.method? m = some meth) (h3 : meth.code = some c) (h4 : c.code = bytes)
    (h5 : (c.maxLocals == mx && c.exceptionTable.isEmpty && decide (c.maxStack ≤ mostOperands) && decide (meth.sig.returnType = rt) && !meth.locks && decide (parseMethodDescriptor y.desc = some meth.sig)) = true) : (Jvm.Cond.code y bytes mx rt).before a s = true := by
  simp only [Bool.and_eq_true, beq_iff_eq, Bool.not_eq_true', decide_eq_true_eq] at h5
  obtain ⟨⟨⟨⟨⟨g1, g2⟩, g3⟩, g4⟩, g5⟩, g6⟩ := h5
  simp [Cond.before, Cond.holds, Cond.value, h1, h2, h3, h4, g1, g2, g3, g4, g5, g6]
def isCode : Jvm.Cond → Bool
  | .code _ _ _ _ => true
  | _ => false
theorem all_split {L : List Jvm.Cond} {P : Jvm.Cond → Bool} (h1 : L.all (fun c => isCode c || P c) = true) (h2 : ∀ c ∈ L.filter isCode, P c = true) : L.all P = true := by
  refine List.all_eq_true.mpr fun c hc => ?_
  have h := List.all_eq_true.mp h1 c hc
  rcases Bool.eq_false_or_eq_true (isCode c) with hi | hi
  · exact h2 c (List.mem_filter.mpr ⟨hc, hi⟩)
  · simpa [hi] using h
set_option maxRecDepth 65536 in
theorem w_c0 : (Jvm.Cond.code x code maxLocals ret).before args0 about1 = true := code_word (m := ⟨1, 1⟩) (meth := k1m1) (c := k1c1) (by decide +kernel) rfl rfl rfl (by decide +kernel)
set_option maxRecDepth 65536 in
theorem w_c1 : (Jvm.Cond.code ({ cls := "com/example/coextent/coextent/io/RdfXmlNames", name := "isNameChar", desc := "(I)Z" } : Jvm.MethodName) prog_19_method_7_code (1 : Nat) (Option.some Jvm.ClassFile.FieldType.boolean)).before args0 about1 = true := code_word (m := ⟨2, 2⟩) (meth := k2m2) (c := k2c2) (by decide +kernel) rfl rfl rfl (by decide +kernel)
set_option maxRecDepth 65536 in
theorem w_c2 : (Jvm.Cond.code ({ cls := "com/example/coextent/coextent/io/RdfXmlNames", name := "isNameStart", desc := "(I)Z" } : Jvm.MethodName) prog_19_method_6_code (1 : Nat) (Option.some Jvm.ClassFile.FieldType.boolean)).before args0 about1 = true := code_word (m := ⟨2, 1⟩) (meth := k2m1) (c := k2c1) (by decide +kernel) rfl rfl rfl (by decide +kernel)
set_option maxRecDepth 65536 in
theorem w_c3 : (Jvm.Cond.code ({ cls := "com/example/coextent/coextent/io/RdfXmlNamesIsNameCharPinLaw", name := "ref", desc := "(I)Z" } : Jvm.MethodName) method_4_code (1 : Nat) (Option.some Jvm.ClassFile.FieldType.boolean)).before args0 about1 = true := code_word (m := ⟨1, 3⟩) (meth := k1m3) (c := k1c3) (by decide +kernel) rfl rfl rfl (by decide +kernel)
set_option maxRecDepth 65536 in
theorem w_c4 : (Jvm.Cond.code ({ cls := "com/example/coextent/coextent/io/RdfXmlNamesIsNameCharPinLaw", name := "in", desc := "(III)Z" } : Jvm.MethodName) method_3_code (3 : Nat) (Option.some Jvm.ClassFile.FieldType.boolean)).before args0 about1 = true := code_word (m := ⟨1, 2⟩) (meth := k1m2) (c := k1c2) (by decide +kernel) rfl rfl rfl (by decide +kernel)
def codes1 : List Jvm.Cond := [Jvm.Cond.code x code maxLocals ret, Jvm.Cond.code ({ cls := "com/example/coextent/coextent/io/RdfXmlNames", name := "isNameChar", desc := "(I)Z" } : Jvm.MethodName) prog_19_method_7_code (1 : Nat) (Option.some Jvm.ClassFile.FieldType.boolean), Jvm.Cond.code ({ cls := "com/example/coextent/coextent/io/RdfXmlNames", name := "isNameStart", desc := "(I)Z" } : Jvm.MethodName) prog_19_method_6_code (1 : Nat) (Option.some Jvm.ClassFile.FieldType.boolean), Jvm.Cond.code ({ cls := "com/example/coextent/coextent/io/RdfXmlNamesIsNameCharPinLaw", name := "ref", desc := "(I)Z" } : Jvm.MethodName) method_4_code (1 : Nat) (Option.some Jvm.ClassFile.FieldType.boolean), Jvm.Cond.code ({ cls := "com/example/coextent/coextent/io/RdfXmlNamesIsNameCharPinLaw", name := "in", desc := "(III)Z" } : Jvm.MethodName) method_3_code (3 : Nat) (Option.some Jvm.ClassFile.FieldType.boolean)]
set_option maxRecDepth 65536 in
theorem codes_eq : words1.filter isCode = codes1 := rfl
theorem w_codes : ∀ c ∈ words1.filter isCode, c.before args0 about1 = true := by
  rw [codes_eq]
  intro c hc
  simp only [codes1, List.mem_cons, List.not_mem_nil, or_false] at hc
  rcases hc with rfl | rfl | rfl | rfl | rfl
  · exact w_c0
  · exact w_c1
  · exact w_c2
  · exact w_c3
  · exact w_c4
set_option maxRecDepth 65536 in
theorem w_t1 : (words1.take 24).all (fun c => isCode c || c.before args0 about1) = true := by decide +kernel
set_option maxRecDepth 65536 in
theorem w_t2 : (words1.drop 24).all (fun c => isCode c || c.before args0 about1) = true := by decide +kernel
theorem w_tables : (allAtoms (Jvm.Cond.code x code maxLocals ret :: tables_1)).before args0 about1 = true := by
  rw [allAtoms_all]
  show words1.all (fun c => c.before args0 about1) = true
  refine all_split ?_ w_codes
  rw [← List.take_append_drop 24 words1, List.all_append, w_t1, w_t2]
  rfl
set_option maxRecDepth 65536 in
theorem w_case : (Jvm.Cond.and given_1 narrow_1).before args0 about1 = true := by decide +kernel
theorem w_applies : (headSpec (Jvm.Cond.code x code maxLocals ret :: tables_1) room_1).applies x e0.platform about1 = true :=
  (Spec.applies_iff w_frames).mpr ⟨w_running, w_runnable, w_alone, w_named, w_hears, w_ripe, w_room, w_tables⟩
theorem atStart : AtStart classFile x code maxLocals ret World_1 tables_1 room_1 Calls_1 rest_1 Pre_1 launch0 p0 e0 about1 theMethod args0 below0 :=
  ⟨lists_1, trivial, launch0.admits_env _ _ _, launch0.least_env, fairChoices_fair.cas, fairChoices_fair.clock, w_frames, w_args, w_heap, w_applies, trivial, trivial, w_case⟩
end start1
theorem witness_1 : WitnessClaimed_1 := ⟨start1.p0, start1.e0, start1.about1, start1.theMethod, start1.args0, start1.below0, start1.atStart⟩
end Jvm.Pilot.@@N@@
