import JvmDerived
import JvmDerived.Pilot.@@N@@Statement
import JvmDerived.Pilot.@@N@@Code
set_option linter.unusedVariables false
set_option linter.unusedSimpArgs false
namespace Jvm.OwnKit
open Sem ClassFile Op Lib Jvm.Stand Jvm.Free Jvm.LawKit Jvm.RoadKit
/-- from here the run returns; it wrote new cells alone, and what it leaves is as Q says -/
def Goes (p : Program) (e : Env) (s : State) (below : List Frame) (Q : Option Value → Heap → Prop) (n0 C N : Nat) (T : State) (g : JFrame) : Prop :=
  ∃ s₂ o, Steps p.tables e below (T.setTop g) s₂ ∧ s₂.status = .running ∧ Ended s₂ below o ∧ ∃ v L, o = .returned v ∧ (Fr n0 L ∧ Q v s₂.heap) ∧ FrameEnd s o s₂ L C N
/-- a method's contract: entered with these arguments over the heap h it returns as Q says -/
abbrev Con (l : Launch) (y : MethodName) (bytes : ByteArray) (maxL : Nat) (ret : Option FieldType) (ws : List Jvm.Cond) (rm : Room) (Z : State) (as' : Array Value) (h : Heap) (n0 : Nat) (Q : Option Value → Heap → Prop) : Prop :=
  MetFree l y (head1 (Jvm.Cond.code y bytes maxL ret :: ws) rm) (fun a U => a = as' ∧ Z.Warmed39 U.vm ∧ U.heap = h) (fun _ _ _ _ _ => True) (fun _ U o U' => ∃ v L, o = .returned v ∧ (Fr n0 L ∧ Q v U'.heap) ∧ FrameEnd U o U' L rm.cells rm.slots)
section Laws
variable {p : Program} {l : Launch} {e : Env} {R : Room} {s : State} {m : MethodId} {args : Array Value} {below : List Frame} {meth : Method} {c : Code} {T T' : State} {locs : List Loc} {cells slots : Nat} {Z : State} {h : Heap} {a0 : Array Value} {Q : Option Value → Heap → Prop} {n0 C N pc pc' : Nat} {Ls Ls' : Array Slot} {st : List Value} {g g' : JFrame}
theorem Goes.go (k : ∀ t, Steps p.tables e below (T'.setTop g') t → Steps p.tables e below (T.setTop g) t) (h : Goes p e s below Q n0 C N T' g') : Goes p e s below Q n0 C N T g := by
  obtain ⟨s₂, o, h1, h2⟩ := h; exact ⟨s₂, o, k _ h1, h2⟩
/-- what opens every body's walk -/
theorem con_of {y : MethodName} {bytes : ByteArray} {maxL : Nat} {ret : Option FieldType} {ws : List Jvm.Cond} {rm : Room} {as' : Array Value} {Ls0 : Array Slot} (hn : plainFor y = true) (hef : ∀ m, entryFrame m as' maxL = mkF m 0 Ls0 [])
    (body : ∀ (p : Program) (e : Env) (s : State) (m : MethodId) (below : List Frame) (meth : Method) (c : Code) (s₁ : State), Stand p l e rm s m as' below meth c s₁ [] 0 0 → p.tables.exec = Jvm.exec → c.code = bytes → c.maxLocals = maxL → Z.Warmed39 s.vm → s.vm.findClass y.cls = some m.cls → meth.name = y.name → meth.sig.returnType = ret → meth.locks = false → s₁.heap = h → Fr n0 [] →
      Goes p e s below Q n0 rm.cells rm.slots s₁ (mkF m 0 Ls0 [])) : Con l y bytes maxL ret ws rm Z as' h n0 Q := by
  refine MetFree.of_bodySF hn hisR ?_
  intro p e s m args below meth c s₁ Bd hml0 hP hK
  obtain ⟨rfl, hZ, hh⟩ := hP
  have e0 : s₁.heap = h := by rw [← hh, Bd.state]; rfl
  have q := body p e s m below meth c s₁ (Stand.of_body Bd) Bd.exec Bd.bytes hml0 hZ (findClass_of_methodNamed Bd.named) (name_of_methodNamed Bd.named Bd.method).1 Bd.returns Bd.notSynchronized e0 (Fr.nil n0)
  rw [hef m]
  exact q
/-- a return -/
theorem g_ret (X : Stand p l e R s m args below meth c T locs cells slots) (hx : p.tables.exec = Jvm.exec) (hlk : meth.locks = false) {w : Value} {t : FieldType} {i : Instr} (hret : meth.sig.returnType = some t) (hn : narrow t w = w)
    (hi : (i = .ireturn ∧ (t = .int ∨ t = .boolean ∨ t = .byte ∨ t = .char ∨ t = .short) ∧ ∃ z, w = .int z) ∨ (i = .lreturn ∧ t = .long ∧ ∃ z, w = .long z) ∨ (i = .dreturn ∧ t = .double ∧ ∃ z, w = .double z) ∨ (i = .freturn ∧ t = .float ∧ ∃ z, w = .float z) ∨ (i = .areturn ∧ t.isReference = true ∧ w.isRef = true))
    (hd : decode c.code pc = .ok (i, 1)) (hN : Fr n0 locs) (hc : cells ≤ C) (hs : slots ≤ N) (hQ : Q (some w) T.heap) : Goes p e s below Q n0 C N T (mkF m pc Ls (w :: st)) := by
  obtain ⟨fs, hr, hrun, hended, hW, hsame⟩ := X.leave (v := some w) (fun z => by rw [hret] at z; cases z)
  exact ⟨_, _, retOut X hx hret hn hi hd hr, hrun, hended, _, _, rfl, ⟨hN, hQ⟩, ⟨_, rfl⟩, hW, hsame.mono hc hs⟩
theorem g_retI (X : Stand p l e R s m args below meth c T locs cells slots) (hx : p.tables.exec = Jvm.exec) (hlk : meth.locks = false) {z : Int32} (hret : meth.sig.returnType = some .int) (hd : decode c.code pc = .ok (.ireturn, 1)) (hN : Fr n0 locs) (hc : cells ≤ C) (hs : slots ≤ N) (hQ : Q (some (.int z)) T.heap) : Goes p e s below Q n0 C N T (mkF m pc Ls (.int z :: st)) :=
  g_ret X hx hlk hret rfl (Or.inl ⟨rfl, Or.inl rfl, _, rfl⟩) hd hN hc hs hQ
theorem g_retZ (X : Stand p l e R s m args below meth c T locs cells slots) (hx : p.tables.exec = Jvm.exec) (hlk : meth.locks = false) {z : Int32} (hz : z &&& 1 = z) (hret : meth.sig.returnType = some .boolean) (hd : decode c.code pc = .ok (.ireturn, 1)) (hN : Fr n0 locs) (hc : cells ≤ C) (hs : slots ≤ N) (hQ : Q (some (.int z)) T.heap) : Goes p e s below Q n0 C N T (mkF m pc Ls (.int z :: st)) :=
  g_ret X hx hlk hret (congrArg Value.int hz) (Or.inl ⟨rfl, Or.inr (Or.inl rfl), _, rfl⟩) hd hN hc hs hQ
theorem g_retJ (X : Stand p l e R s m args below meth c T locs cells slots) (hx : p.tables.exec = Jvm.exec) (hlk : meth.locks = false) {z : Int64} (hret : meth.sig.returnType = some .long) (hd : decode c.code pc = .ok (.lreturn, 1)) (hN : Fr n0 locs) (hc : cells ≤ C) (hs : slots ≤ N) (hQ : Q (some (.long z)) T.heap) : Goes p e s below Q n0 C N T (mkF m pc Ls (.long z :: st)) :=
  g_ret X hx hlk hret rfl (Or.inr (Or.inl ⟨rfl, rfl, _, rfl⟩)) hd hN hc hs hQ
theorem g_retA (X : Stand p l e R s m args below meth c T locs cells slots) (hx : p.tables.exec = Jvm.exec) (hlk : meth.locks = false) {v : Value} {t : FieldType} (hret : meth.sig.returnType = some t) (ht : t.isReference = true) (hn : narrow t v = v) (hv : v.isRef = true) (hd : decode c.code pc = .ok (.areturn, 1)) (hN : Fr n0 locs) (hc : cells ≤ C) (hs : slots ≤ N) (hQ : Q (some v) T.heap) : Goes p e s below Q n0 C N T (mkF m pc Ls (v :: st)) :=
  g_ret X hx hlk hret hn (Or.inr (Or.inr (Or.inr (Or.inr ⟨rfl, ht, hv⟩)))) hd hN hc hs hQ
theorem g_retV (X : Stand p l e R s m args below meth c T locs cells slots) (hx : p.tables.exec = Jvm.exec) (hlk : meth.locks = false) (hret : meth.sig.returnType = none) (hd : decode c.code pc = .ok (.return_, 1)) (hN : Fr n0 locs) (hc : cells ≤ C) (hs : slots ≤ N) (hQ : Q none T.heap) : Goes p e s below Q n0 C N T (mkF m pc Ls []) := by
  obtain ⟨fs, hr, hrun, hended, hW, hsame⟩ := X.leave (v := none) (fun _ => rfl)
  exact ⟨_, _, X.returnOut hx hret hd hr, hrun, hended, _, _, rfl, ⟨hN, hQ⟩, ⟨_, rfl⟩, hW, hsame.mono hc hs⟩
/-! fields and objects -/
theorem g_getF (X : Stand p l e R s m args below meth c T locs cells slots) (hx : p.tables.exec = Jvm.exec) (hZ : Z.Warmed39 s.vm) {own O n d : String} {i : Nat} (hown : s.vm.findClass own = some m.cls) (w : (Cond.fieldLink own i O n d).before a0 Z = true) (eT : T.heap = h) {a : Addr} {v : Value} (F : Fld Z h a O n d v) (hd : decode c.code pc = .ok (.getfield i, 3)) (hp : pc + 3 = pc')
    (k : ∀ T', Stand p l e R s m args below meth c T' locs cells slots → T'.heap = h → Goes p e s below Q n0 C N T' (mkF m pc' Ls (v :: st))) : Goes p e s below Q n0 C N T (mkF m pc Ls (.ref a :: st)) := by
  subst hp
  obtain ⟨T', X', e', st'⟩ := getF X hx hZ hown (host := "") (Or.inl w) Via.refl eT F (g := mkF m pc Ls (.ref a :: st)) rfl rfl hd
  exact (k T' X' e').go st'
theorem g_putF (X : Stand p l e R s m args below meth c T locs cells slots) (hx : p.tables.exec = Jvm.exec) (hZ : Z.Warmed39 s.vm) {own O n d K : String} {i kk : Nat} {ty : FieldType} (hown : s.vm.findClass own = some m.cls) (w : (Cond.fieldLink own i O n d).before a0 Z = true) (eT : T.heap = h) {a : Addr} {v old : Value} (F : Fld Z h a O n d old) (E : Exa Z h a K) (L : (Cond.lays K O n d).before a0 Z = true ∨ ((Cond.laysFinal K O n d).before a0 Z = true ∧ own = O ∧ meth.name = "<init>")) (wi : (Cond.instantiable K kk).before a0 Z = true)
    (hty : parseFieldDescriptor d = some ty) (hn : narrow ty v = v) (hf : fits ty v = true) (hN : Fr n0 locs) (ha : n0 ≤ a) (hd : decode c.code pc = .ok (.putfield i, 3)) (hp : pc + 3 = pc')
    (k : ∀ T' h' locs', Stand p l e R s m args below meth c T' locs' cells slots → T'.heap = h' → Wr h h' a (RoadKit.slotOf Z O n d) v → Fr n0 locs' → Goes p e s below Q n0 C N T' (mkF m pc' Ls st)) : Goes p e s below Q n0 C N T (mkF m pc Ls (v :: .ref a :: st)) := by
  subst hp
  obtain ⟨T', h', X', e', W', st'⟩ := putF X hx hZ hown (host := "") (Or.inl w) Via.refl eT F E L wi hty hn hf (g := mkF m pc Ls (v :: .ref a :: st)) rfl rfl hd
  exact (k T' h' _ X' e' W' (Fr.snoc X' hN ha)).go st'
theorem g_new (X : Stand p l e R s m args below meth c T locs cells slots) (hx : p.tables.exec = Jvm.exec) (hZ : Z.Warmed39 s.vm) {own K : String} {i n : Nat} (hown : s.vm.findClass own = some m.cls) (w : (Cond.classLink own i K).before a0 Z = true) (wi : (Cond.instantiable K n).before a0 Z = true) (wz : (Cond.initialized K).before a0 Z = true) (eT : T.heap = h) (hd : decode c.code pc = .ok (.new i, 3)) (hc : cells + 1 ≤ R.cells) (hl : slots + n ≤ R.slots) (hp : pc + 3 = pc')
    (k : ∀ T' h' a, a = h.size → Stand p l e R s m args below meth c T' locs (cells + 1) (slots + n) → T'.heap = h' → Ext h h' → a < h'.size → Exa Z h' a K → (∀ {O nm d : String} {ty : FieldType}, Laid Z a0 K O nm d → parseFieldDescriptor d = some ty → Fld Z h' a O nm d (defaultValue ty)) → Goes p e s below Q n0 C N T' (mkF m pc' Ls (.ref a :: st))) : Goes p e s below Q n0 C N T (mkF m pc Ls st) := by
  subst hp
  obtain ⟨T', h', X', e', E', A', D', -, st'⟩ := newO X hx hZ hown w wi wz eT (g := mkF m pc Ls st) rfl hd hc hl
  exact (k T' h' h.size rfl X' e' E' A'.lt A' D').go st'
theorem g_initO (X : Stand p l e R s m args below meth c T locs cells slots) (hx : p.tables.exec = Jvm.exec) (hZ : Z.Warmed39 s.vm) {own : String} {i : Nat} (hown : s.vm.findClass own = some m.cls) (w1 : (Cond.methodLink own i Lib.objectInit).before a0 Z = true) (w2 : (Cond.instanceMethod Lib.objectInit).before a0 Z = true) (w3 : (Cond.code Lib.objectInit ⟨#[0xb1]⟩ 1 none).before a0 Z = true) (eT : T.heap = h) (hsz : Ls.size = c.maxLocals) {a : Addr} (hd : decode c.code pc = .ok (.invokespecial i, 3))
    (hf : 1 ≤ R.frames) {W : Nat} (hW : (st.map fun v => v.category).sum ≤ W) (hl : W + 12 ≤ R.locals) (hp : pc + 3 = pc')
    (k : ∀ T', Stand p l e R s m args below meth c T' locs cells slots → T'.heap = h → Goes p e s below Q n0 C N T' (mkF m pc' Ls st)) : Goes p e s below Q n0 C N T (mkF m pc Ls (.ref a :: st)) := by
  subst hp
  obtain ⟨T', X', e', st'⟩ := initO X hx hZ hown w1 w2 w3 eT (g := mkF m pc Ls (.ref a :: st)) rfl hsz rfl hd hf (W := W) (by show 2 * 0 + _ ≤ _; omega) hl
  exact (k T' X' e').go st'
theorem g_getS (X : Stand p l e R s m args below meth c T locs cells slots) (hx : p.tables.exec = Jvm.exec) (hZ : Z.Warmed39 s.vm) {own O n d : String} {i : Nat} (hown : s.vm.findClass own = some m.cls) (w : (Cond.fieldLink own i O n d).before a0 Z = true) (eT : T.heap = h) {v : Value} (F : Sta Z h O n d v) (hd : decode c.code pc = .ok (.getstatic i, 3)) (hp : pc + 3 = pc')
    (k : ∀ T', Stand p l e R s m args below meth c T' locs cells slots → T'.heap = h → Goes p e s below Q n0 C N T' (mkF m pc' Ls (v :: st))) : Goes p e s below Q n0 C N T (mkF m pc Ls st) := by
  subst hp
  obtain ⟨T', X', e', st'⟩ := getS X hx hZ hown (host := "") w Via.refl eT F (g := mkF m pc Ls st) rfl hd
  exact (k T' X' e').go st'
theorem g_ldcF (X : Stand p l e R s m args below meth c T locs cells slots) (hx : p.tables.exec = Jvm.exec) (hZ : Z.Warmed39 s.vm) {own : String} {i : Nat} {b : UInt32} (hown : s.vm.findClass own = some m.cls) (w : (Cond.constantFloat own i b).before a0 Z = true) (hd : decode c.code pc = .ok (.ldc i, 2)) (hp : pc + 2 = pc')
    (k : Goes p e s below Q n0 C N T (mkF m pc' Ls (.float b :: st))) : Goes p e s below Q n0 C N T (mkF m pc Ls st) := by
  subst hp
  exact k.go fun t q => X.ldcFloatC hx hown (mvT hZ w) (g := mkF m pc Ls st) rfl hd t q
/-! calls: the callee's contract pays -/
theorem g_static (X : Stand p l e R s m args below meth c T locs cells slots) (hx : p.tables.exec = Jvm.exec) (hZ : Z.Warmed39 s.vm) {own : String} {i : Nat} {y : MethodName} {bytes : ByteArray} {maxL : Nat} {ret : Option FieldType} (hown : s.vm.findClass own = some m.cls) (w1 : (Cond.methodLink own i y).before a0 Z = true) (w2 : (Cond.static y).before a0 Z = true) (w3 : (Cond.initialized y.cls).before a0 Z = true) (w4 : (Cond.code y bytes maxL ret).before a0 Z = true) (hy : y.cls ≠ "java/lang/invoke/MethodHandle" ∧ y.cls ≠ "java/lang/invoke/VarHandle")
    {rm : Room} {argsL : List Value} {as' : Array Value} {Qy : Option Value → Heap → Prop} (hM : Con l y bytes maxL ret [] rm Z as' h n0 Qy) (has : argsL.toArray = as') (eT : T.heap = h) (hsz : Ls.size = c.maxLocals) {ps : List FieldType} {rt : Option FieldType} (pd : parseMethodDescriptor y.desc = some ⟨ps, rt⟩) (hlen : argsL.length = ps.length) {rest : List Value} (hst : st = argsL.reverse ++ rest) {W : Nat} (hW : (rest.map fun v => v.category).sum ≤ W)
    (hf : rm.frames + 1 ≤ R.frames) (hl : W + (maxL + 11) + rm.locals ≤ R.locals) (hc : cells + rm.cells ≤ R.cells) (hs : slots + rm.slots ≤ R.slots) (hN : Fr n0 locs) (hd : decode c.code pc = .ok (.invokestatic i, 3)) (hp : pc + 3 = pc')
    (k : ∀ v T' locs', Stand p l e R s m args below meth c T' locs' (cells + rm.cells) (slots + rm.slots) → Fr n0 locs' → Qy v T'.heap → Goes p e s below Q n0 C N T' (mkF m pc' Ls (v.toList ++ rest))) : Goes p e s below Q n0 C N T (mkF m pc Ls st) := by
  subst hp has
  obtain ⟨v, _, ⟨T', L', k', n'⟩, -, X', ⟨L, ⟨hNL, hQ⟩, q1, q2, q3⟩, st'⟩ := Jvm.LawKit.callS X hx (y := y) hown (mvT hZ w1) (mvT hZ w2) (mvT hZ w3) (mvT hZ w4) hy (backOf (W := W) (Q := fun v h L => Fr n0 L ∧ Qy v h) hM hZ w4 w3 hf hl) (g := mkF m pc Ls st) rfl hsz (argsL := argsL) (rest := rest) (lenOf pd hlen) hst (by show 2 * 0 + _ ≤ _; omega) hd (fun _ _ => ⟨rfl, eT, hc, hs⟩)
  dsimp only [Pt.U, Pt.locs, Pt.cells, Pt.slots] at X' q1 q2 q3 st' hQ
  subst q1 q2 q3
  exact (k v T' _ X' (Fr.app hN hNL) hQ).go st'
theorem g_special (X : Stand p l e R s m args below meth c T locs cells slots) (hx : p.tables.exec = Jvm.exec) (hZ : Z.Warmed39 s.vm) {own : String} {i : Nat} {y : MethodName} {bytes : ByteArray} {maxL : Nat} (hy1 : y.name = "<init>") (hown : s.vm.findClass own = some m.cls) (w1 : (Cond.methodLink own i y).before a0 Z = true) (w2 : (Cond.instanceMethod y).before a0 Z = true) (w3 : (Cond.initialized y.cls).before a0 Z = true) (w4 : (Cond.code y bytes maxL none).before a0 Z = true) (hy : y.cls ≠ "java/lang/invoke/MethodHandle" ∧ y.cls ≠ "java/lang/invoke/VarHandle")
    {rm : Room} {a : Addr} {argsL : List Value} {as' : Array Value} {Qy : Option Value → Heap → Prop} (hM : Con l y bytes maxL none [] rm Z as' h n0 Qy) (has : (.ref a :: argsL).toArray = as') (eT : T.heap = h) (hsz : Ls.size = c.maxLocals) {ps : List FieldType} {rt : Option FieldType} (pd : parseMethodDescriptor y.desc = some ⟨ps, rt⟩) (hlen : argsL.length = ps.length) {rest : List Value} (hst : st = argsL.reverse ++ .ref a :: rest) {W : Nat} (hW : (rest.map fun v => v.category).sum ≤ W)
    (hf : rm.frames + 1 ≤ R.frames) (hl : W + (maxL + 11) + rm.locals ≤ R.locals) (hc : cells + rm.cells ≤ R.cells) (hs : slots + rm.slots ≤ R.slots) (hN : Fr n0 locs) (hd : decode c.code pc = .ok (.invokespecial i, 3)) (hp : pc + 3 = pc')
    (k : ∀ v T' locs', Stand p l e R s m args below meth c T' locs' (cells + rm.cells) (slots + rm.slots) → Fr n0 locs' → Qy v T'.heap → Goes p e s below Q n0 C N T' (mkF m pc' Ls (v.toList ++ rest))) : Goes p e s below Q n0 C N T (mkF m pc Ls st) := by
  subst hp has
  obtain ⟨v, _, ⟨T', L', k', n'⟩, -, X', ⟨L, ⟨hNL, hQ⟩, q1, q2, q3⟩, st'⟩ := X.specialBack hx (y := y) hy1 hown (mvT hZ w1) (mvT hZ w2) (mvT hZ w4) hy (backOf (W := W) (Q := fun v h L => Fr n0 L ∧ Qy v h) hM hZ w4 w3 hf hl) (g := mkF m pc Ls st) rfl hsz (Steps.refl _) (a := a) (argsL := argsL) (rest := rest) (lenOf pd hlen) hst (by show 2 * 0 + _ ≤ _; omega) hd (fun _ _ => ⟨rfl, eT, hc, hs⟩)
  dsimp only [Pt.U, Pt.locs, Pt.cells, Pt.slots] at X' q1 q2 q3 st' hQ
  subst q1 q2 q3
  exact (k v T' _ X' (Fr.app hN hNL) hQ).go fun _ z => st'.trans z
theorem g_virtual (X : Stand p l e R s m args below meth c T locs cells slots) (hx : p.tables.exec = Jvm.exec) (hZ : Z.Warmed39 s.vm) {own K : String} {i : Nat} {y : MethodName} {bytes : ByteArray} {maxL : Nat} {ret : Option FieldType} (hown : s.vm.findClass own = some m.cls) (w1 : (Cond.methodLink own i y).before a0 Z = true) (w2 : (Cond.declares y).before a0 Z = true) (w5 : (Cond.selects K y y).before a0 Z = true) (w6 : (Cond.instanceMethod y).before a0 Z = true) (w3 : (Cond.initialized y.cls).before a0 Z = true) (w4 : (Cond.code y bytes maxL ret).before a0 Z = true) (hy : y.cls ≠ "java/lang/invoke/MethodHandle" ∧ y.cls ≠ "java/lang/invoke/VarHandle")
    {rm : Room} {a : Addr} {argsL : List Value} {as' : Array Value} {Qy : Option Value → Heap → Prop} (hM : Con l y bytes maxL ret [] rm Z as' h n0 Qy) (has : (.ref a :: argsL).toArray = as') (eT : T.heap = h) (E : Exa Z h a K) (hsz : Ls.size = c.maxLocals) {ps : List FieldType} {rt : Option FieldType} (pd : parseMethodDescriptor y.desc = some ⟨ps, rt⟩) (hlen : argsL.length = ps.length) {rest : List Value} (hst : st = argsL.reverse ++ .ref a :: rest) {W : Nat} (hW : (rest.map fun v => v.category).sum ≤ W)
    (hf : rm.frames + 1 ≤ R.frames) (hl : W + (maxL + 11) + rm.locals ≤ R.locals) (hc : cells + rm.cells ≤ R.cells) (hs : slots + rm.slots ≤ R.slots) (hN : Fr n0 locs) (hd : decode c.code pc = .ok (.invokevirtual i, 3)) (hp : pc + 3 = pc')
    (k : ∀ v T' locs', Stand p l e R s m args below meth c T' locs' (cells + rm.cells) (slots + rm.slots) → Fr n0 locs' → Qy v T'.heap → Goes p e s below Q n0 C N T' (mkF m pc' Ls (v.toList ++ rest))) : Goes p e s below Q n0 C N T (mkF m pc Ls st) := by
  subst hp has
  obtain ⟨cq, kq, qa, qb, qc⟩ := isOf hZ eT E
  obtain ⟨v, _, ⟨T', L', k', n'⟩, -, X', ⟨L, ⟨hNL, hQ⟩, q1, q2, q3⟩, st'⟩ := X.virtualBack hx (y := y) (z := y) hown (mvT hZ w1) (mvT hZ w2) (notFace_of_selects (args := #[]) (mvT hZ w5)) (mvT hZ w5) (mvT hZ w6) hy (backOf (W := W) (Q := fun v h L => Fr n0 L ∧ Qy v h) hM hZ w4 w3 hf hl) qa qc (g := mkF m pc Ls st) rfl hsz (Steps.refl _) (argsL := argsL) (rest := rest) (lenOf pd hlen) hst (by show 2 * 0 + _ ≤ _; omega) hd (fun _ _ => ⟨rfl, eT, hc, hs⟩)
  dsimp only [Pt.U, Pt.locs, Pt.cells, Pt.slots] at X' q1 q2 q3 st' hQ
  subst q1 q2 q3
  exact (k v T' _ X' (Fr.app hN hNL) hQ).go fun _ z => st'.trans z
/-! int arrays and long arrays, by their values -/
def IA (Z : State) (h : Heap) (a : Addr) (n : Nat) (f : Nat → Int32) : Prop := n < 2147483648 ∧ ∃ c : Cell, Arr Z h a c .int ∧ c.slots.size = n ∧ ∀ i, i < n → c.slots[i]? = some (.int (f i))
def LA (Z : State) (h : Heap) (a : Addr) (n : Nat) (f : Nat → Int64) : Prop := n < 2147483648 ∧ ∃ c : Cell, Arr Z h a c .long ∧ c.slots.size = n ∧ ∀ i, i < n → c.slots[i]? = some (.long (f i))
def zeroI : Nat → Int32 := fun _ => 0
def zeroL : Nat → Int64 := fun _ => 0
def oupd {A : Type} (f : Nat → A) (j : Nat) (v : A) : Nat → A := fun i => if i = j then v else f i
theorem nclamp {j : Int32} {k : Nat} (hj : j.toInt = (k : Int)) : j.toNatClampNeg = k ∧ ¬ j < 0 := by
  refine ⟨by simp only [Int32.toNatClampNeg, hj]; rfl, fun z => ?_⟩
  rw [Int32.lt_iff_toInt_lt, hj] at z; have : (0 : Int32).toInt = 0 := rfl; omega
theorem nin {j : Int32} {k n : Nat} (hj : j.toInt = (k : Int)) (hk : k < n) : ¬ (j < 0 ∨ n ≤ j.toNatClampNeg) := by
  obtain ⟨q1, q2⟩ := nclamp hj; rw [q1]; rintro (z | z)
  · exact q2 z
  · omega
theorem len32 {n : Nat} (hn : n < 2147483648) : (n.toInt32).toInt = (n : Int) := len_toInt hn
theorem g_iloadN (X : Stand p l e R s m args below meth c T locs cells slots) (hx : p.tables.exec = Jvm.exec) {k : Fin 4} {v : Int32} (hd : decode c.code pc = .ok (.iload_n k, 1)) (hl : Ls[k.val]? = some (.val (.int v))) (hp : pc + 1 = pc')
    (k : Goes p e s below Q n0 C N T (mkF m pc' Ls (.int v :: st))) : Goes p e s below Q n0 C N T (mkF m pc Ls (st)) := by
  subst hp; exact k.go fun _ q => XS.iloadN X.here hx rfl hd hl q
theorem g_iload (X : Stand p l e R s m args below meth c T locs cells slots) (hx : p.tables.exec = Jvm.exec) {k : Nat} {v : Int32} (hd : decode c.code pc = .ok (.iload k, 2)) (hl : Ls[k]? = some (.val (.int v))) (hp : pc + 2 = pc')
    (k : Goes p e s below Q n0 C N T (mkF m pc' Ls (.int v :: st))) : Goes p e s below Q n0 C N T (mkF m pc Ls (st)) := by
  subst hp; exact k.go fun _ q => XS.iload X.here hx rfl hd hl q
theorem g_lloadN (X : Stand p l e R s m args below meth c T locs cells slots) (hx : p.tables.exec = Jvm.exec) {k : Fin 4} {v : Int64} (hd : decode c.code pc = .ok (.lload_n k, 1)) (hl : Ls[k.val]? = some (.val (.long v))) (hp : pc + 1 = pc')
    (k : Goes p e s below Q n0 C N T (mkF m pc' Ls (.long v :: st))) : Goes p e s below Q n0 C N T (mkF m pc Ls (st)) := by
  subst hp; exact k.go fun _ q => XT.lloadN X.here hx rfl hd hl q
theorem g_lload (X : Stand p l e R s m args below meth c T locs cells slots) (hx : p.tables.exec = Jvm.exec) {k : Nat} {v : Int64} (hd : decode c.code pc = .ok (.lload k, 2)) (hl : Ls[k]? = some (.val (.long v))) (hp : pc + 2 = pc')
    (k : Goes p e s below Q n0 C N T (mkF m pc' Ls (.long v :: st))) : Goes p e s below Q n0 C N T (mkF m pc Ls (st)) := by
  subst hp; exact k.go fun _ q => XT.lload X.here hx rfl hd hl q
theorem g_aloadN (X : Stand p l e R s m args below meth c T locs cells slots) (hx : p.tables.exec = Jvm.exec) {k : Fin 4} {v : Value} (hd : decode c.code pc = .ok (.aload_n k, 1)) (hl : Ls[k.val]? = some (.val v)) (hv : v.isRef = true) (hp : pc + 1 = pc')
    (k : Goes p e s below Q n0 C N T (mkF m pc' Ls (v :: st))) : Goes p e s below Q n0 C N T (mkF m pc Ls (st)) := by
  subst hp; exact k.go fun _ q => XS.aloadN X.here hx rfl hd hl hv q
theorem g_aload (X : Stand p l e R s m args below meth c T locs cells slots) (hx : p.tables.exec = Jvm.exec) {k : Nat} {v : Value} (hd : decode c.code pc = .ok (.aload k, 2)) (hl : Ls[k]? = some (.val v)) (hv : v.isRef = true) (hp : pc + 2 = pc')
    (k : Goes p e s below Q n0 C N T (mkF m pc' Ls (v :: st))) : Goes p e s below Q n0 C N T (mkF m pc Ls (st)) := by
  subst hp; exact k.go fun _ q => XS.aload X.here hx rfl hd hl hv q
theorem g_istoreN (X : Stand p l e R s m args below meth c T locs cells slots) (hx : p.tables.exec = Jvm.exec) {k : Fin 4} {x : Int32} (hd : decode c.code pc = .ok (.istore_n k, 1)) (hl : storeLocals Ls k.val (.int x) = some Ls') (hp : pc + 1 = pc')
    (k : Goes p e s below Q n0 C N T (mkF m pc' Ls' (st))) : Goes p e s below Q n0 C N T (mkF m pc Ls (.int x :: st)) := by
  subst hp; exact k.go fun _ q => XS.istoreN X.here hx rfl hd rfl hl q
theorem g_istore (X : Stand p l e R s m args below meth c T locs cells slots) (hx : p.tables.exec = Jvm.exec) {k : Nat} {x : Int32} (hd : decode c.code pc = .ok (.istore k, 2)) (hl : storeLocals Ls k (.int x) = some Ls') (hp : pc + 2 = pc')
    (k : Goes p e s below Q n0 C N T (mkF m pc' Ls' (st))) : Goes p e s below Q n0 C N T (mkF m pc Ls (.int x :: st)) := by
  subst hp; exact k.go fun _ q => XS.istore X.here hx rfl hd rfl hl q
theorem g_lstoreN (X : Stand p l e R s m args below meth c T locs cells slots) (hx : p.tables.exec = Jvm.exec) {k : Fin 4} {x : Int64} (hd : decode c.code pc = .ok (.lstore_n k, 1)) (hl : storeLocals Ls k.val (.long x) = some Ls') (hp : pc + 1 = pc')
    (k : Goes p e s below Q n0 C N T (mkF m pc' Ls' (st))) : Goes p e s below Q n0 C N T (mkF m pc Ls (.long x :: st)) := by
  subst hp; exact k.go fun _ q => XT.lstoreN X.here hx rfl hd rfl hl q
theorem g_lstore (X : Stand p l e R s m args below meth c T locs cells slots) (hx : p.tables.exec = Jvm.exec) {k : Nat} {x : Int64} (hd : decode c.code pc = .ok (.lstore k, 2)) (hl : storeLocals Ls k (.long x) = some Ls') (hp : pc + 2 = pc')
    (k : Goes p e s below Q n0 C N T (mkF m pc' Ls' (st))) : Goes p e s below Q n0 C N T (mkF m pc Ls (.long x :: st)) := by
  subst hp; exact k.go fun _ q => XT.lstore X.here hx rfl hd rfl hl q
theorem g_astoreN (X : Stand p l e R s m args below meth c T locs cells slots) (hx : p.tables.exec = Jvm.exec) {k : Fin 4} {x : Value} (hd : decode c.code pc = .ok (.astore_n k, 1)) (hv : x.isRef = true) (hl : storeLocals Ls k.val x = some Ls') (hp : pc + 1 = pc')
    (k : Goes p e s below Q n0 C N T (mkF m pc' Ls' (st))) : Goes p e s below Q n0 C N T (mkF m pc Ls (x :: st)) := by
  subst hp; exact k.go fun _ q => XS.astoreN X.here hx rfl hd rfl hv hl q
theorem g_astore (X : Stand p l e R s m args below meth c T locs cells slots) (hx : p.tables.exec = Jvm.exec) {k : Nat} {x : Value} (hd : decode c.code pc = .ok (.astore k, 2)) (hv : x.isRef = true) (hl : storeLocals Ls k x = some Ls') (hp : pc + 2 = pc')
    (k : Goes p e s below Q n0 C N T (mkF m pc' Ls' (st))) : Goes p e s below Q n0 C N T (mkF m pc Ls (x :: st)) := by
  subst hp; exact k.go fun _ q => XS.astore X.here hx rfl hd rfl hv hl q
theorem g_iinc (X : Stand p l e R s m args below meth c T locs cells slots) (hx : p.tables.exec = Jvm.exec) {k : Nat} {cst : Int} {x v : Int32} (hd : decode c.code pc = .ok (.iinc k cst, 3)) (hv : Int32.ofInt cst = v) (hl : Ls[k]? = some (.val (.int x))) (hl' : storeLocals Ls k (.int (x + v)) = some Ls') (hp : pc + 3 = pc')
    (k : Goes p e s below Q n0 C N T (mkF m pc' Ls' (st))) : Goes p e s below Q n0 C N T (mkF m pc Ls (st)) := by
  subst hp; exact k.go fun _ q => XT.iincV X.here hx rfl v hd hv hl hl' q
theorem g_iconst (X : Stand p l e R s m args below meth c T locs cells slots) (hx : p.tables.exec = Jvm.exec) {i : Int} {v : Int32} (hd : decode c.code pc = .ok (.iconst i, 1)) (hv : Int32.ofInt i = v) (hp : pc + 1 = pc')
    (k : Goes p e s below Q n0 C N T (mkF m pc' Ls (.int v :: st))) : Goes p e s below Q n0 C N T (mkF m pc Ls (st)) := by
  subst hp; exact k.go fun _ q => XT.iconstV X.here hx rfl v hd hv q
theorem g_bipush (X : Stand p l e R s m args below meth c T locs cells slots) (hx : p.tables.exec = Jvm.exec) {i : Int} {v : Int32} (hd : decode c.code pc = .ok (.bipush i, 2)) (hv : (Int8.ofInt i).toInt32 = v) (hp : pc + 2 = pc')
    (k : Goes p e s below Q n0 C N T (mkF m pc' Ls (.int v :: st))) : Goes p e s below Q n0 C N T (mkF m pc Ls (st)) := by
  subst hp; exact k.go fun _ q => XT.bipushV X.here hx rfl v hd hv q
theorem g_sipush (X : Stand p l e R s m args below meth c T locs cells slots) (hx : p.tables.exec = Jvm.exec) {i : Int} {v : Int32} (hd : decode c.code pc = .ok (.sipush i, 3)) (hv : (Int16.ofInt i).toInt32 = v) (hp : pc + 3 = pc')
    (k : Goes p e s below Q n0 C N T (mkF m pc' Ls (.int v :: st))) : Goes p e s below Q n0 C N T (mkF m pc Ls (st)) := by
  subst hp; exact k.go fun _ q => XT.sipushV X.here hx rfl v hd hv q
theorem g_lconst (X : Stand p l e R s m args below meth c T locs cells slots) (hx : p.tables.exec = Jvm.exec) {k : Fin 2} {v : Int64} (hd : decode c.code pc = .ok (.lconst k, 1)) (hv : Int64.ofNat k = v) (hp : pc + 1 = pc')
    (k : Goes p e s below Q n0 C N T (mkF m pc' Ls (.long v :: st))) : Goes p e s below Q n0 C N T (mkF m pc Ls (st)) := by
  subst hp; exact k.go fun _ q => XT.lconstV X.here hx rfl v hd hv q
theorem g_null (X : Stand p l e R s m args below meth c T locs cells slots) (hx : p.tables.exec = Jvm.exec)  (hd : decode c.code pc = .ok (.aconst_null, 1))  (hp : pc + 1 = pc')
    (k : Goes p e s below Q n0 C N T (mkF m pc' Ls (.null :: st))) : Goes p e s below Q n0 C N T (mkF m pc Ls (st)) := by
  subst hp; exact k.go fun _ q => XS.aconstNull X.here hx rfl hd q
theorem g_ldc (X : Stand p l e R s m args below meth c T locs cells slots) (hx : p.tables.exec = Jvm.exec) (hZ : Z.Warmed39 s.vm) {own : String} {i : Nat} (hown : s.vm.findClass own = some m.cls) {v : Int32} (hd : decode c.code pc = .ok (.ldc i, 2)) (w : (Cond.constant own i v).before a0 Z = true) (hp : pc + 2 = pc')
    (k : Goes p e s below Q n0 C N T (mkF m pc' Ls (.int v :: st))) : Goes p e s below Q n0 C N T (mkF m pc Ls (st)) := by
  subst hp; exact k.go fun _ q => X.ldcI hx hown (mvT hZ w) rfl hd q
theorem g_ldcW (X : Stand p l e R s m args below meth c T locs cells slots) (hx : p.tables.exec = Jvm.exec) (hZ : Z.Warmed39 s.vm) {own : String} {i : Nat} (hown : s.vm.findClass own = some m.cls) {v : Int32} (hd : decode c.code pc = .ok (.ldc_w i, 3)) (w : (Cond.constant own i v).before a0 Z = true) (hp : pc + 3 = pc')
    (k : Goes p e s below Q n0 C N T (mkF m pc' Ls (.int v :: st))) : Goes p e s below Q n0 C N T (mkF m pc Ls (st)) := by
  subst hp; exact k.go fun _ q => X.ldcWI hx hown (mvT hZ w) rfl hd q
theorem g_ldc2 (X : Stand p l e R s m args below meth c T locs cells slots) (hx : p.tables.exec = Jvm.exec) (hZ : Z.Warmed39 s.vm) {own : String} {i : Nat} (hown : s.vm.findClass own = some m.cls) {v : Int64} (hd : decode c.code pc = .ok (.ldc2_w i, 3)) (w : (Cond.constantLong own i v).before a0 Z = true) (hp : pc + 3 = pc')
    (k : Goes p e s below Q n0 C N T (mkF m pc' Ls (.long v :: st))) : Goes p e s below Q n0 C N T (mkF m pc Ls (st)) := by
  subst hp; exact k.go fun _ q => X.ldc2J hx hown (mvT hZ w) rfl hd q
theorem g_iadd (X : Stand p l e R s m args below meth c T locs cells slots) (hx : p.tables.exec = Jvm.exec) {x y : Int32} (hd : decode c.code pc = .ok (.iadd, 1))  (hp : pc + 1 = pc')
    (k : Goes p e s below Q n0 C N T (mkF m pc' Ls (.int (x + y) :: st))) : Goes p e s below Q n0 C N T (mkF m pc Ls (.int y :: .int x :: st)) := by
  subst hp; exact k.go fun _ q => XS.iadd X.here hx rfl hd rfl q
theorem g_isub (X : Stand p l e R s m args below meth c T locs cells slots) (hx : p.tables.exec = Jvm.exec) {x y : Int32} (hd : decode c.code pc = .ok (.isub, 1))  (hp : pc + 1 = pc')
    (k : Goes p e s below Q n0 C N T (mkF m pc' Ls (.int (x - y) :: st))) : Goes p e s below Q n0 C N T (mkF m pc Ls (.int y :: .int x :: st)) := by
  subst hp; exact k.go fun _ q => XS.isub X.here hx rfl hd rfl q
theorem g_iand (X : Stand p l e R s m args below meth c T locs cells slots) (hx : p.tables.exec = Jvm.exec) {x y : Int32} (hd : decode c.code pc = .ok (.iand, 1))  (hp : pc + 1 = pc')
    (k : Goes p e s below Q n0 C N T (mkF m pc' Ls (.int (x &&& y) :: st))) : Goes p e s below Q n0 C N T (mkF m pc Ls (.int y :: .int x :: st)) := by
  subst hp; exact k.go fun _ q => XS.iand X.here hx rfl hd rfl q
theorem g_imul (X : Stand p l e R s m args below meth c T locs cells slots) (hx : p.tables.exec = Jvm.exec) {x y : Int32} (hd : decode c.code pc = .ok (.imul, 1))  (hp : pc + 1 = pc')
    (k : Goes p e s below Q n0 C N T (mkF m pc' Ls (.int (x * y) :: st))) : Goes p e s below Q n0 C N T (mkF m pc Ls (.int y :: .int x :: st)) := by
  subst hp; exact k.go fun _ q => XS.imul X.here hx rfl hd rfl q
theorem g_ior (X : Stand p l e R s m args below meth c T locs cells slots) (hx : p.tables.exec = Jvm.exec) {x y : Int32} (hd : decode c.code pc = .ok (.ior, 1))  (hp : pc + 1 = pc')
    (k : Goes p e s below Q n0 C N T (mkF m pc' Ls (.int (x ||| y) :: st))) : Goes p e s below Q n0 C N T (mkF m pc Ls (.int y :: .int x :: st)) := by
  subst hp; exact k.go fun _ q => XT.ior X.here hx rfl hd rfl q
theorem g_ixor (X : Stand p l e R s m args below meth c T locs cells slots) (hx : p.tables.exec = Jvm.exec) {x y : Int32} (hd : decode c.code pc = .ok (.ixor, 1))  (hp : pc + 1 = pc')
    (k : Goes p e s below Q n0 C N T (mkF m pc' Ls (.int (x ^^^ y) :: st))) : Goes p e s below Q n0 C N T (mkF m pc Ls (.int y :: .int x :: st)) := by
  subst hp; exact k.go fun _ q => XT.ixor X.here hx rfl hd rfl q
theorem g_ishl (X : Stand p l e R s m args below meth c T locs cells slots) (hx : p.tables.exec = Jvm.exec) {x y : Int32} (hd : decode c.code pc = .ok (.ishl, 1))  (hp : pc + 1 = pc')
    (k : Goes p e s below Q n0 C N T (mkF m pc' Ls (.int (x <<< (y &&& 31)) :: st))) : Goes p e s below Q n0 C N T (mkF m pc Ls (.int y :: .int x :: st)) := by
  subst hp; exact k.go fun _ q => XT.ishl X.here hx rfl hd rfl q
theorem g_ishr (X : Stand p l e R s m args below meth c T locs cells slots) (hx : p.tables.exec = Jvm.exec) {x y : Int32} (hd : decode c.code pc = .ok (.ishr, 1))  (hp : pc + 1 = pc')
    (k : Goes p e s below Q n0 C N T (mkF m pc' Ls (.int (x >>> (y &&& 31)) :: st))) : Goes p e s below Q n0 C N T (mkF m pc Ls (.int y :: .int x :: st)) := by
  subst hp; exact k.go fun _ q => XT.ishr X.here hx rfl hd rfl q
theorem g_iushr (X : Stand p l e R s m args below meth c T locs cells slots) (hx : p.tables.exec = Jvm.exec) {x y : Int32} (hd : decode c.code pc = .ok (.iushr, 1))  (hp : pc + 1 = pc')
    (k : Goes p e s below Q n0 C N T (mkF m pc' Ls (.int (XT.ushr x y) :: st))) : Goes p e s below Q n0 C N T (mkF m pc Ls (.int y :: .int x :: st)) := by
  subst hp; exact k.go fun _ q => XT.iushr X.here hx rfl hd rfl q
theorem g_ineg (X : Stand p l e R s m args below meth c T locs cells slots) (hx : p.tables.exec = Jvm.exec) {x : Int32} (hd : decode c.code pc = .ok (.ineg, 1))  (hp : pc + 1 = pc')
    (k : Goes p e s below Q n0 C N T (mkF m pc' Ls (.int (-x) :: st))) : Goes p e s below Q n0 C N T (mkF m pc Ls (.int x :: st)) := by
  subst hp; exact k.go fun _ q => XS.ineg X.here hx rfl hd rfl q
theorem g_idiv (X : Stand p l e R s m args below meth c T locs cells slots) (hx : p.tables.exec = Jvm.exec) {x y : Int32} (hd : decode c.code pc = .ok (.idiv, 1)) (hy : y ≠ 0) (hp : pc + 1 = pc')
    (k : Goes p e s below Q n0 C N T (mkF m pc' Ls (.int (x / y) :: st))) : Goes p e s below Q n0 C N T (mkF m pc Ls (.int y :: .int x :: st)) := by
  subst hp; exact k.go fun _ q => XS.idiv X.here hx rfl hd rfl hy q
theorem g_irem (X : Stand p l e R s m args below meth c T locs cells slots) (hx : p.tables.exec = Jvm.exec) {x y : Int32} (hd : decode c.code pc = .ok (.irem, 1)) (hy : y ≠ 0) (hp : pc + 1 = pc')
    (k : Goes p e s below Q n0 C N T (mkF m pc' Ls (.int (x % y) :: st))) : Goes p e s below Q n0 C N T (mkF m pc Ls (.int y :: .int x :: st)) := by
  subst hp; exact k.go fun _ q => iremM X hx rfl hd rfl hy q
theorem g_ladd (X : Stand p l e R s m args below meth c T locs cells slots) (hx : p.tables.exec = Jvm.exec) {x y : Int64} (hd : decode c.code pc = .ok (.ladd, 1))  (hp : pc + 1 = pc')
    (k : Goes p e s below Q n0 C N T (mkF m pc' Ls (.long (x + y) :: st))) : Goes p e s below Q n0 C N T (mkF m pc Ls (.long y :: .long x :: st)) := by
  subst hp; exact k.go fun _ q => XT.ladd X.here hx rfl hd rfl q
theorem g_lsub (X : Stand p l e R s m args below meth c T locs cells slots) (hx : p.tables.exec = Jvm.exec) {x y : Int64} (hd : decode c.code pc = .ok (.lsub, 1))  (hp : pc + 1 = pc')
    (k : Goes p e s below Q n0 C N T (mkF m pc' Ls (.long (x - y) :: st))) : Goes p e s below Q n0 C N T (mkF m pc Ls (.long y :: .long x :: st)) := by
  subst hp; exact k.go fun _ q => XT.lsub X.here hx rfl hd rfl q
theorem g_lmul (X : Stand p l e R s m args below meth c T locs cells slots) (hx : p.tables.exec = Jvm.exec) {x y : Int64} (hd : decode c.code pc = .ok (.lmul, 1))  (hp : pc + 1 = pc')
    (k : Goes p e s below Q n0 C N T (mkF m pc' Ls (.long (x * y) :: st))) : Goes p e s below Q n0 C N T (mkF m pc Ls (.long y :: .long x :: st)) := by
  subst hp; exact k.go fun _ q => XT.lmul X.here hx rfl hd rfl q
theorem g_land (X : Stand p l e R s m args below meth c T locs cells slots) (hx : p.tables.exec = Jvm.exec) {x y : Int64} (hd : decode c.code pc = .ok (.land, 1))  (hp : pc + 1 = pc')
    (k : Goes p e s below Q n0 C N T (mkF m pc' Ls (.long (x &&& y) :: st))) : Goes p e s below Q n0 C N T (mkF m pc Ls (.long y :: .long x :: st)) := by
  subst hp; exact k.go fun _ q => XT.land X.here hx rfl hd rfl q
theorem g_lor (X : Stand p l e R s m args below meth c T locs cells slots) (hx : p.tables.exec = Jvm.exec) {x y : Int64} (hd : decode c.code pc = .ok (.lor, 1))  (hp : pc + 1 = pc')
    (k : Goes p e s below Q n0 C N T (mkF m pc' Ls (.long (x ||| y) :: st))) : Goes p e s below Q n0 C N T (mkF m pc Ls (.long y :: .long x :: st)) := by
  subst hp; exact k.go fun _ q => XT.lor X.here hx rfl hd rfl q
theorem g_lxor (X : Stand p l e R s m args below meth c T locs cells slots) (hx : p.tables.exec = Jvm.exec) {x y : Int64} (hd : decode c.code pc = .ok (.lxor, 1))  (hp : pc + 1 = pc')
    (k : Goes p e s below Q n0 C N T (mkF m pc' Ls (.long (x ^^^ y) :: st))) : Goes p e s below Q n0 C N T (mkF m pc Ls (.long y :: .long x :: st)) := by
  subst hp; exact k.go fun _ q => XT.lxor X.here hx rfl hd rfl q
theorem g_lshl (X : Stand p l e R s m args below meth c T locs cells slots) (hx : p.tables.exec = Jvm.exec) {x : Int64} {y : Int32} (hd : decode c.code pc = .ok (.lshl, 1))  (hp : pc + 1 = pc')
    (k : Goes p e s below Q n0 C N T (mkF m pc' Ls (.long (x <<< (y.toInt64 &&& 63)) :: st))) : Goes p e s below Q n0 C N T (mkF m pc Ls (.int y :: .long x :: st)) := by
  subst hp; exact k.go fun _ q => XT.lshl X.here hx rfl hd rfl q
theorem g_lshr (X : Stand p l e R s m args below meth c T locs cells slots) (hx : p.tables.exec = Jvm.exec) {x : Int64} {y : Int32} (hd : decode c.code pc = .ok (.lshr, 1))  (hp : pc + 1 = pc')
    (k : Goes p e s below Q n0 C N T (mkF m pc' Ls (.long (x >>> (y.toInt64 &&& 63)) :: st))) : Goes p e s below Q n0 C N T (mkF m pc Ls (.int y :: .long x :: st)) := by
  subst hp; exact k.go fun _ q => XT.lshr X.here hx rfl hd rfl q
theorem g_lushr (X : Stand p l e R s m args below meth c T locs cells slots) (hx : p.tables.exec = Jvm.exec) {x : Int64} {y : Int32} (hd : decode c.code pc = .ok (.lushr, 1))  (hp : pc + 1 = pc')
    (k : Goes p e s below Q n0 C N T (mkF m pc' Ls (.long (XT.ushrL x y) :: st))) : Goes p e s below Q n0 C N T (mkF m pc Ls (.int y :: .long x :: st)) := by
  subst hp; exact k.go fun _ q => XT.lushr X.here hx rfl hd rfl q
theorem g_ldiv (X : Stand p l e R s m args below meth c T locs cells slots) (hx : p.tables.exec = Jvm.exec) {x y : Int64} (hd : decode c.code pc = .ok (.ldiv, 1)) (hy : y ≠ 0) (hp : pc + 1 = pc')
    (k : Goes p e s below Q n0 C N T (mkF m pc' Ls (.long (x / y) :: st))) : Goes p e s below Q n0 C N T (mkF m pc Ls (.long y :: .long x :: st)) := by
  subst hp; exact k.go fun _ q => XT.ldiv X.here hx rfl hd rfl hy q
theorem g_lrem (X : Stand p l e R s m args below meth c T locs cells slots) (hx : p.tables.exec = Jvm.exec) {x y : Int64} (hd : decode c.code pc = .ok (.lrem, 1)) (hy : y ≠ 0) (hp : pc + 1 = pc')
    (k : Goes p e s below Q n0 C N T (mkF m pc' Ls (.long (x - (x / y) * y) :: st))) : Goes p e s below Q n0 C N T (mkF m pc Ls (.long y :: .long x :: st)) := by
  subst hp; exact k.go fun _ q => XT.lrem X.here hx rfl hd rfl hy q
theorem g_lneg (X : Stand p l e R s m args below meth c T locs cells slots) (hx : p.tables.exec = Jvm.exec) {x : Int64} (hd : decode c.code pc = .ok (.lneg, 1))  (hp : pc + 1 = pc')
    (k : Goes p e s below Q n0 C N T (mkF m pc' Ls (.long (-x) :: st))) : Goes p e s below Q n0 C N T (mkF m pc Ls (.long x :: st)) := by
  subst hp; exact k.go fun _ q => XT.lneg X.here hx rfl hd rfl q
theorem g_i2l (X : Stand p l e R s m args below meth c T locs cells slots) (hx : p.tables.exec = Jvm.exec) {x : Int32} (hd : decode c.code pc = .ok (.i2l, 1))  (hp : pc + 1 = pc')
    (k : Goes p e s below Q n0 C N T (mkF m pc' Ls (.long x.toInt64 :: st))) : Goes p e s below Q n0 C N T (mkF m pc Ls (.int x :: st)) := by
  subst hp; exact k.go fun _ q => XT.i2l X.here hx rfl hd rfl q
theorem g_l2i (X : Stand p l e R s m args below meth c T locs cells slots) (hx : p.tables.exec = Jvm.exec) {x : Int64} (hd : decode c.code pc = .ok (.l2i, 1))  (hp : pc + 1 = pc')
    (k : Goes p e s below Q n0 C N T (mkF m pc' Ls (.int x.toInt32 :: st))) : Goes p e s below Q n0 C N T (mkF m pc Ls (.long x :: st)) := by
  subst hp; exact k.go fun _ q => XT.l2i X.here hx rfl hd rfl q
theorem g_i2b (X : Stand p l e R s m args below meth c T locs cells slots) (hx : p.tables.exec = Jvm.exec) {x : Int32} (hd : decode c.code pc = .ok (.i2b, 1))  (hp : pc + 1 = pc')
    (k : Goes p e s below Q n0 C N T (mkF m pc' Ls (.int x.toInt8.toInt32 :: st))) : Goes p e s below Q n0 C N T (mkF m pc Ls (.int x :: st)) := by
  subst hp; exact k.go fun _ q => XT.i2b X.here hx rfl hd rfl q
theorem g_dup (X : Stand p l e R s m args below meth c T locs cells slots) (hx : p.tables.exec = Jvm.exec) {v : Value} (hd : decode c.code pc = .ok (.dup, 1)) (hc : v.category = 1) (hp : pc + 1 = pc')
    (k : Goes p e s below Q n0 C N T (mkF m pc' Ls (v :: v :: st))) : Goes p e s below Q n0 C N T (mkF m pc Ls (v :: st)) := by
  subst hp; exact k.go fun _ q => XS.dup X.here hx rfl hd rfl hc q
theorem g_pop (X : Stand p l e R s m args below meth c T locs cells slots) (hx : p.tables.exec = Jvm.exec) {v : Value} (hd : decode c.code pc = .ok (.pop, 1)) (hc : v.category = 1) (hp : pc + 1 = pc')
    (k : Goes p e s below Q n0 C N T (mkF m pc' Ls (st))) : Goes p e s below Q n0 C N T (mkF m pc Ls (v :: st)) := by
  subst hp; exact k.go fun _ q => XT.pop X.here hx rfl hd rfl hc q
theorem g_dupX1 (X : Stand p l e R s m args below meth c T locs cells slots) (hx : p.tables.exec = Jvm.exec) {v w : Value} (hd : decode c.code pc = .ok (.dup_x1, 1)) (hc : v.category = 1) (hc' : w.category = 1) (hp : pc + 1 = pc')
    (k : Goes p e s below Q n0 C N T (mkF m pc' Ls (v :: w :: v :: st))) : Goes p e s below Q n0 C N T (mkF m pc Ls (v :: w :: st)) := by
  subst hp; exact k.go fun _ q => XT.dupX1 X.here hx rfl hd rfl hc hc' q
theorem g_dup2 (X : Stand p l e R s m args below meth c T locs cells slots) (hx : p.tables.exec = Jvm.exec) {v w : Value} (hd : decode c.code pc = .ok (.dup2, 1)) (hc : v.category = 1) (hc' : w.category = 1) (hp : pc + 1 = pc')
    (k : Goes p e s below Q n0 C N T (mkF m pc' Ls (v :: w :: v :: w :: st))) : Goes p e s below Q n0 C N T (mkF m pc Ls (v :: w :: st)) := by
  subst hp; exact k.go fun _ q => XT.dup2 X.here hx rfl hd rfl hc hc' q
theorem g_dup2L (X : Stand p l e R s m args below meth c T locs cells slots) (hx : p.tables.exec = Jvm.exec) {x : Int64} (hd : decode c.code pc = .ok (.dup2, 1))  (hp : pc + 1 = pc')
    (k : Goes p e s below Q n0 C N T (mkF m pc' Ls (.long x :: .long x :: st))) : Goes p e s below Q n0 C N T (mkF m pc Ls (.long x :: st)) := by
  subst hp; exact k.go fun _ q => XT.dup2L X.here hx rfl hd rfl q
theorem g_goto (X : Stand p l e R s m args below meth c T locs cells slots) (hx : p.tables.exec = Jvm.exec) {o : Int} (hd : decode c.code pc = .ok (.goto o, 3)) (ho : 0 ≤ (pc : Int) + o) (hp : ((pc : Int) + o).toNat = pc')
    (k : Goes p e s below Q n0 C N T (mkF m pc' Ls st)) : Goes p e s below Q n0 C N T (mkF m pc Ls st) := k.go fun _ q => XS.goto X.here hx rfl rfl hd ho hp q
theorem g_ii_eq (X : Stand p l e R s m args below meth c T locs cells slots) (hx : p.tables.exec = Jvm.exec) {o : Int} {x y : Int32} {a b : Int} (ha : x.toInt = a) (hb : y.toInt = b) (hd : decode c.code pc = .ok (.if_icmp .eq o, 3)) (ho : 0 ≤ (pc : Int) + o) (hp : ((pc : Int) + o).toNat = pc') {pc2 : Nat} (hp2 : pc + 3 = pc2)
    (kt : a = b → Goes p e s below Q n0 C N T (mkF m pc' Ls st)) (kf : ¬ a = b → Goes p e s below Q n0 C N T (mkF m pc2 Ls st)) : Goes p e s below Q n0 C N T (mkF m pc Ls (.int y :: .int x :: st)) := by
  subst ha hb hp2
  have hw : x = y ↔ x.toInt = y.toInt := Int32.toInt_inj.symm
  by_cases hq : x = y
  · exact (kt (hw.mp hq)).go fun _ q => XS.icmpYes X.here hx rfl rfl hd rfl (XT.ii_eq_t hq) ho hp q
  · exact (kf fun z => hq (hw.mpr z)).go fun _ q => XS.icmpNo X.here hx rfl hd rfl (XT.ii_eq_f hq) q
theorem g_ll_eq (X : Stand p l e R s m args below meth c T locs cells slots) (hx : p.tables.exec = Jvm.exec) {o : Int} {x y : Int64} {a b : Int} (ha : x.toInt = a) (hb : y.toInt = b) (hd1 : decode c.code pc = .ok (.lcmp, 1)) {pc1 : Nat} (hp1 : pc + 1 = pc1) (hd : decode c.code pc1 = .ok (.ifCond .eq o, 3)) (ho : 0 ≤ (pc1 : Int) + o) (hp : ((pc1 : Int) + o).toNat = pc') {pc2 : Nat} (hp2 : pc1 + 3 = pc2)
    (kt : a = b → Goes p e s below Q n0 C N T (mkF m pc' Ls st)) (kf : ¬ a = b → Goes p e s below Q n0 C N T (mkF m pc2 Ls st)) : Goes p e s below Q n0 C N T (mkF m pc Ls (.long y :: .long x :: st)) := by
  subst ha hb hp1 hp2
  refine Goes.go (g' := mkF m (pc + 1) Ls (.int (XT.cmpL x y) :: st)) (fun _ q => XT.lcmp X.here hx rfl hd1 rfl q) ?_
  have hw : x = y ↔ x.toInt = y.toInt := Int64.toInt_inj.symm
  by_cases hq : x = y
  · exact (kt (hw.mp hq)).go fun _ q => XS.ifYes X.here hx rfl rfl hd rfl (XT.ll_eq_t hq) ho hp q
  · exact (kf fun z => hq (hw.mpr z)).go fun _ q => XS.ifNo X.here hx rfl hd rfl (XT.ll_eq_f hq) q
theorem g_i0_eq (X : Stand p l e R s m args below meth c T locs cells slots) (hx : p.tables.exec = Jvm.exec) {o : Int} {x : Int32} {a : Int} (ha : x.toInt = a) (hd : decode c.code pc = .ok (.ifCond .eq o, 3)) (ho : 0 ≤ (pc : Int) + o) (hp : ((pc : Int) + o).toNat = pc') {pc2 : Nat} (hp2 : pc + 3 = pc2)
    (kt : a = 0 → Goes p e s below Q n0 C N T (mkF m pc' Ls st)) (kf : ¬ a = 0 → Goes p e s below Q n0 C N T (mkF m pc2 Ls st)) : Goes p e s below Q n0 C N T (mkF m pc Ls (.int x :: st)) := by
  subst ha hp2
  have hw : x = 0 ↔ x.toInt = 0 := ⟨fun z => by rw [z]; rfl, fun z => Int32.toInt_inj.mp (z.trans rfl)⟩
  by_cases hq : x = 0
  · exact (kt (hw.mp hq)).go fun _ q => XS.ifYes X.here hx rfl rfl hd rfl (XT.i0_eq_t hq) ho hp q
  · exact (kf fun z => hq (hw.mpr z)).go fun _ q => XS.ifNo X.here hx rfl hd rfl (XT.i0_eq_f hq) q
theorem g_ii_ne (X : Stand p l e R s m args below meth c T locs cells slots) (hx : p.tables.exec = Jvm.exec) {o : Int} {x y : Int32} {a b : Int} (ha : x.toInt = a) (hb : y.toInt = b) (hd : decode c.code pc = .ok (.if_icmp .ne o, 3)) (ho : 0 ≤ (pc : Int) + o) (hp : ((pc : Int) + o).toNat = pc') {pc2 : Nat} (hp2 : pc + 3 = pc2)
    (kt : ¬ a = b → Goes p e s below Q n0 C N T (mkF m pc' Ls st)) (kf : a = b → Goes p e s below Q n0 C N T (mkF m pc2 Ls st)) : Goes p e s below Q n0 C N T (mkF m pc Ls (.int y :: .int x :: st)) := by
  subst ha hb hp2
  have hw : x = y ↔ x.toInt = y.toInt := Int32.toInt_inj.symm
  by_cases hq : x = y
  · exact (kf (hw.mp hq)).go fun _ q => XS.icmpNo X.here hx rfl hd rfl (XT.ii_ne_f hq) q
  · exact (kt fun z => hq (hw.mpr z)).go fun _ q => XS.icmpYes X.here hx rfl rfl hd rfl (XT.ii_ne_t hq) ho hp q
theorem g_ll_ne (X : Stand p l e R s m args below meth c T locs cells slots) (hx : p.tables.exec = Jvm.exec) {o : Int} {x y : Int64} {a b : Int} (ha : x.toInt = a) (hb : y.toInt = b) (hd1 : decode c.code pc = .ok (.lcmp, 1)) {pc1 : Nat} (hp1 : pc + 1 = pc1) (hd : decode c.code pc1 = .ok (.ifCond .ne o, 3)) (ho : 0 ≤ (pc1 : Int) + o) (hp : ((pc1 : Int) + o).toNat = pc') {pc2 : Nat} (hp2 : pc1 + 3 = pc2)
    (kt : ¬ a = b → Goes p e s below Q n0 C N T (mkF m pc' Ls st)) (kf : a = b → Goes p e s below Q n0 C N T (mkF m pc2 Ls st)) : Goes p e s below Q n0 C N T (mkF m pc Ls (.long y :: .long x :: st)) := by
  subst ha hb hp1 hp2
  refine Goes.go (g' := mkF m (pc + 1) Ls (.int (XT.cmpL x y) :: st)) (fun _ q => XT.lcmp X.here hx rfl hd1 rfl q) ?_
  have hw : x = y ↔ x.toInt = y.toInt := Int64.toInt_inj.symm
  by_cases hq : x = y
  · exact (kf (hw.mp hq)).go fun _ q => XS.ifNo X.here hx rfl hd rfl (XT.ll_ne_f hq) q
  · exact (kt fun z => hq (hw.mpr z)).go fun _ q => XS.ifYes X.here hx rfl rfl hd rfl (XT.ll_ne_t hq) ho hp q
theorem g_i0_ne (X : Stand p l e R s m args below meth c T locs cells slots) (hx : p.tables.exec = Jvm.exec) {o : Int} {x : Int32} {a : Int} (ha : x.toInt = a) (hd : decode c.code pc = .ok (.ifCond .ne o, 3)) (ho : 0 ≤ (pc : Int) + o) (hp : ((pc : Int) + o).toNat = pc') {pc2 : Nat} (hp2 : pc + 3 = pc2)
    (kt : ¬ a = 0 → Goes p e s below Q n0 C N T (mkF m pc' Ls st)) (kf : a = 0 → Goes p e s below Q n0 C N T (mkF m pc2 Ls st)) : Goes p e s below Q n0 C N T (mkF m pc Ls (.int x :: st)) := by
  subst ha hp2
  have hw : x = 0 ↔ x.toInt = 0 := ⟨fun z => by rw [z]; rfl, fun z => Int32.toInt_inj.mp (z.trans rfl)⟩
  by_cases hq : x = 0
  · exact (kf (hw.mp hq)).go fun _ q => XS.ifNo X.here hx rfl hd rfl (XT.i0_ne_f hq) q
  · exact (kt fun z => hq (hw.mpr z)).go fun _ q => XS.ifYes X.here hx rfl rfl hd rfl (XT.i0_ne_t hq) ho hp q
theorem g_ii_lt (X : Stand p l e R s m args below meth c T locs cells slots) (hx : p.tables.exec = Jvm.exec) {o : Int} {x y : Int32} {a b : Int} (ha : x.toInt = a) (hb : y.toInt = b) (hd : decode c.code pc = .ok (.if_icmp .lt o, 3)) (ho : 0 ≤ (pc : Int) + o) (hp : ((pc : Int) + o).toNat = pc') {pc2 : Nat} (hp2 : pc + 3 = pc2)
    (kt : a < b → Goes p e s below Q n0 C N T (mkF m pc' Ls st)) (kf : ¬ a < b → Goes p e s below Q n0 C N T (mkF m pc2 Ls st)) : Goes p e s below Q n0 C N T (mkF m pc Ls (.int y :: .int x :: st)) := by
  subst ha hb hp2
  have hw : x < y ↔ x.toInt < y.toInt := Int32.lt_iff_toInt_lt
  by_cases hq : x < y
  · exact (kt (hw.mp hq)).go fun _ q => XS.icmpYes X.here hx rfl rfl hd rfl (XT.ii_lt_t hq) ho hp q
  · exact (kf fun z => hq (hw.mpr z)).go fun _ q => XS.icmpNo X.here hx rfl hd rfl (XT.ii_lt_f hq) q
theorem g_ll_lt (X : Stand p l e R s m args below meth c T locs cells slots) (hx : p.tables.exec = Jvm.exec) {o : Int} {x y : Int64} {a b : Int} (ha : x.toInt = a) (hb : y.toInt = b) (hd1 : decode c.code pc = .ok (.lcmp, 1)) {pc1 : Nat} (hp1 : pc + 1 = pc1) (hd : decode c.code pc1 = .ok (.ifCond .lt o, 3)) (ho : 0 ≤ (pc1 : Int) + o) (hp : ((pc1 : Int) + o).toNat = pc') {pc2 : Nat} (hp2 : pc1 + 3 = pc2)
    (kt : a < b → Goes p e s below Q n0 C N T (mkF m pc' Ls st)) (kf : ¬ a < b → Goes p e s below Q n0 C N T (mkF m pc2 Ls st)) : Goes p e s below Q n0 C N T (mkF m pc Ls (.long y :: .long x :: st)) := by
  subst ha hb hp1 hp2
  refine Goes.go (g' := mkF m (pc + 1) Ls (.int (XT.cmpL x y) :: st)) (fun _ q => XT.lcmp X.here hx rfl hd1 rfl q) ?_
  have hw : x < y ↔ x.toInt < y.toInt := Int64.lt_iff_toInt_lt
  by_cases hq : x < y
  · exact (kt (hw.mp hq)).go fun _ q => XS.ifYes X.here hx rfl rfl hd rfl (XT.ll_lt_t hq) ho hp q
  · exact (kf fun z => hq (hw.mpr z)).go fun _ q => XS.ifNo X.here hx rfl hd rfl (XT.ll_lt_f hq) q
theorem g_i0_lt (X : Stand p l e R s m args below meth c T locs cells slots) (hx : p.tables.exec = Jvm.exec) {o : Int} {x : Int32} {a : Int} (ha : x.toInt = a) (hd : decode c.code pc = .ok (.ifCond .lt o, 3)) (ho : 0 ≤ (pc : Int) + o) (hp : ((pc : Int) + o).toNat = pc') {pc2 : Nat} (hp2 : pc + 3 = pc2)
    (kt : a < 0 → Goes p e s below Q n0 C N T (mkF m pc' Ls st)) (kf : ¬ a < 0 → Goes p e s below Q n0 C N T (mkF m pc2 Ls st)) : Goes p e s below Q n0 C N T (mkF m pc Ls (.int x :: st)) := by
  subst ha hp2
  have hw : x < 0 ↔ x.toInt < 0 := Int32.lt_iff_toInt_lt
  by_cases hq : x < 0
  · exact (kt (hw.mp hq)).go fun _ q => XS.ifYes X.here hx rfl rfl hd rfl (XT.i0_lt_t hq) ho hp q
  · exact (kf fun z => hq (hw.mpr z)).go fun _ q => XS.ifNo X.here hx rfl hd rfl (XT.i0_lt_f hq) q
theorem g_ii_ge (X : Stand p l e R s m args below meth c T locs cells slots) (hx : p.tables.exec = Jvm.exec) {o : Int} {x y : Int32} {a b : Int} (ha : x.toInt = a) (hb : y.toInt = b) (hd : decode c.code pc = .ok (.if_icmp .ge o, 3)) (ho : 0 ≤ (pc : Int) + o) (hp : ((pc : Int) + o).toNat = pc') {pc2 : Nat} (hp2 : pc + 3 = pc2)
    (kt : ¬ a < b → Goes p e s below Q n0 C N T (mkF m pc' Ls st)) (kf : a < b → Goes p e s below Q n0 C N T (mkF m pc2 Ls st)) : Goes p e s below Q n0 C N T (mkF m pc Ls (.int y :: .int x :: st)) := by
  subst ha hb hp2
  have hw : x < y ↔ x.toInt < y.toInt := Int32.lt_iff_toInt_lt
  by_cases hq : x < y
  · exact (kf (hw.mp hq)).go fun _ q => XS.icmpNo X.here hx rfl hd rfl (XT.ii_ge_f hq) q
  · exact (kt fun z => hq (hw.mpr z)).go fun _ q => XS.icmpYes X.here hx rfl rfl hd rfl (XT.ii_ge_t hq) ho hp q
theorem g_ll_ge (X : Stand p l e R s m args below meth c T locs cells slots) (hx : p.tables.exec = Jvm.exec) {o : Int} {x y : Int64} {a b : Int} (ha : x.toInt = a) (hb : y.toInt = b) (hd1 : decode c.code pc = .ok (.lcmp, 1)) {pc1 : Nat} (hp1 : pc + 1 = pc1) (hd : decode c.code pc1 = .ok (.ifCond .ge o, 3)) (ho : 0 ≤ (pc1 : Int) + o) (hp : ((pc1 : Int) + o).toNat = pc') {pc2 : Nat} (hp2 : pc1 + 3 = pc2)
    (kt : ¬ a < b → Goes p e s below Q n0 C N T (mkF m pc' Ls st)) (kf : a < b → Goes p e s below Q n0 C N T (mkF m pc2 Ls st)) : Goes p e s below Q n0 C N T (mkF m pc Ls (.long y :: .long x :: st)) := by
  subst ha hb hp1 hp2
  refine Goes.go (g' := mkF m (pc + 1) Ls (.int (XT.cmpL x y) :: st)) (fun _ q => XT.lcmp X.here hx rfl hd1 rfl q) ?_
  have hw : x < y ↔ x.toInt < y.toInt := Int64.lt_iff_toInt_lt
  by_cases hq : x < y
  · exact (kf (hw.mp hq)).go fun _ q => XS.ifNo X.here hx rfl hd rfl (XT.ll_ge_f hq) q
  · exact (kt fun z => hq (hw.mpr z)).go fun _ q => XS.ifYes X.here hx rfl rfl hd rfl (XT.ll_ge_t hq) ho hp q
theorem g_i0_ge (X : Stand p l e R s m args below meth c T locs cells slots) (hx : p.tables.exec = Jvm.exec) {o : Int} {x : Int32} {a : Int} (ha : x.toInt = a) (hd : decode c.code pc = .ok (.ifCond .ge o, 3)) (ho : 0 ≤ (pc : Int) + o) (hp : ((pc : Int) + o).toNat = pc') {pc2 : Nat} (hp2 : pc + 3 = pc2)
    (kt : ¬ a < 0 → Goes p e s below Q n0 C N T (mkF m pc' Ls st)) (kf : a < 0 → Goes p e s below Q n0 C N T (mkF m pc2 Ls st)) : Goes p e s below Q n0 C N T (mkF m pc Ls (.int x :: st)) := by
  subst ha hp2
  have hw : x < 0 ↔ x.toInt < 0 := Int32.lt_iff_toInt_lt
  by_cases hq : x < 0
  · exact (kf (hw.mp hq)).go fun _ q => XS.ifNo X.here hx rfl hd rfl (XT.i0_ge_f hq) q
  · exact (kt fun z => hq (hw.mpr z)).go fun _ q => XS.ifYes X.here hx rfl rfl hd rfl (XT.i0_ge_t hq) ho hp q
theorem g_ii_gt (X : Stand p l e R s m args below meth c T locs cells slots) (hx : p.tables.exec = Jvm.exec) {o : Int} {x y : Int32} {a b : Int} (ha : x.toInt = a) (hb : y.toInt = b) (hd : decode c.code pc = .ok (.if_icmp .gt o, 3)) (ho : 0 ≤ (pc : Int) + o) (hp : ((pc : Int) + o).toNat = pc') {pc2 : Nat} (hp2 : pc + 3 = pc2)
    (kt : b < a → Goes p e s below Q n0 C N T (mkF m pc' Ls st)) (kf : ¬ b < a → Goes p e s below Q n0 C N T (mkF m pc2 Ls st)) : Goes p e s below Q n0 C N T (mkF m pc Ls (.int y :: .int x :: st)) := by
  subst ha hb hp2
  have hw : y < x ↔ y.toInt < x.toInt := Int32.lt_iff_toInt_lt
  by_cases hq : y < x
  · exact (kt (hw.mp hq)).go fun _ q => XS.icmpYes X.here hx rfl rfl hd rfl (XT.ii_gt_t hq) ho hp q
  · exact (kf fun z => hq (hw.mpr z)).go fun _ q => XS.icmpNo X.here hx rfl hd rfl (XT.ii_gt_f hq) q
theorem g_ll_gt (X : Stand p l e R s m args below meth c T locs cells slots) (hx : p.tables.exec = Jvm.exec) {o : Int} {x y : Int64} {a b : Int} (ha : x.toInt = a) (hb : y.toInt = b) (hd1 : decode c.code pc = .ok (.lcmp, 1)) {pc1 : Nat} (hp1 : pc + 1 = pc1) (hd : decode c.code pc1 = .ok (.ifCond .gt o, 3)) (ho : 0 ≤ (pc1 : Int) + o) (hp : ((pc1 : Int) + o).toNat = pc') {pc2 : Nat} (hp2 : pc1 + 3 = pc2)
    (kt : b < a → Goes p e s below Q n0 C N T (mkF m pc' Ls st)) (kf : ¬ b < a → Goes p e s below Q n0 C N T (mkF m pc2 Ls st)) : Goes p e s below Q n0 C N T (mkF m pc Ls (.long y :: .long x :: st)) := by
  subst ha hb hp1 hp2
  refine Goes.go (g' := mkF m (pc + 1) Ls (.int (XT.cmpL x y) :: st)) (fun _ q => XT.lcmp X.here hx rfl hd1 rfl q) ?_
  have hw : y < x ↔ y.toInt < x.toInt := Int64.lt_iff_toInt_lt
  by_cases hq : y < x
  · exact (kt (hw.mp hq)).go fun _ q => XS.ifYes X.here hx rfl rfl hd rfl (XT.ll_gt_t hq) ho hp q
  · exact (kf fun z => hq (hw.mpr z)).go fun _ q => XS.ifNo X.here hx rfl hd rfl (XT.ll_gt_f hq) q
theorem g_i0_gt (X : Stand p l e R s m args below meth c T locs cells slots) (hx : p.tables.exec = Jvm.exec) {o : Int} {x : Int32} {a : Int} (ha : x.toInt = a) (hd : decode c.code pc = .ok (.ifCond .gt o, 3)) (ho : 0 ≤ (pc : Int) + o) (hp : ((pc : Int) + o).toNat = pc') {pc2 : Nat} (hp2 : pc + 3 = pc2)
    (kt : 0 < a → Goes p e s below Q n0 C N T (mkF m pc' Ls st)) (kf : ¬ 0 < a → Goes p e s below Q n0 C N T (mkF m pc2 Ls st)) : Goes p e s below Q n0 C N T (mkF m pc Ls (.int x :: st)) := by
  subst ha hp2
  have hw : 0 < x ↔ 0 < x.toInt := Int32.lt_iff_toInt_lt
  by_cases hq : 0 < x
  · exact (kt (hw.mp hq)).go fun _ q => XS.ifYes X.here hx rfl rfl hd rfl (XT.i0_gt_t hq) ho hp q
  · exact (kf fun z => hq (hw.mpr z)).go fun _ q => XS.ifNo X.here hx rfl hd rfl (XT.i0_gt_f hq) q
theorem g_ii_le (X : Stand p l e R s m args below meth c T locs cells slots) (hx : p.tables.exec = Jvm.exec) {o : Int} {x y : Int32} {a b : Int} (ha : x.toInt = a) (hb : y.toInt = b) (hd : decode c.code pc = .ok (.if_icmp .le o, 3)) (ho : 0 ≤ (pc : Int) + o) (hp : ((pc : Int) + o).toNat = pc') {pc2 : Nat} (hp2 : pc + 3 = pc2)
    (kt : ¬ b < a → Goes p e s below Q n0 C N T (mkF m pc' Ls st)) (kf : b < a → Goes p e s below Q n0 C N T (mkF m pc2 Ls st)) : Goes p e s below Q n0 C N T (mkF m pc Ls (.int y :: .int x :: st)) := by
  subst ha hb hp2
  have hw : y < x ↔ y.toInt < x.toInt := Int32.lt_iff_toInt_lt
  by_cases hq : y < x
  · exact (kf (hw.mp hq)).go fun _ q => XS.icmpNo X.here hx rfl hd rfl (XT.ii_le_f hq) q
  · exact (kt fun z => hq (hw.mpr z)).go fun _ q => XS.icmpYes X.here hx rfl rfl hd rfl (XT.ii_le_t hq) ho hp q
theorem g_ll_le (X : Stand p l e R s m args below meth c T locs cells slots) (hx : p.tables.exec = Jvm.exec) {o : Int} {x y : Int64} {a b : Int} (ha : x.toInt = a) (hb : y.toInt = b) (hd1 : decode c.code pc = .ok (.lcmp, 1)) {pc1 : Nat} (hp1 : pc + 1 = pc1) (hd : decode c.code pc1 = .ok (.ifCond .le o, 3)) (ho : 0 ≤ (pc1 : Int) + o) (hp : ((pc1 : Int) + o).toNat = pc') {pc2 : Nat} (hp2 : pc1 + 3 = pc2)
    (kt : ¬ b < a → Goes p e s below Q n0 C N T (mkF m pc' Ls st)) (kf : b < a → Goes p e s below Q n0 C N T (mkF m pc2 Ls st)) : Goes p e s below Q n0 C N T (mkF m pc Ls (.long y :: .long x :: st)) := by
  subst ha hb hp1 hp2
  refine Goes.go (g' := mkF m (pc + 1) Ls (.int (XT.cmpL x y) :: st)) (fun _ q => XT.lcmp X.here hx rfl hd1 rfl q) ?_
  have hw : y < x ↔ y.toInt < x.toInt := Int64.lt_iff_toInt_lt
  by_cases hq : y < x
  · exact (kf (hw.mp hq)).go fun _ q => XS.ifNo X.here hx rfl hd rfl (XT.ll_le_f hq) q
  · exact (kt fun z => hq (hw.mpr z)).go fun _ q => XS.ifYes X.here hx rfl rfl hd rfl (XT.ll_le_t hq) ho hp q
theorem g_i0_le (X : Stand p l e R s m args below meth c T locs cells slots) (hx : p.tables.exec = Jvm.exec) {o : Int} {x : Int32} {a : Int} (ha : x.toInt = a) (hd : decode c.code pc = .ok (.ifCond .le o, 3)) (ho : 0 ≤ (pc : Int) + o) (hp : ((pc : Int) + o).toNat = pc') {pc2 : Nat} (hp2 : pc + 3 = pc2)
    (kt : ¬ 0 < a → Goes p e s below Q n0 C N T (mkF m pc' Ls st)) (kf : 0 < a → Goes p e s below Q n0 C N T (mkF m pc2 Ls st)) : Goes p e s below Q n0 C N T (mkF m pc Ls (.int x :: st)) := by
  subst ha hp2
  have hw : 0 < x ↔ 0 < x.toInt := Int32.lt_iff_toInt_lt
  by_cases hq : 0 < x
  · exact (kf (hw.mp hq)).go fun _ q => XS.ifNo X.here hx rfl hd rfl (XT.i0_le_f hq) q
  · exact (kt fun z => hq (hw.mpr z)).go fun _ q => XS.ifYes X.here hx rfl rfl hd rfl (XT.i0_le_t hq) ho hp q
theorem g_ifnullYes (X : Stand p l e R s m args below meth c T locs cells slots) (hx : p.tables.exec = Jvm.exec) {o : Int} (hd : decode c.code pc = .ok (.ifnull o, 3)) (ho : 0 ≤ (pc : Int) + o) (hp : ((pc : Int) + o).toNat = pc')
    (k : Goes p e s below Q n0 C N T (mkF m pc' Ls st)) : Goes p e s below Q n0 C N T (mkF m pc Ls (.null :: st)) := k.go fun _ q => XS.ifnullYes X.here hx rfl rfl hd rfl ho hp q
theorem g_ifnullNo (X : Stand p l e R s m args below meth c T locs cells slots) (hx : p.tables.exec = Jvm.exec) {o : Int} {b : Addr} (hd : decode c.code pc = .ok (.ifnull o, 3)) (hp : pc + 3 = pc')
    (k : Goes p e s below Q n0 C N T (mkF m pc' Ls st)) : Goes p e s below Q n0 C N T (mkF m pc Ls (.ref b :: st)) := by
  subst hp; exact k.go fun _ q => XS.ifnullNo X.here hx rfl hd rfl q
theorem g_ifnonnullYes (X : Stand p l e R s m args below meth c T locs cells slots) (hx : p.tables.exec = Jvm.exec) {o : Int} {b : Addr} (hd : decode c.code pc = .ok (.ifnonnull o, 3)) (ho : 0 ≤ (pc : Int) + o) (hp : ((pc : Int) + o).toNat = pc')
    (k : Goes p e s below Q n0 C N T (mkF m pc' Ls st)) : Goes p e s below Q n0 C N T (mkF m pc Ls (.ref b :: st)) := k.go fun _ q => XT.ifnonnullYes X.here hx rfl rfl hd rfl ho hp q
theorem IA.lt {h : Heap} {a n : Nat} {f : Nat → Int32} (F : IA Z h a n f) : a < h.size := by obtain ⟨_, c, A, -⟩ := F; exact A.lt
theorem IA.ext {h h' : Heap} {a n : Nat} {f : Nat → Int32} (F : IA Z h a n f) (E : Ext h h') : IA Z h' a n f := by obtain ⟨q, c, A, r⟩ := F; exact ⟨q, c, A.ext E, r⟩
theorem IA.keep {h h' : Heap} {a n : Nat} {f : Nat → Int32} {ws : List Addr} (F : IA Z h a n f) (K : Keep h h' ws) (q : a ∉ ws) : IA Z h' a n f := by obtain ⟨q', c, A, r⟩ := F; exact ⟨q', c, ⟨K.2.1 a c A.1 q, A.2⟩, r⟩
theorem IA.other {h h' : Heap} {a b n sl : Nat} {f : Nat → Int32} {v : Value} (F : IA Z h b n f) (W : Wr h h' a sl v) (q : b ≠ a) : IA Z h' b n f := by obtain ⟨q', c, A, r⟩ := F; exact ⟨q', c, A.other W q, r⟩
theorem IA.congr {h : Heap} {a n : Nat} {f f' : Nat → Int32} (F : IA Z h a n f) (q : ∀ i, i < n → f i = f' i) : IA Z h a n f' := by obtain ⟨q', c, A, r, s⟩ := F; exact ⟨q', c, A, r, fun i hi => by rw [← q i hi]; exact s i hi⟩
theorem g_iaload (X : Stand p l e R s m args below meth c T locs cells slots) (hx : p.tables.exec = Jvm.exec) (hZ : Z.Warmed39 s.vm) (eT : T.heap = h) {a n k : Nat} {f : Nat → Int32} {j : Int32} (F : IA Z h a n f) (hj : j.toInt = (k : Int)) (hk : k < n) (hd : decode c.code pc = .ok (.iaload, 1)) (hp : pc + 1 = pc')
    (kk : Goes p e s below Q n0 C N T (mkF m pc' Ls (.int (f k) :: st))) : Goes p e s below Q n0 C N T (mkF m pc Ls (.int j :: .ref a :: st)) := by
  subst hp; obtain ⟨-, cl, A, S, H⟩ := F
  exact kk.go fun t q => X.iaload hx (by rw [eT]; exact A.1) (State.isArrayOf_alike hZ.alike A.2.1) A.2.2 (by rw [S]; exact nin hj hk) (by rw [(nclamp hj).1]; exact H k hk) (g := mkF m pc Ls (.int j :: .ref a :: st)) rfl rfl hd t q
theorem g_lenIA (X : Stand p l e R s m args below meth c T locs cells slots) (hx : p.tables.exec = Jvm.exec) (hZ : Z.Warmed39 s.vm) (eT : T.heap = h) {a n : Nat} {f : Nat → Int32} {z : Int32} (F : IA Z h a n f) (hz : z.toInt = (n : Int)) (hd : decode c.code pc = .ok (.arraylength, 1)) (hp : pc + 1 = pc')
    (kk : Goes p e s below Q n0 C N T (mkF m pc' Ls (.int z :: st))) : Goes p e s below Q n0 C N T (mkF m pc Ls (.ref a :: st)) := by
  subst hp; obtain ⟨hn, cl, A, S, H⟩ := F
  have hzz : z = cl.slots.size.toInt32 := Int32.toInt_inj.mp (by rw [S, hz, len32 hn])
  subst hzz
  exact kk.go fun t q => X.arraylength hx (by rw [eT]; exact A.1) (State.isArrayOf_alike hZ.alike A.2.1) (g := mkF m pc Ls (.ref a :: st)) rfl rfl hd t q
theorem g_iastore (X : Stand p l e R s m args below meth c T locs cells slots) (hx : p.tables.exec = Jvm.exec) (hZ : Z.Warmed39 s.vm) (eT : T.heap = h) {a n k : Nat} {f : Nat → Int32} {j : Int32} {x : Int32} (F : IA Z h a n f) (hj : j.toInt = (k : Int)) (hk : k < n) (hN : Fr n0 locs) (ha : n0 ≤ a) (hd : decode c.code pc = .ok (.iastore, 1)) (hp : pc + 1 = pc')
    (kk : ∀ T' h' locs', Stand p l e R s m args below meth c T' locs' cells slots → T'.heap = h' → Wr h h' a k (.int x) → Fr n0 locs' → IA Z h' a n (oupd f k x) → Goes p e s below Q n0 C N T' (mkF m pc' Ls st)) : Goes p e s below Q n0 C N T (mkF m pc Ls (.int x :: .int j :: .ref a :: st)) := by
  subst hp; obtain ⟨hn, cl, A, S, H⟩ := F
  obtain ⟨T', h', X', e', W', st'⟩ := stI X hx hZ eT A (j := j) (x := x) (by rw [S]; exact nin hj hk) (g := mkF m pc Ls (.int x :: .int j :: .ref a :: st)) rfl rfl hd
  rw [(nclamp hj).1] at W' X'
  refine (kk T' h' _ X' e' W' (Fr.snoc X' hN ha) ⟨hn, _, A.same W', by rw [sz_set]; exact S, fun i hi => ?_⟩).go st'
  by_cases q : i = k
  · subst q; simp [Cell.setSlot, oupd, S, hi]
  · have := H i hi
    simp only [Cell.setSlot, oupd, q, if_false]
    rw [Array.getElem?_setIfInBounds_ne (fun z => q z.symm)]; exact this
theorem g_newIA (X : Stand p l e R s m args below meth c T locs cells slots) (hx : p.tables.exec = Jvm.exec) (hZ : Z.Warmed39 s.vm) (w : (Cond.arrayClass .int).before a0 Z = true) (eT : T.heap = h) {z : Int32} {n : Nat} (hz : z.toInt = (n : Int)) {cap : Nat} (hcap : n ≤ cap) (hb : cap * 8 ≤ 536870912) (hd : decode c.code pc = .ok (.newarray .int, 2)) (hc : cells + 1 ≤ R.cells) (hl : slots + cap ≤ R.slots) (hp : pc + 2 = pc')
    (kk : ∀ T' h' a, a = h.size → Stand p l e R s m args below meth c T' locs (cells + 1) (slots + cap) → T'.heap = h' → Ext h h' → a < h'.size → IA Z h' a n zeroI → Goes p e s below Q n0 C N T' (mkF m pc' Ls (.ref a :: st))) : Goes p e s below Q n0 C N T (mkF m pc Ls (.int z :: st)) := by
  subst hp
  obtain ⟨q1, q2⟩ := nclamp hz
  obtain ⟨T', h', cA, X', e', E', A', st'⟩ := newP X hx hZ (aty := .int) w eT (g := mkF m pc Ls (.int z :: st)) rfl hd (n := z) rfl q2 (cap := cap) (by rw [q1]; exact hcap) hb hc hl
  refine (kk T' h' h.size rfl X' e' E' A'.lt ⟨?_, _, A', by rw [sz_new, q1], fun i hi => ?_⟩).go st'
  · have := z.toInt_lt; omega
  · simp only [newA, q1]; simp [hi]; rfl
theorem LA.lt {h : Heap} {a n : Nat} {f : Nat → Int64} (F : LA Z h a n f) : a < h.size := by obtain ⟨_, c, A, -⟩ := F; exact A.lt
theorem LA.ext {h h' : Heap} {a n : Nat} {f : Nat → Int64} (F : LA Z h a n f) (E : Ext h h') : LA Z h' a n f := by obtain ⟨q, c, A, r⟩ := F; exact ⟨q, c, A.ext E, r⟩
theorem LA.keep {h h' : Heap} {a n : Nat} {f : Nat → Int64} {ws : List Addr} (F : LA Z h a n f) (K : Keep h h' ws) (q : a ∉ ws) : LA Z h' a n f := by obtain ⟨q', c, A, r⟩ := F; exact ⟨q', c, ⟨K.2.1 a c A.1 q, A.2⟩, r⟩
theorem LA.other {h h' : Heap} {a b n sl : Nat} {f : Nat → Int64} {v : Value} (F : LA Z h b n f) (W : Wr h h' a sl v) (q : b ≠ a) : LA Z h' b n f := by obtain ⟨q', c, A, r⟩ := F; exact ⟨q', c, A.other W q, r⟩
theorem LA.congr {h : Heap} {a n : Nat} {f f' : Nat → Int64} (F : LA Z h a n f) (q : ∀ i, i < n → f i = f' i) : LA Z h a n f' := by obtain ⟨q', c, A, r, s⟩ := F; exact ⟨q', c, A, r, fun i hi => by rw [← q i hi]; exact s i hi⟩
theorem g_laload (X : Stand p l e R s m args below meth c T locs cells slots) (hx : p.tables.exec = Jvm.exec) (hZ : Z.Warmed39 s.vm) (eT : T.heap = h) {a n k : Nat} {f : Nat → Int64} {j : Int32} (F : LA Z h a n f) (hj : j.toInt = (k : Int)) (hk : k < n) (hd : decode c.code pc = .ok (.laload, 1)) (hp : pc + 1 = pc')
    (kk : Goes p e s below Q n0 C N T (mkF m pc' Ls (.long (f k) :: st))) : Goes p e s below Q n0 C N T (mkF m pc Ls (.int j :: .ref a :: st)) := by
  subst hp; obtain ⟨-, cl, A, S, H⟩ := F
  exact kk.go fun t q => X.laload hx (by rw [eT]; exact A.1) (State.isArrayOf_alike hZ.alike A.2.1) A.2.2 (by rw [S]; exact nin hj hk) (by rw [(nclamp hj).1]; exact H k hk) (g := mkF m pc Ls (.int j :: .ref a :: st)) rfl rfl hd t q
theorem g_lenLA (X : Stand p l e R s m args below meth c T locs cells slots) (hx : p.tables.exec = Jvm.exec) (hZ : Z.Warmed39 s.vm) (eT : T.heap = h) {a n : Nat} {f : Nat → Int64} {z : Int32} (F : LA Z h a n f) (hz : z.toInt = (n : Int)) (hd : decode c.code pc = .ok (.arraylength, 1)) (hp : pc + 1 = pc')
    (kk : Goes p e s below Q n0 C N T (mkF m pc' Ls (.int z :: st))) : Goes p e s below Q n0 C N T (mkF m pc Ls (.ref a :: st)) := by
  subst hp; obtain ⟨hn, cl, A, S, H⟩ := F
  have hzz : z = cl.slots.size.toInt32 := Int32.toInt_inj.mp (by rw [S, hz, len32 hn])
  subst hzz
  exact kk.go fun t q => X.arraylength hx (by rw [eT]; exact A.1) (State.isArrayOf_alike hZ.alike A.2.1) (g := mkF m pc Ls (.ref a :: st)) rfl rfl hd t q
theorem g_lastore (X : Stand p l e R s m args below meth c T locs cells slots) (hx : p.tables.exec = Jvm.exec) (hZ : Z.Warmed39 s.vm) (eT : T.heap = h) {a n k : Nat} {f : Nat → Int64} {j : Int32} {x : Int64} (F : LA Z h a n f) (hj : j.toInt = (k : Int)) (hk : k < n) (hN : Fr n0 locs) (ha : n0 ≤ a) (hd : decode c.code pc = .ok (.lastore, 1)) (hp : pc + 1 = pc')
    (kk : ∀ T' h' locs', Stand p l e R s m args below meth c T' locs' cells slots → T'.heap = h' → Wr h h' a k (.long x) → Fr n0 locs' → LA Z h' a n (oupd f k x) → Goes p e s below Q n0 C N T' (mkF m pc' Ls st)) : Goes p e s below Q n0 C N T (mkF m pc Ls (.long x :: .int j :: .ref a :: st)) := by
  subst hp; obtain ⟨hn, cl, A, S, H⟩ := F
  obtain ⟨T', h', X', e', W', st'⟩ := stJ X hx hZ eT A (j := j) (x := x) (by rw [S]; exact nin hj hk) (g := mkF m pc Ls (.long x :: .int j :: .ref a :: st)) rfl rfl hd
  rw [(nclamp hj).1] at W' X'
  refine (kk T' h' _ X' e' W' (Fr.snoc X' hN ha) ⟨hn, _, A.same W', by rw [sz_set]; exact S, fun i hi => ?_⟩).go st'
  by_cases q : i = k
  · subst q; simp [Cell.setSlot, oupd, S, hi]
  · have := H i hi
    simp only [Cell.setSlot, oupd, q, if_false]
    rw [Array.getElem?_setIfInBounds_ne (fun z => q z.symm)]; exact this
theorem g_newLA (X : Stand p l e R s m args below meth c T locs cells slots) (hx : p.tables.exec = Jvm.exec) (hZ : Z.Warmed39 s.vm) (w : (Cond.arrayClass .long).before a0 Z = true) (eT : T.heap = h) {z : Int32} {n : Nat} (hz : z.toInt = (n : Int)) {cap : Nat} (hcap : n ≤ cap) (hb : cap * 8 ≤ 536870912) (hd : decode c.code pc = .ok (.newarray .long, 2)) (hc : cells + 1 ≤ R.cells) (hl : slots + cap ≤ R.slots) (hp : pc + 2 = pc')
    (kk : ∀ T' h' a, a = h.size → Stand p l e R s m args below meth c T' locs (cells + 1) (slots + cap) → T'.heap = h' → Ext h h' → a < h'.size → LA Z h' a n zeroL → Goes p e s below Q n0 C N T' (mkF m pc' Ls (.ref a :: st))) : Goes p e s below Q n0 C N T (mkF m pc Ls (.int z :: st)) := by
  subst hp
  obtain ⟨q1, q2⟩ := nclamp hz
  obtain ⟨T', h', cA, X', e', E', A', st'⟩ := newP X hx hZ (aty := .long) w eT (g := mkF m pc Ls (.int z :: st)) rfl hd (n := z) rfl q2 (cap := cap) (by rw [q1]; exact hcap) hb hc hl
  refine (kk T' h' h.size rfl X' e' E' A'.lt ⟨?_, _, A', by rw [sz_new, q1], fun i hi => ?_⟩).go st'
  · have := z.toInt_lt; omega
  · simp only [newA, q1]; simp [hi]; rfl
/-! numbers -/
theorem all_succ {P : Nat → Prop} {i : Nat} (h : ∀ y, y < i → P y) (hi : P i) : ∀ y, y < i + 1 → P y := fun y hy => by
  by_cases q : y = i
  · exact q ▸ hi
  · exact h y (by omega)
theorem oupd_at {A : Type} (f : Nat → A) (j : Nat) (v : A) : oupd f j v j = v := by simp [oupd]
theorem oupd_ne {A : Type} (f : Nat → A) {i j : Nat} (v : A) (q : ¬ i = j) : oupd f j v i = f i := by simp [oupd, q]
theorem i32_of_nat (n : Nat) (hn : n < 2147483648) : (Int32.ofNat n).toInt = (n : Int) := by
  rw [Int32.toInt_ofNat']; have hsz : (Int32.size : Int) = 4294967296 := rfl; exact Int.bmod_eq_of_le (by omega) (by omega)
theorem i32_get {x : Int32} (h : 0 ≤ x.toInt) : ∃ n : Nat, x.toInt = (n : Int) ∧ n < 2147483648 := ⟨x.toInt.toNat, (Int.toNat_of_nonneg h).symm, by have := x.toInt_lt; omega⟩
theorem oupdI (f : Nat → Int32) (j i : Nat) (v : Int32) : i = j ∧ (oupd f j v i).toInt = v.toInt ∨ ¬ i = j ∧ (oupd f j v i).toInt = (f i).toInt := by
  by_cases q : i = j
  · exact Or.inl ⟨q, by simp [oupd, q]⟩
  · exact Or.inr ⟨q, by simp [oupd, q]⟩
theorem oupdL (f : Nat → Int64) (j i : Nat) (v : Int64) : i = j ∧ (oupd f j v i).toInt = v.toInt ∨ ¬ i = j ∧ (oupd f j v i).toInt = (f i).toInt := by
  by_cases q : i = j
  · exact Or.inl ⟨q, by simp [oupd, q]⟩
  · exact Or.inr ⟨q, by simp [oupd, q]⟩
end Laws
end Jvm.OwnKit

namespace Jvm.Pilot.@@N@@
open Jvm Jvm.ClassFile Sem Op Lib Jvm.Free Jvm.Stand Jvm.LawKit Jvm.RoadKit Bundle Jvm.OwnKit Jvm.Pilot.@@N@@.Jvm.D
theorem pd_0 : parseMethodDescriptor "(I)I" = some ⟨[.int], some .int⟩ := by decide +kernel
theorem pd_1 : parseMethodDescriptor "([I)Z" = some ⟨[(.array .int)], some .boolean⟩ := by decide +kernel
theorem d1_0 : decode method_2_code 0 = .ok (.iload_n 0, 1) := by decide +kernel
theorem d1_1 : decode method_2_code 1 = .ok (.iconst 1, 1) := by decide +kernel
theorem d1_2 : decode method_2_code 2 = .ok (.iand, 1) := by decide +kernel
theorem d1_3 : decode method_2_code 3 = .ok (.ifCond .eq 9, 3) := by decide +kernel
theorem d1_6 : decode method_2_code 6 = .ok (.iload_n 0, 1) := by decide +kernel
theorem d1_7 : decode method_2_code 7 = .ok (.iconst 1, 1) := by decide +kernel
theorem d1_8 : decode method_2_code 8 = .ok (.ishr, 1) := by decide +kernel
theorem d1_9 : decode method_2_code 9 = .ok (.goto 9, 3) := by decide +kernel
theorem d1_12 : decode method_2_code 12 = .ok (.iload_n 0, 1) := by decide +kernel
theorem d1_13 : decode method_2_code 13 = .ok (.iconst 1, 1) := by decide +kernel
theorem d1_14 : decode method_2_code 14 = .ok (.ishr, 1) := by decide +kernel
theorem d1_15 : decode method_2_code 15 = .ok (.bipush 7, 2) := by decide +kernel
theorem d1_17 : decode method_2_code 17 = .ok (.iand, 1) := by decide +kernel
theorem d1_18 : decode method_2_code 18 = .ok (.ireturn, 1) := by decide +kernel
theorem pn_0 : plainFor (⟨"com/example/lightloom/lightloom/sim/PermutationsFixesNoPointPinLaw", "entry", "(I)I"⟩ : MethodName) = true := by first | exact plainFor_of_name (by first | (simp [plainName, overriddenIn]; done) | decide +kernel) | decide +kernel
def Q1 (Z : State) (p1 : Int32) (h0 : Heap) (n0 : Nat) (v : Option Value) (h : Heap) : Prop := ∃ b : Int32, v = some (.int b) ∧ h = h0
abbrev R1 : Room := { frames := 0, cells := 0, slots := 0, locals := 0 }
set_option maxRecDepth 65536 in
set_option maxHeartbeats 40000000 in
theorem rm1 (l : Launch) (Z : State) (a0 : Array Value) (hw : ∀ d ∈ tables_1, d.before a0 Z = true)  (p1 : Int32) (h0 : Heap) (n0 : Nat) (Z0 : n0 ≤ h0.size)  :
    Con l (⟨"com/example/lightloom/lightloom/sim/PermutationsFixesNoPointPinLaw", "entry", "(I)I"⟩ : MethodName) method_2_code 1 (some .int) [] R1 Z #[(.int p1)] h0 n0 (Q1 Z p1 h0 n0) := by
  refine con_of (Ls0 := #[.val (.int p1)]) pn_0 (fun m => by first | (simp [entryFrame, mkF, argsToLocals, Value.category, maxLocals]; done) | rfl) ?_
  intro p e s m below meth c s₁ X0 hx hby hml hZ hown hnm hret hlk e0 N0
  show Goes p e s below (Q1 Z p1 h0 n0) n0 R1.cells R1.slots s₁ (mkF m 0 #[.val (.int p1)] [])
  refine g_iloadN X0 hx (hb hby d1_0) (v := p1) rfl (pc' := 1) rfl ?_
  refine g_iconst X0 hx (hb hby d1_1) (v := 1) (by decide) (pc' := 2) rfl ?_
  refine g_iand X0 hx (hb hby d1_2) (pc' := 3) rfl ?_
  refine g_i0_eq X0 hx (a := (p1 &&& (1 : Int32)).toInt) rfl (hb hby d1_3) (by decide) (pc' := 12) (by decide) (pc2 := 6) rfl (fun c1 => ?_) (fun c1 => ?_)
  · refine g_iloadN X0 hx (hb hby d1_12) (v := p1) rfl (pc' := 13) rfl ?_
    refine g_iconst X0 hx (hb hby d1_13) (v := 1) (by decide) (pc' := 14) rfl ?_
    refine g_ishr X0 hx (hb hby d1_14) (pc' := 15) rfl ?_
    refine g_bipush X0 hx (hb hby d1_15) (v := 7) (by decide) (pc' := 17) rfl ?_
    refine g_iand X0 hx (hb hby d1_17) (pc' := 18) rfl ?_
    refine g_retI X0 hx hlk hret (hb hby d1_18) N0 (by decide) (by decide) ?_
    exact ⟨_, rfl, e0⟩
  · refine g_iloadN X0 hx (hb hby d1_6) (v := p1) rfl (pc' := 7) rfl ?_
    refine g_iconst X0 hx (hb hby d1_7) (v := 1) (by decide) (pc' := 8) rfl ?_
    refine g_ishr X0 hx (hb hby d1_8) (pc' := 9) rfl ?_
    refine g_goto X0 hx (hb hby d1_9) (by decide) (pc' := 18) (by decide) ?_
    refine g_retI X0 hx hlk hret (hb hby d1_18) N0 (by decide) (by decide) ?_
    exact ⟨_, rfl, e0⟩
theorem d2_0 : decode prog_49_method_4_code 0 = .ok (.iconst 0, 1) := by decide +kernel
theorem d2_1 : decode prog_49_method_4_code 1 = .ok (.istore_n 1, 1) := by decide +kernel
theorem d2_2 : decode prog_49_method_4_code 2 = .ok (.iload_n 1, 1) := by decide +kernel
theorem d2_3 : decode prog_49_method_4_code 3 = .ok (.aload_n 0, 1) := by decide +kernel
theorem d2_4 : decode prog_49_method_4_code 4 = .ok (.arraylength, 1) := by decide +kernel
theorem d2_5 : decode prog_49_method_4_code 5 = .ok (.if_icmp .ge 18, 3) := by decide +kernel
theorem d2_8 : decode prog_49_method_4_code 8 = .ok (.aload_n 0, 1) := by decide +kernel
theorem d2_9 : decode prog_49_method_4_code 9 = .ok (.iload_n 1, 1) := by decide +kernel
theorem d2_10 : decode prog_49_method_4_code 10 = .ok (.iaload, 1) := by decide +kernel
theorem d2_11 : decode prog_49_method_4_code 11 = .ok (.iload_n 1, 1) := by decide +kernel
theorem d2_12 : decode prog_49_method_4_code 12 = .ok (.if_icmp .ne 5, 3) := by decide +kernel
theorem d2_15 : decode prog_49_method_4_code 15 = .ok (.iconst 0, 1) := by decide +kernel
theorem d2_16 : decode prog_49_method_4_code 16 = .ok (.ireturn, 1) := by decide +kernel
theorem d2_17 : decode prog_49_method_4_code 17 = .ok (.iinc 1 1, 3) := by decide +kernel
theorem d2_20 : decode prog_49_method_4_code 20 = .ok (.goto (-18), 3) := by decide +kernel
theorem d2_23 : decode prog_49_method_4_code 23 = .ok (.iconst 1, 1) := by decide +kernel
theorem d2_24 : decode prog_49_method_4_code 24 = .ok (.ireturn, 1) := by decide +kernel
theorem pn_1 : plainFor (⟨"com/example/lightloom/lightloom/sim/Permutations", "fixesNoPoint", "([I)Z"⟩ : MethodName) = true := by first | exact plainFor_of_name (by first | (simp [plainName, overriddenIn]; done) | decide +kernel) | decide +kernel
def Q2 (Z : State) (a : Addr) (n : Nat) (f : Nat → Int32) (h0 : Heap) (n0 : Nat) (v : Option Value) (h : Heap) : Prop := ∃ b : Int32, v = some (.int b) ∧ ((∀ i, i < n → ¬ (f i).toInt = (i : Int)) ∧ b.toInt = 1 ∨ (∃ i, i < n ∧ (f i).toInt = (i : Int)) ∧ b.toInt = 0) ∧ h = h0
abbrev R2 : Room := { frames := 0, cells := 0, slots := 0, locals := 0 }
set_option maxRecDepth 65536 in
set_option maxHeartbeats 40000000 in
theorem rm2 (l : Launch) (Z : State) (a0 : Array Value) (hw : ∀ d ∈ tables_1, d.before a0 Z = true)  (a : Addr) (n : Nat) (f : Nat → Int32) (h0 : Heap) (n0 : Nat) (Z0 : n0 ≤ h0.size) (Fp0 : IA Z h0 a n f) :
    Con l (⟨"com/example/lightloom/lightloom/sim/Permutations", "fixesNoPoint", "([I)Z"⟩ : MethodName) prog_49_method_4_code 2 (some .boolean) [] R2 Z #[(.ref a)] h0 n0 (Q2 Z a n f h0 n0) := by
  refine con_of (Ls0 := #[.val (.ref a), .unset]) pn_1 (fun m => by first | (simp [entryFrame, mkF, argsToLocals, Value.category, maxLocals]; done) | rfl) ?_
  intro p e s m below meth c s₁ X0 hx hby hml hZ hown hnm hret hlk e0 N0
  show Goes p e s below (Q2 Z a n f h0 n0) n0 R2.cells R2.slots s₁ (mkF m 0 #[.val (.ref a), .unset] [])
  have hn := i32_of_nat n Fp0.1
  refine g_iconst X0 hx (hb hby d2_0) (v := 0) (by decide) (pc' := 1) rfl ?_
  refine g_istoreN X0 hx (hb hby d2_1) (Ls' := #[.val (.ref a), .val (.int (0 : Int32))]) rfl (pc' := 2) rfl ?_
  have loop : ∀ (k : Nat) (i : Nat) (j : Int32) (Tl : State) (Ll : List Loc) , i + k = n → j.toInt = (i : Int) → (∀ y, y < i → ¬ (f y).toInt = (y : Int)) → Stand p l e R2 s m #[(.ref a)] below meth c Tl Ll 0 0 → Tl.heap = h0 → Fr n0 Ll → IA Z h0 a n f → Goes p e s below (Q2 Z a n f h0 n0) n0 R2.cells R2.slots Tl (mkF m 2 #[.val (.ref a), .val (.int j)] []) := by
    intro k; induction k with
    | zero =>
      intro i j Tl Ll hik hj hf Xl El Nl Fl0
      refine g_iloadN Xl hx (hb hby d2_2) (v := j) rfl (pc' := 3) rfl ?_
      refine g_aloadN Xl hx (hb hby d2_3) (v := (.ref a)) rfl rfl (pc' := 4) rfl ?_
      refine g_lenIA Xl hx hZ El (z := (Int32.ofNat n)) Fl0 (i32_of_nat n Fp0.1) (hb hby d2_4) (pc' := 5) rfl ?_
      refine g_ii_ge Xl hx (a := (i : Int)) (b := (n : Int)) hj hn (hb hby d2_5) (by decide) (pc' := 23) (by decide) (pc2 := 8) rfl (fun c1 => ?_) (fun c1 => False.elim (by omega))
      refine g_iconst Xl hx (hb hby d2_23) (v := 1) (by decide) (pc' := 24) rfl ?_
      refine g_retZ Xl hx hlk (by decide) hret (hb hby d2_24) Nl (by decide) (by decide) ?_
      exact ⟨_, rfl, Or.inl ⟨fun y hy => hf y (by omega), rfl⟩, El⟩
    | succ k ih =>
      intro i j Tl Ll hik hj hf Xl El Nl Fl0
      refine g_iloadN Xl hx (hb hby d2_2) (v := j) rfl (pc' := 3) rfl ?_
      refine g_aloadN Xl hx (hb hby d2_3) (v := (.ref a)) rfl rfl (pc' := 4) rfl ?_
      refine g_lenIA Xl hx hZ El (z := (Int32.ofNat n)) Fl0 (i32_of_nat n Fp0.1) (hb hby d2_4) (pc' := 5) rfl ?_
      refine g_ii_ge Xl hx (a := (i : Int)) (b := (n : Int)) hj hn (hb hby d2_5) (by decide) (pc' := 23) (by decide) (pc2 := 8) rfl (fun c2 => False.elim (by omega)) (fun c2 => ?_)
      refine g_aloadN Xl hx (hb hby d2_8) (v := (.ref a)) rfl rfl (pc' := 9) rfl ?_
      refine g_iloadN Xl hx (hb hby d2_9) (v := j) rfl (pc' := 10) rfl ?_
      refine g_iaload Xl hx hZ El (k := i) Fl0 hj (by omega) (hb hby d2_10) (pc' := 11) rfl ?_
      refine g_iloadN Xl hx (hb hby d2_11) (v := j) rfl (pc' := 12) rfl ?_
      refine g_ii_ne Xl hx (a := (f i).toInt) (b := (i : Int)) rfl hj (hb hby d2_12) (by decide) (pc' := 17) (by decide) (pc2 := 15) rfl (fun hcc => ?_) (fun hcc => ?_)
      · have ad := c_iadd j 1; have l1 : (1 : Int32).toInt = 1 := rfl; have t1 := (j + 1).toInt_lt; have t2 := (j + 1).le_toInt; have t3 := (Int32.ofNat n).toInt_lt
        refine g_iinc Xl hx (hb hby d2_17) (v := 1) (by decide) (x := j) rfl (Ls' := #[.val (.ref a), .val (.int (j + (1 : Int32)))]) rfl (pc' := 20) rfl ?_
        refine g_goto Xl hx (hb hby d2_20) (by decide) (pc' := 2) (by decide) ?_
        exact ih (i + 1) (j + (1 : Int32)) _ _ (by omega) (by omega) (all_succ hf hcc) Xl El Nl Fl0
      · refine g_iconst Xl hx (hb hby d2_15) (v := 0) (by decide) (pc' := 16) rfl ?_
        refine g_retZ Xl hx hlk (by decide) hret (hb hby d2_16) Nl (by decide) (by decide) ?_
        exact ⟨_, rfl, Or.inr ⟨⟨i, by omega, hcc⟩, rfl⟩, El⟩
  exact loop n 0 (0 : Int32) _ _ (by omega) rfl (fun y hy => absurd hy (by omega)) X0 e0 N0 Fp0
theorem pn_2 : plainFor (⟨"com/example/lightloom/lightloom/sim/PermutationsFixesNoPointPinLaw", "law", "(IIIIII)Z"⟩ : MethodName) = true := by first | exact plainFor_of_name (by first | (simp [plainName, overriddenIn]; done) | decide +kernel) | decide +kernel
def Q0 (Z : State) (p0 : Int32) (p1 : Int32) (p2 : Int32) (p3 : Int32) (p4 : Int32) (p5 : Int32) (h0 : Heap) (n0 : Nat) (v : Option Value) (h : Heap) : Prop := v = some (.int 1)
set_option maxRecDepth 65536 in
set_option maxHeartbeats 40000000 in
theorem rm0 (l : Launch) (Z : State) (a0 : Array Value) (hw : ∀ d ∈ tables_1, d.before a0 Z = true) (ws : List Jvm.Cond) (p0 : Int32) (p1 : Int32) (p2 : Int32) (p3 : Int32) (p4 : Int32) (p5 : Int32) (h0 : Heap) (n0 : Nat) (Z0 : n0 ≤ h0.size)  :
    Con l x code maxLocals ret ws room_1 Z #[(.int p0), (.int p1), (.int p2), (.int p3), (.int p4), (.int p5)] h0 n0 (Q0 Z p0 p1 p2 p3 p4 p5 h0 n0) := by
  refine con_of (Ls0 := #[.val (.int p0), .val (.int p1), .val (.int p2), .val (.int p3), .val (.int p4), .val (.int p5), .unset, .unset, .unset, .unset, .unset, .unset, .unset, .unset, .unset, .unset]) pn_2 (fun m => by first | (simp [entryFrame, mkF, argsToLocals, Value.category, maxLocals]; done) | rfl) ?_
  intro p e s m below meth c s₁ X0 hx hby hml hZ hown hnm hret hlk e0 N0
  refine g_iloadN X0 hx (hb hby at_0) (v := p0) rfl (pc' := 1) rfl ?_
  refine g_ldc X0 hx hZ hown (hb hby at_1) (v := 2147483647) (hw _ (List.mem_of_getElem? (i := 0) rfl)) (pc' := 3) rfl ?_
  refine g_iand X0 hx (hb hby at_3) (pc' := 4) rfl ?_
  refine g_bipush X0 hx (hb hby at_4) (v := 6) (by decide) (pc' := 6) rfl ?_
  refine g_irem X0 hx (hb hby at_6) (by decide) (pc' := 7) rfl ?_
  refine g_istore X0 hx (hb hby at_7) (Ls' := #[.val (.int p0), .val (.int p1), .val (.int p2), .val (.int p3), .val (.int p4), .val (.int p5), .val (.int ((p0 &&& (2147483647 : Int32)) % (6 : Int32))), .unset, .unset, .unset, .unset, .unset, .unset, .unset, .unset, .unset]) rfl (pc' := 9) rfl ?_
  have m0 := c_mask p0 2147483647 31 (by decide) (by decide)
  have r0 := c_irem (p0 &&& (2147483647 : Int32)) 6 6 rfl
  have B0 : 0 ≤ (((p0 &&& (2147483647 : Int32)) % (6 : Int32))).toInt ∧ (((p0 &&& (2147483647 : Int32)) % (6 : Int32))).toInt < 6 := by omega
  generalize hg1 : ((p0 &&& (2147483647 : Int32)) % (6 : Int32)) = nn
  rw [hg1] at B0; clear hg1 m0 r0
  refine g_iloadN X0 hx (hb hby at_9) (v := p1) rfl (pc' := 10) rfl ?_
  refine g_static X0 hx hZ hown (hw _ (List.mem_of_getElem? (i := 1) rfl)) (hw _ (List.mem_of_getElem? (i := 2) rfl)) (hw _ (List.mem_of_getElem? (i := 3) rfl)) (hw _ (List.mem_of_getElem? (i := 4) rfl)) (by decide) (argsL := [(.int p1)]) (rm1 l Z a0 hw p1 h0 n0 Z0 ) rfl e0 (by rw [hml]; rfl) pd_0 rfl (rest := []) rfl (W := 0) (Nat.le_of_eq rfl) (by decide) (by decide) (by decide) (by decide) N0 (hb hby at_10) (pc' := 13) rfl (fun v2 T3 L4 X5 N6 q7 => ?_)
  obtain ⟨b8, rfl, K9⟩ := q7
  show Goes p e s below (Q0 Z p0 p1 p2 p3 p4 p5 h0 n0) n0 room_1.cells room_1.slots T3 (mkF m 13 #[.val (.int p0), .val (.int p1), .val (.int p2), .val (.int p3), .val (.int p4), .val (.int p5), .val (.int nn), .unset, .unset, .unset, .unset, .unset, .unset, .unset, .unset, .unset] [(.int b8)])
  refine g_istore X5 hx (hb hby at_13) (Ls' := #[.val (.int p0), .val (.int p1), .val (.int p2), .val (.int p3), .val (.int p4), .val (.int p5), .val (.int nn), .val (.int b8), .unset, .unset, .unset, .unset, .unset, .unset, .unset, .unset]) rfl (pc' := 15) rfl ?_
  refine g_iloadN X5 hx (hb hby at_15) (v := p2) rfl (pc' := 16) rfl ?_
  refine g_static X5 hx hZ hown (hw _ (List.mem_of_getElem? (i := 1) rfl)) (hw _ (List.mem_of_getElem? (i := 2) rfl)) (hw _ (List.mem_of_getElem? (i := 3) rfl)) (hw _ (List.mem_of_getElem? (i := 4) rfl)) (by decide) (argsL := [(.int p2)]) (rm1 l Z a0 hw p2 h0 n0 Z0 ) rfl K9 (by rw [hml]; rfl) pd_0 rfl (rest := []) rfl (W := 0) (Nat.le_of_eq rfl) (by decide) (by decide) (by decide) (by decide) N6 (hb hby at_16) (pc' := 19) rfl (fun v10 T11 L12 X13 N14 q15 => ?_)
  obtain ⟨b16, rfl, K17⟩ := q15
  show Goes p e s below (Q0 Z p0 p1 p2 p3 p4 p5 h0 n0) n0 room_1.cells room_1.slots T11 (mkF m 19 #[.val (.int p0), .val (.int p1), .val (.int p2), .val (.int p3), .val (.int p4), .val (.int p5), .val (.int nn), .val (.int b8), .unset, .unset, .unset, .unset, .unset, .unset, .unset, .unset] [(.int b16)])
  refine g_istore X13 hx (hb hby at_19) (Ls' := #[.val (.int p0), .val (.int p1), .val (.int p2), .val (.int p3), .val (.int p4), .val (.int p5), .val (.int nn), .val (.int b8), .val (.int b16), .unset, .unset, .unset, .unset, .unset, .unset, .unset]) rfl (pc' := 21) rfl ?_
  refine g_iloadN X13 hx (hb hby at_21) (v := p3) rfl (pc' := 22) rfl ?_
  refine g_static X13 hx hZ hown (hw _ (List.mem_of_getElem? (i := 1) rfl)) (hw _ (List.mem_of_getElem? (i := 2) rfl)) (hw _ (List.mem_of_getElem? (i := 3) rfl)) (hw _ (List.mem_of_getElem? (i := 4) rfl)) (by decide) (argsL := [(.int p3)]) (rm1 l Z a0 hw p3 h0 n0 Z0 ) rfl K17 (by rw [hml]; rfl) pd_0 rfl (rest := []) rfl (W := 0) (Nat.le_of_eq rfl) (by decide) (by decide) (by decide) (by decide) N14 (hb hby at_22) (pc' := 25) rfl (fun v18 T19 L20 X21 N22 q23 => ?_)
  obtain ⟨b24, rfl, K25⟩ := q23
  show Goes p e s below (Q0 Z p0 p1 p2 p3 p4 p5 h0 n0) n0 room_1.cells room_1.slots T19 (mkF m 25 #[.val (.int p0), .val (.int p1), .val (.int p2), .val (.int p3), .val (.int p4), .val (.int p5), .val (.int nn), .val (.int b8), .val (.int b16), .unset, .unset, .unset, .unset, .unset, .unset, .unset] [(.int b24)])
  refine g_istore X21 hx (hb hby at_25) (Ls' := #[.val (.int p0), .val (.int p1), .val (.int p2), .val (.int p3), .val (.int p4), .val (.int p5), .val (.int nn), .val (.int b8), .val (.int b16), .val (.int b24), .unset, .unset, .unset, .unset, .unset, .unset]) rfl (pc' := 27) rfl ?_
  refine g_iload X21 hx (hb hby at_27) (v := p4) rfl (pc' := 29) rfl ?_
  refine g_static X21 hx hZ hown (hw _ (List.mem_of_getElem? (i := 1) rfl)) (hw _ (List.mem_of_getElem? (i := 2) rfl)) (hw _ (List.mem_of_getElem? (i := 3) rfl)) (hw _ (List.mem_of_getElem? (i := 4) rfl)) (by decide) (argsL := [(.int p4)]) (rm1 l Z a0 hw p4 h0 n0 Z0 ) rfl K25 (by rw [hml]; rfl) pd_0 rfl (rest := []) rfl (W := 0) (Nat.le_of_eq rfl) (by decide) (by decide) (by decide) (by decide) N22 (hb hby at_29) (pc' := 32) rfl (fun v26 T27 L28 X29 N30 q31 => ?_)
  obtain ⟨b32, rfl, K33⟩ := q31
  show Goes p e s below (Q0 Z p0 p1 p2 p3 p4 p5 h0 n0) n0 room_1.cells room_1.slots T27 (mkF m 32 #[.val (.int p0), .val (.int p1), .val (.int p2), .val (.int p3), .val (.int p4), .val (.int p5), .val (.int nn), .val (.int b8), .val (.int b16), .val (.int b24), .unset, .unset, .unset, .unset, .unset, .unset] [(.int b32)])
  refine g_istore X29 hx (hb hby at_32) (Ls' := #[.val (.int p0), .val (.int p1), .val (.int p2), .val (.int p3), .val (.int p4), .val (.int p5), .val (.int nn), .val (.int b8), .val (.int b16), .val (.int b24), .val (.int b32), .unset, .unset, .unset, .unset, .unset]) rfl (pc' := 34) rfl ?_
  refine g_iload X29 hx (hb hby at_34) (v := p5) rfl (pc' := 36) rfl ?_
  refine g_static X29 hx hZ hown (hw _ (List.mem_of_getElem? (i := 1) rfl)) (hw _ (List.mem_of_getElem? (i := 2) rfl)) (hw _ (List.mem_of_getElem? (i := 3) rfl)) (hw _ (List.mem_of_getElem? (i := 4) rfl)) (by decide) (argsL := [(.int p5)]) (rm1 l Z a0 hw p5 h0 n0 Z0 ) rfl K33 (by rw [hml]; rfl) pd_0 rfl (rest := []) rfl (W := 0) (Nat.le_of_eq rfl) (by decide) (by decide) (by decide) (by decide) N30 (hb hby at_36) (pc' := 39) rfl (fun v34 T35 L36 X37 N38 q39 => ?_)
  obtain ⟨b40, rfl, K41⟩ := q39
  show Goes p e s below (Q0 Z p0 p1 p2 p3 p4 p5 h0 n0) n0 room_1.cells room_1.slots T35 (mkF m 39 #[.val (.int p0), .val (.int p1), .val (.int p2), .val (.int p3), .val (.int p4), .val (.int p5), .val (.int nn), .val (.int b8), .val (.int b16), .val (.int b24), .val (.int b32), .unset, .unset, .unset, .unset, .unset] [(.int b40)])
  refine g_istore X37 hx (hb hby at_39) (Ls' := #[.val (.int p0), .val (.int p1), .val (.int p2), .val (.int p3), .val (.int p4), .val (.int p5), .val (.int nn), .val (.int b8), .val (.int b16), .val (.int b24), .val (.int b32), .val (.int b40), .unset, .unset, .unset, .unset]) rfl (pc' := 41) rfl ?_
  have hcase : nn = 0 ∨ nn = 1 ∨ nn = 2 ∨ nn = 3 ∨ nn = 4 ∨ nn = 5 := by
    have e0 : (0 : Int32).toInt = 0 := rfl; have e1 : (1 : Int32).toInt = 1 := rfl; have e2 : (2 : Int32).toInt = 2 := rfl; have e3 : (3 : Int32).toInt = 3 := rfl; have e4 : (4 : Int32).toInt = 4 := rfl; have e5 : (5 : Int32).toInt = 5 := rfl
    simp only [← Int32.toInt_inj]; omega
  rcases hcase with rfl | rfl | rfl | rfl | rfl | rfl
  · show Goes p e s below (Q0 Z p0 p1 p2 p3 p4 p5 h0 n0) n0 room_1.cells room_1.slots T35 (mkF m 41 #[.val (.int p0), .val (.int p1), .val (.int p2), .val (.int p3), .val (.int p4), .val (.int p5), .val (.int (0 : Int32)), .val (.int b8), .val (.int b16), .val (.int b24), .val (.int b32), .val (.int b40), .unset, .unset, .unset, .unset] [])
    refine g_iload X37 hx (hb hby at_41) (v := (0 : Int32)) rfl (pc' := 43) rfl ?_
    refine g_newIA X37 hx hZ (hw _ (List.mem_of_getElem? (i := 5) rfl)) K41 (n := 0) rfl (cap := 0) (by decide) (by decide) (hb hby at_43) (by decide) (by decide) (pc' := 45) rfl (fun T42 h43 a44 g45 X46 e47 E48 l49 A50  => ?_)
    have Z51 : n0 ≤ h43.size := Nat.le_trans Z0 E48.1
    have nl52 : n0 ≤ a44 := by rw [g45]; exact Z0
    refine g_astore X46 hx (hb hby at_45) rfl (Ls' := #[.val (.int p0), .val (.int p1), .val (.int p2), .val (.int p3), .val (.int p4), .val (.int p5), .val (.int (0 : Int32)), .val (.int b8), .val (.int b16), .val (.int b24), .val (.int b32), .val (.int b40), .val (.ref a44), .unset, .unset, .unset]) rfl (pc' := 47) rfl ?_
    refine g_iload X46 hx (hb hby at_47) (v := (0 : Int32)) rfl (pc' := 49) rfl ?_
    refine g_i0_le X46 hx (a := 0) rfl (hb hby at_49) (by decide) (pc' := 58) (by decide) (pc2 := 52) rfl (fun c53 => ?_) (fun c53 => False.elim (by omega))
    refine g_iload X46 hx (hb hby at_58) (v := (0 : Int32)) rfl (pc' := 60) rfl ?_
    refine g_iconst X46 hx (hb hby at_60) (v := 1) (by decide) (pc' := 61) rfl ?_
    refine g_ii_le X46 hx (a := 0) (b := 1) rfl rfl (hb hby at_61) (by decide) (pc' := 70) (by decide) (pc2 := 64) rfl (fun c54 => ?_) (fun c54 => False.elim (by omega))
    refine g_iload X46 hx (hb hby at_70) (v := (0 : Int32)) rfl (pc' := 72) rfl ?_
    refine g_iconst X46 hx (hb hby at_72) (v := 2) (by decide) (pc' := 73) rfl ?_
    refine g_ii_le X46 hx (a := 0) (b := 2) rfl rfl (hb hby at_73) (by decide) (pc' := 82) (by decide) (pc2 := 76) rfl (fun c55 => ?_) (fun c55 => False.elim (by omega))
    refine g_iload X46 hx (hb hby at_82) (v := (0 : Int32)) rfl (pc' := 84) rfl ?_
    refine g_iconst X46 hx (hb hby at_84) (v := 3) (by decide) (pc' := 85) rfl ?_
    refine g_ii_le X46 hx (a := 0) (b := 3) rfl rfl (hb hby at_85) (by decide) (pc' := 94) (by decide) (pc2 := 88) rfl (fun c56 => ?_) (fun c56 => False.elim (by omega))
    refine g_iload X46 hx (hb hby at_94) (v := (0 : Int32)) rfl (pc' := 96) rfl ?_
    refine g_iconst X46 hx (hb hby at_96) (v := 4) (by decide) (pc' := 97) rfl ?_
    refine g_ii_le X46 hx (a := 0) (b := 4) rfl rfl (hb hby at_97) (by decide) (pc' := 106) (by decide) (pc2 := 100) rfl (fun c57 => ?_) (fun c57 => False.elim (by omega))
    have J58 : ∀ (fxd : Int32), (((1 : Int) = 0) ∧ fxd.toInt = 1 ∨ ¬ ((1 : Int) = 0) ∧ fxd.toInt = 0) → Goes p e s below (Q0 Z p0 p1 p2 p3 p4 p5 h0 n0) n0 room_1.cells room_1.slots T42 (mkF m 169 #[.val (.int p0), .val (.int p1), .val (.int p2), .val (.int p3), .val (.int p4), .val (.int p5), .val (.int (0 : Int32)), .val (.int b8), .val (.int b16), .val (.int b24), .val (.int b32), .val (.int b40), .val (.ref a44), .unset, .unset, .unset] [(.int fxd)]) := by
      intro fxd j59
      refine g_istore X46 hx (hb hby at_169) (Ls' := #[.val (.int p0), .val (.int p1), .val (.int p2), .val (.int p3), .val (.int p4), .val (.int p5), .val (.int (0 : Int32)), .val (.int b8), .val (.int b16), .val (.int b24), .val (.int b32), .val (.int b40), .val (.ref a44), .val (.int fxd), .unset, .unset]) rfl (pc' := 171) rfl ?_
      refine g_aload X46 hx (hb hby at_171) (v := (.ref a44)) rfl rfl (pc' := 173) rfl ?_
      refine g_static X46 hx hZ hown (hw _ (List.mem_of_getElem? (i := 6) rfl)) (hw _ (List.mem_of_getElem? (i := 7) rfl)) (hw _ (List.mem_of_getElem? (i := 8) rfl)) (hw _ (List.mem_of_getElem? (i := 9) rfl)) (by decide) (argsL := [(.ref a44)]) (rm2 l Z a0 hw a44 0 zeroI h43 n0 Z51 A50) rfl e47 (by rw [hml]; rfl) pd_1 rfl (rest := []) rfl (W := 0) (Nat.le_of_eq rfl) (by decide) (by decide) (by decide) (by decide) N38 (hb hby at_173) (pc' := 176) rfl (fun v60 T61 L62 X63 N64 q65 => ?_)
      obtain ⟨b66, rfl, f67, K68⟩ := q65
      show Goes p e s below (Q0 Z p0 p1 p2 p3 p4 p5 h0 n0) n0 room_1.cells room_1.slots T61 (mkF m 176 #[.val (.int p0), .val (.int p1), .val (.int p2), .val (.int p3), .val (.int p4), .val (.int p5), .val (.int (0 : Int32)), .val (.int b8), .val (.int b16), .val (.int b24), .val (.int b32), .val (.int b40), .val (.ref a44), .val (.int fxd), .unset, .unset] [(.int b66)])
      refine g_istore X63 hx (hb hby at_176) (Ls' := #[.val (.int p0), .val (.int p1), .val (.int p2), .val (.int p3), .val (.int p4), .val (.int p5), .val (.int (0 : Int32)), .val (.int b8), .val (.int b16), .val (.int b24), .val (.int b32), .val (.int b40), .val (.ref a44), .val (.int fxd), .val (.int b66), .unset]) rfl (pc' := 178) rfl ?_
      have G : ((1 : Int) = 0) ∧ b66.toInt = 0 ∨ ¬ ((1 : Int) = 0) ∧ b66.toInt = 1 := by
        rcases f67 with ⟨q, hb1⟩ | ⟨⟨i, hi, he⟩, hb1⟩
        · refine Or.inr ⟨?_, hb1⟩
          omega
        · exact absurd hi (by omega)
      clear f67
      refine g_iload X63 hx (hb hby at_178) (v := (0 : Int32)) rfl (pc' := 180) rfl ?_
      refine g_i0_le X63 hx (a := 0) rfl (hb hby at_180) (by decide) (pc' := 192) (by decide) (pc2 := 183) rfl (fun c69 => ?_) (fun c69 => False.elim (by omega))
      refine g_iload X63 hx (hb hby at_192) (v := (0 : Int32)) rfl (pc' := 194) rfl ?_
      refine g_iconst X63 hx (hb hby at_194) (v := 1) (by decide) (pc' := 195) rfl ?_
      refine g_ii_le X63 hx (a := 0) (b := 1) rfl rfl (hb hby at_195) (by decide) (pc' := 207) (by decide) (pc2 := 198) rfl (fun c70 => ?_) (fun c70 => False.elim (by omega))
      refine g_iload X63 hx (hb hby at_207) (v := (0 : Int32)) rfl (pc' := 209) rfl ?_
      refine g_iconst X63 hx (hb hby at_209) (v := 2) (by decide) (pc' := 210) rfl ?_
      refine g_ii_le X63 hx (a := 0) (b := 2) rfl rfl (hb hby at_210) (by decide) (pc' := 222) (by decide) (pc2 := 213) rfl (fun c71 => ?_) (fun c71 => False.elim (by omega))
      refine g_iload X63 hx (hb hby at_222) (v := (0 : Int32)) rfl (pc' := 224) rfl ?_
      refine g_iconst X63 hx (hb hby at_224) (v := 3) (by decide) (pc' := 225) rfl ?_
      refine g_ii_le X63 hx (a := 0) (b := 3) rfl rfl (hb hby at_225) (by decide) (pc' := 237) (by decide) (pc2 := 228) rfl (fun c72 => ?_) (fun c72 => False.elim (by omega))
      refine g_iload X63 hx (hb hby at_237) (v := (0 : Int32)) rfl (pc' := 239) rfl ?_
      refine g_iconst X63 hx (hb hby at_239) (v := 4) (by decide) (pc' := 240) rfl ?_
      refine g_ii_le X63 hx (a := 0) (b := 4) rfl rfl (hb hby at_240) (by decide) (pc' := 252) (by decide) (pc2 := 243) rfl (fun c73 => ?_) (fun c73 => False.elim (by omega))
      refine g_iconst X63 hx (hb hby at_252) (v := 1) (by decide) (pc' := 253) rfl ?_
      refine g_goto X63 hx (hb hby at_253) (by decide) (pc' := 257) (by decide) ?_
      refine g_istore X63 hx (hb hby at_257) (Ls' := #[.val (.int p0), .val (.int p1), .val (.int p2), .val (.int p3), .val (.int p4), .val (.int p5), .val (.int (0 : Int32)), .val (.int b8), .val (.int b16), .val (.int b24), .val (.int b32), .val (.int b40), .val (.ref a44), .val (.int fxd), .val (.int b66), .val (.int (1 : Int32))]) rfl (pc' := 259) rfl ?_
      refine g_iload X63 hx (hb hby at_259) (v := b66) rfl (pc' := 261) rfl ?_
      refine g_iload X63 hx (hb hby at_261) (v := fxd) rfl (pc' := 263) rfl ?_
      refine g_i0_ne X63 hx (a := fxd.toInt) rfl (hb hby at_263) (by decide) (pc' := 270) (by decide) (pc2 := 266) rfl (fun c74 => ?_) (fun c74 => ?_)
      · refine g_iconst X63 hx (hb hby at_270) (v := 0) (by decide) (pc' := 271) rfl ?_
        refine g_ii_ne X63 hx (a := b66.toInt) (b := 0) rfl rfl (hb hby at_271) (by decide) (pc' := 283) (by decide) (pc2 := 274) rfl (fun c75 => False.elim (by omega)) (fun c75 => ?_)
        refine g_iload X63 hx (hb hby at_274) (v := (1 : Int32)) rfl (pc' := 276) rfl ?_
        refine g_i0_eq X63 hx (a := 1) rfl (hb hby at_276) (by decide) (pc' := 283) (by decide) (pc2 := 279) rfl (fun c76 => False.elim (by omega)) (fun c76 => ?_)
        refine g_iconst X63 hx (hb hby at_279) (v := 1) (by decide) (pc' := 280) rfl ?_
        refine g_goto X63 hx (hb hby at_280) (by decide) (pc' := 284) (by decide) ?_
        refine g_retZ X63 hx hlk (by decide) hret (hb hby at_284) N64 (by decide) (by decide) ?_
        exact rfl
      · refine g_iconst X63 hx (hb hby at_266) (v := 1) (by decide) (pc' := 267) rfl ?_
        refine g_goto X63 hx (hb hby at_267) (by decide) (pc' := 271) (by decide) ?_
        refine g_ii_ne X63 hx (a := b66.toInt) (b := 1) rfl rfl (hb hby at_271) (by decide) (pc' := 283) (by decide) (pc2 := 274) rfl (fun c77 => False.elim (by omega)) (fun c77 => ?_)
        refine g_iload X63 hx (hb hby at_274) (v := (1 : Int32)) rfl (pc' := 276) rfl ?_
        refine g_i0_eq X63 hx (a := 1) rfl (hb hby at_276) (by decide) (pc' := 283) (by decide) (pc2 := 279) rfl (fun c78 => False.elim (by omega)) (fun c78 => ?_)
        refine g_iconst X63 hx (hb hby at_279) (v := 1) (by decide) (pc' := 280) rfl ?_
        refine g_goto X63 hx (hb hby at_280) (by decide) (pc' := 284) (by decide) ?_
        refine g_retZ X63 hx hlk (by decide) hret (hb hby at_284) N64 (by decide) (by decide) ?_
        exact rfl
    refine g_iload X46 hx (hb hby at_106) (v := (0 : Int32)) rfl (pc' := 108) rfl ?_
    refine g_i0_le X46 hx (a := 0) rfl (hb hby at_108) (by decide) (pc' := 116) (by decide) (pc2 := 111) rfl (fun c79 => ?_) (fun c79 => False.elim (by omega))
    refine g_iload X46 hx (hb hby at_116) (v := (0 : Int32)) rfl (pc' := 118) rfl ?_
    refine g_iconst X46 hx (hb hby at_118) (v := 1) (by decide) (pc' := 119) rfl ?_
    refine g_ii_le X46 hx (a := 0) (b := 1) rfl rfl (hb hby at_119) (by decide) (pc' := 128) (by decide) (pc2 := 122) rfl (fun c80 => ?_) (fun c80 => False.elim (by omega))
    refine g_iload X46 hx (hb hby at_128) (v := (0 : Int32)) rfl (pc' := 130) rfl ?_
    refine g_iconst X46 hx (hb hby at_130) (v := 2) (by decide) (pc' := 131) rfl ?_
    refine g_ii_le X46 hx (a := 0) (b := 2) rfl rfl (hb hby at_131) (by decide) (pc' := 140) (by decide) (pc2 := 134) rfl (fun c81 => ?_) (fun c81 => False.elim (by omega))
    refine g_iload X46 hx (hb hby at_140) (v := (0 : Int32)) rfl (pc' := 142) rfl ?_
    refine g_iconst X46 hx (hb hby at_142) (v := 3) (by decide) (pc' := 143) rfl ?_
    refine g_ii_le X46 hx (a := 0) (b := 3) rfl rfl (hb hby at_143) (by decide) (pc' := 152) (by decide) (pc2 := 146) rfl (fun c82 => ?_) (fun c82 => False.elim (by omega))
    refine g_iload X46 hx (hb hby at_152) (v := (0 : Int32)) rfl (pc' := 154) rfl ?_
    refine g_iconst X46 hx (hb hby at_154) (v := 4) (by decide) (pc' := 155) rfl ?_
    refine g_ii_le X46 hx (a := 0) (b := 4) rfl rfl (hb hby at_155) (by decide) (pc' := 168) (by decide) (pc2 := 158) rfl (fun c83 => ?_) (fun c83 => False.elim (by omega))
    refine g_iconst X46 hx (hb hby at_168) (v := 0) (by decide) (pc' := 169) rfl ?_
    exact J58 _ (by first | exact Or.inl ⟨by omega, rfl⟩ | exact Or.inr ⟨by omega, rfl⟩)
  · show Goes p e s below (Q0 Z p0 p1 p2 p3 p4 p5 h0 n0) n0 room_1.cells room_1.slots T35 (mkF m 41 #[.val (.int p0), .val (.int p1), .val (.int p2), .val (.int p3), .val (.int p4), .val (.int p5), .val (.int (1 : Int32)), .val (.int b8), .val (.int b16), .val (.int b24), .val (.int b32), .val (.int b40), .unset, .unset, .unset, .unset] [])
    refine g_iload X37 hx (hb hby at_41) (v := (1 : Int32)) rfl (pc' := 43) rfl ?_
    refine g_newIA X37 hx hZ (hw _ (List.mem_of_getElem? (i := 5) rfl)) K41 (n := 1) rfl (cap := 1) (by decide) (by decide) (hb hby at_43) (by decide) (by decide) (pc' := 45) rfl (fun T84 h85 a86 g87 X88 e89 E90 l91 A92  => ?_)
    have Z93 : n0 ≤ h85.size := Nat.le_trans Z0 E90.1
    have nl94 : n0 ≤ a86 := by rw [g87]; exact Z0
    refine g_astore X88 hx (hb hby at_45) rfl (Ls' := #[.val (.int p0), .val (.int p1), .val (.int p2), .val (.int p3), .val (.int p4), .val (.int p5), .val (.int (1 : Int32)), .val (.int b8), .val (.int b16), .val (.int b24), .val (.int b32), .val (.int b40), .val (.ref a86), .unset, .unset, .unset]) rfl (pc' := 47) rfl ?_
    refine g_iload X88 hx (hb hby at_47) (v := (1 : Int32)) rfl (pc' := 49) rfl ?_
    refine g_i0_le X88 hx (a := 1) rfl (hb hby at_49) (by decide) (pc' := 58) (by decide) (pc2 := 52) rfl (fun c95 => False.elim (by omega)) (fun c95 => ?_)
    refine g_aload X88 hx (hb hby at_52) (v := (.ref a86)) rfl rfl (pc' := 54) rfl ?_
    refine g_iconst X88 hx (hb hby at_54) (v := 0) (by decide) (pc' := 55) rfl ?_
    refine g_iload X88 hx (hb hby at_55) (v := b8) rfl (pc' := 57) rfl ?_
    refine g_iastore X88 hx hZ e89 (k := 0) (x := b8) A92 rfl (by decide) N38 nl94 (hb hby at_57) (pc' := 58) rfl (fun T96 h97 L98 X99 e100 W101 N102 A103 => ?_)
    have Z104 : n0 ≤ h97.size := by rw [W101.size]; exact Z93
    refine g_iload X99 hx (hb hby at_58) (v := (1 : Int32)) rfl (pc' := 60) rfl ?_
    refine g_iconst X99 hx (hb hby at_60) (v := 1) (by decide) (pc' := 61) rfl ?_
    refine g_ii_le X99 hx (a := 1) (b := 1) rfl rfl (hb hby at_61) (by decide) (pc' := 70) (by decide) (pc2 := 64) rfl (fun c106 => ?_) (fun c106 => False.elim (by omega))
    refine g_iload X99 hx (hb hby at_70) (v := (1 : Int32)) rfl (pc' := 72) rfl ?_
    refine g_iconst X99 hx (hb hby at_72) (v := 2) (by decide) (pc' := 73) rfl ?_
    refine g_ii_le X99 hx (a := 1) (b := 2) rfl rfl (hb hby at_73) (by decide) (pc' := 82) (by decide) (pc2 := 76) rfl (fun c107 => ?_) (fun c107 => False.elim (by omega))
    refine g_iload X99 hx (hb hby at_82) (v := (1 : Int32)) rfl (pc' := 84) rfl ?_
    refine g_iconst X99 hx (hb hby at_84) (v := 3) (by decide) (pc' := 85) rfl ?_
    refine g_ii_le X99 hx (a := 1) (b := 3) rfl rfl (hb hby at_85) (by decide) (pc' := 94) (by decide) (pc2 := 88) rfl (fun c108 => ?_) (fun c108 => False.elim (by omega))
    refine g_iload X99 hx (hb hby at_94) (v := (1 : Int32)) rfl (pc' := 96) rfl ?_
    refine g_iconst X99 hx (hb hby at_96) (v := 4) (by decide) (pc' := 97) rfl ?_
    refine g_ii_le X99 hx (a := 1) (b := 4) rfl rfl (hb hby at_97) (by decide) (pc' := 106) (by decide) (pc2 := 100) rfl (fun c109 => ?_) (fun c109 => False.elim (by omega))
    have J110 : ∀ (fxd : Int32), ((b8.toInt = 0) ∧ fxd.toInt = 1 ∨ ¬ (b8.toInt = 0) ∧ fxd.toInt = 0) → Goes p e s below (Q0 Z p0 p1 p2 p3 p4 p5 h0 n0) n0 room_1.cells room_1.slots T96 (mkF m 169 #[.val (.int p0), .val (.int p1), .val (.int p2), .val (.int p3), .val (.int p4), .val (.int p5), .val (.int (1 : Int32)), .val (.int b8), .val (.int b16), .val (.int b24), .val (.int b32), .val (.int b40), .val (.ref a86), .unset, .unset, .unset] [(.int fxd)]) := by
      intro fxd j111
      refine g_istore X99 hx (hb hby at_169) (Ls' := #[.val (.int p0), .val (.int p1), .val (.int p2), .val (.int p3), .val (.int p4), .val (.int p5), .val (.int (1 : Int32)), .val (.int b8), .val (.int b16), .val (.int b24), .val (.int b32), .val (.int b40), .val (.ref a86), .val (.int fxd), .unset, .unset]) rfl (pc' := 171) rfl ?_
      refine g_aload X99 hx (hb hby at_171) (v := (.ref a86)) rfl rfl (pc' := 173) rfl ?_
      refine g_static X99 hx hZ hown (hw _ (List.mem_of_getElem? (i := 6) rfl)) (hw _ (List.mem_of_getElem? (i := 7) rfl)) (hw _ (List.mem_of_getElem? (i := 8) rfl)) (hw _ (List.mem_of_getElem? (i := 9) rfl)) (by decide) (argsL := [(.ref a86)]) (rm2 l Z a0 hw a86 1 (oupd zeroI 0 b8) h97 n0 Z104 A103) rfl e100 (by rw [hml]; rfl) pd_1 rfl (rest := []) rfl (W := 0) (Nat.le_of_eq rfl) (by decide) (by decide) (by decide) (by decide) N102 (hb hby at_173) (pc' := 176) rfl (fun v112 T113 L114 X115 N116 q117 => ?_)
      obtain ⟨b118, rfl, f119, K120⟩ := q117
      show Goes p e s below (Q0 Z p0 p1 p2 p3 p4 p5 h0 n0) n0 room_1.cells room_1.slots T113 (mkF m 176 #[.val (.int p0), .val (.int p1), .val (.int p2), .val (.int p3), .val (.int p4), .val (.int p5), .val (.int (1 : Int32)), .val (.int b8), .val (.int b16), .val (.int b24), .val (.int b32), .val (.int b40), .val (.ref a86), .val (.int fxd), .unset, .unset] [(.int b118)])
      refine g_istore X115 hx (hb hby at_176) (Ls' := #[.val (.int p0), .val (.int p1), .val (.int p2), .val (.int p3), .val (.int p4), .val (.int p5), .val (.int (1 : Int32)), .val (.int b8), .val (.int b16), .val (.int b24), .val (.int b32), .val (.int b40), .val (.ref a86), .val (.int fxd), .val (.int b118), .unset]) rfl (pc' := 178) rfl ?_
      have G : (b8.toInt = 0) ∧ b118.toInt = 0 ∨ ¬ (b8.toInt = 0) ∧ b118.toInt = 1 := by
        have e0 : ((oupd zeroI 0 b8) 0).toInt = b8.toInt := rfl
        rcases f119 with ⟨q, hb1⟩ | ⟨⟨i, hi, he⟩, hb1⟩
        · refine Or.inr ⟨?_, hb1⟩
          have q0 := q 0 (by omega); rw [e0] at q0
          omega
        · refine Or.inl ⟨?_, hb1⟩
          have hi2 : i = 0 := by omega
          rcases hi2 with rfl <;> omega
      clear f119
      refine g_iload X115 hx (hb hby at_178) (v := (1 : Int32)) rfl (pc' := 180) rfl ?_
      refine g_i0_le X115 hx (a := 1) rfl (hb hby at_180) (by decide) (pc' := 192) (by decide) (pc2 := 183) rfl (fun c121 => False.elim (by omega)) (fun c121 => ?_)
      refine g_aload X115 hx (hb hby at_183) (v := (.ref a86)) rfl rfl (pc' := 185) rfl ?_
      refine g_iconst X115 hx (hb hby at_185) (v := 0) (by decide) (pc' := 186) rfl ?_
      refine g_iaload X115 hx hZ K120 (k := 0) A103 rfl (by decide) (hb hby at_186) (pc' := 187) rfl ?_
      show Goes p e s below (Q0 Z p0 p1 p2 p3 p4 p5 h0 n0) n0 room_1.cells room_1.slots T113 (mkF m 187 #[.val (.int p0), .val (.int p1), .val (.int p2), .val (.int p3), .val (.int p4), .val (.int p5), .val (.int (1 : Int32)), .val (.int b8), .val (.int b16), .val (.int b24), .val (.int b32), .val (.int b40), .val (.ref a86), .val (.int fxd), .val (.int b118), .unset] [(.int b8)])
      refine g_iload X115 hx (hb hby at_187) (v := b8) rfl (pc' := 189) rfl ?_
      refine g_ii_ne X115 hx (a := b8.toInt) (b := b8.toInt) rfl rfl (hb hby at_189) (by decide) (pc' := 256) (by decide) (pc2 := 192) rfl (fun c122 => False.elim (by omega)) (fun c122 => ?_)
      refine g_iload X115 hx (hb hby at_192) (v := (1 : Int32)) rfl (pc' := 194) rfl ?_
      refine g_iconst X115 hx (hb hby at_194) (v := 1) (by decide) (pc' := 195) rfl ?_
      refine g_ii_le X115 hx (a := 1) (b := 1) rfl rfl (hb hby at_195) (by decide) (pc' := 207) (by decide) (pc2 := 198) rfl (fun c123 => ?_) (fun c123 => False.elim (by omega))
      refine g_iload X115 hx (hb hby at_207) (v := (1 : Int32)) rfl (pc' := 209) rfl ?_
      refine g_iconst X115 hx (hb hby at_209) (v := 2) (by decide) (pc' := 210) rfl ?_
      refine g_ii_le X115 hx (a := 1) (b := 2) rfl rfl (hb hby at_210) (by decide) (pc' := 222) (by decide) (pc2 := 213) rfl (fun c124 => ?_) (fun c124 => False.elim (by omega))
      refine g_iload X115 hx (hb hby at_222) (v := (1 : Int32)) rfl (pc' := 224) rfl ?_
      refine g_iconst X115 hx (hb hby at_224) (v := 3) (by decide) (pc' := 225) rfl ?_
      refine g_ii_le X115 hx (a := 1) (b := 3) rfl rfl (hb hby at_225) (by decide) (pc' := 237) (by decide) (pc2 := 228) rfl (fun c125 => ?_) (fun c125 => False.elim (by omega))
      refine g_iload X115 hx (hb hby at_237) (v := (1 : Int32)) rfl (pc' := 239) rfl ?_
      refine g_iconst X115 hx (hb hby at_239) (v := 4) (by decide) (pc' := 240) rfl ?_
      refine g_ii_le X115 hx (a := 1) (b := 4) rfl rfl (hb hby at_240) (by decide) (pc' := 252) (by decide) (pc2 := 243) rfl (fun c126 => ?_) (fun c126 => False.elim (by omega))
      refine g_iconst X115 hx (hb hby at_252) (v := 1) (by decide) (pc' := 253) rfl ?_
      refine g_goto X115 hx (hb hby at_253) (by decide) (pc' := 257) (by decide) ?_
      refine g_istore X115 hx (hb hby at_257) (Ls' := #[.val (.int p0), .val (.int p1), .val (.int p2), .val (.int p3), .val (.int p4), .val (.int p5), .val (.int (1 : Int32)), .val (.int b8), .val (.int b16), .val (.int b24), .val (.int b32), .val (.int b40), .val (.ref a86), .val (.int fxd), .val (.int b118), .val (.int (1 : Int32))]) rfl (pc' := 259) rfl ?_
      refine g_iload X115 hx (hb hby at_259) (v := b118) rfl (pc' := 261) rfl ?_
      refine g_iload X115 hx (hb hby at_261) (v := fxd) rfl (pc' := 263) rfl ?_
      refine g_i0_ne X115 hx (a := fxd.toInt) rfl (hb hby at_263) (by decide) (pc' := 270) (by decide) (pc2 := 266) rfl (fun c127 => ?_) (fun c127 => ?_)
      · refine g_iconst X115 hx (hb hby at_270) (v := 0) (by decide) (pc' := 271) rfl ?_
        refine g_ii_ne X115 hx (a := b118.toInt) (b := 0) rfl rfl (hb hby at_271) (by decide) (pc' := 283) (by decide) (pc2 := 274) rfl (fun c128 => False.elim (by omega)) (fun c128 => ?_)
        refine g_iload X115 hx (hb hby at_274) (v := (1 : Int32)) rfl (pc' := 276) rfl ?_
        refine g_i0_eq X115 hx (a := 1) rfl (hb hby at_276) (by decide) (pc' := 283) (by decide) (pc2 := 279) rfl (fun c129 => False.elim (by omega)) (fun c129 => ?_)
        refine g_iconst X115 hx (hb hby at_279) (v := 1) (by decide) (pc' := 280) rfl ?_
        refine g_goto X115 hx (hb hby at_280) (by decide) (pc' := 284) (by decide) ?_
        refine g_retZ X115 hx hlk (by decide) hret (hb hby at_284) N116 (by decide) (by decide) ?_
        exact rfl
      · refine g_iconst X115 hx (hb hby at_266) (v := 1) (by decide) (pc' := 267) rfl ?_
        refine g_goto X115 hx (hb hby at_267) (by decide) (pc' := 271) (by decide) ?_
        refine g_ii_ne X115 hx (a := b118.toInt) (b := 1) rfl rfl (hb hby at_271) (by decide) (pc' := 283) (by decide) (pc2 := 274) rfl (fun c130 => False.elim (by omega)) (fun c130 => ?_)
        refine g_iload X115 hx (hb hby at_274) (v := (1 : Int32)) rfl (pc' := 276) rfl ?_
        refine g_i0_eq X115 hx (a := 1) rfl (hb hby at_276) (by decide) (pc' := 283) (by decide) (pc2 := 279) rfl (fun c131 => False.elim (by omega)) (fun c131 => ?_)
        refine g_iconst X115 hx (hb hby at_279) (v := 1) (by decide) (pc' := 280) rfl ?_
        refine g_goto X115 hx (hb hby at_280) (by decide) (pc' := 284) (by decide) ?_
        refine g_retZ X115 hx hlk (by decide) hret (hb hby at_284) N116 (by decide) (by decide) ?_
        exact rfl
    refine g_iload X99 hx (hb hby at_106) (v := (1 : Int32)) rfl (pc' := 108) rfl ?_
    refine g_i0_le X99 hx (a := 1) rfl (hb hby at_108) (by decide) (pc' := 116) (by decide) (pc2 := 111) rfl (fun c132 => False.elim (by omega)) (fun c132 => ?_)
    refine g_iload X99 hx (hb hby at_111) (v := b8) rfl (pc' := 113) rfl ?_
    refine g_i0_eq X99 hx (a := b8.toInt) rfl (hb hby at_113) (by decide) (pc' := 164) (by decide) (pc2 := 116) rfl (fun c133 => ?_) (fun c133 => ?_)
    · refine g_iconst X99 hx (hb hby at_164) (v := 1) (by decide) (pc' := 165) rfl ?_
      refine g_goto X99 hx (hb hby at_165) (by decide) (pc' := 169) (by decide) ?_
      exact J110 _ (by first | exact Or.inl ⟨by omega, rfl⟩ | exact Or.inr ⟨by omega, rfl⟩)
    · refine g_iload X99 hx (hb hby at_116) (v := (1 : Int32)) rfl (pc' := 118) rfl ?_
      refine g_iconst X99 hx (hb hby at_118) (v := 1) (by decide) (pc' := 119) rfl ?_
      refine g_ii_le X99 hx (a := 1) (b := 1) rfl rfl (hb hby at_119) (by decide) (pc' := 128) (by decide) (pc2 := 122) rfl (fun c134 => ?_) (fun c134 => False.elim (by omega))
      refine g_iload X99 hx (hb hby at_128) (v := (1 : Int32)) rfl (pc' := 130) rfl ?_
      refine g_iconst X99 hx (hb hby at_130) (v := 2) (by decide) (pc' := 131) rfl ?_
      refine g_ii_le X99 hx (a := 1) (b := 2) rfl rfl (hb hby at_131) (by decide) (pc' := 140) (by decide) (pc2 := 134) rfl (fun c135 => ?_) (fun c135 => False.elim (by omega))
      refine g_iload X99 hx (hb hby at_140) (v := (1 : Int32)) rfl (pc' := 142) rfl ?_
      refine g_iconst X99 hx (hb hby at_142) (v := 3) (by decide) (pc' := 143) rfl ?_
      refine g_ii_le X99 hx (a := 1) (b := 3) rfl rfl (hb hby at_143) (by decide) (pc' := 152) (by decide) (pc2 := 146) rfl (fun c136 => ?_) (fun c136 => False.elim (by omega))
      refine g_iload X99 hx (hb hby at_152) (v := (1 : Int32)) rfl (pc' := 154) rfl ?_
      refine g_iconst X99 hx (hb hby at_154) (v := 4) (by decide) (pc' := 155) rfl ?_
      refine g_ii_le X99 hx (a := 1) (b := 4) rfl rfl (hb hby at_155) (by decide) (pc' := 168) (by decide) (pc2 := 158) rfl (fun c137 => ?_) (fun c137 => False.elim (by omega))
      refine g_iconst X99 hx (hb hby at_168) (v := 0) (by decide) (pc' := 169) rfl ?_
      exact J110 _ (by first | exact Or.inl ⟨by omega, rfl⟩ | exact Or.inr ⟨by omega, rfl⟩)
  · show Goes p e s below (Q0 Z p0 p1 p2 p3 p4 p5 h0 n0) n0 room_1.cells room_1.slots T35 (mkF m 41 #[.val (.int p0), .val (.int p1), .val (.int p2), .val (.int p3), .val (.int p4), .val (.int p5), .val (.int (2 : Int32)), .val (.int b8), .val (.int b16), .val (.int b24), .val (.int b32), .val (.int b40), .unset, .unset, .unset, .unset] [])
    refine g_iload X37 hx (hb hby at_41) (v := (2 : Int32)) rfl (pc' := 43) rfl ?_
    refine g_newIA X37 hx hZ (hw _ (List.mem_of_getElem? (i := 5) rfl)) K41 (n := 2) rfl (cap := 2) (by decide) (by decide) (hb hby at_43) (by decide) (by decide) (pc' := 45) rfl (fun T138 h139 a140 g141 X142 e143 E144 l145 A146  => ?_)
    have Z147 : n0 ≤ h139.size := Nat.le_trans Z0 E144.1
    have nl148 : n0 ≤ a140 := by rw [g141]; exact Z0
    refine g_astore X142 hx (hb hby at_45) rfl (Ls' := #[.val (.int p0), .val (.int p1), .val (.int p2), .val (.int p3), .val (.int p4), .val (.int p5), .val (.int (2 : Int32)), .val (.int b8), .val (.int b16), .val (.int b24), .val (.int b32), .val (.int b40), .val (.ref a140), .unset, .unset, .unset]) rfl (pc' := 47) rfl ?_
    refine g_iload X142 hx (hb hby at_47) (v := (2 : Int32)) rfl (pc' := 49) rfl ?_
    refine g_i0_le X142 hx (a := 2) rfl (hb hby at_49) (by decide) (pc' := 58) (by decide) (pc2 := 52) rfl (fun c149 => False.elim (by omega)) (fun c149 => ?_)
    refine g_aload X142 hx (hb hby at_52) (v := (.ref a140)) rfl rfl (pc' := 54) rfl ?_
    refine g_iconst X142 hx (hb hby at_54) (v := 0) (by decide) (pc' := 55) rfl ?_
    refine g_iload X142 hx (hb hby at_55) (v := b8) rfl (pc' := 57) rfl ?_
    refine g_iastore X142 hx hZ e143 (k := 0) (x := b8) A146 rfl (by decide) N38 nl148 (hb hby at_57) (pc' := 58) rfl (fun T150 h151 L152 X153 e154 W155 N156 A157 => ?_)
    have Z158 : n0 ≤ h151.size := by rw [W155.size]; exact Z147
    refine g_iload X153 hx (hb hby at_58) (v := (2 : Int32)) rfl (pc' := 60) rfl ?_
    refine g_iconst X153 hx (hb hby at_60) (v := 1) (by decide) (pc' := 61) rfl ?_
    refine g_ii_le X153 hx (a := 2) (b := 1) rfl rfl (hb hby at_61) (by decide) (pc' := 70) (by decide) (pc2 := 64) rfl (fun c160 => False.elim (by omega)) (fun c160 => ?_)
    refine g_aload X153 hx (hb hby at_64) (v := (.ref a140)) rfl rfl (pc' := 66) rfl ?_
    refine g_iconst X153 hx (hb hby at_66) (v := 1) (by decide) (pc' := 67) rfl ?_
    refine g_iload X153 hx (hb hby at_67) (v := b16) rfl (pc' := 69) rfl ?_
    refine g_iastore X153 hx hZ e154 (k := 1) (x := b16) A157 rfl (by decide) N156 nl148 (hb hby at_69) (pc' := 70) rfl (fun T161 h162 L163 X164 e165 W166 N167 A168 => ?_)
    have Z169 : n0 ≤ h162.size := by rw [W166.size]; exact Z158
    refine g_iload X164 hx (hb hby at_70) (v := (2 : Int32)) rfl (pc' := 72) rfl ?_
    refine g_iconst X164 hx (hb hby at_72) (v := 2) (by decide) (pc' := 73) rfl ?_
    refine g_ii_le X164 hx (a := 2) (b := 2) rfl rfl (hb hby at_73) (by decide) (pc' := 82) (by decide) (pc2 := 76) rfl (fun c171 => ?_) (fun c171 => False.elim (by omega))
    refine g_iload X164 hx (hb hby at_82) (v := (2 : Int32)) rfl (pc' := 84) rfl ?_
    refine g_iconst X164 hx (hb hby at_84) (v := 3) (by decide) (pc' := 85) rfl ?_
    refine g_ii_le X164 hx (a := 2) (b := 3) rfl rfl (hb hby at_85) (by decide) (pc' := 94) (by decide) (pc2 := 88) rfl (fun c172 => ?_) (fun c172 => False.elim (by omega))
    refine g_iload X164 hx (hb hby at_94) (v := (2 : Int32)) rfl (pc' := 96) rfl ?_
    refine g_iconst X164 hx (hb hby at_96) (v := 4) (by decide) (pc' := 97) rfl ?_
    refine g_ii_le X164 hx (a := 2) (b := 4) rfl rfl (hb hby at_97) (by decide) (pc' := 106) (by decide) (pc2 := 100) rfl (fun c173 => ?_) (fun c173 => False.elim (by omega))
    have J174 : ∀ (fxd : Int32), ((b8.toInt = 0 ∨ b16.toInt = 1) ∧ fxd.toInt = 1 ∨ ¬ (b8.toInt = 0 ∨ b16.toInt = 1) ∧ fxd.toInt = 0) → Goes p e s below (Q0 Z p0 p1 p2 p3 p4 p5 h0 n0) n0 room_1.cells room_1.slots T161 (mkF m 169 #[.val (.int p0), .val (.int p1), .val (.int p2), .val (.int p3), .val (.int p4), .val (.int p5), .val (.int (2 : Int32)), .val (.int b8), .val (.int b16), .val (.int b24), .val (.int b32), .val (.int b40), .val (.ref a140), .unset, .unset, .unset] [(.int fxd)]) := by
      intro fxd j175
      refine g_istore X164 hx (hb hby at_169) (Ls' := #[.val (.int p0), .val (.int p1), .val (.int p2), .val (.int p3), .val (.int p4), .val (.int p5), .val (.int (2 : Int32)), .val (.int b8), .val (.int b16), .val (.int b24), .val (.int b32), .val (.int b40), .val (.ref a140), .val (.int fxd), .unset, .unset]) rfl (pc' := 171) rfl ?_
      refine g_aload X164 hx (hb hby at_171) (v := (.ref a140)) rfl rfl (pc' := 173) rfl ?_
      refine g_static X164 hx hZ hown (hw _ (List.mem_of_getElem? (i := 6) rfl)) (hw _ (List.mem_of_getElem? (i := 7) rfl)) (hw _ (List.mem_of_getElem? (i := 8) rfl)) (hw _ (List.mem_of_getElem? (i := 9) rfl)) (by decide) (argsL := [(.ref a140)]) (rm2 l Z a0 hw a140 2 (oupd (oupd zeroI 0 b8) 1 b16) h162 n0 Z169 A168) rfl e165 (by rw [hml]; rfl) pd_1 rfl (rest := []) rfl (W := 0) (Nat.le_of_eq rfl) (by decide) (by decide) (by decide) (by decide) N167 (hb hby at_173) (pc' := 176) rfl (fun v176 T177 L178 X179 N180 q181 => ?_)
      obtain ⟨b182, rfl, f183, K184⟩ := q181
      show Goes p e s below (Q0 Z p0 p1 p2 p3 p4 p5 h0 n0) n0 room_1.cells room_1.slots T177 (mkF m 176 #[.val (.int p0), .val (.int p1), .val (.int p2), .val (.int p3), .val (.int p4), .val (.int p5), .val (.int (2 : Int32)), .val (.int b8), .val (.int b16), .val (.int b24), .val (.int b32), .val (.int b40), .val (.ref a140), .val (.int fxd), .unset, .unset] [(.int b182)])
      refine g_istore X179 hx (hb hby at_176) (Ls' := #[.val (.int p0), .val (.int p1), .val (.int p2), .val (.int p3), .val (.int p4), .val (.int p5), .val (.int (2 : Int32)), .val (.int b8), .val (.int b16), .val (.int b24), .val (.int b32), .val (.int b40), .val (.ref a140), .val (.int fxd), .val (.int b182), .unset]) rfl (pc' := 178) rfl ?_
      have G : (b8.toInt = 0 ∨ b16.toInt = 1) ∧ b182.toInt = 0 ∨ ¬ (b8.toInt = 0 ∨ b16.toInt = 1) ∧ b182.toInt = 1 := by
        have e0 : ((oupd (oupd zeroI 0 b8) 1 b16) 0).toInt = b8.toInt := rfl
        have e1 : ((oupd (oupd zeroI 0 b8) 1 b16) 1).toInt = b16.toInt := rfl
        rcases f183 with ⟨q, hb1⟩ | ⟨⟨i, hi, he⟩, hb1⟩
        · refine Or.inr ⟨?_, hb1⟩
          have q0 := q 0 (by omega); rw [e0] at q0
          have q1 := q 1 (by omega); rw [e1] at q1
          omega
        · refine Or.inl ⟨?_, hb1⟩
          have hi2 : i = 0 ∨ i = 1 := by omega
          rcases hi2 with rfl | rfl <;> omega
      clear f183
      refine g_iload X179 hx (hb hby at_178) (v := (2 : Int32)) rfl (pc' := 180) rfl ?_
      refine g_i0_le X179 hx (a := 2) rfl (hb hby at_180) (by decide) (pc' := 192) (by decide) (pc2 := 183) rfl (fun c185 => False.elim (by omega)) (fun c185 => ?_)
      refine g_aload X179 hx (hb hby at_183) (v := (.ref a140)) rfl rfl (pc' := 185) rfl ?_
      refine g_iconst X179 hx (hb hby at_185) (v := 0) (by decide) (pc' := 186) rfl ?_
      refine g_iaload X179 hx hZ K184 (k := 0) A168 rfl (by decide) (hb hby at_186) (pc' := 187) rfl ?_
      show Goes p e s below (Q0 Z p0 p1 p2 p3 p4 p5 h0 n0) n0 room_1.cells room_1.slots T177 (mkF m 187 #[.val (.int p0), .val (.int p1), .val (.int p2), .val (.int p3), .val (.int p4), .val (.int p5), .val (.int (2 : Int32)), .val (.int b8), .val (.int b16), .val (.int b24), .val (.int b32), .val (.int b40), .val (.ref a140), .val (.int fxd), .val (.int b182), .unset] [(.int b8)])
      refine g_iload X179 hx (hb hby at_187) (v := b8) rfl (pc' := 189) rfl ?_
      refine g_ii_ne X179 hx (a := b8.toInt) (b := b8.toInt) rfl rfl (hb hby at_189) (by decide) (pc' := 256) (by decide) (pc2 := 192) rfl (fun c186 => False.elim (by omega)) (fun c186 => ?_)
      refine g_iload X179 hx (hb hby at_192) (v := (2 : Int32)) rfl (pc' := 194) rfl ?_
      refine g_iconst X179 hx (hb hby at_194) (v := 1) (by decide) (pc' := 195) rfl ?_
      refine g_ii_le X179 hx (a := 2) (b := 1) rfl rfl (hb hby at_195) (by decide) (pc' := 207) (by decide) (pc2 := 198) rfl (fun c187 => False.elim (by omega)) (fun c187 => ?_)
      refine g_aload X179 hx (hb hby at_198) (v := (.ref a140)) rfl rfl (pc' := 200) rfl ?_
      refine g_iconst X179 hx (hb hby at_200) (v := 1) (by decide) (pc' := 201) rfl ?_
      refine g_iaload X179 hx hZ K184 (k := 1) A168 rfl (by decide) (hb hby at_201) (pc' := 202) rfl ?_
      show Goes p e s below (Q0 Z p0 p1 p2 p3 p4 p5 h0 n0) n0 room_1.cells room_1.slots T177 (mkF m 202 #[.val (.int p0), .val (.int p1), .val (.int p2), .val (.int p3), .val (.int p4), .val (.int p5), .val (.int (2 : Int32)), .val (.int b8), .val (.int b16), .val (.int b24), .val (.int b32), .val (.int b40), .val (.ref a140), .val (.int fxd), .val (.int b182), .unset] [(.int b16)])
      refine g_iload X179 hx (hb hby at_202) (v := b16) rfl (pc' := 204) rfl ?_
      refine g_ii_ne X179 hx (a := b16.toInt) (b := b16.toInt) rfl rfl (hb hby at_204) (by decide) (pc' := 256) (by decide) (pc2 := 207) rfl (fun c188 => False.elim (by omega)) (fun c188 => ?_)
      refine g_iload X179 hx (hb hby at_207) (v := (2 : Int32)) rfl (pc' := 209) rfl ?_
      refine g_iconst X179 hx (hb hby at_209) (v := 2) (by decide) (pc' := 210) rfl ?_
      refine g_ii_le X179 hx (a := 2) (b := 2) rfl rfl (hb hby at_210) (by decide) (pc' := 222) (by decide) (pc2 := 213) rfl (fun c189 => ?_) (fun c189 => False.elim (by omega))
      refine g_iload X179 hx (hb hby at_222) (v := (2 : Int32)) rfl (pc' := 224) rfl ?_
      refine g_iconst X179 hx (hb hby at_224) (v := 3) (by decide) (pc' := 225) rfl ?_
      refine g_ii_le X179 hx (a := 2) (b := 3) rfl rfl (hb hby at_225) (by decide) (pc' := 237) (by decide) (pc2 := 228) rfl (fun c190 => ?_) (fun c190 => False.elim (by omega))
      refine g_iload X179 hx (hb hby at_237) (v := (2 : Int32)) rfl (pc' := 239) rfl ?_
      refine g_iconst X179 hx (hb hby at_239) (v := 4) (by decide) (pc' := 240) rfl ?_
      refine g_ii_le X179 hx (a := 2) (b := 4) rfl rfl (hb hby at_240) (by decide) (pc' := 252) (by decide) (pc2 := 243) rfl (fun c191 => ?_) (fun c191 => False.elim (by omega))
      refine g_iconst X179 hx (hb hby at_252) (v := 1) (by decide) (pc' := 253) rfl ?_
      refine g_goto X179 hx (hb hby at_253) (by decide) (pc' := 257) (by decide) ?_
      refine g_istore X179 hx (hb hby at_257) (Ls' := #[.val (.int p0), .val (.int p1), .val (.int p2), .val (.int p3), .val (.int p4), .val (.int p5), .val (.int (2 : Int32)), .val (.int b8), .val (.int b16), .val (.int b24), .val (.int b32), .val (.int b40), .val (.ref a140), .val (.int fxd), .val (.int b182), .val (.int (1 : Int32))]) rfl (pc' := 259) rfl ?_
      refine g_iload X179 hx (hb hby at_259) (v := b182) rfl (pc' := 261) rfl ?_
      refine g_iload X179 hx (hb hby at_261) (v := fxd) rfl (pc' := 263) rfl ?_
      refine g_i0_ne X179 hx (a := fxd.toInt) rfl (hb hby at_263) (by decide) (pc' := 270) (by decide) (pc2 := 266) rfl (fun c192 => ?_) (fun c192 => ?_)
      · refine g_iconst X179 hx (hb hby at_270) (v := 0) (by decide) (pc' := 271) rfl ?_
        refine g_ii_ne X179 hx (a := b182.toInt) (b := 0) rfl rfl (hb hby at_271) (by decide) (pc' := 283) (by decide) (pc2 := 274) rfl (fun c193 => False.elim (by omega)) (fun c193 => ?_)
        refine g_iload X179 hx (hb hby at_274) (v := (1 : Int32)) rfl (pc' := 276) rfl ?_
        refine g_i0_eq X179 hx (a := 1) rfl (hb hby at_276) (by decide) (pc' := 283) (by decide) (pc2 := 279) rfl (fun c194 => False.elim (by omega)) (fun c194 => ?_)
        refine g_iconst X179 hx (hb hby at_279) (v := 1) (by decide) (pc' := 280) rfl ?_
        refine g_goto X179 hx (hb hby at_280) (by decide) (pc' := 284) (by decide) ?_
        refine g_retZ X179 hx hlk (by decide) hret (hb hby at_284) N180 (by decide) (by decide) ?_
        exact rfl
      · refine g_iconst X179 hx (hb hby at_266) (v := 1) (by decide) (pc' := 267) rfl ?_
        refine g_goto X179 hx (hb hby at_267) (by decide) (pc' := 271) (by decide) ?_
        refine g_ii_ne X179 hx (a := b182.toInt) (b := 1) rfl rfl (hb hby at_271) (by decide) (pc' := 283) (by decide) (pc2 := 274) rfl (fun c195 => False.elim (by omega)) (fun c195 => ?_)
        refine g_iload X179 hx (hb hby at_274) (v := (1 : Int32)) rfl (pc' := 276) rfl ?_
        refine g_i0_eq X179 hx (a := 1) rfl (hb hby at_276) (by decide) (pc' := 283) (by decide) (pc2 := 279) rfl (fun c196 => False.elim (by omega)) (fun c196 => ?_)
        refine g_iconst X179 hx (hb hby at_279) (v := 1) (by decide) (pc' := 280) rfl ?_
        refine g_goto X179 hx (hb hby at_280) (by decide) (pc' := 284) (by decide) ?_
        refine g_retZ X179 hx hlk (by decide) hret (hb hby at_284) N180 (by decide) (by decide) ?_
        exact rfl
    refine g_iload X164 hx (hb hby at_106) (v := (2 : Int32)) rfl (pc' := 108) rfl ?_
    refine g_i0_le X164 hx (a := 2) rfl (hb hby at_108) (by decide) (pc' := 116) (by decide) (pc2 := 111) rfl (fun c197 => False.elim (by omega)) (fun c197 => ?_)
    refine g_iload X164 hx (hb hby at_111) (v := b8) rfl (pc' := 113) rfl ?_
    refine g_i0_eq X164 hx (a := b8.toInt) rfl (hb hby at_113) (by decide) (pc' := 164) (by decide) (pc2 := 116) rfl (fun c198 => ?_) (fun c198 => ?_)
    · refine g_iconst X164 hx (hb hby at_164) (v := 1) (by decide) (pc' := 165) rfl ?_
      refine g_goto X164 hx (hb hby at_165) (by decide) (pc' := 169) (by decide) ?_
      exact J174 _ (by first | exact Or.inl ⟨by omega, rfl⟩ | exact Or.inr ⟨by omega, rfl⟩)
    · refine g_iload X164 hx (hb hby at_116) (v := (2 : Int32)) rfl (pc' := 118) rfl ?_
      refine g_iconst X164 hx (hb hby at_118) (v := 1) (by decide) (pc' := 119) rfl ?_
      refine g_ii_le X164 hx (a := 2) (b := 1) rfl rfl (hb hby at_119) (by decide) (pc' := 128) (by decide) (pc2 := 122) rfl (fun c199 => False.elim (by omega)) (fun c199 => ?_)
      refine g_iload X164 hx (hb hby at_122) (v := b16) rfl (pc' := 124) rfl ?_
      refine g_iconst X164 hx (hb hby at_124) (v := 1) (by decide) (pc' := 125) rfl ?_
      refine g_ii_eq X164 hx (a := b16.toInt) (b := 1) rfl rfl (hb hby at_125) (by decide) (pc' := 164) (by decide) (pc2 := 128) rfl (fun c200 => ?_) (fun c200 => ?_)
      · refine g_iconst X164 hx (hb hby at_164) (v := 1) (by decide) (pc' := 165) rfl ?_
        refine g_goto X164 hx (hb hby at_165) (by decide) (pc' := 169) (by decide) ?_
        exact J174 _ (by first | exact Or.inl ⟨by omega, rfl⟩ | exact Or.inr ⟨by omega, rfl⟩)
      · refine g_iload X164 hx (hb hby at_128) (v := (2 : Int32)) rfl (pc' := 130) rfl ?_
        refine g_iconst X164 hx (hb hby at_130) (v := 2) (by decide) (pc' := 131) rfl ?_
        refine g_ii_le X164 hx (a := 2) (b := 2) rfl rfl (hb hby at_131) (by decide) (pc' := 140) (by decide) (pc2 := 134) rfl (fun c201 => ?_) (fun c201 => False.elim (by omega))
        refine g_iload X164 hx (hb hby at_140) (v := (2 : Int32)) rfl (pc' := 142) rfl ?_
        refine g_iconst X164 hx (hb hby at_142) (v := 3) (by decide) (pc' := 143) rfl ?_
        refine g_ii_le X164 hx (a := 2) (b := 3) rfl rfl (hb hby at_143) (by decide) (pc' := 152) (by decide) (pc2 := 146) rfl (fun c202 => ?_) (fun c202 => False.elim (by omega))
        refine g_iload X164 hx (hb hby at_152) (v := (2 : Int32)) rfl (pc' := 154) rfl ?_
        refine g_iconst X164 hx (hb hby at_154) (v := 4) (by decide) (pc' := 155) rfl ?_
        refine g_ii_le X164 hx (a := 2) (b := 4) rfl rfl (hb hby at_155) (by decide) (pc' := 168) (by decide) (pc2 := 158) rfl (fun c203 => ?_) (fun c203 => False.elim (by omega))
        refine g_iconst X164 hx (hb hby at_168) (v := 0) (by decide) (pc' := 169) rfl ?_
        exact J174 _ (by first | exact Or.inl ⟨by omega, rfl⟩ | exact Or.inr ⟨by omega, rfl⟩)
  · show Goes p e s below (Q0 Z p0 p1 p2 p3 p4 p5 h0 n0) n0 room_1.cells room_1.slots T35 (mkF m 41 #[.val (.int p0), .val (.int p1), .val (.int p2), .val (.int p3), .val (.int p4), .val (.int p5), .val (.int (3 : Int32)), .val (.int b8), .val (.int b16), .val (.int b24), .val (.int b32), .val (.int b40), .unset, .unset, .unset, .unset] [])
    refine g_iload X37 hx (hb hby at_41) (v := (3 : Int32)) rfl (pc' := 43) rfl ?_
    refine g_newIA X37 hx hZ (hw _ (List.mem_of_getElem? (i := 5) rfl)) K41 (n := 3) rfl (cap := 3) (by decide) (by decide) (hb hby at_43) (by decide) (by decide) (pc' := 45) rfl (fun T204 h205 a206 g207 X208 e209 E210 l211 A212  => ?_)
    have Z213 : n0 ≤ h205.size := Nat.le_trans Z0 E210.1
    have nl214 : n0 ≤ a206 := by rw [g207]; exact Z0
    refine g_astore X208 hx (hb hby at_45) rfl (Ls' := #[.val (.int p0), .val (.int p1), .val (.int p2), .val (.int p3), .val (.int p4), .val (.int p5), .val (.int (3 : Int32)), .val (.int b8), .val (.int b16), .val (.int b24), .val (.int b32), .val (.int b40), .val (.ref a206), .unset, .unset, .unset]) rfl (pc' := 47) rfl ?_
    refine g_iload X208 hx (hb hby at_47) (v := (3 : Int32)) rfl (pc' := 49) rfl ?_
    refine g_i0_le X208 hx (a := 3) rfl (hb hby at_49) (by decide) (pc' := 58) (by decide) (pc2 := 52) rfl (fun c215 => False.elim (by omega)) (fun c215 => ?_)
    refine g_aload X208 hx (hb hby at_52) (v := (.ref a206)) rfl rfl (pc' := 54) rfl ?_
    refine g_iconst X208 hx (hb hby at_54) (v := 0) (by decide) (pc' := 55) rfl ?_
    refine g_iload X208 hx (hb hby at_55) (v := b8) rfl (pc' := 57) rfl ?_
    refine g_iastore X208 hx hZ e209 (k := 0) (x := b8) A212 rfl (by decide) N38 nl214 (hb hby at_57) (pc' := 58) rfl (fun T216 h217 L218 X219 e220 W221 N222 A223 => ?_)
    have Z224 : n0 ≤ h217.size := by rw [W221.size]; exact Z213
    refine g_iload X219 hx (hb hby at_58) (v := (3 : Int32)) rfl (pc' := 60) rfl ?_
    refine g_iconst X219 hx (hb hby at_60) (v := 1) (by decide) (pc' := 61) rfl ?_
    refine g_ii_le X219 hx (a := 3) (b := 1) rfl rfl (hb hby at_61) (by decide) (pc' := 70) (by decide) (pc2 := 64) rfl (fun c226 => False.elim (by omega)) (fun c226 => ?_)
    refine g_aload X219 hx (hb hby at_64) (v := (.ref a206)) rfl rfl (pc' := 66) rfl ?_
    refine g_iconst X219 hx (hb hby at_66) (v := 1) (by decide) (pc' := 67) rfl ?_
    refine g_iload X219 hx (hb hby at_67) (v := b16) rfl (pc' := 69) rfl ?_
    refine g_iastore X219 hx hZ e220 (k := 1) (x := b16) A223 rfl (by decide) N222 nl214 (hb hby at_69) (pc' := 70) rfl (fun T227 h228 L229 X230 e231 W232 N233 A234 => ?_)
    have Z235 : n0 ≤ h228.size := by rw [W232.size]; exact Z224
    refine g_iload X230 hx (hb hby at_70) (v := (3 : Int32)) rfl (pc' := 72) rfl ?_
    refine g_iconst X230 hx (hb hby at_72) (v := 2) (by decide) (pc' := 73) rfl ?_
    refine g_ii_le X230 hx (a := 3) (b := 2) rfl rfl (hb hby at_73) (by decide) (pc' := 82) (by decide) (pc2 := 76) rfl (fun c237 => False.elim (by omega)) (fun c237 => ?_)
    refine g_aload X230 hx (hb hby at_76) (v := (.ref a206)) rfl rfl (pc' := 78) rfl ?_
    refine g_iconst X230 hx (hb hby at_78) (v := 2) (by decide) (pc' := 79) rfl ?_
    refine g_iload X230 hx (hb hby at_79) (v := b24) rfl (pc' := 81) rfl ?_
    refine g_iastore X230 hx hZ e231 (k := 2) (x := b24) A234 rfl (by decide) N233 nl214 (hb hby at_81) (pc' := 82) rfl (fun T238 h239 L240 X241 e242 W243 N244 A245 => ?_)
    have Z246 : n0 ≤ h239.size := by rw [W243.size]; exact Z235
    refine g_iload X241 hx (hb hby at_82) (v := (3 : Int32)) rfl (pc' := 84) rfl ?_
    refine g_iconst X241 hx (hb hby at_84) (v := 3) (by decide) (pc' := 85) rfl ?_
    refine g_ii_le X241 hx (a := 3) (b := 3) rfl rfl (hb hby at_85) (by decide) (pc' := 94) (by decide) (pc2 := 88) rfl (fun c248 => ?_) (fun c248 => False.elim (by omega))
    refine g_iload X241 hx (hb hby at_94) (v := (3 : Int32)) rfl (pc' := 96) rfl ?_
    refine g_iconst X241 hx (hb hby at_96) (v := 4) (by decide) (pc' := 97) rfl ?_
    refine g_ii_le X241 hx (a := 3) (b := 4) rfl rfl (hb hby at_97) (by decide) (pc' := 106) (by decide) (pc2 := 100) rfl (fun c249 => ?_) (fun c249 => False.elim (by omega))
    have J250 : ∀ (fxd : Int32), ((b8.toInt = 0 ∨ b16.toInt = 1 ∨ b24.toInt = 2) ∧ fxd.toInt = 1 ∨ ¬ (b8.toInt = 0 ∨ b16.toInt = 1 ∨ b24.toInt = 2) ∧ fxd.toInt = 0) → Goes p e s below (Q0 Z p0 p1 p2 p3 p4 p5 h0 n0) n0 room_1.cells room_1.slots T238 (mkF m 169 #[.val (.int p0), .val (.int p1), .val (.int p2), .val (.int p3), .val (.int p4), .val (.int p5), .val (.int (3 : Int32)), .val (.int b8), .val (.int b16), .val (.int b24), .val (.int b32), .val (.int b40), .val (.ref a206), .unset, .unset, .unset] [(.int fxd)]) := by
      intro fxd j251
      refine g_istore X241 hx (hb hby at_169) (Ls' := #[.val (.int p0), .val (.int p1), .val (.int p2), .val (.int p3), .val (.int p4), .val (.int p5), .val (.int (3 : Int32)), .val (.int b8), .val (.int b16), .val (.int b24), .val (.int b32), .val (.int b40), .val (.ref a206), .val (.int fxd), .unset, .unset]) rfl (pc' := 171) rfl ?_
      refine g_aload X241 hx (hb hby at_171) (v := (.ref a206)) rfl rfl (pc' := 173) rfl ?_
      refine g_static X241 hx hZ hown (hw _ (List.mem_of_getElem? (i := 6) rfl)) (hw _ (List.mem_of_getElem? (i := 7) rfl)) (hw _ (List.mem_of_getElem? (i := 8) rfl)) (hw _ (List.mem_of_getElem? (i := 9) rfl)) (by decide) (argsL := [(.ref a206)]) (rm2 l Z a0 hw a206 3 (oupd (oupd (oupd zeroI 0 b8) 1 b16) 2 b24) h239 n0 Z246 A245) rfl e242 (by rw [hml]; rfl) pd_1 rfl (rest := []) rfl (W := 0) (Nat.le_of_eq rfl) (by decide) (by decide) (by decide) (by decide) N244 (hb hby at_173) (pc' := 176) rfl (fun v252 T253 L254 X255 N256 q257 => ?_)
      obtain ⟨b258, rfl, f259, K260⟩ := q257
      show Goes p e s below (Q0 Z p0 p1 p2 p3 p4 p5 h0 n0) n0 room_1.cells room_1.slots T253 (mkF m 176 #[.val (.int p0), .val (.int p1), .val (.int p2), .val (.int p3), .val (.int p4), .val (.int p5), .val (.int (3 : Int32)), .val (.int b8), .val (.int b16), .val (.int b24), .val (.int b32), .val (.int b40), .val (.ref a206), .val (.int fxd), .unset, .unset] [(.int b258)])
      refine g_istore X255 hx (hb hby at_176) (Ls' := #[.val (.int p0), .val (.int p1), .val (.int p2), .val (.int p3), .val (.int p4), .val (.int p5), .val (.int (3 : Int32)), .val (.int b8), .val (.int b16), .val (.int b24), .val (.int b32), .val (.int b40), .val (.ref a206), .val (.int fxd), .val (.int b258), .unset]) rfl (pc' := 178) rfl ?_
      have G : (b8.toInt = 0 ∨ b16.toInt = 1 ∨ b24.toInt = 2) ∧ b258.toInt = 0 ∨ ¬ (b8.toInt = 0 ∨ b16.toInt = 1 ∨ b24.toInt = 2) ∧ b258.toInt = 1 := by
        have e0 : ((oupd (oupd (oupd zeroI 0 b8) 1 b16) 2 b24) 0).toInt = b8.toInt := rfl
        have e1 : ((oupd (oupd (oupd zeroI 0 b8) 1 b16) 2 b24) 1).toInt = b16.toInt := rfl
        have e2 : ((oupd (oupd (oupd zeroI 0 b8) 1 b16) 2 b24) 2).toInt = b24.toInt := rfl
        rcases f259 with ⟨q, hb1⟩ | ⟨⟨i, hi, he⟩, hb1⟩
        · refine Or.inr ⟨?_, hb1⟩
          have q0 := q 0 (by omega); rw [e0] at q0
          have q1 := q 1 (by omega); rw [e1] at q1
          have q2 := q 2 (by omega); rw [e2] at q2
          omega
        · refine Or.inl ⟨?_, hb1⟩
          have hi2 : i = 0 ∨ i = 1 ∨ i = 2 := by omega
          rcases hi2 with rfl | rfl | rfl <;> omega
      clear f259
      refine g_iload X255 hx (hb hby at_178) (v := (3 : Int32)) rfl (pc' := 180) rfl ?_
      refine g_i0_le X255 hx (a := 3) rfl (hb hby at_180) (by decide) (pc' := 192) (by decide) (pc2 := 183) rfl (fun c261 => False.elim (by omega)) (fun c261 => ?_)
      refine g_aload X255 hx (hb hby at_183) (v := (.ref a206)) rfl rfl (pc' := 185) rfl ?_
      refine g_iconst X255 hx (hb hby at_185) (v := 0) (by decide) (pc' := 186) rfl ?_
      refine g_iaload X255 hx hZ K260 (k := 0) A245 rfl (by decide) (hb hby at_186) (pc' := 187) rfl ?_
      show Goes p e s below (Q0 Z p0 p1 p2 p3 p4 p5 h0 n0) n0 room_1.cells room_1.slots T253 (mkF m 187 #[.val (.int p0), .val (.int p1), .val (.int p2), .val (.int p3), .val (.int p4), .val (.int p5), .val (.int (3 : Int32)), .val (.int b8), .val (.int b16), .val (.int b24), .val (.int b32), .val (.int b40), .val (.ref a206), .val (.int fxd), .val (.int b258), .unset] [(.int b8)])
      refine g_iload X255 hx (hb hby at_187) (v := b8) rfl (pc' := 189) rfl ?_
      refine g_ii_ne X255 hx (a := b8.toInt) (b := b8.toInt) rfl rfl (hb hby at_189) (by decide) (pc' := 256) (by decide) (pc2 := 192) rfl (fun c262 => False.elim (by omega)) (fun c262 => ?_)
      refine g_iload X255 hx (hb hby at_192) (v := (3 : Int32)) rfl (pc' := 194) rfl ?_
      refine g_iconst X255 hx (hb hby at_194) (v := 1) (by decide) (pc' := 195) rfl ?_
      refine g_ii_le X255 hx (a := 3) (b := 1) rfl rfl (hb hby at_195) (by decide) (pc' := 207) (by decide) (pc2 := 198) rfl (fun c263 => False.elim (by omega)) (fun c263 => ?_)
      refine g_aload X255 hx (hb hby at_198) (v := (.ref a206)) rfl rfl (pc' := 200) rfl ?_
      refine g_iconst X255 hx (hb hby at_200) (v := 1) (by decide) (pc' := 201) rfl ?_
      refine g_iaload X255 hx hZ K260 (k := 1) A245 rfl (by decide) (hb hby at_201) (pc' := 202) rfl ?_
      show Goes p e s below (Q0 Z p0 p1 p2 p3 p4 p5 h0 n0) n0 room_1.cells room_1.slots T253 (mkF m 202 #[.val (.int p0), .val (.int p1), .val (.int p2), .val (.int p3), .val (.int p4), .val (.int p5), .val (.int (3 : Int32)), .val (.int b8), .val (.int b16), .val (.int b24), .val (.int b32), .val (.int b40), .val (.ref a206), .val (.int fxd), .val (.int b258), .unset] [(.int b16)])
      refine g_iload X255 hx (hb hby at_202) (v := b16) rfl (pc' := 204) rfl ?_
      refine g_ii_ne X255 hx (a := b16.toInt) (b := b16.toInt) rfl rfl (hb hby at_204) (by decide) (pc' := 256) (by decide) (pc2 := 207) rfl (fun c264 => False.elim (by omega)) (fun c264 => ?_)
      refine g_iload X255 hx (hb hby at_207) (v := (3 : Int32)) rfl (pc' := 209) rfl ?_
      refine g_iconst X255 hx (hb hby at_209) (v := 2) (by decide) (pc' := 210) rfl ?_
      refine g_ii_le X255 hx (a := 3) (b := 2) rfl rfl (hb hby at_210) (by decide) (pc' := 222) (by decide) (pc2 := 213) rfl (fun c265 => False.elim (by omega)) (fun c265 => ?_)
      refine g_aload X255 hx (hb hby at_213) (v := (.ref a206)) rfl rfl (pc' := 215) rfl ?_
      refine g_iconst X255 hx (hb hby at_215) (v := 2) (by decide) (pc' := 216) rfl ?_
      refine g_iaload X255 hx hZ K260 (k := 2) A245 rfl (by decide) (hb hby at_216) (pc' := 217) rfl ?_
      show Goes p e s below (Q0 Z p0 p1 p2 p3 p4 p5 h0 n0) n0 room_1.cells room_1.slots T253 (mkF m 217 #[.val (.int p0), .val (.int p1), .val (.int p2), .val (.int p3), .val (.int p4), .val (.int p5), .val (.int (3 : Int32)), .val (.int b8), .val (.int b16), .val (.int b24), .val (.int b32), .val (.int b40), .val (.ref a206), .val (.int fxd), .val (.int b258), .unset] [(.int b24)])
      refine g_iload X255 hx (hb hby at_217) (v := b24) rfl (pc' := 219) rfl ?_
      refine g_ii_ne X255 hx (a := b24.toInt) (b := b24.toInt) rfl rfl (hb hby at_219) (by decide) (pc' := 256) (by decide) (pc2 := 222) rfl (fun c266 => False.elim (by omega)) (fun c266 => ?_)
      refine g_iload X255 hx (hb hby at_222) (v := (3 : Int32)) rfl (pc' := 224) rfl ?_
      refine g_iconst X255 hx (hb hby at_224) (v := 3) (by decide) (pc' := 225) rfl ?_
      refine g_ii_le X255 hx (a := 3) (b := 3) rfl rfl (hb hby at_225) (by decide) (pc' := 237) (by decide) (pc2 := 228) rfl (fun c267 => ?_) (fun c267 => False.elim (by omega))
      refine g_iload X255 hx (hb hby at_237) (v := (3 : Int32)) rfl (pc' := 239) rfl ?_
      refine g_iconst X255 hx (hb hby at_239) (v := 4) (by decide) (pc' := 240) rfl ?_
      refine g_ii_le X255 hx (a := 3) (b := 4) rfl rfl (hb hby at_240) (by decide) (pc' := 252) (by decide) (pc2 := 243) rfl (fun c268 => ?_) (fun c268 => False.elim (by omega))
      refine g_iconst X255 hx (hb hby at_252) (v := 1) (by decide) (pc' := 253) rfl ?_
      refine g_goto X255 hx (hb hby at_253) (by decide) (pc' := 257) (by decide) ?_
      refine g_istore X255 hx (hb hby at_257) (Ls' := #[.val (.int p0), .val (.int p1), .val (.int p2), .val (.int p3), .val (.int p4), .val (.int p5), .val (.int (3 : Int32)), .val (.int b8), .val (.int b16), .val (.int b24), .val (.int b32), .val (.int b40), .val (.ref a206), .val (.int fxd), .val (.int b258), .val (.int (1 : Int32))]) rfl (pc' := 259) rfl ?_
      refine g_iload X255 hx (hb hby at_259) (v := b258) rfl (pc' := 261) rfl ?_
      refine g_iload X255 hx (hb hby at_261) (v := fxd) rfl (pc' := 263) rfl ?_
      refine g_i0_ne X255 hx (a := fxd.toInt) rfl (hb hby at_263) (by decide) (pc' := 270) (by decide) (pc2 := 266) rfl (fun c269 => ?_) (fun c269 => ?_)
      · refine g_iconst X255 hx (hb hby at_270) (v := 0) (by decide) (pc' := 271) rfl ?_
        refine g_ii_ne X255 hx (a := b258.toInt) (b := 0) rfl rfl (hb hby at_271) (by decide) (pc' := 283) (by decide) (pc2 := 274) rfl (fun c270 => False.elim (by omega)) (fun c270 => ?_)
        refine g_iload X255 hx (hb hby at_274) (v := (1 : Int32)) rfl (pc' := 276) rfl ?_
        refine g_i0_eq X255 hx (a := 1) rfl (hb hby at_276) (by decide) (pc' := 283) (by decide) (pc2 := 279) rfl (fun c271 => False.elim (by omega)) (fun c271 => ?_)
        refine g_iconst X255 hx (hb hby at_279) (v := 1) (by decide) (pc' := 280) rfl ?_
        refine g_goto X255 hx (hb hby at_280) (by decide) (pc' := 284) (by decide) ?_
        refine g_retZ X255 hx hlk (by decide) hret (hb hby at_284) N256 (by decide) (by decide) ?_
        exact rfl
      · refine g_iconst X255 hx (hb hby at_266) (v := 1) (by decide) (pc' := 267) rfl ?_
        refine g_goto X255 hx (hb hby at_267) (by decide) (pc' := 271) (by decide) ?_
        refine g_ii_ne X255 hx (a := b258.toInt) (b := 1) rfl rfl (hb hby at_271) (by decide) (pc' := 283) (by decide) (pc2 := 274) rfl (fun c272 => False.elim (by omega)) (fun c272 => ?_)
        refine g_iload X255 hx (hb hby at_274) (v := (1 : Int32)) rfl (pc' := 276) rfl ?_
        refine g_i0_eq X255 hx (a := 1) rfl (hb hby at_276) (by decide) (pc' := 283) (by decide) (pc2 := 279) rfl (fun c273 => False.elim (by omega)) (fun c273 => ?_)
        refine g_iconst X255 hx (hb hby at_279) (v := 1) (by decide) (pc' := 280) rfl ?_
        refine g_goto X255 hx (hb hby at_280) (by decide) (pc' := 284) (by decide) ?_
        refine g_retZ X255 hx hlk (by decide) hret (hb hby at_284) N256 (by decide) (by decide) ?_
        exact rfl
    refine g_iload X241 hx (hb hby at_106) (v := (3 : Int32)) rfl (pc' := 108) rfl ?_
    refine g_i0_le X241 hx (a := 3) rfl (hb hby at_108) (by decide) (pc' := 116) (by decide) (pc2 := 111) rfl (fun c274 => False.elim (by omega)) (fun c274 => ?_)
    refine g_iload X241 hx (hb hby at_111) (v := b8) rfl (pc' := 113) rfl ?_
    refine g_i0_eq X241 hx (a := b8.toInt) rfl (hb hby at_113) (by decide) (pc' := 164) (by decide) (pc2 := 116) rfl (fun c275 => ?_) (fun c275 => ?_)
    · refine g_iconst X241 hx (hb hby at_164) (v := 1) (by decide) (pc' := 165) rfl ?_
      refine g_goto X241 hx (hb hby at_165) (by decide) (pc' := 169) (by decide) ?_
      exact J250 _ (by first | exact Or.inl ⟨by omega, rfl⟩ | exact Or.inr ⟨by omega, rfl⟩)
    · refine g_iload X241 hx (hb hby at_116) (v := (3 : Int32)) rfl (pc' := 118) rfl ?_
      refine g_iconst X241 hx (hb hby at_118) (v := 1) (by decide) (pc' := 119) rfl ?_
      refine g_ii_le X241 hx (a := 3) (b := 1) rfl rfl (hb hby at_119) (by decide) (pc' := 128) (by decide) (pc2 := 122) rfl (fun c276 => False.elim (by omega)) (fun c276 => ?_)
      refine g_iload X241 hx (hb hby at_122) (v := b16) rfl (pc' := 124) rfl ?_
      refine g_iconst X241 hx (hb hby at_124) (v := 1) (by decide) (pc' := 125) rfl ?_
      refine g_ii_eq X241 hx (a := b16.toInt) (b := 1) rfl rfl (hb hby at_125) (by decide) (pc' := 164) (by decide) (pc2 := 128) rfl (fun c277 => ?_) (fun c277 => ?_)
      · refine g_iconst X241 hx (hb hby at_164) (v := 1) (by decide) (pc' := 165) rfl ?_
        refine g_goto X241 hx (hb hby at_165) (by decide) (pc' := 169) (by decide) ?_
        exact J250 _ (by first | exact Or.inl ⟨by omega, rfl⟩ | exact Or.inr ⟨by omega, rfl⟩)
      · refine g_iload X241 hx (hb hby at_128) (v := (3 : Int32)) rfl (pc' := 130) rfl ?_
        refine g_iconst X241 hx (hb hby at_130) (v := 2) (by decide) (pc' := 131) rfl ?_
        refine g_ii_le X241 hx (a := 3) (b := 2) rfl rfl (hb hby at_131) (by decide) (pc' := 140) (by decide) (pc2 := 134) rfl (fun c278 => False.elim (by omega)) (fun c278 => ?_)
        refine g_iload X241 hx (hb hby at_134) (v := b24) rfl (pc' := 136) rfl ?_
        refine g_iconst X241 hx (hb hby at_136) (v := 2) (by decide) (pc' := 137) rfl ?_
        refine g_ii_eq X241 hx (a := b24.toInt) (b := 2) rfl rfl (hb hby at_137) (by decide) (pc' := 164) (by decide) (pc2 := 140) rfl (fun c279 => ?_) (fun c279 => ?_)
        · refine g_iconst X241 hx (hb hby at_164) (v := 1) (by decide) (pc' := 165) rfl ?_
          refine g_goto X241 hx (hb hby at_165) (by decide) (pc' := 169) (by decide) ?_
          exact J250 _ (by first | exact Or.inl ⟨by omega, rfl⟩ | exact Or.inr ⟨by omega, rfl⟩)
        · refine g_iload X241 hx (hb hby at_140) (v := (3 : Int32)) rfl (pc' := 142) rfl ?_
          refine g_iconst X241 hx (hb hby at_142) (v := 3) (by decide) (pc' := 143) rfl ?_
          refine g_ii_le X241 hx (a := 3) (b := 3) rfl rfl (hb hby at_143) (by decide) (pc' := 152) (by decide) (pc2 := 146) rfl (fun c280 => ?_) (fun c280 => False.elim (by omega))
          refine g_iload X241 hx (hb hby at_152) (v := (3 : Int32)) rfl (pc' := 154) rfl ?_
          refine g_iconst X241 hx (hb hby at_154) (v := 4) (by decide) (pc' := 155) rfl ?_
          refine g_ii_le X241 hx (a := 3) (b := 4) rfl rfl (hb hby at_155) (by decide) (pc' := 168) (by decide) (pc2 := 158) rfl (fun c281 => ?_) (fun c281 => False.elim (by omega))
          refine g_iconst X241 hx (hb hby at_168) (v := 0) (by decide) (pc' := 169) rfl ?_
          exact J250 _ (by first | exact Or.inl ⟨by omega, rfl⟩ | exact Or.inr ⟨by omega, rfl⟩)
  · show Goes p e s below (Q0 Z p0 p1 p2 p3 p4 p5 h0 n0) n0 room_1.cells room_1.slots T35 (mkF m 41 #[.val (.int p0), .val (.int p1), .val (.int p2), .val (.int p3), .val (.int p4), .val (.int p5), .val (.int (4 : Int32)), .val (.int b8), .val (.int b16), .val (.int b24), .val (.int b32), .val (.int b40), .unset, .unset, .unset, .unset] [])
    refine g_iload X37 hx (hb hby at_41) (v := (4 : Int32)) rfl (pc' := 43) rfl ?_
    refine g_newIA X37 hx hZ (hw _ (List.mem_of_getElem? (i := 5) rfl)) K41 (n := 4) rfl (cap := 4) (by decide) (by decide) (hb hby at_43) (by decide) (by decide) (pc' := 45) rfl (fun T282 h283 a284 g285 X286 e287 E288 l289 A290  => ?_)
    have Z291 : n0 ≤ h283.size := Nat.le_trans Z0 E288.1
    have nl292 : n0 ≤ a284 := by rw [g285]; exact Z0
    refine g_astore X286 hx (hb hby at_45) rfl (Ls' := #[.val (.int p0), .val (.int p1), .val (.int p2), .val (.int p3), .val (.int p4), .val (.int p5), .val (.int (4 : Int32)), .val (.int b8), .val (.int b16), .val (.int b24), .val (.int b32), .val (.int b40), .val (.ref a284), .unset, .unset, .unset]) rfl (pc' := 47) rfl ?_
    refine g_iload X286 hx (hb hby at_47) (v := (4 : Int32)) rfl (pc' := 49) rfl ?_
    refine g_i0_le X286 hx (a := 4) rfl (hb hby at_49) (by decide) (pc' := 58) (by decide) (pc2 := 52) rfl (fun c293 => False.elim (by omega)) (fun c293 => ?_)
    refine g_aload X286 hx (hb hby at_52) (v := (.ref a284)) rfl rfl (pc' := 54) rfl ?_
    refine g_iconst X286 hx (hb hby at_54) (v := 0) (by decide) (pc' := 55) rfl ?_
    refine g_iload X286 hx (hb hby at_55) (v := b8) rfl (pc' := 57) rfl ?_
    refine g_iastore X286 hx hZ e287 (k := 0) (x := b8) A290 rfl (by decide) N38 nl292 (hb hby at_57) (pc' := 58) rfl (fun T294 h295 L296 X297 e298 W299 N300 A301 => ?_)
    have Z302 : n0 ≤ h295.size := by rw [W299.size]; exact Z291
    refine g_iload X297 hx (hb hby at_58) (v := (4 : Int32)) rfl (pc' := 60) rfl ?_
    refine g_iconst X297 hx (hb hby at_60) (v := 1) (by decide) (pc' := 61) rfl ?_
    refine g_ii_le X297 hx (a := 4) (b := 1) rfl rfl (hb hby at_61) (by decide) (pc' := 70) (by decide) (pc2 := 64) rfl (fun c304 => False.elim (by omega)) (fun c304 => ?_)
    refine g_aload X297 hx (hb hby at_64) (v := (.ref a284)) rfl rfl (pc' := 66) rfl ?_
    refine g_iconst X297 hx (hb hby at_66) (v := 1) (by decide) (pc' := 67) rfl ?_
    refine g_iload X297 hx (hb hby at_67) (v := b16) rfl (pc' := 69) rfl ?_
    refine g_iastore X297 hx hZ e298 (k := 1) (x := b16) A301 rfl (by decide) N300 nl292 (hb hby at_69) (pc' := 70) rfl (fun T305 h306 L307 X308 e309 W310 N311 A312 => ?_)
    have Z313 : n0 ≤ h306.size := by rw [W310.size]; exact Z302
    refine g_iload X308 hx (hb hby at_70) (v := (4 : Int32)) rfl (pc' := 72) rfl ?_
    refine g_iconst X308 hx (hb hby at_72) (v := 2) (by decide) (pc' := 73) rfl ?_
    refine g_ii_le X308 hx (a := 4) (b := 2) rfl rfl (hb hby at_73) (by decide) (pc' := 82) (by decide) (pc2 := 76) rfl (fun c315 => False.elim (by omega)) (fun c315 => ?_)
    refine g_aload X308 hx (hb hby at_76) (v := (.ref a284)) rfl rfl (pc' := 78) rfl ?_
    refine g_iconst X308 hx (hb hby at_78) (v := 2) (by decide) (pc' := 79) rfl ?_
    refine g_iload X308 hx (hb hby at_79) (v := b24) rfl (pc' := 81) rfl ?_
    refine g_iastore X308 hx hZ e309 (k := 2) (x := b24) A312 rfl (by decide) N311 nl292 (hb hby at_81) (pc' := 82) rfl (fun T316 h317 L318 X319 e320 W321 N322 A323 => ?_)
    have Z324 : n0 ≤ h317.size := by rw [W321.size]; exact Z313
    refine g_iload X319 hx (hb hby at_82) (v := (4 : Int32)) rfl (pc' := 84) rfl ?_
    refine g_iconst X319 hx (hb hby at_84) (v := 3) (by decide) (pc' := 85) rfl ?_
    refine g_ii_le X319 hx (a := 4) (b := 3) rfl rfl (hb hby at_85) (by decide) (pc' := 94) (by decide) (pc2 := 88) rfl (fun c326 => False.elim (by omega)) (fun c326 => ?_)
    refine g_aload X319 hx (hb hby at_88) (v := (.ref a284)) rfl rfl (pc' := 90) rfl ?_
    refine g_iconst X319 hx (hb hby at_90) (v := 3) (by decide) (pc' := 91) rfl ?_
    refine g_iload X319 hx (hb hby at_91) (v := b32) rfl (pc' := 93) rfl ?_
    refine g_iastore X319 hx hZ e320 (k := 3) (x := b32) A323 rfl (by decide) N322 nl292 (hb hby at_93) (pc' := 94) rfl (fun T327 h328 L329 X330 e331 W332 N333 A334 => ?_)
    have Z335 : n0 ≤ h328.size := by rw [W332.size]; exact Z324
    refine g_iload X330 hx (hb hby at_94) (v := (4 : Int32)) rfl (pc' := 96) rfl ?_
    refine g_iconst X330 hx (hb hby at_96) (v := 4) (by decide) (pc' := 97) rfl ?_
    refine g_ii_le X330 hx (a := 4) (b := 4) rfl rfl (hb hby at_97) (by decide) (pc' := 106) (by decide) (pc2 := 100) rfl (fun c337 => ?_) (fun c337 => False.elim (by omega))
    have J338 : ∀ (fxd : Int32), ((b8.toInt = 0 ∨ b16.toInt = 1 ∨ b24.toInt = 2 ∨ b32.toInt = 3) ∧ fxd.toInt = 1 ∨ ¬ (b8.toInt = 0 ∨ b16.toInt = 1 ∨ b24.toInt = 2 ∨ b32.toInt = 3) ∧ fxd.toInt = 0) → Goes p e s below (Q0 Z p0 p1 p2 p3 p4 p5 h0 n0) n0 room_1.cells room_1.slots T327 (mkF m 169 #[.val (.int p0), .val (.int p1), .val (.int p2), .val (.int p3), .val (.int p4), .val (.int p5), .val (.int (4 : Int32)), .val (.int b8), .val (.int b16), .val (.int b24), .val (.int b32), .val (.int b40), .val (.ref a284), .unset, .unset, .unset] [(.int fxd)]) := by
      intro fxd j339
      refine g_istore X330 hx (hb hby at_169) (Ls' := #[.val (.int p0), .val (.int p1), .val (.int p2), .val (.int p3), .val (.int p4), .val (.int p5), .val (.int (4 : Int32)), .val (.int b8), .val (.int b16), .val (.int b24), .val (.int b32), .val (.int b40), .val (.ref a284), .val (.int fxd), .unset, .unset]) rfl (pc' := 171) rfl ?_
      refine g_aload X330 hx (hb hby at_171) (v := (.ref a284)) rfl rfl (pc' := 173) rfl ?_
      refine g_static X330 hx hZ hown (hw _ (List.mem_of_getElem? (i := 6) rfl)) (hw _ (List.mem_of_getElem? (i := 7) rfl)) (hw _ (List.mem_of_getElem? (i := 8) rfl)) (hw _ (List.mem_of_getElem? (i := 9) rfl)) (by decide) (argsL := [(.ref a284)]) (rm2 l Z a0 hw a284 4 (oupd (oupd (oupd (oupd zeroI 0 b8) 1 b16) 2 b24) 3 b32) h328 n0 Z335 A334) rfl e331 (by rw [hml]; rfl) pd_1 rfl (rest := []) rfl (W := 0) (Nat.le_of_eq rfl) (by decide) (by decide) (by decide) (by decide) N333 (hb hby at_173) (pc' := 176) rfl (fun v340 T341 L342 X343 N344 q345 => ?_)
      obtain ⟨b346, rfl, f347, K348⟩ := q345
      show Goes p e s below (Q0 Z p0 p1 p2 p3 p4 p5 h0 n0) n0 room_1.cells room_1.slots T341 (mkF m 176 #[.val (.int p0), .val (.int p1), .val (.int p2), .val (.int p3), .val (.int p4), .val (.int p5), .val (.int (4 : Int32)), .val (.int b8), .val (.int b16), .val (.int b24), .val (.int b32), .val (.int b40), .val (.ref a284), .val (.int fxd), .unset, .unset] [(.int b346)])
      refine g_istore X343 hx (hb hby at_176) (Ls' := #[.val (.int p0), .val (.int p1), .val (.int p2), .val (.int p3), .val (.int p4), .val (.int p5), .val (.int (4 : Int32)), .val (.int b8), .val (.int b16), .val (.int b24), .val (.int b32), .val (.int b40), .val (.ref a284), .val (.int fxd), .val (.int b346), .unset]) rfl (pc' := 178) rfl ?_
      have G : (b8.toInt = 0 ∨ b16.toInt = 1 ∨ b24.toInt = 2 ∨ b32.toInt = 3) ∧ b346.toInt = 0 ∨ ¬ (b8.toInt = 0 ∨ b16.toInt = 1 ∨ b24.toInt = 2 ∨ b32.toInt = 3) ∧ b346.toInt = 1 := by
        have e0 : ((oupd (oupd (oupd (oupd zeroI 0 b8) 1 b16) 2 b24) 3 b32) 0).toInt = b8.toInt := rfl
        have e1 : ((oupd (oupd (oupd (oupd zeroI 0 b8) 1 b16) 2 b24) 3 b32) 1).toInt = b16.toInt := rfl
        have e2 : ((oupd (oupd (oupd (oupd zeroI 0 b8) 1 b16) 2 b24) 3 b32) 2).toInt = b24.toInt := rfl
        have e3 : ((oupd (oupd (oupd (oupd zeroI 0 b8) 1 b16) 2 b24) 3 b32) 3).toInt = b32.toInt := rfl
        rcases f347 with ⟨q, hb1⟩ | ⟨⟨i, hi, he⟩, hb1⟩
        · refine Or.inr ⟨?_, hb1⟩
          have q0 := q 0 (by omega); rw [e0] at q0
          have q1 := q 1 (by omega); rw [e1] at q1
          have q2 := q 2 (by omega); rw [e2] at q2
          have q3 := q 3 (by omega); rw [e3] at q3
          omega
        · refine Or.inl ⟨?_, hb1⟩
          have hi2 : i = 0 ∨ i = 1 ∨ i = 2 ∨ i = 3 := by omega
          rcases hi2 with rfl | rfl | rfl | rfl <;> omega
      clear f347
      refine g_iload X343 hx (hb hby at_178) (v := (4 : Int32)) rfl (pc' := 180) rfl ?_
      refine g_i0_le X343 hx (a := 4) rfl (hb hby at_180) (by decide) (pc' := 192) (by decide) (pc2 := 183) rfl (fun c349 => False.elim (by omega)) (fun c349 => ?_)
      refine g_aload X343 hx (hb hby at_183) (v := (.ref a284)) rfl rfl (pc' := 185) rfl ?_
      refine g_iconst X343 hx (hb hby at_185) (v := 0) (by decide) (pc' := 186) rfl ?_
      refine g_iaload X343 hx hZ K348 (k := 0) A334 rfl (by decide) (hb hby at_186) (pc' := 187) rfl ?_
      show Goes p e s below (Q0 Z p0 p1 p2 p3 p4 p5 h0 n0) n0 room_1.cells room_1.slots T341 (mkF m 187 #[.val (.int p0), .val (.int p1), .val (.int p2), .val (.int p3), .val (.int p4), .val (.int p5), .val (.int (4 : Int32)), .val (.int b8), .val (.int b16), .val (.int b24), .val (.int b32), .val (.int b40), .val (.ref a284), .val (.int fxd), .val (.int b346), .unset] [(.int b8)])
      refine g_iload X343 hx (hb hby at_187) (v := b8) rfl (pc' := 189) rfl ?_
      refine g_ii_ne X343 hx (a := b8.toInt) (b := b8.toInt) rfl rfl (hb hby at_189) (by decide) (pc' := 256) (by decide) (pc2 := 192) rfl (fun c350 => False.elim (by omega)) (fun c350 => ?_)
      refine g_iload X343 hx (hb hby at_192) (v := (4 : Int32)) rfl (pc' := 194) rfl ?_
      refine g_iconst X343 hx (hb hby at_194) (v := 1) (by decide) (pc' := 195) rfl ?_
      refine g_ii_le X343 hx (a := 4) (b := 1) rfl rfl (hb hby at_195) (by decide) (pc' := 207) (by decide) (pc2 := 198) rfl (fun c351 => False.elim (by omega)) (fun c351 => ?_)
      refine g_aload X343 hx (hb hby at_198) (v := (.ref a284)) rfl rfl (pc' := 200) rfl ?_
      refine g_iconst X343 hx (hb hby at_200) (v := 1) (by decide) (pc' := 201) rfl ?_
      refine g_iaload X343 hx hZ K348 (k := 1) A334 rfl (by decide) (hb hby at_201) (pc' := 202) rfl ?_
      show Goes p e s below (Q0 Z p0 p1 p2 p3 p4 p5 h0 n0) n0 room_1.cells room_1.slots T341 (mkF m 202 #[.val (.int p0), .val (.int p1), .val (.int p2), .val (.int p3), .val (.int p4), .val (.int p5), .val (.int (4 : Int32)), .val (.int b8), .val (.int b16), .val (.int b24), .val (.int b32), .val (.int b40), .val (.ref a284), .val (.int fxd), .val (.int b346), .unset] [(.int b16)])
      refine g_iload X343 hx (hb hby at_202) (v := b16) rfl (pc' := 204) rfl ?_
      refine g_ii_ne X343 hx (a := b16.toInt) (b := b16.toInt) rfl rfl (hb hby at_204) (by decide) (pc' := 256) (by decide) (pc2 := 207) rfl (fun c352 => False.elim (by omega)) (fun c352 => ?_)
      refine g_iload X343 hx (hb hby at_207) (v := (4 : Int32)) rfl (pc' := 209) rfl ?_
      refine g_iconst X343 hx (hb hby at_209) (v := 2) (by decide) (pc' := 210) rfl ?_
      refine g_ii_le X343 hx (a := 4) (b := 2) rfl rfl (hb hby at_210) (by decide) (pc' := 222) (by decide) (pc2 := 213) rfl (fun c353 => False.elim (by omega)) (fun c353 => ?_)
      refine g_aload X343 hx (hb hby at_213) (v := (.ref a284)) rfl rfl (pc' := 215) rfl ?_
      refine g_iconst X343 hx (hb hby at_215) (v := 2) (by decide) (pc' := 216) rfl ?_
      refine g_iaload X343 hx hZ K348 (k := 2) A334 rfl (by decide) (hb hby at_216) (pc' := 217) rfl ?_
      show Goes p e s below (Q0 Z p0 p1 p2 p3 p4 p5 h0 n0) n0 room_1.cells room_1.slots T341 (mkF m 217 #[.val (.int p0), .val (.int p1), .val (.int p2), .val (.int p3), .val (.int p4), .val (.int p5), .val (.int (4 : Int32)), .val (.int b8), .val (.int b16), .val (.int b24), .val (.int b32), .val (.int b40), .val (.ref a284), .val (.int fxd), .val (.int b346), .unset] [(.int b24)])
      refine g_iload X343 hx (hb hby at_217) (v := b24) rfl (pc' := 219) rfl ?_
      refine g_ii_ne X343 hx (a := b24.toInt) (b := b24.toInt) rfl rfl (hb hby at_219) (by decide) (pc' := 256) (by decide) (pc2 := 222) rfl (fun c354 => False.elim (by omega)) (fun c354 => ?_)
      refine g_iload X343 hx (hb hby at_222) (v := (4 : Int32)) rfl (pc' := 224) rfl ?_
      refine g_iconst X343 hx (hb hby at_224) (v := 3) (by decide) (pc' := 225) rfl ?_
      refine g_ii_le X343 hx (a := 4) (b := 3) rfl rfl (hb hby at_225) (by decide) (pc' := 237) (by decide) (pc2 := 228) rfl (fun c355 => False.elim (by omega)) (fun c355 => ?_)
      refine g_aload X343 hx (hb hby at_228) (v := (.ref a284)) rfl rfl (pc' := 230) rfl ?_
      refine g_iconst X343 hx (hb hby at_230) (v := 3) (by decide) (pc' := 231) rfl ?_
      refine g_iaload X343 hx hZ K348 (k := 3) A334 rfl (by decide) (hb hby at_231) (pc' := 232) rfl ?_
      show Goes p e s below (Q0 Z p0 p1 p2 p3 p4 p5 h0 n0) n0 room_1.cells room_1.slots T341 (mkF m 232 #[.val (.int p0), .val (.int p1), .val (.int p2), .val (.int p3), .val (.int p4), .val (.int p5), .val (.int (4 : Int32)), .val (.int b8), .val (.int b16), .val (.int b24), .val (.int b32), .val (.int b40), .val (.ref a284), .val (.int fxd), .val (.int b346), .unset] [(.int b32)])
      refine g_iload X343 hx (hb hby at_232) (v := b32) rfl (pc' := 234) rfl ?_
      refine g_ii_ne X343 hx (a := b32.toInt) (b := b32.toInt) rfl rfl (hb hby at_234) (by decide) (pc' := 256) (by decide) (pc2 := 237) rfl (fun c356 => False.elim (by omega)) (fun c356 => ?_)
      refine g_iload X343 hx (hb hby at_237) (v := (4 : Int32)) rfl (pc' := 239) rfl ?_
      refine g_iconst X343 hx (hb hby at_239) (v := 4) (by decide) (pc' := 240) rfl ?_
      refine g_ii_le X343 hx (a := 4) (b := 4) rfl rfl (hb hby at_240) (by decide) (pc' := 252) (by decide) (pc2 := 243) rfl (fun c357 => ?_) (fun c357 => False.elim (by omega))
      refine g_iconst X343 hx (hb hby at_252) (v := 1) (by decide) (pc' := 253) rfl ?_
      refine g_goto X343 hx (hb hby at_253) (by decide) (pc' := 257) (by decide) ?_
      refine g_istore X343 hx (hb hby at_257) (Ls' := #[.val (.int p0), .val (.int p1), .val (.int p2), .val (.int p3), .val (.int p4), .val (.int p5), .val (.int (4 : Int32)), .val (.int b8), .val (.int b16), .val (.int b24), .val (.int b32), .val (.int b40), .val (.ref a284), .val (.int fxd), .val (.int b346), .val (.int (1 : Int32))]) rfl (pc' := 259) rfl ?_
      refine g_iload X343 hx (hb hby at_259) (v := b346) rfl (pc' := 261) rfl ?_
      refine g_iload X343 hx (hb hby at_261) (v := fxd) rfl (pc' := 263) rfl ?_
      refine g_i0_ne X343 hx (a := fxd.toInt) rfl (hb hby at_263) (by decide) (pc' := 270) (by decide) (pc2 := 266) rfl (fun c358 => ?_) (fun c358 => ?_)
      · refine g_iconst X343 hx (hb hby at_270) (v := 0) (by decide) (pc' := 271) rfl ?_
        refine g_ii_ne X343 hx (a := b346.toInt) (b := 0) rfl rfl (hb hby at_271) (by decide) (pc' := 283) (by decide) (pc2 := 274) rfl (fun c359 => False.elim (by omega)) (fun c359 => ?_)
        refine g_iload X343 hx (hb hby at_274) (v := (1 : Int32)) rfl (pc' := 276) rfl ?_
        refine g_i0_eq X343 hx (a := 1) rfl (hb hby at_276) (by decide) (pc' := 283) (by decide) (pc2 := 279) rfl (fun c360 => False.elim (by omega)) (fun c360 => ?_)
        refine g_iconst X343 hx (hb hby at_279) (v := 1) (by decide) (pc' := 280) rfl ?_
        refine g_goto X343 hx (hb hby at_280) (by decide) (pc' := 284) (by decide) ?_
        refine g_retZ X343 hx hlk (by decide) hret (hb hby at_284) N344 (by decide) (by decide) ?_
        exact rfl
      · refine g_iconst X343 hx (hb hby at_266) (v := 1) (by decide) (pc' := 267) rfl ?_
        refine g_goto X343 hx (hb hby at_267) (by decide) (pc' := 271) (by decide) ?_
        refine g_ii_ne X343 hx (a := b346.toInt) (b := 1) rfl rfl (hb hby at_271) (by decide) (pc' := 283) (by decide) (pc2 := 274) rfl (fun c361 => False.elim (by omega)) (fun c361 => ?_)
        refine g_iload X343 hx (hb hby at_274) (v := (1 : Int32)) rfl (pc' := 276) rfl ?_
        refine g_i0_eq X343 hx (a := 1) rfl (hb hby at_276) (by decide) (pc' := 283) (by decide) (pc2 := 279) rfl (fun c362 => False.elim (by omega)) (fun c362 => ?_)
        refine g_iconst X343 hx (hb hby at_279) (v := 1) (by decide) (pc' := 280) rfl ?_
        refine g_goto X343 hx (hb hby at_280) (by decide) (pc' := 284) (by decide) ?_
        refine g_retZ X343 hx hlk (by decide) hret (hb hby at_284) N344 (by decide) (by decide) ?_
        exact rfl
    refine g_iload X330 hx (hb hby at_106) (v := (4 : Int32)) rfl (pc' := 108) rfl ?_
    refine g_i0_le X330 hx (a := 4) rfl (hb hby at_108) (by decide) (pc' := 116) (by decide) (pc2 := 111) rfl (fun c363 => False.elim (by omega)) (fun c363 => ?_)
    refine g_iload X330 hx (hb hby at_111) (v := b8) rfl (pc' := 113) rfl ?_
    refine g_i0_eq X330 hx (a := b8.toInt) rfl (hb hby at_113) (by decide) (pc' := 164) (by decide) (pc2 := 116) rfl (fun c364 => ?_) (fun c364 => ?_)
    · refine g_iconst X330 hx (hb hby at_164) (v := 1) (by decide) (pc' := 165) rfl ?_
      refine g_goto X330 hx (hb hby at_165) (by decide) (pc' := 169) (by decide) ?_
      exact J338 _ (by first | exact Or.inl ⟨by omega, rfl⟩ | exact Or.inr ⟨by omega, rfl⟩)
    · refine g_iload X330 hx (hb hby at_116) (v := (4 : Int32)) rfl (pc' := 118) rfl ?_
      refine g_iconst X330 hx (hb hby at_118) (v := 1) (by decide) (pc' := 119) rfl ?_
      refine g_ii_le X330 hx (a := 4) (b := 1) rfl rfl (hb hby at_119) (by decide) (pc' := 128) (by decide) (pc2 := 122) rfl (fun c365 => False.elim (by omega)) (fun c365 => ?_)
      refine g_iload X330 hx (hb hby at_122) (v := b16) rfl (pc' := 124) rfl ?_
      refine g_iconst X330 hx (hb hby at_124) (v := 1) (by decide) (pc' := 125) rfl ?_
      refine g_ii_eq X330 hx (a := b16.toInt) (b := 1) rfl rfl (hb hby at_125) (by decide) (pc' := 164) (by decide) (pc2 := 128) rfl (fun c366 => ?_) (fun c366 => ?_)
      · refine g_iconst X330 hx (hb hby at_164) (v := 1) (by decide) (pc' := 165) rfl ?_
        refine g_goto X330 hx (hb hby at_165) (by decide) (pc' := 169) (by decide) ?_
        exact J338 _ (by first | exact Or.inl ⟨by omega, rfl⟩ | exact Or.inr ⟨by omega, rfl⟩)
      · refine g_iload X330 hx (hb hby at_128) (v := (4 : Int32)) rfl (pc' := 130) rfl ?_
        refine g_iconst X330 hx (hb hby at_130) (v := 2) (by decide) (pc' := 131) rfl ?_
        refine g_ii_le X330 hx (a := 4) (b := 2) rfl rfl (hb hby at_131) (by decide) (pc' := 140) (by decide) (pc2 := 134) rfl (fun c367 => False.elim (by omega)) (fun c367 => ?_)
        refine g_iload X330 hx (hb hby at_134) (v := b24) rfl (pc' := 136) rfl ?_
        refine g_iconst X330 hx (hb hby at_136) (v := 2) (by decide) (pc' := 137) rfl ?_
        refine g_ii_eq X330 hx (a := b24.toInt) (b := 2) rfl rfl (hb hby at_137) (by decide) (pc' := 164) (by decide) (pc2 := 140) rfl (fun c368 => ?_) (fun c368 => ?_)
        · refine g_iconst X330 hx (hb hby at_164) (v := 1) (by decide) (pc' := 165) rfl ?_
          refine g_goto X330 hx (hb hby at_165) (by decide) (pc' := 169) (by decide) ?_
          exact J338 _ (by first | exact Or.inl ⟨by omega, rfl⟩ | exact Or.inr ⟨by omega, rfl⟩)
        · refine g_iload X330 hx (hb hby at_140) (v := (4 : Int32)) rfl (pc' := 142) rfl ?_
          refine g_iconst X330 hx (hb hby at_142) (v := 3) (by decide) (pc' := 143) rfl ?_
          refine g_ii_le X330 hx (a := 4) (b := 3) rfl rfl (hb hby at_143) (by decide) (pc' := 152) (by decide) (pc2 := 146) rfl (fun c369 => False.elim (by omega)) (fun c369 => ?_)
          refine g_iload X330 hx (hb hby at_146) (v := b32) rfl (pc' := 148) rfl ?_
          refine g_iconst X330 hx (hb hby at_148) (v := 3) (by decide) (pc' := 149) rfl ?_
          refine g_ii_eq X330 hx (a := b32.toInt) (b := 3) rfl rfl (hb hby at_149) (by decide) (pc' := 164) (by decide) (pc2 := 152) rfl (fun c370 => ?_) (fun c370 => ?_)
          · refine g_iconst X330 hx (hb hby at_164) (v := 1) (by decide) (pc' := 165) rfl ?_
            refine g_goto X330 hx (hb hby at_165) (by decide) (pc' := 169) (by decide) ?_
            exact J338 _ (by first | exact Or.inl ⟨by omega, rfl⟩ | exact Or.inr ⟨by omega, rfl⟩)
          · refine g_iload X330 hx (hb hby at_152) (v := (4 : Int32)) rfl (pc' := 154) rfl ?_
            refine g_iconst X330 hx (hb hby at_154) (v := 4) (by decide) (pc' := 155) rfl ?_
            refine g_ii_le X330 hx (a := 4) (b := 4) rfl rfl (hb hby at_155) (by decide) (pc' := 168) (by decide) (pc2 := 158) rfl (fun c371 => ?_) (fun c371 => False.elim (by omega))
            refine g_iconst X330 hx (hb hby at_168) (v := 0) (by decide) (pc' := 169) rfl ?_
            exact J338 _ (by first | exact Or.inl ⟨by omega, rfl⟩ | exact Or.inr ⟨by omega, rfl⟩)
  · show Goes p e s below (Q0 Z p0 p1 p2 p3 p4 p5 h0 n0) n0 room_1.cells room_1.slots T35 (mkF m 41 #[.val (.int p0), .val (.int p1), .val (.int p2), .val (.int p3), .val (.int p4), .val (.int p5), .val (.int (5 : Int32)), .val (.int b8), .val (.int b16), .val (.int b24), .val (.int b32), .val (.int b40), .unset, .unset, .unset, .unset] [])
    refine g_iload X37 hx (hb hby at_41) (v := (5 : Int32)) rfl (pc' := 43) rfl ?_
    refine g_newIA X37 hx hZ (hw _ (List.mem_of_getElem? (i := 5) rfl)) K41 (n := 5) rfl (cap := 5) (by decide) (by decide) (hb hby at_43) (by decide) (by decide) (pc' := 45) rfl (fun T372 h373 a374 g375 X376 e377 E378 l379 A380  => ?_)
    have Z381 : n0 ≤ h373.size := Nat.le_trans Z0 E378.1
    have nl382 : n0 ≤ a374 := by rw [g375]; exact Z0
    refine g_astore X376 hx (hb hby at_45) rfl (Ls' := #[.val (.int p0), .val (.int p1), .val (.int p2), .val (.int p3), .val (.int p4), .val (.int p5), .val (.int (5 : Int32)), .val (.int b8), .val (.int b16), .val (.int b24), .val (.int b32), .val (.int b40), .val (.ref a374), .unset, .unset, .unset]) rfl (pc' := 47) rfl ?_
    refine g_iload X376 hx (hb hby at_47) (v := (5 : Int32)) rfl (pc' := 49) rfl ?_
    refine g_i0_le X376 hx (a := 5) rfl (hb hby at_49) (by decide) (pc' := 58) (by decide) (pc2 := 52) rfl (fun c383 => False.elim (by omega)) (fun c383 => ?_)
    refine g_aload X376 hx (hb hby at_52) (v := (.ref a374)) rfl rfl (pc' := 54) rfl ?_
    refine g_iconst X376 hx (hb hby at_54) (v := 0) (by decide) (pc' := 55) rfl ?_
    refine g_iload X376 hx (hb hby at_55) (v := b8) rfl (pc' := 57) rfl ?_
    refine g_iastore X376 hx hZ e377 (k := 0) (x := b8) A380 rfl (by decide) N38 nl382 (hb hby at_57) (pc' := 58) rfl (fun T384 h385 L386 X387 e388 W389 N390 A391 => ?_)
    have Z392 : n0 ≤ h385.size := by rw [W389.size]; exact Z381
    refine g_iload X387 hx (hb hby at_58) (v := (5 : Int32)) rfl (pc' := 60) rfl ?_
    refine g_iconst X387 hx (hb hby at_60) (v := 1) (by decide) (pc' := 61) rfl ?_
    refine g_ii_le X387 hx (a := 5) (b := 1) rfl rfl (hb hby at_61) (by decide) (pc' := 70) (by decide) (pc2 := 64) rfl (fun c394 => False.elim (by omega)) (fun c394 => ?_)
    refine g_aload X387 hx (hb hby at_64) (v := (.ref a374)) rfl rfl (pc' := 66) rfl ?_
    refine g_iconst X387 hx (hb hby at_66) (v := 1) (by decide) (pc' := 67) rfl ?_
    refine g_iload X387 hx (hb hby at_67) (v := b16) rfl (pc' := 69) rfl ?_
    refine g_iastore X387 hx hZ e388 (k := 1) (x := b16) A391 rfl (by decide) N390 nl382 (hb hby at_69) (pc' := 70) rfl (fun T395 h396 L397 X398 e399 W400 N401 A402 => ?_)
    have Z403 : n0 ≤ h396.size := by rw [W400.size]; exact Z392
    refine g_iload X398 hx (hb hby at_70) (v := (5 : Int32)) rfl (pc' := 72) rfl ?_
    refine g_iconst X398 hx (hb hby at_72) (v := 2) (by decide) (pc' := 73) rfl ?_
    refine g_ii_le X398 hx (a := 5) (b := 2) rfl rfl (hb hby at_73) (by decide) (pc' := 82) (by decide) (pc2 := 76) rfl (fun c405 => False.elim (by omega)) (fun c405 => ?_)
    refine g_aload X398 hx (hb hby at_76) (v := (.ref a374)) rfl rfl (pc' := 78) rfl ?_
    refine g_iconst X398 hx (hb hby at_78) (v := 2) (by decide) (pc' := 79) rfl ?_
    refine g_iload X398 hx (hb hby at_79) (v := b24) rfl (pc' := 81) rfl ?_
    refine g_iastore X398 hx hZ e399 (k := 2) (x := b24) A402 rfl (by decide) N401 nl382 (hb hby at_81) (pc' := 82) rfl (fun T406 h407 L408 X409 e410 W411 N412 A413 => ?_)
    have Z414 : n0 ≤ h407.size := by rw [W411.size]; exact Z403
    refine g_iload X409 hx (hb hby at_82) (v := (5 : Int32)) rfl (pc' := 84) rfl ?_
    refine g_iconst X409 hx (hb hby at_84) (v := 3) (by decide) (pc' := 85) rfl ?_
    refine g_ii_le X409 hx (a := 5) (b := 3) rfl rfl (hb hby at_85) (by decide) (pc' := 94) (by decide) (pc2 := 88) rfl (fun c416 => False.elim (by omega)) (fun c416 => ?_)
    refine g_aload X409 hx (hb hby at_88) (v := (.ref a374)) rfl rfl (pc' := 90) rfl ?_
    refine g_iconst X409 hx (hb hby at_90) (v := 3) (by decide) (pc' := 91) rfl ?_
    refine g_iload X409 hx (hb hby at_91) (v := b32) rfl (pc' := 93) rfl ?_
    refine g_iastore X409 hx hZ e410 (k := 3) (x := b32) A413 rfl (by decide) N412 nl382 (hb hby at_93) (pc' := 94) rfl (fun T417 h418 L419 X420 e421 W422 N423 A424 => ?_)
    have Z425 : n0 ≤ h418.size := by rw [W422.size]; exact Z414
    refine g_iload X420 hx (hb hby at_94) (v := (5 : Int32)) rfl (pc' := 96) rfl ?_
    refine g_iconst X420 hx (hb hby at_96) (v := 4) (by decide) (pc' := 97) rfl ?_
    refine g_ii_le X420 hx (a := 5) (b := 4) rfl rfl (hb hby at_97) (by decide) (pc' := 106) (by decide) (pc2 := 100) rfl (fun c427 => False.elim (by omega)) (fun c427 => ?_)
    refine g_aload X420 hx (hb hby at_100) (v := (.ref a374)) rfl rfl (pc' := 102) rfl ?_
    refine g_iconst X420 hx (hb hby at_102) (v := 4) (by decide) (pc' := 103) rfl ?_
    refine g_iload X420 hx (hb hby at_103) (v := b40) rfl (pc' := 105) rfl ?_
    refine g_iastore X420 hx hZ e421 (k := 4) (x := b40) A424 rfl (by decide) N423 nl382 (hb hby at_105) (pc' := 106) rfl (fun T428 h429 L430 X431 e432 W433 N434 A435 => ?_)
    have Z436 : n0 ≤ h429.size := by rw [W433.size]; exact Z425
    have J438 : ∀ (fxd : Int32), ((b8.toInt = 0 ∨ b16.toInt = 1 ∨ b24.toInt = 2 ∨ b32.toInt = 3 ∨ b40.toInt = 4) ∧ fxd.toInt = 1 ∨ ¬ (b8.toInt = 0 ∨ b16.toInt = 1 ∨ b24.toInt = 2 ∨ b32.toInt = 3 ∨ b40.toInt = 4) ∧ fxd.toInt = 0) → Goes p e s below (Q0 Z p0 p1 p2 p3 p4 p5 h0 n0) n0 room_1.cells room_1.slots T428 (mkF m 169 #[.val (.int p0), .val (.int p1), .val (.int p2), .val (.int p3), .val (.int p4), .val (.int p5), .val (.int (5 : Int32)), .val (.int b8), .val (.int b16), .val (.int b24), .val (.int b32), .val (.int b40), .val (.ref a374), .unset, .unset, .unset] [(.int fxd)]) := by
      intro fxd j439
      refine g_istore X431 hx (hb hby at_169) (Ls' := #[.val (.int p0), .val (.int p1), .val (.int p2), .val (.int p3), .val (.int p4), .val (.int p5), .val (.int (5 : Int32)), .val (.int b8), .val (.int b16), .val (.int b24), .val (.int b32), .val (.int b40), .val (.ref a374), .val (.int fxd), .unset, .unset]) rfl (pc' := 171) rfl ?_
      refine g_aload X431 hx (hb hby at_171) (v := (.ref a374)) rfl rfl (pc' := 173) rfl ?_
      refine g_static X431 hx hZ hown (hw _ (List.mem_of_getElem? (i := 6) rfl)) (hw _ (List.mem_of_getElem? (i := 7) rfl)) (hw _ (List.mem_of_getElem? (i := 8) rfl)) (hw _ (List.mem_of_getElem? (i := 9) rfl)) (by decide) (argsL := [(.ref a374)]) (rm2 l Z a0 hw a374 5 (oupd (oupd (oupd (oupd (oupd zeroI 0 b8) 1 b16) 2 b24) 3 b32) 4 b40) h429 n0 Z436 A435) rfl e432 (by rw [hml]; rfl) pd_1 rfl (rest := []) rfl (W := 0) (Nat.le_of_eq rfl) (by decide) (by decide) (by decide) (by decide) N434 (hb hby at_173) (pc' := 176) rfl (fun v440 T441 L442 X443 N444 q445 => ?_)
      obtain ⟨b446, rfl, f447, K448⟩ := q445
      show Goes p e s below (Q0 Z p0 p1 p2 p3 p4 p5 h0 n0) n0 room_1.cells room_1.slots T441 (mkF m 176 #[.val (.int p0), .val (.int p1), .val (.int p2), .val (.int p3), .val (.int p4), .val (.int p5), .val (.int (5 : Int32)), .val (.int b8), .val (.int b16), .val (.int b24), .val (.int b32), .val (.int b40), .val (.ref a374), .val (.int fxd), .unset, .unset] [(.int b446)])
      refine g_istore X443 hx (hb hby at_176) (Ls' := #[.val (.int p0), .val (.int p1), .val (.int p2), .val (.int p3), .val (.int p4), .val (.int p5), .val (.int (5 : Int32)), .val (.int b8), .val (.int b16), .val (.int b24), .val (.int b32), .val (.int b40), .val (.ref a374), .val (.int fxd), .val (.int b446), .unset]) rfl (pc' := 178) rfl ?_
      have G : (b8.toInt = 0 ∨ b16.toInt = 1 ∨ b24.toInt = 2 ∨ b32.toInt = 3 ∨ b40.toInt = 4) ∧ b446.toInt = 0 ∨ ¬ (b8.toInt = 0 ∨ b16.toInt = 1 ∨ b24.toInt = 2 ∨ b32.toInt = 3 ∨ b40.toInt = 4) ∧ b446.toInt = 1 := by
        have e0 : ((oupd (oupd (oupd (oupd (oupd zeroI 0 b8) 1 b16) 2 b24) 3 b32) 4 b40) 0).toInt = b8.toInt := rfl
        have e1 : ((oupd (oupd (oupd (oupd (oupd zeroI 0 b8) 1 b16) 2 b24) 3 b32) 4 b40) 1).toInt = b16.toInt := rfl
        have e2 : ((oupd (oupd (oupd (oupd (oupd zeroI 0 b8) 1 b16) 2 b24) 3 b32) 4 b40) 2).toInt = b24.toInt := rfl
        have e3 : ((oupd (oupd (oupd (oupd (oupd zeroI 0 b8) 1 b16) 2 b24) 3 b32) 4 b40) 3).toInt = b32.toInt := rfl
        have e4 : ((oupd (oupd (oupd (oupd (oupd zeroI 0 b8) 1 b16) 2 b24) 3 b32) 4 b40) 4).toInt = b40.toInt := rfl
        rcases f447 with ⟨q, hb1⟩ | ⟨⟨i, hi, he⟩, hb1⟩
        · refine Or.inr ⟨?_, hb1⟩
          have q0 := q 0 (by omega); rw [e0] at q0
          have q1 := q 1 (by omega); rw [e1] at q1
          have q2 := q 2 (by omega); rw [e2] at q2
          have q3 := q 3 (by omega); rw [e3] at q3
          have q4 := q 4 (by omega); rw [e4] at q4
          omega
        · refine Or.inl ⟨?_, hb1⟩
          have hi2 : i = 0 ∨ i = 1 ∨ i = 2 ∨ i = 3 ∨ i = 4 := by omega
          rcases hi2 with rfl | rfl | rfl | rfl | rfl <;> omega
      clear f447
      refine g_iload X443 hx (hb hby at_178) (v := (5 : Int32)) rfl (pc' := 180) rfl ?_
      refine g_i0_le X443 hx (a := 5) rfl (hb hby at_180) (by decide) (pc' := 192) (by decide) (pc2 := 183) rfl (fun c449 => False.elim (by omega)) (fun c449 => ?_)
      refine g_aload X443 hx (hb hby at_183) (v := (.ref a374)) rfl rfl (pc' := 185) rfl ?_
      refine g_iconst X443 hx (hb hby at_185) (v := 0) (by decide) (pc' := 186) rfl ?_
      refine g_iaload X443 hx hZ K448 (k := 0) A435 rfl (by decide) (hb hby at_186) (pc' := 187) rfl ?_
      show Goes p e s below (Q0 Z p0 p1 p2 p3 p4 p5 h0 n0) n0 room_1.cells room_1.slots T441 (mkF m 187 #[.val (.int p0), .val (.int p1), .val (.int p2), .val (.int p3), .val (.int p4), .val (.int p5), .val (.int (5 : Int32)), .val (.int b8), .val (.int b16), .val (.int b24), .val (.int b32), .val (.int b40), .val (.ref a374), .val (.int fxd), .val (.int b446), .unset] [(.int b8)])
      refine g_iload X443 hx (hb hby at_187) (v := b8) rfl (pc' := 189) rfl ?_
      refine g_ii_ne X443 hx (a := b8.toInt) (b := b8.toInt) rfl rfl (hb hby at_189) (by decide) (pc' := 256) (by decide) (pc2 := 192) rfl (fun c450 => False.elim (by omega)) (fun c450 => ?_)
      refine g_iload X443 hx (hb hby at_192) (v := (5 : Int32)) rfl (pc' := 194) rfl ?_
      refine g_iconst X443 hx (hb hby at_194) (v := 1) (by decide) (pc' := 195) rfl ?_
      refine g_ii_le X443 hx (a := 5) (b := 1) rfl rfl (hb hby at_195) (by decide) (pc' := 207) (by decide) (pc2 := 198) rfl (fun c451 => False.elim (by omega)) (fun c451 => ?_)
      refine g_aload X443 hx (hb hby at_198) (v := (.ref a374)) rfl rfl (pc' := 200) rfl ?_
      refine g_iconst X443 hx (hb hby at_200) (v := 1) (by decide) (pc' := 201) rfl ?_
      refine g_iaload X443 hx hZ K448 (k := 1) A435 rfl (by decide) (hb hby at_201) (pc' := 202) rfl ?_
      show Goes p e s below (Q0 Z p0 p1 p2 p3 p4 p5 h0 n0) n0 room_1.cells room_1.slots T441 (mkF m 202 #[.val (.int p0), .val (.int p1), .val (.int p2), .val (.int p3), .val (.int p4), .val (.int p5), .val (.int (5 : Int32)), .val (.int b8), .val (.int b16), .val (.int b24), .val (.int b32), .val (.int b40), .val (.ref a374), .val (.int fxd), .val (.int b446), .unset] [(.int b16)])
      refine g_iload X443 hx (hb hby at_202) (v := b16) rfl (pc' := 204) rfl ?_
      refine g_ii_ne X443 hx (a := b16.toInt) (b := b16.toInt) rfl rfl (hb hby at_204) (by decide) (pc' := 256) (by decide) (pc2 := 207) rfl (fun c452 => False.elim (by omega)) (fun c452 => ?_)
      refine g_iload X443 hx (hb hby at_207) (v := (5 : Int32)) rfl (pc' := 209) rfl ?_
      refine g_iconst X443 hx (hb hby at_209) (v := 2) (by decide) (pc' := 210) rfl ?_
      refine g_ii_le X443 hx (a := 5) (b := 2) rfl rfl (hb hby at_210) (by decide) (pc' := 222) (by decide) (pc2 := 213) rfl (fun c453 => False.elim (by omega)) (fun c453 => ?_)
      refine g_aload X443 hx (hb hby at_213) (v := (.ref a374)) rfl rfl (pc' := 215) rfl ?_
      refine g_iconst X443 hx (hb hby at_215) (v := 2) (by decide) (pc' := 216) rfl ?_
      refine g_iaload X443 hx hZ K448 (k := 2) A435 rfl (by decide) (hb hby at_216) (pc' := 217) rfl ?_
      show Goes p e s below (Q0 Z p0 p1 p2 p3 p4 p5 h0 n0) n0 room_1.cells room_1.slots T441 (mkF m 217 #[.val (.int p0), .val (.int p1), .val (.int p2), .val (.int p3), .val (.int p4), .val (.int p5), .val (.int (5 : Int32)), .val (.int b8), .val (.int b16), .val (.int b24), .val (.int b32), .val (.int b40), .val (.ref a374), .val (.int fxd), .val (.int b446), .unset] [(.int b24)])
      refine g_iload X443 hx (hb hby at_217) (v := b24) rfl (pc' := 219) rfl ?_
      refine g_ii_ne X443 hx (a := b24.toInt) (b := b24.toInt) rfl rfl (hb hby at_219) (by decide) (pc' := 256) (by decide) (pc2 := 222) rfl (fun c454 => False.elim (by omega)) (fun c454 => ?_)
      refine g_iload X443 hx (hb hby at_222) (v := (5 : Int32)) rfl (pc' := 224) rfl ?_
      refine g_iconst X443 hx (hb hby at_224) (v := 3) (by decide) (pc' := 225) rfl ?_
      refine g_ii_le X443 hx (a := 5) (b := 3) rfl rfl (hb hby at_225) (by decide) (pc' := 237) (by decide) (pc2 := 228) rfl (fun c455 => False.elim (by omega)) (fun c455 => ?_)
      refine g_aload X443 hx (hb hby at_228) (v := (.ref a374)) rfl rfl (pc' := 230) rfl ?_
      refine g_iconst X443 hx (hb hby at_230) (v := 3) (by decide) (pc' := 231) rfl ?_
      refine g_iaload X443 hx hZ K448 (k := 3) A435 rfl (by decide) (hb hby at_231) (pc' := 232) rfl ?_
      show Goes p e s below (Q0 Z p0 p1 p2 p3 p4 p5 h0 n0) n0 room_1.cells room_1.slots T441 (mkF m 232 #[.val (.int p0), .val (.int p1), .val (.int p2), .val (.int p3), .val (.int p4), .val (.int p5), .val (.int (5 : Int32)), .val (.int b8), .val (.int b16), .val (.int b24), .val (.int b32), .val (.int b40), .val (.ref a374), .val (.int fxd), .val (.int b446), .unset] [(.int b32)])
      refine g_iload X443 hx (hb hby at_232) (v := b32) rfl (pc' := 234) rfl ?_
      refine g_ii_ne X443 hx (a := b32.toInt) (b := b32.toInt) rfl rfl (hb hby at_234) (by decide) (pc' := 256) (by decide) (pc2 := 237) rfl (fun c456 => False.elim (by omega)) (fun c456 => ?_)
      refine g_iload X443 hx (hb hby at_237) (v := (5 : Int32)) rfl (pc' := 239) rfl ?_
      refine g_iconst X443 hx (hb hby at_239) (v := 4) (by decide) (pc' := 240) rfl ?_
      refine g_ii_le X443 hx (a := 5) (b := 4) rfl rfl (hb hby at_240) (by decide) (pc' := 252) (by decide) (pc2 := 243) rfl (fun c457 => False.elim (by omega)) (fun c457 => ?_)
      refine g_aload X443 hx (hb hby at_243) (v := (.ref a374)) rfl rfl (pc' := 245) rfl ?_
      refine g_iconst X443 hx (hb hby at_245) (v := 4) (by decide) (pc' := 246) rfl ?_
      refine g_iaload X443 hx hZ K448 (k := 4) A435 rfl (by decide) (hb hby at_246) (pc' := 247) rfl ?_
      show Goes p e s below (Q0 Z p0 p1 p2 p3 p4 p5 h0 n0) n0 room_1.cells room_1.slots T441 (mkF m 247 #[.val (.int p0), .val (.int p1), .val (.int p2), .val (.int p3), .val (.int p4), .val (.int p5), .val (.int (5 : Int32)), .val (.int b8), .val (.int b16), .val (.int b24), .val (.int b32), .val (.int b40), .val (.ref a374), .val (.int fxd), .val (.int b446), .unset] [(.int b40)])
      refine g_iload X443 hx (hb hby at_247) (v := b40) rfl (pc' := 249) rfl ?_
      refine g_ii_ne X443 hx (a := b40.toInt) (b := b40.toInt) rfl rfl (hb hby at_249) (by decide) (pc' := 256) (by decide) (pc2 := 252) rfl (fun c458 => False.elim (by omega)) (fun c458 => ?_)
      refine g_iconst X443 hx (hb hby at_252) (v := 1) (by decide) (pc' := 253) rfl ?_
      refine g_goto X443 hx (hb hby at_253) (by decide) (pc' := 257) (by decide) ?_
      refine g_istore X443 hx (hb hby at_257) (Ls' := #[.val (.int p0), .val (.int p1), .val (.int p2), .val (.int p3), .val (.int p4), .val (.int p5), .val (.int (5 : Int32)), .val (.int b8), .val (.int b16), .val (.int b24), .val (.int b32), .val (.int b40), .val (.ref a374), .val (.int fxd), .val (.int b446), .val (.int (1 : Int32))]) rfl (pc' := 259) rfl ?_
      refine g_iload X443 hx (hb hby at_259) (v := b446) rfl (pc' := 261) rfl ?_
      refine g_iload X443 hx (hb hby at_261) (v := fxd) rfl (pc' := 263) rfl ?_
      refine g_i0_ne X443 hx (a := fxd.toInt) rfl (hb hby at_263) (by decide) (pc' := 270) (by decide) (pc2 := 266) rfl (fun c459 => ?_) (fun c459 => ?_)
      · refine g_iconst X443 hx (hb hby at_270) (v := 0) (by decide) (pc' := 271) rfl ?_
        refine g_ii_ne X443 hx (a := b446.toInt) (b := 0) rfl rfl (hb hby at_271) (by decide) (pc' := 283) (by decide) (pc2 := 274) rfl (fun c460 => False.elim (by omega)) (fun c460 => ?_)
        refine g_iload X443 hx (hb hby at_274) (v := (1 : Int32)) rfl (pc' := 276) rfl ?_
        refine g_i0_eq X443 hx (a := 1) rfl (hb hby at_276) (by decide) (pc' := 283) (by decide) (pc2 := 279) rfl (fun c461 => False.elim (by omega)) (fun c461 => ?_)
        refine g_iconst X443 hx (hb hby at_279) (v := 1) (by decide) (pc' := 280) rfl ?_
        refine g_goto X443 hx (hb hby at_280) (by decide) (pc' := 284) (by decide) ?_
        refine g_retZ X443 hx hlk (by decide) hret (hb hby at_284) N444 (by decide) (by decide) ?_
        exact rfl
      · refine g_iconst X443 hx (hb hby at_266) (v := 1) (by decide) (pc' := 267) rfl ?_
        refine g_goto X443 hx (hb hby at_267) (by decide) (pc' := 271) (by decide) ?_
        refine g_ii_ne X443 hx (a := b446.toInt) (b := 1) rfl rfl (hb hby at_271) (by decide) (pc' := 283) (by decide) (pc2 := 274) rfl (fun c462 => False.elim (by omega)) (fun c462 => ?_)
        refine g_iload X443 hx (hb hby at_274) (v := (1 : Int32)) rfl (pc' := 276) rfl ?_
        refine g_i0_eq X443 hx (a := 1) rfl (hb hby at_276) (by decide) (pc' := 283) (by decide) (pc2 := 279) rfl (fun c463 => False.elim (by omega)) (fun c463 => ?_)
        refine g_iconst X443 hx (hb hby at_279) (v := 1) (by decide) (pc' := 280) rfl ?_
        refine g_goto X443 hx (hb hby at_280) (by decide) (pc' := 284) (by decide) ?_
        refine g_retZ X443 hx hlk (by decide) hret (hb hby at_284) N444 (by decide) (by decide) ?_
        exact rfl
    refine g_iload X431 hx (hb hby at_106) (v := (5 : Int32)) rfl (pc' := 108) rfl ?_
    refine g_i0_le X431 hx (a := 5) rfl (hb hby at_108) (by decide) (pc' := 116) (by decide) (pc2 := 111) rfl (fun c464 => False.elim (by omega)) (fun c464 => ?_)
    refine g_iload X431 hx (hb hby at_111) (v := b8) rfl (pc' := 113) rfl ?_
    refine g_i0_eq X431 hx (a := b8.toInt) rfl (hb hby at_113) (by decide) (pc' := 164) (by decide) (pc2 := 116) rfl (fun c465 => ?_) (fun c465 => ?_)
    · refine g_iconst X431 hx (hb hby at_164) (v := 1) (by decide) (pc' := 165) rfl ?_
      refine g_goto X431 hx (hb hby at_165) (by decide) (pc' := 169) (by decide) ?_
      exact J438 _ (by first | exact Or.inl ⟨by omega, rfl⟩ | exact Or.inr ⟨by omega, rfl⟩)
    · refine g_iload X431 hx (hb hby at_116) (v := (5 : Int32)) rfl (pc' := 118) rfl ?_
      refine g_iconst X431 hx (hb hby at_118) (v := 1) (by decide) (pc' := 119) rfl ?_
      refine g_ii_le X431 hx (a := 5) (b := 1) rfl rfl (hb hby at_119) (by decide) (pc' := 128) (by decide) (pc2 := 122) rfl (fun c466 => False.elim (by omega)) (fun c466 => ?_)
      refine g_iload X431 hx (hb hby at_122) (v := b16) rfl (pc' := 124) rfl ?_
      refine g_iconst X431 hx (hb hby at_124) (v := 1) (by decide) (pc' := 125) rfl ?_
      refine g_ii_eq X431 hx (a := b16.toInt) (b := 1) rfl rfl (hb hby at_125) (by decide) (pc' := 164) (by decide) (pc2 := 128) rfl (fun c467 => ?_) (fun c467 => ?_)
      · refine g_iconst X431 hx (hb hby at_164) (v := 1) (by decide) (pc' := 165) rfl ?_
        refine g_goto X431 hx (hb hby at_165) (by decide) (pc' := 169) (by decide) ?_
        exact J438 _ (by first | exact Or.inl ⟨by omega, rfl⟩ | exact Or.inr ⟨by omega, rfl⟩)
      · refine g_iload X431 hx (hb hby at_128) (v := (5 : Int32)) rfl (pc' := 130) rfl ?_
        refine g_iconst X431 hx (hb hby at_130) (v := 2) (by decide) (pc' := 131) rfl ?_
        refine g_ii_le X431 hx (a := 5) (b := 2) rfl rfl (hb hby at_131) (by decide) (pc' := 140) (by decide) (pc2 := 134) rfl (fun c468 => False.elim (by omega)) (fun c468 => ?_)
        refine g_iload X431 hx (hb hby at_134) (v := b24) rfl (pc' := 136) rfl ?_
        refine g_iconst X431 hx (hb hby at_136) (v := 2) (by decide) (pc' := 137) rfl ?_
        refine g_ii_eq X431 hx (a := b24.toInt) (b := 2) rfl rfl (hb hby at_137) (by decide) (pc' := 164) (by decide) (pc2 := 140) rfl (fun c469 => ?_) (fun c469 => ?_)
        · refine g_iconst X431 hx (hb hby at_164) (v := 1) (by decide) (pc' := 165) rfl ?_
          refine g_goto X431 hx (hb hby at_165) (by decide) (pc' := 169) (by decide) ?_
          exact J438 _ (by first | exact Or.inl ⟨by omega, rfl⟩ | exact Or.inr ⟨by omega, rfl⟩)
        · refine g_iload X431 hx (hb hby at_140) (v := (5 : Int32)) rfl (pc' := 142) rfl ?_
          refine g_iconst X431 hx (hb hby at_142) (v := 3) (by decide) (pc' := 143) rfl ?_
          refine g_ii_le X431 hx (a := 5) (b := 3) rfl rfl (hb hby at_143) (by decide) (pc' := 152) (by decide) (pc2 := 146) rfl (fun c470 => False.elim (by omega)) (fun c470 => ?_)
          refine g_iload X431 hx (hb hby at_146) (v := b32) rfl (pc' := 148) rfl ?_
          refine g_iconst X431 hx (hb hby at_148) (v := 3) (by decide) (pc' := 149) rfl ?_
          refine g_ii_eq X431 hx (a := b32.toInt) (b := 3) rfl rfl (hb hby at_149) (by decide) (pc' := 164) (by decide) (pc2 := 152) rfl (fun c471 => ?_) (fun c471 => ?_)
          · refine g_iconst X431 hx (hb hby at_164) (v := 1) (by decide) (pc' := 165) rfl ?_
            refine g_goto X431 hx (hb hby at_165) (by decide) (pc' := 169) (by decide) ?_
            exact J438 _ (by first | exact Or.inl ⟨by omega, rfl⟩ | exact Or.inr ⟨by omega, rfl⟩)
          · refine g_iload X431 hx (hb hby at_152) (v := (5 : Int32)) rfl (pc' := 154) rfl ?_
            refine g_iconst X431 hx (hb hby at_154) (v := 4) (by decide) (pc' := 155) rfl ?_
            refine g_ii_le X431 hx (a := 5) (b := 4) rfl rfl (hb hby at_155) (by decide) (pc' := 168) (by decide) (pc2 := 158) rfl (fun c472 => False.elim (by omega)) (fun c472 => ?_)
            refine g_iload X431 hx (hb hby at_158) (v := b40) rfl (pc' := 160) rfl ?_
            refine g_iconst X431 hx (hb hby at_160) (v := 4) (by decide) (pc' := 161) rfl ?_
            refine g_ii_ne X431 hx (a := b40.toInt) (b := 4) rfl rfl (hb hby at_161) (by decide) (pc' := 168) (by decide) (pc2 := 164) rfl (fun c473 => ?_) (fun c473 => ?_)
            · refine g_iconst X431 hx (hb hby at_168) (v := 0) (by decide) (pc' := 169) rfl ?_
              exact J438 _ (by first | exact Or.inl ⟨by omega, rfl⟩ | exact Or.inr ⟨by omega, rfl⟩)
            · refine g_iconst X431 hx (hb hby at_164) (v := 1) (by decide) (pc' := 165) rfl ?_
              refine g_goto X431 hx (hb hby at_165) (by decide) (pc' := 169) (by decide) ?_
              exact J438 _ (by first | exact Or.inl ⟨by omega, rfl⟩ | exact Or.inr ⟨by omega, rfl⟩)
set_option maxRecDepth 65536 in
set_option maxHeartbeats 40000000 in
theorem comes_1 {Post : Tables → Env → Array Value → State → Outcome → State → Prop} (hpost : ∀ tb e args s v u, (limb_1_1.after args s (.returned v) u = true ∧ limb_1_2.after args s (.returned v) u = true ∧ True) → FrameEnd s (.returned v) u (Jvm.fieldLocs frame_1_writes args s ++ Jvm.arrayLocs frame_1_arrays args s ++ Jvm.staticLocs frame_1_statics s) 16 128 → Post tb e args s (.returned v) u) :
    ArmFor flags0 classFile x code maxLocals ret World_1 tables_1 room_1 Calls_1 rest_1 Pre_1 Post := by
  intro l hfl _ _ p e ha hc hk s m args below hf hA hF happ hP
  obtain ⟨hcalls, hrest, hpre⟩ := hP
  obtain ⟨-, -, -, hnamed, -, -, -, hat⟩ := (Spec.applies_iff hf).mp happ
  obtain ⟨hg, hn⟩ := and_e (Cond.before_iff.mp (show (Jvm.Cond.and given_1 narrow_1).before args s = true from hpre))
  obtain ⟨hcount, k0⟩ := and_e hg
  obtain ⟨g0, k1⟩ := and_e k0
  obtain ⟨g1, k2⟩ := and_e k1
  obtain ⟨g2, k3⟩ := and_e k2
  obtain ⟨g3, k4⟩ := and_e k3
  obtain ⟨g4, k5⟩ := and_e k4
  have g5 := k5
  obtain ⟨w0, w1, w2, w3, w4, w5, rfl⟩ : ∃ w0 w1 w2 w3 w4 w5 : Value, args = #[w0, w1, w2, w3, w4, w5] := by
    have hs : args.size = 6 := by simpa [Cond.value, given_1] using hcount
    obtain ⟨L⟩ := args
    match L, hs with
    | [w0, w1, w2, w3, w4, w5], _ => exact ⟨w0, w1, w2, w3, w4, w5, rfl⟩
  have hw := fun d (hd : d ∈ tables_1) => atoms_spec (ws := Jvm.Cond.code x code maxLocals ret :: tables_1) hat d (List.mem_cons_of_mem _ hd)
  obtain ⟨i0, z0⟩ := is_v g0
  obtain rfl : w0 = (.int i0) := Option.some.inj z0
  obtain ⟨i1, z1⟩ := is_v g1
  obtain rfl : w1 = (.int i1) := Option.some.inj z1
  obtain ⟨i2, z2⟩ := is_v g2
  obtain rfl : w2 = (.int i2) := Option.some.inj z2
  obtain ⟨i3, z3⟩ := is_v g3
  obtain rfl : w3 = (.int i3) := Option.some.inj z3
  obtain ⟨i4, z4⟩ := is_v g4
  obtain rfl : w4 = (.int i4) := Option.some.inj z4
  obtain ⟨i5, z5⟩ := is_v g5
  obtain rfl : w5 = (.int i5) := Option.some.inj z5
  obtain ⟨n, o, h1, h2, h3, _, L, rfl, ⟨N, rfl⟩, hq⟩ := rm0 l s _ hw tables_1 i0 i1 i2 i3 i4 i5  s.heap s.heap.size (Nat.le_refl _)  p e ha hc hk s m _ below hf ((Spec.applies_iff_loose hf).mp happ).1 ⟨rfl, State.Warmed39.refl s, rfl⟩ trivial
  exact ⟨n, _, h1, h2, h3, hpost _ _ _ _ _ _ ⟨Cond.after_iff.mpr rfl, Cond.after_iff.mpr (eq_i res_at (Term.int_eval (1)) rfl), trivial⟩ ⟨hq.1, hq.2.1, (hq.2.2.sift fun y hy => Or.inr (N y hy)).mono (by decide) (by decide)⟩⟩
theorem main_1_1 : Claimed_1_1 := comes_1 fun _ _ _ _ _ _ h hF => ⟨h.1, hF⟩
theorem main_1_2 : Claimed_1_2 := comes_1 fun _ _ _ _ _ _ h hF => ⟨h.2.1, hF⟩
end Jvm.Pilot.@@N@@
namespace Jvm.Pilot.@@N@@
open Jvm Jvm.ClassFile Sem Op Lib Jvm.Free Jvm.Stand Jvm.Pilot.@@N@@.Jvm.D
/-! MADE BY PROGRAM (witnessworld.py) out of the Statement's table words and the real class files: 9 classes; the members and pool entries that the words name. The judged class is class 1, her method 2. -/
namespace start1
open Jvm.ClassFile
def u (s : String) : CpInfo := .utf8 (stringToUtf16 s)
/-- a pool by its gaps: so many unusable entries, then the entry; so many at the end -/
def gap : Nat → List CpInfo → List CpInfo
  | 0, r => r
  | n + 1, r => .unusable :: gap n r
def poolList (es : List (Nat × CpInfo)) (last : Nat) : List CpInfo := es.foldr (fun e r => gap e.1 (e.2 :: r)) (gap last [])
def pool (es : List (Nat × CpInfo)) (last : Nat) : Array CpInfo := ⟨poolList es last⟩
def fileOf (pool : Array CpInfo) (this : Nat) (attrs : Array Attribute := #[]) (ms : Array MethodInfo := #[]) (fl : Nat := 33) (sup : Nat := 0) (ifs : Array Nat := #[]) (fds : Array FieldInfo := #[]) : ClassFile where
  minorVersion := 0
  majorVersion := 65
  constantPool := pool
  accessFlags := fl
  thisClass := this
  superClass := sup
  interfaces := ifs
  fields := fds
  methods := ms
  attributes := attrs
def plain (name : String) (sup : Option ClassId) : Class where
  name := name
  kind := .ordinary
  loader := none
  accessFlags := 33
  super := sup
  interfaces := #[]
  cf := none
  fields := #[]
  methods := #[]
  instanceTypes := #[]
  staticTypes := #[]
  resolved := #[]
  callSites := []
  init := .initialized
  statics := none
  mirror := none

def pool0 : Array CpInfo := pool [(5, u "<init>"), (0, u "()V"), (1, .class_ 10), (1, u "java/lang/Object")] 113

def k0m0 : Method := { name := "<init>", desc := "()V", sig := { parameters := [], returnType := none }, accessFlags := 1, code := none }
/-- java/lang/Object -/
def k0 : Class := { plain "java/lang/Object" none with
  accessFlags := 33
  interfaces := #[]
  cf := some (fileOf pool0 8 #[] #[{ accessFlags := 1, nameIndex := 5, descriptorIndex := 6, attributes := #[] }] 33 0 #[] #[])
  fields := #[]
  methods := #[k0m0]
  instanceTypes := #[]
  staticTypes := #[]
  resolved := Array.replicate 124 none
  statics := none }

def pool1 : Array CpInfo := pool [(2, .class_ 4), (1, u "java/lang/Object"), (0, u "<init>"), (0, u "()V"), (0, .integer 2147483647), (0, .methodref 9 10), (0, .class_ 11), (0, .nameAndType 12 13), (0, u "com/example/lightloom/lightloom/sim/PermutationsFixesNoPointPinLaw"), (0, u "entry"), (0, u "(I)I"), (0, .methodref 15 16), (0, .class_ 17), (0, .nameAndType 18 19), (0, u "com/example/lightloom/lightloom/sim/Permutations"), (0, u "fixesNoPoint"), (0, u "([I)Z"), (3, u "law"), (0, u "(IIIIII)Z")] 4

def k1m0 : Method := { name := "<init>", desc := "()V", sig := { parameters := [], returnType := none }, accessFlags := 2, code := none }
def k1c1 : Code := { maxStack := 2, maxLocals := 1, code := method_2_code, exceptionTable := #[], attributes := #[] }
def k1m1 : Method := { name := "entry", desc := "(I)I", sig := { parameters := [.int], returnType := some .int }, accessFlags := 10, code := some k1c1 }
def k1c2 : Code := { maxStack := 3, maxLocals := 16, code := code, exceptionTable := #[], attributes := #[] }
def k1m2 : Method := { name := "law", desc := "(IIIIII)Z", sig := { parameters := [.int, .int, .int, .int, .int, .int], returnType := some .boolean }, accessFlags := 9, code := some k1c2 }
/-- com/example/lightloom/lightloom/sim/PermutationsFixesNoPointPinLaw -/
def k1 : Class := { plain "com/example/lightloom/lightloom/sim/PermutationsFixesNoPointPinLaw" (some 0) with
  accessFlags := 49
  interfaces := #[]
  cf := some (fileOf pool1 9 #[] #[{ accessFlags := 2, nameIndex := 5, descriptorIndex := 6, attributes := #[] }, { accessFlags := 10, nameIndex := 12, descriptorIndex := 13, attributes := #[] }, { accessFlags := 9, nameIndex := 23, descriptorIndex := 24, attributes := #[] }] 49 2 #[] #[])
  fields := #[]
  methods := #[k1m0, k1m1, k1m2]
  instanceTypes := #[]
  staticTypes := #[]
  resolved := Array.replicate 29 none
  statics := none }

def pool2 : Array CpInfo := pool [(2, .class_ 4), (1, u "java/lang/Object"), (0, u "<init>"), (0, u "()V"), (1, .class_ 10), (1, u "com/example/lightloom/lightloom/sim/Permutations"), (11, u "fixesNoPoint"), (0, u "([I)Z")] 2

def k2m0 : Method := { name := "<init>", desc := "()V", sig := { parameters := [], returnType := none }, accessFlags := 2, code := none }
def k2c1 : Code := { maxStack := 2, maxLocals := 2, code := prog_49_method_4_code, exceptionTable := #[], attributes := #[] }
def k2m1 : Method := { name := "fixesNoPoint", desc := "([I)Z", sig := { parameters := [(.array .int)], returnType := some .boolean }, accessFlags := 8, code := some k2c1 }
/-- com/example/lightloom/lightloom/sim/Permutations -/
def k2 : Class := { plain "com/example/lightloom/lightloom/sim/Permutations" (some 0) with
  accessFlags := 48
  interfaces := #[]
  cf := some (fileOf pool2 8 #[] #[{ accessFlags := 2, nameIndex := 5, descriptorIndex := 6, attributes := #[] }, { accessFlags := 8, nameIndex := 22, descriptorIndex := 23, attributes := #[] }] 48 2 #[] #[])
  fields := #[]
  methods := #[k2m0, k2m1]
  instanceTypes := #[]
  staticTypes := #[]
  resolved := Array.replicate 26 none
  statics := none }

def pool3 : Array CpInfo := pool [(1, u "java/lang/Cloneable"), (0, .class_ 1), (0, u "java/lang/Object"), (0, .class_ 3)] 3

/-- java/lang/Cloneable -/
def k3 : Class := { plain "java/lang/Cloneable" (some 0) with
  accessFlags := 1537
  interfaces := #[]
  cf := some (fileOf pool3 2 #[] #[] 1537 4 #[] #[])
  fields := #[]
  methods := #[]
  instanceTypes := #[]
  staticTypes := #[]
  resolved := Array.replicate 8 none
  statics := none }

def pool4 : Array CpInfo := pool [(1, u "java/io/Serializable"), (0, .class_ 1), (0, u "java/lang/Object"), (0, .class_ 3)] 3

/-- java/io/Serializable -/
def k4 : Class := { plain "java/io/Serializable" (some 0) with
  accessFlags := 1537
  interfaces := #[]
  cf := some (fileOf pool4 2 #[] #[] 1537 4 #[] #[])
  fields := #[]
  methods := #[]
  instanceTypes := #[]
  staticTypes := #[]
  resolved := Array.replicate 8 none
  statics := none }

/-- the primitive byte -/
def k5 : Class := { plain "byte" none with kind := .primitive 'B', accessFlags := 0x411 }
/-- [B -/
def k6 : Class := { plain "[B" (some 0) with kind := .array 5 .byte, interfaces := #[3, 4], accessFlags := 1041 }

/-- the primitive int -/
def k7 : Class := { plain "int" none with kind := .primitive 'I', accessFlags := 0x411 }
/-- [I -/
def k8 : Class := { plain "[I" (some 0) with kind := .array 7 .int, interfaces := #[3, 4], accessFlags := 1041 }

def heap : Heap := #[]
def classes : Array Class := #[k0, k1, k2, k3, k4, k5, k6, k7, k8]
def interned : List (Array UInt16 × Addr) := []
def slotsUsed : Nat := 0
def theMethod : MethodId := ⟨1, 2⟩
def args0 : Array Value := #[.int 5, .int 300, .int 7, .int 2, .int 1, .int 8]
def aboutOver (below : List Frame) : State where
  vm := { classes := classes, interned := interned.toArray }
  heap := heap
  slotsUsed := slotsUsed
  threads := #[{ frames := .invoking theMethod args0 :: below }]
def below0 : List Frame := [.native { method := ⟨0, 0⟩, args := #[] }]
def about1 : State := aboutOver below0
def p0 : Program := .bare "" "" ""
def e0 : Env := launch0.env 0 0 0
theorem w_frames : about1.frames = Frame.invoking theMethod args0 :: below0 := rfl
set_option maxRecDepth 65536 in
theorem w_args : argsFit about1.vm theMethod args0 = true := by decide +kernel
set_option maxRecDepth 65536 in
theorem w_heap : heapFits about1 = true := by decide +kernel
set_option maxRecDepth 65536 in
theorem w_runnable : about1.curStatus? = some .runnable := by decide +kernel
set_option maxRecDepth 65536 in
theorem w_alone : about1.alone = true := by decide +kernel
set_option maxRecDepth 65536 in
theorem w_named : about1.methodNamed? x = some theMethod := by decide +kernel
set_option maxRecDepth 65536 in
theorem w_hears : about1.hears theMethod below0 = true := by decide +kernel
set_option maxRecDepth 65536 in
theorem w_ripe : about1.ripe theMethod args0 below0 = true := by decide +kernel
theorem w_running : about1.status = .running := rfl
set_option maxRecDepth 65536 in
theorem w_room : about1.hasRoom e0.platform room_1 = true :=
  launch0.hasRoom_least _ room_1 (by decide +kernel) (by decide +kernel) (by decide +kernel) (by decide +kernel) (by decide +kernel) (by decide +kernel)
theorem allAtoms_all (ts : List Jvm.Cond) (a : Array Jvm.Value) (st : Jvm.State) : (allAtoms ts).before a st = ts.all (fun c => c.before a st) := by
  induction ts with
  | nil => rfl
  | cons c t ih =>
    show (Jvm.Cond.and c (allAtoms t)).before a st = _
    rw [Jvm.Cond.before_and, ih, List.all_cons]
def words1 : List Jvm.Cond := Jvm.Cond.code x code maxLocals ret :: tables_1
/-- a 'code' word, met by the world's own term for the bytes: nothing is compared byte by byte -/
theorem code_word {y : MethodName} {bytes : ByteArray} {mx : Nat} {rt : Option FieldType} {a : Array Value} {s : State} {m : MethodId} {meth : Method} {c : Code} (h1 : s.methodNamed? y = some m) (h2 : s.vm.method? m = some meth) (h3 : meth.code = some c) (h4 : c.code = bytes)
    (h5 : (c.maxLocals == mx && c.exceptionTable.isEmpty && decide (c.maxStack ≤ mostOperands) && decide (meth.sig.returnType = rt) && !meth.locks && decide (parseMethodDescriptor y.desc = some meth.sig)) = true) : (Jvm.Cond.code y bytes mx rt).before a s = true := by
  simp only [Bool.and_eq_true, beq_iff_eq, Bool.not_eq_true', decide_eq_true_eq] at h5
  obtain ⟨⟨⟨⟨⟨g1, g2⟩, g3⟩, g4⟩, g5⟩, g6⟩ := h5
  simp [Cond.before, Cond.holds, Cond.value, h1, h2, h3, h4, g1, g2, g3, g4, g5, g6]
def isCode : Jvm.Cond → Bool
  | .code _ _ _ _ => true
  | _ => false
theorem all_split {L : List Jvm.Cond} {P : Jvm.Cond → Bool} (h1 : L.all (fun c => isCode c || P c) = true) (h2 : ∀ c ∈ L.filter isCode, P c = true) : L.all P = true := by
  refine List.all_eq_true.mpr fun c hc => ?_
  have h := List.all_eq_true.mp h1 c hc
  rcases Bool.eq_false_or_eq_true (isCode c) with hi | hi
  · exact h2 c (List.mem_filter.mpr ⟨hc, hi⟩)
  · simpa [hi] using h
set_option maxRecDepth 65536 in
theorem w_c0 : (Jvm.Cond.code x code maxLocals ret).before args0 about1 = true := code_word (m := ⟨1, 2⟩) (meth := k1m2) (c := k1c2) (by decide +kernel) rfl rfl rfl (by decide +kernel)
set_option maxRecDepth 65536 in
theorem w_c1 : (Jvm.Cond.code ({ cls := "com/example/lightloom/lightloom/sim/PermutationsFixesNoPointPinLaw", name := "entry", desc := "(I)I" } : Jvm.MethodName) method_2_code (1 : Nat) (Option.some Jvm.ClassFile.FieldType.int)).before args0 about1 = true := code_word (m := ⟨1, 1⟩) (meth := k1m1) (c := k1c1) (by decide +kernel) rfl rfl rfl (by decide +kernel)
set_option maxRecDepth 65536 in
theorem w_c2 : (Jvm.Cond.code ({ cls := "com/example/lightloom/lightloom/sim/Permutations", name := "fixesNoPoint", desc := "([I)Z" } : Jvm.MethodName) prog_49_method_4_code (2 : Nat) (Option.some Jvm.ClassFile.FieldType.boolean)).before args0 about1 = true := code_word (m := ⟨2, 1⟩) (meth := k2m1) (c := k2c1) (by decide +kernel) rfl rfl rfl (by decide +kernel)
def codes1 : List Jvm.Cond := [Jvm.Cond.code x code maxLocals ret, Jvm.Cond.code ({ cls := "com/example/lightloom/lightloom/sim/PermutationsFixesNoPointPinLaw", name := "entry", desc := "(I)I" } : Jvm.MethodName) method_2_code (1 : Nat) (Option.some Jvm.ClassFile.FieldType.int), Jvm.Cond.code ({ cls := "com/example/lightloom/lightloom/sim/Permutations", name := "fixesNoPoint", desc := "([I)Z" } : Jvm.MethodName) prog_49_method_4_code (2 : Nat) (Option.some Jvm.ClassFile.FieldType.boolean)]
set_option maxRecDepth 65536 in
theorem codes_eq : words1.filter isCode = codes1 := rfl
theorem w_codes : ∀ c ∈ words1.filter isCode, c.before args0 about1 = true := by
  rw [codes_eq]
  intro c hc
  simp only [codes1, List.mem_cons, List.not_mem_nil, or_false] at hc
  rcases hc with rfl | rfl | rfl
  · exact w_c0
  · exact w_c1
  · exact w_c2
set_option maxRecDepth 65536 in
theorem w_t1 : words1.all (fun c => isCode c || c.before args0 about1) = true := by decide +kernel
theorem w_tables : (allAtoms (Jvm.Cond.code x code maxLocals ret :: tables_1)).before args0 about1 = true := by
  rw [allAtoms_all]
  show words1.all (fun c => c.before args0 about1) = true
  refine all_split ?_ w_codes
  rw [w_t1]
set_option maxRecDepth 65536 in
theorem w_case : (Jvm.Cond.and given_1 narrow_1).before args0 about1 = true := by decide +kernel
theorem w_applies : (headSpec (Jvm.Cond.code x code maxLocals ret :: tables_1) room_1).applies x e0.platform about1 = true :=
  (Spec.applies_iff w_frames).mpr ⟨w_running, w_runnable, w_alone, w_named, w_hears, w_ripe, w_room, w_tables⟩
theorem atStart : AtStart classFile x code maxLocals ret World_1 tables_1 room_1 Calls_1 rest_1 Pre_1 launch0 p0 e0 about1 theMethod args0 below0 :=
  ⟨lists_1, trivial, launch0.admits_env _ _ _, launch0.least_env, fairChoices_fair.cas, fairChoices_fair.clock, w_frames, w_args, w_heap, w_applies, trivial, trivial, w_case⟩
end start1
theorem witness_1 : WitnessClaimed_1 := ⟨start1.p0, start1.e0, start1.about1, start1.theMethod, start1.args0, start1.below0, start1.atStart⟩
end Jvm.Pilot.@@N@@
