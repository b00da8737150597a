import JvmDerived
import JvmDerived.Pilot.@@N@@Statement
import JvmDerived.Pilot.@@N@@Code
set_option linter.unusedVariables false
set_option linter.unusedSimpArgs false
namespace Jvm.OwnKit
open Sem ClassFile Op Lib Jvm.Stand Jvm.Free Jvm.LawKit Jvm.RoadKit
/-- from here the run returns; it wrote new cells alone, and what it leaves is as Q says -/
def Goes (p : Program) (e : Env) (s : State) (below : List Frame) (Q : Option Value → Heap → Prop) (n0 C N : Nat) (T : State) (g : JFrame) : Prop :=
  ∃ s₂ o, Steps p.tables e below (T.setTop g) s₂ ∧ s₂.status = .running ∧ Ended s₂ below o ∧ ∃ v L, o = .returned v ∧ (Fr n0 L ∧ Q v s₂.heap) ∧ FrameEnd s o s₂ L C N
/-- a method's contract: entered with these arguments over the heap h it returns as Q says -/
abbrev Con (l : Launch) (y : MethodName) (bytes : ByteArray) (maxL : Nat) (ret : Option FieldType) (ws : List Jvm.Cond) (rm : Room) (Z : State) (as' : Array Value) (h : Heap) (n0 : Nat) (Q : Option Value → Heap → Prop) : Prop :=
  MetFree l y (head1 (Jvm.Cond.code y bytes maxL ret :: ws) rm) (fun a U => a = as' ∧ Z.Warmed39 U.vm ∧ U.heap = h) (fun _ _ _ _ _ => True) (fun _ U o U' => ∃ v L, o = .returned v ∧ (Fr n0 L ∧ Q v U'.heap) ∧ FrameEnd U o U' L rm.cells rm.slots)
section Laws
variable {p : Program} {l : Launch} {e : Env} {R : Room} {s : State} {m : MethodId} {args : Array Value} {below : List Frame} {meth : Method} {c : Code} {T T' : State} {locs : List Loc} {cells slots : Nat} {Z : State} {h : Heap} {a0 : Array Value} {Q : Option Value → Heap → Prop} {n0 C N pc pc' : Nat} {Ls Ls' : Array Slot} {st : List Value} {g g' : JFrame}
theorem Goes.go (k : ∀ t, Steps p.tables e below (T'.setTop g') t → Steps p.tables e below (T.setTop g) t) (h : Goes p e s below Q n0 C N T' g') : Goes p e s below Q n0 C N T g := by
  obtain ⟨s₂, o, h1, h2⟩ := h; exact ⟨s₂, o, k _ h1, h2⟩
/-- what opens every body's walk -/
theorem con_of {y : MethodName} {bytes : ByteArray} {maxL : Nat} {ret : Option FieldType} {ws : List Jvm.Cond} {rm : Room} {as' : Array Value} {Ls0 : Array Slot} (hn : plainFor y = true) (hef : ∀ m, entryFrame m as' maxL = mkF m 0 Ls0 [])
    (body : ∀ (p : Program) (e : Env) (s : State) (m : MethodId) (below : List Frame) (meth : Method) (c : Code) (s₁ : State), Stand p l e rm s m as' below meth c s₁ [] 0 0 → p.tables.exec = Jvm.exec → c.code = bytes → c.maxLocals = maxL → Z.Warmed39 s.vm → s.vm.findClass y.cls = some m.cls → meth.name = y.name → meth.sig.returnType = ret → meth.locks = false → s₁.heap = h → Fr n0 [] →
      Goes p e s below Q n0 rm.cells rm.slots s₁ (mkF m 0 Ls0 [])) : Con l y bytes maxL ret ws rm Z as' h n0 Q := by
  refine MetFree.of_bodySF hn hisR ?_
  intro p e s m args below meth c s₁ Bd hml0 hP hK
  obtain ⟨rfl, hZ, hh⟩ := hP
  have e0 : s₁.heap = h := by rw [← hh, Bd.state]; rfl
  have q := body p e s m below meth c s₁ (Stand.of_body Bd) Bd.exec Bd.bytes hml0 hZ (findClass_of_methodNamed Bd.named) (name_of_methodNamed Bd.named Bd.method).1 Bd.returns Bd.notSynchronized e0 (Fr.nil n0)
  rw [hef m]
  exact q
/-- a return -/
theorem g_ret (X : Stand p l e R s m args below meth c T locs cells slots) (hx : p.tables.exec = Jvm.exec) (hlk : meth.locks = false) {w : Value} {t : FieldType} {i : Instr} (hret : meth.sig.returnType = some t) (hn : narrow t w = w)
    (hi : (i = .ireturn ∧ (t = .int ∨ t = .boolean ∨ t = .byte ∨ t = .char ∨ t = .short) ∧ ∃ z, w = .int z) ∨ (i = .lreturn ∧ t = .long ∧ ∃ z, w = .long z) ∨ (i = .dreturn ∧ t = .double ∧ ∃ z, w = .double z) ∨ (i = .freturn ∧ t = .float ∧ ∃ z, w = .float z) ∨ (i = .areturn ∧ t.isReference = true ∧ w.isRef = true))
    (hd : decode c.code pc = .ok (i, 1)) (hN : Fr n0 locs) (hc : cells ≤ C) (hs : slots ≤ N) (hQ : Q (some w) T.heap) : Goes p e s below Q n0 C N T (mkF m pc Ls (w :: st)) := by
  obtain ⟨fs, hr, hrun, hended, hW, hsame⟩ := X.leave (v := some w) (fun z => by rw [hret] at z; cases z)
  exact ⟨_, _, retOut X hx hret hn hi hd hr, hrun, hended, _, _, rfl, ⟨hN, hQ⟩, ⟨_, rfl⟩, hW, hsame.mono hc hs⟩
theorem g_retI (X : Stand p l e R s m args below meth c T locs cells slots) (hx : p.tables.exec = Jvm.exec) (hlk : meth.locks = false) {z : Int32} (hret : meth.sig.returnType = some .int) (hd : decode c.code pc = .ok (.ireturn, 1)) (hN : Fr n0 locs) (hc : cells ≤ C) (hs : slots ≤ N) (hQ : Q (some (.int z)) T.heap) : Goes p e s below Q n0 C N T (mkF m pc Ls (.int z :: st)) :=
  g_ret X hx hlk hret rfl (Or.inl ⟨rfl, Or.inl rfl, _, rfl⟩) hd hN hc hs hQ
theorem g_retZ (X : Stand p l e R s m args below meth c T locs cells slots) (hx : p.tables.exec = Jvm.exec) (hlk : meth.locks = false) {z : Int32} (hz : z &&& 1 = z) (hret : meth.sig.returnType = some .boolean) (hd : decode c.code pc = .ok (.ireturn, 1)) (hN : Fr n0 locs) (hc : cells ≤ C) (hs : slots ≤ N) (hQ : Q (some (.int z)) T.heap) : Goes p e s below Q n0 C N T (mkF m pc Ls (.int z :: st)) :=
  g_ret X hx hlk hret (congrArg Value.int hz) (Or.inl ⟨rfl, Or.inr (Or.inl rfl), _, rfl⟩) hd hN hc hs hQ
theorem g_retJ (X : Stand p l e R s m args below meth c T locs cells slots) (hx : p.tables.exec = Jvm.exec) (hlk : meth.locks = false) {z : Int64} (hret : meth.sig.returnType = some .long) (hd : decode c.code pc = .ok (.lreturn, 1)) (hN : Fr n0 locs) (hc : cells ≤ C) (hs : slots ≤ N) (hQ : Q (some (.long z)) T.heap) : Goes p e s below Q n0 C N T (mkF m pc Ls (.long z :: st)) :=
  g_ret X hx hlk hret rfl (Or.inr (Or.inl ⟨rfl, rfl, _, rfl⟩)) hd hN hc hs hQ
theorem g_retA (X : Stand p l e R s m args below meth c T locs cells slots) (hx : p.tables.exec = Jvm.exec) (hlk : meth.locks = false) {v : Value} {t : FieldType} (hret : meth.sig.returnType = some t) (ht : t.isReference = true) (hn : narrow t v = v) (hv : v.isRef = true) (hd : decode c.code pc = .ok (.areturn, 1)) (hN : Fr n0 locs) (hc : cells ≤ C) (hs : slots ≤ N) (hQ : Q (some v) T.heap) : Goes p e s below Q n0 C N T (mkF m pc Ls (v :: st)) :=
  g_ret X hx hlk hret hn (Or.inr (Or.inr (Or.inr (Or.inr ⟨rfl, ht, hv⟩)))) hd hN hc hs hQ
theorem g_retV (X : Stand p l e R s m args below meth c T locs cells slots) (hx : p.tables.exec = Jvm.exec) (hlk : meth.locks = false) (hret : meth.sig.returnType = none) (hd : decode c.code pc = .ok (.return_, 1)) (hN : Fr n0 locs) (hc : cells ≤ C) (hs : slots ≤ N) (hQ : Q none T.heap) : Goes p e s below Q n0 C N T (mkF m pc Ls []) := by
  obtain ⟨fs, hr, hrun, hended, hW, hsame⟩ := X.leave (v := none) (fun _ => rfl)
  exact ⟨_, _, X.returnOut hx hret hd hr, hrun, hended, _, _, rfl, ⟨hN, hQ⟩, ⟨_, rfl⟩, hW, hsame.mono hc hs⟩
/-! fields and objects -/
theorem g_getF (X : Stand p l e R s m args below meth c T locs cells slots) (hx : p.tables.exec = Jvm.exec) (hZ : Z.Warmed39 s.vm) {own O n d : String} {i : Nat} (hown : s.vm.findClass own = some m.cls) (w : (Cond.fieldLink own i O n d).before a0 Z = true) (eT : T.heap = h) {a : Addr} {v : Value} (F : Fld Z h a O n d v) (hd : decode c.code pc = .ok (.getfield i, 3)) (hp : pc + 3 = pc')
    (k : ∀ T', Stand p l e R s m args below meth c T' locs cells slots → T'.heap = h → Goes p e s below Q n0 C N T' (mkF m pc' Ls (v :: st))) : Goes p e s below Q n0 C N T (mkF m pc Ls (.ref a :: st)) := by
  subst hp
  obtain ⟨T', X', e', st'⟩ := getF X hx hZ hown (host := "") (Or.inl w) Via.refl eT F (g := mkF m pc Ls (.ref a :: st)) rfl rfl hd
  exact (k T' X' e').go st'
theorem g_putF (X : Stand p l e R s m args below meth c T locs cells slots) (hx : p.tables.exec = Jvm.exec) (hZ : Z.Warmed39 s.vm) {own O n d K : String} {i kk : Nat} {ty : FieldType} (hown : s.vm.findClass own = some m.cls) (w : (Cond.fieldLink own i O n d).before a0 Z = true) (eT : T.heap = h) {a : Addr} {v old : Value} (F : Fld Z h a O n d old) (E : Exa Z h a K) (L : (Cond.lays K O n d).before a0 Z = true ∨ ((Cond.laysFinal K O n d).before a0 Z = true ∧ own = O ∧ meth.name = "<init>")) (wi : (Cond.instantiable K kk).before a0 Z = true)
    (hty : parseFieldDescriptor d = some ty) (hn : narrow ty v = v) (hf : fits ty v = true) (hN : Fr n0 locs) (ha : n0 ≤ a) (hd : decode c.code pc = .ok (.putfield i, 3)) (hp : pc + 3 = pc')
    (k : ∀ T' h' locs', Stand p l e R s m args below meth c T' locs' cells slots → T'.heap = h' → Wr h h' a (RoadKit.slotOf Z O n d) v → Fr n0 locs' → Goes p e s below Q n0 C N T' (mkF m pc' Ls st)) : Goes p e s below Q n0 C N T (mkF m pc Ls (v :: .ref a :: st)) := by
  subst hp
  obtain ⟨T', h', X', e', W', st'⟩ := putF X hx hZ hown (host := "") (Or.inl w) Via.refl eT F E L wi hty hn hf (g := mkF m pc Ls (v :: .ref a :: st)) rfl rfl hd
  exact (k T' h' _ X' e' W' (Fr.snoc X' hN ha)).go st'
theorem g_new (X : Stand p l e R s m args below meth c T locs cells slots) (hx : p.tables.exec = Jvm.exec) (hZ : Z.Warmed39 s.vm) {own K : String} {i n : Nat} (hown : s.vm.findClass own = some m.cls) (w : (Cond.classLink own i K).before a0 Z = true) (wi : (Cond.instantiable K n).before a0 Z = true) (wz : (Cond.initialized K).before a0 Z = true) (eT : T.heap = h) (hd : decode c.code pc = .ok (.new i, 3)) (hc : cells + 1 ≤ R.cells) (hl : slots + n ≤ R.slots) (hp : pc + 3 = pc')
    (k : ∀ T' h' a, a = h.size → Stand p l e R s m args below meth c T' locs (cells + 1) (slots + n) → T'.heap = h' → Ext h h' → a < h'.size → Exa Z h' a K → (∀ {O nm d : String} {ty : FieldType}, Laid Z a0 K O nm d → parseFieldDescriptor d = some ty → Fld Z h' a O nm d (defaultValue ty)) → Goes p e s below Q n0 C N T' (mkF m pc' Ls (.ref a :: st))) : Goes p e s below Q n0 C N T (mkF m pc Ls st) := by
  subst hp
  obtain ⟨T', h', X', e', E', A', D', -, st'⟩ := newO X hx hZ hown w wi wz eT (g := mkF m pc Ls st) rfl hd hc hl
  exact (k T' h' h.size rfl X' e' E' A'.lt A' D').go st'
theorem g_initO (X : Stand p l e R s m args below meth c T locs cells slots) (hx : p.tables.exec = Jvm.exec) (hZ : Z.Warmed39 s.vm) {own : String} {i : Nat} (hown : s.vm.findClass own = some m.cls) (w1 : (Cond.methodLink own i Lib.objectInit).before a0 Z = true) (w2 : (Cond.instanceMethod Lib.objectInit).before a0 Z = true) (w3 : (Cond.code Lib.objectInit ⟨#[0xb1]⟩ 1 none).before a0 Z = true) (eT : T.heap = h) (hsz : Ls.size = c.maxLocals) {a : Addr} (hd : decode c.code pc = .ok (.invokespecial i, 3))
    (hf : 1 ≤ R.frames) {W : Nat} (hW : (st.map fun v => v.category).sum ≤ W) (hl : W + 12 ≤ R.locals) (hp : pc + 3 = pc')
    (k : ∀ T', Stand p l e R s m args below meth c T' locs cells slots → T'.heap = h → Goes p e s below Q n0 C N T' (mkF m pc' Ls st)) : Goes p e s below Q n0 C N T (mkF m pc Ls (.ref a :: st)) := by
  subst hp
  obtain ⟨T', X', e', st'⟩ := initO X hx hZ hown w1 w2 w3 eT (g := mkF m pc Ls (.ref a :: st)) rfl hsz rfl hd hf (W := W) (by show 2 * 0 + _ ≤ _; omega) hl
  exact (k T' X' e').go st'
theorem g_getS (X : Stand p l e R s m args below meth c T locs cells slots) (hx : p.tables.exec = Jvm.exec) (hZ : Z.Warmed39 s.vm) {own O n d : String} {i : Nat} (hown : s.vm.findClass own = some m.cls) (w : (Cond.fieldLink own i O n d).before a0 Z = true) (eT : T.heap = h) {v : Value} (F : Sta Z h O n d v) (hd : decode c.code pc = .ok (.getstatic i, 3)) (hp : pc + 3 = pc')
    (k : ∀ T', Stand p l e R s m args below meth c T' locs cells slots → T'.heap = h → Goes p e s below Q n0 C N T' (mkF m pc' Ls (v :: st))) : Goes p e s below Q n0 C N T (mkF m pc Ls st) := by
  subst hp
  obtain ⟨T', X', e', st'⟩ := getS X hx hZ hown (host := "") w Via.refl eT F (g := mkF m pc Ls st) rfl hd
  exact (k T' X' e').go st'
theorem g_ldcF (X : Stand p l e R s m args below meth c T locs cells slots) (hx : p.tables.exec = Jvm.exec) (hZ : Z.Warmed39 s.vm) {own : String} {i : Nat} {b : UInt32} (hown : s.vm.findClass own = some m.cls) (w : (Cond.constantFloat own i b).before a0 Z = true) (hd : decode c.code pc = .ok (.ldc i, 2)) (hp : pc + 2 = pc')
    (k : Goes p e s below Q n0 C N T (mkF m pc' Ls (.float b :: st))) : Goes p e s below Q n0 C N T (mkF m pc Ls st) := by
  subst hp
  exact k.go fun t q => X.ldcFloatC hx hown (mvT hZ w) (g := mkF m pc Ls st) rfl hd t q
/-! calls: the callee's contract pays -/
theorem g_static (X : Stand p l e R s m args below meth c T locs cells slots) (hx : p.tables.exec = Jvm.exec) (hZ : Z.Warmed39 s.vm) {own : String} {i : Nat} {y : MethodName} {bytes : ByteArray} {maxL : Nat} {ret : Option FieldType} (hown : s.vm.findClass own = some m.cls) (w1 : (Cond.methodLink own i y).before a0 Z = true) (w2 : (Cond.static y).before a0 Z = true) (w3 : (Cond.initialized y.cls).before a0 Z = true) (w4 : (Cond.code y bytes maxL ret).before a0 Z = true) (hy : y.cls ≠ "java/lang/invoke/MethodHandle" ∧ y.cls ≠ "java/lang/invoke/VarHandle")
    {rm : Room} {argsL : List Value} {as' : Array Value} {Qy : Option Value → Heap → Prop} (hM : Con l y bytes maxL ret [] rm Z as' h n0 Qy) (has : argsL.toArray = as') (eT : T.heap = h) (hsz : Ls.size = c.maxLocals) {ps : List FieldType} {rt : Option FieldType} (pd : parseMethodDescriptor y.desc = some ⟨ps, rt⟩) (hlen : argsL.length = ps.length) {rest : List Value} (hst : st = argsL.reverse ++ rest) {W : Nat} (hW : (rest.map fun v => v.category).sum ≤ W)
    (hf : rm.frames + 1 ≤ R.frames) (hl : W + (maxL + 11) + rm.locals ≤ R.locals) (hc : cells + rm.cells ≤ R.cells) (hs : slots + rm.slots ≤ R.slots) (hN : Fr n0 locs) (hd : decode c.code pc = .ok (.invokestatic i, 3)) (hp : pc + 3 = pc')
    (k : ∀ v T' locs', Stand p l e R s m args below meth c T' locs' (cells + rm.cells) (slots + rm.slots) → Fr n0 locs' → Qy v T'.heap → Goes p e s below Q n0 C N T' (mkF m pc' Ls (v.toList ++ rest))) : Goes p e s below Q n0 C N T (mkF m pc Ls st) := by
  subst hp has
  obtain ⟨v, _, ⟨T', L', k', n'⟩, -, X', ⟨L, ⟨hNL, hQ⟩, q1, q2, q3⟩, st'⟩ := Jvm.LawKit.callS X hx (y := y) hown (mvT hZ w1) (mvT hZ w2) (mvT hZ w3) (mvT hZ w4) hy (backOf (W := W) (Q := fun v h L => Fr n0 L ∧ Qy v h) hM hZ w4 w3 hf hl) (g := mkF m pc Ls st) rfl hsz (argsL := argsL) (rest := rest) (lenOf pd hlen) hst (by show 2 * 0 + _ ≤ _; omega) hd (fun _ _ => ⟨rfl, eT, hc, hs⟩)
  dsimp only [Pt.U, Pt.locs, Pt.cells, Pt.slots] at X' q1 q2 q3 st' hQ
  subst q1 q2 q3
  exact (k v T' _ X' (Fr.app hN hNL) hQ).go st'
theorem g_special (X : Stand p l e R s m args below meth c T locs cells slots) (hx : p.tables.exec = Jvm.exec) (hZ : Z.Warmed39 s.vm) {own : String} {i : Nat} {y : MethodName} {bytes : ByteArray} {maxL : Nat} (hy1 : y.name = "<init>") (hown : s.vm.findClass own = some m.cls) (w1 : (Cond.methodLink own i y).before a0 Z = true) (w2 : (Cond.instanceMethod y).before a0 Z = true) (w3 : (Cond.initialized y.cls).before a0 Z = true) (w4 : (Cond.code y bytes maxL none).before a0 Z = true) (hy : y.cls ≠ "java/lang/invoke/MethodHandle" ∧ y.cls ≠ "java/lang/invoke/VarHandle")
    {rm : Room} {a : Addr} {argsL : List Value} {as' : Array Value} {Qy : Option Value → Heap → Prop} (hM : Con l y bytes maxL none [] rm Z as' h n0 Qy) (has : (.ref a :: argsL).toArray = as') (eT : T.heap = h) (hsz : Ls.size = c.maxLocals) {ps : List FieldType} {rt : Option FieldType} (pd : parseMethodDescriptor y.desc = some ⟨ps, rt⟩) (hlen : argsL.length = ps.length) {rest : List Value} (hst : st = argsL.reverse ++ .ref a :: rest) {W : Nat} (hW : (rest.map fun v => v.category).sum ≤ W)
    (hf : rm.frames + 1 ≤ R.frames) (hl : W + (maxL + 11) + rm.locals ≤ R.locals) (hc : cells + rm.cells ≤ R.cells) (hs : slots + rm.slots ≤ R.slots) (hN : Fr n0 locs) (hd : decode c.code pc = .ok (.invokespecial i, 3)) (hp : pc + 3 = pc')
    (k : ∀ v T' locs', Stand p l e R s m args below meth c T' locs' (cells + rm.cells) (slots + rm.slots) → Fr n0 locs' → Qy v T'.heap → Goes p e s below Q n0 C N T' (mkF m pc' Ls (v.toList ++ rest))) : Goes p e s below Q n0 C N T (mkF m pc Ls st) := by
  subst hp has
  obtain ⟨v, _, ⟨T', L', k', n'⟩, -, X', ⟨L, ⟨hNL, hQ⟩, q1, q2, q3⟩, st'⟩ := X.specialBack hx (y := y) hy1 hown (mvT hZ w1) (mvT hZ w2) (mvT hZ w4) hy (backOf (W := W) (Q := fun v h L => Fr n0 L ∧ Qy v h) hM hZ w4 w3 hf hl) (g := mkF m pc Ls st) rfl hsz (Steps.refl _) (a := a) (argsL := argsL) (rest := rest) (lenOf pd hlen) hst (by show 2 * 0 + _ ≤ _; omega) hd (fun _ _ => ⟨rfl, eT, hc, hs⟩)
  dsimp only [Pt.U, Pt.locs, Pt.cells, Pt.slots] at X' q1 q2 q3 st' hQ
  subst q1 q2 q3
  exact (k v T' _ X' (Fr.app hN hNL) hQ).go fun _ z => st'.trans z
theorem g_virtual (X : Stand p l e R s m args below meth c T locs cells slots) (hx : p.tables.exec = Jvm.exec) (hZ : Z.Warmed39 s.vm) {own K : String} {i : Nat} {y : MethodName} {bytes : ByteArray} {maxL : Nat} {ret : Option FieldType} (hown : s.vm.findClass own = some m.cls) (w1 : (Cond.methodLink own i y).before a0 Z = true) (w2 : (Cond.declares y).before a0 Z = true) (w5 : (Cond.selects K y y).before a0 Z = true) (w6 : (Cond.instanceMethod y).before a0 Z = true) (w3 : (Cond.initialized y.cls).before a0 Z = true) (w4 : (Cond.code y bytes maxL ret).before a0 Z = true) (hy : y.cls ≠ "java/lang/invoke/MethodHandle" ∧ y.cls ≠ "java/lang/invoke/VarHandle")
    {rm : Room} {a : Addr} {argsL : List Value} {as' : Array Value} {Qy : Option Value → Heap → Prop} (hM : Con l y bytes maxL ret [] rm Z as' h n0 Qy) (has : (.ref a :: argsL).toArray = as') (eT : T.heap = h) (E : Exa Z h a K) (hsz : Ls.size = c.maxLocals) {ps : List FieldType} {rt : Option FieldType} (pd : parseMethodDescriptor y.desc = some ⟨ps, rt⟩) (hlen : argsL.length = ps.length) {rest : List Value} (hst : st = argsL.reverse ++ .ref a :: rest) {W : Nat} (hW : (rest.map fun v => v.category).sum ≤ W)
    (hf : rm.frames + 1 ≤ R.frames) (hl : W + (maxL + 11) + rm.locals ≤ R.locals) (hc : cells + rm.cells ≤ R.cells) (hs : slots + rm.slots ≤ R.slots) (hN : Fr n0 locs) (hd : decode c.code pc = .ok (.invokevirtual i, 3)) (hp : pc + 3 = pc')
    (k : ∀ v T' locs', Stand p l e R s m args below meth c T' locs' (cells + rm.cells) (slots + rm.slots) → Fr n0 locs' → Qy v T'.heap → Goes p e s below Q n0 C N T' (mkF m pc' Ls (v.toList ++ rest))) : Goes p e s below Q n0 C N T (mkF m pc Ls st) := by
  subst hp has
  obtain ⟨cq, kq, qa, qb, qc⟩ := isOf hZ eT E
  obtain ⟨v, _, ⟨T', L', k', n'⟩, -, X', ⟨L, ⟨hNL, hQ⟩, q1, q2, q3⟩, st'⟩ := X.virtualBack hx (y := y) (z := y) hown (mvT hZ w1) (mvT hZ w2) (notFace_of_selects (args := #[]) (mvT hZ w5)) (mvT hZ w5) (mvT hZ w6) hy (backOf (W := W) (Q := fun v h L => Fr n0 L ∧ Qy v h) hM hZ w4 w3 hf hl) qa qc (g := mkF m pc Ls st) rfl hsz (Steps.refl _) (argsL := argsL) (rest := rest) (lenOf pd hlen) hst (by show 2 * 0 + _ ≤ _; omega) hd (fun _ _ => ⟨rfl, eT, hc, hs⟩)
  dsimp only [Pt.U, Pt.locs, Pt.cells, Pt.slots] at X' q1 q2 q3 st' hQ
  subst q1 q2 q3
  exact (k v T' _ X' (Fr.app hN hNL) hQ).go fun _ z => st'.trans z
/-! int arrays and long arrays, by their values -/
def IA (Z : State) (h : Heap) (a : Addr) (n : Nat) (f : Nat → Int32) : Prop := n < 2147483648 ∧ ∃ c : Cell, Arr Z h a c .int ∧ c.slots.size = n ∧ ∀ i, i < n → c.slots[i]? = some (.int (f i))
def LA (Z : State) (h : Heap) (a : Addr) (n : Nat) (f : Nat → Int64) : Prop := n < 2147483648 ∧ ∃ c : Cell, Arr Z h a c .long ∧ c.slots.size = n ∧ ∀ i, i < n → c.slots[i]? = some (.long (f i))
def zeroI : Nat → Int32 := fun _ => 0
def zeroL : Nat → Int64 := fun _ => 0
def oupd {A : Type} (f : Nat → A) (j : Nat) (v : A) : Nat → A := fun i => if i = j then v else f i
theorem nclamp {j : Int32} {k : Nat} (hj : j.toInt = (k : Int)) : j.toNatClampNeg = k ∧ ¬ j < 0 := by
  refine ⟨by simp only [Int32.toNatClampNeg, hj]; rfl, fun z => ?_⟩
  rw [Int32.lt_iff_toInt_lt, hj] at z; have : (0 : Int32).toInt = 0 := rfl; omega
theorem nin {j : Int32} {k n : Nat} (hj : j.toInt = (k : Int)) (hk : k < n) : ¬ (j < 0 ∨ n ≤ j.toNatClampNeg) := by
  obtain ⟨q1, q2⟩ := nclamp hj; rw [q1]; rintro (z | z)
  · exact q2 z
  · omega
theorem len32 {n : Nat} (hn : n < 2147483648) : (n.toInt32).toInt = (n : Int) := len_toInt hn
theorem g_iloadN (X : Stand p l e R s m args below meth c T locs cells slots) (hx : p.tables.exec = Jvm.exec) {k : Fin 4} {v : Int32} (hd : decode c.code pc = .ok (.iload_n k, 1)) (hl : Ls[k.val]? = some (.val (.int v))) (hp : pc + 1 = pc')
    (k : Goes p e s below Q n0 C N T (mkF m pc' Ls (.int v :: st))) : Goes p e s below Q n0 C N T (mkF m pc Ls (st)) := by
  subst hp; exact k.go fun _ q => XS.iloadN X.here hx rfl hd hl q
theorem g_iload (X : Stand p l e R s m args below meth c T locs cells slots) (hx : p.tables.exec = Jvm.exec) {k : Nat} {v : Int32} (hd : decode c.code pc = .ok (.iload k, 2)) (hl : Ls[k]? = some (.val (.int v))) (hp : pc + 2 = pc')
    (k : Goes p e s below Q n0 C N T (mkF m pc' Ls (.int v :: st))) : Goes p e s below Q n0 C N T (mkF m pc Ls (st)) := by
  subst hp; exact k.go fun _ q => XS.iload X.here hx rfl hd hl q
theorem g_lloadN (X : Stand p l e R s m args below meth c T locs cells slots) (hx : p.tables.exec = Jvm.exec) {k : Fin 4} {v : Int64} (hd : decode c.code pc = .ok (.lload_n k, 1)) (hl : Ls[k.val]? = some (.val (.long v))) (hp : pc + 1 = pc')
    (k : Goes p e s below Q n0 C N T (mkF m pc' Ls (.long v :: st))) : Goes p e s below Q n0 C N T (mkF m pc Ls (st)) := by
  subst hp; exact k.go fun _ q => XT.lloadN X.here hx rfl hd hl q
theorem g_lload (X : Stand p l e R s m args below meth c T locs cells slots) (hx : p.tables.exec = Jvm.exec) {k : Nat} {v : Int64} (hd : decode c.code pc = .ok (.lload k, 2)) (hl : Ls[k]? = some (.val (.long v))) (hp : pc + 2 = pc')
    (k : Goes p e s below Q n0 C N T (mkF m pc' Ls (.long v :: st))) : Goes p e s below Q n0 C N T (mkF m pc Ls (st)) := by
  subst hp; exact k.go fun _ q => XT.lload X.here hx rfl hd hl q
theorem g_aloadN (X : Stand p l e R s m args below meth c T locs cells slots) (hx : p.tables.exec = Jvm.exec) {k : Fin 4} {v : Value} (hd : decode c.code pc = .ok (.aload_n k, 1)) (hl : Ls[k.val]? = some (.val v)) (hv : v.isRef = true) (hp : pc + 1 = pc')
    (k : Goes p e s below Q n0 C N T (mkF m pc' Ls (v :: st))) : Goes p e s below Q n0 C N T (mkF m pc Ls (st)) := by
  subst hp; exact k.go fun _ q => XS.aloadN X.here hx rfl hd hl hv q
theorem g_aload (X : Stand p l e R s m args below meth c T locs cells slots) (hx : p.tables.exec = Jvm.exec) {k : Nat} {v : Value} (hd : decode c.code pc = .ok (.aload k, 2)) (hl : Ls[k]? = some (.val v)) (hv : v.isRef = true) (hp : pc + 2 = pc')
    (k : Goes p e s below Q n0 C N T (mkF m pc' Ls (v :: st))) : Goes p e s below Q n0 C N T (mkF m pc Ls (st)) := by
  subst hp; exact k.go fun _ q => XS.aload X.here hx rfl hd hl hv q
theorem g_istoreN (X : Stand p l e R s m args below meth c T locs cells slots) (hx : p.tables.exec = Jvm.exec) {k : Fin 4} {x : Int32} (hd : decode c.code pc = .ok (.istore_n k, 1)) (hl : storeLocals Ls k.val (.int x) = some Ls') (hp : pc + 1 = pc')
    (k : Goes p e s below Q n0 C N T (mkF m pc' Ls' (st))) : Goes p e s below Q n0 C N T (mkF m pc Ls (.int x :: st)) := by
  subst hp; exact k.go fun _ q => XS.istoreN X.here hx rfl hd rfl hl q
theorem g_istore (X : Stand p l e R s m args below meth c T locs cells slots) (hx : p.tables.exec = Jvm.exec) {k : Nat} {x : Int32} (hd : decode c.code pc = .ok (.istore k, 2)) (hl : storeLocals Ls k (.int x) = some Ls') (hp : pc + 2 = pc')
    (k : Goes p e s below Q n0 C N T (mkF m pc' Ls' (st))) : Goes p e s below Q n0 C N T (mkF m pc Ls (.int x :: st)) := by
  subst hp; exact k.go fun _ q => XS.istore X.here hx rfl hd rfl hl q
theorem g_lstoreN (X : Stand p l e R s m args below meth c T locs cells slots) (hx : p.tables.exec = Jvm.exec) {k : Fin 4} {x : Int64} (hd : decode c.code pc = .ok (.lstore_n k, 1)) (hl : storeLocals Ls k.val (.long x) = some Ls') (hp : pc + 1 = pc')
    (k : Goes p e s below Q n0 C N T (mkF m pc' Ls' (st))) : Goes p e s below Q n0 C N T (mkF m pc Ls (.long x :: st)) := by
  subst hp; exact k.go fun _ q => XT.lstoreN X.here hx rfl hd rfl hl q
theorem g_lstore (X : Stand p l e R s m args below meth c T locs cells slots) (hx : p.tables.exec = Jvm.exec) {k : Nat} {x : Int64} (hd : decode c.code pc = .ok (.lstore k, 2)) (hl : storeLocals Ls k (.long x) = some Ls') (hp : pc + 2 = pc')
    (k : Goes p e s below Q n0 C N T (mkF m pc' Ls' (st))) : Goes p e s below Q n0 C N T (mkF m pc Ls (.long x :: st)) := by
  subst hp; exact k.go fun _ q => XT.lstore X.here hx rfl hd rfl hl q
theorem g_astoreN (X : Stand p l e R s m args below meth c T locs cells slots) (hx : p.tables.exec = Jvm.exec) {k : Fin 4} {x : Value} (hd : decode c.code pc = .ok (.astore_n k, 1)) (hv : x.isRef = true) (hl : storeLocals Ls k.val x = some Ls') (hp : pc + 1 = pc')
    (k : Goes p e s below Q n0 C N T (mkF m pc' Ls' (st))) : Goes p e s below Q n0 C N T (mkF m pc Ls (x :: st)) := by
  subst hp; exact k.go fun _ q => XS.astoreN X.here hx rfl hd rfl hv hl q
theorem g_astore (X : Stand p l e R s m args below meth c T locs cells slots) (hx : p.tables.exec = Jvm.exec) {k : Nat} {x : Value} (hd : decode c.code pc = .ok (.astore k, 2)) (hv : x.isRef = true) (hl : storeLocals Ls k x = some Ls') (hp : pc + 2 = pc')
    (k : Goes p e s below Q n0 C N T (mkF m pc' Ls' (st))) : Goes p e s below Q n0 C N T (mkF m pc Ls (x :: st)) := by
  subst hp; exact k.go fun _ q => XS.astore X.here hx rfl hd rfl hv hl q
theorem g_iinc (X : Stand p l e R s m args below meth c T locs cells slots) (hx : p.tables.exec = Jvm.exec) {k : Nat} {cst : Int} {x v : Int32} (hd : decode c.code pc = .ok (.iinc k cst, 3)) (hv : Int32.ofInt cst = v) (hl : Ls[k]? = some (.val (.int x))) (hl' : storeLocals Ls k (.int (x + v)) = some Ls') (hp : pc + 3 = pc')
    (k : Goes p e s below Q n0 C N T (mkF m pc' Ls' (st))) : Goes p e s below Q n0 C N T (mkF m pc Ls (st)) := by
  subst hp; exact k.go fun _ q => XT.iincV X.here hx rfl v hd hv hl hl' q
theorem g_iconst (X : Stand p l e R s m args below meth c T locs cells slots) (hx : p.tables.exec = Jvm.exec) {i : Int} {v : Int32} (hd : decode c.code pc = .ok (.iconst i, 1)) (hv : Int32.ofInt i = v) (hp : pc + 1 = pc')
    (k : Goes p e s below Q n0 C N T (mkF m pc' Ls (.int v :: st))) : Goes p e s below Q n0 C N T (mkF m pc Ls (st)) := by
  subst hp; exact k.go fun _ q => XT.iconstV X.here hx rfl v hd hv q
theorem g_bipush (X : Stand p l e R s m args below meth c T locs cells slots) (hx : p.tables.exec = Jvm.exec) {i : Int} {v : Int32} (hd : decode c.code pc = .ok (.bipush i, 2)) (hv : (Int8.ofInt i).toInt32 = v) (hp : pc + 2 = pc')
    (k : Goes p e s below Q n0 C N T (mkF m pc' Ls (.int v :: st))) : Goes p e s below Q n0 C N T (mkF m pc Ls (st)) := by
  subst hp; exact k.go fun _ q => XT.bipushV X.here hx rfl v hd hv q
theorem g_sipush (X : Stand p l e R s m args below meth c T locs cells slots) (hx : p.tables.exec = Jvm.exec) {i : Int} {v : Int32} (hd : decode c.code pc = .ok (.sipush i, 3)) (hv : (Int16.ofInt i).toInt32 = v) (hp : pc + 3 = pc')
    (k : Goes p e s below Q n0 C N T (mkF m pc' Ls (.int v :: st))) : Goes p e s below Q n0 C N T (mkF m pc Ls (st)) := by
  subst hp; exact k.go fun _ q => XT.sipushV X.here hx rfl v hd hv q
theorem g_lconst (X : Stand p l e R s m args below meth c T locs cells slots) (hx : p.tables.exec = Jvm.exec) {k : Fin 2} {v : Int64} (hd : decode c.code pc = .ok (.lconst k, 1)) (hv : Int64.ofNat k = v) (hp : pc + 1 = pc')
    (k : Goes p e s below Q n0 C N T (mkF m pc' Ls (.long v :: st))) : Goes p e s below Q n0 C N T (mkF m pc Ls (st)) := by
  subst hp; exact k.go fun _ q => XT.lconstV X.here hx rfl v hd hv q
theorem g_null (X : Stand p l e R s m args below meth c T locs cells slots) (hx : p.tables.exec = Jvm.exec)  (hd : decode c.code pc = .ok (.aconst_null, 1))  (hp : pc + 1 = pc')
    (k : Goes p e s below Q n0 C N T (mkF m pc' Ls (.null :: st))) : Goes p e s below Q n0 C N T (mkF m pc Ls (st)) := by
  subst hp; exact k.go fun _ q => XS.aconstNull X.here hx rfl hd q
theorem g_ldc (X : Stand p l e R s m args below meth c T locs cells slots) (hx : p.tables.exec = Jvm.exec) (hZ : Z.Warmed39 s.vm) {own : String} {i : Nat} (hown : s.vm.findClass own = some m.cls) {v : Int32} (hd : decode c.code pc = .ok (.ldc i, 2)) (w : (Cond.constant own i v).before a0 Z = true) (hp : pc + 2 = pc')
    (k : Goes p e s below Q n0 C N T (mkF m pc' Ls (.int v :: st))) : Goes p e s below Q n0 C N T (mkF m pc Ls (st)) := by
  subst hp; exact k.go fun _ q => X.ldcI hx hown (mvT hZ w) rfl hd q
theorem g_ldcW (X : Stand p l e R s m args below meth c T locs cells slots) (hx : p.tables.exec = Jvm.exec) (hZ : Z.Warmed39 s.vm) {own : String} {i : Nat} (hown : s.vm.findClass own = some m.cls) {v : Int32} (hd : decode c.code pc = .ok (.ldc_w i, 3)) (w : (Cond.constant own i v).before a0 Z = true) (hp : pc + 3 = pc')
    (k : Goes p e s below Q n0 C N T (mkF m pc' Ls (.int v :: st))) : Goes p e s below Q n0 C N T (mkF m pc Ls (st)) := by
  subst hp; exact k.go fun _ q => X.ldcWI hx hown (mvT hZ w) rfl hd q
theorem g_ldc2 (X : Stand p l e R s m args below meth c T locs cells slots) (hx : p.tables.exec = Jvm.exec) (hZ : Z.Warmed39 s.vm) {own : String} {i : Nat} (hown : s.vm.findClass own = some m.cls) {v : Int64} (hd : decode c.code pc = .ok (.ldc2_w i, 3)) (w : (Cond.constantLong own i v).before a0 Z = true) (hp : pc + 3 = pc')
    (k : Goes p e s below Q n0 C N T (mkF m pc' Ls (.long v :: st))) : Goes p e s below Q n0 C N T (mkF m pc Ls (st)) := by
  subst hp; exact k.go fun _ q => X.ldc2J hx hown (mvT hZ w) rfl hd q
theorem g_iadd (X : Stand p l e R s m args below meth c T locs cells slots) (hx : p.tables.exec = Jvm.exec) {x y : Int32} (hd : decode c.code pc = .ok (.iadd, 1))  (hp : pc + 1 = pc')
    (k : Goes p e s below Q n0 C N T (mkF m pc' Ls (.int (x + y) :: st))) : Goes p e s below Q n0 C N T (mkF m pc Ls (.int y :: .int x :: st)) := by
  subst hp; exact k.go fun _ q => XS.iadd X.here hx rfl hd rfl q
theorem g_isub (X : Stand p l e R s m args below meth c T locs cells slots) (hx : p.tables.exec = Jvm.exec) {x y : Int32} (hd : decode c.code pc = .ok (.isub, 1))  (hp : pc + 1 = pc')
    (k : Goes p e s below Q n0 C N T (mkF m pc' Ls (.int (x - y) :: st))) : Goes p e s below Q n0 C N T (mkF m pc Ls (.int y :: .int x :: st)) := by
  subst hp; exact k.go fun _ q => XS.isub X.here hx rfl hd rfl q
theorem g_iand (X : Stand p l e R s m args below meth c T locs cells slots) (hx : p.tables.exec = Jvm.exec) {x y : Int32} (hd : decode c.code pc = .ok (.iand, 1))  (hp : pc + 1 = pc')
    (k : Goes p e s below Q n0 C N T (mkF m pc' Ls (.int (x &&& y) :: st))) : Goes p e s below Q n0 C N T (mkF m pc Ls (.int y :: .int x :: st)) := by
  subst hp; exact k.go fun _ q => XS.iand X.here hx rfl hd rfl q
theorem g_imul (X : Stand p l e R s m args below meth c T locs cells slots) (hx : p.tables.exec = Jvm.exec) {x y : Int32} (hd : decode c.code pc = .ok (.imul, 1))  (hp : pc + 1 = pc')
    (k : Goes p e s below Q n0 C N T (mkF m pc' Ls (.int (x * y) :: st))) : Goes p e s below Q n0 C N T (mkF m pc Ls (.int y :: .int x :: st)) := by
  subst hp; exact k.go fun _ q => XS.imul X.here hx rfl hd rfl q
theorem g_ior (X : Stand p l e R s m args below meth c T locs cells slots) (hx : p.tables.exec = Jvm.exec) {x y : Int32} (hd : decode c.code pc = .ok (.ior, 1))  (hp : pc + 1 = pc')
    (k : Goes p e s below Q n0 C N T (mkF m pc' Ls (.int (x ||| y) :: st))) : Goes p e s below Q n0 C N T (mkF m pc Ls (.int y :: .int x :: st)) := by
  subst hp; exact k.go fun _ q => XT.ior X.here hx rfl hd rfl q
theorem g_ixor (X : Stand p l e R s m args below meth c T locs cells slots) (hx : p.tables.exec = Jvm.exec) {x y : Int32} (hd : decode c.code pc = .ok (.ixor, 1))  (hp : pc + 1 = pc')
    (k : Goes p e s below Q n0 C N T (mkF m pc' Ls (.int (x ^^^ y) :: st))) : Goes p e s below Q n0 C N T (mkF m pc Ls (.int y :: .int x :: st)) := by
  subst hp; exact k.go fun _ q => XT.ixor X.here hx rfl hd rfl q
theorem g_ishl (X : Stand p l e R s m args below meth c T locs cells slots) (hx : p.tables.exec = Jvm.exec) {x y : Int32} (hd : decode c.code pc = .ok (.ishl, 1))  (hp : pc + 1 = pc')
    (k : Goes p e s below Q n0 C N T (mkF m pc' Ls (.int (x <<< (y &&& 31)) :: st))) : Goes p e s below Q n0 C N T (mkF m pc Ls (.int y :: .int x :: st)) := by
  subst hp; exact k.go fun _ q => XT.ishl X.here hx rfl hd rfl q
theorem g_ishr (X : Stand p l e R s m args below meth c T locs cells slots) (hx : p.tables.exec = Jvm.exec) {x y : Int32} (hd : decode c.code pc = .ok (.ishr, 1))  (hp : pc + 1 = pc')
    (k : Goes p e s below Q n0 C N T (mkF m pc' Ls (.int (x >>> (y &&& 31)) :: st))) : Goes p e s below Q n0 C N T (mkF m pc Ls (.int y :: .int x :: st)) := by
  subst hp; exact k.go fun _ q => XT.ishr X.here hx rfl hd rfl q
theorem g_iushr (X : Stand p l e R s m args below meth c T locs cells slots) (hx : p.tables.exec = Jvm.exec) {x y : Int32} (hd : decode c.code pc = .ok (.iushr, 1))  (hp : pc + 1 = pc')
    (k : Goes p e s below Q n0 C N T (mkF m pc' Ls (.int (XT.ushr x y) :: st))) : Goes p e s below Q n0 C N T (mkF m pc Ls (.int y :: .int x :: st)) := by
  subst hp; exact k.go fun _ q => XT.iushr X.here hx rfl hd rfl q
theorem g_ineg (X : Stand p l e R s m args below meth c T locs cells slots) (hx : p.tables.exec = Jvm.exec) {x : Int32} (hd : decode c.code pc = .ok (.ineg, 1))  (hp : pc + 1 = pc')
    (k : Goes p e s below Q n0 C N T (mkF m pc' Ls (.int (-x) :: st))) : Goes p e s below Q n0 C N T (mkF m pc Ls (.int x :: st)) := by
  subst hp; exact k.go fun _ q => XS.ineg X.here hx rfl hd rfl q
theorem g_idiv (X : Stand p l e R s m args below meth c T locs cells slots) (hx : p.tables.exec = Jvm.exec) {x y : Int32} (hd : decode c.code pc = .ok (.idiv, 1)) (hy : y ≠ 0) (hp : pc + 1 = pc')
    (k : Goes p e s below Q n0 C N T (mkF m pc' Ls (.int (x / y) :: st))) : Goes p e s below Q n0 C N T (mkF m pc Ls (.int y :: .int x :: st)) := by
  subst hp; exact k.go fun _ q => XS.idiv X.here hx rfl hd rfl hy q
theorem g_irem (X : Stand p l e R s m args below meth c T locs cells slots) (hx : p.tables.exec = Jvm.exec) {x y : Int32} (hd : decode c.code pc = .ok (.irem, 1)) (hy : y ≠ 0) (hp : pc + 1 = pc')
    (k : Goes p e s below Q n0 C N T (mkF m pc' Ls (.int (x % y) :: st))) : Goes p e s below Q n0 C N T (mkF m pc Ls (.int y :: .int x :: st)) := by
  subst hp; exact k.go fun _ q => iremM X hx rfl hd rfl hy q
theorem g_ladd (X : Stand p l e R s m args below meth c T locs cells slots) (hx : p.tables.exec = Jvm.exec) {x y : Int64} (hd : decode c.code pc = .ok (.ladd, 1))  (hp : pc + 1 = pc')
    (k : Goes p e s below Q n0 C N T (mkF m pc' Ls (.long (x + y) :: st))) : Goes p e s below Q n0 C N T (mkF m pc Ls (.long y :: .long x :: st)) := by
  subst hp; exact k.go fun _ q => XT.ladd X.here hx rfl hd rfl q
theorem g_lsub (X : Stand p l e R s m args below meth c T locs cells slots) (hx : p.tables.exec = Jvm.exec) {x y : Int64} (hd : decode c.code pc = .ok (.lsub, 1))  (hp : pc + 1 = pc')
    (k : Goes p e s below Q n0 C N T (mkF m pc' Ls (.long (x - y) :: st))) : Goes p e s below Q n0 C N T (mkF m pc Ls (.long y :: .long x :: st)) := by
  subst hp; exact k.go fun _ q => XT.lsub X.here hx rfl hd rfl q
theorem g_lmul (X : Stand p l e R s m args below meth c T locs cells slots) (hx : p.tables.exec = Jvm.exec) {x y : Int64} (hd : decode c.code pc = .ok (.lmul, 1))  (hp : pc + 1 = pc')
    (k : Goes p e s below Q n0 C N T (mkF m pc' Ls (.long (x * y) :: st))) : Goes p e s below Q n0 C N T (mkF m pc Ls (.long y :: .long x :: st)) := by
  subst hp; exact k.go fun _ q => XT.lmul X.here hx rfl hd rfl q
theorem g_land (X : Stand p l e R s m args below meth c T locs cells slots) (hx : p.tables.exec = Jvm.exec) {x y : Int64} (hd : decode c.code pc = .ok (.land, 1))  (hp : pc + 1 = pc')
    (k : Goes p e s below Q n0 C N T (mkF m pc' Ls (.long (x &&& y) :: st))) : Goes p e s below Q n0 C N T (mkF m pc Ls (.long y :: .long x :: st)) := by
  subst hp; exact k.go fun _ q => XT.land X.here hx rfl hd rfl q
theorem g_lor (X : Stand p l e R s m args below meth c T locs cells slots) (hx : p.tables.exec = Jvm.exec) {x y : Int64} (hd : decode c.code pc = .ok (.lor, 1))  (hp : pc + 1 = pc')
    (k : Goes p e s below Q n0 C N T (mkF m pc' Ls (.long (x ||| y) :: st))) : Goes p e s below Q n0 C N T (mkF m pc Ls (.long y :: .long x :: st)) := by
  subst hp; exact k.go fun _ q => XT.lor X.here hx rfl hd rfl q
theorem g_lxor (X : Stand p l e R s m args below meth c T locs cells slots) (hx : p.tables.exec = Jvm.exec) {x y : Int64} (hd : decode c.code pc = .ok (.lxor, 1))  (hp : pc + 1 = pc')
    (k : Goes p e s below Q n0 C N T (mkF m pc' Ls (.long (x ^^^ y) :: st))) : Goes p e s below Q n0 C N T (mkF m pc Ls (.long y :: .long x :: st)) := by
  subst hp; exact k.go fun _ q => XT.lxor X.here hx rfl hd rfl q
theorem g_lshl (X : Stand p l e R s m args below meth c T locs cells slots) (hx : p.tables.exec = Jvm.exec) {x : Int64} {y : Int32} (hd : decode c.code pc = .ok (.lshl, 1))  (hp : pc + 1 = pc')
    (k : Goes p e s below Q n0 C N T (mkF m pc' Ls (.long (x <<< (y.toInt64 &&& 63)) :: st))) : Goes p e s below Q n0 C N T (mkF m pc Ls (.int y :: .long x :: st)) := by
  subst hp; exact k.go fun _ q => XT.lshl X.here hx rfl hd rfl q
theorem g_lshr (X : Stand p l e R s m args below meth c T locs cells slots) (hx : p.tables.exec = Jvm.exec) {x : Int64} {y : Int32} (hd : decode c.code pc = .ok (.lshr, 1))  (hp : pc + 1 = pc')
    (k : Goes p e s below Q n0 C N T (mkF m pc' Ls (.long (x >>> (y.toInt64 &&& 63)) :: st))) : Goes p e s below Q n0 C N T (mkF m pc Ls (.int y :: .long x :: st)) := by
  subst hp; exact k.go fun _ q => XT.lshr X.here hx rfl hd rfl q
theorem g_lushr (X : Stand p l e R s m args below meth c T locs cells slots) (hx : p.tables.exec = Jvm.exec) {x : Int64} {y : Int32} (hd : decode c.code pc = .ok (.lushr, 1))  (hp : pc + 1 = pc')
    (k : Goes p e s below Q n0 C N T (mkF m pc' Ls (.long (XT.ushrL x y) :: st))) : Goes p e s below Q n0 C N T (mkF m pc Ls (.int y :: .long x :: st)) := by
  subst hp; exact k.go fun _ q => XT.lushr X.here hx rfl hd rfl q
theorem g_ldiv (X : Stand p l e R s m args below meth c T locs cells slots) (hx : p.tables.exec = Jvm.exec) {x y : Int64} (hd : decode c.code pc = .ok (.ldiv, 1)) (hy : y ≠ 0) (hp : pc + 1 = pc')
    (k : Goes p e s below Q n0 C N T (mkF m pc' Ls (.long (x / y) :: st))) : Goes p e s below Q n0 C N T (mkF m pc Ls (.long y :: .long x :: st)) := by
  subst hp; exact k.go fun _ q => XT.ldiv X.here hx rfl hd rfl hy q
theorem g_lrem (X : Stand p l e R s m args below meth c T locs cells slots) (hx : p.tables.exec = Jvm.exec) {x y : Int64} (hd : decode c.code pc = .ok (.lrem, 1)) (hy : y ≠ 0) (hp : pc + 1 = pc')
    (k : Goes p e s below Q n0 C N T (mkF m pc' Ls (.long (x - (x / y) * y) :: st))) : Goes p e s below Q n0 C N T (mkF m pc Ls (.long y :: .long x :: st)) := by
  subst hp; exact k.go fun _ q => XT.lrem X.here hx rfl hd rfl hy q
theorem g_lneg (X : Stand p l e R s m args below meth c T locs cells slots) (hx : p.tables.exec = Jvm.exec) {x : Int64} (hd : decode c.code pc = .ok (.lneg, 1))  (hp : pc + 1 = pc')
    (k : Goes p e s below Q n0 C N T (mkF m pc' Ls (.long (-x) :: st))) : Goes p e s below Q n0 C N T (mkF m pc Ls (.long x :: st)) := by
  subst hp; exact k.go fun _ q => XT.lneg X.here hx rfl hd rfl q
theorem g_i2l (X : Stand p l e R s m args below meth c T locs cells slots) (hx : p.tables.exec = Jvm.exec) {x : Int32} (hd : decode c.code pc = .ok (.i2l, 1))  (hp : pc + 1 = pc')
    (k : Goes p e s below Q n0 C N T (mkF m pc' Ls (.long x.toInt64 :: st))) : Goes p e s below Q n0 C N T (mkF m pc Ls (.int x :: st)) := by
  subst hp; exact k.go fun _ q => XT.i2l X.here hx rfl hd rfl q
theorem g_l2i (X : Stand p l e R s m args below meth c T locs cells slots) (hx : p.tables.exec = Jvm.exec) {x : Int64} (hd : decode c.code pc = .ok (.l2i, 1))  (hp : pc + 1 = pc')
    (k : Goes p e s below Q n0 C N T (mkF m pc' Ls (.int x.toInt32 :: st))) : Goes p e s below Q n0 C N T (mkF m pc Ls (.long x :: st)) := by
  subst hp; exact k.go fun _ q => XT.l2i X.here hx rfl hd rfl q
theorem g_i2b (X : Stand p l e R s m args below meth c T locs cells slots) (hx : p.tables.exec = Jvm.exec) {x : Int32} (hd : decode c.code pc = .ok (.i2b, 1))  (hp : pc + 1 = pc')
    (k : Goes p e s below Q n0 C N T (mkF m pc' Ls (.int x.toInt8.toInt32 :: st))) : Goes p e s below Q n0 C N T (mkF m pc Ls (.int x :: st)) := by
  subst hp; exact k.go fun _ q => XT.i2b X.here hx rfl hd rfl q
theorem g_dup (X : Stand p l e R s m args below meth c T locs cells slots) (hx : p.tables.exec = Jvm.exec) {v : Value} (hd : decode c.code pc = .ok (.dup, 1)) (hc : v.category = 1) (hp : pc + 1 = pc')
    (k : Goes p e s below Q n0 C N T (mkF m pc' Ls (v :: v :: st))) : Goes p e s below Q n0 C N T (mkF m pc Ls (v :: st)) := by
  subst hp; exact k.go fun _ q => XS.dup X.here hx rfl hd rfl hc q
theorem g_pop (X : Stand p l e R s m args below meth c T locs cells slots) (hx : p.tables.exec = Jvm.exec) {v : Value} (hd : decode c.code pc = .ok (.pop, 1)) (hc : v.category = 1) (hp : pc + 1 = pc')
    (k : Goes p e s below Q n0 C N T (mkF m pc' Ls (st))) : Goes p e s below Q n0 C N T (mkF m pc Ls (v :: st)) := by
  subst hp; exact k.go fun _ q => XT.pop X.here hx rfl hd rfl hc q
theorem g_dupX1 (X : Stand p l e R s m args below meth c T locs cells slots) (hx : p.tables.exec = Jvm.exec) {v w : Value} (hd : decode c.code pc = .ok (.dup_x1, 1)) (hc : v.category = 1) (hc' : w.category = 1) (hp : pc + 1 = pc')
    (k : Goes p e s below Q n0 C N T (mkF m pc' Ls (v :: w :: v :: st))) : Goes p e s below Q n0 C N T (mkF m pc Ls (v :: w :: st)) := by
  subst hp; exact k.go fun _ q => XT.dupX1 X.here hx rfl hd rfl hc hc' q
theorem g_dup2 (X : Stand p l e R s m args below meth c T locs cells slots) (hx : p.tables.exec = Jvm.exec) {v w : Value} (hd : decode c.code pc = .ok (.dup2, 1)) (hc : v.category = 1) (hc' : w.category = 1) (hp : pc + 1 = pc')
    (k : Goes p e s below Q n0 C N T (mkF m pc' Ls (v :: w :: v :: w :: st))) : Goes p e s below Q n0 C N T (mkF m pc Ls (v :: w :: st)) := by
  subst hp; exact k.go fun _ q => XT.dup2 X.here hx rfl hd rfl hc hc' q
theorem g_dup2L (X : Stand p l e R s m args below meth c T locs cells slots) (hx : p.tables.exec = Jvm.exec) {x : Int64} (hd : decode c.code pc = .ok (.dup2, 1))  (hp : pc + 1 = pc')
    (k : Goes p e s below Q n0 C N T (mkF m pc' Ls (.long x :: .long x :: st))) : Goes p e s below Q n0 C N T (mkF m pc Ls (.long x :: st)) := by
  subst hp; exact k.go fun _ q => XT.dup2L X.here hx rfl hd rfl q
theorem g_goto (X : Stand p l e R s m args below meth c T locs cells slots) (hx : p.tables.exec = Jvm.exec) {o : Int} (hd : decode c.code pc = .ok (.goto o, 3)) (ho : 0 ≤ (pc : Int) + o) (hp : ((pc : Int) + o).toNat = pc')
    (k : Goes p e s below Q n0 C N T (mkF m pc' Ls st)) : Goes p e s below Q n0 C N T (mkF m pc Ls st) := k.go fun _ q => XS.goto X.here hx rfl rfl hd ho hp q
theorem g_ii_eq (X : Stand p l e R s m args below meth c T locs cells slots) (hx : p.tables.exec = Jvm.exec) {o : Int} {x y : Int32} {a b : Int} (ha : x.toInt = a) (hb : y.toInt = b) (hd : decode c.code pc = .ok (.if_icmp .eq o, 3)) (ho : 0 ≤ (pc : Int) + o) (hp : ((pc : Int) + o).toNat = pc') {pc2 : Nat} (hp2 : pc + 3 = pc2)
    (kt : a = b → Goes p e s below Q n0 C N T (mkF m pc' Ls st)) (kf : ¬ a = b → Goes p e s below Q n0 C N T (mkF m pc2 Ls st)) : Goes p e s below Q n0 C N T (mkF m pc Ls (.int y :: .int x :: st)) := by
  subst ha hb hp2
  have hw : x = y ↔ x.toInt = y.toInt := Int32.toInt_inj.symm
  by_cases hq : x = y
  · exact (kt (hw.mp hq)).go fun _ q => XS.icmpYes X.here hx rfl rfl hd rfl (XT.ii_eq_t hq) ho hp q
  · exact (kf fun z => hq (hw.mpr z)).go fun _ q => XS.icmpNo X.here hx rfl hd rfl (XT.ii_eq_f hq) q
theorem g_ll_eq (X : Stand p l e R s m args below meth c T locs cells slots) (hx : p.tables.exec = Jvm.exec) {o : Int} {x y : Int64} {a b : Int} (ha : x.toInt = a) (hb : y.toInt = b) (hd1 : decode c.code pc = .ok (.lcmp, 1)) {pc1 : Nat} (hp1 : pc + 1 = pc1) (hd : decode c.code pc1 = .ok (.ifCond .eq o, 3)) (ho : 0 ≤ (pc1 : Int) + o) (hp : ((pc1 : Int) + o).toNat = pc') {pc2 : Nat} (hp2 : pc1 + 3 = pc2)
    (kt : a = b → Goes p e s below Q n0 C N T (mkF m pc' Ls st)) (kf : ¬ a = b → Goes p e s below Q n0 C N T (mkF m pc2 Ls st)) : Goes p e s below Q n0 C N T (mkF m pc Ls (.long y :: .long x :: st)) := by
  subst ha hb hp1 hp2
  refine Goes.go (g' := mkF m (pc + 1) Ls (.int (XT.cmpL x y) :: st)) (fun _ q => XT.lcmp X.here hx rfl hd1 rfl q) ?_
  have hw : x = y ↔ x.toInt = y.toInt := Int64.toInt_inj.symm
  by_cases hq : x = y
  · exact (kt (hw.mp hq)).go fun _ q => XS.ifYes X.here hx rfl rfl hd rfl (XT.ll_eq_t hq) ho hp q
  · exact (kf fun z => hq (hw.mpr z)).go fun _ q => XS.ifNo X.here hx rfl hd rfl (XT.ll_eq_f hq) q
theorem g_i0_eq (X : Stand p l e R s m args below meth c T locs cells slots) (hx : p.tables.exec = Jvm.exec) {o : Int} {x : Int32} {a : Int} (ha : x.toInt = a) (hd : decode c.code pc = .ok (.ifCond .eq o, 3)) (ho : 0 ≤ (pc : Int) + o) (hp : ((pc : Int) + o).toNat = pc') {pc2 : Nat} (hp2 : pc + 3 = pc2)
    (kt : a = 0 → Goes p e s below Q n0 C N T (mkF m pc' Ls st)) (kf : ¬ a = 0 → Goes p e s below Q n0 C N T (mkF m pc2 Ls st)) : Goes p e s below Q n0 C N T (mkF m pc Ls (.int x :: st)) := by
  subst ha hp2
  have hw : x = 0 ↔ x.toInt = 0 := ⟨fun z => by rw [z]; rfl, fun z => Int32.toInt_inj.mp (z.trans rfl)⟩
  by_cases hq : x = 0
  · exact (kt (hw.mp hq)).go fun _ q => XS.ifYes X.here hx rfl rfl hd rfl (XT.i0_eq_t hq) ho hp q
  · exact (kf fun z => hq (hw.mpr z)).go fun _ q => XS.ifNo X.here hx rfl hd rfl (XT.i0_eq_f hq) q
theorem g_ii_ne (X : Stand p l e R s m args below meth c T locs cells slots) (hx : p.tables.exec = Jvm.exec) {o : Int} {x y : Int32} {a b : Int} (ha : x.toInt = a) (hb : y.toInt = b) (hd : decode c.code pc = .ok (.if_icmp .ne o, 3)) (ho : 0 ≤ (pc : Int) + o) (hp : ((pc : Int) + o).toNat = pc') {pc2 : Nat} (hp2 : pc + 3 = pc2)
    (kt : ¬ a = b → Goes p e s below Q n0 C N T (mkF m pc' Ls st)) (kf : a = b → Goes p e s below Q n0 C N T (mkF m pc2 Ls st)) : Goes p e s below Q n0 C N T (mkF m pc Ls (.int y :: .int x :: st)) := by
  subst ha hb hp2
  have hw : x = y ↔ x.toInt = y.toInt := Int32.toInt_inj.symm
  by_cases hq : x = y
  · exact (kf (hw.mp hq)).go fun _ q => XS.icmpNo X.here hx rfl hd rfl (XT.ii_ne_f hq) q
  · exact (kt fun z => hq (hw.mpr z)).go fun _ q => XS.icmpYes X.here hx rfl rfl hd rfl (XT.ii_ne_t hq) ho hp q
theorem g_ll_ne (X : Stand p l e R s m args below meth c T locs cells slots) (hx : p.tables.exec = Jvm.exec) {o : Int} {x y : Int64} {a b : Int} (ha : x.toInt = a) (hb : y.toInt = b) (hd1 : decode c.code pc = .ok (.lcmp, 1)) {pc1 : Nat} (hp1 : pc + 1 = pc1) (hd : decode c.code pc1 = .ok (.ifCond .ne o, 3)) (ho : 0 ≤ (pc1 : Int) + o) (hp : ((pc1 : Int) + o).toNat = pc') {pc2 : Nat} (hp2 : pc1 + 3 = pc2)
    (kt : ¬ a = b → Goes p e s below Q n0 C N T (mkF m pc' Ls st)) (kf : a = b → Goes p e s below Q n0 C N T (mkF m pc2 Ls st)) : Goes p e s below Q n0 C N T (mkF m pc Ls (.long y :: .long x :: st)) := by
  subst ha hb hp1 hp2
  refine Goes.go (g' := mkF m (pc + 1) Ls (.int (XT.cmpL x y) :: st)) (fun _ q => XT.lcmp X.here hx rfl hd1 rfl q) ?_
  have hw : x = y ↔ x.toInt = y.toInt := Int64.toInt_inj.symm
  by_cases hq : x = y
  · exact (kf (hw.mp hq)).go fun _ q => XS.ifNo X.here hx rfl hd rfl (XT.ll_ne_f hq) q
  · exact (kt fun z => hq (hw.mpr z)).go fun _ q => XS.ifYes X.here hx rfl rfl hd rfl (XT.ll_ne_t hq) ho hp q
theorem g_i0_ne (X : Stand p l e R s m args below meth c T locs cells slots) (hx : p.tables.exec = Jvm.exec) {o : Int} {x : Int32} {a : Int} (ha : x.toInt = a) (hd : decode c.code pc = .ok (.ifCond .ne o, 3)) (ho : 0 ≤ (pc : Int) + o) (hp : ((pc : Int) + o).toNat = pc') {pc2 : Nat} (hp2 : pc + 3 = pc2)
    (kt : ¬ a = 0 → Goes p e s below Q n0 C N T (mkF m pc' Ls st)) (kf : a = 0 → Goes p e s below Q n0 C N T (mkF m pc2 Ls st)) : Goes p e s below Q n0 C N T (mkF m pc Ls (.int x :: st)) := by
  subst ha hp2
  have hw : x = 0 ↔ x.toInt = 0 := ⟨fun z => by rw [z]; rfl, fun z => Int32.toInt_inj.mp (z.trans rfl)⟩
  by_cases hq : x = 0
  · exact (kf (hw.mp hq)).go fun _ q => XS.ifNo X.here hx rfl hd rfl (XT.i0_ne_f hq) q
  · exact (kt fun z => hq (hw.mpr z)).go fun _ q => XS.ifYes X.here hx rfl rfl hd rfl (XT.i0_ne_t hq) ho hp q
theorem g_ii_lt (X : Stand p l e R s m args below meth c T locs cells slots) (hx : p.tables.exec = Jvm.exec) {o : Int} {x y : Int32} {a b : Int} (ha : x.toInt = a) (hb : y.toInt = b) (hd : decode c.code pc = .ok (.if_icmp .lt o, 3)) (ho : 0 ≤ (pc : Int) + o) (hp : ((pc : Int) + o).toNat = pc') {pc2 : Nat} (hp2 : pc + 3 = pc2)
    (kt : a < b → Goes p e s below Q n0 C N T (mkF m pc' Ls st)) (kf : ¬ a < b → Goes p e s below Q n0 C N T (mkF m pc2 Ls st)) : Goes p e s below Q n0 C N T (mkF m pc Ls (.int y :: .int x :: st)) := by
  subst ha hb hp2
  have hw : x < y ↔ x.toInt < y.toInt := Int32.lt_iff_toInt_lt
  by_cases hq : x < y
  · exact (kt (hw.mp hq)).go fun _ q => XS.icmpYes X.here hx rfl rfl hd rfl (XT.ii_lt_t hq) ho hp q
  · exact (kf fun z => hq (hw.mpr z)).go fun _ q => XS.icmpNo X.here hx rfl hd rfl (XT.ii_lt_f hq) q
theorem g_ll_lt (X : Stand p l e R s m args below meth c T locs cells slots) (hx : p.tables.exec = Jvm.exec) {o : Int} {x y : Int64} {a b : Int} (ha : x.toInt = a) (hb : y.toInt = b) (hd1 : decode c.code pc = .ok (.lcmp, 1)) {pc1 : Nat} (hp1 : pc + 1 = pc1) (hd : decode c.code pc1 = .ok (.ifCond .lt o, 3)) (ho : 0 ≤ (pc1 : Int) + o) (hp : ((pc1 : Int) + o).toNat = pc') {pc2 : Nat} (hp2 : pc1 + 3 = pc2)
    (kt : a < b → Goes p e s below Q n0 C N T (mkF m pc' Ls st)) (kf : ¬ a < b → Goes p e s below Q n0 C N T (mkF m pc2 Ls st)) : Goes p e s below Q n0 C N T (mkF m pc Ls (.long y :: .long x :: st)) := by
  subst ha hb hp1 hp2
  refine Goes.go (g' := mkF m (pc + 1) Ls (.int (XT.cmpL x y) :: st)) (fun _ q => XT.lcmp X.here hx rfl hd1 rfl q) ?_
  have hw : x < y ↔ x.toInt < y.toInt := Int64.lt_iff_toInt_lt
  by_cases hq : x < y
  · exact (kt (hw.mp hq)).go fun _ q => XS.ifYes X.here hx rfl rfl hd rfl (XT.ll_lt_t hq) ho hp q
  · exact (kf fun z => hq (hw.mpr z)).go fun _ q => XS.ifNo X.here hx rfl hd rfl (XT.ll_lt_f hq) q
theorem g_i0_lt (X : Stand p l e R s m args below meth c T locs cells slots) (hx : p.tables.exec = Jvm.exec) {o : Int} {x : Int32} {a : Int} (ha : x.toInt = a) (hd : decode c.code pc = .ok (.ifCond .lt o, 3)) (ho : 0 ≤ (pc : Int) + o) (hp : ((pc : Int) + o).toNat = pc') {pc2 : Nat} (hp2 : pc + 3 = pc2)
    (kt : a < 0 → Goes p e s below Q n0 C N T (mkF m pc' Ls st)) (kf : ¬ a < 0 → Goes p e s below Q n0 C N T (mkF m pc2 Ls st)) : Goes p e s below Q n0 C N T (mkF m pc Ls (.int x :: st)) := by
  subst ha hp2
  have hw : x < 0 ↔ x.toInt < 0 := Int32.lt_iff_toInt_lt
  by_cases hq : x < 0
  · exact (kt (hw.mp hq)).go fun _ q => XS.ifYes X.here hx rfl rfl hd rfl (XT.i0_lt_t hq) ho hp q
  · exact (kf fun z => hq (hw.mpr z)).go fun _ q => XS.ifNo X.here hx rfl hd rfl (XT.i0_lt_f hq) q
theorem g_ii_ge (X : Stand p l e R s m args below meth c T locs cells slots) (hx : p.tables.exec = Jvm.exec) {o : Int} {x y : Int32} {a b : Int} (ha : x.toInt = a) (hb : y.toInt = b) (hd : decode c.code pc = .ok (.if_icmp .ge o, 3)) (ho : 0 ≤ (pc : Int) + o) (hp : ((pc : Int) + o).toNat = pc') {pc2 : Nat} (hp2 : pc + 3 = pc2)
    (kt : ¬ a < b → Goes p e s below Q n0 C N T (mkF m pc' Ls st)) (kf : a < b → Goes p e s below Q n0 C N T (mkF m pc2 Ls st)) : Goes p e s below Q n0 C N T (mkF m pc Ls (.int y :: .int x :: st)) := by
  subst ha hb hp2
  have hw : x < y ↔ x.toInt < y.toInt := Int32.lt_iff_toInt_lt
  by_cases hq : x < y
  · exact (kf (hw.mp hq)).go fun _ q => XS.icmpNo X.here hx rfl hd rfl (XT.ii_ge_f hq) q
  · exact (kt fun z => hq (hw.mpr z)).go fun _ q => XS.icmpYes X.here hx rfl rfl hd rfl (XT.ii_ge_t hq) ho hp q
theorem g_ll_ge (X : Stand p l e R s m args below meth c T locs cells slots) (hx : p.tables.exec = Jvm.exec) {o : Int} {x y : Int64} {a b : Int} (ha : x.toInt = a) (hb : y.toInt = b) (hd1 : decode c.code pc = .ok (.lcmp, 1)) {pc1 : Nat} (hp1 : pc + 1 = pc1) (hd : decode c.code pc1 = .ok (.ifCond .ge o, 3)) (ho : 0 ≤ (pc1 : Int) + o) (hp : ((pc1 : Int) + o).toNat = pc') {pc2 : Nat} (hp2 : pc1 + 3 = pc2)
    (kt : ¬ a < b → Goes p e s below Q n0 C N T (mkF m pc' Ls st)) (kf : a < b → Goes p e s below Q n0 C N T (mkF m pc2 Ls st)) : Goes p e s below Q n0 C N T (mkF m pc Ls (.long y :: .long x :: st)) := by
  subst ha hb hp1 hp2
  refine Goes.go (g' := mkF m (pc + 1) Ls (.int (XT.cmpL x y) :: st)) (fun _ q => XT.lcmp X.here hx rfl hd1 rfl q) ?_
  have hw : x < y ↔ x.toInt < y.toInt := Int64.lt_iff_toInt_lt
  by_cases hq : x < y
  · exact (kf (hw.mp hq)).go fun _ q => XS.ifNo X.here hx rfl hd rfl (XT.ll_ge_f hq) q
  · exact (kt fun z => hq (hw.mpr z)).go fun _ q => XS.ifYes X.here hx rfl rfl hd rfl (XT.ll_ge_t hq) ho hp q
theorem g_i0_ge (X : Stand p l e R s m args below meth c T locs cells slots) (hx : p.tables.exec = Jvm.exec) {o : Int} {x : Int32} {a : Int} (ha : x.toInt = a) (hd : decode c.code pc = .ok (.ifCond .ge o, 3)) (ho : 0 ≤ (pc : Int) + o) (hp : ((pc : Int) + o).toNat = pc') {pc2 : Nat} (hp2 : pc + 3 = pc2)
    (kt : ¬ a < 0 → Goes p e s below Q n0 C N T (mkF m pc' Ls st)) (kf : a < 0 → Goes p e s below Q n0 C N T (mkF m pc2 Ls st)) : Goes p e s below Q n0 C N T (mkF m pc Ls (.int x :: st)) := by
  subst ha hp2
  have hw : x < 0 ↔ x.toInt < 0 := Int32.lt_iff_toInt_lt
  by_cases hq : x < 0
  · exact (kf (hw.mp hq)).go fun _ q => XS.ifNo X.here hx rfl hd rfl (XT.i0_ge_f hq) q
  · exact (kt fun z => hq (hw.mpr z)).go fun _ q => XS.ifYes X.here hx rfl rfl hd rfl (XT.i0_ge_t hq) ho hp q
theorem g_ii_gt (X : Stand p l e R s m args below meth c T locs cells slots) (hx : p.tables.exec = Jvm.exec) {o : Int} {x y : Int32} {a b : Int} (ha : x.toInt = a) (hb : y.toInt = b) (hd : decode c.code pc = .ok (.if_icmp .gt o, 3)) (ho : 0 ≤ (pc : Int) + o) (hp : ((pc : Int) + o).toNat = pc') {pc2 : Nat} (hp2 : pc + 3 = pc2)
    (kt : b < a → Goes p e s below Q n0 C N T (mkF m pc' Ls st)) (kf : ¬ b < a → Goes p e s below Q n0 C N T (mkF m pc2 Ls st)) : Goes p e s below Q n0 C N T (mkF m pc Ls (.int y :: .int x :: st)) := by
  subst ha hb hp2
  have hw : y < x ↔ y.toInt < x.toInt := Int32.lt_iff_toInt_lt
  by_cases hq : y < x
  · exact (kt (hw.mp hq)).go fun _ q => XS.icmpYes X.here hx rfl rfl hd rfl (XT.ii_gt_t hq) ho hp q
  · exact (kf fun z => hq (hw.mpr z)).go fun _ q => XS.icmpNo X.here hx rfl hd rfl (XT.ii_gt_f hq) q
theorem g_ll_gt (X : Stand p l e R s m args below meth c T locs cells slots) (hx : p.tables.exec = Jvm.exec) {o : Int} {x y : Int64} {a b : Int} (ha : x.toInt = a) (hb : y.toInt = b) (hd1 : decode c.code pc = .ok (.lcmp, 1)) {pc1 : Nat} (hp1 : pc + 1 = pc1) (hd : decode c.code pc1 = .ok (.ifCond .gt o, 3)) (ho : 0 ≤ (pc1 : Int) + o) (hp : ((pc1 : Int) + o).toNat = pc') {pc2 : Nat} (hp2 : pc1 + 3 = pc2)
    (kt : b < a → Goes p e s below Q n0 C N T (mkF m pc' Ls st)) (kf : ¬ b < a → Goes p e s below Q n0 C N T (mkF m pc2 Ls st)) : Goes p e s below Q n0 C N T (mkF m pc Ls (.long y :: .long x :: st)) := by
  subst ha hb hp1 hp2
  refine Goes.go (g' := mkF m (pc + 1) Ls (.int (XT.cmpL x y) :: st)) (fun _ q => XT.lcmp X.here hx rfl hd1 rfl q) ?_
  have hw : y < x ↔ y.toInt < x.toInt := Int64.lt_iff_toInt_lt
  by_cases hq : y < x
  · exact (kt (hw.mp hq)).go fun _ q => XS.ifYes X.here hx rfl rfl hd rfl (XT.ll_gt_t hq) ho hp q
  · exact (kf fun z => hq (hw.mpr z)).go fun _ q => XS.ifNo X.here hx rfl hd rfl (XT.ll_gt_f hq) q
theorem g_i0_gt (X : Stand p l e R s m args below meth c T locs cells slots) (hx : p.tables.exec = Jvm.exec) {o : Int} {x : Int32} {a : Int} (ha : x.toInt = a) (hd : decode c.code pc = .ok (.ifCond .gt o, 3)) (ho : 0 ≤ (pc : Int) + o) (hp : ((pc : Int) + o).toNat = pc') {pc2 : Nat} (hp2 : pc + 3 = pc2)
    (kt : 0 < a → Goes p e s below Q n0 C N T (mkF m pc' Ls st)) (kf : ¬ 0 < a → Goes p e s below Q n0 C N T (mkF m pc2 Ls st)) : Goes p e s below Q n0 C N T (mkF m pc Ls (.int x :: st)) := by
  subst ha hp2
  have hw : 0 < x ↔ 0 < x.toInt := Int32.lt_iff_toInt_lt
  by_cases hq : 0 < x
  · exact (kt (hw.mp hq)).go fun _ q => XS.ifYes X.here hx rfl rfl hd rfl (XT.i0_gt_t hq) ho hp q
  · exact (kf fun z => hq (hw.mpr z)).go fun _ q => XS.ifNo X.here hx rfl hd rfl (XT.i0_gt_f hq) q
theorem g_ii_le (X : Stand p l e R s m args below meth c T locs cells slots) (hx : p.tables.exec = Jvm.exec) {o : Int} {x y : Int32} {a b : Int} (ha : x.toInt = a) (hb : y.toInt = b) (hd : decode c.code pc = .ok (.if_icmp .le o, 3)) (ho : 0 ≤ (pc : Int) + o) (hp : ((pc : Int) + o).toNat = pc') {pc2 : Nat} (hp2 : pc + 3 = pc2)
    (kt : ¬ b < a → Goes p e s below Q n0 C N T (mkF m pc' Ls st)) (kf : b < a → Goes p e s below Q n0 C N T (mkF m pc2 Ls st)) : Goes p e s below Q n0 C N T (mkF m pc Ls (.int y :: .int x :: st)) := by
  subst ha hb hp2
  have hw : y < x ↔ y.toInt < x.toInt := Int32.lt_iff_toInt_lt
  by_cases hq : y < x
  · exact (kf (hw.mp hq)).go fun _ q => XS.icmpNo X.here hx rfl hd rfl (XT.ii_le_f hq) q
  · exact (kt fun z => hq (hw.mpr z)).go fun _ q => XS.icmpYes X.here hx rfl rfl hd rfl (XT.ii_le_t hq) ho hp q
theorem g_ll_le (X : Stand p l e R s m args below meth c T locs cells slots) (hx : p.tables.exec = Jvm.exec) {o : Int} {x y : Int64} {a b : Int} (ha : x.toInt = a) (hb : y.toInt = b) (hd1 : decode c.code pc = .ok (.lcmp, 1)) {pc1 : Nat} (hp1 : pc + 1 = pc1) (hd : decode c.code pc1 = .ok (.ifCond .le o, 3)) (ho : 0 ≤ (pc1 : Int) + o) (hp : ((pc1 : Int) + o).toNat = pc') {pc2 : Nat} (hp2 : pc1 + 3 = pc2)
    (kt : ¬ b < a → Goes p e s below Q n0 C N T (mkF m pc' Ls st)) (kf : b < a → Goes p e s below Q n0 C N T (mkF m pc2 Ls st)) : Goes p e s below Q n0 C N T (mkF m pc Ls (.long y :: .long x :: st)) := by
  subst ha hb hp1 hp2
  refine Goes.go (g' := mkF m (pc + 1) Ls (.int (XT.cmpL x y) :: st)) (fun _ q => XT.lcmp X.here hx rfl hd1 rfl q) ?_
  have hw : y < x ↔ y.toInt < x.toInt := Int64.lt_iff_toInt_lt
  by_cases hq : y < x
  · exact (kf (hw.mp hq)).go fun _ q => XS.ifNo X.here hx rfl hd rfl (XT.ll_le_f hq) q
  · exact (kt fun z => hq (hw.mpr z)).go fun _ q => XS.ifYes X.here hx rfl rfl hd rfl (XT.ll_le_t hq) ho hp q
theorem g_i0_le (X : Stand p l e R s m args below meth c T locs cells slots) (hx : p.tables.exec = Jvm.exec) {o : Int} {x : Int32} {a : Int} (ha : x.toInt = a) (hd : decode c.code pc = .ok (.ifCond .le o, 3)) (ho : 0 ≤ (pc : Int) + o) (hp : ((pc : Int) + o).toNat = pc') {pc2 : Nat} (hp2 : pc + 3 = pc2)
    (kt : ¬ 0 < a → Goes p e s below Q n0 C N T (mkF m pc' Ls st)) (kf : 0 < a → Goes p e s below Q n0 C N T (mkF m pc2 Ls st)) : Goes p e s below Q n0 C N T (mkF m pc Ls (.int x :: st)) := by
  subst ha hp2
  have hw : 0 < x ↔ 0 < x.toInt := Int32.lt_iff_toInt_lt
  by_cases hq : 0 < x
  · exact (kf (hw.mp hq)).go fun _ q => XS.ifNo X.here hx rfl hd rfl (XT.i0_le_f hq) q
  · exact (kt fun z => hq (hw.mpr z)).go fun _ q => XS.ifYes X.here hx rfl rfl hd rfl (XT.i0_le_t hq) ho hp q
theorem g_ifnullYes (X : Stand p l e R s m args below meth c T locs cells slots) (hx : p.tables.exec = Jvm.exec) {o : Int} (hd : decode c.code pc = .ok (.ifnull o, 3)) (ho : 0 ≤ (pc : Int) + o) (hp : ((pc : Int) + o).toNat = pc')
    (k : Goes p e s below Q n0 C N T (mkF m pc' Ls st)) : Goes p e s below Q n0 C N T (mkF m pc Ls (.null :: st)) := k.go fun _ q => XS.ifnullYes X.here hx rfl rfl hd rfl ho hp q
theorem g_ifnullNo (X : Stand p l e R s m args below meth c T locs cells slots) (hx : p.tables.exec = Jvm.exec) {o : Int} {b : Addr} (hd : decode c.code pc = .ok (.ifnull o, 3)) (hp : pc + 3 = pc')
    (k : Goes p e s below Q n0 C N T (mkF m pc' Ls st)) : Goes p e s below Q n0 C N T (mkF m pc Ls (.ref b :: st)) := by
  subst hp; exact k.go fun _ q => XS.ifnullNo X.here hx rfl hd rfl q
theorem g_ifnonnullYes (X : Stand p l e R s m args below meth c T locs cells slots) (hx : p.tables.exec = Jvm.exec) {o : Int} {b : Addr} (hd : decode c.code pc = .ok (.ifnonnull o, 3)) (ho : 0 ≤ (pc : Int) + o) (hp : ((pc : Int) + o).toNat = pc')
    (k : Goes p e s below Q n0 C N T (mkF m pc' Ls st)) : Goes p e s below Q n0 C N T (mkF m pc Ls (.ref b :: st)) := k.go fun _ q => XT.ifnonnullYes X.here hx rfl rfl hd rfl ho hp q
theorem IA.lt {h : Heap} {a n : Nat} {f : Nat → Int32} (F : IA Z h a n f) : a < h.size := by obtain ⟨_, c, A, -⟩ := F; exact A.lt
theorem IA.ext {h h' : Heap} {a n : Nat} {f : Nat → Int32} (F : IA Z h a n f) (E : Ext h h') : IA Z h' a n f := by obtain ⟨q, c, A, r⟩ := F; exact ⟨q, c, A.ext E, r⟩
theorem IA.keep {h h' : Heap} {a n : Nat} {f : Nat → Int32} {ws : List Addr} (F : IA Z h a n f) (K : Keep h h' ws) (q : a ∉ ws) : IA Z h' a n f := by obtain ⟨q', c, A, r⟩ := F; exact ⟨q', c, ⟨K.2.1 a c A.1 q, A.2⟩, r⟩
theorem IA.other {h h' : Heap} {a b n sl : Nat} {f : Nat → Int32} {v : Value} (F : IA Z h b n f) (W : Wr h h' a sl v) (q : b ≠ a) : IA Z h' b n f := by obtain ⟨q', c, A, r⟩ := F; exact ⟨q', c, A.other W q, r⟩
theorem IA.congr {h : Heap} {a n : Nat} {f f' : Nat → Int32} (F : IA Z h a n f) (q : ∀ i, i < n → f i = f' i) : IA Z h a n f' := by obtain ⟨q', c, A, r, s⟩ := F; exact ⟨q', c, A, r, fun i hi => by rw [← q i hi]; exact s i hi⟩
theorem g_iaload (X : Stand p l e R s m args below meth c T locs cells slots) (hx : p.tables.exec = Jvm.exec) (hZ : Z.Warmed39 s.vm) (eT : T.heap = h) {a n k : Nat} {f : Nat → Int32} {j : Int32} (F : IA Z h a n f) (hj : j.toInt = (k : Int)) (hk : k < n) (hd : decode c.code pc = .ok (.iaload, 1)) (hp : pc + 1 = pc')
    (kk : Goes p e s below Q n0 C N T (mkF m pc' Ls (.int (f k) :: st))) : Goes p e s below Q n0 C N T (mkF m pc Ls (.int j :: .ref a :: st)) := by
  subst hp; obtain ⟨-, cl, A, S, H⟩ := F
  exact kk.go fun t q => X.iaload hx (by rw [eT]; exact A.1) (State.isArrayOf_alike hZ.alike A.2.1) A.2.2 (by rw [S]; exact nin hj hk) (by rw [(nclamp hj).1]; exact H k hk) (g := mkF m pc Ls (.int j :: .ref a :: st)) rfl rfl hd t q
theorem g_lenIA (X : Stand p l e R s m args below meth c T locs cells slots) (hx : p.tables.exec = Jvm.exec) (hZ : Z.Warmed39 s.vm) (eT : T.heap = h) {a n : Nat} {f : Nat → Int32} {z : Int32} (F : IA Z h a n f) (hz : z.toInt = (n : Int)) (hd : decode c.code pc = .ok (.arraylength, 1)) (hp : pc + 1 = pc')
    (kk : Goes p e s below Q n0 C N T (mkF m pc' Ls (.int z :: st))) : Goes p e s below Q n0 C N T (mkF m pc Ls (.ref a :: st)) := by
  subst hp; obtain ⟨hn, cl, A, S, H⟩ := F
  have hzz : z = cl.slots.size.toInt32 := Int32.toInt_inj.mp (by rw [S, hz, len32 hn])
  subst hzz
  exact kk.go fun t q => X.arraylength hx (by rw [eT]; exact A.1) (State.isArrayOf_alike hZ.alike A.2.1) (g := mkF m pc Ls (.ref a :: st)) rfl rfl hd t q
theorem g_iastore (X : Stand p l e R s m args below meth c T locs cells slots) (hx : p.tables.exec = Jvm.exec) (hZ : Z.Warmed39 s.vm) (eT : T.heap = h) {a n k : Nat} {f : Nat → Int32} {j : Int32} {x : Int32} (F : IA Z h a n f) (hj : j.toInt = (k : Int)) (hk : k < n) (hN : Fr n0 locs) (ha : n0 ≤ a) (hd : decode c.code pc = .ok (.iastore, 1)) (hp : pc + 1 = pc')
    (kk : ∀ T' h' locs', Stand p l e R s m args below meth c T' locs' cells slots → T'.heap = h' → Wr h h' a k (.int x) → Fr n0 locs' → IA Z h' a n (oupd f k x) → Goes p e s below Q n0 C N T' (mkF m pc' Ls st)) : Goes p e s below Q n0 C N T (mkF m pc Ls (.int x :: .int j :: .ref a :: st)) := by
  subst hp; obtain ⟨hn, cl, A, S, H⟩ := F
  obtain ⟨T', h', X', e', W', st'⟩ := stI X hx hZ eT A (j := j) (x := x) (by rw [S]; exact nin hj hk) (g := mkF m pc Ls (.int x :: .int j :: .ref a :: st)) rfl rfl hd
  rw [(nclamp hj).1] at W' X'
  refine (kk T' h' _ X' e' W' (Fr.snoc X' hN ha) ⟨hn, _, A.same W', by rw [sz_set]; exact S, fun i hi => ?_⟩).go st'
  by_cases q : i = k
  · subst q; simp [Cell.setSlot, oupd, S, hi]
  · have := H i hi
    simp only [Cell.setSlot, oupd, q, if_false]
    rw [Array.getElem?_setIfInBounds_ne (fun z => q z.symm)]; exact this
theorem g_newIA (X : Stand p l e R s m args below meth c T locs cells slots) (hx : p.tables.exec = Jvm.exec) (hZ : Z.Warmed39 s.vm) (w : (Cond.arrayClass .int).before a0 Z = true) (eT : T.heap = h) {z : Int32} {n : Nat} (hz : z.toInt = (n : Int)) {cap : Nat} (hcap : n ≤ cap) (hb : cap * 8 ≤ 536870912) (hd : decode c.code pc = .ok (.newarray .int, 2)) (hc : cells + 1 ≤ R.cells) (hl : slots + cap ≤ R.slots) (hp : pc + 2 = pc')
    (kk : ∀ T' h' a, a = h.size → Stand p l e R s m args below meth c T' locs (cells + 1) (slots + cap) → T'.heap = h' → Ext h h' → a < h'.size → IA Z h' a n zeroI → Goes p e s below Q n0 C N T' (mkF m pc' Ls (.ref a :: st))) : Goes p e s below Q n0 C N T (mkF m pc Ls (.int z :: st)) := by
  subst hp
  obtain ⟨q1, q2⟩ := nclamp hz
  obtain ⟨T', h', cA, X', e', E', A', st'⟩ := newP X hx hZ (aty := .int) w eT (g := mkF m pc Ls (.int z :: st)) rfl hd (n := z) rfl q2 (cap := cap) (by rw [q1]; exact hcap) hb hc hl
  refine (kk T' h' h.size rfl X' e' E' A'.lt ⟨?_, _, A', by rw [sz_new, q1], fun i hi => ?_⟩).go st'
  · have := z.toInt_lt; omega
  · simp only [newA, q1]; simp [hi]; rfl
theorem LA.lt {h : Heap} {a n : Nat} {f : Nat → Int64} (F : LA Z h a n f) : a < h.size := by obtain ⟨_, c, A, -⟩ := F; exact A.lt
theorem LA.ext {h h' : Heap} {a n : Nat} {f : Nat → Int64} (F : LA Z h a n f) (E : Ext h h') : LA Z h' a n f := by obtain ⟨q, c, A, r⟩ := F; exact ⟨q, c, A.ext E, r⟩
theorem LA.keep {h h' : Heap} {a n : Nat} {f : Nat → Int64} {ws : List Addr} (F : LA Z h a n f) (K : Keep h h' ws) (q : a ∉ ws) : LA Z h' a n f := by obtain ⟨q', c, A, r⟩ := F; exact ⟨q', c, ⟨K.2.1 a c A.1 q, A.2⟩, r⟩
theorem LA.other {h h' : Heap} {a b n sl : Nat} {f : Nat → Int64} {v : Value} (F : LA Z h b n f) (W : Wr h h' a sl v) (q : b ≠ a) : LA Z h' b n f := by obtain ⟨q', c, A, r⟩ := F; exact ⟨q', c, A.other W q, r⟩
theorem LA.congr {h : Heap} {a n : Nat} {f f' : Nat → Int64} (F : LA Z h a n f) (q : ∀ i, i < n → f i = f' i) : LA Z h a n f' := by obtain ⟨q', c, A, r, s⟩ := F; exact ⟨q', c, A, r, fun i hi => by rw [← q i hi]; exact s i hi⟩
theorem g_laload (X : Stand p l e R s m args below meth c T locs cells slots) (hx : p.tables.exec = Jvm.exec) (hZ : Z.Warmed39 s.vm) (eT : T.heap = h) {a n k : Nat} {f : Nat → Int64} {j : Int32} (F : LA Z h a n f) (hj : j.toInt = (k : Int)) (hk : k < n) (hd : decode c.code pc = .ok (.laload, 1)) (hp : pc + 1 = pc')
    (kk : Goes p e s below Q n0 C N T (mkF m pc' Ls (.long (f k) :: st))) : Goes p e s below Q n0 C N T (mkF m pc Ls (.int j :: .ref a :: st)) := by
  subst hp; obtain ⟨-, cl, A, S, H⟩ := F
  exact kk.go fun t q => X.laload hx (by rw [eT]; exact A.1) (State.isArrayOf_alike hZ.alike A.2.1) A.2.2 (by rw [S]; exact nin hj hk) (by rw [(nclamp hj).1]; exact H k hk) (g := mkF m pc Ls (.int j :: .ref a :: st)) rfl rfl hd t q
theorem g_lenLA (X : Stand p l e R s m args below meth c T locs cells slots) (hx : p.tables.exec = Jvm.exec) (hZ : Z.Warmed39 s.vm) (eT : T.heap = h) {a n : Nat} {f : Nat → Int64} {z : Int32} (F : LA Z h a n f) (hz : z.toInt = (n : Int)) (hd : decode c.code pc = .ok (.arraylength, 1)) (hp : pc + 1 = pc')
    (kk : Goes p e s below Q n0 C N T (mkF m pc' Ls (.int z :: st))) : Goes p e s below Q n0 C N T (mkF m pc Ls (.ref a :: st)) := by
  subst hp; obtain ⟨hn, cl, A, S, H⟩ := F
  have hzz : z = cl.slots.size.toInt32 := Int32.toInt_inj.mp (by rw [S, hz, len32 hn])
  subst hzz
  exact kk.go fun t q => X.arraylength hx (by rw [eT]; exact A.1) (State.isArrayOf_alike hZ.alike A.2.1) (g := mkF m pc Ls (.ref a :: st)) rfl rfl hd t q
theorem g_lastore (X : Stand p l e R s m args below meth c T locs cells slots) (hx : p.tables.exec = Jvm.exec) (hZ : Z.Warmed39 s.vm) (eT : T.heap = h) {a n k : Nat} {f : Nat → Int64} {j : Int32} {x : Int64} (F : LA Z h a n f) (hj : j.toInt = (k : Int)) (hk : k < n) (hN : Fr n0 locs) (ha : n0 ≤ a) (hd : decode c.code pc = .ok (.lastore, 1)) (hp : pc + 1 = pc')
    (kk : ∀ T' h' locs', Stand p l e R s m args below meth c T' locs' cells slots → T'.heap = h' → Wr h h' a k (.long x) → Fr n0 locs' → LA Z h' a n (oupd f k x) → Goes p e s below Q n0 C N T' (mkF m pc' Ls st)) : Goes p e s below Q n0 C N T (mkF m pc Ls (.long x :: .int j :: .ref a :: st)) := by
  subst hp; obtain ⟨hn, cl, A, S, H⟩ := F
  obtain ⟨T', h', X', e', W', st'⟩ := stJ X hx hZ eT A (j := j) (x := x) (by rw [S]; exact nin hj hk) (g := mkF m pc Ls (.long x :: .int j :: .ref a :: st)) rfl rfl hd
  rw [(nclamp hj).1] at W' X'
  refine (kk T' h' _ X' e' W' (Fr.snoc X' hN ha) ⟨hn, _, A.same W', by rw [sz_set]; exact S, fun i hi => ?_⟩).go st'
  by_cases q : i = k
  · subst q; simp [Cell.setSlot, oupd, S, hi]
  · have := H i hi
    simp only [Cell.setSlot, oupd, q, if_false]
    rw [Array.getElem?_setIfInBounds_ne (fun z => q z.symm)]; exact this
theorem g_newLA (X : Stand p l e R s m args below meth c T locs cells slots) (hx : p.tables.exec = Jvm.exec) (hZ : Z.Warmed39 s.vm) (w : (Cond.arrayClass .long).before a0 Z = true) (eT : T.heap = h) {z : Int32} {n : Nat} (hz : z.toInt = (n : Int)) {cap : Nat} (hcap : n ≤ cap) (hb : cap * 8 ≤ 536870912) (hd : decode c.code pc = .ok (.newarray .long, 2)) (hc : cells + 1 ≤ R.cells) (hl : slots + cap ≤ R.slots) (hp : pc + 2 = pc')
    (kk : ∀ T' h' a, a = h.size → Stand p l e R s m args below meth c T' locs (cells + 1) (slots + cap) → T'.heap = h' → Ext h h' → a < h'.size → LA Z h' a n zeroL → Goes p e s below Q n0 C N T' (mkF m pc' Ls (.ref a :: st))) : Goes p e s below Q n0 C N T (mkF m pc Ls (.int z :: st)) := by
  subst hp
  obtain ⟨q1, q2⟩ := nclamp hz
  obtain ⟨T', h', cA, X', e', E', A', st'⟩ := newP X hx hZ (aty := .long) w eT (g := mkF m pc Ls (.int z :: st)) rfl hd (n := z) rfl q2 (cap := cap) (by rw [q1]; exact hcap) hb hc hl
  refine (kk T' h' h.size rfl X' e' E' A'.lt ⟨?_, _, A', by rw [sz_new, q1], fun i hi => ?_⟩).go st'
  · have := z.toInt_lt; omega
  · simp only [newA, q1]; simp [hi]; rfl
/-! numbers -/
theorem all_succ {P : Nat → Prop} {i : Nat} (h : ∀ y, y < i → P y) (hi : P i) : ∀ y, y < i + 1 → P y := fun y hy => by
  by_cases q : y = i
  · exact q ▸ hi
  · exact h y (by omega)
theorem oupd_at {A : Type} (f : Nat → A) (j : Nat) (v : A) : oupd f j v j = v := by simp [oupd]
theorem oupd_ne {A : Type} (f : Nat → A) {i j : Nat} (v : A) (q : ¬ i = j) : oupd f j v i = f i := by simp [oupd, q]
theorem i32_of_nat (n : Nat) (hn : n < 2147483648) : (Int32.ofNat n).toInt = (n : Int) := by
  rw [Int32.toInt_ofNat']; have hsz : (Int32.size : Int) = 4294967296 := rfl; exact Int.bmod_eq_of_le (by omega) (by omega)
theorem i32_get {x : Int32} (h : 0 ≤ x.toInt) : ∃ n : Nat, x.toInt = (n : Int) ∧ n < 2147483648 := ⟨x.toInt.toNat, (Int.toNat_of_nonneg h).symm, by have := x.toInt_lt; omega⟩
theorem oupdI (f : Nat → Int32) (j i : Nat) (v : Int32) : i = j ∧ (oupd f j v i).toInt = v.toInt ∨ ¬ i = j ∧ (oupd f j v i).toInt = (f i).toInt := by
  by_cases q : i = j
  · exact Or.inl ⟨q, by simp [oupd, q]⟩
  · exact Or.inr ⟨q, by simp [oupd, q]⟩
theorem oupdL (f : Nat → Int64) (j i : Nat) (v : Int64) : i = j ∧ (oupd f j v i).toInt = v.toInt ∨ ¬ i = j ∧ (oupd f j v i).toInt = (f i).toInt := by
  by_cases q : i = j
  · exact Or.inl ⟨q, by simp [oupd, q]⟩
  · exact Or.inr ⟨q, by simp [oupd, q]⟩
end Laws
end Jvm.OwnKit

namespace Jvm.Pilot.@@N@@
open Jvm Jvm.ClassFile Sem Op Lib Jvm.Free Jvm.Stand Jvm.LawKit Jvm.RoadKit Bundle Jvm.OwnKit Jvm.Pilot.@@N@@.Jvm.D
theorem pd_0 : parseMethodDescriptor "()V" = some ⟨[], none⟩ := by decide +kernel
theorem pd_1 : parseMethodDescriptor "(JJ)V" = some ⟨[.long, .long], none⟩ := by decide +kernel
theorem pd_2 : parseMethodDescriptor "(JJ)J" = some ⟨[.long, .long], some .long⟩ := by decide +kernel
theorem pd_3 : parseMethodDescriptor "()J" = some ⟨[], some .long⟩ := by decide +kernel
theorem d1_0 : decode jdk_29_method_66_code 0 = .ok (.lload_n 0, 1) := by decide +kernel
theorem d1_1 : decode jdk_29_method_66_code 1 = .ok (.lload_n 2, 1) := by decide +kernel
theorem d1_2 : decode jdk_29_method_66_code 2 = .ok (.lcmp, 1) := by decide +kernel
theorem d1_3 : decode jdk_29_method_66_code 3 = .ok (.ifCond .lt 7, 3) := by decide +kernel
theorem d1_6 : decode jdk_29_method_66_code 6 = .ok (.lload_n 0, 1) := by decide +kernel
theorem d1_7 : decode jdk_29_method_66_code 7 = .ok (.goto 4, 3) := by decide +kernel
theorem d1_10 : decode jdk_29_method_66_code 10 = .ok (.lload_n 2, 1) := by decide +kernel
theorem d1_11 : decode jdk_29_method_66_code 11 = .ok (.lreturn, 1) := by decide +kernel
theorem pn_0 : plainFor (⟨"java/lang/Math", "max", "(JJ)J"⟩ : MethodName) = true := by first | exact plainFor_of_name (by first | (simp [plainName, overriddenIn]; done) | decide +kernel) | decide +kernel
def Q5 (Z : State) (p1 : Int64) (p2 : Int64) (h0 : Heap) (n0 : Nat) (v : Option Value) (h : Heap) : Prop := ∃ b : Int64, v = some (.long b) ∧ (p2.toInt ≤ p1.toInt ∧ b.toInt = p1.toInt ∨ p1.toInt < p2.toInt ∧ b.toInt = p2.toInt) ∧ h = h0
abbrev R5 : Room := { frames := 0, cells := 0, slots := 0, locals := 0 }
set_option maxRecDepth 65536 in
set_option maxHeartbeats 40000000 in
theorem rm5 (l : Launch) (Z : State) (a0 : Array Value) (hw : ∀ d ∈ tables_1, d.before a0 Z = true)  (p1 : Int64) (p2 : Int64) (h0 : Heap) (n0 : Nat) (Z0 : n0 ≤ h0.size)  :
    Con l (⟨"java/lang/Math", "max", "(JJ)J"⟩ : MethodName) jdk_29_method_66_code 4 (some .long) [] R5 Z #[(.long p1), (.long p2)] h0 n0 (Q5 Z p1 p2 h0 n0) := by
  refine con_of (Ls0 := #[.val (.long p1), .second, .val (.long p2), .second]) pn_0 (fun m => by first | (simp [entryFrame, mkF, argsToLocals, Value.category, maxLocals]; done) | rfl) ?_
  intro p e s m below meth c s₁ X0 hx hby hml hZ hown hnm hret hlk e0 N0
  show Goes p e s below (Q5 Z p1 p2 h0 n0) n0 R5.cells R5.slots s₁ (mkF m 0 #[.val (.long p1), .second, .val (.long p2), .second] [])
  refine g_lloadN X0 hx (hb hby d1_0) (v := p1) rfl (pc' := 1) rfl ?_
  refine g_lloadN X0 hx (hb hby d1_1) (v := p2) rfl (pc' := 2) rfl ?_
  refine g_ll_lt X0 hx (a := p1.toInt) (b := p2.toInt) rfl rfl (hb hby d1_2) (pc1 := 3) rfl (hb hby d1_3) (by decide) (pc' := 10) (by decide) (pc2 := 6) rfl (fun c1 => ?_) (fun c1 => ?_)
  · refine g_lloadN X0 hx (hb hby d1_10) (v := p2) rfl (pc' := 11) rfl ?_
    refine g_retJ X0 hx hlk hret (hb hby d1_11) N0 (by decide) (by decide) ?_
    exact ⟨_, rfl, by omega, e0⟩
  · refine g_lloadN X0 hx (hb hby d1_6) (v := p1) rfl (pc' := 7) rfl ?_
    refine g_goto X0 hx (hb hby d1_7) (by decide) (pc' := 11) (by decide) ?_
    refine g_retJ X0 hx hlk hret (hb hby d1_11) N0 (by decide) (by decide) ?_
    exact ⟨_, rfl, by omega, e0⟩
theorem d3_0 : decode jdk_30_method_1_code 0 = .ok (.aload_n 0, 1) := by decide +kernel
theorem d3_1 : decode jdk_30_method_1_code 1 = .ok (.invokespecial 1, 3) := by decide +kernel
theorem d3_4 : decode jdk_30_method_1_code 4 = .ok (.return_, 1) := by decide +kernel
theorem pn_1 : plainFor (⟨"java/lang/Record", "<init>", "()V"⟩ : MethodName) = true := by first | exact plainFor_of_name (by first | (simp [plainName, overriddenIn]; done) | decide +kernel) | decide +kernel
def Q1 (Z : State) (a : Addr) (h0 : Heap) (n0 : Nat) (v : Option Value) (h : Heap) : Prop := v = none ∧ h = h0
abbrev R1 : Room := { frames := 1, cells := 0, slots := 0, locals := 12 }
set_option maxRecDepth 65536 in
set_option maxHeartbeats 40000000 in
theorem rm1 (l : Launch) (Z : State) (a0 : Array Value) (hw : ∀ d ∈ tables_1, d.before a0 Z = true)  (a : Addr) (h0 : Heap) (n0 : Nat) (Z0 : n0 ≤ h0.size)  :
    Con l (⟨"java/lang/Record", "<init>", "()V"⟩ : MethodName) jdk_30_method_1_code 1 none [] R1 Z #[(.ref a)] h0 n0 (Q1 Z a h0 n0) := by
  refine con_of (Ls0 := #[.val (.ref a)]) pn_1 (fun m => by first | (simp [entryFrame, mkF, argsToLocals, Value.category, maxLocals]; done) | rfl) ?_
  intro p e s m below meth c s₁ X0 hx hby hml hZ hown hnm hret hlk e0 N0
  show Goes p e s below (Q1 Z a h0 n0) n0 R1.cells R1.slots s₁ (mkF m 0 #[.val (.ref a)] [])
  refine g_aloadN X0 hx (hb hby d3_0) (v := (.ref a)) rfl rfl (pc' := 1) rfl ?_
  refine g_initO X0 hx hZ hown (hw _ (List.mem_of_getElem? (i := 16) rfl)) (hw _ (List.mem_of_getElem? (i := 17) rfl)) (hw _ (List.mem_of_getElem? (i := 18) rfl)) e0 (by rw [hml]; rfl) (hb hby d3_1) (by decide) (W := 0) (Nat.le_of_eq rfl) (by decide) (pc' := 4) rfl (fun T1 X2 e3 => ?_)
  refine g_retV X2 hx hlk hret (hb hby d3_4) N0 (by decide) (by decide) ?_
  exact ⟨rfl, e3⟩
theorem d2_0 : decode prog_6_method_1_code 0 = .ok (.aload_n 0, 1) := by decide +kernel
theorem d2_1 : decode prog_6_method_1_code 1 = .ok (.invokespecial 1, 3) := by decide +kernel
theorem d2_4 : decode prog_6_method_1_code 4 = .ok (.aload_n 0, 1) := by decide +kernel
theorem d2_5 : decode prog_6_method_1_code 5 = .ok (.lload_n 1, 1) := by decide +kernel
theorem d2_6 : decode prog_6_method_1_code 6 = .ok (.putfield 7, 3) := by decide +kernel
theorem d2_9 : decode prog_6_method_1_code 9 = .ok (.aload_n 0, 1) := by decide +kernel
theorem d2_10 : decode prog_6_method_1_code 10 = .ok (.lload_n 3, 1) := by decide +kernel
theorem d2_11 : decode prog_6_method_1_code 11 = .ok (.putfield 13, 3) := by decide +kernel
theorem d2_14 : decode prog_6_method_1_code 14 = .ok (.return_, 1) := by decide +kernel
theorem pn_2 : plainFor (⟨"com/example/stagecue/stagecue/engine/ExactTime", "<init>", "(JJ)V"⟩ : MethodName) = true := by first | exact plainFor_of_name (by first | (simp [plainName, overriddenIn]; done) | decide +kernel) | decide +kernel
def Q2 (Z : State) (a : Addr) (q1 : Int64) (q2 : Int64) (h0 : Heap) (n0 : Nat) (v : Option Value) (h : Heap) : Prop := v = none ∧ Keep h0 h [a] ∧ Exa Z h a "com/example/stagecue/stagecue/engine/ExactTime" ∧ Fld Z h a "com/example/stagecue/stagecue/engine/ExactTime" "micros" "J" (.long q1) ∧ Fld Z h a "com/example/stagecue/stagecue/engine/ExactTime" "remainder" "J" (.long q2)
abbrev R2 : Room := { frames := 2, cells := 0, slots := 0, locals := 24 }
set_option maxRecDepth 65536 in
set_option maxHeartbeats 40000000 in
theorem rm2 (l : Launch) (Z : State) (a0 : Array Value) (hw : ∀ d ∈ tables_1, d.before a0 Z = true)  (a : Addr) (q1 : Int64) (q2 : Int64) (h0 : Heap) (n0 : Nat) (Z0 : n0 ≤ h0.size) (Fp0 : Fld Z h0 a "com/example/stagecue/stagecue/engine/ExactTime" "micros" "J" (.long (0 : Int64))) (Fp1 : Fld Z h0 a "com/example/stagecue/stagecue/engine/ExactTime" "remainder" "J" (.long (0 : Int64))) (Fp2 : Exa Z h0 a "com/example/stagecue/stagecue/engine/ExactTime") (gn_a : n0 ≤ a) :
    Con l (⟨"com/example/stagecue/stagecue/engine/ExactTime", "<init>", "(JJ)V"⟩ : MethodName) prog_6_method_1_code 5 none [] R2 Z #[(.ref a), (.long q1), (.long q2)] h0 n0 (Q2 Z a q1 q2 h0 n0) := by
  refine con_of (Ls0 := #[.val (.ref a), .val (.long q1), .second, .val (.long q2), .second]) pn_2 (fun m => by first | (simp [entryFrame, mkF, argsToLocals, Value.category, maxLocals]; done) | rfl) ?_
  intro p e s m below meth c s₁ X0 hx hby hml hZ hown hnm hret hlk e0 N0
  show Goes p e s below (Q2 Z a q1 q2 h0 n0) n0 R2.cells R2.slots s₁ (mkF m 0 #[.val (.ref a), .val (.long q1), .second, .val (.long q2), .second] [])
  have K0 : Keep h0 h0 [a] := Keep.refl _ _
  refine g_aloadN X0 hx (hb hby d2_0) (v := (.ref a)) rfl rfl (pc' := 1) rfl ?_
  refine g_special X0 hx hZ rfl hown (hw _ (List.mem_of_getElem? (i := 11) rfl)) (hw _ (List.mem_of_getElem? (i := 12) rfl)) (hw _ (List.mem_of_getElem? (i := 14) rfl)) (hw _ (List.mem_of_getElem? (i := 15) rfl)) (by decide) (a := a) (argsL := []) (rm1 l Z a0 hw a h0 n0 Z0 ) rfl e0 (by rw [hml]; rfl) pd_0 rfl (rest := []) rfl (W := 0) (Nat.le_of_eq rfl) (by decide) (by decide) (by decide) (by decide) N0 (hb hby d2_1) (pc' := 4) rfl (fun v1 T2 L3 X4 N5 q6 => ?_)
  obtain ⟨rfl, K7⟩ := q6
  show Goes p e s below (Q2 Z a q1 q2 h0 n0) n0 R2.cells R2.slots T2 (mkF m 4 #[.val (.ref a), .val (.long q1), .second, .val (.long q2), .second] [])
  refine g_aloadN X4 hx (hb hby d2_4) (v := (.ref a)) rfl rfl (pc' := 5) rfl ?_
  refine g_lloadN X4 hx (hb hby d2_5) (v := q1) rfl (pc' := 6) rfl ?_
  refine g_putF X4 hx hZ hown (hw _ (List.mem_of_getElem? (i := 19) rfl)) K7 (v := (.long q1)) Fp0 Fp2 (Or.inr ⟨(hw _ (List.mem_of_getElem? (i := 20) rfl)), rfl, hnm⟩) (hw _ (List.mem_of_getElem? (i := 6) rfl)) (ty := .long) (by decide) rfl rfl N5 gn_a (hb hby d2_6) (pc' := 9) rfl (fun T8 h9 L10 X11 e12 W13 N14 => ?_)
  have K15 := K0.wr W13 (Or.inl (by simp))
  have Z16 : n0 ≤ h9.size := by rw [W13.size]; exact Z0
  have F17 := Fld.same W13 Fp0
  have F18 := Fld.other W13 Fp1 (Or.inr (slot_ne (Or.inr (hw _ (List.mem_of_getElem? (i := 22) rfl))) (Or.inr (hw _ (List.mem_of_getElem? (i := 20) rfl))) (by decide) (t := .long) (t' := .long) (by decide) (by decide)))
  have F19 := Exa.wr W13 Fp2
  refine g_aloadN X11 hx (hb hby d2_9) (v := (.ref a)) rfl rfl (pc' := 10) rfl ?_
  refine g_lloadN X11 hx (hb hby d2_10) (v := q2) rfl (pc' := 11) rfl ?_
  refine g_putF X11 hx hZ hown (hw _ (List.mem_of_getElem? (i := 21) rfl)) e12 (v := (.long q2)) F18 F19 (Or.inr ⟨(hw _ (List.mem_of_getElem? (i := 22) rfl)), rfl, hnm⟩) (hw _ (List.mem_of_getElem? (i := 6) rfl)) (ty := .long) (by decide) rfl rfl N14 gn_a (hb hby d2_11) (pc' := 14) rfl (fun T20 h21 L22 X23 e24 W25 N26 => ?_)
  have K27 := K15.wr W25 (Or.inl (by simp))
  have Z28 : n0 ≤ h21.size := by rw [W25.size]; exact Z16
  have F29 := Fld.other W25 F17 (Or.inr (slot_ne (Or.inr (hw _ (List.mem_of_getElem? (i := 20) rfl))) (Or.inr (hw _ (List.mem_of_getElem? (i := 22) rfl))) (by decide) (t := .long) (t' := .long) (by decide) (by decide)))
  have F30 := Fld.same W25 F18
  have F31 := Exa.wr W25 F19
  refine g_retV X23 hx hlk hret (hb hby d2_14) N26 (by decide) (by decide) ?_
  rw [e24]
  exact ⟨rfl, K27, F31, F29, F30⟩
theorem d5_0 : decode prog_6_method_4_code 0 = .ok (.aload_n 0, 1) := by decide +kernel
theorem d5_1 : decode prog_6_method_4_code 1 = .ok (.getfield 13, 3) := by decide +kernel
theorem d5_4 : decode prog_6_method_4_code 4 = .ok (.lconst 0, 1) := by decide +kernel
theorem d5_5 : decode prog_6_method_4_code 5 = .ok (.lcmp, 1) := by decide +kernel
theorem d5_6 : decode prog_6_method_4_code 6 = .ok (.ifCond .ne 8, 3) := by decide +kernel
theorem d5_9 : decode prog_6_method_4_code 9 = .ok (.aload_n 0, 1) := by decide +kernel
theorem d5_10 : decode prog_6_method_4_code 10 = .ok (.getfield 7, 3) := by decide +kernel
theorem d5_13 : decode prog_6_method_4_code 13 = .ok (.lreturn, 1) := by decide +kernel
theorem d5_14 : decode prog_6_method_4_code 14 = .ok (.aload_n 0, 1) := by decide +kernel
theorem d5_15 : decode prog_6_method_4_code 15 = .ok (.getfield 7, 3) := by decide +kernel
theorem d5_18 : decode prog_6_method_4_code 18 = .ok (.ldc2_w 53, 3) := by decide +kernel
theorem d5_21 : decode prog_6_method_4_code 21 = .ok (.lcmp, 1) := by decide +kernel
theorem d5_22 : decode prog_6_method_4_code 22 = .ok (.ifCond .ne 7, 3) := by decide +kernel
theorem d5_25 : decode prog_6_method_4_code 25 = .ok (.invokestatic 32, 3) := by decide +kernel
theorem d5_28 : decode prog_6_method_4_code 28 = .ok (.athrow, 1) := by decide +kernel
theorem d5_29 : decode prog_6_method_4_code 29 = .ok (.aload_n 0, 1) := by decide +kernel
theorem d5_30 : decode prog_6_method_4_code 30 = .ok (.getfield 7, 3) := by decide +kernel
theorem d5_33 : decode prog_6_method_4_code 33 = .ok (.lconst 1, 1) := by decide +kernel
theorem d5_34 : decode prog_6_method_4_code 34 = .ok (.ladd, 1) := by decide +kernel
theorem d5_35 : decode prog_6_method_4_code 35 = .ok (.lreturn, 1) := by decide +kernel
theorem pn_3 : plainFor (⟨"com/example/stagecue/stagecue/engine/ExactTime", "roundedUp", "()J"⟩ : MethodName) = true := by first | exact plainFor_of_name (by first | (simp [plainName, overriddenIn]; done) | decide +kernel) | decide +kernel
def Q3 (Z : State) (a : Addr) (q1 : Int64) (q2 : Int64) (h0 : Heap) (n0 : Nat) (v : Option Value) (h : Heap) : Prop := ∃ b : Int64, v = some (.long b) ∧ (q2.toInt = 0 ∧ b.toInt = q1.toInt ∨ ¬ q2.toInt = 0 ∧ b.toInt = q1.toInt + 1) ∧ h = h0
abbrev R3 : Room := { frames := 0, cells := 0, slots := 0, locals := 0 }
set_option maxRecDepth 65536 in
set_option maxHeartbeats 40000000 in
theorem rm3 (l : Launch) (Z : State) (a0 : Array Value) (hw : ∀ d ∈ tables_1, d.before a0 Z = true)  (a : Addr) (q1 : Int64) (q2 : Int64) (h0 : Heap) (n0 : Nat) (Z0 : n0 ≤ h0.size) (Fp0 : Fld Z h0 a "com/example/stagecue/stagecue/engine/ExactTime" "micros" "J" (.long q1)) (Fp1 : Fld Z h0 a "com/example/stagecue/stagecue/engine/ExactTime" "remainder" "J" (.long q2)) (hm : q1.toInt < 9223372036854775807 ∨ q2.toInt = 0) :
    Con l (⟨"com/example/stagecue/stagecue/engine/ExactTime", "roundedUp", "()J"⟩ : MethodName) prog_6_method_4_code 1 (some .long) [] R3 Z #[(.ref a)] h0 n0 (Q3 Z a q1 q2 h0 n0) := by
  refine con_of (Ls0 := #[.val (.ref a)]) pn_3 (fun m => by first | (simp [entryFrame, mkF, argsToLocals, Value.category, maxLocals]; done) | rfl) ?_
  intro p e s m below meth c s₁ X0 hx hby hml hZ hown hnm hret hlk e0 N0
  show Goes p e s below (Q3 Z a q1 q2 h0 n0) n0 R3.cells R3.slots s₁ (mkF m 0 #[.val (.ref a)] [])
  have l1 : (1 : Int64).toInt = 1 := rfl
  have ad := c_ladd q1 1; have t1 := (q1 + 1).toInt_lt; have t2 := (q1 + 1).le_toInt; have t3 := q1.toInt_lt; have t4 := q1.le_toInt
  refine g_aloadN X0 hx (hb hby d5_0) (v := (.ref a)) rfl rfl (pc' := 1) rfl ?_
  refine g_getF X0 hx hZ hown (hw _ (List.mem_of_getElem? (i := 21) rfl)) e0 Fp1 (hb hby d5_1) (pc' := 4) rfl (fun T1 X2 e3 => ?_)
  refine g_lconst X2 hx (hb hby d5_4) (v := 0) (by decide) (pc' := 5) rfl ?_
  refine g_ll_ne X2 hx (a := q2.toInt) (b := 0) rfl rfl (hb hby d5_5) (pc1 := 6) rfl (hb hby d5_6) (by decide) (pc' := 14) (by decide) (pc2 := 9) rfl (fun c4 => ?_) (fun c4 => ?_)
  · refine g_aloadN X2 hx (hb hby d5_14) (v := (.ref a)) rfl rfl (pc' := 15) rfl ?_
    refine g_getF X2 hx hZ hown (hw _ (List.mem_of_getElem? (i := 19) rfl)) e3 Fp0 (hb hby d5_15) (pc' := 18) rfl (fun T5 X6 e7 => ?_)
    refine g_ldc2 X6 hx hZ hown (hb hby d5_18) (v := 9223372036854775807) (hw _ (List.mem_of_getElem? (i := 28) rfl)) (pc' := 21) rfl ?_
    refine g_ll_ne X6 hx (a := q1.toInt) (b := 9223372036854775807) rfl rfl (hb hby d5_21) (pc1 := 22) rfl (hb hby d5_22) (by decide) (pc' := 29) (by decide) (pc2 := 25) rfl (fun c8 => ?_) (fun c8 => False.elim (by omega))
    refine g_aloadN X6 hx (hb hby d5_29) (v := (.ref a)) rfl rfl (pc' := 30) rfl ?_
    refine g_getF X6 hx hZ hown (hw _ (List.mem_of_getElem? (i := 19) rfl)) e7 Fp0 (hb hby d5_30) (pc' := 33) rfl (fun T9 X10 e11 => ?_)
    refine g_lconst X10 hx (hb hby d5_33) (v := 1) (by decide) (pc' := 34) rfl ?_
    refine g_ladd X10 hx (hb hby d5_34) (pc' := 35) rfl ?_
    refine g_retJ X10 hx hlk hret (hb hby d5_35) N0 (by decide) (by decide) ?_
    exact ⟨_, rfl, by omega, e11⟩
  · refine g_aloadN X2 hx (hb hby d5_9) (v := (.ref a)) rfl rfl (pc' := 10) rfl ?_
    refine g_getF X2 hx hZ hown (hw _ (List.mem_of_getElem? (i := 19) rfl)) e3 Fp0 (hb hby d5_10) (pc' := 13) rfl (fun T12 X13 e14 => ?_)
    refine g_retJ X13 hx hlk hret (hb hby d5_13) N0 (by decide) (by decide) ?_
    exact ⟨_, rfl, by omega, e14⟩
theorem pn_4 : plainFor (⟨"com/example/stagecue/stagecue/engine/ExactTimeRoundedUpPinLaw", "law", "(JJJI)Z"⟩ : MethodName) = true := by first | exact plainFor_of_name (by first | (simp [plainName, overriddenIn]; done) | decide +kernel) | decide +kernel
def Q0 (Z : State) (p0 : Int64) (p1 : Int64) (p2 : Int64) (p3 : Int32) (h0 : Heap) (n0 : Nat) (v : Option Value) (h : Heap) : Prop := v = some (.int 1)
set_option maxRecDepth 65536 in
set_option maxHeartbeats 40000000 in
theorem rm0 (l : Launch) (Z : State) (a0 : Array Value) (hw : ∀ d ∈ tables_1, d.before a0 Z = true) (ws : List Jvm.Cond) (p0 : Int64) (p1 : Int64) (p2 : Int64) (p3 : Int32) (h0 : Heap) (n0 : Nat) (Z0 : n0 ≤ h0.size)  :
    Con l x code maxLocals ret ws room_1 Z #[(.long p0), (.long p1), (.long p2), (.int p3)] h0 n0 (Q0 Z p0 p1 p2 p3 h0 n0) := by
  refine con_of (Ls0 := #[.val (.long p0), .second, .val (.long p1), .second, .val (.long p2), .second, .val (.int p3), .unset, .unset, .unset, .unset, .unset, .unset, .unset, .unset, .unset, .unset]) pn_4 (fun m => by first | (simp [entryFrame, mkF, argsToLocals, Value.category, maxLocals]; done) | rfl) ?_
  intro p e s m below meth c s₁ X0 hx hby hml hZ hown hnm hret hlk e0 N0
  refine g_lloadN X0 hx (hb hby at_0) (v := p0) rfl (pc' := 1) rfl ?_
  refine g_ldc2 X0 hx hZ hown (hb hby at_1) (v := 9223372036854775807) (hw _ (List.mem_of_getElem? (i := 0) rfl)) (pc' := 4) rfl ?_
  refine g_land X0 hx (hb hby at_4) (pc' := 5) rfl ?_
  refine g_lstore X0 hx (hb hby at_5) (Ls' := #[.val (.long p0), .second, .val (.long p1), .second, .val (.long p2), .second, .val (.int p3), .val (.long (p0 &&& (9223372036854775807 : Int64))), .second, .unset, .unset, .unset, .unset, .unset, .unset, .unset, .unset]) rfl (pc' := 7) rfl ?_
  refine g_lconst X0 hx (hb hby at_7) (v := 1) (by decide) (pc' := 8) rfl ?_
  refine g_lload X0 hx (hb hby at_8) (v := p2) rfl (pc' := 10) rfl ?_
  refine g_ldc2 X0 hx hZ hown (hb hby at_10) (v := 9223372036854775807) (hw _ (List.mem_of_getElem? (i := 0) rfl)) (pc' := 13) rfl ?_
  refine g_land X0 hx (hb hby at_13) (pc' := 14) rfl ?_
  refine g_static X0 hx hZ hown (hw _ (List.mem_of_getElem? (i := 1) rfl)) (hw _ (List.mem_of_getElem? (i := 2) rfl)) (hw _ (List.mem_of_getElem? (i := 3) rfl)) (hw _ (List.mem_of_getElem? (i := 4) rfl)) (by decide) (argsL := [(.long (1 : Int64)), (.long (p2 &&& (9223372036854775807 : Int64)))]) (rm5 l Z a0 hw (1 : Int64) (p2 &&& (9223372036854775807 : Int64)) h0 n0 Z0 ) rfl e0 (by rw [hml]; rfl) pd_2 rfl (rest := []) rfl (W := 0) (Nat.le_of_eq rfl) (by decide) (by decide) (by decide) (by decide) N0 (hb hby at_14) (pc' := 17) rfl (fun v1 T2 L3 X4 N5 q6 => ?_)
  obtain ⟨b7, rfl, f8, e9⟩ := q6
  have lt10 : (1 : Int64).toInt = 1 := rfl
  show Goes p e s below (Q0 Z p0 p1 p2 p3 h0 n0) n0 room_1.cells room_1.slots T2 (mkF m 17 #[.val (.long p0), .second, .val (.long p1), .second, .val (.long p2), .second, .val (.int p3), .val (.long (p0 &&& (9223372036854775807 : Int64))), .second, .unset, .unset, .unset, .unset, .unset, .unset, .unset, .unset] [(.long b7)])
  refine g_lstore X4 hx (hb hby at_17) (Ls' := #[.val (.long p0), .second, .val (.long p1), .second, .val (.long p2), .second, .val (.int p3), .val (.long (p0 &&& (9223372036854775807 : Int64))), .second, .val (.long b7), .second, .unset, .unset, .unset, .unset, .unset, .unset]) rfl (pc' := 19) rfl ?_
  have m1 := c_maskL p0 9223372036854775807 63 (by decide) (by decide)
  have m2 := c_maskL p1 9223372036854775807 63 (by decide) (by decide)
  have m3 := c_maskL p2 9223372036854775807 63 (by decide) (by decide)
  have l1 : (1 : Int64).toInt = 1 := rfl
  have l0 : (0 : Int64).toInt = 0 := rfl
  have B1 : 1 ≤ b7.toInt := by omega
  have B2 : 0 ≤ ((p0 &&& (9223372036854775807 : Int64))).toInt ∧ ((p0 &&& (9223372036854775807 : Int64))).toInt ≤ 9223372036854775807 := by omega
  have hbne : b7 ≠ 0 := fun z => by rw [z] at B1; omega
  have R1 := c_lrem (p1 &&& (9223372036854775807 : Int64)) b7 b7.toInt rfl
  have R2 := Int.emod_lt_of_pos (p1 &&& (9223372036854775807 : Int64)).toInt (show 0 < b7.toInt by omega)
  have R3 := Int.emod_nonneg (p1 &&& (9223372036854775807 : Int64)).toInt (show b7.toInt ≠ 0 by omega)
  generalize hg11 : (p0 &&& (9223372036854775807 : Int64)) = mi
  rw [hg11] at B2; clear hg11
  refine g_iload X4 hx (hb hby at_19) (v := p3) rfl (pc' := 21) rfl ?_
  refine g_iconst X4 hx (hb hby at_21) (v := 1) (by decide) (pc' := 22) rfl ?_
  refine g_iand X4 hx (hb hby at_22) (pc' := 23) rfl ?_
  have J12 : ∀ (r : Int64), 0 ≤ r.toInt ∧ r.toInt < b7.toInt → Goes p e s below (Q0 Z p0 p1 p2 p3 h0 n0) n0 room_1.cells room_1.slots T2 (mkF m 38 #[.val (.long p0), .second, .val (.long p1), .second, .val (.long p2), .second, .val (.int p3), .val (.long mi), .second, .val (.long b7), .second, .unset, .unset, .unset, .unset, .unset, .unset] [(.long r)]) := by
    intro r j13
    have Rr := j13
    refine g_lstore X4 hx (hb hby at_38) (Ls' := #[.val (.long p0), .second, .val (.long p1), .second, .val (.long p2), .second, .val (.int p3), .val (.long mi), .second, .val (.long b7), .second, .val (.long r), .second, .unset, .unset, .unset, .unset]) rfl (pc' := 40) rfl ?_
    refine g_lload X4 hx (hb hby at_40) (v := mi) rfl (pc' := 42) rfl ?_
    refine g_ldc2 X4 hx hZ hown (hb hby at_42) (v := 9223372036854775807) (hw _ (List.mem_of_getElem? (i := 0) rfl)) (pc' := 45) rfl ?_
    refine g_ll_ne X4 hx (a := mi.toInt) (b := 9223372036854775807) rfl rfl (hb hby at_45) (pc1 := 46) rfl (hb hby at_46) (by decide) (pc' := 58) (by decide) (pc2 := 49) rfl (fun c14 => ?_) (fun c14 => ?_)
    · refine g_new X4 hx hZ hown (hw _ (List.mem_of_getElem? (i := 5) rfl)) (hw _ (List.mem_of_getElem? (i := 6) rfl)) (hw _ (List.mem_of_getElem? (i := 7) rfl)) e9 (hb hby at_58) (by decide) (by decide) (pc' := 61) rfl (fun T15 h16 a17 g18 X19 e20 E21 l22 A23 D24 => ?_)
      have Z25 : n0 ≤ h16.size := Nat.le_trans Z0 E21.1
      have nl26 : n0 ≤ a17 := by rw [g18]; exact Z0
      have F27 : Fld Z h16 a17 "com/example/stagecue/stagecue/engine/ExactTime" "micros" "J" (.long (0 : Int64)) := D24 (Or.inr (hw _ (List.mem_of_getElem? (i := 20) rfl))) (ty := .long) (by decide)
      have F28 : Fld Z h16 a17 "com/example/stagecue/stagecue/engine/ExactTime" "remainder" "J" (.long (0 : Int64)) := D24 (Or.inr (hw _ (List.mem_of_getElem? (i := 22) rfl))) (ty := .long) (by decide)
      refine g_dup X19 hx (hb hby at_61) rfl (pc' := 62) rfl ?_
      refine g_lload X19 hx (hb hby at_62) (v := mi) rfl (pc' := 64) rfl ?_
      refine g_lload X19 hx (hb hby at_64) (v := r) rfl (pc' := 66) rfl ?_
      refine g_special X19 hx hZ rfl hown (hw _ (List.mem_of_getElem? (i := 8) rfl)) (hw _ (List.mem_of_getElem? (i := 9) rfl)) (hw _ (List.mem_of_getElem? (i := 7) rfl)) (hw _ (List.mem_of_getElem? (i := 10) rfl)) (by decide) (a := a17) (argsL := [(.long mi), (.long r)]) (rm2 l Z a0 hw a17 mi r h16 n0 Z25 F27 F28 A23 nl26) rfl e20 (by rw [hml]; rfl) pd_1 rfl (rest := [(.ref a17)]) rfl (W := 1) (Nat.le_of_eq rfl) (by decide) (by decide) (by decide) (by decide) N5 (hb hby at_66) (pc' := 69) rfl (fun v29 T30 L31 X32 N33 q34 => ?_)
      obtain ⟨rfl, K35, F36, F37, F38⟩ := q34
      have Z39 : n0 ≤ T30.heap.size := Nat.le_trans Z25 K35.1
      show Goes p e s below (Q0 Z p0 p1 p2 p3 h0 n0) n0 room_1.cells room_1.slots T30 (mkF m 69 #[.val (.long p0), .second, .val (.long p1), .second, .val (.long p2), .second, .val (.int p3), .val (.long mi), .second, .val (.long b7), .second, .val (.long r), .second, .unset, .unset, .unset, .unset] [(.ref a17)])
      refine g_virtual X32 hx hZ hown (hw _ (List.mem_of_getElem? (i := 23) rfl)) (hw _ (List.mem_of_getElem? (i := 24) rfl)) (hw _ (List.mem_of_getElem? (i := 26) rfl)) (hw _ (List.mem_of_getElem? (i := 25) rfl)) (hw _ (List.mem_of_getElem? (i := 7) rfl)) (hw _ (List.mem_of_getElem? (i := 27) rfl)) (by decide) (a := a17) (argsL := []) (rm3 l Z a0 hw a17 mi r T30.heap n0 Z39 F37 F38 (by omega)) rfl rfl F36 (by rw [hml]; rfl) pd_3 rfl (rest := []) rfl (W := 0) (Nat.le_of_eq rfl) (by decide) (by decide) (by decide) (by decide) N33 (hb hby at_69) (pc' := 72) rfl (fun v40 T41 L42 X43 N44 q45 => ?_)
      obtain ⟨b46, rfl, f47, K48⟩ := q45
      show Goes p e s below (Q0 Z p0 p1 p2 p3 h0 n0) n0 room_1.cells room_1.slots T41 (mkF m 72 #[.val (.long p0), .second, .val (.long p1), .second, .val (.long p2), .second, .val (.int p3), .val (.long mi), .second, .val (.long b7), .second, .val (.long r), .second, .unset, .unset, .unset, .unset] [(.long b46)])
      refine g_lstore X43 hx (hb hby at_72) (Ls' := #[.val (.long p0), .second, .val (.long p1), .second, .val (.long p2), .second, .val (.int p3), .val (.long mi), .second, .val (.long b7), .second, .val (.long r), .second, .val (.long b46), .second, .unset, .unset]) rfl (pc' := 74) rfl ?_
      refine g_lload X43 hx (hb hby at_74) (v := b46) rfl (pc' := 76) rfl ?_
      refine g_lload X43 hx (hb hby at_76) (v := mi) rfl (pc' := 78) rfl ?_
      refine g_lsub X43 hx (hb hby at_78) (pc' := 79) rfl ?_
      refine g_lstore X43 hx (hb hby at_79) (Ls' := #[.val (.long p0), .second, .val (.long p1), .second, .val (.long p2), .second, .val (.int p3), .val (.long mi), .second, .val (.long b7), .second, .val (.long r), .second, .val (.long b46), .second, .val (.long (b46 - mi)), .second]) rfl (pc' := 81) rfl ?_
      have hd : (b46 - mi) = 0 ∨ (b46 - mi) = 1 := by
        have q := c_lsub b46 mi; have q1 := (b46 - mi).toInt_lt; have q2 := (b46 - mi).le_toInt
        rcases f47 with z | z
        · exact Or.inl (Int64.toInt_inj.mp (by rw [l0]; omega))
        · exact Or.inr (Int64.toInt_inj.mp (by rw [l1]; omega))
      have hd2 : ((b46 - mi)).toInt = b46.toInt - mi.toInt := by
        have q := c_lsub b46 mi; have q1 := (b46 - mi).toInt_lt; have q2 := (b46 - mi).le_toInt; omega
      generalize hg49 : (b46 - mi) = dd
      rw [hg49] at hd hd2; clear hg49
      rcases hd with rfl | rfl
      · have z1 : ((0 : Int64) * b7).toInt = 0 * b7.toInt := by
          have q := c_lmul 0 b7; have q1 := ((0 : Int64) * b7).toInt_lt; have q2 := ((0 : Int64) * b7).le_toInt; have q3 := b7.toInt_lt; rw [l0] at q; omega
        have zz : ((0 : Int64) - 1).toInt = -1 := rfl
        have z2 : (((0 : Int64) - 1) * b7).toInt = -1 * b7.toInt := by
          have q := c_lmul ((0 : Int64) - 1) b7; have q1 := (((0 : Int64) - 1) * b7).toInt_lt; have q2 := (((0 : Int64) - 1) * b7).le_toInt; have q3 := b7.toInt_lt; rw [zz] at q; omega
        rw [l0] at hd2
        show Goes p e s below (Q0 Z p0 p1 p2 p3 h0 n0) n0 room_1.cells room_1.slots T41 (mkF m 81 #[.val (.long p0), .second, .val (.long p1), .second, .val (.long p2), .second, .val (.int p3), .val (.long mi), .second, .val (.long b7), .second, .val (.long r), .second, .val (.long b46), .second, .val (.long (0 : Int64)), .second] [])
        refine g_lload X43 hx (hb hby at_81) (v := (0 : Int64)) rfl (pc' := 83) rfl ?_
        refine g_lconst X43 hx (hb hby at_83) (v := 0) (by decide) (pc' := 84) rfl ?_
        refine g_ll_eq X43 hx (a := 0) (b := 0) rfl rfl (hb hby at_84) (pc1 := 85) rfl (hb hby at_85) (by decide) (pc' := 97) (by decide) (pc2 := 88) rfl (fun c50 => ?_) (fun c50 => False.elim (by omega))
        refine g_lload X43 hx (hb hby at_97) (v := (0 : Int64)) rfl (pc' := 99) rfl ?_
        refine g_lload X43 hx (hb hby at_99) (v := b7) rfl (pc' := 101) rfl ?_
        refine g_lmul X43 hx (hb hby at_101) (pc' := 102) rfl ?_
        refine g_lload X43 hx (hb hby at_102) (v := r) rfl (pc' := 104) rfl ?_
        refine g_ll_lt X43 hx (a := ((0 : Int64) * b7).toInt) (b := r.toInt) rfl rfl (hb hby at_104) (pc1 := 105) rfl (hb hby at_105) (by decide) (pc' := 125) (by decide) (pc2 := 108) rfl (fun c51 => False.elim (by omega)) (fun c51 => ?_)
        refine g_lload X43 hx (hb hby at_108) (v := (0 : Int64)) rfl (pc' := 110) rfl ?_
        refine g_lconst X43 hx (hb hby at_110) (v := 1) (by decide) (pc' := 111) rfl ?_
        refine g_lsub X43 hx (hb hby at_111) (pc' := 112) rfl ?_
        refine g_lload X43 hx (hb hby at_112) (v := b7) rfl (pc' := 114) rfl ?_
        refine g_lmul X43 hx (hb hby at_114) (pc' := 115) rfl ?_
        refine g_lload X43 hx (hb hby at_115) (v := r) rfl (pc' := 117) rfl ?_
        refine g_ll_ge X43 hx (a := (((0 : Int64) - (1 : Int64)) * b7).toInt) (b := r.toInt) rfl rfl (hb hby at_117) (pc1 := 118) rfl (hb hby at_118) (by decide) (pc' := 125) (by decide) (pc2 := 121) rfl (fun c52 => False.elim (by omega)) (fun c52 => ?_)
        refine g_iconst X43 hx (hb hby at_121) (v := 1) (by decide) (pc' := 122) rfl ?_
        refine g_goto X43 hx (hb hby at_122) (by decide) (pc' := 126) (by decide) ?_
        refine g_retZ X43 hx hlk (by decide) hret (hb hby at_126) N44 (by decide) (by decide) ?_
        exact rfl
      · have z1 : ((1 : Int64) * b7).toInt = 1 * b7.toInt := by
          have q := c_lmul 1 b7; have q1 := ((1 : Int64) * b7).toInt_lt; have q2 := ((1 : Int64) * b7).le_toInt; have q3 := b7.toInt_lt; rw [l1] at q; omega
        have zz : ((1 : Int64) - 1).toInt = 0 := rfl
        have z2 : (((1 : Int64) - 1) * b7).toInt = 0 * b7.toInt := by
          have q := c_lmul ((1 : Int64) - 1) b7; have q1 := (((1 : Int64) - 1) * b7).toInt_lt; have q2 := (((1 : Int64) - 1) * b7).le_toInt; have q3 := b7.toInt_lt; rw [zz] at q; omega
        rw [l1] at hd2
        show Goes p e s below (Q0 Z p0 p1 p2 p3 h0 n0) n0 room_1.cells room_1.slots T41 (mkF m 81 #[.val (.long p0), .second, .val (.long p1), .second, .val (.long p2), .second, .val (.int p3), .val (.long mi), .second, .val (.long b7), .second, .val (.long r), .second, .val (.long b46), .second, .val (.long (1 : Int64)), .second] [])
        refine g_lload X43 hx (hb hby at_81) (v := (1 : Int64)) rfl (pc' := 83) rfl ?_
        refine g_lconst X43 hx (hb hby at_83) (v := 0) (by decide) (pc' := 84) rfl ?_
        refine g_ll_eq X43 hx (a := 1) (b := 0) rfl rfl (hb hby at_84) (pc1 := 85) rfl (hb hby at_85) (by decide) (pc' := 97) (by decide) (pc2 := 88) rfl (fun c53 => False.elim (by omega)) (fun c53 => ?_)
        refine g_lload X43 hx (hb hby at_88) (v := (1 : Int64)) rfl (pc' := 90) rfl ?_
        refine g_lconst X43 hx (hb hby at_90) (v := 1) (by decide) (pc' := 91) rfl ?_
        refine g_ll_eq X43 hx (a := 1) (b := 1) rfl rfl (hb hby at_91) (pc1 := 92) rfl (hb hby at_92) (by decide) (pc' := 97) (by decide) (pc2 := 95) rfl (fun c54 => ?_) (fun c54 => False.elim (by omega))
        refine g_lload X43 hx (hb hby at_97) (v := (1 : Int64)) rfl (pc' := 99) rfl ?_
        refine g_lload X43 hx (hb hby at_99) (v := b7) rfl (pc' := 101) rfl ?_
        refine g_lmul X43 hx (hb hby at_101) (pc' := 102) rfl ?_
        refine g_lload X43 hx (hb hby at_102) (v := r) rfl (pc' := 104) rfl ?_
        refine g_ll_lt X43 hx (a := ((1 : Int64) * b7).toInt) (b := r.toInt) rfl rfl (hb hby at_104) (pc1 := 105) rfl (hb hby at_105) (by decide) (pc' := 125) (by decide) (pc2 := 108) rfl (fun c55 => False.elim (by omega)) (fun c55 => ?_)
        refine g_lload X43 hx (hb hby at_108) (v := (1 : Int64)) rfl (pc' := 110) rfl ?_
        refine g_lconst X43 hx (hb hby at_110) (v := 1) (by decide) (pc' := 111) rfl ?_
        refine g_lsub X43 hx (hb hby at_111) (pc' := 112) rfl ?_
        refine g_lload X43 hx (hb hby at_112) (v := b7) rfl (pc' := 114) rfl ?_
        refine g_lmul X43 hx (hb hby at_114) (pc' := 115) rfl ?_
        refine g_lload X43 hx (hb hby at_115) (v := r) rfl (pc' := 117) rfl ?_
        refine g_ll_ge X43 hx (a := (((1 : Int64) - (1 : Int64)) * b7).toInt) (b := r.toInt) rfl rfl (hb hby at_117) (pc1 := 118) rfl (hb hby at_118) (by decide) (pc' := 125) (by decide) (pc2 := 121) rfl (fun c56 => False.elim (by omega)) (fun c56 => ?_)
        refine g_iconst X43 hx (hb hby at_121) (v := 1) (by decide) (pc' := 122) rfl ?_
        refine g_goto X43 hx (hb hby at_122) (by decide) (pc' := 126) (by decide) ?_
        refine g_retZ X43 hx hlk (by decide) hret (hb hby at_126) N44 (by decide) (by decide) ?_
        exact rfl
    · refine g_lload X4 hx (hb hby at_49) (v := r) rfl (pc' := 51) rfl ?_
      refine g_lconst X4 hx (hb hby at_51) (v := 0) (by decide) (pc' := 52) rfl ?_
      refine g_ll_eq X4 hx (a := r.toInt) (b := 0) rfl rfl (hb hby at_52) (pc1 := 53) rfl (hb hby at_53) (by decide) (pc' := 58) (by decide) (pc2 := 56) rfl (fun c57 => ?_) (fun c57 => ?_)
      · refine g_new X4 hx hZ hown (hw _ (List.mem_of_getElem? (i := 5) rfl)) (hw _ (List.mem_of_getElem? (i := 6) rfl)) (hw _ (List.mem_of_getElem? (i := 7) rfl)) e9 (hb hby at_58) (by decide) (by decide) (pc' := 61) rfl (fun T58 h59 a60 g61 X62 e63 E64 l65 A66 D67 => ?_)
        have Z68 : n0 ≤ h59.size := Nat.le_trans Z0 E64.1
        have nl69 : n0 ≤ a60 := by rw [g61]; exact Z0
        have F70 : Fld Z h59 a60 "com/example/stagecue/stagecue/engine/ExactTime" "micros" "J" (.long (0 : Int64)) := D67 (Or.inr (hw _ (List.mem_of_getElem? (i := 20) rfl))) (ty := .long) (by decide)
        have F71 : Fld Z h59 a60 "com/example/stagecue/stagecue/engine/ExactTime" "remainder" "J" (.long (0 : Int64)) := D67 (Or.inr (hw _ (List.mem_of_getElem? (i := 22) rfl))) (ty := .long) (by decide)
        refine g_dup X62 hx (hb hby at_61) rfl (pc' := 62) rfl ?_
        refine g_lload X62 hx (hb hby at_62) (v := mi) rfl (pc' := 64) rfl ?_
        refine g_lload X62 hx (hb hby at_64) (v := r) rfl (pc' := 66) rfl ?_
        refine g_special X62 hx hZ rfl hown (hw _ (List.mem_of_getElem? (i := 8) rfl)) (hw _ (List.mem_of_getElem? (i := 9) rfl)) (hw _ (List.mem_of_getElem? (i := 7) rfl)) (hw _ (List.mem_of_getElem? (i := 10) rfl)) (by decide) (a := a60) (argsL := [(.long mi), (.long r)]) (rm2 l Z a0 hw a60 mi r h59 n0 Z68 F70 F71 A66 nl69) rfl e63 (by rw [hml]; rfl) pd_1 rfl (rest := [(.ref a60)]) rfl (W := 1) (Nat.le_of_eq rfl) (by decide) (by decide) (by decide) (by decide) N5 (hb hby at_66) (pc' := 69) rfl (fun v72 T73 L74 X75 N76 q77 => ?_)
        obtain ⟨rfl, K78, F79, F80, F81⟩ := q77
        have Z82 : n0 ≤ T73.heap.size := Nat.le_trans Z68 K78.1
        show Goes p e s below (Q0 Z p0 p1 p2 p3 h0 n0) n0 room_1.cells room_1.slots T73 (mkF m 69 #[.val (.long p0), .second, .val (.long p1), .second, .val (.long p2), .second, .val (.int p3), .val (.long mi), .second, .val (.long b7), .second, .val (.long r), .second, .unset, .unset, .unset, .unset] [(.ref a60)])
        refine g_virtual X75 hx hZ hown (hw _ (List.mem_of_getElem? (i := 23) rfl)) (hw _ (List.mem_of_getElem? (i := 24) rfl)) (hw _ (List.mem_of_getElem? (i := 26) rfl)) (hw _ (List.mem_of_getElem? (i := 25) rfl)) (hw _ (List.mem_of_getElem? (i := 7) rfl)) (hw _ (List.mem_of_getElem? (i := 27) rfl)) (by decide) (a := a60) (argsL := []) (rm3 l Z a0 hw a60 mi r T73.heap n0 Z82 F80 F81 (by omega)) rfl rfl F79 (by rw [hml]; rfl) pd_3 rfl (rest := []) rfl (W := 0) (Nat.le_of_eq rfl) (by decide) (by decide) (by decide) (by decide) N76 (hb hby at_69) (pc' := 72) rfl (fun v83 T84 L85 X86 N87 q88 => ?_)
        obtain ⟨b89, rfl, f90, K91⟩ := q88
        show Goes p e s below (Q0 Z p0 p1 p2 p3 h0 n0) n0 room_1.cells room_1.slots T84 (mkF m 72 #[.val (.long p0), .second, .val (.long p1), .second, .val (.long p2), .second, .val (.int p3), .val (.long mi), .second, .val (.long b7), .second, .val (.long r), .second, .unset, .unset, .unset, .unset] [(.long b89)])
        refine g_lstore X86 hx (hb hby at_72) (Ls' := #[.val (.long p0), .second, .val (.long p1), .second, .val (.long p2), .second, .val (.int p3), .val (.long mi), .second, .val (.long b7), .second, .val (.long r), .second, .val (.long b89), .second, .unset, .unset]) rfl (pc' := 74) rfl ?_
        refine g_lload X86 hx (hb hby at_74) (v := b89) rfl (pc' := 76) rfl ?_
        refine g_lload X86 hx (hb hby at_76) (v := mi) rfl (pc' := 78) rfl ?_
        refine g_lsub X86 hx (hb hby at_78) (pc' := 79) rfl ?_
        refine g_lstore X86 hx (hb hby at_79) (Ls' := #[.val (.long p0), .second, .val (.long p1), .second, .val (.long p2), .second, .val (.int p3), .val (.long mi), .second, .val (.long b7), .second, .val (.long r), .second, .val (.long b89), .second, .val (.long (b89 - mi)), .second]) rfl (pc' := 81) rfl ?_
        have hd : (b89 - mi) = 0 ∨ (b89 - mi) = 1 := by
          have q := c_lsub b89 mi; have q1 := (b89 - mi).toInt_lt; have q2 := (b89 - mi).le_toInt
          rcases f90 with z | z
          · exact Or.inl (Int64.toInt_inj.mp (by rw [l0]; omega))
          · exact Or.inr (Int64.toInt_inj.mp (by rw [l1]; omega))
        have hd2 : ((b89 - mi)).toInt = b89.toInt - mi.toInt := by
          have q := c_lsub b89 mi; have q1 := (b89 - mi).toInt_lt; have q2 := (b89 - mi).le_toInt; omega
        generalize hg92 : (b89 - mi) = dd
        rw [hg92] at hd hd2; clear hg92
        rcases hd with rfl | rfl
        · have z1 : ((0 : Int64) * b7).toInt = 0 * b7.toInt := by
            have q := c_lmul 0 b7; have q1 := ((0 : Int64) * b7).toInt_lt; have q2 := ((0 : Int64) * b7).le_toInt; have q3 := b7.toInt_lt; rw [l0] at q; omega
          have zz : ((0 : Int64) - 1).toInt = -1 := rfl
          have z2 : (((0 : Int64) - 1) * b7).toInt = -1 * b7.toInt := by
            have q := c_lmul ((0 : Int64) - 1) b7; have q1 := (((0 : Int64) - 1) * b7).toInt_lt; have q2 := (((0 : Int64) - 1) * b7).le_toInt; have q3 := b7.toInt_lt; rw [zz] at q; omega
          rw [l0] at hd2
          show Goes p e s below (Q0 Z p0 p1 p2 p3 h0 n0) n0 room_1.cells room_1.slots T84 (mkF m 81 #[.val (.long p0), .second, .val (.long p1), .second, .val (.long p2), .second, .val (.int p3), .val (.long mi), .second, .val (.long b7), .second, .val (.long r), .second, .val (.long b89), .second, .val (.long (0 : Int64)), .second] [])
          refine g_lload X86 hx (hb hby at_81) (v := (0 : Int64)) rfl (pc' := 83) rfl ?_
          refine g_lconst X86 hx (hb hby at_83) (v := 0) (by decide) (pc' := 84) rfl ?_
          refine g_ll_eq X86 hx (a := 0) (b := 0) rfl rfl (hb hby at_84) (pc1 := 85) rfl (hb hby at_85) (by decide) (pc' := 97) (by decide) (pc2 := 88) rfl (fun c93 => ?_) (fun c93 => False.elim (by omega))
          refine g_lload X86 hx (hb hby at_97) (v := (0 : Int64)) rfl (pc' := 99) rfl ?_
          refine g_lload X86 hx (hb hby at_99) (v := b7) rfl (pc' := 101) rfl ?_
          refine g_lmul X86 hx (hb hby at_101) (pc' := 102) rfl ?_
          refine g_lload X86 hx (hb hby at_102) (v := r) rfl (pc' := 104) rfl ?_
          refine g_ll_lt X86 hx (a := ((0 : Int64) * b7).toInt) (b := r.toInt) rfl rfl (hb hby at_104) (pc1 := 105) rfl (hb hby at_105) (by decide) (pc' := 125) (by decide) (pc2 := 108) rfl (fun c94 => False.elim (by omega)) (fun c94 => ?_)
          refine g_lload X86 hx (hb hby at_108) (v := (0 : Int64)) rfl (pc' := 110) rfl ?_
          refine g_lconst X86 hx (hb hby at_110) (v := 1) (by decide) (pc' := 111) rfl ?_
          refine g_lsub X86 hx (hb hby at_111) (pc' := 112) rfl ?_
          refine g_lload X86 hx (hb hby at_112) (v := b7) rfl (pc' := 114) rfl ?_
          refine g_lmul X86 hx (hb hby at_114) (pc' := 115) rfl ?_
          refine g_lload X86 hx (hb hby at_115) (v := r) rfl (pc' := 117) rfl ?_
          refine g_ll_ge X86 hx (a := (((0 : Int64) - (1 : Int64)) * b7).toInt) (b := r.toInt) rfl rfl (hb hby at_117) (pc1 := 118) rfl (hb hby at_118) (by decide) (pc' := 125) (by decide) (pc2 := 121) rfl (fun c95 => False.elim (by omega)) (fun c95 => ?_)
          refine g_iconst X86 hx (hb hby at_121) (v := 1) (by decide) (pc' := 122) rfl ?_
          refine g_goto X86 hx (hb hby at_122) (by decide) (pc' := 126) (by decide) ?_
          refine g_retZ X86 hx hlk (by decide) hret (hb hby at_126) N87 (by decide) (by decide) ?_
          exact rfl
        · have z1 : ((1 : Int64) * b7).toInt = 1 * b7.toInt := by
            have q := c_lmul 1 b7; have q1 := ((1 : Int64) * b7).toInt_lt; have q2 := ((1 : Int64) * b7).le_toInt; have q3 := b7.toInt_lt; rw [l1] at q; omega
          have zz : ((1 : Int64) - 1).toInt = 0 := rfl
          have z2 : (((1 : Int64) - 1) * b7).toInt = 0 * b7.toInt := by
            have q := c_lmul ((1 : Int64) - 1) b7; have q1 := (((1 : Int64) - 1) * b7).toInt_lt; have q2 := (((1 : Int64) - 1) * b7).le_toInt; have q3 := b7.toInt_lt; rw [zz] at q; omega
          rw [l1] at hd2
          show Goes p e s below (Q0 Z p0 p1 p2 p3 h0 n0) n0 room_1.cells room_1.slots T84 (mkF m 81 #[.val (.long p0), .second, .val (.long p1), .second, .val (.long p2), .second, .val (.int p3), .val (.long mi), .second, .val (.long b7), .second, .val (.long r), .second, .val (.long b89), .second, .val (.long (1 : Int64)), .second] [])
          refine g_lload X86 hx (hb hby at_81) (v := (1 : Int64)) rfl (pc' := 83) rfl ?_
          refine g_lconst X86 hx (hb hby at_83) (v := 0) (by decide) (pc' := 84) rfl ?_
          refine g_ll_eq X86 hx (a := 1) (b := 0) rfl rfl (hb hby at_84) (pc1 := 85) rfl (hb hby at_85) (by decide) (pc' := 97) (by decide) (pc2 := 88) rfl (fun c96 => False.elim (by omega)) (fun c96 => ?_)
          refine g_lload X86 hx (hb hby at_88) (v := (1 : Int64)) rfl (pc' := 90) rfl ?_
          refine g_lconst X86 hx (hb hby at_90) (v := 1) (by decide) (pc' := 91) rfl ?_
          refine g_ll_eq X86 hx (a := 1) (b := 1) rfl rfl (hb hby at_91) (pc1 := 92) rfl (hb hby at_92) (by decide) (pc' := 97) (by decide) (pc2 := 95) rfl (fun c97 => ?_) (fun c97 => False.elim (by omega))
          refine g_lload X86 hx (hb hby at_97) (v := (1 : Int64)) rfl (pc' := 99) rfl ?_
          refine g_lload X86 hx (hb hby at_99) (v := b7) rfl (pc' := 101) rfl ?_
          refine g_lmul X86 hx (hb hby at_101) (pc' := 102) rfl ?_
          refine g_lload X86 hx (hb hby at_102) (v := r) rfl (pc' := 104) rfl ?_
          refine g_ll_lt X86 hx (a := ((1 : Int64) * b7).toInt) (b := r.toInt) rfl rfl (hb hby at_104) (pc1 := 105) rfl (hb hby at_105) (by decide) (pc' := 125) (by decide) (pc2 := 108) rfl (fun c98 => False.elim (by omega)) (fun c98 => ?_)
          refine g_lload X86 hx (hb hby at_108) (v := (1 : Int64)) rfl (pc' := 110) rfl ?_
          refine g_lconst X86 hx (hb hby at_110) (v := 1) (by decide) (pc' := 111) rfl ?_
          refine g_lsub X86 hx (hb hby at_111) (pc' := 112) rfl ?_
          refine g_lload X86 hx (hb hby at_112) (v := b7) rfl (pc' := 114) rfl ?_
          refine g_lmul X86 hx (hb hby at_114) (pc' := 115) rfl ?_
          refine g_lload X86 hx (hb hby at_115) (v := r) rfl (pc' := 117) rfl ?_
          refine g_ll_ge X86 hx (a := (((1 : Int64) - (1 : Int64)) * b7).toInt) (b := r.toInt) rfl rfl (hb hby at_117) (pc1 := 118) rfl (hb hby at_118) (by decide) (pc' := 125) (by decide) (pc2 := 121) rfl (fun c99 => False.elim (by omega)) (fun c99 => ?_)
          refine g_iconst X86 hx (hb hby at_121) (v := 1) (by decide) (pc' := 122) rfl ?_
          refine g_goto X86 hx (hb hby at_122) (by decide) (pc' := 126) (by decide) ?_
          refine g_retZ X86 hx hlk (by decide) hret (hb hby at_126) N87 (by decide) (by decide) ?_
          exact rfl
      · refine g_iconst X4 hx (hb hby at_56) (v := 1) (by decide) (pc' := 57) rfl ?_
        refine g_retZ X4 hx hlk (by decide) hret (hb hby at_57) N5 (by decide) (by decide) ?_
        exact rfl
  refine g_i0_eq X4 hx (a := (p3 &&& (1 : Int32)).toInt) rfl (hb hby at_23) (by decide) (pc' := 30) (by decide) (pc2 := 26) rfl (fun c100 => ?_) (fun c100 => ?_)
  · refine g_lloadN X4 hx (hb hby at_30) (v := p1) rfl (pc' := 31) rfl ?_
    refine g_ldc2 X4 hx hZ hown (hb hby at_31) (v := 9223372036854775807) (hw _ (List.mem_of_getElem? (i := 0) rfl)) (pc' := 34) rfl ?_
    refine g_land X4 hx (hb hby at_34) (pc' := 35) rfl ?_
    refine g_lload X4 hx (hb hby at_35) (v := b7) rfl (pc' := 37) rfl ?_
    refine g_lrem X4 hx (hb hby at_37) hbne (pc' := 38) rfl ?_
    exact J12 _ (by omega)
  · refine g_lconst X4 hx (hb hby at_26) (v := 0) (by decide) (pc' := 27) rfl ?_
    refine g_goto X4 hx (hb hby at_27) (by decide) (pc' := 38) (by decide) ?_
    exact J12 _ (by omega)
set_option maxRecDepth 65536 in
set_option maxHeartbeats 40000000 in
theorem comes_1 {Post : Tables → Env → Array Value → State → Outcome → State → Prop} (hpost : ∀ tb e args s v u, (limb_1_1.after args s (.returned v) u = true ∧ limb_1_2.after args s (.returned v) u = true ∧ True) → FrameEnd s (.returned v) u (Jvm.fieldLocs frame_1_writes args s ++ Jvm.arrayLocs frame_1_arrays args s ++ Jvm.staticLocs frame_1_statics s) 16 128 → Post tb e args s (.returned v) u) :
    ArmFor flags0 classFile x code maxLocals ret World_1 tables_1 room_1 Calls_1 rest_1 Pre_1 Post := by
  intro l hfl _ _ p e ha hc hk s m args below hf hA hF happ hP
  obtain ⟨hcalls, hrest, hpre⟩ := hP
  obtain ⟨-, -, -, hnamed, -, -, -, hat⟩ := (Spec.applies_iff hf).mp happ
  obtain ⟨hg, hn⟩ := and_e (Cond.before_iff.mp (show (Jvm.Cond.and given_1 narrow_1).before args s = true from hpre))
  obtain ⟨hcount, k0⟩ := and_e hg
  obtain ⟨g0, k1⟩ := and_e k0
  obtain ⟨g1, k2⟩ := and_e k1
  obtain ⟨g2, k3⟩ := and_e k2
  have g3 := k3
  obtain ⟨w0, w1, w2, w3, rfl⟩ : ∃ w0 w1 w2 w3 : Value, args = #[w0, w1, w2, w3] := by
    have hs : args.size = 4 := by simpa [Cond.value, given_1] using hcount
    obtain ⟨L⟩ := args
    match L, hs with
    | [w0, w1, w2, w3], _ => exact ⟨w0, w1, w2, w3, rfl⟩
  have hw := fun d (hd : d ∈ tables_1) => atoms_spec (ws := Jvm.Cond.code x code maxLocals ret :: tables_1) hat d (List.mem_cons_of_mem _ hd)
  obtain ⟨i0, z0⟩ := isL_v g0
  obtain rfl : w0 = (.long i0) := Option.some.inj z0
  obtain ⟨i1, z1⟩ := isL_v g1
  obtain rfl : w1 = (.long i1) := Option.some.inj z1
  obtain ⟨i2, z2⟩ := isL_v g2
  obtain rfl : w2 = (.long i2) := Option.some.inj z2
  obtain ⟨i3, z3⟩ := is_v g3
  obtain rfl : w3 = (.int i3) := Option.some.inj z3
  obtain ⟨n, o, h1, h2, h3, _, L, rfl, ⟨N, rfl⟩, hq⟩ := rm0 l s _ hw tables_1 i0 i1 i2 i3  s.heap s.heap.size (Nat.le_refl _)  p e ha hc hk s m _ below hf ((Spec.applies_iff_loose hf).mp happ).1 ⟨rfl, State.Warmed39.refl s, rfl⟩ trivial
  exact ⟨n, _, h1, h2, h3, hpost _ _ _ _ _ _ ⟨Cond.after_iff.mpr rfl, Cond.after_iff.mpr (eq_i res_at (Term.int_eval (1)) rfl), trivial⟩ ⟨hq.1, hq.2.1, (hq.2.2.sift fun y hy => Or.inr (N y hy)).mono (by decide) (by decide)⟩⟩
theorem main_1_1 : Claimed_1_1 := comes_1 fun _ _ _ _ _ _ h hF => ⟨h.1, hF⟩
theorem main_1_2 : Claimed_1_2 := comes_1 fun _ _ _ _ _ _ h hF => ⟨h.2.1, hF⟩
end Jvm.Pilot.@@N@@
namespace Jvm.Pilot.@@N@@
open Jvm Jvm.ClassFile Sem Op Lib Jvm.Free Jvm.Stand Jvm.Pilot.@@N@@.Jvm.D
/-! MADE BY PROGRAM (witnessworld.py) out of the Statement's table words and the real class files: 11 classes; the members and pool entries that the words name. The judged class is class 1, her method 1. -/
namespace start1
open Jvm.ClassFile
def u (s : String) : CpInfo := .utf8 (stringToUtf16 s)
/-- a pool by its gaps: so many unusable entries, then the entry; so many at the end -/
def gap : Nat → List CpInfo → List CpInfo
  | 0, r => r
  | n + 1, r => .unusable :: gap n r
def poolList (es : List (Nat × CpInfo)) (last : Nat) : List CpInfo := es.foldr (fun e r => gap e.1 (e.2 :: r)) (gap last [])
def pool (es : List (Nat × CpInfo)) (last : Nat) : Array CpInfo := ⟨poolList es last⟩
def fileOf (pool : Array CpInfo) (this : Nat) (attrs : Array Attribute := #[]) (ms : Array MethodInfo := #[]) (fl : Nat := 33) (sup : Nat := 0) (ifs : Array Nat := #[]) (fds : Array FieldInfo := #[]) : ClassFile where
  minorVersion := 0
  majorVersion := 65
  constantPool := pool
  accessFlags := fl
  thisClass := this
  superClass := sup
  interfaces := ifs
  fields := fds
  methods := ms
  attributes := attrs
def plain (name : String) (sup : Option ClassId) : Class where
  name := name
  kind := .ordinary
  loader := none
  accessFlags := 33
  super := sup
  interfaces := #[]
  cf := none
  fields := #[]
  methods := #[]
  instanceTypes := #[]
  staticTypes := #[]
  resolved := #[]
  callSites := []
  init := .initialized
  statics := none
  mirror := none

def pool0 : Array CpInfo := pool [(5, u "<init>"), (0, u "()V"), (1, .class_ 10), (1, u "java/lang/Object")] 113

def k0c0 : Code := { maxStack := 0, maxLocals := 1, code := object_method_1_code, exceptionTable := #[], attributes := #[] }
def k0m0 : Method := { name := "<init>", desc := "()V", sig := { parameters := [], returnType := none }, accessFlags := 1, code := some k0c0 }
/-- java/lang/Object -/
def k0 : Class := { plain "java/lang/Object" none with
  accessFlags := 33
  interfaces := #[]
  cf := some (fileOf pool0 8 #[] #[{ accessFlags := 1, nameIndex := 5, descriptorIndex := 6, attributes := #[] }] 33 0 #[] #[])
  fields := #[]
  methods := #[k0m0]
  instanceTypes := #[]
  staticTypes := #[]
  resolved := Array.replicate 124 none
  statics := none }

def pool1 : Array CpInfo := pool [(2, .class_ 4), (1, u "java/lang/Object"), (0, u "<init>"), (0, u "()V"), (2, .long 9223372036854775807), (1, .methodref 12 13), (0, .class_ 14), (0, .nameAndType 15 16), (0, u "java/lang/Math"), (0, u "max"), (0, u "(JJ)J"), (0, .class_ 18), (0, u "com/example/stagecue/stagecue/engine/ExactTime"), (0, .methodref 17 20), (0, .nameAndType 5 21), (0, u "(JJ)V"), (0, .methodref 17 23), (0, .nameAndType 24 25), (0, u "roundedUp"), (0, u "()J"), (0, .class_ 27), (0, u "com/example/stagecue/stagecue/engine/ExactTimeRoundedUpPinLaw"), (2, u "law"), (0, u "(JJJI)Z")] 3

def k1m0 : Method := { name := "<init>", desc := "()V", sig := { parameters := [], returnType := none }, accessFlags := 1, code := none }
def k1c1 : Code := { maxStack := 6, maxLocals := 17, code := code, exceptionTable := #[], attributes := #[] }
def k1m1 : Method := { name := "law", desc := "(JJJI)Z", sig := { parameters := [.long, .long, .long, .int], returnType := some .boolean }, accessFlags := 9, code := some k1c1 }
/-- com/example/stagecue/stagecue/engine/ExactTimeRoundedUpPinLaw -/
def k1 : Class := { plain "com/example/stagecue/stagecue/engine/ExactTimeRoundedUpPinLaw" (some 0) with
  accessFlags := 49
  interfaces := #[]
  cf := some (fileOf pool1 26 #[] #[{ accessFlags := 1, nameIndex := 5, descriptorIndex := 6, attributes := #[] }, { accessFlags := 9, nameIndex := 30, descriptorIndex := 31, attributes := #[] }] 49 2 #[] #[])
  fields := #[]
  methods := #[k1m0, k1m1]
  instanceTypes := #[]
  staticTypes := #[]
  resolved := Array.replicate 35 none
  statics := none }

def pool2 : Array CpInfo := pool [(1, .class_ 2), (0, u "java/lang/Math"), (1, .class_ 6), (1, u "java/lang/Object"), (0, u "<init>"), (0, u "()V"), (89, .class_ 100), (1, u "java/lang/Math$RandomNumberGeneratorHolder"), (20, u "(JJ)J"), (50, u "negativeZeroFloatBits"), (0, u "J"), (2, u "negativeZeroDoubleBits"), (21, u "max"), (46, u "$assertionsDisabled"), (0, u "Z"), (91, u "twoToTheDoubleScaleDown"), (0, u "D"), (4, u "twoToTheDoubleScaleUp"), (9, u "E"), (3, u "PI"), (2, u "TAU"), (2, u "DEGREES_TO_RADIANS"), (0, u "RADIANS_TO_DEGREES")] 94

def k2m0 : Method := { name := "<init>", desc := "()V", sig := { parameters := [], returnType := none }, accessFlags := 2, code := none }
def k2c1 : Code := { maxStack := 4, maxLocals := 4, code := jdk_29_method_66_code, exceptionTable := #[], attributes := #[] }
def k2m1 : Method := { name := "max", desc := "(JJ)J", sig := { parameters := [.long, .long], returnType := some .long }, accessFlags := 9, code := some k2c1 }
/-- java/lang/Math -/
def k2 : Class := { plain "java/lang/Math" (some 0) with
  accessFlags := 49
  interfaces := #[]
  cf := some (fileOf pool2 1 #[.nestMembers #[98]] #[{ accessFlags := 2, nameIndex := 7, descriptorIndex := 8, attributes := #[] }, { accessFlags := 9, nameIndex := 198, descriptorIndex := 121, attributes := #[] }] 49 4 #[] #[{ accessFlags := 25, nameIndex := 354, descriptorIndex := 339, attributes := #[] }, { accessFlags := 25, nameIndex := 358, descriptorIndex := 339, attributes := #[] }, { accessFlags := 25, nameIndex := 361, descriptorIndex := 339, attributes := #[] }, { accessFlags := 26, nameIndex := 364, descriptorIndex := 339, attributes := #[] }, { accessFlags := 26, nameIndex := 365, descriptorIndex := 339, attributes := #[] }, { accessFlags := 26, nameIndex := 172, descriptorIndex := 173, attributes := #[] }, { accessFlags := 26, nameIndex := 176, descriptorIndex := 173, attributes := #[] }, { accessFlags := 8, nameIndex := 344, descriptorIndex := 339, attributes := #[] }, { accessFlags := 8, nameIndex := 338, descriptorIndex := 339, attributes := #[] }, { accessFlags := 4120, nameIndex := 245, descriptorIndex := 246, attributes := #[] }])
  fields := #[{ name := "E", type := .double, accessFlags := 25, slot := 0, constantValue := 0 }, { name := "PI", type := .double, accessFlags := 25, slot := 1, constantValue := 0 }, { name := "TAU", type := .double, accessFlags := 25, slot := 2, constantValue := 0 }, { name := "DEGREES_TO_RADIANS", type := .double, accessFlags := 26, slot := 3, constantValue := 0 }, { name := "RADIANS_TO_DEGREES", type := .double, accessFlags := 26, slot := 4, constantValue := 0 }, { name := "negativeZeroFloatBits", type := .long, accessFlags := 26, slot := 5, constantValue := 0 }, { name := "negativeZeroDoubleBits", type := .long, accessFlags := 26, slot := 6, constantValue := 0 }, { name := "twoToTheDoubleScaleUp", type := .double, accessFlags := 8, slot := 7, constantValue := 0 }, { name := "twoToTheDoubleScaleDown", type := .double, accessFlags := 8, slot := 8, constantValue := 0 }, { name := "$assertionsDisabled", type := .boolean, accessFlags := 4120, slot := 9, constantValue := 0 }]
  methods := #[k2m0, k2m1]
  instanceTypes := #[]
  staticTypes := #[.double, .double, .double, .double, .double, .long, .long, .double, .double, .boolean]
  resolved := Array.replicate 460 none
  statics := none }

def pool3 : Array CpInfo := pool [(1, .methodref 2 3), (0, .class_ 4), (0, .nameAndType 5 6), (0, u "java/lang/Object"), (0, u "<init>"), (0, u "()V"), (0, .class_ 8), (0, u "java/lang/Record")] 13

def k3c0 : Code := { maxStack := 1, maxLocals := 1, code := jdk_30_method_1_code, exceptionTable := #[], attributes := #[] }
def k3m0 : Method := { name := "<init>", desc := "()V", sig := { parameters := [], returnType := none }, accessFlags := 4, code := some k3c0 }
/-- java/lang/Record -/
def k3 : Class := { plain "java/lang/Record" (some 0) with
  accessFlags := 1057
  interfaces := #[]
  cf := some (fileOf pool3 7 #[] #[{ accessFlags := 4, nameIndex := 5, descriptorIndex := 6, attributes := #[] }] 1057 2 #[] #[])
  fields := #[]
  methods := #[k3m0]
  instanceTypes := #[]
  staticTypes := #[]
  resolved := Array.replicate 22 none
  statics := none }

def pool4 : Array CpInfo := pool [(1, .methodref 2 3), (0, .class_ 4), (0, .nameAndType 5 6), (0, u "java/lang/Record"), (0, u "<init>"), (0, u "()V"), (0, .fieldref 8 9), (0, .class_ 10), (0, .nameAndType 11 12), (0, u "com/example/stagecue/stagecue/engine/ExactTime"), (0, u "micros"), (0, u "J"), (0, .fieldref 8 14), (0, .nameAndType 15 12), (0, u "remainder"), (25, u "()J"), (2, u "(JJ)V"), (8, .long 9223372036854775807), (23, u "roundedUp")] 23

def k4c0 : Code := { maxStack := 3, maxLocals := 5, code := prog_6_method_1_code, exceptionTable := #[], attributes := #[] }
def k4m0 : Method := { name := "<init>", desc := "(JJ)V", sig := { parameters := [.long, .long], returnType := none }, accessFlags := 0, code := some k4c0 }
def k4c1 : Code := { maxStack := 4, maxLocals := 1, code := prog_6_method_4_code, exceptionTable := #[], attributes := #[] }
def k4m1 : Method := { name := "roundedUp", desc := "()J", sig := { parameters := [], returnType := some .long }, accessFlags := 0, code := some k4c1 }
/-- com/example/stagecue/stagecue/engine/ExactTime -/
def k4 : Class := { plain "com/example/stagecue/stagecue/engine/ExactTime" (some 3) with
  accessFlags := 48
  interfaces := #[]
  cf := some (fileOf pool4 8 #[] #[{ accessFlags := 0, nameIndex := 5, descriptorIndex := 44, attributes := #[] }, { accessFlags := 0, nameIndex := 77, descriptorIndex := 41, attributes := #[] }] 48 2 #[] #[{ accessFlags := 18, nameIndex := 11, descriptorIndex := 12, attributes := #[] }, { accessFlags := 18, nameIndex := 15, descriptorIndex := 12, attributes := #[] }])
  fields := #[{ name := "micros", type := .long, accessFlags := 18, slot := 0, constantValue := 0 }, { name := "remainder", type := .long, accessFlags := 18, slot := 1, constantValue := 0 }]
  methods := #[k4m0, k4m1]
  instanceTypes := #[.long, .long]
  staticTypes := #[]
  resolved := Array.replicate 101 none
  statics := none }

def pool5 : Array CpInfo := pool [(1, u "java/lang/Cloneable"), (0, .class_ 1), (0, u "java/lang/Object"), (0, .class_ 3)] 3

/-- java/lang/Cloneable -/
def k5 : Class := { plain "java/lang/Cloneable" (some 0) with
  accessFlags := 1537
  interfaces := #[]
  cf := some (fileOf pool5 2 #[] #[] 1537 4 #[] #[])
  fields := #[]
  methods := #[]
  instanceTypes := #[]
  staticTypes := #[]
  resolved := Array.replicate 8 none
  statics := none }

def pool6 : Array CpInfo := pool [(1, u "java/io/Serializable"), (0, .class_ 1), (0, u "java/lang/Object"), (0, .class_ 3)] 3

/-- java/io/Serializable -/
def k6 : Class := { plain "java/io/Serializable" (some 0) with
  accessFlags := 1537
  interfaces := #[]
  cf := some (fileOf pool6 2 #[] #[] 1537 4 #[] #[])
  fields := #[]
  methods := #[]
  instanceTypes := #[]
  staticTypes := #[]
  resolved := Array.replicate 8 none
  statics := none }

/-- the primitive byte -/
def k7 : Class := { plain "byte" none with kind := .primitive 'B', accessFlags := 0x411 }
/-- [B -/
def k8 : Class := { plain "[B" (some 0) with kind := .array 7 .byte, interfaces := #[5, 6], accessFlags := 1041 }

/-- the primitive int -/
def k9 : Class := { plain "int" none with kind := .primitive 'I', accessFlags := 0x411 }
/-- [I -/
def k10 : Class := { plain "[I" (some 0) with kind := .array 9 .int, interfaces := #[5, 6], accessFlags := 1041 }

def heap : Heap := #[]
def classes : Array Class := #[k0, k1, k2, k3, k4, k5, k6, k7, k8, k9, k10]
def interned : List (Array UInt16 × Addr) := []
def slotsUsed : Nat := 0
def theMethod : MethodId := ⟨1, 1⟩
def args0 : Array Value := #[.long 5, .long 300, .long 7, .int 2]
def aboutOver (below : List Frame) : State where
  vm := { classes := classes, interned := interned.toArray }
  heap := heap
  slotsUsed := slotsUsed
  threads := #[{ frames := .invoking theMethod args0 :: below }]
def below0 : List Frame := [.native { method := ⟨0, 0⟩, args := #[] }]
def about1 : State := aboutOver below0
def p0 : Program := .bare "" "" ""
def e0 : Env := launch0.env 0 0 0
theorem w_frames : about1.frames = Frame.invoking theMethod args0 :: below0 := rfl
set_option maxRecDepth 65536 in
theorem w_args : argsFit about1.vm theMethod args0 = true := by decide +kernel
set_option maxRecDepth 65536 in
theorem w_heap : heapFits about1 = true := by decide +kernel
set_option maxRecDepth 65536 in
theorem w_runnable : about1.curStatus? = some .runnable := by decide +kernel
set_option maxRecDepth 65536 in
theorem w_alone : about1.alone = true := by decide +kernel
set_option maxRecDepth 65536 in
theorem w_named : about1.methodNamed? x = some theMethod := by decide +kernel
set_option maxRecDepth 65536 in
theorem w_hears : about1.hears theMethod below0 = true := by decide +kernel
set_option maxRecDepth 65536 in
theorem w_ripe : about1.ripe theMethod args0 below0 = true := by decide +kernel
theorem w_running : about1.status = .running := rfl
set_option maxRecDepth 65536 in
theorem w_room : about1.hasRoom e0.platform room_1 = true :=
  launch0.hasRoom_least _ room_1 (by decide +kernel) (by decide +kernel) (by decide +kernel) (by decide +kernel) (by decide +kernel) (by decide +kernel)
theorem allAtoms_all (ts : List Jvm.Cond) (a : Array Jvm.Value) (st : Jvm.State) : (allAtoms ts).before a st = ts.all (fun c => c.before a st) := by
  induction ts with
  | nil => rfl
  | cons c t ih =>
    show (Jvm.Cond.and c (allAtoms t)).before a st = _
    rw [Jvm.Cond.before_and, ih, List.all_cons]
def words1 : List Jvm.Cond := Jvm.Cond.code x code maxLocals ret :: tables_1
/-- a 'code' word, met by the world's own term for the bytes: nothing is compared byte by byte -/
theorem code_word {y : MethodName} {bytes : ByteArray} {mx : Nat} {rt : Option FieldType} {a : Array Value} {s : State} {m : MethodId} {meth : Method} {c : Code} (h1 : s.methodNamed? y = some m) (h2 : s.vm.method? m = some meth) (h3 : meth.code = some c) (h4 : c.code = bytes)
    (h5 : (c.maxLocals == mx && c.exceptionTable.isEmpty && decide (c.maxStack ≤ mostOperands) && decide (meth.sig.returnType = rt) && !meth.locks && decide (parseMethodDescriptor y.desc = some meth.sig)) = true) : (Jvm.Cond.code y bytes mx rt).before a s = true := by
  simp only [Bool.and_eq_true, beq_iff_eq, Bool.not_eq_true', decide_eq_true_eq] at h5
  obtain ⟨⟨⟨⟨⟨g1, g2⟩, g3⟩, g4⟩, g5⟩, g6⟩ := h5
  simp [Cond.before, Cond.holds, Cond.value, h1, h2, h3, h4, g1, g2, g3, g4, g5, g6]
def isCode : Jvm.Cond → Bool
  | .code _ _ _ _ => true
  | _ => false
theorem all_split {L : List Jvm.Cond} {P : Jvm.Cond → Bool} (h1 : L.all (fun c => isCode c || P c) = true) (h2 : ∀ c ∈ L.filter isCode, P c = true) : L.all P = true := by
  refine List.all_eq_true.mpr fun c hc => ?_
  have h := List.all_eq_true.mp h1 c hc
  rcases Bool.eq_false_or_eq_true (isCode c) with hi | hi
  · exact h2 c (List.mem_filter.mpr ⟨hc, hi⟩)
  · simpa [hi] using h
set_option maxRecDepth 65536 in
theorem w_c0 : (Jvm.Cond.code x code maxLocals ret).before args0 about1 = true := code_word (m := ⟨1, 1⟩) (meth := k1m1) (c := k1c1) (by decide +kernel) rfl rfl rfl (by decide +kernel)
set_option maxRecDepth 65536 in
theorem w_c1 : (Jvm.Cond.code ({ cls := "java/lang/Math", name := "max", desc := "(JJ)J" } : Jvm.MethodName) jdk_29_method_66_code (4 : Nat) (Option.some Jvm.ClassFile.FieldType.long)).before args0 about1 = true := code_word (m := ⟨2, 1⟩) (meth := k2m1) (c := k2c1) (by decide +kernel) rfl rfl rfl (by decide +kernel)
set_option maxRecDepth 65536 in
theorem w_c2 : (Jvm.Cond.code ({ cls := "com/example/stagecue/stagecue/engine/ExactTime", name := "<init>", desc := "(JJ)V" } : Jvm.MethodName) prog_6_method_1_code (5 : Nat) (Option.none : Option Jvm.ClassFile.FieldType)).before args0 about1 = true := code_word (m := ⟨4, 0⟩) (meth := k4m0) (c := k4c0) (by decide +kernel) rfl rfl rfl (by decide +kernel)
set_option maxRecDepth 65536 in
theorem w_c3 : (Jvm.Cond.code ({ cls := "java/lang/Record", name := "<init>", desc := "()V" } : Jvm.MethodName) jdk_30_method_1_code (1 : Nat) (Option.none : Option Jvm.ClassFile.FieldType)).before args0 about1 = true := code_word (m := ⟨3, 0⟩) (meth := k3m0) (c := k3c0) (by decide +kernel) rfl rfl rfl (by decide +kernel)
set_option maxRecDepth 65536 in
theorem w_c4 : (Jvm.Cond.code ({ cls := "java/lang/Object", name := "<init>", desc := "()V" } : Jvm.MethodName) object_method_1_code (1 : Nat) (Option.none : Option Jvm.ClassFile.FieldType)).before args0 about1 = true := code_word (m := ⟨0, 0⟩) (meth := k0m0) (c := k0c0) (by decide +kernel) rfl rfl rfl (by decide +kernel)
set_option maxRecDepth 65536 in
theorem w_c5 : (Jvm.Cond.code ({ cls := "com/example/stagecue/stagecue/engine/ExactTime", name := "roundedUp", desc := "()J" } : Jvm.MethodName) prog_6_method_4_code (1 : Nat) (Option.some Jvm.ClassFile.FieldType.long)).before args0 about1 = true := code_word (m := ⟨4, 1⟩) (meth := k4m1) (c := k4c1) (by decide +kernel) rfl rfl rfl (by decide +kernel)
def codes1 : List Jvm.Cond := [Jvm.Cond.code x code maxLocals ret, Jvm.Cond.code ({ cls := "java/lang/Math", name := "max", desc := "(JJ)J" } : Jvm.MethodName) jdk_29_method_66_code (4 : Nat) (Option.some Jvm.ClassFile.FieldType.long), Jvm.Cond.code ({ cls := "com/example/stagecue/stagecue/engine/ExactTime", name := "<init>", desc := "(JJ)V" } : Jvm.MethodName) prog_6_method_1_code (5 : Nat) (Option.none : Option Jvm.ClassFile.FieldType), Jvm.Cond.code ({ cls := "java/lang/Record", name := "<init>", desc := "()V" } : Jvm.MethodName) jdk_30_method_1_code (1 : Nat) (Option.none : Option Jvm.ClassFile.FieldType), Jvm.Cond.code ({ cls := "java/lang/Object", name := "<init>", desc := "()V" } : Jvm.MethodName) object_method_1_code (1 : Nat) (Option.none : Option Jvm.ClassFile.FieldType), Jvm.Cond.code ({ cls := "com/example/stagecue/stagecue/engine/ExactTime", name := "roundedUp", desc := "()J" } : Jvm.MethodName) prog_6_method_4_code (1 : Nat) (Option.some Jvm.ClassFile.FieldType.long)]
set_option maxRecDepth 65536 in
theorem codes_eq : words1.filter isCode = codes1 := rfl
theorem w_codes : ∀ c ∈ words1.filter isCode, c.before args0 about1 = true := by
  rw [codes_eq]
  intro c hc
  simp only [codes1, List.mem_cons, List.not_mem_nil, or_false] at hc
  rcases hc with rfl | rfl | rfl | rfl | rfl | rfl
  · exact w_c0
  · exact w_c1
  · exact w_c2
  · exact w_c3
  · exact w_c4
  · exact w_c5
set_option maxRecDepth 65536 in
theorem w_t1 : (words1.take 24).all (fun c => isCode c || c.before args0 about1) = true := by decide +kernel
set_option maxRecDepth 65536 in
theorem w_t2 : (words1.drop 24).all (fun c => isCode c || c.before args0 about1) = true := by decide +kernel
theorem w_tables : (allAtoms (Jvm.Cond.code x code maxLocals ret :: tables_1)).before args0 about1 = true := by
  rw [allAtoms_all]
  show words1.all (fun c => c.before args0 about1) = true
  refine all_split ?_ w_codes
  rw [← List.take_append_drop 24 words1, List.all_append, w_t1, w_t2]
  rfl
set_option maxRecDepth 65536 in
theorem w_case : (Jvm.Cond.and given_1 narrow_1).before args0 about1 = true := by decide +kernel
theorem w_applies : (headSpec (Jvm.Cond.code x code maxLocals ret :: tables_1) room_1).applies x e0.platform about1 = true :=
  (Spec.applies_iff w_frames).mpr ⟨w_running, w_runnable, w_alone, w_named, w_hears, w_ripe, w_room, w_tables⟩
theorem atStart : AtStart classFile x code maxLocals ret World_1 tables_1 room_1 Calls_1 rest_1 Pre_1 launch0 p0 e0 about1 theMethod args0 below0 :=
  ⟨lists_1, trivial, launch0.admits_env _ _ _, launch0.least_env, fairChoices_fair.cas, fairChoices_fair.clock, w_frames, w_args, w_heap, w_applies, trivial, trivial, w_case⟩
end start1
theorem witness_1 : WitnessClaimed_1 := ⟨start1.p0, start1.e0, start1.about1, start1.theMethod, start1.args0, start1.below0, start1.atStart⟩
end Jvm.Pilot.@@N@@
