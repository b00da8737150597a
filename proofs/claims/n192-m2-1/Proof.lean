import JvmDerived
import JvmDerived.Pilot.@@N@@Statement
import JvmDerived.Pilot.@@N@@Code
set_option linter.unusedVariables false
set_option linter.unusedSimpArgs false
namespace Jvm.OwnKit
open Sem ClassFile Op Lib Jvm.Stand Jvm.Free Jvm.LawKit Jvm.RoadKit
/-- from here the run returns; it wrote new cells alone, and what it leaves is as Q says -/
def OGoes (p : Program) (e : Env) (s : State) (below : List Frame) (Q : Option Value → Heap → Prop) (n0 C N : Nat) (T : State) (g : JFrame) : Prop :=
  ∃ s₂ o, Steps p.tables e below (T.setTop g) s₂ ∧ s₂.status = .running ∧ Ended s₂ below o ∧ ∃ v L, o = .returned v ∧ (Fr n0 L ∧ Q v s₂.heap) ∧ FrameEnd s o s₂ L C N
/-- two addresses apart, one number up to another: kept from omega's sight -/
def Apart (a b : Nat) : Prop := a ≠ b
theorem Apart.symm {a b : Nat} (h : Apart a b) : Apart b a := Ne.symm h
def NLe (a b : Nat) : Prop := a ≤ b
theorem NLe.tr {a b c : Nat} (h : NLe a b) (k : b ≤ c) : NLe a c := Nat.le_trans h k
theorem NLe.wr {a : Nat} {h h' : Heap} {b sl : Nat} {v : Value} (q : NLe a h.size) (W : Wr h h' b sl v) : NLe a h'.size := by show a ≤ h'.size; rw [W.size]; exact q
theorem NLe.at {n a b : Nat} (g : a = b) (q : NLe n b) : NLe n a := g ▸ q
theorem Apart.new {a b n : Nat} (g : a = n) (q : b < n) : Apart b a := g ▸ Nat.ne_of_lt q
theorem Apart.fr {a b n : Nat} (q : b < n) (r : n ≤ a) : Apart b a := Nat.ne_of_lt (Nat.lt_of_lt_of_le q r)
/-- a method's contract: entered with these arguments over the heap h it returns as Q says -/
abbrev Con (l : Launch) (y : MethodName) (bytes : ByteArray) (maxL : Nat) (ret : Option FieldType) (ws : List Jvm.Cond) (rm : Room) (Z : State) (as' : Array Value) (h : Heap) (n0 : Nat) (Q : Option Value → Heap → Prop) : Prop :=
  MetFree l y (head1 (Jvm.Cond.code y bytes maxL ret :: ws) rm) (fun a U => a = as' ∧ Z.Warmed39 U.vm ∧ U.heap = h) (fun _ _ _ _ _ => True) (fun _ U o U' => ∃ v L, o = .returned v ∧ (Fr n0 L ∧ Q v U'.heap) ∧ FrameEnd U o U' L rm.cells rm.slots)
section Laws
variable {p : Program} {l : Launch} {e : Env} {R : Room} {s : State} {m : MethodId} {args : Array Value} {below : List Frame} {meth : Method} {c : Code} {T T' : State} {locs : List Loc} {cells slots : Nat} {Z : State} {h : Heap} {a0 : Array Value} {Q : Option Value → Heap → Prop} {n0 C N pc pc' : Nat} {Ls Ls' : Array Slot} {st : List Value} {g g' : JFrame}
theorem OGoes.go (k : ∀ t, Steps p.tables e below (T'.setTop g') t → Steps p.tables e below (T.setTop g) t) (h : OGoes p e s below Q n0 C N T' g') : OGoes p e s below Q n0 C N T g := by
  obtain ⟨s₂, o, h1, h2⟩ := h; exact ⟨s₂, o, k _ h1, h2⟩
/-- what opens every body's walk -/
theorem con_of {y : MethodName} {bytes : ByteArray} {maxL : Nat} {ret : Option FieldType} {ws : List Jvm.Cond} {rm : Room} {as' : Array Value} {Ls0 : Array Slot} (hn : plainFor y = true) (hef : ∀ m, entryFrame m as' maxL = mkF m 0 Ls0 [])
    (body : ∀ (p : Program) (e : Env) (s : State) (m : MethodId) (below : List Frame) (meth : Method) (c : Code) (s₁ : State), Stand p l e rm s m as' below meth c s₁ [] 0 0 → p.tables.exec = Jvm.exec → c.code = bytes → c.maxLocals = maxL → Z.Warmed39 s.vm → s.vm.findClass y.cls = some m.cls → meth.name = y.name → meth.sig.returnType = ret → meth.locks = false → s₁.heap = h → Fr n0 [] →
      OGoes p e s below Q n0 rm.cells rm.slots s₁ (mkF m 0 Ls0 [])) : Con l y bytes maxL ret ws rm Z as' h n0 Q := by
  refine MetFree.of_bodySF hn hisR ?_
  intro p e s m args below meth c s₁ Bd hml0 hP hK
  obtain ⟨rfl, hZ, hh⟩ := hP
  have e0 : s₁.heap = h := by rw [← hh, Bd.state]; rfl
  have q := body p e s m below meth c s₁ (Stand.of_body Bd) Bd.exec Bd.bytes hml0 hZ (findClass_of_methodNamed Bd.named) (name_of_methodNamed Bd.named Bd.method).1 Bd.returns Bd.notSynchronized e0 (Fr.nil n0)
  rw [hef m]
  exact q
/-- a return -/
theorem g_ret (X : Stand p l e R s m args below meth c T locs cells slots) (hx : p.tables.exec = Jvm.exec) (hlk : meth.locks = false) {w : Value} {t : FieldType} {i : Instr} (hret : meth.sig.returnType = some t) (hn : narrow t w = w)
    (hi : (i = .ireturn ∧ (t = .int ∨ t = .boolean ∨ t = .byte ∨ t = .char ∨ t = .short) ∧ ∃ z, w = .int z) ∨ (i = .lreturn ∧ t = .long ∧ ∃ z, w = .long z) ∨ (i = .dreturn ∧ t = .double ∧ ∃ z, w = .double z) ∨ (i = .freturn ∧ t = .float ∧ ∃ z, w = .float z) ∨ (i = .areturn ∧ t.isReference = true ∧ w.isRef = true))
    (hd : decode c.code pc = .ok (i, 1)) (hN : Fr n0 locs) (hc : cells ≤ C) (hs : slots ≤ N) (hQ : Q (some w) T.heap) : OGoes p e s below Q n0 C N T (mkF m pc Ls (w :: st)) := by
  obtain ⟨fs, hr, hrun, hended, hW, hsame⟩ := X.leave (v := some w) (fun z => by rw [hret] at z; cases z)
  exact ⟨_, _, retOut X hx hret hn hi hd hr, hrun, hended, _, _, rfl, ⟨hN, hQ⟩, ⟨_, rfl⟩, hW, hsame.mono hc hs⟩
theorem g_retI (X : Stand p l e R s m args below meth c T locs cells slots) (hx : p.tables.exec = Jvm.exec) (hlk : meth.locks = false) {z : Int32} (hret : meth.sig.returnType = some .int) (hd : decode c.code pc = .ok (.ireturn, 1)) (hN : Fr n0 locs) (hc : cells ≤ C) (hs : slots ≤ N) (hQ : Q (some (.int z)) T.heap) : OGoes p e s below Q n0 C N T (mkF m pc Ls (.int z :: st)) :=
  g_ret X hx hlk hret rfl (Or.inl ⟨rfl, Or.inl rfl, _, rfl⟩) hd hN hc hs hQ
theorem g_retZ (X : Stand p l e R s m args below meth c T locs cells slots) (hx : p.tables.exec = Jvm.exec) (hlk : meth.locks = false) {z : Int32} (hz : z &&& 1 = z) (hret : meth.sig.returnType = some .boolean) (hd : decode c.code pc = .ok (.ireturn, 1)) (hN : Fr n0 locs) (hc : cells ≤ C) (hs : slots ≤ N) (hQ : Q (some (.int z)) T.heap) : OGoes p e s below Q n0 C N T (mkF m pc Ls (.int z :: st)) :=
  g_ret X hx hlk hret (congrArg Value.int hz) (Or.inl ⟨rfl, Or.inr (Or.inl rfl), _, rfl⟩) hd hN hc hs hQ
theorem g_retJ (X : Stand p l e R s m args below meth c T locs cells slots) (hx : p.tables.exec = Jvm.exec) (hlk : meth.locks = false) {z : Int64} (hret : meth.sig.returnType = some .long) (hd : decode c.code pc = .ok (.lreturn, 1)) (hN : Fr n0 locs) (hc : cells ≤ C) (hs : slots ≤ N) (hQ : Q (some (.long z)) T.heap) : OGoes p e s below Q n0 C N T (mkF m pc Ls (.long z :: st)) :=
  g_ret X hx hlk hret rfl (Or.inr (Or.inl ⟨rfl, rfl, _, rfl⟩)) hd hN hc hs hQ
theorem g_retA (X : Stand p l e R s m args below meth c T locs cells slots) (hx : p.tables.exec = Jvm.exec) (hlk : meth.locks = false) {v : Value} {t : FieldType} (hret : meth.sig.returnType = some t) (ht : t.isReference = true) (hn : narrow t v = v) (hv : v.isRef = true) (hd : decode c.code pc = .ok (.areturn, 1)) (hN : Fr n0 locs) (hc : cells ≤ C) (hs : slots ≤ N) (hQ : Q (some v) T.heap) : OGoes p e s below Q n0 C N T (mkF m pc Ls (v :: st)) :=
  g_ret X hx hlk hret hn (Or.inr (Or.inr (Or.inr (Or.inr ⟨rfl, ht, hv⟩)))) hd hN hc hs hQ
theorem g_retV (X : Stand p l e R s m args below meth c T locs cells slots) (hx : p.tables.exec = Jvm.exec) (hlk : meth.locks = false) (hret : meth.sig.returnType = none) (hd : decode c.code pc = .ok (.return_, 1)) (hN : Fr n0 locs) (hc : cells ≤ C) (hs : slots ≤ N) (hQ : Q none T.heap) : OGoes p e s below Q n0 C N T (mkF m pc Ls []) := by
  obtain ⟨fs, hr, hrun, hended, hW, hsame⟩ := X.leave (v := none) (fun _ => rfl)
  exact ⟨_, _, X.returnOut hx hret hd hr, hrun, hended, _, _, rfl, ⟨hN, hQ⟩, ⟨_, rfl⟩, hW, hsame.mono hc hs⟩
/-! fields and objects -/
theorem g_getF (X : Stand p l e R s m args below meth c T locs cells slots) (hx : p.tables.exec = Jvm.exec) (hZ : Z.Warmed39 s.vm) {own O n d : String} {i : Nat} (hown : s.vm.findClass own = some m.cls) (w : (Cond.fieldLink own i O n d).before a0 Z = true) (eT : T.heap = h) {a : Addr} {v : Value} (F : Fld Z h a O n d v) (hd : decode c.code pc = .ok (.getfield i, 3)) (hp : pc + 3 = pc')
    (k : ∀ T', Stand p l e R s m args below meth c T' locs cells slots → T'.heap = h → OGoes p e s below Q n0 C N T' (mkF m pc' Ls (v :: st))) : OGoes p e s below Q n0 C N T (mkF m pc Ls (.ref a :: st)) := by
  subst hp
  obtain ⟨T', X', e', st'⟩ := getF X hx hZ hown (host := "") (Or.inl w) Via.refl eT F (g := mkF m pc Ls (.ref a :: st)) rfl rfl hd
  exact (k T' X' e').go st'
theorem g_putF (X : Stand p l e R s m args below meth c T locs cells slots) (hx : p.tables.exec = Jvm.exec) (hZ : Z.Warmed39 s.vm) {own O n d K : String} {i kk : Nat} {ty : FieldType} (hown : s.vm.findClass own = some m.cls) (w : (Cond.fieldLink own i O n d).before a0 Z = true) (eT : T.heap = h) {a : Addr} {v old : Value} (F : Fld Z h a O n d old) (E : Exa Z h a K) (L : (Cond.lays K O n d).before a0 Z = true ∨ ((Cond.laysFinal K O n d).before a0 Z = true ∧ own = O ∧ meth.name = "<init>")) (wi : (Cond.instantiable K kk).before a0 Z = true)
    (hty : parseFieldDescriptor d = some ty) (hn : narrow ty v = v) (hf : fits ty v = true) (hN : Fr n0 locs) (ha : n0 ≤ a) (hd : decode c.code pc = .ok (.putfield i, 3)) (hp : pc + 3 = pc')
    (k : ∀ T' h' locs', Stand p l e R s m args below meth c T' locs' cells slots → T'.heap = h' → Wr h h' a (RoadKit.slotOf Z O n d) v → Fr n0 locs' → OGoes p e s below Q n0 C N T' (mkF m pc' Ls st)) : OGoes p e s below Q n0 C N T (mkF m pc Ls (v :: .ref a :: st)) := by
  subst hp
  obtain ⟨T', h', X', e', W', st'⟩ := putF X hx hZ hown (host := "") (Or.inl w) Via.refl eT F E L wi hty hn hf (g := mkF m pc Ls (v :: .ref a :: st)) rfl rfl hd
  exact (k T' h' _ X' e' W' (Fr.snoc X' hN ha)).go st'
theorem g_new (X : Stand p l e R s m args below meth c T locs cells slots) (hx : p.tables.exec = Jvm.exec) (hZ : Z.Warmed39 s.vm) {own K : String} {i n : Nat} (hown : s.vm.findClass own = some m.cls) (w : (Cond.classLink own i K).before a0 Z = true) (wi : (Cond.instantiable K n).before a0 Z = true) (wz : (Cond.initialized K).before a0 Z = true) (eT : T.heap = h) (hd : decode c.code pc = .ok (.new i, 3)) (hc : cells + 1 ≤ R.cells) (hl : slots + n ≤ R.slots) (hp : pc + 3 = pc')
    (k : ∀ T' h' a, a = h.size → Stand p l e R s m args below meth c T' locs (cells + 1) (slots + n) → T'.heap = h' → Ext h h' → a < h'.size → Exa Z h' a K → (∀ {O nm d : String} {ty : FieldType}, Laid Z a0 K O nm d → parseFieldDescriptor d = some ty → Fld Z h' a O nm d (defaultValue ty)) → OGoes p e s below Q n0 C N T' (mkF m pc' Ls (.ref a :: st))) : OGoes p e s below Q n0 C N T (mkF m pc Ls st) := by
  subst hp
  obtain ⟨T', h', X', e', E', A', D', -, st'⟩ := newO X hx hZ hown w wi wz eT (g := mkF m pc Ls st) rfl hd hc hl
  exact (k T' h' h.size rfl X' e' E' A'.lt A' D').go st'
theorem g_initO (X : Stand p l e R s m args below meth c T locs cells slots) (hx : p.tables.exec = Jvm.exec) (hZ : Z.Warmed39 s.vm) {own : String} {i : Nat} (hown : s.vm.findClass own = some m.cls) (w1 : (Cond.methodLink own i Lib.objectInit).before a0 Z = true) (w2 : (Cond.instanceMethod Lib.objectInit).before a0 Z = true) (w3 : (Cond.code Lib.objectInit ⟨#[0xb1]⟩ 1 none).before a0 Z = true) (eT : T.heap = h) (hsz : Ls.size = c.maxLocals) {a : Addr} (hd : decode c.code pc = .ok (.invokespecial i, 3))
    (hf : 1 ≤ R.frames) {W : Nat} (hW : (st.map fun v => v.category).sum ≤ W) (hl : W + 12 ≤ R.locals) (hp : pc + 3 = pc')
    (k : ∀ T', Stand p l e R s m args below meth c T' locs cells slots → T'.heap = h → OGoes p e s below Q n0 C N T' (mkF m pc' Ls st)) : OGoes p e s below Q n0 C N T (mkF m pc Ls (.ref a :: st)) := by
  subst hp
  obtain ⟨T', X', e', st'⟩ := initO X hx hZ hown w1 w2 w3 eT (g := mkF m pc Ls (.ref a :: st)) rfl hsz rfl hd hf (W := W) (by show 2 * 0 + _ ≤ _; omega) hl
  exact (k T' X' e').go st'
theorem g_getS (X : Stand p l e R s m args below meth c T locs cells slots) (hx : p.tables.exec = Jvm.exec) (hZ : Z.Warmed39 s.vm) {own O n d : String} {i : Nat} (hown : s.vm.findClass own = some m.cls) (w : (Cond.fieldLink own i O n d).before a0 Z = true) (eT : T.heap = h) {v : Value} (F : Sta Z h O n d v) (hd : decode c.code pc = .ok (.getstatic i, 3)) (hp : pc + 3 = pc')
    (k : ∀ T', Stand p l e R s m args below meth c T' locs cells slots → T'.heap = h → OGoes p e s below Q n0 C N T' (mkF m pc' Ls (v :: st))) : OGoes p e s below Q n0 C N T (mkF m pc Ls st) := by
  subst hp
  obtain ⟨T', X', e', st'⟩ := getS X hx hZ hown (host := "") w Via.refl eT F (g := mkF m pc Ls st) rfl hd
  exact (k T' X' e').go st'
theorem g_ldcF (X : Stand p l e R s m args below meth c T locs cells slots) (hx : p.tables.exec = Jvm.exec) (hZ : Z.Warmed39 s.vm) {own : String} {i : Nat} {b : UInt32} (hown : s.vm.findClass own = some m.cls) (w : (Cond.constantFloat own i b).before a0 Z = true) (hd : decode c.code pc = .ok (.ldc i, 2)) (hp : pc + 2 = pc')
    (k : OGoes p e s below Q n0 C N T (mkF m pc' Ls (.float b :: st))) : OGoes p e s below Q n0 C N T (mkF m pc Ls st) := by
  subst hp
  exact k.go fun t q => X.ldcFloatC hx hown (mvT hZ w) (g := mkF m pc Ls st) rfl hd t q
/-! calls: the callee's contract pays -/
theorem g_static (X : Stand p l e R s m args below meth c T locs cells slots) (hx : p.tables.exec = Jvm.exec) (hZ : Z.Warmed39 s.vm) {own : String} {i : Nat} {y : MethodName} {bytes : ByteArray} {maxL : Nat} {ret : Option FieldType} (hown : s.vm.findClass own = some m.cls) (w1 : (Cond.methodLink own i y).before a0 Z = true) (w2 : (Cond.static y).before a0 Z = true) (w3 : (Cond.initialized y.cls).before a0 Z = true) (w4 : (Cond.code y bytes maxL ret).before a0 Z = true) (hy : y.cls ≠ "java/lang/invoke/MethodHandle" ∧ y.cls ≠ "java/lang/invoke/VarHandle")
    {rm : Room} {argsL : List Value} {as' : Array Value} {Qy : Option Value → Heap → Prop} (hM : Con l y bytes maxL ret [] rm Z as' h n0 Qy) (has : argsL.toArray = as') (eT : T.heap = h) (hsz : Ls.size = c.maxLocals) {ps : List FieldType} {rt : Option FieldType} (pd : parseMethodDescriptor y.desc = some ⟨ps, rt⟩) (hlen : argsL.length = ps.length) {rest : List Value} (hst : st = argsL.reverse ++ rest) {W : Nat} (hW : (rest.map fun v => v.category).sum ≤ W)
    (hf : rm.frames + 1 ≤ R.frames) (hl : W + (maxL + 11) + rm.locals ≤ R.locals) (hc : cells + rm.cells ≤ R.cells) (hs : slots + rm.slots ≤ R.slots) (hN : Fr n0 locs) (hd : decode c.code pc = .ok (.invokestatic i, 3)) (hp : pc + 3 = pc')
    (k : ∀ v T' locs', Stand p l e R s m args below meth c T' locs' (cells + rm.cells) (slots + rm.slots) → Fr n0 locs' → Qy v T'.heap → OGoes p e s below Q n0 C N T' (mkF m pc' Ls (v.toList ++ rest))) : OGoes p e s below Q n0 C N T (mkF m pc Ls st) := by
  subst hp has
  obtain ⟨v, _, ⟨T', L', k', n'⟩, -, X', ⟨L, ⟨hNL, hQ⟩, q1, q2, q3⟩, st'⟩ := Jvm.LawKit.callS X hx (y := y) hown (mvT hZ w1) (mvT hZ w2) (mvT hZ w3) (mvT hZ w4) hy (backOf (W := W) (Q := fun v h L => Fr n0 L ∧ Qy v h) hM hZ w4 w3 hf hl) (g := mkF m pc Ls st) rfl hsz (argsL := argsL) (rest := rest) (lenOf pd hlen) hst (by show 2 * 0 + _ ≤ _; omega) hd (fun _ _ => ⟨rfl, eT, hc, hs⟩)
  dsimp only [Pt.U, Pt.locs, Pt.cells, Pt.slots] at X' q1 q2 q3 st' hQ
  subst q1 q2 q3
  exact (k v T' _ X' (Fr.app hN hNL) hQ).go st'
theorem g_special (X : Stand p l e R s m args below meth c T locs cells slots) (hx : p.tables.exec = Jvm.exec) (hZ : Z.Warmed39 s.vm) {own : String} {i : Nat} {y : MethodName} {bytes : ByteArray} {maxL : Nat} (hy1 : y.name = "<init>") (hown : s.vm.findClass own = some m.cls) (w1 : (Cond.methodLink own i y).before a0 Z = true) (w2 : (Cond.instanceMethod y).before a0 Z = true) (w3 : (Cond.initialized y.cls).before a0 Z = true) (w4 : (Cond.code y bytes maxL none).before a0 Z = true) (hy : y.cls ≠ "java/lang/invoke/MethodHandle" ∧ y.cls ≠ "java/lang/invoke/VarHandle")
    {rm : Room} {a : Addr} {argsL : List Value} {as' : Array Value} {Qy : Option Value → Heap → Prop} (hM : Con l y bytes maxL none [] rm Z as' h n0 Qy) (has : (.ref a :: argsL).toArray = as') (eT : T.heap = h) (hsz : Ls.size = c.maxLocals) {ps : List FieldType} {rt : Option FieldType} (pd : parseMethodDescriptor y.desc = some ⟨ps, rt⟩) (hlen : argsL.length = ps.length) {rest : List Value} (hst : st = argsL.reverse ++ .ref a :: rest) {W : Nat} (hW : (rest.map fun v => v.category).sum ≤ W)
    (hf : rm.frames + 1 ≤ R.frames) (hl : W + (maxL + 11) + rm.locals ≤ R.locals) (hc : cells + rm.cells ≤ R.cells) (hs : slots + rm.slots ≤ R.slots) (hN : Fr n0 locs) (hd : decode c.code pc = .ok (.invokespecial i, 3)) (hp : pc + 3 = pc')
    (k : ∀ v T' locs', Stand p l e R s m args below meth c T' locs' (cells + rm.cells) (slots + rm.slots) → Fr n0 locs' → Qy v T'.heap → OGoes p e s below Q n0 C N T' (mkF m pc' Ls (v.toList ++ rest))) : OGoes p e s below Q n0 C N T (mkF m pc Ls st) := by
  subst hp has
  obtain ⟨v, _, ⟨T', L', k', n'⟩, -, X', ⟨L, ⟨hNL, hQ⟩, q1, q2, q3⟩, st'⟩ := X.specialBack hx (y := y) hy1 hown (mvT hZ w1) (mvT hZ w2) (mvT hZ w4) hy (backOf (W := W) (Q := fun v h L => Fr n0 L ∧ Qy v h) hM hZ w4 w3 hf hl) (g := mkF m pc Ls st) rfl hsz (Steps.refl _) (a := a) (argsL := argsL) (rest := rest) (lenOf pd hlen) hst (by show 2 * 0 + _ ≤ _; omega) hd (fun _ _ => ⟨rfl, eT, hc, hs⟩)
  dsimp only [Pt.U, Pt.locs, Pt.cells, Pt.slots] at X' q1 q2 q3 st' hQ
  subst q1 q2 q3
  exact (k v T' _ X' (Fr.app hN hNL) hQ).go fun _ z => st'.trans z
theorem g_virtual (X : Stand p l e R s m args below meth c T locs cells slots) (hx : p.tables.exec = Jvm.exec) (hZ : Z.Warmed39 s.vm) {own K : String} {i : Nat} {y : MethodName} {bytes : ByteArray} {maxL : Nat} {ret : Option FieldType} (hown : s.vm.findClass own = some m.cls) (w1 : (Cond.methodLink own i y).before a0 Z = true) (w2 : (Cond.declares y).before a0 Z = true) (w5 : (Cond.selects K y y).before a0 Z = true) (w6 : (Cond.instanceMethod y).before a0 Z = true) (w3 : (Cond.initialized y.cls).before a0 Z = true) (w4 : (Cond.code y bytes maxL ret).before a0 Z = true) (hy : y.cls ≠ "java/lang/invoke/MethodHandle" ∧ y.cls ≠ "java/lang/invoke/VarHandle")
    {rm : Room} {a : Addr} {argsL : List Value} {as' : Array Value} {Qy : Option Value → Heap → Prop} (hM : Con l y bytes maxL ret [] rm Z as' h n0 Qy) (has : (.ref a :: argsL).toArray = as') (eT : T.heap = h) (E : Exa Z h a K) (hsz : Ls.size = c.maxLocals) {ps : List FieldType} {rt : Option FieldType} (pd : parseMethodDescriptor y.desc = some ⟨ps, rt⟩) (hlen : argsL.length = ps.length) {rest : List Value} (hst : st = argsL.reverse ++ .ref a :: rest) {W : Nat} (hW : (rest.map fun v => v.category).sum ≤ W)
    (hf : rm.frames + 1 ≤ R.frames) (hl : W + (maxL + 11) + rm.locals ≤ R.locals) (hc : cells + rm.cells ≤ R.cells) (hs : slots + rm.slots ≤ R.slots) (hN : Fr n0 locs) (hd : decode c.code pc = .ok (.invokevirtual i, 3)) (hp : pc + 3 = pc')
    (k : ∀ v T' locs', Stand p l e R s m args below meth c T' locs' (cells + rm.cells) (slots + rm.slots) → Fr n0 locs' → Qy v T'.heap → OGoes p e s below Q n0 C N T' (mkF m pc' Ls (v.toList ++ rest))) : OGoes p e s below Q n0 C N T (mkF m pc Ls st) := by
  subst hp has
  obtain ⟨cq, kq, qa, qb, qc⟩ := isOf hZ eT E
  obtain ⟨v, _, ⟨T', L', k', n'⟩, -, X', ⟨L, ⟨hNL, hQ⟩, q1, q2, q3⟩, st'⟩ := X.virtualBack hx (y := y) (z := y) hown (mvT hZ w1) (mvT hZ w2) (notFace_of_selects (args := #[]) (mvT hZ w5)) (mvT hZ w5) (mvT hZ w6) hy (backOf (W := W) (Q := fun v h L => Fr n0 L ∧ Qy v h) hM hZ w4 w3 hf hl) qa qc (g := mkF m pc Ls st) rfl hsz (Steps.refl _) (argsL := argsL) (rest := rest) (lenOf pd hlen) hst (by show 2 * 0 + _ ≤ _; omega) hd (fun _ _ => ⟨rfl, eT, hc, hs⟩)
  dsimp only [Pt.U, Pt.locs, Pt.cells, Pt.slots] at X' q1 q2 q3 st' hQ
  subst q1 q2 q3
  exact (k v T' _ X' (Fr.app hN hNL) hQ).go fun _ z => st'.trans z
/-! int arrays and long arrays, by their values -/
def IA (Z : State) (h : Heap) (a : Addr) (n : Nat) (f : Nat → Int32) : Prop := n < 2147483648 ∧ ∃ c : Cell, Arr Z h a c .int ∧ c.slots.size = n ∧ ∀ i, i < n → c.slots[i]? = some (.int (f i))
def LA (Z : State) (h : Heap) (a : Addr) (n : Nat) (f : Nat → Int64) : Prop := n < 2147483648 ∧ ∃ c : Cell, Arr Z h a c .long ∧ c.slots.size = n ∧ ∀ i, i < n → c.slots[i]? = some (.long (f i))
def zeroI : Nat → Int32 := fun _ => 0
def zeroL : Nat → Int64 := fun _ => 0
def oupd {A : Type} (f : Nat → A) (j : Nat) (v : A) : Nat → A := fun i => if i = j then v else f i
theorem nclamp {j : Int32} {k : Nat} (hj : j.toInt = (k : Int)) : j.toNatClampNeg = k ∧ ¬ j < 0 := by
  refine ⟨by simp only [Int32.toNatClampNeg, hj]; rfl, fun z => ?_⟩
  rw [Int32.lt_iff_toInt_lt, hj] at z; have : (0 : Int32).toInt = 0 := rfl; omega
theorem nin {j : Int32} {k n : Nat} (hj : j.toInt = (k : Int)) (hk : k < n) : ¬ (j < 0 ∨ n ≤ j.toNatClampNeg) := by
  obtain ⟨q1, q2⟩ := nclamp hj; rw [q1]; rintro (z | z)
  · exact q2 z
  · omega
theorem len32 {n : Nat} (hn : n < 2147483648) : (n.toInt32).toInt = (n : Int) := len_toInt hn
theorem g_iloadN (X : Stand p l e R s m args below meth c T locs cells slots) (hx : p.tables.exec = Jvm.exec) {k : Fin 4} {v : Int32} (hd : decode c.code pc = .ok (.iload_n k, 1)) (hl : Ls[k.val]? = some (.val (.int v))) (hp : pc + 1 = pc')
    (k : OGoes p e s below Q n0 C N T (mkF m pc' Ls (.int v :: st))) : OGoes p e s below Q n0 C N T (mkF m pc Ls (st)) := by
  subst hp; exact k.go fun _ q => XS.iloadN X.here hx rfl hd hl q
theorem g_iload (X : Stand p l e R s m args below meth c T locs cells slots) (hx : p.tables.exec = Jvm.exec) {k : Nat} {v : Int32} (hd : decode c.code pc = .ok (.iload k, 2)) (hl : Ls[k]? = some (.val (.int v))) (hp : pc + 2 = pc')
    (k : OGoes p e s below Q n0 C N T (mkF m pc' Ls (.int v :: st))) : OGoes p e s below Q n0 C N T (mkF m pc Ls (st)) := by
  subst hp; exact k.go fun _ q => XS.iload X.here hx rfl hd hl q
theorem g_lloadN (X : Stand p l e R s m args below meth c T locs cells slots) (hx : p.tables.exec = Jvm.exec) {k : Fin 4} {v : Int64} (hd : decode c.code pc = .ok (.lload_n k, 1)) (hl : Ls[k.val]? = some (.val (.long v))) (hp : pc + 1 = pc')
    (k : OGoes p e s below Q n0 C N T (mkF m pc' Ls (.long v :: st))) : OGoes p e s below Q n0 C N T (mkF m pc Ls (st)) := by
  subst hp; exact k.go fun _ q => XT.lloadN X.here hx rfl hd hl q
theorem g_lload (X : Stand p l e R s m args below meth c T locs cells slots) (hx : p.tables.exec = Jvm.exec) {k : Nat} {v : Int64} (hd : decode c.code pc = .ok (.lload k, 2)) (hl : Ls[k]? = some (.val (.long v))) (hp : pc + 2 = pc')
    (k : OGoes p e s below Q n0 C N T (mkF m pc' Ls (.long v :: st))) : OGoes p e s below Q n0 C N T (mkF m pc Ls (st)) := by
  subst hp; exact k.go fun _ q => XT.lload X.here hx rfl hd hl q
theorem g_aloadN (X : Stand p l e R s m args below meth c T locs cells slots) (hx : p.tables.exec = Jvm.exec) {k : Fin 4} {v : Value} (hd : decode c.code pc = .ok (.aload_n k, 1)) (hl : Ls[k.val]? = some (.val v)) (hv : v.isRef = true) (hp : pc + 1 = pc')
    (k : OGoes p e s below Q n0 C N T (mkF m pc' Ls (v :: st))) : OGoes p e s below Q n0 C N T (mkF m pc Ls (st)) := by
  subst hp; exact k.go fun _ q => XS.aloadN X.here hx rfl hd hl hv q
theorem g_aload (X : Stand p l e R s m args below meth c T locs cells slots) (hx : p.tables.exec = Jvm.exec) {k : Nat} {v : Value} (hd : decode c.code pc = .ok (.aload k, 2)) (hl : Ls[k]? = some (.val v)) (hv : v.isRef = true) (hp : pc + 2 = pc')
    (k : OGoes p e s below Q n0 C N T (mkF m pc' Ls (v :: st))) : OGoes p e s below Q n0 C N T (mkF m pc Ls (st)) := by
  subst hp; exact k.go fun _ q => XS.aload X.here hx rfl hd hl hv q
theorem g_istoreN (X : Stand p l e R s m args below meth c T locs cells slots) (hx : p.tables.exec = Jvm.exec) {k : Fin 4} {x : Int32} (hd : decode c.code pc = .ok (.istore_n k, 1)) (hl : storeLocals Ls k.val (.int x) = some Ls') (hp : pc + 1 = pc')
    (k : OGoes p e s below Q n0 C N T (mkF m pc' Ls' (st))) : OGoes p e s below Q n0 C N T (mkF m pc Ls (.int x :: st)) := by
  subst hp; exact k.go fun _ q => XS.istoreN X.here hx rfl hd rfl hl q
theorem g_istore (X : Stand p l e R s m args below meth c T locs cells slots) (hx : p.tables.exec = Jvm.exec) {k : Nat} {x : Int32} (hd : decode c.code pc = .ok (.istore k, 2)) (hl : storeLocals Ls k (.int x) = some Ls') (hp : pc + 2 = pc')
    (k : OGoes p e s below Q n0 C N T (mkF m pc' Ls' (st))) : OGoes p e s below Q n0 C N T (mkF m pc Ls (.int x :: st)) := by
  subst hp; exact k.go fun _ q => XS.istore X.here hx rfl hd rfl hl q
theorem g_lstoreN (X : Stand p l e R s m args below meth c T locs cells slots) (hx : p.tables.exec = Jvm.exec) {k : Fin 4} {x : Int64} (hd : decode c.code pc = .ok (.lstore_n k, 1)) (hl : storeLocals Ls k.val (.long x) = some Ls') (hp : pc + 1 = pc')
    (k : OGoes p e s below Q n0 C N T (mkF m pc' Ls' (st))) : OGoes p e s below Q n0 C N T (mkF m pc Ls (.long x :: st)) := by
  subst hp; exact k.go fun _ q => XT.lstoreN X.here hx rfl hd rfl hl q
theorem g_lstore (X : Stand p l e R s m args below meth c T locs cells slots) (hx : p.tables.exec = Jvm.exec) {k : Nat} {x : Int64} (hd : decode c.code pc = .ok (.lstore k, 2)) (hl : storeLocals Ls k (.long x) = some Ls') (hp : pc + 2 = pc')
    (k : OGoes p e s below Q n0 C N T (mkF m pc' Ls' (st))) : OGoes p e s below Q n0 C N T (mkF m pc Ls (.long x :: st)) := by
  subst hp; exact k.go fun _ q => XT.lstore X.here hx rfl hd rfl hl q
theorem g_astoreN (X : Stand p l e R s m args below meth c T locs cells slots) (hx : p.tables.exec = Jvm.exec) {k : Fin 4} {x : Value} (hd : decode c.code pc = .ok (.astore_n k, 1)) (hv : x.isRef = true) (hl : storeLocals Ls k.val x = some Ls') (hp : pc + 1 = pc')
    (k : OGoes p e s below Q n0 C N T (mkF m pc' Ls' (st))) : OGoes p e s below Q n0 C N T (mkF m pc Ls (x :: st)) := by
  subst hp; exact k.go fun _ q => XS.astoreN X.here hx rfl hd rfl hv hl q
theorem g_astore (X : Stand p l e R s m args below meth c T locs cells slots) (hx : p.tables.exec = Jvm.exec) {k : Nat} {x : Value} (hd : decode c.code pc = .ok (.astore k, 2)) (hv : x.isRef = true) (hl : storeLocals Ls k x = some Ls') (hp : pc + 2 = pc')
    (k : OGoes p e s below Q n0 C N T (mkF m pc' Ls' (st))) : OGoes p e s below Q n0 C N T (mkF m pc Ls (x :: st)) := by
  subst hp; exact k.go fun _ q => XS.astore X.here hx rfl hd rfl hv hl q
theorem g_iinc (X : Stand p l e R s m args below meth c T locs cells slots) (hx : p.tables.exec = Jvm.exec) {k : Nat} {cst : Int} {x v : Int32} (hd : decode c.code pc = .ok (.iinc k cst, 3)) (hv : Int32.ofInt cst = v) (hl : Ls[k]? = some (.val (.int x))) (hl' : storeLocals Ls k (.int (x + v)) = some Ls') (hp : pc + 3 = pc')
    (k : OGoes p e s below Q n0 C N T (mkF m pc' Ls' (st))) : OGoes p e s below Q n0 C N T (mkF m pc Ls (st)) := by
  subst hp; exact k.go fun _ q => XT.iincV X.here hx rfl v hd hv hl hl' q
theorem g_iconst (X : Stand p l e R s m args below meth c T locs cells slots) (hx : p.tables.exec = Jvm.exec) {i : Int} {v : Int32} (hd : decode c.code pc = .ok (.iconst i, 1)) (hv : Int32.ofInt i = v) (hp : pc + 1 = pc')
    (k : OGoes p e s below Q n0 C N T (mkF m pc' Ls (.int v :: st))) : OGoes p e s below Q n0 C N T (mkF m pc Ls (st)) := by
  subst hp; exact k.go fun _ q => XT.iconstV X.here hx rfl v hd hv q
theorem g_bipush (X : Stand p l e R s m args below meth c T locs cells slots) (hx : p.tables.exec = Jvm.exec) {i : Int} {v : Int32} (hd : decode c.code pc = .ok (.bipush i, 2)) (hv : (Int8.ofInt i).toInt32 = v) (hp : pc + 2 = pc')
    (k : OGoes p e s below Q n0 C N T (mkF m pc' Ls (.int v :: st))) : OGoes p e s below Q n0 C N T (mkF m pc Ls (st)) := by
  subst hp; exact k.go fun _ q => XT.bipushV X.here hx rfl v hd hv q
theorem g_sipush (X : Stand p l e R s m args below meth c T locs cells slots) (hx : p.tables.exec = Jvm.exec) {i : Int} {v : Int32} (hd : decode c.code pc = .ok (.sipush i, 3)) (hv : (Int16.ofInt i).toInt32 = v) (hp : pc + 3 = pc')
    (k : OGoes p e s below Q n0 C N T (mkF m pc' Ls (.int v :: st))) : OGoes p e s below Q n0 C N T (mkF m pc Ls (st)) := by
  subst hp; exact k.go fun _ q => XT.sipushV X.here hx rfl v hd hv q
theorem g_lconst (X : Stand p l e R s m args below meth c T locs cells slots) (hx : p.tables.exec = Jvm.exec) {k : Fin 2} {v : Int64} (hd : decode c.code pc = .ok (.lconst k, 1)) (hv : Int64.ofNat k = v) (hp : pc + 1 = pc')
    (k : OGoes p e s below Q n0 C N T (mkF m pc' Ls (.long v :: st))) : OGoes p e s below Q n0 C N T (mkF m pc Ls (st)) := by
  subst hp; exact k.go fun _ q => XT.lconstV X.here hx rfl v hd hv q
theorem g_null (X : Stand p l e R s m args below meth c T locs cells slots) (hx : p.tables.exec = Jvm.exec)  (hd : decode c.code pc = .ok (.aconst_null, 1))  (hp : pc + 1 = pc')
    (k : OGoes p e s below Q n0 C N T (mkF m pc' Ls (.null :: st))) : OGoes p e s below Q n0 C N T (mkF m pc Ls (st)) := by
  subst hp; exact k.go fun _ q => XS.aconstNull X.here hx rfl hd q
theorem g_ldc (X : Stand p l e R s m args below meth c T locs cells slots) (hx : p.tables.exec = Jvm.exec) (hZ : Z.Warmed39 s.vm) {own : String} {i : Nat} (hown : s.vm.findClass own = some m.cls) {v : Int32} (hd : decode c.code pc = .ok (.ldc i, 2)) (w : (Cond.constant own i v).before a0 Z = true) (hp : pc + 2 = pc')
    (k : OGoes p e s below Q n0 C N T (mkF m pc' Ls (.int v :: st))) : OGoes p e s below Q n0 C N T (mkF m pc Ls (st)) := by
  subst hp; exact k.go fun _ q => X.ldcI hx hown (mvT hZ w) rfl hd q
theorem g_ldcW (X : Stand p l e R s m args below meth c T locs cells slots) (hx : p.tables.exec = Jvm.exec) (hZ : Z.Warmed39 s.vm) {own : String} {i : Nat} (hown : s.vm.findClass own = some m.cls) {v : Int32} (hd : decode c.code pc = .ok (.ldc_w i, 3)) (w : (Cond.constant own i v).before a0 Z = true) (hp : pc + 3 = pc')
    (k : OGoes p e s below Q n0 C N T (mkF m pc' Ls (.int v :: st))) : OGoes p e s below Q n0 C N T (mkF m pc Ls (st)) := by
  subst hp; exact k.go fun _ q => X.ldcWI hx hown (mvT hZ w) rfl hd q
theorem g_ldc2 (X : Stand p l e R s m args below meth c T locs cells slots) (hx : p.tables.exec = Jvm.exec) (hZ : Z.Warmed39 s.vm) {own : String} {i : Nat} (hown : s.vm.findClass own = some m.cls) {v : Int64} (hd : decode c.code pc = .ok (.ldc2_w i, 3)) (w : (Cond.constantLong own i v).before a0 Z = true) (hp : pc + 3 = pc')
    (k : OGoes p e s below Q n0 C N T (mkF m pc' Ls (.long v :: st))) : OGoes p e s below Q n0 C N T (mkF m pc Ls (st)) := by
  subst hp; exact k.go fun _ q => X.ldc2J hx hown (mvT hZ w) rfl hd q
theorem g_iadd (X : Stand p l e R s m args below meth c T locs cells slots) (hx : p.tables.exec = Jvm.exec) {x y : Int32} (hd : decode c.code pc = .ok (.iadd, 1))  (hp : pc + 1 = pc')
    (k : OGoes p e s below Q n0 C N T (mkF m pc' Ls (.int (x + y) :: st))) : OGoes p e s below Q n0 C N T (mkF m pc Ls (.int y :: .int x :: st)) := by
  subst hp; exact k.go fun _ q => XS.iadd X.here hx rfl hd rfl q
theorem g_isub (X : Stand p l e R s m args below meth c T locs cells slots) (hx : p.tables.exec = Jvm.exec) {x y : Int32} (hd : decode c.code pc = .ok (.isub, 1))  (hp : pc + 1 = pc')
    (k : OGoes p e s below Q n0 C N T (mkF m pc' Ls (.int (x - y) :: st))) : OGoes p e s below Q n0 C N T (mkF m pc Ls (.int y :: .int x :: st)) := by
  subst hp; exact k.go fun _ q => XS.isub X.here hx rfl hd rfl q
theorem g_iand (X : Stand p l e R s m args below meth c T locs cells slots) (hx : p.tables.exec = Jvm.exec) {x y : Int32} (hd : decode c.code pc = .ok (.iand, 1))  (hp : pc + 1 = pc')
    (k : OGoes p e s below Q n0 C N T (mkF m pc' Ls (.int (x &&& y) :: st))) : OGoes p e s below Q n0 C N T (mkF m pc Ls (.int y :: .int x :: st)) := by
  subst hp; exact k.go fun _ q => XS.iand X.here hx rfl hd rfl q
theorem g_imul (X : Stand p l e R s m args below meth c T locs cells slots) (hx : p.tables.exec = Jvm.exec) {x y : Int32} (hd : decode c.code pc = .ok (.imul, 1))  (hp : pc + 1 = pc')
    (k : OGoes p e s below Q n0 C N T (mkF m pc' Ls (.int (x * y) :: st))) : OGoes p e s below Q n0 C N T (mkF m pc Ls (.int y :: .int x :: st)) := by
  subst hp; exact k.go fun _ q => XS.imul X.here hx rfl hd rfl q
theorem g_ior (X : Stand p l e R s m args below meth c T locs cells slots) (hx : p.tables.exec = Jvm.exec) {x y : Int32} (hd : decode c.code pc = .ok (.ior, 1))  (hp : pc + 1 = pc')
    (k : OGoes p e s below Q n0 C N T (mkF m pc' Ls (.int (x ||| y) :: st))) : OGoes p e s below Q n0 C N T (mkF m pc Ls (.int y :: .int x :: st)) := by
  subst hp; exact k.go fun _ q => XT.ior X.here hx rfl hd rfl q
theorem g_ixor (X : Stand p l e R s m args below meth c T locs cells slots) (hx : p.tables.exec = Jvm.exec) {x y : Int32} (hd : decode c.code pc = .ok (.ixor, 1))  (hp : pc + 1 = pc')
    (k : OGoes p e s below Q n0 C N T (mkF m pc' Ls (.int (x ^^^ y) :: st))) : OGoes p e s below Q n0 C N T (mkF m pc Ls (.int y :: .int x :: st)) := by
  subst hp; exact k.go fun _ q => XT.ixor X.here hx rfl hd rfl q
theorem g_ishl (X : Stand p l e R s m args below meth c T locs cells slots) (hx : p.tables.exec = Jvm.exec) {x y : Int32} (hd : decode c.code pc = .ok (.ishl, 1))  (hp : pc + 1 = pc')
    (k : OGoes p e s below Q n0 C N T (mkF m pc' Ls (.int (x <<< (y &&& 31)) :: st))) : OGoes p e s below Q n0 C N T (mkF m pc Ls (.int y :: .int x :: st)) := by
  subst hp; exact k.go fun _ q => XT.ishl X.here hx rfl hd rfl q
theorem g_ishr (X : Stand p l e R s m args below meth c T locs cells slots) (hx : p.tables.exec = Jvm.exec) {x y : Int32} (hd : decode c.code pc = .ok (.ishr, 1))  (hp : pc + 1 = pc')
    (k : OGoes p e s below Q n0 C N T (mkF m pc' Ls (.int (x >>> (y &&& 31)) :: st))) : OGoes p e s below Q n0 C N T (mkF m pc Ls (.int y :: .int x :: st)) := by
  subst hp; exact k.go fun _ q => XT.ishr X.here hx rfl hd rfl q
theorem g_iushr (X : Stand p l e R s m args below meth c T locs cells slots) (hx : p.tables.exec = Jvm.exec) {x y : Int32} (hd : decode c.code pc = .ok (.iushr, 1))  (hp : pc + 1 = pc')
    (k : OGoes p e s below Q n0 C N T (mkF m pc' Ls (.int (XT.ushr x y) :: st))) : OGoes p e s below Q n0 C N T (mkF m pc Ls (.int y :: .int x :: st)) := by
  subst hp; exact k.go fun _ q => XT.iushr X.here hx rfl hd rfl q
theorem g_ineg (X : Stand p l e R s m args below meth c T locs cells slots) (hx : p.tables.exec = Jvm.exec) {x : Int32} (hd : decode c.code pc = .ok (.ineg, 1))  (hp : pc + 1 = pc')
    (k : OGoes p e s below Q n0 C N T (mkF m pc' Ls (.int (-x) :: st))) : OGoes p e s below Q n0 C N T (mkF m pc Ls (.int x :: st)) := by
  subst hp; exact k.go fun _ q => XS.ineg X.here hx rfl hd rfl q
theorem g_idiv (X : Stand p l e R s m args below meth c T locs cells slots) (hx : p.tables.exec = Jvm.exec) {x y : Int32} (hd : decode c.code pc = .ok (.idiv, 1)) (hy : y ≠ 0) (hp : pc + 1 = pc')
    (k : OGoes p e s below Q n0 C N T (mkF m pc' Ls (.int (x / y) :: st))) : OGoes p e s below Q n0 C N T (mkF m pc Ls (.int y :: .int x :: st)) := by
  subst hp; exact k.go fun _ q => XS.idiv X.here hx rfl hd rfl hy q
theorem g_irem (X : Stand p l e R s m args below meth c T locs cells slots) (hx : p.tables.exec = Jvm.exec) {x y : Int32} (hd : decode c.code pc = .ok (.irem, 1)) (hy : y ≠ 0) (hp : pc + 1 = pc')
    (k : OGoes p e s below Q n0 C N T (mkF m pc' Ls (.int (x % y) :: st))) : OGoes p e s below Q n0 C N T (mkF m pc Ls (.int y :: .int x :: st)) := by
  subst hp; exact k.go fun _ q => iremM X hx rfl hd rfl hy q
theorem g_ladd (X : Stand p l e R s m args below meth c T locs cells slots) (hx : p.tables.exec = Jvm.exec) {x y : Int64} (hd : decode c.code pc = .ok (.ladd, 1))  (hp : pc + 1 = pc')
    (k : OGoes p e s below Q n0 C N T (mkF m pc' Ls (.long (x + y) :: st))) : OGoes p e s below Q n0 C N T (mkF m pc Ls (.long y :: .long x :: st)) := by
  subst hp; exact k.go fun _ q => XT.ladd X.here hx rfl hd rfl q
theorem g_lsub (X : Stand p l e R s m args below meth c T locs cells slots) (hx : p.tables.exec = Jvm.exec) {x y : Int64} (hd : decode c.code pc = .ok (.lsub, 1))  (hp : pc + 1 = pc')
    (k : OGoes p e s below Q n0 C N T (mkF m pc' Ls (.long (x - y) :: st))) : OGoes p e s below Q n0 C N T (mkF m pc Ls (.long y :: .long x :: st)) := by
  subst hp; exact k.go fun _ q => XT.lsub X.here hx rfl hd rfl q
theorem g_lmul (X : Stand p l e R s m args below meth c T locs cells slots) (hx : p.tables.exec = Jvm.exec) {x y : Int64} (hd : decode c.code pc = .ok (.lmul, 1))  (hp : pc + 1 = pc')
    (k : OGoes p e s below Q n0 C N T (mkF m pc' Ls (.long (x * y) :: st))) : OGoes p e s below Q n0 C N T (mkF m pc Ls (.long y :: .long x :: st)) := by
  subst hp; exact k.go fun _ q => XT.lmul X.here hx rfl hd rfl q
theorem g_land (X : Stand p l e R s m args below meth c T locs cells slots) (hx : p.tables.exec = Jvm.exec) {x y : Int64} (hd : decode c.code pc = .ok (.land, 1))  (hp : pc + 1 = pc')
    (k : OGoes p e s below Q n0 C N T (mkF m pc' Ls (.long (x &&& y) :: st))) : OGoes p e s below Q n0 C N T (mkF m pc Ls (.long y :: .long x :: st)) := by
  subst hp; exact k.go fun _ q => XT.land X.here hx rfl hd rfl q
theorem g_lor (X : Stand p l e R s m args below meth c T locs cells slots) (hx : p.tables.exec = Jvm.exec) {x y : Int64} (hd : decode c.code pc = .ok (.lor, 1))  (hp : pc + 1 = pc')
    (k : OGoes p e s below Q n0 C N T (mkF m pc' Ls (.long (x ||| y) :: st))) : OGoes p e s below Q n0 C N T (mkF m pc Ls (.long y :: .long x :: st)) := by
  subst hp; exact k.go fun _ q => XT.lor X.here hx rfl hd rfl q
theorem g_lxor (X : Stand p l e R s m args below meth c T locs cells slots) (hx : p.tables.exec = Jvm.exec) {x y : Int64} (hd : decode c.code pc = .ok (.lxor, 1))  (hp : pc + 1 = pc')
    (k : OGoes p e s below Q n0 C N T (mkF m pc' Ls (.long (x ^^^ y) :: st))) : OGoes p e s below Q n0 C N T (mkF m pc Ls (.long y :: .long x :: st)) := by
  subst hp; exact k.go fun _ q => XT.lxor X.here hx rfl hd rfl q
theorem g_lshl (X : Stand p l e R s m args below meth c T locs cells slots) (hx : p.tables.exec = Jvm.exec) {x : Int64} {y : Int32} (hd : decode c.code pc = .ok (.lshl, 1))  (hp : pc + 1 = pc')
    (k : OGoes p e s below Q n0 C N T (mkF m pc' Ls (.long (x <<< (y.toInt64 &&& 63)) :: st))) : OGoes p e s below Q n0 C N T (mkF m pc Ls (.int y :: .long x :: st)) := by
  subst hp; exact k.go fun _ q => XT.lshl X.here hx rfl hd rfl q
theorem g_lshr (X : Stand p l e R s m args below meth c T locs cells slots) (hx : p.tables.exec = Jvm.exec) {x : Int64} {y : Int32} (hd : decode c.code pc = .ok (.lshr, 1))  (hp : pc + 1 = pc')
    (k : OGoes p e s below Q n0 C N T (mkF m pc' Ls (.long (x >>> (y.toInt64 &&& 63)) :: st))) : OGoes p e s below Q n0 C N T (mkF m pc Ls (.int y :: .long x :: st)) := by
  subst hp; exact k.go fun _ q => XT.lshr X.here hx rfl hd rfl q
theorem g_lushr (X : Stand p l e R s m args below meth c T locs cells slots) (hx : p.tables.exec = Jvm.exec) {x : Int64} {y : Int32} (hd : decode c.code pc = .ok (.lushr, 1))  (hp : pc + 1 = pc')
    (k : OGoes p e s below Q n0 C N T (mkF m pc' Ls (.long (XT.ushrL x y) :: st))) : OGoes p e s below Q n0 C N T (mkF m pc Ls (.int y :: .long x :: st)) := by
  subst hp; exact k.go fun _ q => XT.lushr X.here hx rfl hd rfl q
theorem g_ldiv (X : Stand p l e R s m args below meth c T locs cells slots) (hx : p.tables.exec = Jvm.exec) {x y : Int64} (hd : decode c.code pc = .ok (.ldiv, 1)) (hy : y ≠ 0) (hp : pc + 1 = pc')
    (k : OGoes p e s below Q n0 C N T (mkF m pc' Ls (.long (x / y) :: st))) : OGoes p e s below Q n0 C N T (mkF m pc Ls (.long y :: .long x :: st)) := by
  subst hp; exact k.go fun _ q => XT.ldiv X.here hx rfl hd rfl hy q
theorem g_lrem (X : Stand p l e R s m args below meth c T locs cells slots) (hx : p.tables.exec = Jvm.exec) {x y : Int64} (hd : decode c.code pc = .ok (.lrem, 1)) (hy : y ≠ 0) (hp : pc + 1 = pc')
    (k : OGoes p e s below Q n0 C N T (mkF m pc' Ls (.long (x - (x / y) * y) :: st))) : OGoes p e s below Q n0 C N T (mkF m pc Ls (.long y :: .long x :: st)) := by
  subst hp; exact k.go fun _ q => XT.lrem X.here hx rfl hd rfl hy q
theorem g_lneg (X : Stand p l e R s m args below meth c T locs cells slots) (hx : p.tables.exec = Jvm.exec) {x : Int64} (hd : decode c.code pc = .ok (.lneg, 1))  (hp : pc + 1 = pc')
    (k : OGoes p e s below Q n0 C N T (mkF m pc' Ls (.long (-x) :: st))) : OGoes p e s below Q n0 C N T (mkF m pc Ls (.long x :: st)) := by
  subst hp; exact k.go fun _ q => XT.lneg X.here hx rfl hd rfl q
theorem g_i2l (X : Stand p l e R s m args below meth c T locs cells slots) (hx : p.tables.exec = Jvm.exec) {x : Int32} (hd : decode c.code pc = .ok (.i2l, 1))  (hp : pc + 1 = pc')
    (k : OGoes p e s below Q n0 C N T (mkF m pc' Ls (.long x.toInt64 :: st))) : OGoes p e s below Q n0 C N T (mkF m pc Ls (.int x :: st)) := by
  subst hp; exact k.go fun _ q => XT.i2l X.here hx rfl hd rfl q
theorem g_l2i (X : Stand p l e R s m args below meth c T locs cells slots) (hx : p.tables.exec = Jvm.exec) {x : Int64} (hd : decode c.code pc = .ok (.l2i, 1))  (hp : pc + 1 = pc')
    (k : OGoes p e s below Q n0 C N T (mkF m pc' Ls (.int x.toInt32 :: st))) : OGoes p e s below Q n0 C N T (mkF m pc Ls (.long x :: st)) := by
  subst hp; exact k.go fun _ q => XT.l2i X.here hx rfl hd rfl q
theorem g_i2b (X : Stand p l e R s m args below meth c T locs cells slots) (hx : p.tables.exec = Jvm.exec) {x : Int32} (hd : decode c.code pc = .ok (.i2b, 1))  (hp : pc + 1 = pc')
    (k : OGoes p e s below Q n0 C N T (mkF m pc' Ls (.int x.toInt8.toInt32 :: st))) : OGoes p e s below Q n0 C N T (mkF m pc Ls (.int x :: st)) := by
  subst hp; exact k.go fun _ q => XT.i2b X.here hx rfl hd rfl q
theorem g_dup (X : Stand p l e R s m args below meth c T locs cells slots) (hx : p.tables.exec = Jvm.exec) {v : Value} (hd : decode c.code pc = .ok (.dup, 1)) (hc : v.category = 1) (hp : pc + 1 = pc')
    (k : OGoes p e s below Q n0 C N T (mkF m pc' Ls (v :: v :: st))) : OGoes p e s below Q n0 C N T (mkF m pc Ls (v :: st)) := by
  subst hp; exact k.go fun _ q => XS.dup X.here hx rfl hd rfl hc q
theorem g_pop (X : Stand p l e R s m args below meth c T locs cells slots) (hx : p.tables.exec = Jvm.exec) {v : Value} (hd : decode c.code pc = .ok (.pop, 1)) (hc : v.category = 1) (hp : pc + 1 = pc')
    (k : OGoes p e s below Q n0 C N T (mkF m pc' Ls (st))) : OGoes p e s below Q n0 C N T (mkF m pc Ls (v :: st)) := by
  subst hp; exact k.go fun _ q => XT.pop X.here hx rfl hd rfl hc q
theorem g_dupX1 (X : Stand p l e R s m args below meth c T locs cells slots) (hx : p.tables.exec = Jvm.exec) {v w : Value} (hd : decode c.code pc = .ok (.dup_x1, 1)) (hc : v.category = 1) (hc' : w.category = 1) (hp : pc + 1 = pc')
    (k : OGoes p e s below Q n0 C N T (mkF m pc' Ls (v :: w :: v :: st))) : OGoes p e s below Q n0 C N T (mkF m pc Ls (v :: w :: st)) := by
  subst hp; exact k.go fun _ q => XT.dupX1 X.here hx rfl hd rfl hc hc' q
theorem g_dup2 (X : Stand p l e R s m args below meth c T locs cells slots) (hx : p.tables.exec = Jvm.exec) {v w : Value} (hd : decode c.code pc = .ok (.dup2, 1)) (hc : v.category = 1) (hc' : w.category = 1) (hp : pc + 1 = pc')
    (k : OGoes p e s below Q n0 C N T (mkF m pc' Ls (v :: w :: v :: w :: st))) : OGoes p e s below Q n0 C N T (mkF m pc Ls (v :: w :: st)) := by
  subst hp; exact k.go fun _ q => XT.dup2 X.here hx rfl hd rfl hc hc' q
theorem g_dup2L (X : Stand p l e R s m args below meth c T locs cells slots) (hx : p.tables.exec = Jvm.exec) {x : Int64} (hd : decode c.code pc = .ok (.dup2, 1))  (hp : pc + 1 = pc')
    (k : OGoes p e s below Q n0 C N T (mkF m pc' Ls (.long x :: .long x :: st))) : OGoes p e s below Q n0 C N T (mkF m pc Ls (.long x :: st)) := by
  subst hp; exact k.go fun _ q => XT.dup2L X.here hx rfl hd rfl q
theorem g_goto (X : Stand p l e R s m args below meth c T locs cells slots) (hx : p.tables.exec = Jvm.exec) {o : Int} (hd : decode c.code pc = .ok (.goto o, 3)) (ho : 0 ≤ (pc : Int) + o) (hp : ((pc : Int) + o).toNat = pc')
    (k : OGoes p e s below Q n0 C N T (mkF m pc' Ls st)) : OGoes p e s below Q n0 C N T (mkF m pc Ls st) := k.go fun _ q => XS.goto X.here hx rfl rfl hd ho hp q
theorem g_ii_eq (X : Stand p l e R s m args below meth c T locs cells slots) (hx : p.tables.exec = Jvm.exec) {o : Int} {x y : Int32} {a b : Int} (ha : x.toInt = a) (hb : y.toInt = b) (hd : decode c.code pc = .ok (.if_icmp .eq o, 3)) (ho : 0 ≤ (pc : Int) + o) (hp : ((pc : Int) + o).toNat = pc') {pc2 : Nat} (hp2 : pc + 3 = pc2)
    (kt : a = b → OGoes p e s below Q n0 C N T (mkF m pc' Ls st)) (kf : ¬ a = b → OGoes p e s below Q n0 C N T (mkF m pc2 Ls st)) : OGoes p e s below Q n0 C N T (mkF m pc Ls (.int y :: .int x :: st)) := by
  subst ha hb hp2
  have hw : x = y ↔ x.toInt = y.toInt := Int32.toInt_inj.symm
  by_cases hq : x = y
  · exact (kt (hw.mp hq)).go fun _ q => XS.icmpYes X.here hx rfl rfl hd rfl (XT.ii_eq_t hq) ho hp q
  · exact (kf fun z => hq (hw.mpr z)).go fun _ q => XS.icmpNo X.here hx rfl hd rfl (XT.ii_eq_f hq) q
theorem g_ll_eq (X : Stand p l e R s m args below meth c T locs cells slots) (hx : p.tables.exec = Jvm.exec) {o : Int} {x y : Int64} {a b : Int} (ha : x.toInt = a) (hb : y.toInt = b) (hd1 : decode c.code pc = .ok (.lcmp, 1)) {pc1 : Nat} (hp1 : pc + 1 = pc1) (hd : decode c.code pc1 = .ok (.ifCond .eq o, 3)) (ho : 0 ≤ (pc1 : Int) + o) (hp : ((pc1 : Int) + o).toNat = pc') {pc2 : Nat} (hp2 : pc1 + 3 = pc2)
    (kt : a = b → OGoes p e s below Q n0 C N T (mkF m pc' Ls st)) (kf : ¬ a = b → OGoes p e s below Q n0 C N T (mkF m pc2 Ls st)) : OGoes p e s below Q n0 C N T (mkF m pc Ls (.long y :: .long x :: st)) := by
  subst ha hb hp1 hp2
  refine OGoes.go (g' := mkF m (pc + 1) Ls (.int (XT.cmpL x y) :: st)) (fun _ q => XT.lcmp X.here hx rfl hd1 rfl q) ?_
  have hw : x = y ↔ x.toInt = y.toInt := Int64.toInt_inj.symm
  by_cases hq : x = y
  · exact (kt (hw.mp hq)).go fun _ q => XS.ifYes X.here hx rfl rfl hd rfl (XT.ll_eq_t hq) ho hp q
  · exact (kf fun z => hq (hw.mpr z)).go fun _ q => XS.ifNo X.here hx rfl hd rfl (XT.ll_eq_f hq) q
theorem g_i0_eq (X : Stand p l e R s m args below meth c T locs cells slots) (hx : p.tables.exec = Jvm.exec) {o : Int} {x : Int32} {a : Int} (ha : x.toInt = a) (hd : decode c.code pc = .ok (.ifCond .eq o, 3)) (ho : 0 ≤ (pc : Int) + o) (hp : ((pc : Int) + o).toNat = pc') {pc2 : Nat} (hp2 : pc + 3 = pc2)
    (kt : a = 0 → OGoes p e s below Q n0 C N T (mkF m pc' Ls st)) (kf : ¬ a = 0 → OGoes p e s below Q n0 C N T (mkF m pc2 Ls st)) : OGoes p e s below Q n0 C N T (mkF m pc Ls (.int x :: st)) := by
  subst ha hp2
  have hw : x = 0 ↔ x.toInt = 0 := ⟨fun z => by rw [z]; rfl, fun z => Int32.toInt_inj.mp (z.trans rfl)⟩
  by_cases hq : x = 0
  · exact (kt (hw.mp hq)).go fun _ q => XS.ifYes X.here hx rfl rfl hd rfl (XT.i0_eq_t hq) ho hp q
  · exact (kf fun z => hq (hw.mpr z)).go fun _ q => XS.ifNo X.here hx rfl hd rfl (XT.i0_eq_f hq) q
theorem g_ii_ne (X : Stand p l e R s m args below meth c T locs cells slots) (hx : p.tables.exec = Jvm.exec) {o : Int} {x y : Int32} {a b : Int} (ha : x.toInt = a) (hb : y.toInt = b) (hd : decode c.code pc = .ok (.if_icmp .ne o, 3)) (ho : 0 ≤ (pc : Int) + o) (hp : ((pc : Int) + o).toNat = pc') {pc2 : Nat} (hp2 : pc + 3 = pc2)
    (kt : ¬ a = b → OGoes p e s below Q n0 C N T (mkF m pc' Ls st)) (kf : a = b → OGoes p e s below Q n0 C N T (mkF m pc2 Ls st)) : OGoes p e s below Q n0 C N T (mkF m pc Ls (.int y :: .int x :: st)) := by
  subst ha hb hp2
  have hw : x = y ↔ x.toInt = y.toInt := Int32.toInt_inj.symm
  by_cases hq : x = y
  · exact (kf (hw.mp hq)).go fun _ q => XS.icmpNo X.here hx rfl hd rfl (XT.ii_ne_f hq) q
  · exact (kt fun z => hq (hw.mpr z)).go fun _ q => XS.icmpYes X.here hx rfl rfl hd rfl (XT.ii_ne_t hq) ho hp q
theorem g_ll_ne (X : Stand p l e R s m args below meth c T locs cells slots) (hx : p.tables.exec = Jvm.exec) {o : Int} {x y : Int64} {a b : Int} (ha : x.toInt = a) (hb : y.toInt = b) (hd1 : decode c.code pc = .ok (.lcmp, 1)) {pc1 : Nat} (hp1 : pc + 1 = pc1) (hd : decode c.code pc1 = .ok (.ifCond .ne o, 3)) (ho : 0 ≤ (pc1 : Int) + o) (hp : ((pc1 : Int) + o).toNat = pc') {pc2 : Nat} (hp2 : pc1 + 3 = pc2)
    (kt : ¬ a = b → OGoes p e s below Q n0 C N T (mkF m pc' Ls st)) (kf : a = b → OGoes p e s below Q n0 C N T (mkF m pc2 Ls st)) : OGoes p e s below Q n0 C N T (mkF m pc Ls (.long y :: .long x :: st)) := by
  subst ha hb hp1 hp2
  refine OGoes.go (g' := mkF m (pc + 1) Ls (.int (XT.cmpL x y) :: st)) (fun _ q => XT.lcmp X.here hx rfl hd1 rfl q) ?_
  have hw : x = y ↔ x.toInt = y.toInt := Int64.toInt_inj.symm
  by_cases hq : x = y
  · exact (kf (hw.mp hq)).go fun _ q => XS.ifNo X.here hx rfl hd rfl (XT.ll_ne_f hq) q
  · exact (kt fun z => hq (hw.mpr z)).go fun _ q => XS.ifYes X.here hx rfl rfl hd rfl (XT.ll_ne_t hq) ho hp q
theorem g_i0_ne (X : Stand p l e R s m args below meth c T locs cells slots) (hx : p.tables.exec = Jvm.exec) {o : Int} {x : Int32} {a : Int} (ha : x.toInt = a) (hd : decode c.code pc = .ok (.ifCond .ne o, 3)) (ho : 0 ≤ (pc : Int) + o) (hp : ((pc : Int) + o).toNat = pc') {pc2 : Nat} (hp2 : pc + 3 = pc2)
    (kt : ¬ a = 0 → OGoes p e s below Q n0 C N T (mkF m pc' Ls st)) (kf : a = 0 → OGoes p e s below Q n0 C N T (mkF m pc2 Ls st)) : OGoes p e s below Q n0 C N T (mkF m pc Ls (.int x :: st)) := by
  subst ha hp2
  have hw : x = 0 ↔ x.toInt = 0 := ⟨fun z => by rw [z]; rfl, fun z => Int32.toInt_inj.mp (z.trans rfl)⟩
  by_cases hq : x = 0
  · exact (kf (hw.mp hq)).go fun _ q => XS.ifNo X.here hx rfl hd rfl (XT.i0_ne_f hq) q
  · exact (kt fun z => hq (hw.mpr z)).go fun _ q => XS.ifYes X.here hx rfl rfl hd rfl (XT.i0_ne_t hq) ho hp q
theorem g_ii_lt (X : Stand p l e R s m args below meth c T locs cells slots) (hx : p.tables.exec = Jvm.exec) {o : Int} {x y : Int32} {a b : Int} (ha : x.toInt = a) (hb : y.toInt = b) (hd : decode c.code pc = .ok (.if_icmp .lt o, 3)) (ho : 0 ≤ (pc : Int) + o) (hp : ((pc : Int) + o).toNat = pc') {pc2 : Nat} (hp2 : pc + 3 = pc2)
    (kt : a < b → OGoes p e s below Q n0 C N T (mkF m pc' Ls st)) (kf : ¬ a < b → OGoes p e s below Q n0 C N T (mkF m pc2 Ls st)) : OGoes p e s below Q n0 C N T (mkF m pc Ls (.int y :: .int x :: st)) := by
  subst ha hb hp2
  have hw : x < y ↔ x.toInt < y.toInt := Int32.lt_iff_toInt_lt
  by_cases hq : x < y
  · exact (kt (hw.mp hq)).go fun _ q => XS.icmpYes X.here hx rfl rfl hd rfl (XT.ii_lt_t hq) ho hp q
  · exact (kf fun z => hq (hw.mpr z)).go fun _ q => XS.icmpNo X.here hx rfl hd rfl (XT.ii_lt_f hq) q
theorem g_ll_lt (X : Stand p l e R s m args below meth c T locs cells slots) (hx : p.tables.exec = Jvm.exec) {o : Int} {x y : Int64} {a b : Int} (ha : x.toInt = a) (hb : y.toInt = b) (hd1 : decode c.code pc = .ok (.lcmp, 1)) {pc1 : Nat} (hp1 : pc + 1 = pc1) (hd : decode c.code pc1 = .ok (.ifCond .lt o, 3)) (ho : 0 ≤ (pc1 : Int) + o) (hp : ((pc1 : Int) + o).toNat = pc') {pc2 : Nat} (hp2 : pc1 + 3 = pc2)
    (kt : a < b → OGoes p e s below Q n0 C N T (mkF m pc' Ls st)) (kf : ¬ a < b → OGoes p e s below Q n0 C N T (mkF m pc2 Ls st)) : OGoes p e s below Q n0 C N T (mkF m pc Ls (.long y :: .long x :: st)) := by
  subst ha hb hp1 hp2
  refine OGoes.go (g' := mkF m (pc + 1) Ls (.int (XT.cmpL x y) :: st)) (fun _ q => XT.lcmp X.here hx rfl hd1 rfl q) ?_
  have hw : x < y ↔ x.toInt < y.toInt := Int64.lt_iff_toInt_lt
  by_cases hq : x < y
  · exact (kt (hw.mp hq)).go fun _ q => XS.ifYes X.here hx rfl rfl hd rfl (XT.ll_lt_t hq) ho hp q
  · exact (kf fun z => hq (hw.mpr z)).go fun _ q => XS.ifNo X.here hx rfl hd rfl (XT.ll_lt_f hq) q
theorem g_i0_lt (X : Stand p l e R s m args below meth c T locs cells slots) (hx : p.tables.exec = Jvm.exec) {o : Int} {x : Int32} {a : Int} (ha : x.toInt = a) (hd : decode c.code pc = .ok (.ifCond .lt o, 3)) (ho : 0 ≤ (pc : Int) + o) (hp : ((pc : Int) + o).toNat = pc') {pc2 : Nat} (hp2 : pc + 3 = pc2)
    (kt : a < 0 → OGoes p e s below Q n0 C N T (mkF m pc' Ls st)) (kf : ¬ a < 0 → OGoes p e s below Q n0 C N T (mkF m pc2 Ls st)) : OGoes p e s below Q n0 C N T (mkF m pc Ls (.int x :: st)) := by
  subst ha hp2
  have hw : x < 0 ↔ x.toInt < 0 := Int32.lt_iff_toInt_lt
  by_cases hq : x < 0
  · exact (kt (hw.mp hq)).go fun _ q => XS.ifYes X.here hx rfl rfl hd rfl (XT.i0_lt_t hq) ho hp q
  · exact (kf fun z => hq (hw.mpr z)).go fun _ q => XS.ifNo X.here hx rfl hd rfl (XT.i0_lt_f hq) q
theorem g_ii_ge (X : Stand p l e R s m args below meth c T locs cells slots) (hx : p.tables.exec = Jvm.exec) {o : Int} {x y : Int32} {a b : Int} (ha : x.toInt = a) (hb : y.toInt = b) (hd : decode c.code pc = .ok (.if_icmp .ge o, 3)) (ho : 0 ≤ (pc : Int) + o) (hp : ((pc : Int) + o).toNat = pc') {pc2 : Nat} (hp2 : pc + 3 = pc2)
    (kt : ¬ a < b → OGoes p e s below Q n0 C N T (mkF m pc' Ls st)) (kf : a < b → OGoes p e s below Q n0 C N T (mkF m pc2 Ls st)) : OGoes p e s below Q n0 C N T (mkF m pc Ls (.int y :: .int x :: st)) := by
  subst ha hb hp2
  have hw : x < y ↔ x.toInt < y.toInt := Int32.lt_iff_toInt_lt
  by_cases hq : x < y
  · exact (kf (hw.mp hq)).go fun _ q => XS.icmpNo X.here hx rfl hd rfl (XT.ii_ge_f hq) q
  · exact (kt fun z => hq (hw.mpr z)).go fun _ q => XS.icmpYes X.here hx rfl rfl hd rfl (XT.ii_ge_t hq) ho hp q
theorem g_ll_ge (X : Stand p l e R s m args below meth c T locs cells slots) (hx : p.tables.exec = Jvm.exec) {o : Int} {x y : Int64} {a b : Int} (ha : x.toInt = a) (hb : y.toInt = b) (hd1 : decode c.code pc = .ok (.lcmp, 1)) {pc1 : Nat} (hp1 : pc + 1 = pc1) (hd : decode c.code pc1 = .ok (.ifCond .ge o, 3)) (ho : 0 ≤ (pc1 : Int) + o) (hp : ((pc1 : Int) + o).toNat = pc') {pc2 : Nat} (hp2 : pc1 + 3 = pc2)
    (kt : ¬ a < b → OGoes p e s below Q n0 C N T (mkF m pc' Ls st)) (kf : a < b → OGoes p e s below Q n0 C N T (mkF m pc2 Ls st)) : OGoes p e s below Q n0 C N T (mkF m pc Ls (.long y :: .long x :: st)) := by
  subst ha hb hp1 hp2
  refine OGoes.go (g' := mkF m (pc + 1) Ls (.int (XT.cmpL x y) :: st)) (fun _ q => XT.lcmp X.here hx rfl hd1 rfl q) ?_
  have hw : x < y ↔ x.toInt < y.toInt := Int64.lt_iff_toInt_lt
  by_cases hq : x < y
  · exact (kf (hw.mp hq)).go fun _ q => XS.ifNo X.here hx rfl hd rfl (XT.ll_ge_f hq) q
  · exact (kt fun z => hq (hw.mpr z)).go fun _ q => XS.ifYes X.here hx rfl rfl hd rfl (XT.ll_ge_t hq) ho hp q
theorem g_i0_ge (X : Stand p l e R s m args below meth c T locs cells slots) (hx : p.tables.exec = Jvm.exec) {o : Int} {x : Int32} {a : Int} (ha : x.toInt = a) (hd : decode c.code pc = .ok (.ifCond .ge o, 3)) (ho : 0 ≤ (pc : Int) + o) (hp : ((pc : Int) + o).toNat = pc') {pc2 : Nat} (hp2 : pc + 3 = pc2)
    (kt : ¬ a < 0 → OGoes p e s below Q n0 C N T (mkF m pc' Ls st)) (kf : a < 0 → OGoes p e s below Q n0 C N T (mkF m pc2 Ls st)) : OGoes p e s below Q n0 C N T (mkF m pc Ls (.int x :: st)) := by
  subst ha hp2
  have hw : x < 0 ↔ x.toInt < 0 := Int32.lt_iff_toInt_lt
  by_cases hq : x < 0
  · exact (kf (hw.mp hq)).go fun _ q => XS.ifNo X.here hx rfl hd rfl (XT.i0_ge_f hq) q
  · exact (kt fun z => hq (hw.mpr z)).go fun _ q => XS.ifYes X.here hx rfl rfl hd rfl (XT.i0_ge_t hq) ho hp q
theorem g_ii_gt (X : Stand p l e R s m args below meth c T locs cells slots) (hx : p.tables.exec = Jvm.exec) {o : Int} {x y : Int32} {a b : Int} (ha : x.toInt = a) (hb : y.toInt = b) (hd : decode c.code pc = .ok (.if_icmp .gt o, 3)) (ho : 0 ≤ (pc : Int) + o) (hp : ((pc : Int) + o).toNat = pc') {pc2 : Nat} (hp2 : pc + 3 = pc2)
    (kt : b < a → OGoes p e s below Q n0 C N T (mkF m pc' Ls st)) (kf : ¬ b < a → OGoes p e s below Q n0 C N T (mkF m pc2 Ls st)) : OGoes p e s below Q n0 C N T (mkF m pc Ls (.int y :: .int x :: st)) := by
  subst ha hb hp2
  have hw : y < x ↔ y.toInt < x.toInt := Int32.lt_iff_toInt_lt
  by_cases hq : y < x
  · exact (kt (hw.mp hq)).go fun _ q => XS.icmpYes X.here hx rfl rfl hd rfl (XT.ii_gt_t hq) ho hp q
  · exact (kf fun z => hq (hw.mpr z)).go fun _ q => XS.icmpNo X.here hx rfl hd rfl (XT.ii_gt_f hq) q
theorem g_ll_gt (X : Stand p l e R s m args below meth c T locs cells slots) (hx : p.tables.exec = Jvm.exec) {o : Int} {x y : Int64} {a b : Int} (ha : x.toInt = a) (hb : y.toInt = b) (hd1 : decode c.code pc = .ok (.lcmp, 1)) {pc1 : Nat} (hp1 : pc + 1 = pc1) (hd : decode c.code pc1 = .ok (.ifCond .gt o, 3)) (ho : 0 ≤ (pc1 : Int) + o) (hp : ((pc1 : Int) + o).toNat = pc') {pc2 : Nat} (hp2 : pc1 + 3 = pc2)
    (kt : b < a → OGoes p e s below Q n0 C N T (mkF m pc' Ls st)) (kf : ¬ b < a → OGoes p e s below Q n0 C N T (mkF m pc2 Ls st)) : OGoes p e s below Q n0 C N T (mkF m pc Ls (.long y :: .long x :: st)) := by
  subst ha hb hp1 hp2
  refine OGoes.go (g' := mkF m (pc + 1) Ls (.int (XT.cmpL x y) :: st)) (fun _ q => XT.lcmp X.here hx rfl hd1 rfl q) ?_
  have hw : y < x ↔ y.toInt < x.toInt := Int64.lt_iff_toInt_lt
  by_cases hq : y < x
  · exact (kt (hw.mp hq)).go fun _ q => XS.ifYes X.here hx rfl rfl hd rfl (XT.ll_gt_t hq) ho hp q
  · exact (kf fun z => hq (hw.mpr z)).go fun _ q => XS.ifNo X.here hx rfl hd rfl (XT.ll_gt_f hq) q
theorem g_i0_gt (X : Stand p l e R s m args below meth c T locs cells slots) (hx : p.tables.exec = Jvm.exec) {o : Int} {x : Int32} {a : Int} (ha : x.toInt = a) (hd : decode c.code pc = .ok (.ifCond .gt o, 3)) (ho : 0 ≤ (pc : Int) + o) (hp : ((pc : Int) + o).toNat = pc') {pc2 : Nat} (hp2 : pc + 3 = pc2)
    (kt : 0 < a → OGoes p e s below Q n0 C N T (mkF m pc' Ls st)) (kf : ¬ 0 < a → OGoes p e s below Q n0 C N T (mkF m pc2 Ls st)) : OGoes p e s below Q n0 C N T (mkF m pc Ls (.int x :: st)) := by
  subst ha hp2
  have hw : 0 < x ↔ 0 < x.toInt := Int32.lt_iff_toInt_lt
  by_cases hq : 0 < x
  · exact (kt (hw.mp hq)).go fun _ q => XS.ifYes X.here hx rfl rfl hd rfl (XT.i0_gt_t hq) ho hp q
  · exact (kf fun z => hq (hw.mpr z)).go fun _ q => XS.ifNo X.here hx rfl hd rfl (XT.i0_gt_f hq) q
theorem g_ii_le (X : Stand p l e R s m args below meth c T locs cells slots) (hx : p.tables.exec = Jvm.exec) {o : Int} {x y : Int32} {a b : Int} (ha : x.toInt = a) (hb : y.toInt = b) (hd : decode c.code pc = .ok (.if_icmp .le o, 3)) (ho : 0 ≤ (pc : Int) + o) (hp : ((pc : Int) + o).toNat = pc') {pc2 : Nat} (hp2 : pc + 3 = pc2)
    (kt : ¬ b < a → OGoes p e s below Q n0 C N T (mkF m pc' Ls st)) (kf : b < a → OGoes p e s below Q n0 C N T (mkF m pc2 Ls st)) : OGoes p e s below Q n0 C N T (mkF m pc Ls (.int y :: .int x :: st)) := by
  subst ha hb hp2
  have hw : y < x ↔ y.toInt < x.toInt := Int32.lt_iff_toInt_lt
  by_cases hq : y < x
  · exact (kf (hw.mp hq)).go fun _ q => XS.icmpNo X.here hx rfl hd rfl (XT.ii_le_f hq) q
  · exact (kt fun z => hq (hw.mpr z)).go fun _ q => XS.icmpYes X.here hx rfl rfl hd rfl (XT.ii_le_t hq) ho hp q
theorem g_ll_le (X : Stand p l e R s m args below meth c T locs cells slots) (hx : p.tables.exec = Jvm.exec) {o : Int} {x y : Int64} {a b : Int} (ha : x.toInt = a) (hb : y.toInt = b) (hd1 : decode c.code pc = .ok (.lcmp, 1)) {pc1 : Nat} (hp1 : pc + 1 = pc1) (hd : decode c.code pc1 = .ok (.ifCond .le o, 3)) (ho : 0 ≤ (pc1 : Int) + o) (hp : ((pc1 : Int) + o).toNat = pc') {pc2 : Nat} (hp2 : pc1 + 3 = pc2)
    (kt : ¬ b < a → OGoes p e s below Q n0 C N T (mkF m pc' Ls st)) (kf : b < a → OGoes p e s below Q n0 C N T (mkF m pc2 Ls st)) : OGoes p e s below Q n0 C N T (mkF m pc Ls (.long y :: .long x :: st)) := by
  subst ha hb hp1 hp2
  refine OGoes.go (g' := mkF m (pc + 1) Ls (.int (XT.cmpL x y) :: st)) (fun _ q => XT.lcmp X.here hx rfl hd1 rfl q) ?_
  have hw : y < x ↔ y.toInt < x.toInt := Int64.lt_iff_toInt_lt
  by_cases hq : y < x
  · exact (kf (hw.mp hq)).go fun _ q => XS.ifNo X.here hx rfl hd rfl (XT.ll_le_f hq) q
  · exact (kt fun z => hq (hw.mpr z)).go fun _ q => XS.ifYes X.here hx rfl rfl hd rfl (XT.ll_le_t hq) ho hp q
theorem g_i0_le (X : Stand p l e R s m args below meth c T locs cells slots) (hx : p.tables.exec = Jvm.exec) {o : Int} {x : Int32} {a : Int} (ha : x.toInt = a) (hd : decode c.code pc = .ok (.ifCond .le o, 3)) (ho : 0 ≤ (pc : Int) + o) (hp : ((pc : Int) + o).toNat = pc') {pc2 : Nat} (hp2 : pc + 3 = pc2)
    (kt : ¬ 0 < a → OGoes p e s below Q n0 C N T (mkF m pc' Ls st)) (kf : 0 < a → OGoes p e s below Q n0 C N T (mkF m pc2 Ls st)) : OGoes p e s below Q n0 C N T (mkF m pc Ls (.int x :: st)) := by
  subst ha hp2
  have hw : 0 < x ↔ 0 < x.toInt := Int32.lt_iff_toInt_lt
  by_cases hq : 0 < x
  · exact (kf (hw.mp hq)).go fun _ q => XS.ifNo X.here hx rfl hd rfl (XT.i0_le_f hq) q
  · exact (kt fun z => hq (hw.mpr z)).go fun _ q => XS.ifYes X.here hx rfl rfl hd rfl (XT.i0_le_t hq) ho hp q
theorem g_ifnullYes (X : Stand p l e R s m args below meth c T locs cells slots) (hx : p.tables.exec = Jvm.exec) {o : Int} (hd : decode c.code pc = .ok (.ifnull o, 3)) (ho : 0 ≤ (pc : Int) + o) (hp : ((pc : Int) + o).toNat = pc')
    (k : OGoes p e s below Q n0 C N T (mkF m pc' Ls st)) : OGoes p e s below Q n0 C N T (mkF m pc Ls (.null :: st)) := k.go fun _ q => XS.ifnullYes X.here hx rfl rfl hd rfl ho hp q
theorem g_ifnullNo (X : Stand p l e R s m args below meth c T locs cells slots) (hx : p.tables.exec = Jvm.exec) {o : Int} {b : Addr} (hd : decode c.code pc = .ok (.ifnull o, 3)) (hp : pc + 3 = pc')
    (k : OGoes p e s below Q n0 C N T (mkF m pc' Ls st)) : OGoes p e s below Q n0 C N T (mkF m pc Ls (.ref b :: st)) := by
  subst hp; exact k.go fun _ q => XS.ifnullNo X.here hx rfl hd rfl q
theorem g_ifnonnullYes (X : Stand p l e R s m args below meth c T locs cells slots) (hx : p.tables.exec = Jvm.exec) {o : Int} {b : Addr} (hd : decode c.code pc = .ok (.ifnonnull o, 3)) (ho : 0 ≤ (pc : Int) + o) (hp : ((pc : Int) + o).toNat = pc')
    (k : OGoes p e s below Q n0 C N T (mkF m pc' Ls st)) : OGoes p e s below Q n0 C N T (mkF m pc Ls (.ref b :: st)) := k.go fun _ q => XT.ifnonnullYes X.here hx rfl rfl hd rfl ho hp q
theorem IA.lt {h : Heap} {a n : Nat} {f : Nat → Int32} (F : IA Z h a n f) : a < h.size := by obtain ⟨_, c, A, -⟩ := F; exact A.lt
theorem IA.ext {h h' : Heap} {a n : Nat} {f : Nat → Int32} (F : IA Z h a n f) (E : Ext h h') : IA Z h' a n f := by obtain ⟨q, c, A, r⟩ := F; exact ⟨q, c, A.ext E, r⟩
theorem IA.keep {h h' : Heap} {a n : Nat} {f : Nat → Int32} {ws : List Addr} (F : IA Z h a n f) (K : Keep h h' ws) (q : a ∉ ws) : IA Z h' a n f := by obtain ⟨q', c, A, r⟩ := F; exact ⟨q', c, ⟨K.2.1 a c A.1 q, A.2⟩, r⟩
theorem IA.other {h h' : Heap} {a b n sl : Nat} {f : Nat → Int32} {v : Value} (F : IA Z h b n f) (W : Wr h h' a sl v) (q : b ≠ a) : IA Z h' b n f := by obtain ⟨q', c, A, r⟩ := F; exact ⟨q', c, A.other W q, r⟩
theorem IA.congr {h : Heap} {a n : Nat} {f f' : Nat → Int32} (F : IA Z h a n f) (q : ∀ i, i < n → f i = f' i) : IA Z h a n f' := by obtain ⟨q', c, A, r, s⟩ := F; exact ⟨q', c, A, r, fun i hi => by rw [← q i hi]; exact s i hi⟩
theorem g_iaload (X : Stand p l e R s m args below meth c T locs cells slots) (hx : p.tables.exec = Jvm.exec) (hZ : Z.Warmed39 s.vm) (eT : T.heap = h) {a n k : Nat} {f : Nat → Int32} {j : Int32} (F : IA Z h a n f) (hj : j.toInt = (k : Int)) (hk : k < n) (hd : decode c.code pc = .ok (.iaload, 1)) (hp : pc + 1 = pc')
    (kk : OGoes p e s below Q n0 C N T (mkF m pc' Ls (.int (f k) :: st))) : OGoes p e s below Q n0 C N T (mkF m pc Ls (.int j :: .ref a :: st)) := by
  subst hp; obtain ⟨-, cl, A, S, H⟩ := F
  exact kk.go fun t q => X.iaload hx (by rw [eT]; exact A.1) (State.isArrayOf_alike hZ.alike A.2.1) A.2.2 (by rw [S]; exact nin hj hk) (by rw [(nclamp hj).1]; exact H k hk) (g := mkF m pc Ls (.int j :: .ref a :: st)) rfl rfl hd t q
theorem g_lenIA (X : Stand p l e R s m args below meth c T locs cells slots) (hx : p.tables.exec = Jvm.exec) (hZ : Z.Warmed39 s.vm) (eT : T.heap = h) {a n : Nat} {f : Nat → Int32} {z : Int32} (F : IA Z h a n f) (hz : z.toInt = (n : Int)) (hd : decode c.code pc = .ok (.arraylength, 1)) (hp : pc + 1 = pc')
    (kk : OGoes p e s below Q n0 C N T (mkF m pc' Ls (.int z :: st))) : OGoes p e s below Q n0 C N T (mkF m pc Ls (.ref a :: st)) := by
  subst hp; obtain ⟨hn, cl, A, S, H⟩ := F
  have hzz : z = cl.slots.size.toInt32 := Int32.toInt_inj.mp (by rw [S, hz, len32 hn])
  subst hzz
  exact kk.go fun t q => X.arraylength hx (by rw [eT]; exact A.1) (State.isArrayOf_alike hZ.alike A.2.1) (g := mkF m pc Ls (.ref a :: st)) rfl rfl hd t q
theorem g_iastore (X : Stand p l e R s m args below meth c T locs cells slots) (hx : p.tables.exec = Jvm.exec) (hZ : Z.Warmed39 s.vm) (eT : T.heap = h) {a n k : Nat} {f : Nat → Int32} {j : Int32} {x : Int32} (F : IA Z h a n f) (hj : j.toInt = (k : Int)) (hk : k < n) (hN : Fr n0 locs) (ha : n0 ≤ a) (hd : decode c.code pc = .ok (.iastore, 1)) (hp : pc + 1 = pc')
    (kk : ∀ T' h' locs', Stand p l e R s m args below meth c T' locs' cells slots → T'.heap = h' → Wr h h' a k (.int x) → Fr n0 locs' → IA Z h' a n (oupd f k x) → OGoes p e s below Q n0 C N T' (mkF m pc' Ls st)) : OGoes p e s below Q n0 C N T (mkF m pc Ls (.int x :: .int j :: .ref a :: st)) := by
  subst hp; obtain ⟨hn, cl, A, S, H⟩ := F
  obtain ⟨T', h', X', e', W', st'⟩ := stI X hx hZ eT A (j := j) (x := x) (by rw [S]; exact nin hj hk) (g := mkF m pc Ls (.int x :: .int j :: .ref a :: st)) rfl rfl hd
  rw [(nclamp hj).1] at W' X'
  refine (kk T' h' _ X' e' W' (Fr.snoc X' hN ha) ⟨hn, _, A.same W', by rw [sz_set]; exact S, fun i hi => ?_⟩).go st'
  by_cases q : i = k
  · subst q; simp [Cell.setSlot, oupd, S, hi]
  · have := H i hi
    simp only [Cell.setSlot, oupd, q, if_false]
    rw [Array.getElem?_setIfInBounds_ne (fun z => q z.symm)]; exact this
theorem g_newIA (X : Stand p l e R s m args below meth c T locs cells slots) (hx : p.tables.exec = Jvm.exec) (hZ : Z.Warmed39 s.vm) (w : (Cond.arrayClass .int).before a0 Z = true) (eT : T.heap = h) {z : Int32} {n : Nat} (hz : z.toInt = (n : Int)) {cap : Nat} (hcap : n ≤ cap) (hb : cap * 8 ≤ 536870912) (hd : decode c.code pc = .ok (.newarray .int, 2)) (hc : cells + 1 ≤ R.cells) (hl : slots + cap ≤ R.slots) (hp : pc + 2 = pc')
    (kk : ∀ T' h' a, a = h.size → Stand p l e R s m args below meth c T' locs (cells + 1) (slots + cap) → T'.heap = h' → Ext h h' → a < h'.size → IA Z h' a n zeroI → OGoes p e s below Q n0 C N T' (mkF m pc' Ls (.ref a :: st))) : OGoes p e s below Q n0 C N T (mkF m pc Ls (.int z :: st)) := by
  subst hp
  obtain ⟨q1, q2⟩ := nclamp hz
  obtain ⟨T', h', cA, X', e', E', A', st'⟩ := newP X hx hZ (aty := .int) w eT (g := mkF m pc Ls (.int z :: st)) rfl hd (n := z) rfl q2 (cap := cap) (by rw [q1]; exact hcap) hb hc hl
  refine (kk T' h' h.size rfl X' e' E' A'.lt ⟨?_, _, A', by rw [sz_new, q1], fun i hi => ?_⟩).go st'
  · have := z.toInt_lt; omega
  · simp only [newA, q1]; simp [hi]; rfl
theorem LA.lt {h : Heap} {a n : Nat} {f : Nat → Int64} (F : LA Z h a n f) : a < h.size := by obtain ⟨_, c, A, -⟩ := F; exact A.lt
theorem LA.ext {h h' : Heap} {a n : Nat} {f : Nat → Int64} (F : LA Z h a n f) (E : Ext h h') : LA Z h' a n f := by obtain ⟨q, c, A, r⟩ := F; exact ⟨q, c, A.ext E, r⟩
theorem LA.keep {h h' : Heap} {a n : Nat} {f : Nat → Int64} {ws : List Addr} (F : LA Z h a n f) (K : Keep h h' ws) (q : a ∉ ws) : LA Z h' a n f := by obtain ⟨q', c, A, r⟩ := F; exact ⟨q', c, ⟨K.2.1 a c A.1 q, A.2⟩, r⟩
theorem LA.other {h h' : Heap} {a b n sl : Nat} {f : Nat → Int64} {v : Value} (F : LA Z h b n f) (W : Wr h h' a sl v) (q : b ≠ a) : LA Z h' b n f := by obtain ⟨q', c, A, r⟩ := F; exact ⟨q', c, A.other W q, r⟩
theorem LA.congr {h : Heap} {a n : Nat} {f f' : Nat → Int64} (F : LA Z h a n f) (q : ∀ i, i < n → f i = f' i) : LA Z h a n f' := by obtain ⟨q', c, A, r, s⟩ := F; exact ⟨q', c, A, r, fun i hi => by rw [← q i hi]; exact s i hi⟩
theorem g_laload (X : Stand p l e R s m args below meth c T locs cells slots) (hx : p.tables.exec = Jvm.exec) (hZ : Z.Warmed39 s.vm) (eT : T.heap = h) {a n k : Nat} {f : Nat → Int64} {j : Int32} (F : LA Z h a n f) (hj : j.toInt = (k : Int)) (hk : k < n) (hd : decode c.code pc = .ok (.laload, 1)) (hp : pc + 1 = pc')
    (kk : OGoes p e s below Q n0 C N T (mkF m pc' Ls (.long (f k) :: st))) : OGoes p e s below Q n0 C N T (mkF m pc Ls (.int j :: .ref a :: st)) := by
  subst hp; obtain ⟨-, cl, A, S, H⟩ := F
  exact kk.go fun t q => X.laload hx (by rw [eT]; exact A.1) (State.isArrayOf_alike hZ.alike A.2.1) A.2.2 (by rw [S]; exact nin hj hk) (by rw [(nclamp hj).1]; exact H k hk) (g := mkF m pc Ls (.int j :: .ref a :: st)) rfl rfl hd t q
theorem g_lenLA (X : Stand p l e R s m args below meth c T locs cells slots) (hx : p.tables.exec = Jvm.exec) (hZ : Z.Warmed39 s.vm) (eT : T.heap = h) {a n : Nat} {f : Nat → Int64} {z : Int32} (F : LA Z h a n f) (hz : z.toInt = (n : Int)) (hd : decode c.code pc = .ok (.arraylength, 1)) (hp : pc + 1 = pc')
    (kk : OGoes p e s below Q n0 C N T (mkF m pc' Ls (.int z :: st))) : OGoes p e s below Q n0 C N T (mkF m pc Ls (.ref a :: st)) := by
  subst hp; obtain ⟨hn, cl, A, S, H⟩ := F
  have hzz : z = cl.slots.size.toInt32 := Int32.toInt_inj.mp (by rw [S, hz, len32 hn])
  subst hzz
  exact kk.go fun t q => X.arraylength hx (by rw [eT]; exact A.1) (State.isArrayOf_alike hZ.alike A.2.1) (g := mkF m pc Ls (.ref a :: st)) rfl rfl hd t q
theorem g_lastore (X : Stand p l e R s m args below meth c T locs cells slots) (hx : p.tables.exec = Jvm.exec) (hZ : Z.Warmed39 s.vm) (eT : T.heap = h) {a n k : Nat} {f : Nat → Int64} {j : Int32} {x : Int64} (F : LA Z h a n f) (hj : j.toInt = (k : Int)) (hk : k < n) (hN : Fr n0 locs) (ha : n0 ≤ a) (hd : decode c.code pc = .ok (.lastore, 1)) (hp : pc + 1 = pc')
    (kk : ∀ T' h' locs', Stand p l e R s m args below meth c T' locs' cells slots → T'.heap = h' → Wr h h' a k (.long x) → Fr n0 locs' → LA Z h' a n (oupd f k x) → OGoes p e s below Q n0 C N T' (mkF m pc' Ls st)) : OGoes p e s below Q n0 C N T (mkF m pc Ls (.long x :: .int j :: .ref a :: st)) := by
  subst hp; obtain ⟨hn, cl, A, S, H⟩ := F
  obtain ⟨T', h', X', e', W', st'⟩ := stJ X hx hZ eT A (j := j) (x := x) (by rw [S]; exact nin hj hk) (g := mkF m pc Ls (.long x :: .int j :: .ref a :: st)) rfl rfl hd
  rw [(nclamp hj).1] at W' X'
  refine (kk T' h' _ X' e' W' (Fr.snoc X' hN ha) ⟨hn, _, A.same W', by rw [sz_set]; exact S, fun i hi => ?_⟩).go st'
  by_cases q : i = k
  · subst q; simp [Cell.setSlot, oupd, S, hi]
  · have := H i hi
    simp only [Cell.setSlot, oupd, q, if_false]
    rw [Array.getElem?_setIfInBounds_ne (fun z => q z.symm)]; exact this
theorem g_newLA (X : Stand p l e R s m args below meth c T locs cells slots) (hx : p.tables.exec = Jvm.exec) (hZ : Z.Warmed39 s.vm) (w : (Cond.arrayClass .long).before a0 Z = true) (eT : T.heap = h) {z : Int32} {n : Nat} (hz : z.toInt = (n : Int)) {cap : Nat} (hcap : n ≤ cap) (hb : cap * 8 ≤ 536870912) (hd : decode c.code pc = .ok (.newarray .long, 2)) (hc : cells + 1 ≤ R.cells) (hl : slots + cap ≤ R.slots) (hp : pc + 2 = pc')
    (kk : ∀ T' h' a, a = h.size → Stand p l e R s m args below meth c T' locs (cells + 1) (slots + cap) → T'.heap = h' → Ext h h' → a < h'.size → LA Z h' a n zeroL → OGoes p e s below Q n0 C N T' (mkF m pc' Ls (.ref a :: st))) : OGoes p e s below Q n0 C N T (mkF m pc Ls (.int z :: st)) := by
  subst hp
  obtain ⟨q1, q2⟩ := nclamp hz
  obtain ⟨T', h', cA, X', e', E', A', st'⟩ := newP X hx hZ (aty := .long) w eT (g := mkF m pc Ls (.int z :: st)) rfl hd (n := z) rfl q2 (cap := cap) (by rw [q1]; exact hcap) hb hc hl
  refine (kk T' h' h.size rfl X' e' E' A'.lt ⟨?_, _, A', by rw [sz_new, q1], fun i hi => ?_⟩).go st'
  · have := z.toInt_lt; omega
  · simp only [newA, q1]; simp [hi]; rfl
theorem g_private (X : Stand p l e R s m args below meth c T locs cells slots) (hx : p.tables.exec = Jvm.exec) (hZ : Z.Warmed39 s.vm) {own K : String} {i kn : Nat} {y : MethodName} {bytes : ByteArray} {maxL : Nat} {ret : Option FieldType} (hown : s.vm.findClass own = some m.cls) (w1 : (Cond.methodLink own i y).before a0 Z = true) (w2 : (Cond.instanceMethod y).before a0 Z = true) (w5 : (Cond.privateMethod y).before a0 Z = true) (wi : (Cond.instantiable y.cls kn).before a0 Z = true) (w3 : (Cond.initialized y.cls).before a0 Z = true) (w4 : (Cond.code y bytes maxL ret).before a0 Z = true) (hy : y.cls ≠ "java/lang/invoke/MethodHandle" ∧ y.cls ≠ "java/lang/invoke/VarHandle")
    {rm : Room} {a : Addr} {argsL : List Value} {as' : Array Value} {Qy : Option Value → Heap → Prop} (hM : Con l y bytes maxL ret [] rm Z as' h n0 Qy) (has : (.ref a :: argsL).toArray = as') (eT : T.heap = h) (E : Exa Z h a K) (hsz : Ls.size = c.maxLocals) {ps : List FieldType} {rt : Option FieldType} (pd : parseMethodDescriptor y.desc = some ⟨ps, rt⟩) (hlen : argsL.length = ps.length) {rest : List Value} (hst : st = argsL.reverse ++ .ref a :: rest) {W : Nat} (hW : (rest.map fun v => v.category).sum ≤ W)
    (hf : rm.frames + 1 ≤ R.frames) (hl : W + (maxL + 11) + rm.locals ≤ R.locals) (hc : cells + rm.cells ≤ R.cells) (hs : slots + rm.slots ≤ R.slots) (hN : Fr n0 locs) (hd : decode c.code pc = .ok (.invokevirtual i, 3)) (hp : pc + 3 = pc')
    (k : ∀ v T' locs', Stand p l e R s m args below meth c T' locs' (cells + rm.cells) (slots + rm.slots) → Fr n0 locs' → Qy v T'.heap → OGoes p e s below Q n0 C N T' (mkF m pc' Ls (v.toList ++ rest))) : OGoes p e s below Q n0 C N T (mkF m pc Ls st) := by
  subst hp has
  have v2 : (Cond.instanceMethod y).before args s = true := mvT hZ w2
  have v4 : (Cond.code y bytes maxL ret).before args s = true := mvT hZ w4
  have vi : (Cond.instantiable y.cls kn).before args s = true := mvT hZ wi
  obtain ⟨mk, methM, hnamed, hmethM, hstM, habM⟩ := Cond.instanceMethod_spec v2
  obtain ⟨methM', cM, hmethM', -, -, -, -, -, -, hsigM⟩ := Cond.code_spec hnamed v4
  cases hmethM.symm.trans hmethM'
  obtain ⟨c2, kP, i1, i2, -, i4, -⟩ := Cond.instantiable_spec vi
  have hcl : c2 = mk.cls := Option.some.inj (i1.symm.trans (findClass_of_methodNamed hnamed))
  subst hcl
  have hitf : kP.isInterface = false := (Bool.or_eq_false_iff.mp i4).1
  obtain ⟨cell, hcell, hobj⟩ := E.cell
  have hselP : selectMethod e.platform s.vm cell.cls mk = .method mk := selectMethod_private hmethM ((Cond.privateMethod_at (mvP hZ w5 (args := #[]))) mk methM hnamed hmethM)
  obtain ⟨vm₁, X₁, hstep₁⟩ := X.invokevirtual hx hown (mvT hZ w1) hnamed hmethM hstM i2 hitf hy (a := a) (cell := cell) (by rw [eT]; exact hcell) hobj hselP hmethM habM i2 hitf (g := mkF m pc Ls st) rfl (argsL := argsL) (rest := rest) (lenOf pd hlen _ hsigM) hst hd
  have hBK := backOf (p := p) (e := e) (below := below) (args := args) (len := 3) (W := W) (Q := fun v h L => Fr n0 L ∧ Qy v h) hM hZ w4 w3 hf hl
  obtain ⟨v, ⟨T', L', k', n'⟩, X', ⟨L, ⟨hNL, hQ⟩, q1, q2, q3⟩, hsteps⟩ := hBK m meth c ⟨T.setVm vm₁, locs, cells, slots⟩ (mkF m pc Ls rest) (.invokevirtual i) mk (.ref a :: argsL).toArray X₁ rfl hsz hd (by show 2 * 0 + (rest.map fun v => v.category).sum ≤ W; omega) (X₁.named hnamed) ⟨rfl, eT, hc, hs⟩
  dsimp only [Pt.U, Pt.locs, Pt.cells, Pt.slots] at X' q1 q2 q3 hsteps hQ
  subst q1 q2 q3
  exact (k v T' _ X' (Fr.app hN hNL) hQ).go fun _ z => (hstep₁ _ fun acts => by rw [doInvoke_state]; exact Steps.refl _).trans (hsteps.trans z)

/-! numbers -/
theorem all_succ {P : Nat → Prop} {i : Nat} (h : ∀ y, y < i → P y) (hi : P i) : ∀ y, y < i + 1 → P y := fun y hy => by
  by_cases q : y = i
  · exact q ▸ hi
  · exact h y (by omega)
theorem oupd_at {A : Type} (f : Nat → A) (j : Nat) (v : A) : oupd f j v j = v := by simp [oupd]
theorem oupd_ne {A : Type} (f : Nat → A) {i j : Nat} (v : A) (q : ¬ i = j) : oupd f j v i = f i := by simp [oupd, q]
theorem i32_of_nat (n : Nat) (hn : n < 2147483648) : (Int32.ofNat n).toInt = (n : Int) := by
  rw [Int32.toInt_ofNat']; have hsz : (Int32.size : Int) = 4294967296 := rfl; exact Int.bmod_eq_of_le (by omega) (by omega)
theorem i32_get {x : Int32} (h : 0 ≤ x.toInt) : ∃ n : Nat, x.toInt = (n : Int) ∧ n < 2147483648 := ⟨x.toInt.toNat, (Int.toNat_of_nonneg h).symm, by have := x.toInt_lt; omega⟩
theorem oupdI (f : Nat → Int32) (j i : Nat) (v : Int32) : i = j ∧ (oupd f j v i).toInt = v.toInt ∨ ¬ i = j ∧ (oupd f j v i).toInt = (f i).toInt := by
  by_cases q : i = j
  · exact Or.inl ⟨q, by simp [oupd, q]⟩
  · exact Or.inr ⟨q, by simp [oupd, q]⟩
theorem oupdL (f : Nat → Int64) (j i : Nat) (v : Int64) : i = j ∧ (oupd f j v i).toInt = v.toInt ∨ ¬ i = j ∧ (oupd f j v i).toInt = (f i).toInt := by
  by_cases q : i = j
  · exact Or.inl ⟨q, by simp [oupd, q]⟩
  · exact Or.inr ⟨q, by simp [oupd, q]⟩
end Laws
end Jvm.OwnKit

namespace Jvm.Pilot.@@N@@
open Jvm Jvm.ClassFile Sem Op Lib Jvm.Free Jvm.Stand Jvm.LawKit Jvm.RoadKit Bundle Jvm.OwnKit Jvm.Pilot.@@N@@.Jvm.D
theorem own_r0 {x p : Int32} {d : Int} (hx : x.toInt = d) (hd : 10 ≤ d) (h : 0 ≤ p.toInt ∧ p.toInt ≤ 2) : (x - p).toInt = d - p.toInt := by
  have q := c_isub x p
  have q1 := (x - p).toInt_lt
  have q2 := (x - p).le_toInt
  have q3 := x.toInt_lt
  rw [hx] at q; omega
theorem own_r3 (x p : Int32) (hx : 0 ≤ x.toInt ∧ x.toInt ≤ 8) (h : 0 ≤ p.toInt ∧ p.toInt ≤ 2) : (x + p).toInt = x.toInt + p.toInt := by
  have q := c_iadd x p
  have q1 := (x + p).toInt_lt
  have q2 := (x + p).le_toInt
  omega
theorem pd_0 : parseMethodDescriptor "(II)I" = some ⟨[.int, .int], some .int⟩ := by decide +kernel
theorem pd_1 : parseMethodDescriptor "(II)V" = some ⟨[.int, .int], none⟩ := by decide +kernel
theorem pd_2 : parseMethodDescriptor "(I)[I" = some ⟨[.int], some (.array .int)⟩ := by decide +kernel
theorem pd_3 : parseMethodDescriptor "([II)V" = some ⟨[(.array .int), .int], none⟩ := by decide +kernel
theorem pd_4 : parseMethodDescriptor "(I)I" = some ⟨[.int], some .int⟩ := by decide +kernel
theorem pd_5 : parseMethodDescriptor "([JI)V" = some ⟨[(.array .long), .int], none⟩ := by decide +kernel
theorem pd_6 : parseMethodDescriptor "(I)V" = some ⟨[.int], none⟩ := by decide +kernel
theorem pd_7 : parseMethodDescriptor "(J)I" = some ⟨[.long], some .int⟩ := by decide +kernel

/-- the place at which the search for a key begins -/
def own_hs (key : Int64) : Nat := ((key * (-7046029254386353131 : Int64)).toInt % 18446744073709551616 / 4294967296 % 16).toNat
/-- k is where the search for the key ends in the table f -/
def own_Slot (f : Nat → Int64) (key : Int64) (k : Nat) : Prop :=
  (key = 0 ∧ k = 16) ∨ (key ≠ 0 ∧ ∃ d, d < 16 ∧ k = (own_hs key + d) % 16 ∧ (f k = 0 ∨ f k = key) ∧ ∀ t, t < d → f ((own_hs key + t) % 16) ≠ 0 ∧ f ((own_hs key + t) % 16) ≠ key)
theorem own_Slot_lt {f : Nat → Int64} {key : Int64} {k : Nat} (h : own_Slot f key k) : k < 17 := by
  rcases h with ⟨-, h⟩ | ⟨-, d, -, h, -⟩ <;> omega
theorem own_Slot_new {f : Nat → Int64} {key : Int64} {k : Nat} (h : own_Slot f key k) : own_Slot (oupd f k key) key k := by
  rcases h with h | ⟨h0, d, hd, hk, -, ht⟩
  · exact Or.inl h
  · refine Or.inr ⟨h0, d, hd, hk, Or.inr (by simp [oupd]), fun t htd => ?_⟩
    have ne : ¬ (own_hs key + t) % 16 = k := by omega
    simp only [oupd, ne, if_false]; exact ht t htd
theorem own_Slot_other {f : Nat → Int64} {key key2 : Int64} {k k2 : Nat} (h : own_Slot f key k) (h2 : f k2 = 0) (hne : k2 ≠ k) : own_Slot (oupd f k2 key2) key k := by
  rcases h with h | ⟨h0, d, hd, hk, he, ht⟩
  · exact Or.inl h
  · refine Or.inr ⟨h0, d, hd, hk, ?_, fun t htd => ?_⟩
    · have ne : ¬ k = k2 := fun z => hne z.symm
      simp only [oupd, ne, if_false]; exact he
    · have ne : ¬ (own_hs key + t) % 16 = k2 := fun z => (ht t htd).1 (z ▸ h2)
      simp only [oupd, ne, if_false]; exact ht t htd
theorem own_Slot_first (key : Int64) : ∃ k, own_Slot zeroL key k := by
  by_cases h : key = 0
  · exact ⟨16, Or.inl ⟨h, rfl⟩⟩
  · exact ⟨(own_hs key + 0) % 16, Or.inr ⟨h, 0, by omega, rfl, Or.inl rfl, fun t ht => by omega⟩⟩
theorem own_Slot_second {k1 : Nat} {j1 j2 : Int64} (h1 : own_Slot zeroL j1 k1) (hne : j2 ≠ j1) : ∃ k, own_Slot (oupd zeroL k1 j1) j2 k ∧ k ≠ k1 ∧ oupd zeroL k1 j1 k = 0 := by
  by_cases h : j2 = 0
  · refine ⟨16, Or.inl ⟨h, rfl⟩, ?_, ?_⟩
    · rcases h1 with ⟨z, -⟩ | ⟨-, d, -, hk, -⟩
      · exact absurd (h.trans z.symm) hne
      · omega
    · rcases h1 with ⟨z, -⟩ | ⟨-, d, -, hk, -⟩
      · exact absurd (h.trans z.symm) hne
      · have : ¬ 16 = k1 := by omega
        simp [oupd, this, zeroL]
  · by_cases q : (own_hs j2 + 0) % 16 = k1
    · have hz : j1 ≠ 0 := by
        rcases h1 with ⟨-, z⟩ | ⟨z, -⟩
        · omega
        · exact z
      have n1 : ¬ (own_hs j2 + 1) % 16 = k1 := by omega
      refine ⟨(own_hs j2 + 1) % 16, Or.inr ⟨h, 1, by omega, rfl, Or.inl (by simp only [oupd, n1, if_false]; rfl), fun t ht => ?_⟩, n1, by simp only [oupd, n1, if_false]; rfl⟩
      have : t = 0 := by omega
      subst this
      simp only [oupd, q, if_true]; exact ⟨hz, fun z => hne z.symm⟩
    · exact ⟨(own_hs j2 + 0) % 16, Or.inr ⟨h, 0, by omega, rfl, Or.inl (by simp only [oupd, q, if_false]; rfl), fun t ht => by omega⟩, q, by simp only [oupd, q, if_false]; rfl⟩

theorem own_slot0 {f : Nat → Int64} {key : Int64} {k : Nat} (h : own_Slot f key k) (hz : key.toInt = 0) : (((17 : Int32) - (2 : Int32)) + (1 : Int32)).toInt = (k : Int) := by
  have z : key = 0 := Int64.toInt_inj.mp (hz.trans rfl)
  rcases h with ⟨-, q⟩ | ⟨q, -⟩
  · rw [q]; rfl
  · exact absurd z q
theorem own_ushr (x : Int64) : (XT.ushrL x 32).toInt = x.toInt % 18446744073709551616 / 4294967296 := by
  have e : ((32 : Int32).toInt64.toUInt64 &&& Int64.toUInt64 63) = ((32 : Int32) &&& 0x3f).toInt64.toUInt64 := by decide
  show ((x.toUInt64 >>> ((32 : Int32).toInt64.toUInt64 &&& Int64.toUInt64 63)).toInt64).toInt = _
  rw [e]
  exact c_lushr x 32 32 (by decide) (by decide)
theorem own_hs_eq (q1 : Int64) : ((XT.ushrL (q1 * (-7046029254386353131 : Int64)) (32 : Int32)).toInt32 &&& ((17 : Int32) - (2 : Int32))).toInt = ((own_hs q1 % 16 : Nat) : Int) := by
  have u := own_ushr (q1 * (-7046029254386353131 : Int64))
  unfold own_hs
  generalize q1 * (-7046029254386353131 : Int64) = x at u ⊢
  generalize XT.ushrL x 32 = y at u ⊢
  have m := c_mask y.toInt32 ((17 : Int32) - (2 : Int32)) 4 (by decide) (by decide)
  have c := c_l2i y
  rw [m]; omega
theorem d1_0 : decode jdk_29_method_69_code 0 = .ok (.iload_n 0, 1) := by decide +kernel
theorem d1_1 : decode jdk_29_method_69_code 1 = .ok (.iload_n 1, 1) := by decide +kernel
theorem d1_2 : decode jdk_29_method_69_code 2 = .ok (.if_icmp .gt 7, 3) := by decide +kernel
theorem d1_5 : decode jdk_29_method_69_code 5 = .ok (.iload_n 0, 1) := by decide +kernel
theorem d1_6 : decode jdk_29_method_69_code 6 = .ok (.goto 4, 3) := by decide +kernel
theorem d1_9 : decode jdk_29_method_69_code 9 = .ok (.iload_n 1, 1) := by decide +kernel
theorem d1_10 : decode jdk_29_method_69_code 10 = .ok (.ireturn, 1) := by decide +kernel
theorem pn_0 : plainFor (⟨"java/lang/Math", "min", "(II)I"⟩ : MethodName) = true := by first | exact plainFor_of_name (by first | (simp [plainName, overriddenIn]; done) | decide +kernel) | decide +kernel
def Q1 (Z : State) (p1 : Int32) (p2 : Int32) (h0 : Heap) (n0 : Nat) (v : Option Value) (h : Heap) : Prop := ∃ b : Int32, v = some (.int b) ∧ (p1.toInt ≤ p2.toInt ∧ b.toInt = p1.toInt ∨ p2.toInt < p1.toInt ∧ b.toInt = p2.toInt) ∧ h = h0
abbrev R1 : Room := { frames := 0, cells := 0, slots := 0, locals := 0 }
set_option maxRecDepth 65536 in
set_option maxHeartbeats 40000000 in
theorem rm1 (l : Launch) (Z : State) (a0 : Array Value) (hw : ∀ d ∈ tables_1, d.before a0 Z = true)  (p1 : Int32) (p2 : Int32) (h0 : Heap) (n0 : Nat) (Z0 : NLe n0 h0.size)  :
    Con l (⟨"java/lang/Math", "min", "(II)I"⟩ : MethodName) jdk_29_method_69_code 2 (some .int) [] R1 Z #[(.int p1), (.int p2)] h0 n0 (Q1 Z p1 p2 h0 n0) := by
  refine con_of (Ls0 := #[.val (.int p1), .val (.int p2)]) pn_0 (fun m => by first | (simp [entryFrame, mkF, argsToLocals, Value.category, maxLocals]; done) | rfl) ?_
  intro p e s m below meth c s₁ X0 hx hby hml hZ hown hnm hret hlk e0 N0
  show OGoes p e s below (Q1 Z p1 p2 h0 n0) n0 R1.cells R1.slots s₁ (mkF m 0 #[.val (.int p1), .val (.int p2)] [])
  refine g_iloadN X0 hx (hb hby d1_0) (v := p1) rfl (pc' := 1) rfl ?_
  refine g_iloadN X0 hx (hb hby d1_1) (v := p2) rfl (pc' := 2) rfl ?_
  refine g_ii_gt X0 hx (a := p1.toInt) (b := p2.toInt) rfl rfl (hb hby d1_2) (by decide) (pc' := 9) (by decide) (pc2 := 5) rfl (fun c1 => ?_) (fun c1 => ?_)
  · refine g_iloadN X0 hx (hb hby d1_9) (v := p2) rfl (pc' := 10) rfl ?_
    refine g_retI X0 hx hlk hret (hb hby d1_10) N0 (by decide) (by decide) ?_
    exact ⟨_, rfl, by omega, e0⟩
  · refine g_iloadN X0 hx (hb hby d1_5) (v := p1) rfl (pc' := 6) rfl ?_
    refine g_goto X0 hx (hb hby d1_6) (by decide) (pc' := 10) (by decide) ?_
    refine g_retI X0 hx hlk hret (hb hby d1_10) N0 (by decide) (by decide) ?_
    exact ⟨_, rfl, by omega, e0⟩
theorem d6_0 : decode prog_11_method_9_code 0 = .ok (.iload_n 0, 1) := by decide +kernel
theorem d6_1 : decode prog_11_method_9_code 1 = .ok (.iconst 4, 1) := by decide +kernel
theorem d6_2 : decode prog_11_method_9_code 2 = .ok (.idiv, 1) := by decide +kernel
theorem d6_3 : decode prog_11_method_9_code 3 = .ok (.iconst 3, 1) := by decide +kernel
theorem d6_4 : decode prog_11_method_9_code 4 = .ok (.imul, 1) := by decide +kernel
theorem d6_5 : decode prog_11_method_9_code 5 = .ok (.ireturn, 1) := by decide +kernel
theorem pn_1 : plainFor (⟨"com/example/positano/positano/Postings", "keysHeld", "(I)I"⟩ : MethodName) = true := by first | exact plainFor_of_name (by first | (simp [plainName, overriddenIn]; done) | decide +kernel) | decide +kernel
def Q2 (Z : State) (p1 : Int32) (h0 : Heap) (n0 : Nat) (v : Option Value) (h : Heap) : Prop := v = some (.int ((p1 / (4 : Int32)) * (3 : Int32))) ∧ h = h0
abbrev R2 : Room := { frames := 0, cells := 0, slots := 0, locals := 0 }
set_option maxRecDepth 65536 in
set_option maxHeartbeats 40000000 in
theorem rm2 (l : Launch) (Z : State) (a0 : Array Value) (hw : ∀ d ∈ tables_1, d.before a0 Z = true)  (p1 : Int32) (h0 : Heap) (n0 : Nat) (Z0 : NLe n0 h0.size)  :
    Con l (⟨"com/example/positano/positano/Postings", "keysHeld", "(I)I"⟩ : MethodName) prog_11_method_9_code 1 (some .int) [] R2 Z #[(.int p1)] h0 n0 (Q2 Z p1 h0 n0) := by
  refine con_of (Ls0 := #[.val (.int p1)]) pn_1 (fun m => by first | (simp [entryFrame, mkF, argsToLocals, Value.category, maxLocals]; done) | rfl) ?_
  intro p e s m below meth c s₁ X0 hx hby hml hZ hown hnm hret hlk e0 N0
  show OGoes p e s below (Q2 Z p1 h0 n0) n0 R2.cells R2.slots s₁ (mkF m 0 #[.val (.int p1)] [])
  refine g_iloadN X0 hx (hb hby d6_0) (v := p1) rfl (pc' := 1) rfl ?_
  refine g_iconst X0 hx (hb hby d6_1) (v := 4) (by decide) (pc' := 2) rfl ?_
  refine g_idiv X0 hx (hb hby d6_2) (by decide) (pc' := 3) rfl ?_
  refine g_iconst X0 hx (hb hby d6_3) (v := 3) (by decide) (pc' := 4) rfl ?_
  refine g_imul X0 hx (hb hby d6_4) (pc' := 5) rfl ?_
  refine g_retI X0 hx hlk hret (hb hby d6_5) N0 (by decide) (by decide) ?_
  exact ⟨rfl, e0⟩
theorem d10_0 : decode prog_11_method_7_code 0 = .ok (.bipush (-2), 2) := by decide +kernel
theorem d10_2 : decode prog_11_method_7_code 2 = .ok (.iload_n 0, 1) := by decide +kernel
theorem d10_3 : decode prog_11_method_7_code 3 = .ok (.isub, 1) := by decide +kernel
theorem d10_4 : decode prog_11_method_7_code 4 = .ok (.ireturn, 1) := by decide +kernel
theorem pn_2 : plainFor (⟨"com/example/positano/positano/Postings", "alone", "(I)I"⟩ : MethodName) = true := by first | exact plainFor_of_name (by first | (simp [plainName, overriddenIn]; done) | decide +kernel) | decide +kernel
def Q3 (Z : State) (p1 : Int32) (h0 : Heap) (n0 : Nat) (v : Option Value) (h : Heap) : Prop := v = some (.int ((-2 : Int32) - p1)) ∧ h = h0
abbrev R3 : Room := { frames := 0, cells := 0, slots := 0, locals := 0 }
set_option maxRecDepth 65536 in
set_option maxHeartbeats 40000000 in
theorem rm3 (l : Launch) (Z : State) (a0 : Array Value) (hw : ∀ d ∈ tables_1, d.before a0 Z = true)  (p1 : Int32) (h0 : Heap) (n0 : Nat) (Z0 : NLe n0 h0.size)  :
    Con l (⟨"com/example/positano/positano/Postings", "alone", "(I)I"⟩ : MethodName) prog_11_method_7_code 1 (some .int) [] R3 Z #[(.int p1)] h0 n0 (Q3 Z p1 h0 n0) := by
  refine con_of (Ls0 := #[.val (.int p1)]) pn_2 (fun m => by first | (simp [entryFrame, mkF, argsToLocals, Value.category, maxLocals]; done) | rfl) ?_
  intro p e s m below meth c s₁ X0 hx hby hml hZ hown hnm hret hlk e0 N0
  show OGoes p e s below (Q3 Z p1 h0 n0) n0 R3.cells R3.slots s₁ (mkF m 0 #[.val (.int p1)] [])
  refine g_bipush X0 hx (hb hby d10_0) (v := -2) (by decide) (pc' := 2) rfl ?_
  refine g_iloadN X0 hx (hb hby d10_2) (v := p1) rfl (pc' := 3) rfl ?_
  refine g_isub X0 hx (hb hby d10_3) (pc' := 4) rfl ?_
  refine g_retI X0 hx hlk hret (hb hby d10_4) N0 (by decide) (by decide) ?_
  exact ⟨rfl, e0⟩
def own_const (v : Int32) : Nat → Int32 := fun _ => v
theorem d5_0 : decode jdk_65_method_103_code 0 = .ok (.iconst 0, 1) := by decide +kernel
theorem d5_1 : decode jdk_65_method_103_code 1 = .ok (.istore_n 2, 1) := by decide +kernel
theorem d5_2 : decode jdk_65_method_103_code 2 = .ok (.aload_n 0, 1) := by decide +kernel
theorem d5_3 : decode jdk_65_method_103_code 3 = .ok (.arraylength, 1) := by decide +kernel
theorem d5_4 : decode jdk_65_method_103_code 4 = .ok (.istore_n 3, 1) := by decide +kernel
theorem d5_5 : decode jdk_65_method_103_code 5 = .ok (.iload_n 2, 1) := by decide +kernel
theorem d5_6 : decode jdk_65_method_103_code 6 = .ok (.iload_n 3, 1) := by decide +kernel
theorem d5_7 : decode jdk_65_method_103_code 7 = .ok (.if_icmp .ge 13, 3) := by decide +kernel
theorem d5_10 : decode jdk_65_method_103_code 10 = .ok (.aload_n 0, 1) := by decide +kernel
theorem d5_11 : decode jdk_65_method_103_code 11 = .ok (.iload_n 2, 1) := by decide +kernel
theorem d5_12 : decode jdk_65_method_103_code 12 = .ok (.iload_n 1, 1) := by decide +kernel
theorem d5_13 : decode jdk_65_method_103_code 13 = .ok (.iastore, 1) := by decide +kernel
theorem d5_14 : decode jdk_65_method_103_code 14 = .ok (.iinc 2 1, 3) := by decide +kernel
theorem d5_17 : decode jdk_65_method_103_code 17 = .ok (.goto (-12), 3) := by decide +kernel
theorem d5_20 : decode jdk_65_method_103_code 20 = .ok (.return_, 1) := by decide +kernel
theorem pn_3 : plainFor (⟨"java/util/Arrays", "fill", "([II)V"⟩ : MethodName) = true := by first | exact plainFor_of_name (by first | (simp [plainName, overriddenIn]; done) | decide +kernel) | decide +kernel
def Q4 (Z : State) (t : Addr) (p2 : Int32) (n : Nat) (f : Nat → Int32) (h0 : Heap) (n0 : Nat) (v : Option Value) (h : Heap) : Prop := v = none ∧ Keep h0 h [t] ∧ IA Z h t n (own_const p2)
abbrev R4 : Room := { frames := 0, cells := 0, slots := 0, locals := 0 }
set_option maxRecDepth 65536 in
set_option maxHeartbeats 40000000 in
theorem rm4 (l : Launch) (Z : State) (a0 : Array Value) (hw : ∀ d ∈ tables_1, d.before a0 Z = true)  (t : Addr) (p2 : Int32) (n : Nat) (f : Nat → Int32) (h0 : Heap) (n0 : Nat) (Z0 : NLe n0 h0.size) (Fp0 : IA Z h0 t n f) (gn_t : NLe n0 t) :
    Con l (⟨"java/util/Arrays", "fill", "([II)V"⟩ : MethodName) jdk_65_method_103_code 4 none [] R4 Z #[(.ref t), (.int p2)] h0 n0 (Q4 Z t p2 n f h0 n0) := by
  refine con_of (Ls0 := #[.val (.ref t), .val (.int p2), .unset, .unset]) pn_3 (fun m => by first | (simp [entryFrame, mkF, argsToLocals, Value.category, maxLocals]; done) | rfl) ?_
  intro p e s m below meth c s₁ X0 hx hby hml hZ hown hnm hret hlk e0 N0
  show OGoes p e s below (Q4 Z t p2 n f h0 n0) n0 R4.cells R4.slots s₁ (mkF m 0 #[.val (.ref t), .val (.int p2), .unset, .unset] [])
  have K0 : Keep h0 h0 [t] := Keep.refl _ _
  have hn := i32_of_nat n Fp0.1
  refine g_iconst X0 hx (hb hby d5_0) (v := 0) (by decide) (pc' := 1) rfl ?_
  refine g_istoreN X0 hx (hb hby d5_1) (Ls' := #[.val (.ref t), .val (.int p2), .val (.int (0 : Int32)), .unset]) rfl (pc' := 2) rfl ?_
  refine g_aloadN X0 hx (hb hby d5_2) (v := (.ref t)) rfl rfl (pc' := 3) rfl ?_
  refine g_lenIA X0 hx hZ e0 (z := (Int32.ofNat n)) Fp0 (i32_of_nat n Fp0.1) (hb hby d5_3) (pc' := 4) rfl ?_
  refine g_istoreN X0 hx (hb hby d5_4) (Ls' := #[.val (.ref t), .val (.int p2), .val (.int (0 : Int32)), .val (.int (Int32.ofNat n))]) rfl (pc' := 5) rfl ?_
  have loop : ∀ (k : Nat) (i : Nat) (j : Int32) (g : Nat → Int32) (Tl : State) (Ll : List Loc) (hl : Heap) , i + k = n → j.toInt = (i : Int) → (∀ y, y < i → g y = own_const p2 y) → Stand p l e R4 s m #[(.ref t), (.int p2)] below meth c Tl Ll 0 0 → Tl.heap = hl → Fr n0 Ll → NLe n0 hl.size → IA Z hl t n g → Keep h0 hl [t] → OGoes p e s below (Q4 Z t p2 n f h0 n0) n0 R4.cells R4.slots Tl (mkF m 5 #[.val (.ref t), .val (.int p2), .val (.int j), .val (.int (Int32.ofNat n))] []) := by
    intro k; induction k with
    | zero =>
      intro i j g Tl Ll hl hik hj hf Xl El Nl Zl Fl0 Kl
      refine g_iloadN Xl hx (hb hby d5_5) (v := j) rfl (pc' := 6) rfl ?_
      refine g_iloadN Xl hx (hb hby d5_6) (v := (Int32.ofNat n)) rfl (pc' := 7) rfl ?_
      refine g_ii_ge Xl hx (a := (i : Int)) (b := (n : Int)) hj hn (hb hby d5_7) (by decide) (pc' := 20) (by decide) (pc2 := 10) rfl (fun c1 => ?_) (fun c1 => False.elim (by omega))
      refine g_retV Xl hx hlk hret (hb hby d5_20) Nl (by decide) (by decide) ?_
      rw [El]
      exact ⟨rfl, Kl, (Fl0.congr fun y hy => hf y (by omega))⟩
    | succ k ih =>
      intro i j g Tl Ll hl hik hj hf Xl El Nl Zl Fl0 Kl
      refine g_iloadN Xl hx (hb hby d5_5) (v := j) rfl (pc' := 6) rfl ?_
      refine g_iloadN Xl hx (hb hby d5_6) (v := (Int32.ofNat n)) rfl (pc' := 7) rfl ?_
      refine g_ii_ge Xl hx (a := (i : Int)) (b := (n : Int)) hj hn (hb hby d5_7) (by decide) (pc' := 20) (by decide) (pc2 := 10) rfl (fun c2 => False.elim (by omega)) (fun c2 => ?_)
      refine g_aloadN Xl hx (hb hby d5_10) (v := (.ref t)) rfl rfl (pc' := 11) rfl ?_
      refine g_iloadN Xl hx (hb hby d5_11) (v := j) rfl (pc' := 12) rfl ?_
      refine g_iloadN Xl hx (hb hby d5_12) (v := p2) rfl (pc' := 13) rfl ?_
      refine g_iastore Xl hx hZ El (k := i) (x := p2) Fl0 hj (by omega) Nl gn_t (hb hby d5_13) (pc' := 14) rfl (fun T3 h4 L5 X6 e7 W8 N9 A10 => ?_)
      have K11 := Kl.wr W8 (Or.inl (by simp))
      have Z12 : NLe n0 h4.size := Zl.wr W8
      have ad := c_iadd j 1; have l1 : (1 : Int32).toInt = 1 := rfl; have t1 := (j + 1).toInt_lt; have t2 := (j + 1).le_toInt; have t3 := (Int32.ofNat n).toInt_lt
      refine g_iinc X6 hx (hb hby d5_14) (v := 1) (by decide) (x := j) rfl (Ls' := #[.val (.ref t), .val (.int p2), .val (.int (j + (1 : Int32))), .val (.int (Int32.ofNat n))]) rfl (pc' := 17) rfl ?_
      refine g_goto X6 hx (hb hby d5_17) (by decide) (pc' := 5) (by decide) ?_
      exact ih (i + 1) (j + (1 : Int32)) (oupd g i p2) _ _ _ (by omega) (by omega) (all_succ (P := fun y => oupd g i p2 y = own_const p2 y) (fun y hy => (oupd_ne g p2 (by omega)).trans (hf y hy)) (oupd_at g i p2)) X6 e7 N9 Z12 A10 K11
  exact loop n 0 (0 : Int32) f _ _ _ (by omega) rfl (fun y hy => absurd hy (by omega)) X0 e0 N0 Z0 Fp0 K0
theorem d4_0 : decode prog_11_method_12_code 0 = .ok (.iload_n 0, 1) := by decide +kernel
theorem d4_1 : decode prog_11_method_12_code 1 = .ok (.newarray .int, 2) := by decide +kernel
theorem d4_3 : decode prog_11_method_12_code 3 = .ok (.astore_n 1, 1) := by decide +kernel
theorem d4_4 : decode prog_11_method_12_code 4 = .ok (.aload_n 1, 1) := by decide +kernel
theorem d4_5 : decode prog_11_method_12_code 5 = .ok (.iconst (-1), 1) := by decide +kernel
theorem d4_6 : decode prog_11_method_12_code 6 = .ok (.invokestatic 97, 3) := by decide +kernel
theorem d4_9 : decode prog_11_method_12_code 9 = .ok (.aload_n 1, 1) := by decide +kernel
theorem d4_10 : decode prog_11_method_12_code 10 = .ok (.areturn, 1) := by decide +kernel
theorem pn_4 : plainFor (⟨"com/example/positano/positano/Postings", "emptyHeads", "(I)[I"⟩ : MethodName) = true := by first | exact plainFor_of_name (by first | (simp [plainName, overriddenIn]; done) | decide +kernel) | decide +kernel
def Q5 (Z : State)  (h0 : Heap) (n0 : Nat) (v : Option Value) (h : Heap) : Prop := ∃ t : Addr, v = some (.ref t) ∧ NLe h0.size t ∧ Keep h0 h [] ∧ IA Z h t 17 (own_const (-1 : Int32))
abbrev R5 : Room := { frames := 1, cells := 1, slots := 17, locals := 15 }
set_option maxRecDepth 65536 in
set_option maxHeartbeats 40000000 in
theorem rm5 (l : Launch) (Z : State) (a0 : Array Value) (hw : ∀ d ∈ tables_1, d.before a0 Z = true)   (h0 : Heap) (n0 : Nat) (Z0 : NLe n0 h0.size)  :
    Con l (⟨"com/example/positano/positano/Postings", "emptyHeads", "(I)[I"⟩ : MethodName) prog_11_method_12_code 2 (some (.array .int)) [] R5 Z #[(.int (17 : Int32))] h0 n0 (Q5 Z h0 n0) := by
  refine con_of (Ls0 := #[.val (.int (17 : Int32)), .unset]) pn_4 (fun m => by first | (simp [entryFrame, mkF, argsToLocals, Value.category, maxLocals]; done) | rfl) ?_
  intro p e s m below meth c s₁ X0 hx hby hml hZ hown hnm hret hlk e0 N0
  show OGoes p e s below (Q5 Z h0 n0) n0 R5.cells R5.slots s₁ (mkF m 0 #[.val (.int (17 : Int32)), .unset] [])
  have K0 : Keep h0 h0 [] := Keep.refl _ _
  refine g_iloadN X0 hx (hb hby d4_0) (v := (17 : Int32)) rfl (pc' := 1) rfl ?_
  refine g_newIA X0 hx hZ (hw _ (List.mem_of_getElem? (i := 22) rfl)) e0 (n := 17) rfl (cap := 17) (by decide) (by decide) (hb hby d4_1) (by decide) (by decide) (pc' := 3) rfl (fun T1 h2 a3 g4 X5 e6 E7 l8 A9  => ?_)
  have Z10 : NLe n0 h2.size := Z0.tr E7.1
  have nl11 : NLe n0 a3 := NLe.at g4 Z0
  have kf12 : NLe h0.size a3 := NLe.at g4 K0.1
  have K13 := K0.ext E7
  clear g4 l8
  refine g_astoreN X5 hx (hb hby d4_3) rfl (Ls' := #[.val (.int (17 : Int32)), .val (.ref a3)]) rfl (pc' := 4) rfl ?_
  refine g_aloadN X5 hx (hb hby d4_4) (v := (.ref a3)) rfl rfl (pc' := 5) rfl ?_
  refine g_iconst X5 hx (hb hby d4_5) (v := -1) (by decide) (pc' := 6) rfl ?_
  refine g_static X5 hx hZ hown (hw _ (List.mem_of_getElem? (i := 23) rfl)) (hw _ (List.mem_of_getElem? (i := 24) rfl)) (hw _ (List.mem_of_getElem? (i := 25) rfl)) (hw _ (List.mem_of_getElem? (i := 26) rfl)) (by decide) (argsL := [(.ref a3), (.int (-1 : Int32))]) (rm4 l Z a0 hw a3 (-1 : Int32) 17 zeroI h2 n0 Z10 A9 nl11) rfl e6 (by rw [hml]; rfl) pd_3 rfl (rest := []) rfl (W := 0) (Nat.le_of_eq rfl) (by decide) (by decide) (by decide) (by decide) N0 (hb hby d4_6) (pc' := 9) rfl (fun v14 T15 L16 X17 N18 q19 => ?_)
  obtain ⟨rfl, K20, F21⟩ := q19
  have lt22 : (-1 : Int32).toInt = -1 := rfl
  have Z23 : NLe n0 T15.heap.size := Z10.tr K20.1
  have K24 := K13.trans K20 (allS (Or.inr kf12) all0)
  show OGoes p e s below (Q5 Z h0 n0) n0 R5.cells R5.slots T15 (mkF m 9 #[.val (.int (17 : Int32)), .val (.ref a3)] [])
  refine g_aloadN X17 hx (hb hby d4_9) (v := (.ref a3)) rfl rfl (pc' := 10) rfl ?_
  refine g_retA X17 hx hlk hret rfl rfl rfl (hb hby d4_10) N18 (by decide) (by decide) ?_
  exact ⟨a3, rfl, kf12, K24, F21⟩
theorem d2_0 : decode prog_11_method_2_code 0 = .ok (.aload_n 0, 1) := by decide +kernel
theorem d2_1 : decode prog_11_method_2_code 1 = .ok (.invokespecial 11, 3) := by decide +kernel
theorem d2_4 : decode prog_11_method_2_code 4 = .ok (.aload_n 0, 1) := by decide +kernel
theorem d2_5 : decode prog_11_method_2_code 5 = .ok (.bipush 17, 2) := by decide +kernel
theorem d2_7 : decode prog_11_method_2_code 7 = .ok (.newarray .long, 2) := by decide +kernel
theorem d2_9 : decode prog_11_method_2_code 9 = .ok (.putfield 16, 3) := by decide +kernel
theorem d2_12 : decode prog_11_method_2_code 12 = .ok (.aload_n 0, 1) := by decide +kernel
theorem d2_13 : decode prog_11_method_2_code 13 = .ok (.bipush 17, 2) := by decide +kernel
theorem d2_15 : decode prog_11_method_2_code 15 = .ok (.invokestatic 20, 3) := by decide +kernel
theorem d2_18 : decode prog_11_method_2_code 18 = .ok (.putfield 24, 3) := by decide +kernel
theorem d2_21 : decode prog_11_method_2_code 21 = .ok (.aload_n 0, 1) := by decide +kernel
theorem d2_22 : decode prog_11_method_2_code 22 = .ok (.bipush 16, 2) := by decide +kernel
theorem d2_24 : decode prog_11_method_2_code 24 = .ok (.newarray .int, 2) := by decide +kernel
theorem d2_26 : decode prog_11_method_2_code 26 = .ok (.putfield 28, 3) := by decide +kernel
theorem d2_29 : decode prog_11_method_2_code 29 = .ok (.aload_n 0, 1) := by decide +kernel
theorem d2_30 : decode prog_11_method_2_code 30 = .ok (.bipush 16, 2) := by decide +kernel
theorem d2_32 : decode prog_11_method_2_code 32 = .ok (.newarray .int, 2) := by decide +kernel
theorem d2_34 : decode prog_11_method_2_code 34 = .ok (.putfield 31, 3) := by decide +kernel
theorem d2_37 : decode prog_11_method_2_code 37 = .ok (.aload_n 0, 1) := by decide +kernel
theorem d2_38 : decode prog_11_method_2_code 38 = .ok (.iload_n 1, 1) := by decide +kernel
theorem d2_39 : decode prog_11_method_2_code 39 = .ok (.putfield 34, 3) := by decide +kernel
theorem d2_42 : decode prog_11_method_2_code 42 = .ok (.aload_n 0, 1) := by decide +kernel
theorem d2_43 : decode prog_11_method_2_code 43 = .ok (.iload_n 2, 1) := by decide +kernel
theorem d2_44 : decode prog_11_method_2_code 44 = .ok (.invokestatic 38, 3) := by decide +kernel
theorem d2_47 : decode prog_11_method_2_code 47 = .ok (.putfield 42, 3) := by decide +kernel
theorem d2_50 : decode prog_11_method_2_code 50 = .ok (.return_, 1) := by decide +kernel
theorem pn_5 : plainFor (⟨"com/example/positano/positano/Postings", "<init>", "(II)V"⟩ : MethodName) = true := by first | exact plainFor_of_name (by first | (simp [plainName, overriddenIn]; done) | decide +kernel) | decide +kernel
def Q6 (Z : State) (a : Addr) (h0 : Heap) (n0 : Nat) (v : Option Value) (h : Heap) : Prop := ∃ tk : Addr, ∃ th : Addr, ∃ te : Addr, ∃ tb : Addr, v = none ∧ (Apart tk th) ∧ (Apart tk te) ∧ (Apart tk tb) ∧ (Apart th te) ∧ (Apart th tb) ∧ (Apart te tb) ∧ NLe h0.size tk ∧ NLe h0.size th ∧ NLe h0.size te ∧ NLe h0.size tb ∧ Keep h0 h [a] ∧ Exa Z h a "com/example/positano/positano/Postings" ∧ Fld Z h a "com/example/positano/positano/Postings" "keys" "[J" (.ref tk) ∧ Fld Z h a "com/example/positano/positano/Postings" "heads" "[I" (.ref th) ∧ Fld Z h a "com/example/positano/positano/Postings" "entries" "[I" (.ref te) ∧ Fld Z h a "com/example/positano/positano/Postings" "before" "[I" (.ref tb) ∧ Fld Z h a "com/example/positano/positano/Postings" "maxPostings" "I" (.int (2147483639 : Int32)) ∧ Fld Z h a "com/example/positano/positano/Postings" "maxKeys" "I" (.int (((1073741824 : Int32) / (4 : Int32)) * (3 : Int32))) ∧ Fld Z h a "com/example/positano/positano/Postings" "keyCount" "I" (.int (0 : Int32)) ∧ Fld Z h a "com/example/positano/positano/Postings" "kept" "I" (.int (0 : Int32)) ∧ Fld Z h a "com/example/positano/positano/Postings" "count" "I" (.int (0 : Int32)) ∧ LA Z h tk 17 zeroL ∧ IA Z h th 17 (own_const (-1 : Int32)) ∧ IA Z h te 16 zeroI ∧ IA Z h tb 16 zeroI
abbrev R6 : Room := { frames := 2, cells := 4, slots := 66, locals := 32 }
set_option maxRecDepth 65536 in
set_option maxHeartbeats 40000000 in
theorem rm6 (l : Launch) (Z : State) (a0 : Array Value) (hw : ∀ d ∈ tables_1, d.before a0 Z = true)  (a : Addr) (h0 : Heap) (n0 : Nat) (Z0 : NLe n0 h0.size) (Fp0 : Fld Z h0 a "com/example/positano/positano/Postings" "keys" "[J" .null) (Fp1 : Fld Z h0 a "com/example/positano/positano/Postings" "heads" "[I" .null) (Fp2 : Fld Z h0 a "com/example/positano/positano/Postings" "entries" "[I" .null) (Fp3 : Fld Z h0 a "com/example/positano/positano/Postings" "before" "[I" .null) (Fp4 : Fld Z h0 a "com/example/positano/positano/Postings" "maxPostings" "I" (.int (0 : Int32))) (Fp5 : Fld Z h0 a "com/example/positano/positano/Postings" "maxKeys" "I" (.int (0 : Int32))) (Fp6 : Fld Z h0 a "com/example/positano/positano/Postings" "count" "I" (.int (0 : Int32))) (Fp7 : Fld Z h0 a "com/example/positano/positano/Postings" "keyCount" "I" (.int (0 : Int32))) (Fp8 : Fld Z h0 a "com/example/positano/positano/Postings" "kept" "I" (.int (0 : Int32))) (Fp9 : Exa Z h0 a "com/example/positano/positano/Postings") (gn_a : NLe n0 a) :
    Con l (⟨"com/example/positano/positano/Postings", "<init>", "(II)V"⟩ : MethodName) prog_11_method_2_code 3 none [] R6 Z #[(.ref a), (.int (2147483639 : Int32)), (.int (1073741824 : Int32))] h0 n0 (Q6 Z a h0 n0) := by
  refine con_of (Ls0 := #[.val (.ref a), .val (.int (2147483639 : Int32)), .val (.int (1073741824 : Int32))]) pn_5 (fun m => by first | (simp [entryFrame, mkF, argsToLocals, Value.category, maxLocals]; done) | rfl) ?_
  intro p e s m below meth c s₁ X0 hx hby hml hZ hown hnm hret hlk e0 N0
  show OGoes p e s below (Q6 Z a h0 n0) n0 R6.cells R6.slots s₁ (mkF m 0 #[.val (.ref a), .val (.int (2147483639 : Int32)), .val (.int (1073741824 : Int32))] [])
  have K0 : Keep h0 h0 [a] := Keep.refl _ _
  refine g_aloadN X0 hx (hb hby d2_0) (v := (.ref a)) rfl rfl (pc' := 1) rfl ?_
  refine g_initO X0 hx hZ hown (hw _ (List.mem_of_getElem? (i := 13) rfl)) (hw _ (List.mem_of_getElem? (i := 14) rfl)) (hw _ (List.mem_of_getElem? (i := 15) rfl)) e0 (by rw [hml]; rfl) (hb hby d2_1) (by decide) (W := 0) (Nat.le_of_eq rfl) (by decide) (pc' := 4) rfl (fun T1 X2 e3 => ?_)
  refine g_aloadN X2 hx (hb hby d2_4) (v := (.ref a)) rfl rfl (pc' := 5) rfl ?_
  refine g_bipush X2 hx (hb hby d2_5) (v := 17) (by decide) (pc' := 7) rfl ?_
  refine g_newLA X2 hx hZ (hw _ (List.mem_of_getElem? (i := 16) rfl)) e3 (n := 17) rfl (cap := 17) (by decide) (by decide) (hb hby d2_7) (by decide) (by decide) (pc' := 9) rfl (fun T4 h5 a6 g7 X8 e9 E10 l11 A12  => ?_)
  have Z13 : NLe n0 h5.size := Z0.tr E10.1
  have nl14 : NLe n0 a6 := NLe.at g7 Z0
  have ne15 : Apart a a6 := Apart.new g7 Fp0.lt
  have F16 := Fld.ext E10 Fp0
  have F17 := Fld.ext E10 Fp1
  have F18 := Fld.ext E10 Fp2
  have F19 := Fld.ext E10 Fp3
  have F20 := Fld.ext E10 Fp4
  have F21 := Fld.ext E10 Fp5
  have F22 := Fld.ext E10 Fp6
  have F23 := Fld.ext E10 Fp7
  have F24 := Fld.ext E10 Fp8
  have F25 := Exa.ext E10 Fp9
  have kf26 : NLe h0.size a6 := NLe.at g7 K0.1
  have K27 := K0.ext E10
  clear g7 l11
  refine g_putF X8 hx hZ hown (hw _ (List.mem_of_getElem? (i := 17) rfl)) e9 (v := (.ref a6)) F16 F25 (Or.inl (hw _ (List.mem_of_getElem? (i := 18) rfl))) (hw _ (List.mem_of_getElem? (i := 7) rfl)) (ty := (.array .long)) (by decide) rfl rfl N0 gn_a (hb hby d2_9) (pc' := 12) rfl (fun T28 h29 L30 X31 e32 W33 N34 => ?_)
  have K35 := K27.wr W33 (Or.inl (by simp))
  have Z36 : NLe n0 h29.size := Z13.wr W33
  have F37 := Fld.same W33 F16
  have F38 := Fld.other W33 F17 (Or.inr (slot_ne (Or.inl (hw _ (List.mem_of_getElem? (i := 28) rfl))) (Or.inl (hw _ (List.mem_of_getElem? (i := 18) rfl))) (by decide) (t := (.array .int)) (t' := (.array .long)) (by decide) (by decide)))
  have F39 := Fld.other W33 F18 (Or.inr (slot_ne (Or.inl (hw _ (List.mem_of_getElem? (i := 30) rfl))) (Or.inl (hw _ (List.mem_of_getElem? (i := 18) rfl))) (by decide) (t := (.array .int)) (t' := (.array .long)) (by decide) (by decide)))
  have F40 := Fld.other W33 F19 (Or.inr (slot_ne (Or.inl (hw _ (List.mem_of_getElem? (i := 32) rfl))) (Or.inl (hw _ (List.mem_of_getElem? (i := 18) rfl))) (by decide) (t := (.array .int)) (t' := (.array .long)) (by decide) (by decide)))
  have F41 := Fld.other W33 F20 (Or.inr (slot_ne (Or.inr (hw _ (List.mem_of_getElem? (i := 34) rfl))) (Or.inl (hw _ (List.mem_of_getElem? (i := 18) rfl))) (by decide) (t := .int) (t' := (.array .long)) (by decide) (by decide)))
  have F42 := Fld.other W33 F21 (Or.inr (slot_ne (Or.inr (hw _ (List.mem_of_getElem? (i := 39) rfl))) (Or.inl (hw _ (List.mem_of_getElem? (i := 18) rfl))) (by decide) (t := .int) (t' := (.array .long)) (by decide) (by decide)))
  have F43 := Fld.other W33 F22 (Or.inr (slot_ne (Or.inl (hw _ (List.mem_of_getElem? (i := 50) rfl))) (Or.inl (hw _ (List.mem_of_getElem? (i := 18) rfl))) (by decide) (t := .int) (t' := (.array .long)) (by decide) (by decide)))
  have F44 := Fld.other W33 F23 (Or.inr (slot_ne (Or.inl (hw _ (List.mem_of_getElem? (i := 52) rfl))) (Or.inl (hw _ (List.mem_of_getElem? (i := 18) rfl))) (by decide) (t := .int) (t' := (.array .long)) (by decide) (by decide)))
  have F45 := Fld.other W33 F24 (Or.inr (slot_ne (Or.inl (hw _ (List.mem_of_getElem? (i := 54) rfl))) (Or.inl (hw _ (List.mem_of_getElem? (i := 18) rfl))) (by decide) (t := .int) (t' := (.array .long)) (by decide) (by decide)))
  have F46 := Exa.wr W33 F25
  have F47 := A12.other W33 ne15.symm
  refine g_aloadN X31 hx (hb hby d2_12) (v := (.ref a)) rfl rfl (pc' := 13) rfl ?_
  refine g_bipush X31 hx (hb hby d2_13) (v := 17) (by decide) (pc' := 15) rfl ?_
  refine g_static X31 hx hZ hown (hw _ (List.mem_of_getElem? (i := 19) rfl)) (hw _ (List.mem_of_getElem? (i := 20) rfl)) (hw _ (List.mem_of_getElem? (i := 8) rfl)) (hw _ (List.mem_of_getElem? (i := 21) rfl)) (by decide) (argsL := [(.int (17 : Int32))]) (rm5 l Z a0 hw  h29 n0 Z36 ) rfl e32 (by rw [hml]; rfl) pd_2 rfl (rest := [(.ref a)]) rfl (W := 1) (Nat.le_of_eq rfl) (by decide) (by decide) (by decide) (by decide) N34 (hb hby d2_15) (pc' := 18) rfl (fun v48 T49 L50 X51 N52 q53 => ?_)
  obtain ⟨t54, rfl, z55, K56, F57⟩ := q53
  have lt58 : (17 : Int32).toInt = 17 := rfl
  have Z59 : NLe n0 T49.heap.size := Z36.tr K56.1
  have nl60 : NLe n0 t54 := Z36.tr z55
  have ne61 : Apart a t54 := Apart.fr F37.lt z55
  have ne62 : Apart a6 t54 := Apart.fr F47.lt z55
  have kf63 : NLe h0.size t54 := NLe.tr K35.1 z55
  have F64 := F37.keep K56 nin0
  have F65 := F38.keep K56 nin0
  have F66 := F39.keep K56 nin0
  have F67 := F40.keep K56 nin0
  have F68 := F41.keep K56 nin0
  have F69 := F42.keep K56 nin0
  have F70 := F43.keep K56 nin0
  have F71 := F44.keep K56 nin0
  have F72 := F45.keep K56 nin0
  have F73 := F46.keep K56
  have F74 := F47.keep K56 nin0
  have K75 := K35.trans K56 all0
  show OGoes p e s below (Q6 Z a h0 n0) n0 R6.cells R6.slots T49 (mkF m 18 #[.val (.ref a), .val (.int (2147483639 : Int32)), .val (.int (1073741824 : Int32))] [(.ref t54), (.ref a)])
  refine g_putF X51 hx hZ hown (hw _ (List.mem_of_getElem? (i := 27) rfl)) rfl (v := (.ref t54)) F65 F73 (Or.inl (hw _ (List.mem_of_getElem? (i := 28) rfl))) (hw _ (List.mem_of_getElem? (i := 7) rfl)) (ty := (.array .int)) (by decide) rfl rfl N52 gn_a (hb hby d2_18) (pc' := 21) rfl (fun T76 h77 L78 X79 e80 W81 N82 => ?_)
  have K83 := K75.wr W81 (Or.inl (by simp))
  have Z84 : NLe n0 h77.size := Z59.wr W81
  have F85 := Fld.other W81 F64 (Or.inr (slot_ne (Or.inl (hw _ (List.mem_of_getElem? (i := 18) rfl))) (Or.inl (hw _ (List.mem_of_getElem? (i := 28) rfl))) (by decide) (t := (.array .long)) (t' := (.array .int)) (by decide) (by decide)))
  have F86 := Fld.same W81 F65
  have F87 := Fld.other W81 F66 (Or.inr (slot_ne (Or.inl (hw _ (List.mem_of_getElem? (i := 30) rfl))) (Or.inl (hw _ (List.mem_of_getElem? (i := 28) rfl))) (by decide) (t := (.array .int)) (t' := (.array .int)) (by decide) (by decide)))
  have F88 := Fld.other W81 F67 (Or.inr (slot_ne (Or.inl (hw _ (List.mem_of_getElem? (i := 32) rfl))) (Or.inl (hw _ (List.mem_of_getElem? (i := 28) rfl))) (by decide) (t := (.array .int)) (t' := (.array .int)) (by decide) (by decide)))
  have F89 := Fld.other W81 F68 (Or.inr (slot_ne (Or.inr (hw _ (List.mem_of_getElem? (i := 34) rfl))) (Or.inl (hw _ (List.mem_of_getElem? (i := 28) rfl))) (by decide) (t := .int) (t' := (.array .int)) (by decide) (by decide)))
  have F90 := Fld.other W81 F69 (Or.inr (slot_ne (Or.inr (hw _ (List.mem_of_getElem? (i := 39) rfl))) (Or.inl (hw _ (List.mem_of_getElem? (i := 28) rfl))) (by decide) (t := .int) (t' := (.array .int)) (by decide) (by decide)))
  have F91 := Fld.other W81 F70 (Or.inr (slot_ne (Or.inl (hw _ (List.mem_of_getElem? (i := 50) rfl))) (Or.inl (hw _ (List.mem_of_getElem? (i := 28) rfl))) (by decide) (t := .int) (t' := (.array .int)) (by decide) (by decide)))
  have F92 := Fld.other W81 F71 (Or.inr (slot_ne (Or.inl (hw _ (List.mem_of_getElem? (i := 52) rfl))) (Or.inl (hw _ (List.mem_of_getElem? (i := 28) rfl))) (by decide) (t := .int) (t' := (.array .int)) (by decide) (by decide)))
  have F93 := Fld.other W81 F72 (Or.inr (slot_ne (Or.inl (hw _ (List.mem_of_getElem? (i := 54) rfl))) (Or.inl (hw _ (List.mem_of_getElem? (i := 28) rfl))) (by decide) (t := .int) (t' := (.array .int)) (by decide) (by decide)))
  have F94 := Exa.wr W81 F73
  have F95 := F74.other W81 ne15.symm
  have F96 := F57.other W81 ne61.symm
  refine g_aloadN X79 hx (hb hby d2_21) (v := (.ref a)) rfl rfl (pc' := 22) rfl ?_
  refine g_bipush X79 hx (hb hby d2_22) (v := 16) (by decide) (pc' := 24) rfl ?_
  refine g_newIA X79 hx hZ (hw _ (List.mem_of_getElem? (i := 22) rfl)) e80 (n := 16) rfl (cap := 16) (by decide) (by decide) (hb hby d2_24) (by decide) (by decide) (pc' := 26) rfl (fun T97 h98 a99 g100 X101 e102 E103 l104 A105  => ?_)
  have Z106 : NLe n0 h98.size := Z84.tr E103.1
  have nl107 : NLe n0 a99 := NLe.at g100 Z84
  have ne108 : Apart a a99 := Apart.new g100 F85.lt
  have ne109 : Apart a6 a99 := Apart.new g100 F95.lt
  have ne110 : Apart t54 a99 := Apart.new g100 F96.lt
  have F111 := Fld.ext E103 F85
  have F112 := Fld.ext E103 F86
  have F113 := Fld.ext E103 F87
  have F114 := Fld.ext E103 F88
  have F115 := Fld.ext E103 F89
  have F116 := Fld.ext E103 F90
  have F117 := Fld.ext E103 F91
  have F118 := Fld.ext E103 F92
  have F119 := Fld.ext E103 F93
  have F120 := Exa.ext E103 F94
  have F121 := F95.ext E103
  have F122 := F96.ext E103
  have kf123 : NLe h0.size a99 := NLe.at g100 K83.1
  have K124 := K83.ext E103
  clear g100 l104
  refine g_putF X101 hx hZ hown (hw _ (List.mem_of_getElem? (i := 29) rfl)) e102 (v := (.ref a99)) F113 F120 (Or.inl (hw _ (List.mem_of_getElem? (i := 30) rfl))) (hw _ (List.mem_of_getElem? (i := 7) rfl)) (ty := (.array .int)) (by decide) rfl rfl N82 gn_a (hb hby d2_26) (pc' := 29) rfl (fun T125 h126 L127 X128 e129 W130 N131 => ?_)
  have K132 := K124.wr W130 (Or.inl (by simp))
  have Z133 : NLe n0 h126.size := Z106.wr W130
  have F134 := Fld.other W130 F111 (Or.inr (slot_ne (Or.inl (hw _ (List.mem_of_getElem? (i := 18) rfl))) (Or.inl (hw _ (List.mem_of_getElem? (i := 30) rfl))) (by decide) (t := (.array .long)) (t' := (.array .int)) (by decide) (by decide)))
  have F135 := Fld.other W130 F112 (Or.inr (slot_ne (Or.inl (hw _ (List.mem_of_getElem? (i := 28) rfl))) (Or.inl (hw _ (List.mem_of_getElem? (i := 30) rfl))) (by decide) (t := (.array .int)) (t' := (.array .int)) (by decide) (by decide)))
  have F136 := Fld.same W130 F113
  have F137 := Fld.other W130 F114 (Or.inr (slot_ne (Or.inl (hw _ (List.mem_of_getElem? (i := 32) rfl))) (Or.inl (hw _ (List.mem_of_getElem? (i := 30) rfl))) (by decide) (t := (.array .int)) (t' := (.array .int)) (by decide) (by decide)))
  have F138 := Fld.other W130 F115 (Or.inr (slot_ne (Or.inr (hw _ (List.mem_of_getElem? (i := 34) rfl))) (Or.inl (hw _ (List.mem_of_getElem? (i := 30) rfl))) (by decide) (t := .int) (t' := (.array .int)) (by decide) (by decide)))
  have F139 := Fld.other W130 F116 (Or.inr (slot_ne (Or.inr (hw _ (List.mem_of_getElem? (i := 39) rfl))) (Or.inl (hw _ (List.mem_of_getElem? (i := 30) rfl))) (by decide) (t := .int) (t' := (.array .int)) (by decide) (by decide)))
  have F140 := Fld.other W130 F117 (Or.inr (slot_ne (Or.inl (hw _ (List.mem_of_getElem? (i := 50) rfl))) (Or.inl (hw _ (List.mem_of_getElem? (i := 30) rfl))) (by decide) (t := .int) (t' := (.array .int)) (by decide) (by decide)))
  have F141 := Fld.other W130 F118 (Or.inr (slot_ne (Or.inl (hw _ (List.mem_of_getElem? (i := 52) rfl))) (Or.inl (hw _ (List.mem_of_getElem? (i := 30) rfl))) (by decide) (t := .int) (t' := (.array .int)) (by decide) (by decide)))
  have F142 := Fld.other W130 F119 (Or.inr (slot_ne (Or.inl (hw _ (List.mem_of_getElem? (i := 54) rfl))) (Or.inl (hw _ (List.mem_of_getElem? (i := 30) rfl))) (by decide) (t := .int) (t' := (.array .int)) (by decide) (by decide)))
  have F143 := Exa.wr W130 F120
  have F144 := F121.other W130 ne15.symm
  have F145 := F122.other W130 ne61.symm
  have F146 := A105.other W130 ne108.symm
  refine g_aloadN X128 hx (hb hby d2_29) (v := (.ref a)) rfl rfl (pc' := 30) rfl ?_
  refine g_bipush X128 hx (hb hby d2_30) (v := 16) (by decide) (pc' := 32) rfl ?_
  refine g_newIA X128 hx hZ (hw _ (List.mem_of_getElem? (i := 22) rfl)) e129 (n := 16) rfl (cap := 16) (by decide) (by decide) (hb hby d2_32) (by decide) (by decide) (pc' := 34) rfl (fun T147 h148 a149 g150 X151 e152 E153 l154 A155  => ?_)
  have Z156 : NLe n0 h148.size := Z133.tr E153.1
  have nl157 : NLe n0 a149 := NLe.at g150 Z133
  have ne158 : Apart a a149 := Apart.new g150 F134.lt
  have ne159 : Apart a6 a149 := Apart.new g150 F144.lt
  have ne160 : Apart t54 a149 := Apart.new g150 F145.lt
  have ne161 : Apart a99 a149 := Apart.new g150 F146.lt
  have F162 := Fld.ext E153 F134
  have F163 := Fld.ext E153 F135
  have F164 := Fld.ext E153 F136
  have F165 := Fld.ext E153 F137
  have F166 := Fld.ext E153 F138
  have F167 := Fld.ext E153 F139
  have F168 := Fld.ext E153 F140
  have F169 := Fld.ext E153 F141
  have F170 := Fld.ext E153 F142
  have F171 := Exa.ext E153 F143
  have F172 := F144.ext E153
  have F173 := F145.ext E153
  have F174 := F146.ext E153
  have kf175 : NLe h0.size a149 := NLe.at g150 K132.1
  have K176 := K132.ext E153
  clear g150 l154
  refine g_putF X151 hx hZ hown (hw _ (List.mem_of_getElem? (i := 31) rfl)) e152 (v := (.ref a149)) F165 F171 (Or.inl (hw _ (List.mem_of_getElem? (i := 32) rfl))) (hw _ (List.mem_of_getElem? (i := 7) rfl)) (ty := (.array .int)) (by decide) rfl rfl N131 gn_a (hb hby d2_34) (pc' := 37) rfl (fun T177 h178 L179 X180 e181 W182 N183 => ?_)
  have K184 := K176.wr W182 (Or.inl (by simp))
  have Z185 : NLe n0 h178.size := Z156.wr W182
  have F186 := Fld.other W182 F162 (Or.inr (slot_ne (Or.inl (hw _ (List.mem_of_getElem? (i := 18) rfl))) (Or.inl (hw _ (List.mem_of_getElem? (i := 32) rfl))) (by decide) (t := (.array .long)) (t' := (.array .int)) (by decide) (by decide)))
  have F187 := Fld.other W182 F163 (Or.inr (slot_ne (Or.inl (hw _ (List.mem_of_getElem? (i := 28) rfl))) (Or.inl (hw _ (List.mem_of_getElem? (i := 32) rfl))) (by decide) (t := (.array .int)) (t' := (.array .int)) (by decide) (by decide)))
  have F188 := Fld.other W182 F164 (Or.inr (slot_ne (Or.inl (hw _ (List.mem_of_getElem? (i := 30) rfl))) (Or.inl (hw _ (List.mem_of_getElem? (i := 32) rfl))) (by decide) (t := (.array .int)) (t' := (.array .int)) (by decide) (by decide)))
  have F189 := Fld.same W182 F165
  have F190 := Fld.other W182 F166 (Or.inr (slot_ne (Or.inr (hw _ (List.mem_of_getElem? (i := 34) rfl))) (Or.inl (hw _ (List.mem_of_getElem? (i := 32) rfl))) (by decide) (t := .int) (t' := (.array .int)) (by decide) (by decide)))
  have F191 := Fld.other W182 F167 (Or.inr (slot_ne (Or.inr (hw _ (List.mem_of_getElem? (i := 39) rfl))) (Or.inl (hw _ (List.mem_of_getElem? (i := 32) rfl))) (by decide) (t := .int) (t' := (.array .int)) (by decide) (by decide)))
  have F192 := Fld.other W182 F168 (Or.inr (slot_ne (Or.inl (hw _ (List.mem_of_getElem? (i := 50) rfl))) (Or.inl (hw _ (List.mem_of_getElem? (i := 32) rfl))) (by decide) (t := .int) (t' := (.array .int)) (by decide) (by decide)))
  have F193 := Fld.other W182 F169 (Or.inr (slot_ne (Or.inl (hw _ (List.mem_of_getElem? (i := 52) rfl))) (Or.inl (hw _ (List.mem_of_getElem? (i := 32) rfl))) (by decide) (t := .int) (t' := (.array .int)) (by decide) (by decide)))
  have F194 := Fld.other W182 F170 (Or.inr (slot_ne (Or.inl (hw _ (List.mem_of_getElem? (i := 54) rfl))) (Or.inl (hw _ (List.mem_of_getElem? (i := 32) rfl))) (by decide) (t := .int) (t' := (.array .int)) (by decide) (by decide)))
  have F195 := Exa.wr W182 F171
  have F196 := F172.other W182 ne15.symm
  have F197 := F173.other W182 ne61.symm
  have F198 := F174.other W182 ne108.symm
  have F199 := A155.other W182 ne158.symm
  refine g_aloadN X180 hx (hb hby d2_37) (v := (.ref a)) rfl rfl (pc' := 38) rfl ?_
  refine g_iloadN X180 hx (hb hby d2_38) (v := (2147483639 : Int32)) rfl (pc' := 39) rfl ?_
  refine g_putF X180 hx hZ hown (hw _ (List.mem_of_getElem? (i := 33) rfl)) e181 (v := (.int (2147483639 : Int32))) F190 F195 (Or.inr ⟨(hw _ (List.mem_of_getElem? (i := 34) rfl)), rfl, hnm⟩) (hw _ (List.mem_of_getElem? (i := 7) rfl)) (ty := .int) (by decide) rfl rfl N183 gn_a (hb hby d2_39) (pc' := 42) rfl (fun T200 h201 L202 X203 e204 W205 N206 => ?_)
  have K207 := K184.wr W205 (Or.inl (by simp))
  have Z208 : NLe n0 h201.size := Z185.wr W205
  have F209 := Fld.other W205 F186 (Or.inr (slot_ne (Or.inl (hw _ (List.mem_of_getElem? (i := 18) rfl))) (Or.inr (hw _ (List.mem_of_getElem? (i := 34) rfl))) (by decide) (t := (.array .long)) (t' := .int) (by decide) (by decide)))
  have F210 := Fld.other W205 F187 (Or.inr (slot_ne (Or.inl (hw _ (List.mem_of_getElem? (i := 28) rfl))) (Or.inr (hw _ (List.mem_of_getElem? (i := 34) rfl))) (by decide) (t := (.array .int)) (t' := .int) (by decide) (by decide)))
  have F211 := Fld.other W205 F188 (Or.inr (slot_ne (Or.inl (hw _ (List.mem_of_getElem? (i := 30) rfl))) (Or.inr (hw _ (List.mem_of_getElem? (i := 34) rfl))) (by decide) (t := (.array .int)) (t' := .int) (by decide) (by decide)))
  have F212 := Fld.other W205 F189 (Or.inr (slot_ne (Or.inl (hw _ (List.mem_of_getElem? (i := 32) rfl))) (Or.inr (hw _ (List.mem_of_getElem? (i := 34) rfl))) (by decide) (t := (.array .int)) (t' := .int) (by decide) (by decide)))
  have F213 := Fld.same W205 F190
  have F214 := Fld.other W205 F191 (Or.inr (slot_ne (Or.inr (hw _ (List.mem_of_getElem? (i := 39) rfl))) (Or.inr (hw _ (List.mem_of_getElem? (i := 34) rfl))) (by decide) (t := .int) (t' := .int) (by decide) (by decide)))
  have F215 := Fld.other W205 F192 (Or.inr (slot_ne (Or.inl (hw _ (List.mem_of_getElem? (i := 50) rfl))) (Or.inr (hw _ (List.mem_of_getElem? (i := 34) rfl))) (by decide) (t := .int) (t' := .int) (by decide) (by decide)))
  have F216 := Fld.other W205 F193 (Or.inr (slot_ne (Or.inl (hw _ (List.mem_of_getElem? (i := 52) rfl))) (Or.inr (hw _ (List.mem_of_getElem? (i := 34) rfl))) (by decide) (t := .int) (t' := .int) (by decide) (by decide)))
  have F217 := Fld.other W205 F194 (Or.inr (slot_ne (Or.inl (hw _ (List.mem_of_getElem? (i := 54) rfl))) (Or.inr (hw _ (List.mem_of_getElem? (i := 34) rfl))) (by decide) (t := .int) (t' := .int) (by decide) (by decide)))
  have F218 := Exa.wr W205 F195
  have F219 := F196.other W205 ne15.symm
  have F220 := F197.other W205 ne61.symm
  have F221 := F198.other W205 ne108.symm
  have F222 := F199.other W205 ne158.symm
  refine g_aloadN X203 hx (hb hby d2_42) (v := (.ref a)) rfl rfl (pc' := 43) rfl ?_
  refine g_iloadN X203 hx (hb hby d2_43) (v := (1073741824 : Int32)) rfl (pc' := 44) rfl ?_
  refine g_static X203 hx hZ hown (hw _ (List.mem_of_getElem? (i := 35) rfl)) (hw _ (List.mem_of_getElem? (i := 36) rfl)) (hw _ (List.mem_of_getElem? (i := 8) rfl)) (hw _ (List.mem_of_getElem? (i := 37) rfl)) (by decide) (argsL := [(.int (1073741824 : Int32))]) (rm2 l Z a0 hw (1073741824 : Int32) h201 n0 Z208 ) rfl e204 (by rw [hml]; rfl) pd_4 rfl (rest := [(.ref a)]) rfl (W := 1) (Nat.le_of_eq rfl) (by decide) (by decide) (by decide) (by decide) N206 (hb hby d2_44) (pc' := 47) rfl (fun v223 T224 L225 X226 N227 q228 => ?_)
  obtain ⟨rfl, K229⟩ := q228
  have lt230 : (1073741824 : Int32).toInt = 1073741824 := rfl
  show OGoes p e s below (Q6 Z a h0 n0) n0 R6.cells R6.slots T224 (mkF m 47 #[.val (.ref a), .val (.int (2147483639 : Int32)), .val (.int (1073741824 : Int32))] [(.int (((1073741824 : Int32) / (4 : Int32)) * (3 : Int32))), (.ref a)])
  refine g_putF X226 hx hZ hown (hw _ (List.mem_of_getElem? (i := 38) rfl)) K229 (v := (.int (((1073741824 : Int32) / (4 : Int32)) * (3 : Int32)))) F214 F218 (Or.inr ⟨(hw _ (List.mem_of_getElem? (i := 39) rfl)), rfl, hnm⟩) (hw _ (List.mem_of_getElem? (i := 7) rfl)) (ty := .int) (by decide) rfl rfl N227 gn_a (hb hby d2_47) (pc' := 50) rfl (fun T231 h232 L233 X234 e235 W236 N237 => ?_)
  have K238 := K207.wr W236 (Or.inl (by simp))
  have Z239 : NLe n0 h232.size := Z208.wr W236
  have F240 := Fld.other W236 F209 (Or.inr (slot_ne (Or.inl (hw _ (List.mem_of_getElem? (i := 18) rfl))) (Or.inr (hw _ (List.mem_of_getElem? (i := 39) rfl))) (by decide) (t := (.array .long)) (t' := .int) (by decide) (by decide)))
  have F241 := Fld.other W236 F210 (Or.inr (slot_ne (Or.inl (hw _ (List.mem_of_getElem? (i := 28) rfl))) (Or.inr (hw _ (List.mem_of_getElem? (i := 39) rfl))) (by decide) (t := (.array .int)) (t' := .int) (by decide) (by decide)))
  have F242 := Fld.other W236 F211 (Or.inr (slot_ne (Or.inl (hw _ (List.mem_of_getElem? (i := 30) rfl))) (Or.inr (hw _ (List.mem_of_getElem? (i := 39) rfl))) (by decide) (t := (.array .int)) (t' := .int) (by decide) (by decide)))
  have F243 := Fld.other W236 F212 (Or.inr (slot_ne (Or.inl (hw _ (List.mem_of_getElem? (i := 32) rfl))) (Or.inr (hw _ (List.mem_of_getElem? (i := 39) rfl))) (by decide) (t := (.array .int)) (t' := .int) (by decide) (by decide)))
  have F244 := Fld.other W236 F213 (Or.inr (slot_ne (Or.inr (hw _ (List.mem_of_getElem? (i := 34) rfl))) (Or.inr (hw _ (List.mem_of_getElem? (i := 39) rfl))) (by decide) (t := .int) (t' := .int) (by decide) (by decide)))
  have F245 := Fld.same W236 F214
  have F246 := Fld.other W236 F215 (Or.inr (slot_ne (Or.inl (hw _ (List.mem_of_getElem? (i := 50) rfl))) (Or.inr (hw _ (List.mem_of_getElem? (i := 39) rfl))) (by decide) (t := .int) (t' := .int) (by decide) (by decide)))
  have F247 := Fld.other W236 F216 (Or.inr (slot_ne (Or.inl (hw _ (List.mem_of_getElem? (i := 52) rfl))) (Or.inr (hw _ (List.mem_of_getElem? (i := 39) rfl))) (by decide) (t := .int) (t' := .int) (by decide) (by decide)))
  have F248 := Fld.other W236 F217 (Or.inr (slot_ne (Or.inl (hw _ (List.mem_of_getElem? (i := 54) rfl))) (Or.inr (hw _ (List.mem_of_getElem? (i := 39) rfl))) (by decide) (t := .int) (t' := .int) (by decide) (by decide)))
  have F249 := Exa.wr W236 F218
  have F250 := F219.other W236 ne15.symm
  have F251 := F220.other W236 ne61.symm
  have F252 := F221.other W236 ne108.symm
  have F253 := F222.other W236 ne158.symm
  refine g_retV X234 hx hlk hret (hb hby d2_50) N237 (by decide) (by decide) ?_
  rw [e235]
  exact ⟨a6, t54, a99, a149, rfl, ne62, ne109, ne159, ne110, ne160, ne161, kf26, kf63, kf123, kf175, K238, F249, F240, F241, F242, F243, F244, F245, F247, F248, F246, F250, F251, F252, F253⟩
theorem d8_0 : decode prog_11_method_8_code 0 = .ok (.aload_n 0, 1) := by decide +kernel
theorem d8_1 : decode prog_11_method_8_code 1 = .ok (.getfield 62, 3) := by decide +kernel
theorem d8_4 : decode prog_11_method_8_code 4 = .ok (.aload_n 0, 1) := by decide +kernel
theorem d8_5 : decode prog_11_method_8_code 5 = .ok (.getfield 34, 3) := by decide +kernel
theorem d8_8 : decode prog_11_method_8_code 8 = .ok (.iload_n 1, 1) := by decide +kernel
theorem d8_9 : decode prog_11_method_8_code 9 = .ok (.isub, 1) := by decide +kernel
theorem d8_10 : decode prog_11_method_8_code 10 = .ok (.if_icmp .le 20, 3) := by decide +kernel
theorem d8_13 : decode prog_11_method_8_code 13 = .ok (.new 65, 3) := by decide +kernel
theorem d8_16 : decode prog_11_method_8_code 16 = .ok (.dup, 1) := by decide +kernel
theorem d8_17 : decode prog_11_method_8_code 17 = .ok (.aload_n 0, 1) := by decide +kernel
theorem d8_18 : decode prog_11_method_8_code 18 = .ok (.getfield 34, 3) := by decide +kernel
theorem d8_21 : decode prog_11_method_8_code 21 = .ok (.invokedynamic 67, 5) := by decide +kernel
theorem d8_26 : decode prog_11_method_8_code 26 = .ok (.invokespecial 71, 3) := by decide +kernel
theorem d8_29 : decode prog_11_method_8_code 29 = .ok (.athrow, 1) := by decide +kernel
theorem d8_30 : decode prog_11_method_8_code 30 = .ok (.aload_n 0, 1) := by decide +kernel
theorem d8_31 : decode prog_11_method_8_code 31 = .ok (.getfield 56, 3) := by decide +kernel
theorem d8_34 : decode prog_11_method_8_code 34 = .ok (.aload_n 0, 1) := by decide +kernel
theorem d8_35 : decode prog_11_method_8_code 35 = .ok (.getfield 42, 3) := by decide +kernel
theorem d8_38 : decode prog_11_method_8_code 38 = .ok (.iload_n 1, 1) := by decide +kernel
theorem d8_39 : decode prog_11_method_8_code 39 = .ok (.isub, 1) := by decide +kernel
theorem d8_40 : decode prog_11_method_8_code 40 = .ok (.if_icmp .le 20, 3) := by decide +kernel
theorem d8_43 : decode prog_11_method_8_code 43 = .ok (.new 65, 3) := by decide +kernel
theorem d8_46 : decode prog_11_method_8_code 46 = .ok (.dup, 1) := by decide +kernel
theorem d8_47 : decode prog_11_method_8_code 47 = .ok (.aload_n 0, 1) := by decide +kernel
theorem d8_48 : decode prog_11_method_8_code 48 = .ok (.getfield 42, 3) := by decide +kernel
theorem d8_51 : decode prog_11_method_8_code 51 = .ok (.invokedynamic 74, 5) := by decide +kernel
theorem d8_56 : decode prog_11_method_8_code 56 = .ok (.invokespecial 71, 3) := by decide +kernel
theorem d8_59 : decode prog_11_method_8_code 59 = .ok (.athrow, 1) := by decide +kernel
theorem d8_60 : decode prog_11_method_8_code 60 = .ok (.aload_n 0, 1) := by decide +kernel
theorem d8_61 : decode prog_11_method_8_code 61 = .ok (.getfield 16, 3) := by decide +kernel
theorem d8_64 : decode prog_11_method_8_code 64 = .ok (.arraylength, 1) := by decide +kernel
theorem d8_65 : decode prog_11_method_8_code 65 = .ok (.iconst 1, 1) := by decide +kernel
theorem d8_66 : decode prog_11_method_8_code 66 = .ok (.isub, 1) := by decide +kernel
theorem d8_67 : decode prog_11_method_8_code 67 = .ok (.istore_n 2, 1) := by decide +kernel
theorem d8_68 : decode prog_11_method_8_code 68 = .ok (.iload_n 2, 1) := by decide +kernel
theorem d8_69 : decode prog_11_method_8_code 69 = .ok (.invokestatic 38, 3) := by decide +kernel
theorem d8_72 : decode prog_11_method_8_code 72 = .ok (.aload_n 0, 1) := by decide +kernel
theorem d8_73 : decode prog_11_method_8_code 73 = .ok (.getfield 56, 3) := by decide +kernel
theorem d8_76 : decode prog_11_method_8_code 76 = .ok (.iload_n 1, 1) := by decide +kernel
theorem d8_77 : decode prog_11_method_8_code 77 = .ok (.iadd, 1) := by decide +kernel
theorem d8_78 : decode prog_11_method_8_code 78 = .ok (.if_icmp .ge 10, 3) := by decide +kernel
theorem d8_81 : decode prog_11_method_8_code 81 = .ok (.iload_n 2, 1) := by decide +kernel
theorem d8_82 : decode prog_11_method_8_code 82 = .ok (.iconst 2, 1) := by decide +kernel
theorem d8_83 : decode prog_11_method_8_code 83 = .ok (.imul, 1) := by decide +kernel
theorem d8_84 : decode prog_11_method_8_code 84 = .ok (.istore_n 2, 1) := by decide +kernel
theorem d8_85 : decode prog_11_method_8_code 85 = .ok (.goto (-17), 3) := by decide +kernel
theorem d8_88 : decode prog_11_method_8_code 88 = .ok (.iload_n 2, 1) := by decide +kernel
theorem d8_89 : decode prog_11_method_8_code 89 = .ok (.aload_n 0, 1) := by decide +kernel
theorem d8_90 : decode prog_11_method_8_code 90 = .ok (.getfield 16, 3) := by decide +kernel
theorem d8_93 : decode prog_11_method_8_code 93 = .ok (.arraylength, 1) := by decide +kernel
theorem d8_94 : decode prog_11_method_8_code 94 = .ok (.iconst 1, 1) := by decide +kernel
theorem d8_95 : decode prog_11_method_8_code 95 = .ok (.isub, 1) := by decide +kernel
theorem d8_96 : decode prog_11_method_8_code 96 = .ok (.if_icmp .le 8, 3) := by decide +kernel
theorem d8_99 : decode prog_11_method_8_code 99 = .ok (.aload_n 0, 1) := by decide +kernel
theorem d8_100 : decode prog_11_method_8_code 100 = .ok (.iload_n 2, 1) := by decide +kernel
theorem d8_101 : decode prog_11_method_8_code 101 = .ok (.invokevirtual 75, 3) := by decide +kernel
theorem d8_104 : decode prog_11_method_8_code 104 = .ok (.aload_n 0, 1) := by decide +kernel
theorem d8_105 : decode prog_11_method_8_code 105 = .ok (.getfield 59, 3) := by decide +kernel
theorem d8_108 : decode prog_11_method_8_code 108 = .ok (.iload_n 1, 1) := by decide +kernel
theorem d8_109 : decode prog_11_method_8_code 109 = .ok (.iadd, 1) := by decide +kernel
theorem d8_110 : decode prog_11_method_8_code 110 = .ok (.aload_n 0, 1) := by decide +kernel
theorem d8_111 : decode prog_11_method_8_code 111 = .ok (.getfield 28, 3) := by decide +kernel
theorem d8_114 : decode prog_11_method_8_code 114 = .ok (.arraylength, 1) := by decide +kernel
theorem d8_115 : decode prog_11_method_8_code 115 = .ok (.if_icmp .le 66, 3) := by decide +kernel
theorem d8_118 : decode prog_11_method_8_code 118 = .ok (.ldc2_w 78, 3) := by decide +kernel
theorem d8_121 : decode prog_11_method_8_code 121 = .ok (.aload_n 0, 1) := by decide +kernel
theorem d8_122 : decode prog_11_method_8_code 122 = .ok (.getfield 28, 3) := by decide +kernel
theorem d8_125 : decode prog_11_method_8_code 125 = .ok (.arraylength, 1) := by decide +kernel
theorem d8_126 : decode prog_11_method_8_code 126 = .ok (.i2l, 1) := by decide +kernel
theorem d8_127 : decode prog_11_method_8_code 127 = .ok (.lmul, 1) := by decide +kernel
theorem d8_128 : decode prog_11_method_8_code 128 = .ok (.aload_n 0, 1) := by decide +kernel
theorem d8_129 : decode prog_11_method_8_code 129 = .ok (.getfield 59, 3) := by decide +kernel
theorem d8_132 : decode prog_11_method_8_code 132 = .ok (.i2l, 1) := by decide +kernel
theorem d8_133 : decode prog_11_method_8_code 133 = .ok (.iload_n 1, 1) := by decide +kernel
theorem d8_134 : decode prog_11_method_8_code 134 = .ok (.i2l, 1) := by decide +kernel
theorem d8_135 : decode prog_11_method_8_code 135 = .ok (.ladd, 1) := by decide +kernel
theorem d8_136 : decode prog_11_method_8_code 136 = .ok (.invokestatic 80, 3) := by decide +kernel
theorem d8_139 : decode prog_11_method_8_code 139 = .ok (.aload_n 0, 1) := by decide +kernel
theorem d8_140 : decode prog_11_method_8_code 140 = .ok (.getfield 34, 3) := by decide +kernel
theorem d8_143 : decode prog_11_method_8_code 143 = .ok (.i2l, 1) := by decide +kernel
theorem d8_144 : decode prog_11_method_8_code 144 = .ok (.invokestatic 86, 3) := by decide +kernel
theorem d8_147 : decode prog_11_method_8_code 147 = .ok (.l2i, 1) := by decide +kernel
theorem d8_148 : decode prog_11_method_8_code 148 = .ok (.istore_n 3, 1) := by decide +kernel
theorem d8_149 : decode prog_11_method_8_code 149 = .ok (.aload_n 0, 1) := by decide +kernel
theorem d8_150 : decode prog_11_method_8_code 150 = .ok (.getfield 28, 3) := by decide +kernel
theorem d8_153 : decode prog_11_method_8_code 153 = .ok (.iload_n 3, 1) := by decide +kernel
theorem d8_154 : decode prog_11_method_8_code 154 = .ok (.invokestatic 89, 3) := by decide +kernel
theorem d8_157 : decode prog_11_method_8_code 157 = .ok (.astore 4, 2) := by decide +kernel
theorem d8_159 : decode prog_11_method_8_code 159 = .ok (.aload_n 0, 1) := by decide +kernel
theorem d8_160 : decode prog_11_method_8_code 160 = .ok (.getfield 31, 3) := by decide +kernel
theorem d8_163 : decode prog_11_method_8_code 163 = .ok (.iload_n 3, 1) := by decide +kernel
theorem d8_164 : decode prog_11_method_8_code 164 = .ok (.invokestatic 89, 3) := by decide +kernel
theorem d8_167 : decode prog_11_method_8_code 167 = .ok (.astore 5, 2) := by decide +kernel
theorem d8_169 : decode prog_11_method_8_code 169 = .ok (.aload_n 0, 1) := by decide +kernel
theorem d8_170 : decode prog_11_method_8_code 170 = .ok (.aload 4, 2) := by decide +kernel
theorem d8_172 : decode prog_11_method_8_code 172 = .ok (.putfield 28, 3) := by decide +kernel
theorem d8_175 : decode prog_11_method_8_code 175 = .ok (.aload_n 0, 1) := by decide +kernel
theorem d8_176 : decode prog_11_method_8_code 176 = .ok (.aload 5, 2) := by decide +kernel
theorem d8_178 : decode prog_11_method_8_code 178 = .ok (.putfield 31, 3) := by decide +kernel
theorem d8_181 : decode prog_11_method_8_code 181 = .ok (.return_, 1) := by decide +kernel
theorem pn_6 : plainFor (⟨"com/example/positano/positano/Postings", "makeRoom", "(I)V"⟩ : MethodName) = true := by first | exact plainFor_of_name (by first | (simp [plainName, overriddenIn]; done) | decide +kernel) | decide +kernel
def Q7 (Z : State) (a : Addr) (tk : Addr) (th : Addr) (te : Addr) (tb : Addr) (p1 : Int32) (kc : Int32) (kp : Int32) (cn : Int32) (fk : Nat → Int64) (fe : Nat → Int32) (h0 : Heap) (n0 : Nat) (v : Option Value) (h : Heap) : Prop := v = none ∧ h = h0
abbrev R7 : Room := { frames := 1, cells := 0, slots := 0, locals := 15 }
set_option maxRecDepth 65536 in
set_option maxHeartbeats 40000000 in
theorem rm7 (l : Launch) (Z : State) (a0 : Array Value) (hw : ∀ d ∈ tables_1, d.before a0 Z = true)  (a : Addr) (tk : Addr) (th : Addr) (te : Addr) (tb : Addr) (p1 : Int32) (kc : Int32) (kp : Int32) (cn : Int32) (fk : Nat → Int64) (fe : Nat → Int32) (h0 : Heap) (n0 : Nat) (Z0 : NLe n0 h0.size) (Fp0 : Exa Z h0 a "com/example/positano/positano/Postings") (Fp1 : Fld Z h0 a "com/example/positano/positano/Postings" "keys" "[J" (.ref tk)) (Fp2 : Fld Z h0 a "com/example/positano/positano/Postings" "heads" "[I" (.ref th)) (Fp3 : Fld Z h0 a "com/example/positano/positano/Postings" "entries" "[I" (.ref te)) (Fp4 : Fld Z h0 a "com/example/positano/positano/Postings" "before" "[I" (.ref tb)) (Fp5 : Fld Z h0 a "com/example/positano/positano/Postings" "maxPostings" "I" (.int (2147483639 : Int32))) (Fp6 : Fld Z h0 a "com/example/positano/positano/Postings" "maxKeys" "I" (.int (((1073741824 : Int32) / (4 : Int32)) * (3 : Int32)))) (Fp7 : Fld Z h0 a "com/example/positano/positano/Postings" "keyCount" "I" (.int kc)) (Fp8 : Fld Z h0 a "com/example/positano/positano/Postings" "kept" "I" (.int kp)) (Fp9 : Fld Z h0 a "com/example/positano/positano/Postings" "count" "I" (.int cn)) (Fp10 : LA Z h0 tk 17 fk) (Fp11 : IA Z h0 te 16 fe) (b1 : 0 ≤ p1.toInt ∧ p1.toInt ≤ 2) (b2 : 0 ≤ kc.toInt ∧ kc.toInt ≤ 8) (b3 : 0 ≤ kp.toInt ∧ kp.toInt ≤ 8) (b4 : 0 ≤ cn.toInt ∧ cn.toInt ≤ 8) :
    Con l (⟨"com/example/positano/positano/Postings", "makeRoom", "(I)V"⟩ : MethodName) prog_11_method_8_code 6 none [] R7 Z #[(.ref a), (.int p1)] h0 n0 (Q7 Z a tk th te tb p1 kc kp cn fk fe h0 n0) := by
  refine con_of (Ls0 := #[.val (.ref a), .val (.int p1), .unset, .unset, .unset, .unset]) pn_6 (fun m => by first | (simp [entryFrame, mkF, argsToLocals, Value.category, maxLocals]; done) | rfl) ?_
  intro p e s m below meth c s₁ X0 hx hby hml hZ hown hnm hret hlk e0 N0
  show OGoes p e s below (Q7 Z a tk th te tb p1 kc kp cn fk fe h0 n0) n0 R7.cells R7.slots s₁ (mkF m 0 #[.val (.ref a), .val (.int p1), .unset, .unset, .unset, .unset] [])
  refine g_aloadN X0 hx (hb hby d8_0) (v := (.ref a)) rfl rfl (pc' := 1) rfl ?_
  refine g_getF X0 hx hZ hown (hw _ (List.mem_of_getElem? (i := 49) rfl)) e0 Fp9 (hb hby d8_1) (pc' := 4) rfl (fun T1 X2 e3 => ?_)
  refine g_aloadN X2 hx (hb hby d8_4) (v := (.ref a)) rfl rfl (pc' := 5) rfl ?_
  refine g_getF X2 hx hZ hown (hw _ (List.mem_of_getElem? (i := 33) rfl)) e3 Fp5 (hb hby d8_5) (pc' := 8) rfl (fun T4 X5 e6 => ?_)
  refine g_iloadN X5 hx (hb hby d8_8) (v := p1) rfl (pc' := 9) rfl ?_
  refine g_isub X5 hx (hb hby d8_9) (pc' := 10) rfl ?_
  refine g_ii_le X5 hx (a := cn.toInt) (b := (2147483639 - p1.toInt)) rfl (own_r0 rfl (by decide) b1) (hb hby d8_10) (by decide) (pc' := 30) (by decide) (pc2 := 13) rfl (fun c7 => ?_) (fun c7 => False.elim (by omega))
  refine g_aloadN X5 hx (hb hby d8_30) (v := (.ref a)) rfl rfl (pc' := 31) rfl ?_
  refine g_getF X5 hx hZ hown (hw _ (List.mem_of_getElem? (i := 51) rfl)) e6 Fp7 (hb hby d8_31) (pc' := 34) rfl (fun T8 X9 e10 => ?_)
  refine g_aloadN X9 hx (hb hby d8_34) (v := (.ref a)) rfl rfl (pc' := 35) rfl ?_
  refine g_getF X9 hx hZ hown (hw _ (List.mem_of_getElem? (i := 38) rfl)) e10 Fp6 (hb hby d8_35) (pc' := 38) rfl (fun T11 X12 e13 => ?_)
  refine g_iloadN X12 hx (hb hby d8_38) (v := p1) rfl (pc' := 39) rfl ?_
  refine g_isub X12 hx (hb hby d8_39) (pc' := 40) rfl ?_
  refine g_ii_le X12 hx (a := kc.toInt) (b := (805306368 - p1.toInt)) rfl (own_r0 (by decide) (by decide) b1) (hb hby d8_40) (by decide) (pc' := 60) (by decide) (pc2 := 43) rfl (fun c14 => ?_) (fun c14 => False.elim (by omega))
  refine g_aloadN X12 hx (hb hby d8_60) (v := (.ref a)) rfl rfl (pc' := 61) rfl ?_
  refine g_getF X12 hx hZ hown (hw _ (List.mem_of_getElem? (i := 17) rfl)) e13 Fp1 (hb hby d8_61) (pc' := 64) rfl (fun T15 X16 e17 => ?_)
  refine g_lenLA X16 hx hZ e17 (z := (17 : Int32)) Fp10 rfl (hb hby d8_64) (pc' := 65) rfl ?_
  refine g_iconst X16 hx (hb hby d8_65) (v := 1) (by decide) (pc' := 66) rfl ?_
  refine g_isub X16 hx (hb hby d8_66) (pc' := 67) rfl ?_
  refine g_istoreN X16 hx (hb hby d8_67) (Ls' := #[.val (.ref a), .val (.int p1), .val (.int ((17 : Int32) - (1 : Int32))), .unset, .unset, .unset]) rfl (pc' := 68) rfl ?_
  refine g_iloadN X16 hx (hb hby d8_68) (v := ((17 : Int32) - (1 : Int32))) rfl (pc' := 69) rfl ?_
  refine g_static X16 hx hZ hown (hw _ (List.mem_of_getElem? (i := 35) rfl)) (hw _ (List.mem_of_getElem? (i := 36) rfl)) (hw _ (List.mem_of_getElem? (i := 8) rfl)) (hw _ (List.mem_of_getElem? (i := 37) rfl)) (by decide) (argsL := [(.int ((17 : Int32) - (1 : Int32)))]) (rm2 l Z a0 hw ((17 : Int32) - (1 : Int32)) h0 n0 Z0 ) rfl e17 (by rw [hml]; rfl) pd_4 rfl (rest := []) rfl (W := 0) (Nat.le_of_eq rfl) (by decide) (by decide) (by decide) (by decide) N0 (hb hby d8_69) (pc' := 72) rfl (fun v18 T19 L20 X21 N22 q23 => ?_)
  obtain ⟨rfl, K24⟩ := q23
  show OGoes p e s below (Q7 Z a tk th te tb p1 kc kp cn fk fe h0 n0) n0 R7.cells R7.slots T19 (mkF m 72 #[.val (.ref a), .val (.int p1), .val (.int ((17 : Int32) - (1 : Int32))), .unset, .unset, .unset] [(.int ((((17 : Int32) - (1 : Int32)) / (4 : Int32)) * (3 : Int32)))])
  refine g_aloadN X21 hx (hb hby d8_72) (v := (.ref a)) rfl rfl (pc' := 73) rfl ?_
  refine g_getF X21 hx hZ hown (hw _ (List.mem_of_getElem? (i := 51) rfl)) K24 Fp7 (hb hby d8_73) (pc' := 76) rfl (fun T25 X26 e27 => ?_)
  refine g_iloadN X26 hx (hb hby d8_76) (v := p1) rfl (pc' := 77) rfl ?_
  refine g_iadd X26 hx (hb hby d8_77) (pc' := 78) rfl ?_
  refine g_ii_ge X26 hx (a := 12) (b := (kc.toInt + p1.toInt)) (by decide) (own_r3 kc p1 b2 b1) (hb hby d8_78) (by decide) (pc' := 88) (by decide) (pc2 := 81) rfl (fun c28 => ?_) (fun c28 => False.elim (by omega))
  refine g_iloadN X26 hx (hb hby d8_88) (v := ((17 : Int32) - (1 : Int32))) rfl (pc' := 89) rfl ?_
  refine g_aloadN X26 hx (hb hby d8_89) (v := (.ref a)) rfl rfl (pc' := 90) rfl ?_
  refine g_getF X26 hx hZ hown (hw _ (List.mem_of_getElem? (i := 17) rfl)) e27 Fp1 (hb hby d8_90) (pc' := 93) rfl (fun T29 X30 e31 => ?_)
  refine g_lenLA X30 hx hZ e31 (z := (17 : Int32)) Fp10 rfl (hb hby d8_93) (pc' := 94) rfl ?_
  refine g_iconst X30 hx (hb hby d8_94) (v := 1) (by decide) (pc' := 95) rfl ?_
  refine g_isub X30 hx (hb hby d8_95) (pc' := 96) rfl ?_
  refine g_ii_le X30 hx (a := 16) (b := 16) (by decide) (by decide) (hb hby d8_96) (by decide) (pc' := 104) (by decide) (pc2 := 99) rfl (fun c32 => ?_) (fun c32 => False.elim (by omega))
  refine g_aloadN X30 hx (hb hby d8_104) (v := (.ref a)) rfl rfl (pc' := 105) rfl ?_
  refine g_getF X30 hx hZ hown (hw _ (List.mem_of_getElem? (i := 53) rfl)) e31 Fp8 (hb hby d8_105) (pc' := 108) rfl (fun T33 X34 e35 => ?_)
  refine g_iloadN X34 hx (hb hby d8_108) (v := p1) rfl (pc' := 109) rfl ?_
  refine g_iadd X34 hx (hb hby d8_109) (pc' := 110) rfl ?_
  refine g_aloadN X34 hx (hb hby d8_110) (v := (.ref a)) rfl rfl (pc' := 111) rfl ?_
  refine g_getF X34 hx hZ hown (hw _ (List.mem_of_getElem? (i := 29) rfl)) e35 Fp3 (hb hby d8_111) (pc' := 114) rfl (fun T36 X37 e38 => ?_)
  refine g_lenIA X37 hx hZ e38 (z := (16 : Int32)) Fp11 rfl (hb hby d8_114) (pc' := 115) rfl ?_
  refine g_ii_le X37 hx (a := (kp.toInt + p1.toInt)) (b := 16) (own_r3 kp p1 b3 b1) rfl (hb hby d8_115) (by decide) (pc' := 181) (by decide) (pc2 := 118) rfl (fun c39 => ?_) (fun c39 => False.elim (by omega))
  refine g_retV X37 hx hlk hret (hb hby d8_181) N22 (by decide) (by decide) ?_
  exact ⟨rfl, e38⟩
theorem d9_0 : decode prog_11_method_10_code 0 = .ok (.aload_n 0, 1) := by decide +kernel
theorem d9_1 : decode prog_11_method_10_code 1 = .ok (.getfield 16, 3) := by decide +kernel
theorem d9_4 : decode prog_11_method_10_code 4 = .ok (.arraylength, 1) := by decide +kernel
theorem d9_5 : decode prog_11_method_10_code 5 = .ok (.iconst 2, 1) := by decide +kernel
theorem d9_6 : decode prog_11_method_10_code 6 = .ok (.isub, 1) := by decide +kernel
theorem d9_7 : decode prog_11_method_10_code 7 = .ok (.istore_n 3, 1) := by decide +kernel
theorem d9_8 : decode prog_11_method_10_code 8 = .ok (.iload_n 3, 1) := by decide +kernel
theorem d9_9 : decode prog_11_method_10_code 9 = .ok (.iconst 1, 1) := by decide +kernel
theorem d9_10 : decode prog_11_method_10_code 10 = .ok (.iadd, 1) := by decide +kernel
theorem d9_11 : decode prog_11_method_10_code 11 = .ok (.istore 4, 2) := by decide +kernel
theorem d9_13 : decode prog_11_method_10_code 13 = .ok (.lload_n 1, 1) := by decide +kernel
theorem d9_14 : decode prog_11_method_10_code 14 = .ok (.lconst 0, 1) := by decide +kernel
theorem d9_15 : decode prog_11_method_10_code 15 = .ok (.lcmp, 1) := by decide +kernel
theorem d9_16 : decode prog_11_method_10_code 16 = .ok (.ifCond .eq 51, 3) := by decide +kernel
theorem d9_19 : decode prog_11_method_10_code 19 = .ok (.lload_n 1, 1) := by decide +kernel
theorem d9_20 : decode prog_11_method_10_code 20 = .ok (.ldc2_w 95, 3) := by decide +kernel
theorem d9_23 : decode prog_11_method_10_code 23 = .ok (.lmul, 1) := by decide +kernel
theorem d9_24 : decode prog_11_method_10_code 24 = .ok (.bipush 32, 2) := by decide +kernel
theorem d9_26 : decode prog_11_method_10_code 26 = .ok (.lushr, 1) := by decide +kernel
theorem d9_27 : decode prog_11_method_10_code 27 = .ok (.l2i, 1) := by decide +kernel
theorem d9_28 : decode prog_11_method_10_code 28 = .ok (.iload_n 3, 1) := by decide +kernel
theorem d9_29 : decode prog_11_method_10_code 29 = .ok (.iand, 1) := by decide +kernel
theorem d9_30 : decode prog_11_method_10_code 30 = .ok (.istore 4, 2) := by decide +kernel
theorem d9_32 : decode prog_11_method_10_code 32 = .ok (.aload_n 0, 1) := by decide +kernel
theorem d9_33 : decode prog_11_method_10_code 33 = .ok (.getfield 16, 3) := by decide +kernel
theorem d9_36 : decode prog_11_method_10_code 36 = .ok (.iload 4, 2) := by decide +kernel
theorem d9_38 : decode prog_11_method_10_code 38 = .ok (.laload, 1) := by decide +kernel
theorem d9_39 : decode prog_11_method_10_code 39 = .ok (.lconst 0, 1) := by decide +kernel
theorem d9_40 : decode prog_11_method_10_code 40 = .ok (.lcmp, 1) := by decide +kernel
theorem d9_41 : decode prog_11_method_10_code 41 = .ok (.ifCond .eq 26, 3) := by decide +kernel
theorem d9_44 : decode prog_11_method_10_code 44 = .ok (.aload_n 0, 1) := by decide +kernel
theorem d9_45 : decode prog_11_method_10_code 45 = .ok (.getfield 16, 3) := by decide +kernel
theorem d9_48 : decode prog_11_method_10_code 48 = .ok (.iload 4, 2) := by decide +kernel
theorem d9_50 : decode prog_11_method_10_code 50 = .ok (.laload, 1) := by decide +kernel
theorem d9_51 : decode prog_11_method_10_code 51 = .ok (.lload_n 1, 1) := by decide +kernel
theorem d9_52 : decode prog_11_method_10_code 52 = .ok (.lcmp, 1) := by decide +kernel
theorem d9_53 : decode prog_11_method_10_code 53 = .ok (.ifCond .eq 14, 3) := by decide +kernel
theorem d9_56 : decode prog_11_method_10_code 56 = .ok (.iload 4, 2) := by decide +kernel
theorem d9_58 : decode prog_11_method_10_code 58 = .ok (.iconst 1, 1) := by decide +kernel
theorem d9_59 : decode prog_11_method_10_code 59 = .ok (.iadd, 1) := by decide +kernel
theorem d9_60 : decode prog_11_method_10_code 60 = .ok (.iload_n 3, 1) := by decide +kernel
theorem d9_61 : decode prog_11_method_10_code 61 = .ok (.iand, 1) := by decide +kernel
theorem d9_62 : decode prog_11_method_10_code 62 = .ok (.istore 4, 2) := by decide +kernel
theorem d9_64 : decode prog_11_method_10_code 64 = .ok (.goto (-32), 3) := by decide +kernel
theorem d9_67 : decode prog_11_method_10_code 67 = .ok (.iload 4, 2) := by decide +kernel
theorem d9_69 : decode prog_11_method_10_code 69 = .ok (.ireturn, 1) := by decide +kernel
theorem pn_7 : plainFor (⟨"com/example/positano/positano/Postings", "slot", "(J)I"⟩ : MethodName) = true := by first | exact plainFor_of_name (by first | (simp [plainName, overriddenIn]; done) | decide +kernel) | decide +kernel
def Q8 (Z : State) (a : Addr) (q1 : Int64) (tk : Addr) (fk : Nat → Int64) (k : Nat) (h0 : Heap) (n0 : Nat) (v : Option Value) (h : Heap) : Prop := ∃ b : Int32, v = some (.int b) ∧ (b.toInt = (k : Int)) ∧ h = h0
abbrev R8 : Room := { frames := 0, cells := 0, slots := 0, locals := 0 }
set_option maxRecDepth 65536 in
set_option maxHeartbeats 40000000 in
theorem rm8 (l : Launch) (Z : State) (a0 : Array Value) (hw : ∀ d ∈ tables_1, d.before a0 Z = true)  (a : Addr) (q1 : Int64) (tk : Addr) (fk : Nat → Int64) (k : Nat) (h0 : Heap) (n0 : Nat) (Z0 : NLe n0 h0.size) (Fp0 : Fld Z h0 a "com/example/positano/positano/Postings" "keys" "[J" (.ref tk)) (Fp1 : LA Z h0 tk 17 fk) (hS : own_Slot fk q1 k) :
    Con l (⟨"com/example/positano/positano/Postings", "slot", "(J)I"⟩ : MethodName) prog_11_method_10_code 5 (some .int) [] R8 Z #[(.ref a), (.long q1)] h0 n0 (Q8 Z a q1 tk fk k h0 n0) := by
  refine con_of (Ls0 := #[.val (.ref a), .val (.long q1), .second, .unset, .unset]) pn_7 (fun m => by first | (simp [entryFrame, mkF, argsToLocals, Value.category, maxLocals]; done) | rfl) ?_
  intro p e s m below meth c s₁ X0 hx hby hml hZ hown hnm hret hlk e0 N0
  show OGoes p e s below (Q8 Z a q1 tk fk k h0 n0) n0 R8.cells R8.slots s₁ (mkF m 0 #[.val (.ref a), .val (.long q1), .second, .unset, .unset] [])
  have lz : (0 : Int64).toInt = 0 := rfl
  refine g_aloadN X0 hx (hb hby d9_0) (v := (.ref a)) rfl rfl (pc' := 1) rfl ?_
  refine g_getF X0 hx hZ hown (hw _ (List.mem_of_getElem? (i := 17) rfl)) e0 Fp0 (hb hby d9_1) (pc' := 4) rfl (fun T1 X2 e3 => ?_)
  refine g_lenLA X2 hx hZ e3 (z := (17 : Int32)) Fp1 rfl (hb hby d9_4) (pc' := 5) rfl ?_
  refine g_iconst X2 hx (hb hby d9_5) (v := 2) (by decide) (pc' := 6) rfl ?_
  refine g_isub X2 hx (hb hby d9_6) (pc' := 7) rfl ?_
  refine g_istoreN X2 hx (hb hby d9_7) (Ls' := #[.val (.ref a), .val (.long q1), .second, .val (.int ((17 : Int32) - (2 : Int32))), .unset]) rfl (pc' := 8) rfl ?_
  refine g_iloadN X2 hx (hb hby d9_8) (v := ((17 : Int32) - (2 : Int32))) rfl (pc' := 9) rfl ?_
  refine g_iconst X2 hx (hb hby d9_9) (v := 1) (by decide) (pc' := 10) rfl ?_
  refine g_iadd X2 hx (hb hby d9_10) (pc' := 11) rfl ?_
  refine g_istore X2 hx (hb hby d9_11) (Ls' := #[.val (.ref a), .val (.long q1), .second, .val (.int ((17 : Int32) - (2 : Int32))), .val (.int (((17 : Int32) - (2 : Int32)) + (1 : Int32)))]) rfl (pc' := 13) rfl ?_
  refine g_lloadN X2 hx (hb hby d9_13) (v := q1) rfl (pc' := 14) rfl ?_
  refine g_lconst X2 hx (hb hby d9_14) (v := 0) (by decide) (pc' := 15) rfl ?_
  refine g_ll_eq X2 hx (a := q1.toInt) (b := 0) rfl rfl (hb hby d9_15) (pc1 := 16) rfl (hb hby d9_16) (by decide) (pc' := 67) (by decide) (pc2 := 19) rfl (fun cz => ?_) (fun cz => ?_)
  · refine g_iload X2 hx (hb hby d9_67) (v := (((17 : Int32) - (2 : Int32)) + (1 : Int32))) rfl (pc' := 69) rfl ?_
    refine g_retI X2 hx hlk hret (hb hby d9_69) N0 (by decide) (by decide) ?_
    exact ⟨_, rfl, own_slot0 hS cz, e3⟩
  · have hq : q1 ≠ 0 := fun z => cz (by rw [z, lz])
    rcases hS with hS | ⟨-, d, hd, hkd, hend, hpath⟩
    · exact absurd hS.1 hq
    refine g_lloadN X2 hx (hb hby d9_19) (v := q1) rfl (pc' := 20) rfl ?_
    refine g_ldc2 X2 hx hZ hown (hb hby d9_20) (v := -7046029254386353131) (hw _ (List.mem_of_getElem? (i := 59) rfl)) (pc' := 23) rfl ?_
    refine g_lmul X2 hx (hb hby d9_23) (pc' := 24) rfl ?_
    refine g_bipush X2 hx (hb hby d9_24) (v := 32) (by decide) (pc' := 26) rfl ?_
    refine g_lushr X2 hx (hb hby d9_26) (pc' := 27) rfl ?_
    refine g_l2i X2 hx (hb hby d9_27) (pc' := 28) rfl ?_
    refine g_iloadN X2 hx (hb hby d9_28) (v := ((17 : Int32) - (2 : Int32))) rfl (pc' := 29) rfl ?_
    refine g_iand X2 hx (hb hby d9_29) (pc' := 30) rfl ?_
    refine g_istore X2 hx (hb hby d9_30) (Ls' := #[.val (.ref a), .val (.long q1), .second, .val (.int ((17 : Int32) - (2 : Int32))), .val (.int ((XT.ushrL (q1 * (-7046029254386353131 : Int64)) (32 : Int32)).toInt32 &&& ((17 : Int32) - (2 : Int32))))]) rfl (pc' := 32) rfl ?_
    have hj0 : (((XT.ushrL (q1 * (-7046029254386353131 : Int64)) (32 : Int32)).toInt32 &&& ((17 : Int32) - (2 : Int32)))).toInt = ((own_hs q1 % 16 : Nat) : Int) := own_hs_eq q1
    have loop : ∀ (k1 : Nat) (t : Nat) (x1 : Nat) (j : Int32) (Tl : State) (Ll : List Loc) , t + k1 = d → x1 = (own_hs q1 + t) % 16 → j.toInt = (x1 : Int) → Stand p l e R8 s m #[(.ref a), (.long q1)] below meth c Tl Ll 0 0 → Tl.heap = h0 → Fr n0 Ll → Fld Z h0 a "com/example/positano/positano/Postings" "keys" "[J" (.ref tk) → LA Z h0 tk 17 fk → OGoes p e s below (Q8 Z a q1 tk fk k h0 n0) n0 R8.cells R8.slots Tl (mkF m 32 #[.val (.ref a), .val (.long q1), .second, .val (.int ((17 : Int32) - (2 : Int32))), .val (.int j)] []) := by
      intro k1; induction k1 with
      | zero =>
        intro t x1 j Tl Ll htk hx1 hj Xl El Nl Fl0 Fl1
        have hxk : x1 = k := by omega
        refine g_aloadN Xl hx (hb hby d9_32) (v := (.ref a)) rfl rfl (pc' := 33) rfl ?_
        refine g_getF Xl hx hZ hown (hw _ (List.mem_of_getElem? (i := 17) rfl)) El Fl0 (hb hby d9_33) (pc' := 36) rfl (fun T4 X5 e6 => ?_)
        refine g_iload X5 hx (hb hby d9_36) (v := j) rfl (pc' := 38) rfl ?_
        refine g_laload X5 hx hZ e6 (k := x1) Fl1 hj (by omega) (hb hby d9_38) (pc' := 39) rfl ?_
        refine g_lconst X5 hx (hb hby d9_39) (v := 0) (by decide) (pc' := 40) rfl ?_
        refine g_ll_eq X5 hx (a := (fk x1).toInt) (b := 0) rfl rfl (hb hby d9_40) (pc1 := 41) rfl (hb hby d9_41) (by decide) (pc' := 67) (by decide) (pc2 := 44) rfl (fun ce => ?_) (fun ce => ?_)
        · refine g_iload X5 hx (hb hby d9_67) (v := j) rfl (pc' := 69) rfl ?_
          refine g_retI X5 hx hlk hret (hb hby d9_69) Nl (by decide) (by decide) ?_
          exact ⟨_, rfl, by rw [hj, hxk], e6⟩
        · refine g_aloadN X5 hx (hb hby d9_44) (v := (.ref a)) rfl rfl (pc' := 45) rfl ?_
          refine g_getF X5 hx hZ hown (hw _ (List.mem_of_getElem? (i := 17) rfl)) e6 Fl0 (hb hby d9_45) (pc' := 48) rfl (fun T7 X8 e9 => ?_)
          refine g_iload X8 hx (hb hby d9_48) (v := j) rfl (pc' := 50) rfl ?_
          refine g_laload X8 hx hZ e9 (k := x1) Fl1 hj (by omega) (hb hby d9_50) (pc' := 51) rfl ?_
          refine g_lloadN X8 hx (hb hby d9_51) (v := q1) rfl (pc' := 52) rfl ?_
          refine g_ll_eq X8 hx (a := (fk x1).toInt) (b := q1.toInt) rfl rfl (hb hby d9_52) (pc1 := 53) rfl (hb hby d9_53) (by decide) (pc' := 67) (by decide) (pc2 := 56) rfl (fun cf => ?_) (fun cf => False.elim (by exact hend.elim (fun z => ce (by rw [hxk, z]; rfl)) (fun z => cf (by rw [hxk, z]))))
          refine g_iload X8 hx (hb hby d9_67) (v := j) rfl (pc' := 69) rfl ?_
          refine g_retI X8 hx hlk hret (hb hby d9_69) Nl (by decide) (by decide) ?_
          exact ⟨_, rfl, by rw [hj, hxk], e9⟩
      | succ k1 ih =>
        intro t x1 j Tl Ll htk hx1 hj Xl El Nl Fl0 Fl1
        have hp := hpath t (by omega)
        rw [← hx1] at hp
        refine g_aloadN Xl hx (hb hby d9_32) (v := (.ref a)) rfl rfl (pc' := 33) rfl ?_
        refine g_getF Xl hx hZ hown (hw _ (List.mem_of_getElem? (i := 17) rfl)) El Fl0 (hb hby d9_33) (pc' := 36) rfl (fun T10 X11 e12 => ?_)
        refine g_iload X11 hx (hb hby d9_36) (v := j) rfl (pc' := 38) rfl ?_
        refine g_laload X11 hx hZ e12 (k := x1) Fl1 hj (by omega) (hb hby d9_38) (pc' := 39) rfl ?_
        refine g_lconst X11 hx (hb hby d9_39) (v := 0) (by decide) (pc' := 40) rfl ?_
        refine g_ll_eq X11 hx (a := (fk x1).toInt) (b := 0) rfl rfl (hb hby d9_40) (pc1 := 41) rfl (hb hby d9_41) (by decide) (pc' := 67) (by decide) (pc2 := 44) rfl (fun ce => False.elim (by exact hp.1 (Int64.toInt_inj.mp ce))) (fun ce => ?_)
        refine g_aloadN X11 hx (hb hby d9_44) (v := (.ref a)) rfl rfl (pc' := 45) rfl ?_
        refine g_getF X11 hx hZ hown (hw _ (List.mem_of_getElem? (i := 17) rfl)) e12 Fl0 (hb hby d9_45) (pc' := 48) rfl (fun T13 X14 e15 => ?_)
        refine g_iload X14 hx (hb hby d9_48) (v := j) rfl (pc' := 50) rfl ?_
        refine g_laload X14 hx hZ e15 (k := x1) Fl1 hj (by omega) (hb hby d9_50) (pc' := 51) rfl ?_
        refine g_lloadN X14 hx (hb hby d9_51) (v := q1) rfl (pc' := 52) rfl ?_
        refine g_ll_eq X14 hx (a := (fk x1).toInt) (b := q1.toInt) rfl rfl (hb hby d9_52) (pc1 := 53) rfl (hb hby d9_53) (by decide) (pc' := 67) (by decide) (pc2 := 56) rfl (fun cf => False.elim (by exact hp.2 (Int64.toInt_inj.mp cf))) (fun cf => ?_)
        refine g_iload X14 hx (hb hby d9_56) (v := j) rfl (pc' := 58) rfl ?_
        refine g_iconst X14 hx (hb hby d9_58) (v := 1) (by decide) (pc' := 59) rfl ?_
        refine g_iadd X14 hx (hb hby d9_59) (pc' := 60) rfl ?_
        refine g_iloadN X14 hx (hb hby d9_60) (v := ((17 : Int32) - (2 : Int32))) rfl (pc' := 61) rfl ?_
        refine g_iand X14 hx (hb hby d9_61) (pc' := 62) rfl ?_
        refine g_istore X14 hx (hb hby d9_62) (Ls' := #[.val (.ref a), .val (.long q1), .second, .val (.int ((17 : Int32) - (2 : Int32))), .val (.int ((j + (1 : Int32)) &&& ((17 : Int32) - (2 : Int32))))]) rfl (pc' := 64) rfl ?_
        have ad := c_iadd j 1; have l1 : (1 : Int32).toInt = 1 := rfl; have := (j + 1).toInt_lt; have := (j + 1).le_toInt; have mk := c_mask (j + (1 : Int32)) ((17 : Int32) - (2 : Int32)) 4 (by decide) (by decide)
        refine g_goto X14 hx (hb hby d9_64) (by decide) (pc' := 32) (by decide) ?_
        exact ih (t + 1) ((x1 + 1) % 16) ((j + (1 : Int32)) &&& ((17 : Int32) - (2 : Int32))) _ _ (by omega) (by omega) (by omega) X14 e15 Nl Fl0 Fl1
    exact loop d 0 (own_hs q1 % 16) ((XT.ushrL (q1 * (-7046029254386353131 : Int64)) (32 : Int32)).toInt32 &&& ((17 : Int32) - (2 : Int32))) _ _ (by omega) (by omega) hj0 X2 e3 N0 Fp0 Fp1
theorem d11_0 : decode prog_11_method_4_code 0 = .ok (.aload_n 0, 1) := by decide +kernel
theorem d11_1 : decode prog_11_method_4_code 1 = .ok (.lload_n 1, 1) := by decide +kernel
theorem d11_2 : decode prog_11_method_4_code 2 = .ok (.invokevirtual 49, 3) := by decide +kernel
theorem d11_5 : decode prog_11_method_4_code 5 = .ok (.istore_n 3, 1) := by decide +kernel
theorem d11_6 : decode prog_11_method_4_code 6 = .ok (.aload_n 0, 1) := by decide +kernel
theorem d11_7 : decode prog_11_method_4_code 7 = .ok (.getfield 16, 3) := by decide +kernel
theorem d11_10 : decode prog_11_method_4_code 10 = .ok (.iload_n 3, 1) := by decide +kernel
theorem d11_11 : decode prog_11_method_4_code 11 = .ok (.laload, 1) := by decide +kernel
theorem d11_12 : decode prog_11_method_4_code 12 = .ok (.lload_n 1, 1) := by decide +kernel
theorem d11_13 : decode prog_11_method_4_code 13 = .ok (.lcmp, 1) := by decide +kernel
theorem d11_14 : decode prog_11_method_4_code 14 = .ok (.ifCond .ne 12, 3) := by decide +kernel
theorem d11_17 : decode prog_11_method_4_code 17 = .ok (.aload_n 0, 1) := by decide +kernel
theorem d11_18 : decode prog_11_method_4_code 18 = .ok (.getfield 24, 3) := by decide +kernel
theorem d11_21 : decode prog_11_method_4_code 21 = .ok (.iload_n 3, 1) := by decide +kernel
theorem d11_22 : decode prog_11_method_4_code 22 = .ok (.iaload, 1) := by decide +kernel
theorem d11_23 : decode prog_11_method_4_code 23 = .ok (.goto 4, 3) := by decide +kernel
theorem d11_26 : decode prog_11_method_4_code 26 = .ok (.iconst (-1), 1) := by decide +kernel
theorem d11_27 : decode prog_11_method_4_code 27 = .ok (.ireturn, 1) := by decide +kernel
theorem pn_8 : plainFor (⟨"com/example/positano/positano/Postings", "first", "(J)I"⟩ : MethodName) = true := by first | exact plainFor_of_name (by first | (simp [plainName, overriddenIn]; done) | decide +kernel) | decide +kernel
def Q9 (Z : State) (a : Addr) (q1 : Int64) (tk : Addr) (th : Addr) (fk : Nat → Int64) (fh : Nat → Int32) (k : Nat) (h0 : Heap) (n0 : Nat) (v : Option Value) (h : Heap) : Prop := v = some (.int (fh k)) ∧ h = h0
abbrev R9 : Room := { frames := 1, cells := 0, slots := 0, locals := 16 }
set_option maxRecDepth 65536 in
set_option maxHeartbeats 40000000 in
theorem rm9 (l : Launch) (Z : State) (a0 : Array Value) (hw : ∀ d ∈ tables_1, d.before a0 Z = true)  (a : Addr) (q1 : Int64) (tk : Addr) (th : Addr) (fk : Nat → Int64) (fh : Nat → Int32) (k : Nat) (h0 : Heap) (n0 : Nat) (Z0 : NLe n0 h0.size) (Fp0 : Exa Z h0 a "com/example/positano/positano/Postings") (Fp1 : Fld Z h0 a "com/example/positano/positano/Postings" "keys" "[J" (.ref tk)) (Fp2 : Fld Z h0 a "com/example/positano/positano/Postings" "heads" "[I" (.ref th)) (Fp3 : LA Z h0 tk 17 fk) (Fp4 : IA Z h0 th 17 fh) (hS : own_Slot fk q1 k) (hk : fk k = q1) :
    Con l (⟨"com/example/positano/positano/Postings", "first", "(J)I"⟩ : MethodName) prog_11_method_4_code 4 (some .int) [] R9 Z #[(.ref a), (.long q1)] h0 n0 (Q9 Z a q1 tk th fk fh k h0 n0) := by
  refine con_of (Ls0 := #[.val (.ref a), .val (.long q1), .second, .unset]) pn_8 (fun m => by first | (simp [entryFrame, mkF, argsToLocals, Value.category, maxLocals]; done) | rfl) ?_
  intro p e s m below meth c s₁ X0 hx hby hml hZ hown hnm hret hlk e0 N0
  show OGoes p e s below (Q9 Z a q1 tk th fk fh k h0 n0) n0 R9.cells R9.slots s₁ (mkF m 0 #[.val (.ref a), .val (.long q1), .second, .unset] [])
  have hkl := own_Slot_lt hS
  refine g_aloadN X0 hx (hb hby d11_0) (v := (.ref a)) rfl rfl (pc' := 1) rfl ?_
  refine g_lloadN X0 hx (hb hby d11_1) (v := q1) rfl (pc' := 2) rfl ?_
  refine g_private X0 hx hZ hown (hw _ (List.mem_of_getElem? (i := 55) rfl)) (hw _ (List.mem_of_getElem? (i := 56) rfl)) (hw _ (List.mem_of_getElem? (i := 57) rfl)) (hw _ (List.mem_of_getElem? (i := 7) rfl)) (hw _ (List.mem_of_getElem? (i := 8) rfl)) (hw _ (List.mem_of_getElem? (i := 58) rfl)) (by decide) (a := a) (argsL := [(.long q1)]) (rm8 l Z a0 hw a q1 tk fk k h0 n0 Z0 Fp1 Fp3 hS) rfl e0 Fp0 (by rw [hml]; rfl) pd_7 rfl (rest := []) rfl (W := 0) (Nat.le_of_eq rfl) (by decide) (by decide) (by decide) (by decide) N0 (hb hby d11_2) (pc' := 5) rfl (fun v1 T2 L3 X4 N5 q6 => ?_)
  obtain ⟨b7, rfl, f8, K9⟩ := q6
  show OGoes p e s below (Q9 Z a q1 tk th fk fh k h0 n0) n0 R9.cells R9.slots T2 (mkF m 5 #[.val (.ref a), .val (.long q1), .second, .unset] [(.int b7)])
  refine g_istoreN X4 hx (hb hby d11_5) (Ls' := #[.val (.ref a), .val (.long q1), .second, .val (.int b7)]) rfl (pc' := 6) rfl ?_
  refine g_aloadN X4 hx (hb hby d11_6) (v := (.ref a)) rfl rfl (pc' := 7) rfl ?_
  refine g_getF X4 hx hZ hown (hw _ (List.mem_of_getElem? (i := 17) rfl)) K9 Fp1 (hb hby d11_7) (pc' := 10) rfl (fun T10 X11 e12 => ?_)
  refine g_iloadN X11 hx (hb hby d11_10) (v := b7) rfl (pc' := 11) rfl ?_
  refine g_laload X11 hx hZ e12 (k := k) Fp3 f8 (by omega) (hb hby d11_11) (pc' := 12) rfl ?_
  refine g_lloadN X11 hx (hb hby d11_12) (v := q1) rfl (pc' := 13) rfl ?_
  refine g_ll_ne X11 hx (a := (fk k).toInt) (b := q1.toInt) rfl rfl (hb hby d11_13) (pc1 := 14) rfl (hb hby d11_14) (by decide) (pc' := 26) (by decide) (pc2 := 17) rfl (fun cc => False.elim (by exact cc (by rw [hk]))) (fun cc => ?_)
  refine g_aloadN X11 hx (hb hby d11_17) (v := (.ref a)) rfl rfl (pc' := 18) rfl ?_
  refine g_getF X11 hx hZ hown (hw _ (List.mem_of_getElem? (i := 27) rfl)) e12 Fp2 (hb hby d11_18) (pc' := 21) rfl (fun T13 X14 e15 => ?_)
  refine g_iloadN X14 hx (hb hby d11_21) (v := b7) rfl (pc' := 22) rfl ?_
  refine g_iaload X14 hx hZ e15 (k := k) Fp4 f8 (by omega) (hb hby d11_22) (pc' := 23) rfl ?_
  refine g_goto X14 hx (hb hby d11_23) (by decide) (pc' := 27) (by decide) ?_
  refine g_retI X14 hx hlk hret (hb hby d11_27) N5 (by decide) (by decide) ?_
  exact ⟨rfl, e15⟩
theorem d12_0 : decode prog_11_method_5_code 0 = .ok (.iload_n 1, 1) := by decide +kernel
theorem d12_1 : decode prog_11_method_5_code 1 = .ok (.ifCond .lt 12, 3) := by decide +kernel
theorem d12_4 : decode prog_11_method_5_code 4 = .ok (.aload_n 0, 1) := by decide +kernel
theorem d12_5 : decode prog_11_method_5_code 5 = .ok (.getfield 31, 3) := by decide +kernel
theorem d12_8 : decode prog_11_method_5_code 8 = .ok (.iload_n 1, 1) := by decide +kernel
theorem d12_9 : decode prog_11_method_5_code 9 = .ok (.iaload, 1) := by decide +kernel
theorem d12_10 : decode prog_11_method_5_code 10 = .ok (.goto 4, 3) := by decide +kernel
theorem d12_13 : decode prog_11_method_5_code 13 = .ok (.iconst (-1), 1) := by decide +kernel
theorem d12_14 : decode prog_11_method_5_code 14 = .ok (.ireturn, 1) := by decide +kernel
theorem pn_9 : plainFor (⟨"com/example/positano/positano/Postings", "next", "(I)I"⟩ : MethodName) = true := by first | exact plainFor_of_name (by first | (simp [plainName, overriddenIn]; done) | decide +kernel) | decide +kernel
def Q10 (Z : State) (a : Addr) (p1 : Int32) (tb : Addr) (fb : Nat → Int32) (k : Nat) (h0 : Heap) (n0 : Nat) (v : Option Value) (h : Heap) : Prop := v = some (.int (fb k)) ∧ h = h0
abbrev R10 : Room := { frames := 0, cells := 0, slots := 0, locals := 0 }
set_option maxRecDepth 65536 in
set_option maxHeartbeats 40000000 in
theorem rm10 (l : Launch) (Z : State) (a0 : Array Value) (hw : ∀ d ∈ tables_1, d.before a0 Z = true)  (a : Addr) (p1 : Int32) (tb : Addr) (fb : Nat → Int32) (k : Nat) (h0 : Heap) (n0 : Nat) (Z0 : NLe n0 h0.size) (Fp0 : Fld Z h0 a "com/example/positano/positano/Postings" "before" "[I" (.ref tb)) (Fp1 : IA Z h0 tb 16 fb) (hk : p1.toInt = (k : Int)) (hk2 : k < 16) :
    Con l (⟨"com/example/positano/positano/Postings", "next", "(I)I"⟩ : MethodName) prog_11_method_5_code 2 (some .int) [] R10 Z #[(.ref a), (.int p1)] h0 n0 (Q10 Z a p1 tb fb k h0 n0) := by
  refine con_of (Ls0 := #[.val (.ref a), .val (.int p1)]) pn_9 (fun m => by first | (simp [entryFrame, mkF, argsToLocals, Value.category, maxLocals]; done) | rfl) ?_
  intro p e s m below meth c s₁ X0 hx hby hml hZ hown hnm hret hlk e0 N0
  show OGoes p e s below (Q10 Z a p1 tb fb k h0 n0) n0 R10.cells R10.slots s₁ (mkF m 0 #[.val (.ref a), .val (.int p1)] [])
  refine g_iloadN X0 hx (hb hby d12_0) (v := p1) rfl (pc' := 1) rfl ?_
  refine g_i0_lt X0 hx (a := (k : Int)) hk (hb hby d12_1) (by decide) (pc' := 13) (by decide) (pc2 := 4) rfl (fun c1 => False.elim (by omega)) (fun c1 => ?_)
  refine g_aloadN X0 hx (hb hby d12_4) (v := (.ref a)) rfl rfl (pc' := 5) rfl ?_
  refine g_getF X0 hx hZ hown (hw _ (List.mem_of_getElem? (i := 31) rfl)) e0 Fp0 (hb hby d12_5) (pc' := 8) rfl (fun T2 X3 e4 => ?_)
  refine g_iloadN X3 hx (hb hby d12_8) (v := p1) rfl (pc' := 9) rfl ?_
  refine g_iaload X3 hx hZ e4 (k := k) Fp1 hk (by omega) (hb hby d12_9) (pc' := 10) rfl ?_
  refine g_goto X3 hx (hb hby d12_10) (by decide) (pc' := 14) (by decide) ?_
  refine g_retI X3 hx hlk hret (hb hby d12_14) N0 (by decide) (by decide) ?_
  exact ⟨rfl, e4⟩
def Q11 (Z : State) (a : Addr) (p1 : Int32) (h0 : Heap) (n0 : Nat) (v : Option Value) (h : Heap) : Prop := v = some (.int (-1 : Int32)) ∧ h = h0
abbrev R11 : Room := { frames := 0, cells := 0, slots := 0, locals := 0 }
set_option maxRecDepth 65536 in
set_option maxHeartbeats 40000000 in
theorem rm11 (l : Launch) (Z : State) (a0 : Array Value) (hw : ∀ d ∈ tables_1, d.before a0 Z = true)  (a : Addr) (p1 : Int32) (h0 : Heap) (n0 : Nat) (Z0 : NLe n0 h0.size) (hk : p1.toInt < 0) :
    Con l (⟨"com/example/positano/positano/Postings", "next", "(I)I"⟩ : MethodName) prog_11_method_5_code 2 (some .int) [] R11 Z #[(.ref a), (.int p1)] h0 n0 (Q11 Z a p1 h0 n0) := by
  refine con_of (Ls0 := #[.val (.ref a), .val (.int p1)]) pn_9 (fun m => by first | (simp [entryFrame, mkF, argsToLocals, Value.category, maxLocals]; done) | rfl) ?_
  intro p e s m below meth c s₁ X0 hx hby hml hZ hown hnm hret hlk e0 N0
  show OGoes p e s below (Q11 Z a p1 h0 n0) n0 R11.cells R11.slots s₁ (mkF m 0 #[.val (.ref a), .val (.int p1)] [])
  refine g_iloadN X0 hx (hb hby d12_0) (v := p1) rfl (pc' := 1) rfl ?_
  refine g_i0_lt X0 hx (a := p1.toInt) rfl (hb hby d12_1) (by decide) (pc' := 13) (by decide) (pc2 := 4) rfl (fun c1 => ?_) (fun c1 => False.elim (by omega))
  refine g_iconst X0 hx (hb hby d12_13) (v := -1) (by decide) (pc' := 14) rfl ?_
  refine g_retI X0 hx hlk hret (hb hby d12_14) N0 (by decide) (by decide) ?_
  exact ⟨rfl, e0⟩
theorem d13_0 : decode prog_11_method_6_code 0 = .ok (.iload_n 1, 1) := by decide +kernel
theorem d13_1 : decode prog_11_method_6_code 1 = .ok (.ifCond .lt 12, 3) := by decide +kernel
theorem d13_4 : decode prog_11_method_6_code 4 = .ok (.aload_n 0, 1) := by decide +kernel
theorem d13_5 : decode prog_11_method_6_code 5 = .ok (.getfield 28, 3) := by decide +kernel
theorem d13_8 : decode prog_11_method_6_code 8 = .ok (.iload_n 1, 1) := by decide +kernel
theorem d13_9 : decode prog_11_method_6_code 9 = .ok (.iaload, 1) := by decide +kernel
theorem d13_10 : decode prog_11_method_6_code 10 = .ok (.goto 7, 3) := by decide +kernel
theorem d13_13 : decode prog_11_method_6_code 13 = .ok (.iload_n 1, 1) := by decide +kernel
theorem d13_14 : decode prog_11_method_6_code 14 = .ok (.invokestatic 53, 3) := by decide +kernel
theorem d13_17 : decode prog_11_method_6_code 17 = .ok (.ireturn, 1) := by decide +kernel
theorem pn_10 : plainFor (⟨"com/example/positano/positano/Postings", "entry", "(I)I"⟩ : MethodName) = true := by first | exact plainFor_of_name (by first | (simp [plainName, overriddenIn]; done) | decide +kernel) | decide +kernel
def Q12 (Z : State) (a : Addr) (p1 : Int32) (te : Addr) (fe : Nat → Int32) (k : Nat) (h0 : Heap) (n0 : Nat) (v : Option Value) (h : Heap) : Prop := v = some (.int (fe k)) ∧ h = h0
abbrev R12 : Room := { frames := 0, cells := 0, slots := 0, locals := 0 }
set_option maxRecDepth 65536 in
set_option maxHeartbeats 40000000 in
theorem rm12 (l : Launch) (Z : State) (a0 : Array Value) (hw : ∀ d ∈ tables_1, d.before a0 Z = true)  (a : Addr) (p1 : Int32) (te : Addr) (fe : Nat → Int32) (k : Nat) (h0 : Heap) (n0 : Nat) (Z0 : NLe n0 h0.size) (Fp0 : Fld Z h0 a "com/example/positano/positano/Postings" "entries" "[I" (.ref te)) (Fp1 : IA Z h0 te 16 fe) (hk : p1.toInt = (k : Int)) (hk2 : k < 16) :
    Con l (⟨"com/example/positano/positano/Postings", "entry", "(I)I"⟩ : MethodName) prog_11_method_6_code 2 (some .int) [] R12 Z #[(.ref a), (.int p1)] h0 n0 (Q12 Z a p1 te fe k h0 n0) := by
  refine con_of (Ls0 := #[.val (.ref a), .val (.int p1)]) pn_10 (fun m => by first | (simp [entryFrame, mkF, argsToLocals, Value.category, maxLocals]; done) | rfl) ?_
  intro p e s m below meth c s₁ X0 hx hby hml hZ hown hnm hret hlk e0 N0
  show OGoes p e s below (Q12 Z a p1 te fe k h0 n0) n0 R12.cells R12.slots s₁ (mkF m 0 #[.val (.ref a), .val (.int p1)] [])
  refine g_iloadN X0 hx (hb hby d13_0) (v := p1) rfl (pc' := 1) rfl ?_
  refine g_i0_lt X0 hx (a := (k : Int)) hk (hb hby d13_1) (by decide) (pc' := 13) (by decide) (pc2 := 4) rfl (fun c1 => False.elim (by omega)) (fun c1 => ?_)
  refine g_aloadN X0 hx (hb hby d13_4) (v := (.ref a)) rfl rfl (pc' := 5) rfl ?_
  refine g_getF X0 hx hZ hown (hw _ (List.mem_of_getElem? (i := 29) rfl)) e0 Fp0 (hb hby d13_5) (pc' := 8) rfl (fun T2 X3 e4 => ?_)
  refine g_iloadN X3 hx (hb hby d13_8) (v := p1) rfl (pc' := 9) rfl ?_
  refine g_iaload X3 hx hZ e4 (k := k) Fp1 hk (by omega) (hb hby d13_9) (pc' := 10) rfl ?_
  refine g_goto X3 hx (hb hby d13_10) (by decide) (pc' := 17) (by decide) ?_
  refine g_retI X3 hx hlk hret (hb hby d13_17) N0 (by decide) (by decide) ?_
  exact ⟨rfl, e4⟩
def Q13 (Z : State) (a : Addr) (p1 : Int32) (h0 : Heap) (n0 : Nat) (v : Option Value) (h : Heap) : Prop := v = some (.int ((-2 : Int32) - p1)) ∧ h = h0
abbrev R13 : Room := { frames := 1, cells := 0, slots := 0, locals := 12 }
set_option maxRecDepth 65536 in
set_option maxHeartbeats 40000000 in
theorem rm13 (l : Launch) (Z : State) (a0 : Array Value) (hw : ∀ d ∈ tables_1, d.before a0 Z = true)  (a : Addr) (p1 : Int32) (h0 : Heap) (n0 : Nat) (Z0 : NLe n0 h0.size) (hk : p1.toInt < 0) :
    Con l (⟨"com/example/positano/positano/Postings", "entry", "(I)I"⟩ : MethodName) prog_11_method_6_code 2 (some .int) [] R13 Z #[(.ref a), (.int p1)] h0 n0 (Q13 Z a p1 h0 n0) := by
  refine con_of (Ls0 := #[.val (.ref a), .val (.int p1)]) pn_10 (fun m => by first | (simp [entryFrame, mkF, argsToLocals, Value.category, maxLocals]; done) | rfl) ?_
  intro p e s m below meth c s₁ X0 hx hby hml hZ hown hnm hret hlk e0 N0
  show OGoes p e s below (Q13 Z a p1 h0 n0) n0 R13.cells R13.slots s₁ (mkF m 0 #[.val (.ref a), .val (.int p1)] [])
  refine g_iloadN X0 hx (hb hby d13_0) (v := p1) rfl (pc' := 1) rfl ?_
  refine g_i0_lt X0 hx (a := p1.toInt) rfl (hb hby d13_1) (by decide) (pc' := 13) (by decide) (pc2 := 4) rfl (fun c1 => ?_) (fun c1 => False.elim (by omega))
  refine g_iloadN X0 hx (hb hby d13_13) (v := p1) rfl (pc' := 14) rfl ?_
  refine g_static X0 hx hZ hown (hw _ (List.mem_of_getElem? (i := 60) rfl)) (hw _ (List.mem_of_getElem? (i := 61) rfl)) (hw _ (List.mem_of_getElem? (i := 8) rfl)) (hw _ (List.mem_of_getElem? (i := 62) rfl)) (by decide) (argsL := [(.int p1)]) (rm3 l Z a0 hw p1 h0 n0 Z0 ) rfl e0 (by rw [hml]; rfl) pd_4 rfl (rest := []) rfl (W := 0) (Nat.le_of_eq rfl) (by decide) (by decide) (by decide) (by decide) N0 (hb hby d13_14) (pc' := 17) rfl (fun v2 T3 L4 X5 N6 q7 => ?_)
  obtain ⟨rfl, K8⟩ := q7
  show OGoes p e s below (Q13 Z a p1 h0 n0) n0 R13.cells R13.slots T3 (mkF m 17 #[.val (.ref a), .val (.int p1)] [(.int ((-2 : Int32) - p1))])
  refine g_retI X5 hx hlk hret (hb hby d13_17) N6 (by decide) (by decide) ?_
  exact ⟨rfl, K8⟩
theorem d7_0 : decode prog_11_method_3_code 0 = .ok (.aload_n 0, 1) := by decide +kernel
theorem d7_1 : decode prog_11_method_3_code 1 = .ok (.aload_n 1, 1) := by decide +kernel
theorem d7_2 : decode prog_11_method_3_code 2 = .ok (.arraylength, 1) := by decide +kernel
theorem d7_3 : decode prog_11_method_3_code 3 = .ok (.invokevirtual 45, 3) := by decide +kernel
theorem d7_6 : decode prog_11_method_3_code 6 = .ok (.aload_n 1, 1) := by decide +kernel
theorem d7_7 : decode prog_11_method_3_code 7 = .ok (.astore_n 3, 1) := by decide +kernel
theorem d7_8 : decode prog_11_method_3_code 8 = .ok (.aload_n 3, 1) := by decide +kernel
theorem d7_9 : decode prog_11_method_3_code 9 = .ok (.arraylength, 1) := by decide +kernel
theorem d7_10 : decode prog_11_method_3_code 10 = .ok (.istore 4, 2) := by decide +kernel
theorem d7_12 : decode prog_11_method_3_code 12 = .ok (.iconst 0, 1) := by decide +kernel
theorem d7_13 : decode prog_11_method_3_code 13 = .ok (.istore 5, 2) := by decide +kernel
theorem d7_15 : decode prog_11_method_3_code 15 = .ok (.iload 5, 2) := by decide +kernel
theorem d7_17 : decode prog_11_method_3_code 17 = .ok (.iload 4, 2) := by decide +kernel
theorem d7_19 : decode prog_11_method_3_code 19 = .ok (.if_icmp .ge 114, 3) := by decide +kernel
theorem d7_22 : decode prog_11_method_3_code 22 = .ok (.aload_n 3, 1) := by decide +kernel
theorem d7_23 : decode prog_11_method_3_code 23 = .ok (.iload 5, 2) := by decide +kernel
theorem d7_25 : decode prog_11_method_3_code 25 = .ok (.laload, 1) := by decide +kernel
theorem d7_26 : decode prog_11_method_3_code 26 = .ok (.lstore 6, 2) := by decide +kernel
theorem d7_28 : decode prog_11_method_3_code 28 = .ok (.aload_n 0, 1) := by decide +kernel
theorem d7_29 : decode prog_11_method_3_code 29 = .ok (.lload 6, 2) := by decide +kernel
theorem d7_31 : decode prog_11_method_3_code 31 = .ok (.invokevirtual 49, 3) := by decide +kernel
theorem d7_34 : decode prog_11_method_3_code 34 = .ok (.istore 8, 2) := by decide +kernel
theorem d7_36 : decode prog_11_method_3_code 36 = .ok (.aload_n 0, 1) := by decide +kernel
theorem d7_37 : decode prog_11_method_3_code 37 = .ok (.getfield 24, 3) := by decide +kernel
theorem d7_40 : decode prog_11_method_3_code 40 = .ok (.iload 8, 2) := by decide +kernel
theorem d7_42 : decode prog_11_method_3_code 42 = .ok (.iaload, 1) := by decide +kernel
theorem d7_43 : decode prog_11_method_3_code 43 = .ok (.iconst (-1), 1) := by decide +kernel
theorem d7_44 : decode prog_11_method_3_code 44 = .ok (.if_icmp .ne 36, 3) := by decide +kernel
theorem d7_47 : decode prog_11_method_3_code 47 = .ok (.aload_n 0, 1) := by decide +kernel
theorem d7_48 : decode prog_11_method_3_code 48 = .ok (.getfield 16, 3) := by decide +kernel
theorem d7_51 : decode prog_11_method_3_code 51 = .ok (.iload 8, 2) := by decide +kernel
theorem d7_53 : decode prog_11_method_3_code 53 = .ok (.lload 6, 2) := by decide +kernel
theorem d7_55 : decode prog_11_method_3_code 55 = .ok (.lastore, 1) := by decide +kernel
theorem d7_56 : decode prog_11_method_3_code 56 = .ok (.aload_n 0, 1) := by decide +kernel
theorem d7_57 : decode prog_11_method_3_code 57 = .ok (.getfield 24, 3) := by decide +kernel
theorem d7_60 : decode prog_11_method_3_code 60 = .ok (.iload 8, 2) := by decide +kernel
theorem d7_62 : decode prog_11_method_3_code 62 = .ok (.iload_n 2, 1) := by decide +kernel
theorem d7_63 : decode prog_11_method_3_code 63 = .ok (.invokestatic 53, 3) := by decide +kernel
theorem d7_66 : decode prog_11_method_3_code 66 = .ok (.iastore, 1) := by decide +kernel
theorem d7_67 : decode prog_11_method_3_code 67 = .ok (.aload_n 0, 1) := by decide +kernel
theorem d7_68 : decode prog_11_method_3_code 68 = .ok (.dup, 1) := by decide +kernel
theorem d7_69 : decode prog_11_method_3_code 69 = .ok (.getfield 56, 3) := by decide +kernel
theorem d7_72 : decode prog_11_method_3_code 72 = .ok (.iconst 1, 1) := by decide +kernel
theorem d7_73 : decode prog_11_method_3_code 73 = .ok (.iadd, 1) := by decide +kernel
theorem d7_74 : decode prog_11_method_3_code 74 = .ok (.putfield 56, 3) := by decide +kernel
theorem d7_77 : decode prog_11_method_3_code 77 = .ok (.goto 50, 3) := by decide +kernel
theorem d7_80 : decode prog_11_method_3_code 80 = .ok (.aload_n 0, 1) := by decide +kernel
theorem d7_81 : decode prog_11_method_3_code 81 = .ok (.getfield 28, 3) := by decide +kernel
theorem d7_84 : decode prog_11_method_3_code 84 = .ok (.aload_n 0, 1) := by decide +kernel
theorem d7_85 : decode prog_11_method_3_code 85 = .ok (.getfield 59, 3) := by decide +kernel
theorem d7_88 : decode prog_11_method_3_code 88 = .ok (.iload_n 2, 1) := by decide +kernel
theorem d7_89 : decode prog_11_method_3_code 89 = .ok (.iastore, 1) := by decide +kernel
theorem d7_90 : decode prog_11_method_3_code 90 = .ok (.aload_n 0, 1) := by decide +kernel
theorem d7_91 : decode prog_11_method_3_code 91 = .ok (.getfield 31, 3) := by decide +kernel
theorem d7_94 : decode prog_11_method_3_code 94 = .ok (.aload_n 0, 1) := by decide +kernel
theorem d7_95 : decode prog_11_method_3_code 95 = .ok (.getfield 59, 3) := by decide +kernel
theorem d7_98 : decode prog_11_method_3_code 98 = .ok (.aload_n 0, 1) := by decide +kernel
theorem d7_99 : decode prog_11_method_3_code 99 = .ok (.getfield 24, 3) := by decide +kernel
theorem d7_102 : decode prog_11_method_3_code 102 = .ok (.iload 8, 2) := by decide +kernel
theorem d7_104 : decode prog_11_method_3_code 104 = .ok (.iaload, 1) := by decide +kernel
theorem d7_105 : decode prog_11_method_3_code 105 = .ok (.iastore, 1) := by decide +kernel
theorem d7_106 : decode prog_11_method_3_code 106 = .ok (.aload_n 0, 1) := by decide +kernel
theorem d7_107 : decode prog_11_method_3_code 107 = .ok (.getfield 24, 3) := by decide +kernel
theorem d7_110 : decode prog_11_method_3_code 110 = .ok (.iload 8, 2) := by decide +kernel
theorem d7_112 : decode prog_11_method_3_code 112 = .ok (.aload_n 0, 1) := by decide +kernel
theorem d7_113 : decode prog_11_method_3_code 113 = .ok (.getfield 59, 3) := by decide +kernel
theorem d7_116 : decode prog_11_method_3_code 116 = .ok (.iastore, 1) := by decide +kernel
theorem d7_117 : decode prog_11_method_3_code 117 = .ok (.aload_n 0, 1) := by decide +kernel
theorem d7_118 : decode prog_11_method_3_code 118 = .ok (.dup, 1) := by decide +kernel
theorem d7_119 : decode prog_11_method_3_code 119 = .ok (.getfield 59, 3) := by decide +kernel
theorem d7_122 : decode prog_11_method_3_code 122 = .ok (.iconst 1, 1) := by decide +kernel
theorem d7_123 : decode prog_11_method_3_code 123 = .ok (.iadd, 1) := by decide +kernel
theorem d7_124 : decode prog_11_method_3_code 124 = .ok (.putfield 59, 3) := by decide +kernel
theorem d7_127 : decode prog_11_method_3_code 127 = .ok (.iinc 5 1, 3) := by decide +kernel
theorem d7_130 : decode prog_11_method_3_code 130 = .ok (.goto (-115), 3) := by decide +kernel
theorem d7_133 : decode prog_11_method_3_code 133 = .ok (.aload_n 0, 1) := by decide +kernel
theorem d7_134 : decode prog_11_method_3_code 134 = .ok (.dup, 1) := by decide +kernel
theorem d7_135 : decode prog_11_method_3_code 135 = .ok (.getfield 62, 3) := by decide +kernel
theorem d7_138 : decode prog_11_method_3_code 138 = .ok (.aload_n 1, 1) := by decide +kernel
theorem d7_139 : decode prog_11_method_3_code 139 = .ok (.arraylength, 1) := by decide +kernel
theorem d7_140 : decode prog_11_method_3_code 140 = .ok (.iadd, 1) := by decide +kernel
theorem d7_141 : decode prog_11_method_3_code 141 = .ok (.putfield 62, 3) := by decide +kernel
theorem d7_144 : decode prog_11_method_3_code 144 = .ok (.return_, 1) := by decide +kernel
theorem pn_11 : plainFor (⟨"com/example/positano/positano/Postings", "add", "([JI)V"⟩ : MethodName) = true := by first | exact plainFor_of_name (by first | (simp [plainName, overriddenIn]; done) | decide +kernel) | decide +kernel
def Q14 (Z : State) (a : Addr) (tk : Addr) (th : Addr) (te : Addr) (tb : Addr) (t : Addr) (p2 : Int32) (q1 : Int64) (k1 : Nat) (fk : Nat → Int64) (fh : Nat → Int32) (fe : Nat → Int32) (fb : Nat → Int32) (h0 : Heap) (n0 : Nat) (v : Option Value) (h : Heap) : Prop := v = none ∧ Keep h0 h [a, tk, th] ∧ Exa Z h a "com/example/positano/positano/Postings" ∧ Fld Z h a "com/example/positano/positano/Postings" "keys" "[J" (.ref tk) ∧ Fld Z h a "com/example/positano/positano/Postings" "heads" "[I" (.ref th) ∧ Fld Z h a "com/example/positano/positano/Postings" "entries" "[I" (.ref te) ∧ Fld Z h a "com/example/positano/positano/Postings" "before" "[I" (.ref tb) ∧ Fld Z h a "com/example/positano/positano/Postings" "maxPostings" "I" (.int (2147483639 : Int32)) ∧ Fld Z h a "com/example/positano/positano/Postings" "maxKeys" "I" (.int (((1073741824 : Int32) / (4 : Int32)) * (3 : Int32))) ∧ Fld Z h a "com/example/positano/positano/Postings" "keyCount" "I" (.int (1 : Int32)) ∧ Fld Z h a "com/example/positano/positano/Postings" "kept" "I" (.int (0 : Int32)) ∧ Fld Z h a "com/example/positano/positano/Postings" "count" "I" (.int (1 : Int32)) ∧ LA Z h tk 17 (oupd fk k1 q1) ∧ IA Z h th 17 (oupd fh k1 ((-2 : Int32) - p2)) ∧ IA Z h te 16 fe ∧ IA Z h tb 16 fb
abbrev R14 : Room := { frames := 2, cells := 0, slots := 0, locals := 47 }
set_option maxRecDepth 65536 in
set_option maxHeartbeats 40000000 in
theorem rm14 (l : Launch) (Z : State) (a0 : Array Value) (hw : ∀ d ∈ tables_1, d.before a0 Z = true)  (a : Addr) (tk : Addr) (th : Addr) (te : Addr) (tb : Addr) (t : Addr) (p2 : Int32) (q1 : Int64) (k1 : Nat) (fk : Nat → Int64) (fh : Nat → Int32) (fe : Nat → Int32) (fb : Nat → Int32) (h0 : Heap) (n0 : Nat) (Z0 : NLe n0 h0.size) (Fp0 : Exa Z h0 a "com/example/positano/positano/Postings") (Fp1 : Fld Z h0 a "com/example/positano/positano/Postings" "keys" "[J" (.ref tk)) (Fp2 : Fld Z h0 a "com/example/positano/positano/Postings" "heads" "[I" (.ref th)) (Fp3 : Fld Z h0 a "com/example/positano/positano/Postings" "entries" "[I" (.ref te)) (Fp4 : Fld Z h0 a "com/example/positano/positano/Postings" "before" "[I" (.ref tb)) (Fp5 : Fld Z h0 a "com/example/positano/positano/Postings" "maxPostings" "I" (.int (2147483639 : Int32))) (Fp6 : Fld Z h0 a "com/example/positano/positano/Postings" "maxKeys" "I" (.int (((1073741824 : Int32) / (4 : Int32)) * (3 : Int32)))) (Fp7 : Fld Z h0 a "com/example/positano/positano/Postings" "keyCount" "I" (.int (0 : Int32))) (Fp8 : Fld Z h0 a "com/example/positano/positano/Postings" "kept" "I" (.int (0 : Int32))) (Fp9 : Fld Z h0 a "com/example/positano/positano/Postings" "count" "I" (.int (0 : Int32))) (Fp10 : LA Z h0 tk 17 fk) (Fp11 : IA Z h0 th 17 fh) (Fp12 : IA Z h0 te 16 fe) (Fp13 : IA Z h0 tb 16 fb) (Fp14 : LA Z h0 t 1 (oupd zeroL 0 q1)) (hS1 : own_Slot fk q1 k1) (hh1 : fh k1 = -1) (gn_a : NLe n0 a) (gn_tk : NLe n0 tk) (gn_th : NLe n0 th) (gn_te : NLe n0 te) (gn_tb : NLe n0 tb) (ne_a_tk : Apart a tk) (ne_a_th : Apart a th) (ne_a_te : Apart a te) (ne_a_tb : Apart a tb) (ne_a_t : Apart a t) (ne_tk_th : Apart tk th) (ne_tk_te : Apart tk te) (ne_tk_tb : Apart tk tb) (ne_tk_t : Apart tk t) (ne_th_te : Apart th te) (ne_th_tb : Apart th tb) (ne_th_t : Apart th t) (ne_te_tb : Apart te tb) (ne_te_t : Apart te t) (ne_tb_t : Apart tb t) :
    Con l (⟨"com/example/positano/positano/Postings", "add", "([JI)V"⟩ : MethodName) prog_11_method_3_code 9 none [] R14 Z #[(.ref a), (.ref t), (.int p2)] h0 n0 (Q14 Z a tk th te tb t p2 q1 k1 fk fh fe fb h0 n0) := by
  refine con_of (Ls0 := #[.val (.ref a), .val (.ref t), .val (.int p2), .unset, .unset, .unset, .unset, .unset, .unset]) pn_11 (fun m => by first | (simp [entryFrame, mkF, argsToLocals, Value.category, maxLocals]; done) | rfl) ?_
  intro p e s m below meth c s₁ X0 hx hby hml hZ hown hnm hret hlk e0 N0
  show OGoes p e s below (Q14 Z a tk th te tb t p2 q1 k1 fk fh fe fb h0 n0) n0 R14.cells R14.slots s₁ (mkF m 0 #[.val (.ref a), .val (.ref t), .val (.int p2), .unset, .unset, .unset, .unset, .unset, .unset] [])
  have K0 : Keep h0 h0 [a, tk, th] := Keep.refl _ _
  have hl1 := own_Slot_lt hS1
  have lm1 : (-1 : Int32).toInt = -1 := rfl
  refine g_aloadN X0 hx (hb hby d7_0) (v := (.ref a)) rfl rfl (pc' := 1) rfl ?_
  refine g_aloadN X0 hx (hb hby d7_1) (v := (.ref t)) rfl rfl (pc' := 2) rfl ?_
  refine g_lenLA X0 hx hZ e0 (z := (1 : Int32)) Fp14 rfl (hb hby d7_2) (pc' := 3) rfl ?_
  refine g_private X0 hx hZ hown (hw _ (List.mem_of_getElem? (i := 45) rfl)) (hw _ (List.mem_of_getElem? (i := 46) rfl)) (hw _ (List.mem_of_getElem? (i := 47) rfl)) (hw _ (List.mem_of_getElem? (i := 7) rfl)) (hw _ (List.mem_of_getElem? (i := 8) rfl)) (hw _ (List.mem_of_getElem? (i := 48) rfl)) (by decide) (a := a) (argsL := [(.int (1 : Int32))]) (rm7 l Z a0 hw a tk th te tb (1 : Int32) (0 : Int32) (0 : Int32) (0 : Int32) fk fe h0 n0 Z0 Fp0 Fp1 Fp2 Fp3 Fp4 Fp5 Fp6 Fp7 Fp8 Fp9 Fp10 Fp12 (by decide) (by decide) (by decide) (by decide)) rfl e0 Fp0 (by rw [hml]; rfl) pd_6 rfl (rest := []) rfl (W := 0) (Nat.le_of_eq rfl) (by decide) (by decide) (by decide) (by decide) N0 (hb hby d7_3) (pc' := 6) rfl (fun v1 T2 L3 X4 N5 q6 => ?_)
  obtain ⟨rfl, K7⟩ := q6
  have lt8 : (1 : Int32).toInt = 1 := rfl
  show OGoes p e s below (Q14 Z a tk th te tb t p2 q1 k1 fk fh fe fb h0 n0) n0 R14.cells R14.slots T2 (mkF m 6 #[.val (.ref a), .val (.ref t), .val (.int p2), .unset, .unset, .unset, .unset, .unset, .unset] [])
  refine g_aloadN X4 hx (hb hby d7_6) (v := (.ref t)) rfl rfl (pc' := 7) rfl ?_
  refine g_astoreN X4 hx (hb hby d7_7) rfl (Ls' := #[.val (.ref a), .val (.ref t), .val (.int p2), .val (.ref t), .unset, .unset, .unset, .unset, .unset]) rfl (pc' := 8) rfl ?_
  refine g_aloadN X4 hx (hb hby d7_8) (v := (.ref t)) rfl rfl (pc' := 9) rfl ?_
  refine g_lenLA X4 hx hZ K7 (z := (1 : Int32)) Fp14 rfl (hb hby d7_9) (pc' := 10) rfl ?_
  refine g_istore X4 hx (hb hby d7_10) (Ls' := #[.val (.ref a), .val (.ref t), .val (.int p2), .val (.ref t), .val (.int (1 : Int32)), .unset, .unset, .unset, .unset]) rfl (pc' := 12) rfl ?_
  refine g_iconst X4 hx (hb hby d7_12) (v := 0) (by decide) (pc' := 13) rfl ?_
  refine g_istore X4 hx (hb hby d7_13) (Ls' := #[.val (.ref a), .val (.ref t), .val (.int p2), .val (.ref t), .val (.int (1 : Int32)), .val (.int (0 : Int32)), .unset, .unset, .unset]) rfl (pc' := 15) rfl ?_
  refine g_iload X4 hx (hb hby d7_15) (v := (0 : Int32)) rfl (pc' := 17) rfl ?_
  refine g_iload X4 hx (hb hby d7_17) (v := (1 : Int32)) rfl (pc' := 19) rfl ?_
  refine g_ii_ge X4 hx (a := 0) (b := 1) rfl rfl (hb hby d7_19) (by decide) (pc' := 133) (by decide) (pc2 := 22) rfl (fun c9 => False.elim (by omega)) (fun c9 => ?_)
  refine g_aloadN X4 hx (hb hby d7_22) (v := (.ref t)) rfl rfl (pc' := 23) rfl ?_
  refine g_iload X4 hx (hb hby d7_23) (v := (0 : Int32)) rfl (pc' := 25) rfl ?_
  refine g_laload X4 hx hZ K7 (k := 0) Fp14 rfl (by decide) (hb hby d7_25) (pc' := 26) rfl ?_
  show OGoes p e s below (Q14 Z a tk th te tb t p2 q1 k1 fk fh fe fb h0 n0) n0 R14.cells R14.slots T2 (mkF m 26 #[.val (.ref a), .val (.ref t), .val (.int p2), .val (.ref t), .val (.int (1 : Int32)), .val (.int (0 : Int32)), .unset, .unset, .unset] [(.long q1)])
  refine g_lstore X4 hx (hb hby d7_26) (Ls' := #[.val (.ref a), .val (.ref t), .val (.int p2), .val (.ref t), .val (.int (1 : Int32)), .val (.int (0 : Int32)), .val (.long q1), .second, .unset]) rfl (pc' := 28) rfl ?_
  refine g_aloadN X4 hx (hb hby d7_28) (v := (.ref a)) rfl rfl (pc' := 29) rfl ?_
  refine g_lload X4 hx (hb hby d7_29) (v := q1) rfl (pc' := 31) rfl ?_
  refine g_private X4 hx hZ hown (hw _ (List.mem_of_getElem? (i := 55) rfl)) (hw _ (List.mem_of_getElem? (i := 56) rfl)) (hw _ (List.mem_of_getElem? (i := 57) rfl)) (hw _ (List.mem_of_getElem? (i := 7) rfl)) (hw _ (List.mem_of_getElem? (i := 8) rfl)) (hw _ (List.mem_of_getElem? (i := 58) rfl)) (by decide) (a := a) (argsL := [(.long q1)]) (rm8 l Z a0 hw a q1 tk fk k1 h0 n0 Z0 Fp1 Fp10 hS1) rfl K7 Fp0 (by rw [hml]; rfl) pd_7 rfl (rest := []) rfl (W := 0) (Nat.le_of_eq rfl) (by decide) (by decide) (by decide) (by decide) N5 (hb hby d7_31) (pc' := 34) rfl (fun v10 T11 L12 X13 N14 q15 => ?_)
  obtain ⟨b16, rfl, f17, K18⟩ := q15
  show OGoes p e s below (Q14 Z a tk th te tb t p2 q1 k1 fk fh fe fb h0 n0) n0 R14.cells R14.slots T11 (mkF m 34 #[.val (.ref a), .val (.ref t), .val (.int p2), .val (.ref t), .val (.int (1 : Int32)), .val (.int (0 : Int32)), .val (.long q1), .second, .unset] [(.int b16)])
  refine g_istore X13 hx (hb hby d7_34) (Ls' := #[.val (.ref a), .val (.ref t), .val (.int p2), .val (.ref t), .val (.int (1 : Int32)), .val (.int (0 : Int32)), .val (.long q1), .second, .val (.int b16)]) rfl (pc' := 36) rfl ?_
  refine g_aloadN X13 hx (hb hby d7_36) (v := (.ref a)) rfl rfl (pc' := 37) rfl ?_
  refine g_getF X13 hx hZ hown (hw _ (List.mem_of_getElem? (i := 27) rfl)) K18 Fp2 (hb hby d7_37) (pc' := 40) rfl (fun T19 X20 e21 => ?_)
  refine g_iload X20 hx (hb hby d7_40) (v := b16) rfl (pc' := 42) rfl ?_
  refine g_iaload X20 hx hZ e21 (k := k1) Fp11 f17 (by omega) (hb hby d7_42) (pc' := 43) rfl ?_
  refine g_iconst X20 hx (hb hby d7_43) (v := -1) (by decide) (pc' := 44) rfl ?_
  refine g_ii_ne X20 hx (a := (fh k1).toInt) (b := (-1)) rfl rfl (hb hby d7_44) (by decide) (pc' := 80) (by decide) (pc2 := 47) rfl (fun cc => False.elim (by exact cc (by rw [hh1]; rfl))) (fun cc => ?_)
  refine g_aloadN X20 hx (hb hby d7_47) (v := (.ref a)) rfl rfl (pc' := 48) rfl ?_
  refine g_getF X20 hx hZ hown (hw _ (List.mem_of_getElem? (i := 17) rfl)) e21 Fp1 (hb hby d7_48) (pc' := 51) rfl (fun T22 X23 e24 => ?_)
  refine g_iload X23 hx (hb hby d7_51) (v := b16) rfl (pc' := 53) rfl ?_
  refine g_lload X23 hx (hb hby d7_53) (v := q1) rfl (pc' := 55) rfl ?_
  refine g_lastore X23 hx hZ e24 (k := k1) (x := q1) Fp10 f17 (by omega) N14 gn_tk (hb hby d7_55) (pc' := 56) rfl (fun T25 h26 L27 X28 e29 W30 N31 A32 => ?_)
  have K33 := K0.wr W30 (Or.inl (by simp))
  have Z34 : NLe n0 h26.size := Z0.wr W30
  have F35 := Exa.wr W30 Fp0
  have F36 := Fld.other W30 Fp1 (Or.inl ne_a_tk)
  have F37 := Fld.other W30 Fp2 (Or.inl ne_a_tk)
  have F38 := Fld.other W30 Fp3 (Or.inl ne_a_tk)
  have F39 := Fld.other W30 Fp4 (Or.inl ne_a_tk)
  have F40 := Fld.other W30 Fp5 (Or.inl ne_a_tk)
  have F41 := Fld.other W30 Fp6 (Or.inl ne_a_tk)
  have F42 := Fld.other W30 Fp7 (Or.inl ne_a_tk)
  have F43 := Fld.other W30 Fp8 (Or.inl ne_a_tk)
  have F44 := Fld.other W30 Fp9 (Or.inl ne_a_tk)
  have F46 := Fp11.other W30 ne_tk_th.symm
  have F47 := Fp12.other W30 ne_tk_te.symm
  have F48 := Fp13.other W30 ne_tk_tb.symm
  have F49 := Fp14.other W30 ne_tk_t.symm
  refine g_aloadN X28 hx (hb hby d7_56) (v := (.ref a)) rfl rfl (pc' := 57) rfl ?_
  refine g_getF X28 hx hZ hown (hw _ (List.mem_of_getElem? (i := 27) rfl)) e29 F37 (hb hby d7_57) (pc' := 60) rfl (fun T50 X51 e52 => ?_)
  refine g_iload X51 hx (hb hby d7_60) (v := b16) rfl (pc' := 62) rfl ?_
  refine g_iloadN X51 hx (hb hby d7_62) (v := p2) rfl (pc' := 63) rfl ?_
  refine g_static X51 hx hZ hown (hw _ (List.mem_of_getElem? (i := 60) rfl)) (hw _ (List.mem_of_getElem? (i := 61) rfl)) (hw _ (List.mem_of_getElem? (i := 8) rfl)) (hw _ (List.mem_of_getElem? (i := 62) rfl)) (by decide) (argsL := [(.int p2)]) (rm3 l Z a0 hw p2 h26 n0 Z34 ) rfl e52 (by rw [hml]; rfl) pd_4 rfl (rest := [(.int b16), (.ref th)]) rfl (W := 2) (Nat.le_of_eq rfl) (by decide) (by decide) (by decide) (by decide) N31 (hb hby d7_63) (pc' := 66) rfl (fun v53 T54 L55 X56 N57 q58 => ?_)
  obtain ⟨rfl, K59⟩ := q58
  show OGoes p e s below (Q14 Z a tk th te tb t p2 q1 k1 fk fh fe fb h0 n0) n0 R14.cells R14.slots T54 (mkF m 66 #[.val (.ref a), .val (.ref t), .val (.int p2), .val (.ref t), .val (.int (1 : Int32)), .val (.int (0 : Int32)), .val (.long q1), .second, .val (.int b16)] [(.int ((-2 : Int32) - p2)), (.int b16), (.ref th)])
  refine g_iastore X56 hx hZ K59 (k := k1) (x := ((-2 : Int32) - p2)) F46 f17 (by omega) N57 gn_th (hb hby d7_66) (pc' := 67) rfl (fun T60 h61 L62 X63 e64 W65 N66 A67 => ?_)
  have K68 := K33.wr W65 (Or.inl (by simp))
  have Z69 : NLe n0 h61.size := Z34.wr W65
  have F70 := Exa.wr W65 F35
  have F71 := Fld.other W65 F36 (Or.inl ne_a_th)
  have F72 := Fld.other W65 F37 (Or.inl ne_a_th)
  have F73 := Fld.other W65 F38 (Or.inl ne_a_th)
  have F74 := Fld.other W65 F39 (Or.inl ne_a_th)
  have F75 := Fld.other W65 F40 (Or.inl ne_a_th)
  have F76 := Fld.other W65 F41 (Or.inl ne_a_th)
  have F77 := Fld.other W65 F42 (Or.inl ne_a_th)
  have F78 := Fld.other W65 F43 (Or.inl ne_a_th)
  have F79 := Fld.other W65 F44 (Or.inl ne_a_th)
  have F80 := A32.other W65 ne_tk_th
  have F82 := F47.other W65 ne_th_te.symm
  have F83 := F48.other W65 ne_th_tb.symm
  have F84 := F49.other W65 ne_th_t.symm
  refine g_aloadN X63 hx (hb hby d7_67) (v := (.ref a)) rfl rfl (pc' := 68) rfl ?_
  refine g_dup X63 hx (hb hby d7_68) rfl (pc' := 69) rfl ?_
  refine g_getF X63 hx hZ hown (hw _ (List.mem_of_getElem? (i := 51) rfl)) e64 F77 (hb hby d7_69) (pc' := 72) rfl (fun T85 X86 e87 => ?_)
  refine g_iconst X86 hx (hb hby d7_72) (v := 1) (by decide) (pc' := 73) rfl ?_
  refine g_iadd X86 hx (hb hby d7_73) (pc' := 74) rfl ?_
  refine g_putF X86 hx hZ hown (hw _ (List.mem_of_getElem? (i := 51) rfl)) e87 (v := (.int ((0 : Int32) + (1 : Int32)))) F77 F70 (Or.inl (hw _ (List.mem_of_getElem? (i := 52) rfl))) (hw _ (List.mem_of_getElem? (i := 7) rfl)) (ty := .int) (by decide) rfl rfl N66 gn_a (hb hby d7_74) (pc' := 77) rfl (fun T88 h89 L90 X91 e92 W93 N94 => ?_)
  have K95 := K68.wr W93 (Or.inl (by simp))
  have Z96 : NLe n0 h89.size := Z69.wr W93
  have F97 := Exa.wr W93 F70
  have F98 := Fld.other W93 F71 (Or.inr (slot_ne (Or.inl (hw _ (List.mem_of_getElem? (i := 18) rfl))) (Or.inl (hw _ (List.mem_of_getElem? (i := 52) rfl))) (by decide) (t := (.array .long)) (t' := .int) (by decide) (by decide)))
  have F99 := Fld.other W93 F72 (Or.inr (slot_ne (Or.inl (hw _ (List.mem_of_getElem? (i := 28) rfl))) (Or.inl (hw _ (List.mem_of_getElem? (i := 52) rfl))) (by decide) (t := (.array .int)) (t' := .int) (by decide) (by decide)))
  have F100 := Fld.other W93 F73 (Or.inr (slot_ne (Or.inl (hw _ (List.mem_of_getElem? (i := 30) rfl))) (Or.inl (hw _ (List.mem_of_getElem? (i := 52) rfl))) (by decide) (t := (.array .int)) (t' := .int) (by decide) (by decide)))
  have F101 := Fld.other W93 F74 (Or.inr (slot_ne (Or.inl (hw _ (List.mem_of_getElem? (i := 32) rfl))) (Or.inl (hw _ (List.mem_of_getElem? (i := 52) rfl))) (by decide) (t := (.array .int)) (t' := .int) (by decide) (by decide)))
  have F102 := Fld.other W93 F75 (Or.inr (slot_ne (Or.inr (hw _ (List.mem_of_getElem? (i := 34) rfl))) (Or.inl (hw _ (List.mem_of_getElem? (i := 52) rfl))) (by decide) (t := .int) (t' := .int) (by decide) (by decide)))
  have F103 := Fld.other W93 F76 (Or.inr (slot_ne (Or.inr (hw _ (List.mem_of_getElem? (i := 39) rfl))) (Or.inl (hw _ (List.mem_of_getElem? (i := 52) rfl))) (by decide) (t := .int) (t' := .int) (by decide) (by decide)))
  have F104 := Fld.same W93 F77
  have F105 := Fld.other W93 F78 (Or.inr (slot_ne (Or.inl (hw _ (List.mem_of_getElem? (i := 54) rfl))) (Or.inl (hw _ (List.mem_of_getElem? (i := 52) rfl))) (by decide) (t := .int) (t' := .int) (by decide) (by decide)))
  have F106 := Fld.other W93 F79 (Or.inr (slot_ne (Or.inl (hw _ (List.mem_of_getElem? (i := 50) rfl))) (Or.inl (hw _ (List.mem_of_getElem? (i := 52) rfl))) (by decide) (t := .int) (t' := .int) (by decide) (by decide)))
  have F107 := F80.other W93 ne_a_tk.symm
  have F108 := A67.other W93 ne_a_th.symm
  have F109 := F82.other W93 ne_a_te.symm
  have F110 := F83.other W93 ne_a_tb.symm
  have F111 := F84.other W93 ne_a_t.symm
  refine g_goto X91 hx (hb hby d7_77) (by decide) (pc' := 127) (by decide) ?_
  refine g_iinc X91 hx (hb hby d7_127) (v := 1) (by decide) (x := (0 : Int32)) rfl (Ls' := #[.val (.ref a), .val (.ref t), .val (.int p2), .val (.ref t), .val (.int (1 : Int32)), .val (.int (1 : Int32)), .val (.long q1), .second, .val (.int b16)]) rfl (pc' := 130) rfl ?_
  refine g_goto X91 hx (hb hby d7_130) (by decide) (pc' := 15) (by decide) ?_
  refine g_iload X91 hx (hb hby d7_15) (v := (1 : Int32)) rfl (pc' := 17) rfl ?_
  refine g_iload X91 hx (hb hby d7_17) (v := (1 : Int32)) rfl (pc' := 19) rfl ?_
  refine g_ii_ge X91 hx (a := 1) (b := 1) rfl rfl (hb hby d7_19) (by decide) (pc' := 133) (by decide) (pc2 := 22) rfl (fun c112 => ?_) (fun c112 => False.elim (by omega))
  refine g_aloadN X91 hx (hb hby d7_133) (v := (.ref a)) rfl rfl (pc' := 134) rfl ?_
  refine g_dup X91 hx (hb hby d7_134) rfl (pc' := 135) rfl ?_
  refine g_getF X91 hx hZ hown (hw _ (List.mem_of_getElem? (i := 49) rfl)) e92 F106 (hb hby d7_135) (pc' := 138) rfl (fun T113 X114 e115 => ?_)
  refine g_aloadN X114 hx (hb hby d7_138) (v := (.ref t)) rfl rfl (pc' := 139) rfl ?_
  refine g_lenLA X114 hx hZ e115 (z := (1 : Int32)) F111 rfl (hb hby d7_139) (pc' := 140) rfl ?_
  refine g_iadd X114 hx (hb hby d7_140) (pc' := 141) rfl ?_
  refine g_putF X114 hx hZ hown (hw _ (List.mem_of_getElem? (i := 49) rfl)) e115 (v := (.int ((0 : Int32) + (1 : Int32)))) F106 F97 (Or.inl (hw _ (List.mem_of_getElem? (i := 50) rfl))) (hw _ (List.mem_of_getElem? (i := 7) rfl)) (ty := .int) (by decide) rfl rfl N94 gn_a (hb hby d7_141) (pc' := 144) rfl (fun T116 h117 L118 X119 e120 W121 N122 => ?_)
  have K123 := K95.wr W121 (Or.inl (by simp))
  have Z124 : NLe n0 h117.size := Z96.wr W121
  have F125 := Exa.wr W121 F97
  have F126 := Fld.other W121 F98 (Or.inr (slot_ne (Or.inl (hw _ (List.mem_of_getElem? (i := 18) rfl))) (Or.inl (hw _ (List.mem_of_getElem? (i := 50) rfl))) (by decide) (t := (.array .long)) (t' := .int) (by decide) (by decide)))
  have F127 := Fld.other W121 F99 (Or.inr (slot_ne (Or.inl (hw _ (List.mem_of_getElem? (i := 28) rfl))) (Or.inl (hw _ (List.mem_of_getElem? (i := 50) rfl))) (by decide) (t := (.array .int)) (t' := .int) (by decide) (by decide)))
  have F128 := Fld.other W121 F100 (Or.inr (slot_ne (Or.inl (hw _ (List.mem_of_getElem? (i := 30) rfl))) (Or.inl (hw _ (List.mem_of_getElem? (i := 50) rfl))) (by decide) (t := (.array .int)) (t' := .int) (by decide) (by decide)))
  have F129 := Fld.other W121 F101 (Or.inr (slot_ne (Or.inl (hw _ (List.mem_of_getElem? (i := 32) rfl))) (Or.inl (hw _ (List.mem_of_getElem? (i := 50) rfl))) (by decide) (t := (.array .int)) (t' := .int) (by decide) (by decide)))
  have F130 := Fld.other W121 F102 (Or.inr (slot_ne (Or.inr (hw _ (List.mem_of_getElem? (i := 34) rfl))) (Or.inl (hw _ (List.mem_of_getElem? (i := 50) rfl))) (by decide) (t := .int) (t' := .int) (by decide) (by decide)))
  have F131 := Fld.other W121 F103 (Or.inr (slot_ne (Or.inr (hw _ (List.mem_of_getElem? (i := 39) rfl))) (Or.inl (hw _ (List.mem_of_getElem? (i := 50) rfl))) (by decide) (t := .int) (t' := .int) (by decide) (by decide)))
  have F132 := Fld.other W121 F104 (Or.inr (slot_ne (Or.inl (hw _ (List.mem_of_getElem? (i := 52) rfl))) (Or.inl (hw _ (List.mem_of_getElem? (i := 50) rfl))) (by decide) (t := .int) (t' := .int) (by decide) (by decide)))
  have F133 := Fld.other W121 F105 (Or.inr (slot_ne (Or.inl (hw _ (List.mem_of_getElem? (i := 54) rfl))) (Or.inl (hw _ (List.mem_of_getElem? (i := 50) rfl))) (by decide) (t := .int) (t' := .int) (by decide) (by decide)))
  have F134 := Fld.same W121 F106
  have F135 := F107.other W121 ne_a_tk.symm
  have F136 := F108.other W121 ne_a_th.symm
  have F137 := F109.other W121 ne_a_te.symm
  have F138 := F110.other W121 ne_a_tb.symm
  have F139 := F111.other W121 ne_a_t.symm
  refine g_retV X119 hx hlk hret (hb hby d7_144) N122 (by decide) (by decide) ?_
  rw [e120]
  exact ⟨rfl, K123, F125, F126, F127, F128, F129, F130, F131, F132, F133, F134, F135, F136, F137, F138⟩
def Q15 (Z : State) (a : Addr) (tk : Addr) (th : Addr) (te : Addr) (tb : Addr) (t : Addr) (p2 : Int32) (q1 : Int64) (q2 : Int64) (k1 : Nat) (k2 : Nat) (fk : Nat → Int64) (fh : Nat → Int32) (fe : Nat → Int32) (fb : Nat → Int32) (h0 : Heap) (n0 : Nat) (v : Option Value) (h : Heap) : Prop := v = none ∧ Keep h0 h [a, tk, th, te, tb] ∧ Exa Z h a "com/example/positano/positano/Postings" ∧ Fld Z h a "com/example/positano/positano/Postings" "keys" "[J" (.ref tk) ∧ Fld Z h a "com/example/positano/positano/Postings" "heads" "[I" (.ref th) ∧ Fld Z h a "com/example/positano/positano/Postings" "entries" "[I" (.ref te) ∧ Fld Z h a "com/example/positano/positano/Postings" "before" "[I" (.ref tb) ∧ Fld Z h a "com/example/positano/positano/Postings" "maxPostings" "I" (.int (2147483639 : Int32)) ∧ Fld Z h a "com/example/positano/positano/Postings" "maxKeys" "I" (.int (((1073741824 : Int32) / (4 : Int32)) * (3 : Int32))) ∧ Fld Z h a "com/example/positano/positano/Postings" "keyCount" "I" (.int (2 : Int32)) ∧ Fld Z h a "com/example/positano/positano/Postings" "kept" "I" (.int (1 : Int32)) ∧ Fld Z h a "com/example/positano/positano/Postings" "count" "I" (.int (3 : Int32)) ∧ LA Z h tk 17 (oupd fk k2 q2) ∧ IA Z h th 17 (oupd (oupd fh k1 (0 : Int32)) k2 ((-2 : Int32) - p2)) ∧ IA Z h te 16 (oupd fe 0 p2) ∧ IA Z h tb 16 (oupd fb 0 (fh k1))
abbrev R15 : Room := { frames := 2, cells := 0, slots := 0, locals := 47 }
set_option maxRecDepth 65536 in
set_option maxHeartbeats 40000000 in
theorem rm15 (l : Launch) (Z : State) (a0 : Array Value) (hw : ∀ d ∈ tables_1, d.before a0 Z = true)  (a : Addr) (tk : Addr) (th : Addr) (te : Addr) (tb : Addr) (t : Addr) (p2 : Int32) (q1 : Int64) (q2 : Int64) (k1 : Nat) (k2 : Nat) (fk : Nat → Int64) (fh : Nat → Int32) (fe : Nat → Int32) (fb : Nat → Int32) (h0 : Heap) (n0 : Nat) (Z0 : NLe n0 h0.size) (Fp0 : Exa Z h0 a "com/example/positano/positano/Postings") (Fp1 : Fld Z h0 a "com/example/positano/positano/Postings" "keys" "[J" (.ref tk)) (Fp2 : Fld Z h0 a "com/example/positano/positano/Postings" "heads" "[I" (.ref th)) (Fp3 : Fld Z h0 a "com/example/positano/positano/Postings" "entries" "[I" (.ref te)) (Fp4 : Fld Z h0 a "com/example/positano/positano/Postings" "before" "[I" (.ref tb)) (Fp5 : Fld Z h0 a "com/example/positano/positano/Postings" "maxPostings" "I" (.int (2147483639 : Int32))) (Fp6 : Fld Z h0 a "com/example/positano/positano/Postings" "maxKeys" "I" (.int (((1073741824 : Int32) / (4 : Int32)) * (3 : Int32)))) (Fp7 : Fld Z h0 a "com/example/positano/positano/Postings" "keyCount" "I" (.int (1 : Int32))) (Fp8 : Fld Z h0 a "com/example/positano/positano/Postings" "kept" "I" (.int (0 : Int32))) (Fp9 : Fld Z h0 a "com/example/positano/positano/Postings" "count" "I" (.int (1 : Int32))) (Fp10 : LA Z h0 tk 17 fk) (Fp11 : IA Z h0 th 17 fh) (Fp12 : IA Z h0 te 16 fe) (Fp13 : IA Z h0 tb 16 fb) (Fp14 : LA Z h0 t 2 (oupd (oupd zeroL 0 q1) 1 q2)) (hS1 : own_Slot fk q1 k1) (hh1 : ¬ (fh k1).toInt = -1) (hS2 : own_Slot fk q2 k2) (hh2 : fh k2 = -1) (hne : k1 ≠ k2) (gn_a : NLe n0 a) (gn_tk : NLe n0 tk) (gn_th : NLe n0 th) (gn_te : NLe n0 te) (gn_tb : NLe n0 tb) (ne_a_tk : Apart a tk) (ne_a_th : Apart a th) (ne_a_te : Apart a te) (ne_a_tb : Apart a tb) (ne_a_t : Apart a t) (ne_tk_th : Apart tk th) (ne_tk_te : Apart tk te) (ne_tk_tb : Apart tk tb) (ne_tk_t : Apart tk t) (ne_th_te : Apart th te) (ne_th_tb : Apart th tb) (ne_th_t : Apart th t) (ne_te_tb : Apart te tb) (ne_te_t : Apart te t) (ne_tb_t : Apart tb t) :
    Con l (⟨"com/example/positano/positano/Postings", "add", "([JI)V"⟩ : MethodName) prog_11_method_3_code 9 none [] R15 Z #[(.ref a), (.ref t), (.int p2)] h0 n0 (Q15 Z a tk th te tb t p2 q1 q2 k1 k2 fk fh fe fb h0 n0) := by
  refine con_of (Ls0 := #[.val (.ref a), .val (.ref t), .val (.int p2), .unset, .unset, .unset, .unset, .unset, .unset]) pn_11 (fun m => by first | (simp [entryFrame, mkF, argsToLocals, Value.category, maxLocals]; done) | rfl) ?_
  intro p e s m below meth c s₁ X0 hx hby hml hZ hown hnm hret hlk e0 N0
  show OGoes p e s below (Q15 Z a tk th te tb t p2 q1 q2 k1 k2 fk fh fe fb h0 n0) n0 R15.cells R15.slots s₁ (mkF m 0 #[.val (.ref a), .val (.ref t), .val (.int p2), .unset, .unset, .unset, .unset, .unset, .unset] [])
  have K0 : Keep h0 h0 [a, tk, th, te, tb] := Keep.refl _ _
  have hl1 := own_Slot_lt hS1
  have hl2 := own_Slot_lt hS2
  have lm1 : (-1 : Int32).toInt = -1 := rfl
  refine g_aloadN X0 hx (hb hby d7_0) (v := (.ref a)) rfl rfl (pc' := 1) rfl ?_
  refine g_aloadN X0 hx (hb hby d7_1) (v := (.ref t)) rfl rfl (pc' := 2) rfl ?_
  refine g_lenLA X0 hx hZ e0 (z := (2 : Int32)) Fp14 rfl (hb hby d7_2) (pc' := 3) rfl ?_
  refine g_private X0 hx hZ hown (hw _ (List.mem_of_getElem? (i := 45) rfl)) (hw _ (List.mem_of_getElem? (i := 46) rfl)) (hw _ (List.mem_of_getElem? (i := 47) rfl)) (hw _ (List.mem_of_getElem? (i := 7) rfl)) (hw _ (List.mem_of_getElem? (i := 8) rfl)) (hw _ (List.mem_of_getElem? (i := 48) rfl)) (by decide) (a := a) (argsL := [(.int (2 : Int32))]) (rm7 l Z a0 hw a tk th te tb (2 : Int32) (1 : Int32) (0 : Int32) (1 : Int32) fk fe h0 n0 Z0 Fp0 Fp1 Fp2 Fp3 Fp4 Fp5 Fp6 Fp7 Fp8 Fp9 Fp10 Fp12 (by decide) (by decide) (by decide) (by decide)) rfl e0 Fp0 (by rw [hml]; rfl) pd_6 rfl (rest := []) rfl (W := 0) (Nat.le_of_eq rfl) (by decide) (by decide) (by decide) (by decide) N0 (hb hby d7_3) (pc' := 6) rfl (fun v1 T2 L3 X4 N5 q6 => ?_)
  obtain ⟨rfl, K7⟩ := q6
  have lt8 : (2 : Int32).toInt = 2 := rfl
  show OGoes p e s below (Q15 Z a tk th te tb t p2 q1 q2 k1 k2 fk fh fe fb h0 n0) n0 R15.cells R15.slots T2 (mkF m 6 #[.val (.ref a), .val (.ref t), .val (.int p2), .unset, .unset, .unset, .unset, .unset, .unset] [])
  refine g_aloadN X4 hx (hb hby d7_6) (v := (.ref t)) rfl rfl (pc' := 7) rfl ?_
  refine g_astoreN X4 hx (hb hby d7_7) rfl (Ls' := #[.val (.ref a), .val (.ref t), .val (.int p2), .val (.ref t), .unset, .unset, .unset, .unset, .unset]) rfl (pc' := 8) rfl ?_
  refine g_aloadN X4 hx (hb hby d7_8) (v := (.ref t)) rfl rfl (pc' := 9) rfl ?_
  refine g_lenLA X4 hx hZ K7 (z := (2 : Int32)) Fp14 rfl (hb hby d7_9) (pc' := 10) rfl ?_
  refine g_istore X4 hx (hb hby d7_10) (Ls' := #[.val (.ref a), .val (.ref t), .val (.int p2), .val (.ref t), .val (.int (2 : Int32)), .unset, .unset, .unset, .unset]) rfl (pc' := 12) rfl ?_
  refine g_iconst X4 hx (hb hby d7_12) (v := 0) (by decide) (pc' := 13) rfl ?_
  refine g_istore X4 hx (hb hby d7_13) (Ls' := #[.val (.ref a), .val (.ref t), .val (.int p2), .val (.ref t), .val (.int (2 : Int32)), .val (.int (0 : Int32)), .unset, .unset, .unset]) rfl (pc' := 15) rfl ?_
  refine g_iload X4 hx (hb hby d7_15) (v := (0 : Int32)) rfl (pc' := 17) rfl ?_
  refine g_iload X4 hx (hb hby d7_17) (v := (2 : Int32)) rfl (pc' := 19) rfl ?_
  refine g_ii_ge X4 hx (a := 0) (b := 2) rfl rfl (hb hby d7_19) (by decide) (pc' := 133) (by decide) (pc2 := 22) rfl (fun c9 => False.elim (by omega)) (fun c9 => ?_)
  refine g_aloadN X4 hx (hb hby d7_22) (v := (.ref t)) rfl rfl (pc' := 23) rfl ?_
  refine g_iload X4 hx (hb hby d7_23) (v := (0 : Int32)) rfl (pc' := 25) rfl ?_
  refine g_laload X4 hx hZ K7 (k := 0) Fp14 rfl (by decide) (hb hby d7_25) (pc' := 26) rfl ?_
  show OGoes p e s below (Q15 Z a tk th te tb t p2 q1 q2 k1 k2 fk fh fe fb h0 n0) n0 R15.cells R15.slots T2 (mkF m 26 #[.val (.ref a), .val (.ref t), .val (.int p2), .val (.ref t), .val (.int (2 : Int32)), .val (.int (0 : Int32)), .unset, .unset, .unset] [(.long q1)])
  refine g_lstore X4 hx (hb hby d7_26) (Ls' := #[.val (.ref a), .val (.ref t), .val (.int p2), .val (.ref t), .val (.int (2 : Int32)), .val (.int (0 : Int32)), .val (.long q1), .second, .unset]) rfl (pc' := 28) rfl ?_
  refine g_aloadN X4 hx (hb hby d7_28) (v := (.ref a)) rfl rfl (pc' := 29) rfl ?_
  refine g_lload X4 hx (hb hby d7_29) (v := q1) rfl (pc' := 31) rfl ?_
  refine g_private X4 hx hZ hown (hw _ (List.mem_of_getElem? (i := 55) rfl)) (hw _ (List.mem_of_getElem? (i := 56) rfl)) (hw _ (List.mem_of_getElem? (i := 57) rfl)) (hw _ (List.mem_of_getElem? (i := 7) rfl)) (hw _ (List.mem_of_getElem? (i := 8) rfl)) (hw _ (List.mem_of_getElem? (i := 58) rfl)) (by decide) (a := a) (argsL := [(.long q1)]) (rm8 l Z a0 hw a q1 tk fk k1 h0 n0 Z0 Fp1 Fp10 hS1) rfl K7 Fp0 (by rw [hml]; rfl) pd_7 rfl (rest := []) rfl (W := 0) (Nat.le_of_eq rfl) (by decide) (by decide) (by decide) (by decide) N5 (hb hby d7_31) (pc' := 34) rfl (fun v10 T11 L12 X13 N14 q15 => ?_)
  obtain ⟨b16, rfl, f17, K18⟩ := q15
  show OGoes p e s below (Q15 Z a tk th te tb t p2 q1 q2 k1 k2 fk fh fe fb h0 n0) n0 R15.cells R15.slots T11 (mkF m 34 #[.val (.ref a), .val (.ref t), .val (.int p2), .val (.ref t), .val (.int (2 : Int32)), .val (.int (0 : Int32)), .val (.long q1), .second, .unset] [(.int b16)])
  refine g_istore X13 hx (hb hby d7_34) (Ls' := #[.val (.ref a), .val (.ref t), .val (.int p2), .val (.ref t), .val (.int (2 : Int32)), .val (.int (0 : Int32)), .val (.long q1), .second, .val (.int b16)]) rfl (pc' := 36) rfl ?_
  refine g_aloadN X13 hx (hb hby d7_36) (v := (.ref a)) rfl rfl (pc' := 37) rfl ?_
  refine g_getF X13 hx hZ hown (hw _ (List.mem_of_getElem? (i := 27) rfl)) K18 Fp2 (hb hby d7_37) (pc' := 40) rfl (fun T19 X20 e21 => ?_)
  refine g_iload X20 hx (hb hby d7_40) (v := b16) rfl (pc' := 42) rfl ?_
  refine g_iaload X20 hx hZ e21 (k := k1) Fp11 f17 (by omega) (hb hby d7_42) (pc' := 43) rfl ?_
  refine g_iconst X20 hx (hb hby d7_43) (v := -1) (by decide) (pc' := 44) rfl ?_
  refine g_ii_ne X20 hx (a := (fh k1).toInt) (b := (-1)) rfl rfl (hb hby d7_44) (by decide) (pc' := 80) (by decide) (pc2 := 47) rfl (fun cc => ?_) (fun cc => False.elim (by exact hh1 (cc.trans lm1)))
  refine g_aloadN X20 hx (hb hby d7_80) (v := (.ref a)) rfl rfl (pc' := 81) rfl ?_
  refine g_getF X20 hx hZ hown (hw _ (List.mem_of_getElem? (i := 29) rfl)) e21 Fp3 (hb hby d7_81) (pc' := 84) rfl (fun T22 X23 e24 => ?_)
  refine g_aloadN X23 hx (hb hby d7_84) (v := (.ref a)) rfl rfl (pc' := 85) rfl ?_
  refine g_getF X23 hx hZ hown (hw _ (List.mem_of_getElem? (i := 53) rfl)) e24 Fp8 (hb hby d7_85) (pc' := 88) rfl (fun T25 X26 e27 => ?_)
  refine g_iloadN X26 hx (hb hby d7_88) (v := p2) rfl (pc' := 89) rfl ?_
  refine g_iastore X26 hx hZ e27 (k := 0) (x := p2) Fp12 rfl (by decide) N14 gn_te (hb hby d7_89) (pc' := 90) rfl (fun T28 h29 L30 X31 e32 W33 N34 A35 => ?_)
  have K36 := K0.wr W33 (Or.inl (by simp))
  have Z37 : NLe n0 h29.size := Z0.wr W33
  have F38 := Exa.wr W33 Fp0
  have F39 := Fld.other W33 Fp1 (Or.inl ne_a_te)
  have F40 := Fld.other W33 Fp2 (Or.inl ne_a_te)
  have F41 := Fld.other W33 Fp3 (Or.inl ne_a_te)
  have F42 := Fld.other W33 Fp4 (Or.inl ne_a_te)
  have F43 := Fld.other W33 Fp5 (Or.inl ne_a_te)
  have F44 := Fld.other W33 Fp6 (Or.inl ne_a_te)
  have F45 := Fld.other W33 Fp7 (Or.inl ne_a_te)
  have F46 := Fld.other W33 Fp8 (Or.inl ne_a_te)
  have F47 := Fld.other W33 Fp9 (Or.inl ne_a_te)
  have F48 := Fp10.other W33 ne_tk_te
  have F49 := Fp11.other W33 ne_th_te
  have F51 := Fp13.other W33 ne_te_tb.symm
  have F52 := Fp14.other W33 ne_te_t.symm
  refine g_aloadN X31 hx (hb hby d7_90) (v := (.ref a)) rfl rfl (pc' := 91) rfl ?_
  refine g_getF X31 hx hZ hown (hw _ (List.mem_of_getElem? (i := 31) rfl)) e32 F42 (hb hby d7_91) (pc' := 94) rfl (fun T53 X54 e55 => ?_)
  refine g_aloadN X54 hx (hb hby d7_94) (v := (.ref a)) rfl rfl (pc' := 95) rfl ?_
  refine g_getF X54 hx hZ hown (hw _ (List.mem_of_getElem? (i := 53) rfl)) e55 F46 (hb hby d7_95) (pc' := 98) rfl (fun T56 X57 e58 => ?_)
  refine g_aloadN X57 hx (hb hby d7_98) (v := (.ref a)) rfl rfl (pc' := 99) rfl ?_
  refine g_getF X57 hx hZ hown (hw _ (List.mem_of_getElem? (i := 27) rfl)) e58 F40 (hb hby d7_99) (pc' := 102) rfl (fun T59 X60 e61 => ?_)
  refine g_iload X60 hx (hb hby d7_102) (v := b16) rfl (pc' := 104) rfl ?_
  refine g_iaload X60 hx hZ e61 (k := k1) F49 f17 (by omega) (hb hby d7_104) (pc' := 105) rfl ?_
  refine g_iastore X60 hx hZ e61 (k := 0) (x := (fh k1)) F51 rfl (by decide) N34 gn_tb (hb hby d7_105) (pc' := 106) rfl (fun T62 h63 L64 X65 e66 W67 N68 A69 => ?_)
  have K70 := K36.wr W67 (Or.inl (by simp))
  have Z71 : NLe n0 h63.size := Z37.wr W67
  have F72 := Exa.wr W67 F38
  have F73 := Fld.other W67 F39 (Or.inl ne_a_tb)
  have F74 := Fld.other W67 F40 (Or.inl ne_a_tb)
  have F75 := Fld.other W67 F41 (Or.inl ne_a_tb)
  have F76 := Fld.other W67 F42 (Or.inl ne_a_tb)
  have F77 := Fld.other W67 F43 (Or.inl ne_a_tb)
  have F78 := Fld.other W67 F44 (Or.inl ne_a_tb)
  have F79 := Fld.other W67 F45 (Or.inl ne_a_tb)
  have F80 := Fld.other W67 F46 (Or.inl ne_a_tb)
  have F81 := Fld.other W67 F47 (Or.inl ne_a_tb)
  have F82 := F48.other W67 ne_tk_tb
  have F83 := F49.other W67 ne_th_tb
  have F84 := A35.other W67 ne_te_tb
  have F86 := F52.other W67 ne_tb_t.symm
  refine g_aloadN X65 hx (hb hby d7_106) (v := (.ref a)) rfl rfl (pc' := 107) rfl ?_
  refine g_getF X65 hx hZ hown (hw _ (List.mem_of_getElem? (i := 27) rfl)) e66 F74 (hb hby d7_107) (pc' := 110) rfl (fun T87 X88 e89 => ?_)
  refine g_iload X88 hx (hb hby d7_110) (v := b16) rfl (pc' := 112) rfl ?_
  refine g_aloadN X88 hx (hb hby d7_112) (v := (.ref a)) rfl rfl (pc' := 113) rfl ?_
  refine g_getF X88 hx hZ hown (hw _ (List.mem_of_getElem? (i := 53) rfl)) e89 F80 (hb hby d7_113) (pc' := 116) rfl (fun T90 X91 e92 => ?_)
  refine g_iastore X91 hx hZ e92 (k := k1) (x := (0 : Int32)) F83 f17 (by omega) N68 gn_th (hb hby d7_116) (pc' := 117) rfl (fun T93 h94 L95 X96 e97 W98 N99 A100 => ?_)
  have K101 := K70.wr W98 (Or.inl (by simp))
  have Z102 : NLe n0 h94.size := Z71.wr W98
  have F103 := Exa.wr W98 F72
  have F104 := Fld.other W98 F73 (Or.inl ne_a_th)
  have F105 := Fld.other W98 F74 (Or.inl ne_a_th)
  have F106 := Fld.other W98 F75 (Or.inl ne_a_th)
  have F107 := Fld.other W98 F76 (Or.inl ne_a_th)
  have F108 := Fld.other W98 F77 (Or.inl ne_a_th)
  have F109 := Fld.other W98 F78 (Or.inl ne_a_th)
  have F110 := Fld.other W98 F79 (Or.inl ne_a_th)
  have F111 := Fld.other W98 F80 (Or.inl ne_a_th)
  have F112 := Fld.other W98 F81 (Or.inl ne_a_th)
  have F113 := F82.other W98 ne_tk_th
  have F115 := F84.other W98 ne_th_te.symm
  have F116 := A69.other W98 ne_th_tb.symm
  have F117 := F86.other W98 ne_th_t.symm
  refine g_aloadN X96 hx (hb hby d7_117) (v := (.ref a)) rfl rfl (pc' := 118) rfl ?_
  refine g_dup X96 hx (hb hby d7_118) rfl (pc' := 119) rfl ?_
  refine g_getF X96 hx hZ hown (hw _ (List.mem_of_getElem? (i := 53) rfl)) e97 F111 (hb hby d7_119) (pc' := 122) rfl (fun T118 X119 e120 => ?_)
  refine g_iconst X119 hx (hb hby d7_122) (v := 1) (by decide) (pc' := 123) rfl ?_
  refine g_iadd X119 hx (hb hby d7_123) (pc' := 124) rfl ?_
  refine g_putF X119 hx hZ hown (hw _ (List.mem_of_getElem? (i := 53) rfl)) e120 (v := (.int ((0 : Int32) + (1 : Int32)))) F111 F103 (Or.inl (hw _ (List.mem_of_getElem? (i := 54) rfl))) (hw _ (List.mem_of_getElem? (i := 7) rfl)) (ty := .int) (by decide) rfl rfl N99 gn_a (hb hby d7_124) (pc' := 127) rfl (fun T121 h122 L123 X124 e125 W126 N127 => ?_)
  have K128 := K101.wr W126 (Or.inl (by simp))
  have Z129 : NLe n0 h122.size := Z102.wr W126
  have F130 := Exa.wr W126 F103
  have F131 := Fld.other W126 F104 (Or.inr (slot_ne (Or.inl (hw _ (List.mem_of_getElem? (i := 18) rfl))) (Or.inl (hw _ (List.mem_of_getElem? (i := 54) rfl))) (by decide) (t := (.array .long)) (t' := .int) (by decide) (by decide)))
  have F132 := Fld.other W126 F105 (Or.inr (slot_ne (Or.inl (hw _ (List.mem_of_getElem? (i := 28) rfl))) (Or.inl (hw _ (List.mem_of_getElem? (i := 54) rfl))) (by decide) (t := (.array .int)) (t' := .int) (by decide) (by decide)))
  have F133 := Fld.other W126 F106 (Or.inr (slot_ne (Or.inl (hw _ (List.mem_of_getElem? (i := 30) rfl))) (Or.inl (hw _ (List.mem_of_getElem? (i := 54) rfl))) (by decide) (t := (.array .int)) (t' := .int) (by decide) (by decide)))
  have F134 := Fld.other W126 F107 (Or.inr (slot_ne (Or.inl (hw _ (List.mem_of_getElem? (i := 32) rfl))) (Or.inl (hw _ (List.mem_of_getElem? (i := 54) rfl))) (by decide) (t := (.array .int)) (t' := .int) (by decide) (by decide)))
  have F135 := Fld.other W126 F108 (Or.inr (slot_ne (Or.inr (hw _ (List.mem_of_getElem? (i := 34) rfl))) (Or.inl (hw _ (List.mem_of_getElem? (i := 54) rfl))) (by decide) (t := .int) (t' := .int) (by decide) (by decide)))
  have F136 := Fld.other W126 F109 (Or.inr (slot_ne (Or.inr (hw _ (List.mem_of_getElem? (i := 39) rfl))) (Or.inl (hw _ (List.mem_of_getElem? (i := 54) rfl))) (by decide) (t := .int) (t' := .int) (by decide) (by decide)))
  have F137 := Fld.other W126 F110 (Or.inr (slot_ne (Or.inl (hw _ (List.mem_of_getElem? (i := 52) rfl))) (Or.inl (hw _ (List.mem_of_getElem? (i := 54) rfl))) (by decide) (t := .int) (t' := .int) (by decide) (by decide)))
  have F138 := Fld.same W126 F111
  have F139 := Fld.other W126 F112 (Or.inr (slot_ne (Or.inl (hw _ (List.mem_of_getElem? (i := 50) rfl))) (Or.inl (hw _ (List.mem_of_getElem? (i := 54) rfl))) (by decide) (t := .int) (t' := .int) (by decide) (by decide)))
  have F140 := F113.other W126 ne_a_tk.symm
  have F141 := A100.other W126 ne_a_th.symm
  have F142 := F115.other W126 ne_a_te.symm
  have F143 := F116.other W126 ne_a_tb.symm
  have F144 := F117.other W126 ne_a_t.symm
  refine g_iinc X124 hx (hb hby d7_127) (v := 1) (by decide) (x := (0 : Int32)) rfl (Ls' := #[.val (.ref a), .val (.ref t), .val (.int p2), .val (.ref t), .val (.int (2 : Int32)), .val (.int (1 : Int32)), .val (.long q1), .second, .val (.int b16)]) rfl (pc' := 130) rfl ?_
  refine g_goto X124 hx (hb hby d7_130) (by decide) (pc' := 15) (by decide) ?_
  refine g_iload X124 hx (hb hby d7_15) (v := (1 : Int32)) rfl (pc' := 17) rfl ?_
  refine g_iload X124 hx (hb hby d7_17) (v := (2 : Int32)) rfl (pc' := 19) rfl ?_
  refine g_ii_ge X124 hx (a := 1) (b := 2) rfl rfl (hb hby d7_19) (by decide) (pc' := 133) (by decide) (pc2 := 22) rfl (fun c145 => False.elim (by omega)) (fun c145 => ?_)
  refine g_aloadN X124 hx (hb hby d7_22) (v := (.ref t)) rfl rfl (pc' := 23) rfl ?_
  refine g_iload X124 hx (hb hby d7_23) (v := (1 : Int32)) rfl (pc' := 25) rfl ?_
  refine g_laload X124 hx hZ e125 (k := 1) F144 rfl (by decide) (hb hby d7_25) (pc' := 26) rfl ?_
  show OGoes p e s below (Q15 Z a tk th te tb t p2 q1 q2 k1 k2 fk fh fe fb h0 n0) n0 R15.cells R15.slots T121 (mkF m 26 #[.val (.ref a), .val (.ref t), .val (.int p2), .val (.ref t), .val (.int (2 : Int32)), .val (.int (1 : Int32)), .val (.long q1), .second, .val (.int b16)] [(.long q2)])
  refine g_lstore X124 hx (hb hby d7_26) (Ls' := #[.val (.ref a), .val (.ref t), .val (.int p2), .val (.ref t), .val (.int (2 : Int32)), .val (.int (1 : Int32)), .val (.long q2), .second, .val (.int b16)]) rfl (pc' := 28) rfl ?_
  refine g_aloadN X124 hx (hb hby d7_28) (v := (.ref a)) rfl rfl (pc' := 29) rfl ?_
  refine g_lload X124 hx (hb hby d7_29) (v := q2) rfl (pc' := 31) rfl ?_
  refine g_private X124 hx hZ hown (hw _ (List.mem_of_getElem? (i := 55) rfl)) (hw _ (List.mem_of_getElem? (i := 56) rfl)) (hw _ (List.mem_of_getElem? (i := 57) rfl)) (hw _ (List.mem_of_getElem? (i := 7) rfl)) (hw _ (List.mem_of_getElem? (i := 8) rfl)) (hw _ (List.mem_of_getElem? (i := 58) rfl)) (by decide) (a := a) (argsL := [(.long q2)]) (rm8 l Z a0 hw a q2 tk fk k2 h122 n0 Z129 F131 F140 hS2) rfl e125 F130 (by rw [hml]; rfl) pd_7 rfl (rest := []) rfl (W := 0) (Nat.le_of_eq rfl) (by decide) (by decide) (by decide) (by decide) N127 (hb hby d7_31) (pc' := 34) rfl (fun v146 T147 L148 X149 N150 q151 => ?_)
  obtain ⟨b152, rfl, f153, K154⟩ := q151
  show OGoes p e s below (Q15 Z a tk th te tb t p2 q1 q2 k1 k2 fk fh fe fb h0 n0) n0 R15.cells R15.slots T147 (mkF m 34 #[.val (.ref a), .val (.ref t), .val (.int p2), .val (.ref t), .val (.int (2 : Int32)), .val (.int (1 : Int32)), .val (.long q2), .second, .val (.int b16)] [(.int b152)])
  refine g_istore X149 hx (hb hby d7_34) (Ls' := #[.val (.ref a), .val (.ref t), .val (.int p2), .val (.ref t), .val (.int (2 : Int32)), .val (.int (1 : Int32)), .val (.long q2), .second, .val (.int b152)]) rfl (pc' := 36) rfl ?_
  refine g_aloadN X149 hx (hb hby d7_36) (v := (.ref a)) rfl rfl (pc' := 37) rfl ?_
  refine g_getF X149 hx hZ hown (hw _ (List.mem_of_getElem? (i := 27) rfl)) K154 F132 (hb hby d7_37) (pc' := 40) rfl (fun T155 X156 e157 => ?_)
  refine g_iload X156 hx (hb hby d7_40) (v := b152) rfl (pc' := 42) rfl ?_
  refine g_iaload X156 hx hZ e157 (k := k2) F141 f153 (by omega) (hb hby d7_42) (pc' := 43) rfl ?_
  refine g_iconst X156 hx (hb hby d7_43) (v := -1) (by decide) (pc' := 44) rfl ?_
  refine g_ii_ne X156 hx (a := ((oupd fh k1 (0 : Int32)) k2).toInt) (b := (-1)) rfl rfl (hb hby d7_44) (by decide) (pc' := 80) (by decide) (pc2 := 47) rfl (fun cc => False.elim (by have z : ((oupd fh k1 (0 : Int32)) k2) = fh k2 := (by simp [oupd, hne.symm]); exact cc (by rw [z, hh2]; rfl))) (fun cc => ?_)
  refine g_aloadN X156 hx (hb hby d7_47) (v := (.ref a)) rfl rfl (pc' := 48) rfl ?_
  refine g_getF X156 hx hZ hown (hw _ (List.mem_of_getElem? (i := 17) rfl)) e157 F131 (hb hby d7_48) (pc' := 51) rfl (fun T158 X159 e160 => ?_)
  refine g_iload X159 hx (hb hby d7_51) (v := b152) rfl (pc' := 53) rfl ?_
  refine g_lload X159 hx (hb hby d7_53) (v := q2) rfl (pc' := 55) rfl ?_
  refine g_lastore X159 hx hZ e160 (k := k2) (x := q2) F140 f153 (by omega) N150 gn_tk (hb hby d7_55) (pc' := 56) rfl (fun T161 h162 L163 X164 e165 W166 N167 A168 => ?_)
  have K169 := K128.wr W166 (Or.inl (by simp))
  have Z170 : NLe n0 h162.size := Z129.wr W166
  have F171 := Exa.wr W166 F130
  have F172 := Fld.other W166 F131 (Or.inl ne_a_tk)
  have F173 := Fld.other W166 F132 (Or.inl ne_a_tk)
  have F174 := Fld.other W166 F133 (Or.inl ne_a_tk)
  have F175 := Fld.other W166 F134 (Or.inl ne_a_tk)
  have F176 := Fld.other W166 F135 (Or.inl ne_a_tk)
  have F177 := Fld.other W166 F136 (Or.inl ne_a_tk)
  have F178 := Fld.other W166 F137 (Or.inl ne_a_tk)
  have F179 := Fld.other W166 F138 (Or.inl ne_a_tk)
  have F180 := Fld.other W166 F139 (Or.inl ne_a_tk)
  have F182 := F141.other W166 ne_tk_th.symm
  have F183 := F142.other W166 ne_tk_te.symm
  have F184 := F143.other W166 ne_tk_tb.symm
  have F185 := F144.other W166 ne_tk_t.symm
  refine g_aloadN X164 hx (hb hby d7_56) (v := (.ref a)) rfl rfl (pc' := 57) rfl ?_
  refine g_getF X164 hx hZ hown (hw _ (List.mem_of_getElem? (i := 27) rfl)) e165 F173 (hb hby d7_57) (pc' := 60) rfl (fun T186 X187 e188 => ?_)
  refine g_iload X187 hx (hb hby d7_60) (v := b152) rfl (pc' := 62) rfl ?_
  refine g_iloadN X187 hx (hb hby d7_62) (v := p2) rfl (pc' := 63) rfl ?_
  refine g_static X187 hx hZ hown (hw _ (List.mem_of_getElem? (i := 60) rfl)) (hw _ (List.mem_of_getElem? (i := 61) rfl)) (hw _ (List.mem_of_getElem? (i := 8) rfl)) (hw _ (List.mem_of_getElem? (i := 62) rfl)) (by decide) (argsL := [(.int p2)]) (rm3 l Z a0 hw p2 h162 n0 Z170 ) rfl e188 (by rw [hml]; rfl) pd_4 rfl (rest := [(.int b152), (.ref th)]) rfl (W := 2) (Nat.le_of_eq rfl) (by decide) (by decide) (by decide) (by decide) N167 (hb hby d7_63) (pc' := 66) rfl (fun v189 T190 L191 X192 N193 q194 => ?_)
  obtain ⟨rfl, K195⟩ := q194
  show OGoes p e s below (Q15 Z a tk th te tb t p2 q1 q2 k1 k2 fk fh fe fb h0 n0) n0 R15.cells R15.slots T190 (mkF m 66 #[.val (.ref a), .val (.ref t), .val (.int p2), .val (.ref t), .val (.int (2 : Int32)), .val (.int (1 : Int32)), .val (.long q2), .second, .val (.int b152)] [(.int ((-2 : Int32) - p2)), (.int b152), (.ref th)])
  refine g_iastore X192 hx hZ K195 (k := k2) (x := ((-2 : Int32) - p2)) F182 f153 (by omega) N193 gn_th (hb hby d7_66) (pc' := 67) rfl (fun T196 h197 L198 X199 e200 W201 N202 A203 => ?_)
  have K204 := K169.wr W201 (Or.inl (by simp))
  have Z205 : NLe n0 h197.size := Z170.wr W201
  have F206 := Exa.wr W201 F171
  have F207 := Fld.other W201 F172 (Or.inl ne_a_th)
  have F208 := Fld.other W201 F173 (Or.inl ne_a_th)
  have F209 := Fld.other W201 F174 (Or.inl ne_a_th)
  have F210 := Fld.other W201 F175 (Or.inl ne_a_th)
  have F211 := Fld.other W201 F176 (Or.inl ne_a_th)
  have F212 := Fld.other W201 F177 (Or.inl ne_a_th)
  have F213 := Fld.other W201 F178 (Or.inl ne_a_th)
  have F214 := Fld.other W201 F179 (Or.inl ne_a_th)
  have F215 := Fld.other W201 F180 (Or.inl ne_a_th)
  have F216 := A168.other W201 ne_tk_th
  have F218 := F183.other W201 ne_th_te.symm
  have F219 := F184.other W201 ne_th_tb.symm
  have F220 := F185.other W201 ne_th_t.symm
  refine g_aloadN X199 hx (hb hby d7_67) (v := (.ref a)) rfl rfl (pc' := 68) rfl ?_
  refine g_dup X199 hx (hb hby d7_68) rfl (pc' := 69) rfl ?_
  refine g_getF X199 hx hZ hown (hw _ (List.mem_of_getElem? (i := 51) rfl)) e200 F213 (hb hby d7_69) (pc' := 72) rfl (fun T221 X222 e223 => ?_)
  refine g_iconst X222 hx (hb hby d7_72) (v := 1) (by decide) (pc' := 73) rfl ?_
  refine g_iadd X222 hx (hb hby d7_73) (pc' := 74) rfl ?_
  refine g_putF X222 hx hZ hown (hw _ (List.mem_of_getElem? (i := 51) rfl)) e223 (v := (.int ((1 : Int32) + (1 : Int32)))) F213 F206 (Or.inl (hw _ (List.mem_of_getElem? (i := 52) rfl))) (hw _ (List.mem_of_getElem? (i := 7) rfl)) (ty := .int) (by decide) rfl rfl N202 gn_a (hb hby d7_74) (pc' := 77) rfl (fun T224 h225 L226 X227 e228 W229 N230 => ?_)
  have K231 := K204.wr W229 (Or.inl (by simp))
  have Z232 : NLe n0 h225.size := Z205.wr W229
  have F233 := Exa.wr W229 F206
  have F234 := Fld.other W229 F207 (Or.inr (slot_ne (Or.inl (hw _ (List.mem_of_getElem? (i := 18) rfl))) (Or.inl (hw _ (List.mem_of_getElem? (i := 52) rfl))) (by decide) (t := (.array .long)) (t' := .int) (by decide) (by decide)))
  have F235 := Fld.other W229 F208 (Or.inr (slot_ne (Or.inl (hw _ (List.mem_of_getElem? (i := 28) rfl))) (Or.inl (hw _ (List.mem_of_getElem? (i := 52) rfl))) (by decide) (t := (.array .int)) (t' := .int) (by decide) (by decide)))
  have F236 := Fld.other W229 F209 (Or.inr (slot_ne (Or.inl (hw _ (List.mem_of_getElem? (i := 30) rfl))) (Or.inl (hw _ (List.mem_of_getElem? (i := 52) rfl))) (by decide) (t := (.array .int)) (t' := .int) (by decide) (by decide)))
  have F237 := Fld.other W229 F210 (Or.inr (slot_ne (Or.inl (hw _ (List.mem_of_getElem? (i := 32) rfl))) (Or.inl (hw _ (List.mem_of_getElem? (i := 52) rfl))) (by decide) (t := (.array .int)) (t' := .int) (by decide) (by decide)))
  have F238 := Fld.other W229 F211 (Or.inr (slot_ne (Or.inr (hw _ (List.mem_of_getElem? (i := 34) rfl))) (Or.inl (hw _ (List.mem_of_getElem? (i := 52) rfl))) (by decide) (t := .int) (t' := .int) (by decide) (by decide)))
  have F239 := Fld.other W229 F212 (Or.inr (slot_ne (Or.inr (hw _ (List.mem_of_getElem? (i := 39) rfl))) (Or.inl (hw _ (List.mem_of_getElem? (i := 52) rfl))) (by decide) (t := .int) (t' := .int) (by decide) (by decide)))
  have F240 := Fld.same W229 F213
  have F241 := Fld.other W229 F214 (Or.inr (slot_ne (Or.inl (hw _ (List.mem_of_getElem? (i := 54) rfl))) (Or.inl (hw _ (List.mem_of_getElem? (i := 52) rfl))) (by decide) (t := .int) (t' := .int) (by decide) (by decide)))
  have F242 := Fld.other W229 F215 (Or.inr (slot_ne (Or.inl (hw _ (List.mem_of_getElem? (i := 50) rfl))) (Or.inl (hw _ (List.mem_of_getElem? (i := 52) rfl))) (by decide) (t := .int) (t' := .int) (by decide) (by decide)))
  have F243 := F216.other W229 ne_a_tk.symm
  have F244 := A203.other W229 ne_a_th.symm
  have F245 := F218.other W229 ne_a_te.symm
  have F246 := F219.other W229 ne_a_tb.symm
  have F247 := F220.other W229 ne_a_t.symm
  refine g_goto X227 hx (hb hby d7_77) (by decide) (pc' := 127) (by decide) ?_
  refine g_iinc X227 hx (hb hby d7_127) (v := 1) (by decide) (x := (1 : Int32)) rfl (Ls' := #[.val (.ref a), .val (.ref t), .val (.int p2), .val (.ref t), .val (.int (2 : Int32)), .val (.int (2 : Int32)), .val (.long q2), .second, .val (.int b152)]) rfl (pc' := 130) rfl ?_
  refine g_goto X227 hx (hb hby d7_130) (by decide) (pc' := 15) (by decide) ?_
  refine g_iload X227 hx (hb hby d7_15) (v := (2 : Int32)) rfl (pc' := 17) rfl ?_
  refine g_iload X227 hx (hb hby d7_17) (v := (2 : Int32)) rfl (pc' := 19) rfl ?_
  refine g_ii_ge X227 hx (a := 2) (b := 2) rfl rfl (hb hby d7_19) (by decide) (pc' := 133) (by decide) (pc2 := 22) rfl (fun c248 => ?_) (fun c248 => False.elim (by omega))
  refine g_aloadN X227 hx (hb hby d7_133) (v := (.ref a)) rfl rfl (pc' := 134) rfl ?_
  refine g_dup X227 hx (hb hby d7_134) rfl (pc' := 135) rfl ?_
  refine g_getF X227 hx hZ hown (hw _ (List.mem_of_getElem? (i := 49) rfl)) e228 F242 (hb hby d7_135) (pc' := 138) rfl (fun T249 X250 e251 => ?_)
  refine g_aloadN X250 hx (hb hby d7_138) (v := (.ref t)) rfl rfl (pc' := 139) rfl ?_
  refine g_lenLA X250 hx hZ e251 (z := (2 : Int32)) F247 rfl (hb hby d7_139) (pc' := 140) rfl ?_
  refine g_iadd X250 hx (hb hby d7_140) (pc' := 141) rfl ?_
  refine g_putF X250 hx hZ hown (hw _ (List.mem_of_getElem? (i := 49) rfl)) e251 (v := (.int ((1 : Int32) + (2 : Int32)))) F242 F233 (Or.inl (hw _ (List.mem_of_getElem? (i := 50) rfl))) (hw _ (List.mem_of_getElem? (i := 7) rfl)) (ty := .int) (by decide) rfl rfl N230 gn_a (hb hby d7_141) (pc' := 144) rfl (fun T252 h253 L254 X255 e256 W257 N258 => ?_)
  have K259 := K231.wr W257 (Or.inl (by simp))
  have Z260 : NLe n0 h253.size := Z232.wr W257
  have F261 := Exa.wr W257 F233
  have F262 := Fld.other W257 F234 (Or.inr (slot_ne (Or.inl (hw _ (List.mem_of_getElem? (i := 18) rfl))) (Or.inl (hw _ (List.mem_of_getElem? (i := 50) rfl))) (by decide) (t := (.array .long)) (t' := .int) (by decide) (by decide)))
  have F263 := Fld.other W257 F235 (Or.inr (slot_ne (Or.inl (hw _ (List.mem_of_getElem? (i := 28) rfl))) (Or.inl (hw _ (List.mem_of_getElem? (i := 50) rfl))) (by decide) (t := (.array .int)) (t' := .int) (by decide) (by decide)))
  have F264 := Fld.other W257 F236 (Or.inr (slot_ne (Or.inl (hw _ (List.mem_of_getElem? (i := 30) rfl))) (Or.inl (hw _ (List.mem_of_getElem? (i := 50) rfl))) (by decide) (t := (.array .int)) (t' := .int) (by decide) (by decide)))
  have F265 := Fld.other W257 F237 (Or.inr (slot_ne (Or.inl (hw _ (List.mem_of_getElem? (i := 32) rfl))) (Or.inl (hw _ (List.mem_of_getElem? (i := 50) rfl))) (by decide) (t := (.array .int)) (t' := .int) (by decide) (by decide)))
  have F266 := Fld.other W257 F238 (Or.inr (slot_ne (Or.inr (hw _ (List.mem_of_getElem? (i := 34) rfl))) (Or.inl (hw _ (List.mem_of_getElem? (i := 50) rfl))) (by decide) (t := .int) (t' := .int) (by decide) (by decide)))
  have F267 := Fld.other W257 F239 (Or.inr (slot_ne (Or.inr (hw _ (List.mem_of_getElem? (i := 39) rfl))) (Or.inl (hw _ (List.mem_of_getElem? (i := 50) rfl))) (by decide) (t := .int) (t' := .int) (by decide) (by decide)))
  have F268 := Fld.other W257 F240 (Or.inr (slot_ne (Or.inl (hw _ (List.mem_of_getElem? (i := 52) rfl))) (Or.inl (hw _ (List.mem_of_getElem? (i := 50) rfl))) (by decide) (t := .int) (t' := .int) (by decide) (by decide)))
  have F269 := Fld.other W257 F241 (Or.inr (slot_ne (Or.inl (hw _ (List.mem_of_getElem? (i := 54) rfl))) (Or.inl (hw _ (List.mem_of_getElem? (i := 50) rfl))) (by decide) (t := .int) (t' := .int) (by decide) (by decide)))
  have F270 := Fld.same W257 F242
  have F271 := F243.other W257 ne_a_tk.symm
  have F272 := F244.other W257 ne_a_th.symm
  have F273 := F245.other W257 ne_a_te.symm
  have F274 := F246.other W257 ne_a_tb.symm
  have F275 := F247.other W257 ne_a_t.symm
  refine g_retV X255 hx hlk hret (hb hby d7_144) N258 (by decide) (by decide) ?_
  rw [e256]
  exact ⟨rfl, K259, F261, F262, F263, F264, F265, F266, F267, F268, F269, F270, F271, F272, F273, F274⟩
def Q16 (Z : State) (a : Addr) (tk : Addr) (th : Addr) (te : Addr) (tb : Addr) (t : Addr) (p2 : Int32) (q1 : Int64) (q2 : Int64) (k1 : Nat) (k2 : Nat) (fk : Nat → Int64) (fh : Nat → Int32) (fe : Nat → Int32) (fb : Nat → Int32) (h0 : Heap) (n0 : Nat) (v : Option Value) (h : Heap) : Prop := v = none ∧ Keep h0 h [a, th, te, tb] ∧ Exa Z h a "com/example/positano/positano/Postings" ∧ Fld Z h a "com/example/positano/positano/Postings" "keys" "[J" (.ref tk) ∧ Fld Z h a "com/example/positano/positano/Postings" "heads" "[I" (.ref th) ∧ Fld Z h a "com/example/positano/positano/Postings" "entries" "[I" (.ref te) ∧ Fld Z h a "com/example/positano/positano/Postings" "before" "[I" (.ref tb) ∧ Fld Z h a "com/example/positano/positano/Postings" "maxPostings" "I" (.int (2147483639 : Int32)) ∧ Fld Z h a "com/example/positano/positano/Postings" "maxKeys" "I" (.int (((1073741824 : Int32) / (4 : Int32)) * (3 : Int32))) ∧ Fld Z h a "com/example/positano/positano/Postings" "keyCount" "I" (.int (2 : Int32)) ∧ Fld Z h a "com/example/positano/positano/Postings" "kept" "I" (.int (3 : Int32)) ∧ Fld Z h a "com/example/positano/positano/Postings" "count" "I" (.int (5 : Int32)) ∧ LA Z h tk 17 fk ∧ IA Z h th 17 (oupd (oupd fh k1 (1 : Int32)) k2 (2 : Int32)) ∧ IA Z h te 16 (oupd (oupd fe 1 p2) 2 p2) ∧ IA Z h tb 16 (oupd (oupd fb 1 (fh k1)) 2 ((oupd fh k1 (1 : Int32)) k2))
abbrev R16 : Room := { frames := 2, cells := 0, slots := 0, locals := 47 }
set_option maxRecDepth 65536 in
set_option maxHeartbeats 40000000 in
theorem rm16 (l : Launch) (Z : State) (a0 : Array Value) (hw : ∀ d ∈ tables_1, d.before a0 Z = true)  (a : Addr) (tk : Addr) (th : Addr) (te : Addr) (tb : Addr) (t : Addr) (p2 : Int32) (q1 : Int64) (q2 : Int64) (k1 : Nat) (k2 : Nat) (fk : Nat → Int64) (fh : Nat → Int32) (fe : Nat → Int32) (fb : Nat → Int32) (h0 : Heap) (n0 : Nat) (Z0 : NLe n0 h0.size) (Fp0 : Exa Z h0 a "com/example/positano/positano/Postings") (Fp1 : Fld Z h0 a "com/example/positano/positano/Postings" "keys" "[J" (.ref tk)) (Fp2 : Fld Z h0 a "com/example/positano/positano/Postings" "heads" "[I" (.ref th)) (Fp3 : Fld Z h0 a "com/example/positano/positano/Postings" "entries" "[I" (.ref te)) (Fp4 : Fld Z h0 a "com/example/positano/positano/Postings" "before" "[I" (.ref tb)) (Fp5 : Fld Z h0 a "com/example/positano/positano/Postings" "maxPostings" "I" (.int (2147483639 : Int32))) (Fp6 : Fld Z h0 a "com/example/positano/positano/Postings" "maxKeys" "I" (.int (((1073741824 : Int32) / (4 : Int32)) * (3 : Int32)))) (Fp7 : Fld Z h0 a "com/example/positano/positano/Postings" "keyCount" "I" (.int (2 : Int32))) (Fp8 : Fld Z h0 a "com/example/positano/positano/Postings" "kept" "I" (.int (1 : Int32))) (Fp9 : Fld Z h0 a "com/example/positano/positano/Postings" "count" "I" (.int (3 : Int32))) (Fp10 : LA Z h0 tk 17 fk) (Fp11 : IA Z h0 th 17 fh) (Fp12 : IA Z h0 te 16 fe) (Fp13 : IA Z h0 tb 16 fb) (Fp14 : LA Z h0 t 2 (oupd (oupd zeroL 0 q1) 1 q2)) (hS1 : own_Slot fk q1 k1) (hh1 : ¬ (fh k1).toInt = -1) (hS2 : own_Slot fk q2 k2) (hh2 : ¬ (fh k2).toInt = -1) (hne : k1 ≠ k2) (gn_a : NLe n0 a) (gn_tk : NLe n0 tk) (gn_th : NLe n0 th) (gn_te : NLe n0 te) (gn_tb : NLe n0 tb) (ne_a_tk : Apart a tk) (ne_a_th : Apart a th) (ne_a_te : Apart a te) (ne_a_tb : Apart a tb) (ne_a_t : Apart a t) (ne_tk_th : Apart tk th) (ne_tk_te : Apart tk te) (ne_tk_tb : Apart tk tb) (ne_tk_t : Apart tk t) (ne_th_te : Apart th te) (ne_th_tb : Apart th tb) (ne_th_t : Apart th t) (ne_te_tb : Apart te tb) (ne_te_t : Apart te t) (ne_tb_t : Apart tb t) :
    Con l (⟨"com/example/positano/positano/Postings", "add", "([JI)V"⟩ : MethodName) prog_11_method_3_code 9 none [] R16 Z #[(.ref a), (.ref t), (.int p2)] h0 n0 (Q16 Z a tk th te tb t p2 q1 q2 k1 k2 fk fh fe fb h0 n0) := by
  refine con_of (Ls0 := #[.val (.ref a), .val (.ref t), .val (.int p2), .unset, .unset, .unset, .unset, .unset, .unset]) pn_11 (fun m => by first | (simp [entryFrame, mkF, argsToLocals, Value.category, maxLocals]; done) | rfl) ?_
  intro p e s m below meth c s₁ X0 hx hby hml hZ hown hnm hret hlk e0 N0
  show OGoes p e s below (Q16 Z a tk th te tb t p2 q1 q2 k1 k2 fk fh fe fb h0 n0) n0 R16.cells R16.slots s₁ (mkF m 0 #[.val (.ref a), .val (.ref t), .val (.int p2), .unset, .unset, .unset, .unset, .unset, .unset] [])
  have K0 : Keep h0 h0 [a, th, te, tb] := Keep.refl _ _
  have hl1 := own_Slot_lt hS1
  have hl2 := own_Slot_lt hS2
  have lm1 : (-1 : Int32).toInt = -1 := rfl
  refine g_aloadN X0 hx (hb hby d7_0) (v := (.ref a)) rfl rfl (pc' := 1) rfl ?_
  refine g_aloadN X0 hx (hb hby d7_1) (v := (.ref t)) rfl rfl (pc' := 2) rfl ?_
  refine g_lenLA X0 hx hZ e0 (z := (2 : Int32)) Fp14 rfl (hb hby d7_2) (pc' := 3) rfl ?_
  refine g_private X0 hx hZ hown (hw _ (List.mem_of_getElem? (i := 45) rfl)) (hw _ (List.mem_of_getElem? (i := 46) rfl)) (hw _ (List.mem_of_getElem? (i := 47) rfl)) (hw _ (List.mem_of_getElem? (i := 7) rfl)) (hw _ (List.mem_of_getElem? (i := 8) rfl)) (hw _ (List.mem_of_getElem? (i := 48) rfl)) (by decide) (a := a) (argsL := [(.int (2 : Int32))]) (rm7 l Z a0 hw a tk th te tb (2 : Int32) (2 : Int32) (1 : Int32) (3 : Int32) fk fe h0 n0 Z0 Fp0 Fp1 Fp2 Fp3 Fp4 Fp5 Fp6 Fp7 Fp8 Fp9 Fp10 Fp12 (by decide) (by decide) (by decide) (by decide)) rfl e0 Fp0 (by rw [hml]; rfl) pd_6 rfl (rest := []) rfl (W := 0) (Nat.le_of_eq rfl) (by decide) (by decide) (by decide) (by decide) N0 (hb hby d7_3) (pc' := 6) rfl (fun v1 T2 L3 X4 N5 q6 => ?_)
  obtain ⟨rfl, K7⟩ := q6
  have lt8 : (2 : Int32).toInt = 2 := rfl
  show OGoes p e s below (Q16 Z a tk th te tb t p2 q1 q2 k1 k2 fk fh fe fb h0 n0) n0 R16.cells R16.slots T2 (mkF m 6 #[.val (.ref a), .val (.ref t), .val (.int p2), .unset, .unset, .unset, .unset, .unset, .unset] [])
  refine g_aloadN X4 hx (hb hby d7_6) (v := (.ref t)) rfl rfl (pc' := 7) rfl ?_
  refine g_astoreN X4 hx (hb hby d7_7) rfl (Ls' := #[.val (.ref a), .val (.ref t), .val (.int p2), .val (.ref t), .unset, .unset, .unset, .unset, .unset]) rfl (pc' := 8) rfl ?_
  refine g_aloadN X4 hx (hb hby d7_8) (v := (.ref t)) rfl rfl (pc' := 9) rfl ?_
  refine g_lenLA X4 hx hZ K7 (z := (2 : Int32)) Fp14 rfl (hb hby d7_9) (pc' := 10) rfl ?_
  refine g_istore X4 hx (hb hby d7_10) (Ls' := #[.val (.ref a), .val (.ref t), .val (.int p2), .val (.ref t), .val (.int (2 : Int32)), .unset, .unset, .unset, .unset]) rfl (pc' := 12) rfl ?_
  refine g_iconst X4 hx (hb hby d7_12) (v := 0) (by decide) (pc' := 13) rfl ?_
  refine g_istore X4 hx (hb hby d7_13) (Ls' := #[.val (.ref a), .val (.ref t), .val (.int p2), .val (.ref t), .val (.int (2 : Int32)), .val (.int (0 : Int32)), .unset, .unset, .unset]) rfl (pc' := 15) rfl ?_
  refine g_iload X4 hx (hb hby d7_15) (v := (0 : Int32)) rfl (pc' := 17) rfl ?_
  refine g_iload X4 hx (hb hby d7_17) (v := (2 : Int32)) rfl (pc' := 19) rfl ?_
  refine g_ii_ge X4 hx (a := 0) (b := 2) rfl rfl (hb hby d7_19) (by decide) (pc' := 133) (by decide) (pc2 := 22) rfl (fun c9 => False.elim (by omega)) (fun c9 => ?_)
  refine g_aloadN X4 hx (hb hby d7_22) (v := (.ref t)) rfl rfl (pc' := 23) rfl ?_
  refine g_iload X4 hx (hb hby d7_23) (v := (0 : Int32)) rfl (pc' := 25) rfl ?_
  refine g_laload X4 hx hZ K7 (k := 0) Fp14 rfl (by decide) (hb hby d7_25) (pc' := 26) rfl ?_
  show OGoes p e s below (Q16 Z a tk th te tb t p2 q1 q2 k1 k2 fk fh fe fb h0 n0) n0 R16.cells R16.slots T2 (mkF m 26 #[.val (.ref a), .val (.ref t), .val (.int p2), .val (.ref t), .val (.int (2 : Int32)), .val (.int (0 : Int32)), .unset, .unset, .unset] [(.long q1)])
  refine g_lstore X4 hx (hb hby d7_26) (Ls' := #[.val (.ref a), .val (.ref t), .val (.int p2), .val (.ref t), .val (.int (2 : Int32)), .val (.int (0 : Int32)), .val (.long q1), .second, .unset]) rfl (pc' := 28) rfl ?_
  refine g_aloadN X4 hx (hb hby d7_28) (v := (.ref a)) rfl rfl (pc' := 29) rfl ?_
  refine g_lload X4 hx (hb hby d7_29) (v := q1) rfl (pc' := 31) rfl ?_
  refine g_private X4 hx hZ hown (hw _ (List.mem_of_getElem? (i := 55) rfl)) (hw _ (List.mem_of_getElem? (i := 56) rfl)) (hw _ (List.mem_of_getElem? (i := 57) rfl)) (hw _ (List.mem_of_getElem? (i := 7) rfl)) (hw _ (List.mem_of_getElem? (i := 8) rfl)) (hw _ (List.mem_of_getElem? (i := 58) rfl)) (by decide) (a := a) (argsL := [(.long q1)]) (rm8 l Z a0 hw a q1 tk fk k1 h0 n0 Z0 Fp1 Fp10 hS1) rfl K7 Fp0 (by rw [hml]; rfl) pd_7 rfl (rest := []) rfl (W := 0) (Nat.le_of_eq rfl) (by decide) (by decide) (by decide) (by decide) N5 (hb hby d7_31) (pc' := 34) rfl (fun v10 T11 L12 X13 N14 q15 => ?_)
  obtain ⟨b16, rfl, f17, K18⟩ := q15
  show OGoes p e s below (Q16 Z a tk th te tb t p2 q1 q2 k1 k2 fk fh fe fb h0 n0) n0 R16.cells R16.slots T11 (mkF m 34 #[.val (.ref a), .val (.ref t), .val (.int p2), .val (.ref t), .val (.int (2 : Int32)), .val (.int (0 : Int32)), .val (.long q1), .second, .unset] [(.int b16)])
  refine g_istore X13 hx (hb hby d7_34) (Ls' := #[.val (.ref a), .val (.ref t), .val (.int p2), .val (.ref t), .val (.int (2 : Int32)), .val (.int (0 : Int32)), .val (.long q1), .second, .val (.int b16)]) rfl (pc' := 36) rfl ?_
  refine g_aloadN X13 hx (hb hby d7_36) (v := (.ref a)) rfl rfl (pc' := 37) rfl ?_
  refine g_getF X13 hx hZ hown (hw _ (List.mem_of_getElem? (i := 27) rfl)) K18 Fp2 (hb hby d7_37) (pc' := 40) rfl (fun T19 X20 e21 => ?_)
  refine g_iload X20 hx (hb hby d7_40) (v := b16) rfl (pc' := 42) rfl ?_
  refine g_iaload X20 hx hZ e21 (k := k1) Fp11 f17 (by omega) (hb hby d7_42) (pc' := 43) rfl ?_
  refine g_iconst X20 hx (hb hby d7_43) (v := -1) (by decide) (pc' := 44) rfl ?_
  refine g_ii_ne X20 hx (a := (fh k1).toInt) (b := (-1)) rfl rfl (hb hby d7_44) (by decide) (pc' := 80) (by decide) (pc2 := 47) rfl (fun cc => ?_) (fun cc => False.elim (by exact hh1 (cc.trans lm1)))
  refine g_aloadN X20 hx (hb hby d7_80) (v := (.ref a)) rfl rfl (pc' := 81) rfl ?_
  refine g_getF X20 hx hZ hown (hw _ (List.mem_of_getElem? (i := 29) rfl)) e21 Fp3 (hb hby d7_81) (pc' := 84) rfl (fun T22 X23 e24 => ?_)
  refine g_aloadN X23 hx (hb hby d7_84) (v := (.ref a)) rfl rfl (pc' := 85) rfl ?_
  refine g_getF X23 hx hZ hown (hw _ (List.mem_of_getElem? (i := 53) rfl)) e24 Fp8 (hb hby d7_85) (pc' := 88) rfl (fun T25 X26 e27 => ?_)
  refine g_iloadN X26 hx (hb hby d7_88) (v := p2) rfl (pc' := 89) rfl ?_
  refine g_iastore X26 hx hZ e27 (k := 1) (x := p2) Fp12 rfl (by decide) N14 gn_te (hb hby d7_89) (pc' := 90) rfl (fun T28 h29 L30 X31 e32 W33 N34 A35 => ?_)
  have K36 := K0.wr W33 (Or.inl (by simp))
  have Z37 : NLe n0 h29.size := Z0.wr W33
  have F38 := Exa.wr W33 Fp0
  have F39 := Fld.other W33 Fp1 (Or.inl ne_a_te)
  have F40 := Fld.other W33 Fp2 (Or.inl ne_a_te)
  have F41 := Fld.other W33 Fp3 (Or.inl ne_a_te)
  have F42 := Fld.other W33 Fp4 (Or.inl ne_a_te)
  have F43 := Fld.other W33 Fp5 (Or.inl ne_a_te)
  have F44 := Fld.other W33 Fp6 (Or.inl ne_a_te)
  have F45 := Fld.other W33 Fp7 (Or.inl ne_a_te)
  have F46 := Fld.other W33 Fp8 (Or.inl ne_a_te)
  have F47 := Fld.other W33 Fp9 (Or.inl ne_a_te)
  have F48 := Fp10.other W33 ne_tk_te
  have F49 := Fp11.other W33 ne_th_te
  have F51 := Fp13.other W33 ne_te_tb.symm
  have F52 := Fp14.other W33 ne_te_t.symm
  refine g_aloadN X31 hx (hb hby d7_90) (v := (.ref a)) rfl rfl (pc' := 91) rfl ?_
  refine g_getF X31 hx hZ hown (hw _ (List.mem_of_getElem? (i := 31) rfl)) e32 F42 (hb hby d7_91) (pc' := 94) rfl (fun T53 X54 e55 => ?_)
  refine g_aloadN X54 hx (hb hby d7_94) (v := (.ref a)) rfl rfl (pc' := 95) rfl ?_
  refine g_getF X54 hx hZ hown (hw _ (List.mem_of_getElem? (i := 53) rfl)) e55 F46 (hb hby d7_95) (pc' := 98) rfl (fun T56 X57 e58 => ?_)
  refine g_aloadN X57 hx (hb hby d7_98) (v := (.ref a)) rfl rfl (pc' := 99) rfl ?_
  refine g_getF X57 hx hZ hown (hw _ (List.mem_of_getElem? (i := 27) rfl)) e58 F40 (hb hby d7_99) (pc' := 102) rfl (fun T59 X60 e61 => ?_)
  refine g_iload X60 hx (hb hby d7_102) (v := b16) rfl (pc' := 104) rfl ?_
  refine g_iaload X60 hx hZ e61 (k := k1) F49 f17 (by omega) (hb hby d7_104) (pc' := 105) rfl ?_
  refine g_iastore X60 hx hZ e61 (k := 1) (x := (fh k1)) F51 rfl (by decide) N34 gn_tb (hb hby d7_105) (pc' := 106) rfl (fun T62 h63 L64 X65 e66 W67 N68 A69 => ?_)
  have K70 := K36.wr W67 (Or.inl (by simp))
  have Z71 : NLe n0 h63.size := Z37.wr W67
  have F72 := Exa.wr W67 F38
  have F73 := Fld.other W67 F39 (Or.inl ne_a_tb)
  have F74 := Fld.other W67 F40 (Or.inl ne_a_tb)
  have F75 := Fld.other W67 F41 (Or.inl ne_a_tb)
  have F76 := Fld.other W67 F42 (Or.inl ne_a_tb)
  have F77 := Fld.other W67 F43 (Or.inl ne_a_tb)
  have F78 := Fld.other W67 F44 (Or.inl ne_a_tb)
  have F79 := Fld.other W67 F45 (Or.inl ne_a_tb)
  have F80 := Fld.other W67 F46 (Or.inl ne_a_tb)
  have F81 := Fld.other W67 F47 (Or.inl ne_a_tb)
  have F82 := F48.other W67 ne_tk_tb
  have F83 := F49.other W67 ne_th_tb
  have F84 := A35.other W67 ne_te_tb
  have F86 := F52.other W67 ne_tb_t.symm
  refine g_aloadN X65 hx (hb hby d7_106) (v := (.ref a)) rfl rfl (pc' := 107) rfl ?_
  refine g_getF X65 hx hZ hown (hw _ (List.mem_of_getElem? (i := 27) rfl)) e66 F74 (hb hby d7_107) (pc' := 110) rfl (fun T87 X88 e89 => ?_)
  refine g_iload X88 hx (hb hby d7_110) (v := b16) rfl (pc' := 112) rfl ?_
  refine g_aloadN X88 hx (hb hby d7_112) (v := (.ref a)) rfl rfl (pc' := 113) rfl ?_
  refine g_getF X88 hx hZ hown (hw _ (List.mem_of_getElem? (i := 53) rfl)) e89 F80 (hb hby d7_113) (pc' := 116) rfl (fun T90 X91 e92 => ?_)
  refine g_iastore X91 hx hZ e92 (k := k1) (x := (1 : Int32)) F83 f17 (by omega) N68 gn_th (hb hby d7_116) (pc' := 117) rfl (fun T93 h94 L95 X96 e97 W98 N99 A100 => ?_)
  have K101 := K70.wr W98 (Or.inl (by simp))
  have Z102 : NLe n0 h94.size := Z71.wr W98
  have F103 := Exa.wr W98 F72
  have F104 := Fld.other W98 F73 (Or.inl ne_a_th)
  have F105 := Fld.other W98 F74 (Or.inl ne_a_th)
  have F106 := Fld.other W98 F75 (Or.inl ne_a_th)
  have F107 := Fld.other W98 F76 (Or.inl ne_a_th)
  have F108 := Fld.other W98 F77 (Or.inl ne_a_th)
  have F109 := Fld.other W98 F78 (Or.inl ne_a_th)
  have F110 := Fld.other W98 F79 (Or.inl ne_a_th)
  have F111 := Fld.other W98 F80 (Or.inl ne_a_th)
  have F112 := Fld.other W98 F81 (Or.inl ne_a_th)
  have F113 := F82.other W98 ne_tk_th
  have F115 := F84.other W98 ne_th_te.symm
  have F116 := A69.other W98 ne_th_tb.symm
  have F117 := F86.other W98 ne_th_t.symm
  refine g_aloadN X96 hx (hb hby d7_117) (v := (.ref a)) rfl rfl (pc' := 118) rfl ?_
  refine g_dup X96 hx (hb hby d7_118) rfl (pc' := 119) rfl ?_
  refine g_getF X96 hx hZ hown (hw _ (List.mem_of_getElem? (i := 53) rfl)) e97 F111 (hb hby d7_119) (pc' := 122) rfl (fun T118 X119 e120 => ?_)
  refine g_iconst X119 hx (hb hby d7_122) (v := 1) (by decide) (pc' := 123) rfl ?_
  refine g_iadd X119 hx (hb hby d7_123) (pc' := 124) rfl ?_
  refine g_putF X119 hx hZ hown (hw _ (List.mem_of_getElem? (i := 53) rfl)) e120 (v := (.int ((1 : Int32) + (1 : Int32)))) F111 F103 (Or.inl (hw _ (List.mem_of_getElem? (i := 54) rfl))) (hw _ (List.mem_of_getElem? (i := 7) rfl)) (ty := .int) (by decide) rfl rfl N99 gn_a (hb hby d7_124) (pc' := 127) rfl (fun T121 h122 L123 X124 e125 W126 N127 => ?_)
  have K128 := K101.wr W126 (Or.inl (by simp))
  have Z129 : NLe n0 h122.size := Z102.wr W126
  have F130 := Exa.wr W126 F103
  have F131 := Fld.other W126 F104 (Or.inr (slot_ne (Or.inl (hw _ (List.mem_of_getElem? (i := 18) rfl))) (Or.inl (hw _ (List.mem_of_getElem? (i := 54) rfl))) (by decide) (t := (.array .long)) (t' := .int) (by decide) (by decide)))
  have F132 := Fld.other W126 F105 (Or.inr (slot_ne (Or.inl (hw _ (List.mem_of_getElem? (i := 28) rfl))) (Or.inl (hw _ (List.mem_of_getElem? (i := 54) rfl))) (by decide) (t := (.array .int)) (t' := .int) (by decide) (by decide)))
  have F133 := Fld.other W126 F106 (Or.inr (slot_ne (Or.inl (hw _ (List.mem_of_getElem? (i := 30) rfl))) (Or.inl (hw _ (List.mem_of_getElem? (i := 54) rfl))) (by decide) (t := (.array .int)) (t' := .int) (by decide) (by decide)))
  have F134 := Fld.other W126 F107 (Or.inr (slot_ne (Or.inl (hw _ (List.mem_of_getElem? (i := 32) rfl))) (Or.inl (hw _ (List.mem_of_getElem? (i := 54) rfl))) (by decide) (t := (.array .int)) (t' := .int) (by decide) (by decide)))
  have F135 := Fld.other W126 F108 (Or.inr (slot_ne (Or.inr (hw _ (List.mem_of_getElem? (i := 34) rfl))) (Or.inl (hw _ (List.mem_of_getElem? (i := 54) rfl))) (by decide) (t := .int) (t' := .int) (by decide) (by decide)))
  have F136 := Fld.other W126 F109 (Or.inr (slot_ne (Or.inr (hw _ (List.mem_of_getElem? (i := 39) rfl))) (Or.inl (hw _ (List.mem_of_getElem? (i := 54) rfl))) (by decide) (t := .int) (t' := .int) (by decide) (by decide)))
  have F137 := Fld.other W126 F110 (Or.inr (slot_ne (Or.inl (hw _ (List.mem_of_getElem? (i := 52) rfl))) (Or.inl (hw _ (List.mem_of_getElem? (i := 54) rfl))) (by decide) (t := .int) (t' := .int) (by decide) (by decide)))
  have F138 := Fld.same W126 F111
  have F139 := Fld.other W126 F112 (Or.inr (slot_ne (Or.inl (hw _ (List.mem_of_getElem? (i := 50) rfl))) (Or.inl (hw _ (List.mem_of_getElem? (i := 54) rfl))) (by decide) (t := .int) (t' := .int) (by decide) (by decide)))
  have F140 := F113.other W126 ne_a_tk.symm
  have F141 := A100.other W126 ne_a_th.symm
  have F142 := F115.other W126 ne_a_te.symm
  have F143 := F116.other W126 ne_a_tb.symm
  have F144 := F117.other W126 ne_a_t.symm
  refine g_iinc X124 hx (hb hby d7_127) (v := 1) (by decide) (x := (0 : Int32)) rfl (Ls' := #[.val (.ref a), .val (.ref t), .val (.int p2), .val (.ref t), .val (.int (2 : Int32)), .val (.int (1 : Int32)), .val (.long q1), .second, .val (.int b16)]) rfl (pc' := 130) rfl ?_
  refine g_goto X124 hx (hb hby d7_130) (by decide) (pc' := 15) (by decide) ?_
  refine g_iload X124 hx (hb hby d7_15) (v := (1 : Int32)) rfl (pc' := 17) rfl ?_
  refine g_iload X124 hx (hb hby d7_17) (v := (2 : Int32)) rfl (pc' := 19) rfl ?_
  refine g_ii_ge X124 hx (a := 1) (b := 2) rfl rfl (hb hby d7_19) (by decide) (pc' := 133) (by decide) (pc2 := 22) rfl (fun c145 => False.elim (by omega)) (fun c145 => ?_)
  refine g_aloadN X124 hx (hb hby d7_22) (v := (.ref t)) rfl rfl (pc' := 23) rfl ?_
  refine g_iload X124 hx (hb hby d7_23) (v := (1 : Int32)) rfl (pc' := 25) rfl ?_
  refine g_laload X124 hx hZ e125 (k := 1) F144 rfl (by decide) (hb hby d7_25) (pc' := 26) rfl ?_
  show OGoes p e s below (Q16 Z a tk th te tb t p2 q1 q2 k1 k2 fk fh fe fb h0 n0) n0 R16.cells R16.slots T121 (mkF m 26 #[.val (.ref a), .val (.ref t), .val (.int p2), .val (.ref t), .val (.int (2 : Int32)), .val (.int (1 : Int32)), .val (.long q1), .second, .val (.int b16)] [(.long q2)])
  refine g_lstore X124 hx (hb hby d7_26) (Ls' := #[.val (.ref a), .val (.ref t), .val (.int p2), .val (.ref t), .val (.int (2 : Int32)), .val (.int (1 : Int32)), .val (.long q2), .second, .val (.int b16)]) rfl (pc' := 28) rfl ?_
  refine g_aloadN X124 hx (hb hby d7_28) (v := (.ref a)) rfl rfl (pc' := 29) rfl ?_
  refine g_lload X124 hx (hb hby d7_29) (v := q2) rfl (pc' := 31) rfl ?_
  refine g_private X124 hx hZ hown (hw _ (List.mem_of_getElem? (i := 55) rfl)) (hw _ (List.mem_of_getElem? (i := 56) rfl)) (hw _ (List.mem_of_getElem? (i := 57) rfl)) (hw _ (List.mem_of_getElem? (i := 7) rfl)) (hw _ (List.mem_of_getElem? (i := 8) rfl)) (hw _ (List.mem_of_getElem? (i := 58) rfl)) (by decide) (a := a) (argsL := [(.long q2)]) (rm8 l Z a0 hw a q2 tk fk k2 h122 n0 Z129 F131 F140 hS2) rfl e125 F130 (by rw [hml]; rfl) pd_7 rfl (rest := []) rfl (W := 0) (Nat.le_of_eq rfl) (by decide) (by decide) (by decide) (by decide) N127 (hb hby d7_31) (pc' := 34) rfl (fun v146 T147 L148 X149 N150 q151 => ?_)
  obtain ⟨b152, rfl, f153, K154⟩ := q151
  show OGoes p e s below (Q16 Z a tk th te tb t p2 q1 q2 k1 k2 fk fh fe fb h0 n0) n0 R16.cells R16.slots T147 (mkF m 34 #[.val (.ref a), .val (.ref t), .val (.int p2), .val (.ref t), .val (.int (2 : Int32)), .val (.int (1 : Int32)), .val (.long q2), .second, .val (.int b16)] [(.int b152)])
  refine g_istore X149 hx (hb hby d7_34) (Ls' := #[.val (.ref a), .val (.ref t), .val (.int p2), .val (.ref t), .val (.int (2 : Int32)), .val (.int (1 : Int32)), .val (.long q2), .second, .val (.int b152)]) rfl (pc' := 36) rfl ?_
  refine g_aloadN X149 hx (hb hby d7_36) (v := (.ref a)) rfl rfl (pc' := 37) rfl ?_
  refine g_getF X149 hx hZ hown (hw _ (List.mem_of_getElem? (i := 27) rfl)) K154 F132 (hb hby d7_37) (pc' := 40) rfl (fun T155 X156 e157 => ?_)
  refine g_iload X156 hx (hb hby d7_40) (v := b152) rfl (pc' := 42) rfl ?_
  refine g_iaload X156 hx hZ e157 (k := k2) F141 f153 (by omega) (hb hby d7_42) (pc' := 43) rfl ?_
  refine g_iconst X156 hx (hb hby d7_43) (v := -1) (by decide) (pc' := 44) rfl ?_
  refine g_ii_ne X156 hx (a := ((oupd fh k1 (1 : Int32)) k2).toInt) (b := (-1)) rfl rfl (hb hby d7_44) (by decide) (pc' := 80) (by decide) (pc2 := 47) rfl (fun cc => ?_) (fun cc => False.elim (by have z : ((oupd fh k1 (1 : Int32)) k2) = fh k2 := (by simp [oupd, hne.symm]); exact hh2 ((congrArg Int32.toInt z.symm).trans (cc.trans lm1))))
  refine g_aloadN X156 hx (hb hby d7_80) (v := (.ref a)) rfl rfl (pc' := 81) rfl ?_
  refine g_getF X156 hx hZ hown (hw _ (List.mem_of_getElem? (i := 29) rfl)) e157 F133 (hb hby d7_81) (pc' := 84) rfl (fun T158 X159 e160 => ?_)
  refine g_aloadN X159 hx (hb hby d7_84) (v := (.ref a)) rfl rfl (pc' := 85) rfl ?_
  refine g_getF X159 hx hZ hown (hw _ (List.mem_of_getElem? (i := 53) rfl)) e160 F138 (hb hby d7_85) (pc' := 88) rfl (fun T161 X162 e163 => ?_)
  refine g_iloadN X162 hx (hb hby d7_88) (v := p2) rfl (pc' := 89) rfl ?_
  refine g_iastore X162 hx hZ e163 (k := 2) (x := p2) F142 (by decide) (by omega) N150 gn_te (hb hby d7_89) (pc' := 90) rfl (fun T164 h165 L166 X167 e168 W169 N170 A171 => ?_)
  have K172 := K128.wr W169 (Or.inl (by simp))
  have Z173 : NLe n0 h165.size := Z129.wr W169
  have F174 := Exa.wr W169 F130
  have F175 := Fld.other W169 F131 (Or.inl ne_a_te)
  have F176 := Fld.other W169 F132 (Or.inl ne_a_te)
  have F177 := Fld.other W169 F133 (Or.inl ne_a_te)
  have F178 := Fld.other W169 F134 (Or.inl ne_a_te)
  have F179 := Fld.other W169 F135 (Or.inl ne_a_te)
  have F180 := Fld.other W169 F136 (Or.inl ne_a_te)
  have F181 := Fld.other W169 F137 (Or.inl ne_a_te)
  have F182 := Fld.other W169 F138 (Or.inl ne_a_te)
  have F183 := Fld.other W169 F139 (Or.inl ne_a_te)
  have F184 := F140.other W169 ne_tk_te
  have F185 := F141.other W169 ne_th_te
  have F187 := F143.other W169 ne_te_tb.symm
  have F188 := F144.other W169 ne_te_t.symm
  refine g_aloadN X167 hx (hb hby d7_90) (v := (.ref a)) rfl rfl (pc' := 91) rfl ?_
  refine g_getF X167 hx hZ hown (hw _ (List.mem_of_getElem? (i := 31) rfl)) e168 F178 (hb hby d7_91) (pc' := 94) rfl (fun T189 X190 e191 => ?_)
  refine g_aloadN X190 hx (hb hby d7_94) (v := (.ref a)) rfl rfl (pc' := 95) rfl ?_
  refine g_getF X190 hx hZ hown (hw _ (List.mem_of_getElem? (i := 53) rfl)) e191 F182 (hb hby d7_95) (pc' := 98) rfl (fun T192 X193 e194 => ?_)
  refine g_aloadN X193 hx (hb hby d7_98) (v := (.ref a)) rfl rfl (pc' := 99) rfl ?_
  refine g_getF X193 hx hZ hown (hw _ (List.mem_of_getElem? (i := 27) rfl)) e194 F176 (hb hby d7_99) (pc' := 102) rfl (fun T195 X196 e197 => ?_)
  refine g_iload X196 hx (hb hby d7_102) (v := b152) rfl (pc' := 104) rfl ?_
  refine g_iaload X196 hx hZ e197 (k := k2) F185 f153 (by omega) (hb hby d7_104) (pc' := 105) rfl ?_
  refine g_iastore X196 hx hZ e197 (k := 2) (x := ((oupd fh k1 (1 : Int32)) k2)) F187 (by decide) (by omega) N170 gn_tb (hb hby d7_105) (pc' := 106) rfl (fun T198 h199 L200 X201 e202 W203 N204 A205 => ?_)
  have K206 := K172.wr W203 (Or.inl (by simp))
  have Z207 : NLe n0 h199.size := Z173.wr W203
  have F208 := Exa.wr W203 F174
  have F209 := Fld.other W203 F175 (Or.inl ne_a_tb)
  have F210 := Fld.other W203 F176 (Or.inl ne_a_tb)
  have F211 := Fld.other W203 F177 (Or.inl ne_a_tb)
  have F212 := Fld.other W203 F178 (Or.inl ne_a_tb)
  have F213 := Fld.other W203 F179 (Or.inl ne_a_tb)
  have F214 := Fld.other W203 F180 (Or.inl ne_a_tb)
  have F215 := Fld.other W203 F181 (Or.inl ne_a_tb)
  have F216 := Fld.other W203 F182 (Or.inl ne_a_tb)
  have F217 := Fld.other W203 F183 (Or.inl ne_a_tb)
  have F218 := F184.other W203 ne_tk_tb
  have F219 := F185.other W203 ne_th_tb
  have F220 := A171.other W203 ne_te_tb
  have F222 := F188.other W203 ne_tb_t.symm
  refine g_aloadN X201 hx (hb hby d7_106) (v := (.ref a)) rfl rfl (pc' := 107) rfl ?_
  refine g_getF X201 hx hZ hown (hw _ (List.mem_of_getElem? (i := 27) rfl)) e202 F210 (hb hby d7_107) (pc' := 110) rfl (fun T223 X224 e225 => ?_)
  refine g_iload X224 hx (hb hby d7_110) (v := b152) rfl (pc' := 112) rfl ?_
  refine g_aloadN X224 hx (hb hby d7_112) (v := (.ref a)) rfl rfl (pc' := 113) rfl ?_
  refine g_getF X224 hx hZ hown (hw _ (List.mem_of_getElem? (i := 53) rfl)) e225 F216 (hb hby d7_113) (pc' := 116) rfl (fun T226 X227 e228 => ?_)
  refine g_iastore X227 hx hZ e228 (k := k2) (x := ((1 : Int32) + (1 : Int32))) F219 f153 (by omega) N204 gn_th (hb hby d7_116) (pc' := 117) rfl (fun T229 h230 L231 X232 e233 W234 N235 A236 => ?_)
  have K237 := K206.wr W234 (Or.inl (by simp))
  have Z238 : NLe n0 h230.size := Z207.wr W234
  have F239 := Exa.wr W234 F208
  have F240 := Fld.other W234 F209 (Or.inl ne_a_th)
  have F241 := Fld.other W234 F210 (Or.inl ne_a_th)
  have F242 := Fld.other W234 F211 (Or.inl ne_a_th)
  have F243 := Fld.other W234 F212 (Or.inl ne_a_th)
  have F244 := Fld.other W234 F213 (Or.inl ne_a_th)
  have F245 := Fld.other W234 F214 (Or.inl ne_a_th)
  have F246 := Fld.other W234 F215 (Or.inl ne_a_th)
  have F247 := Fld.other W234 F216 (Or.inl ne_a_th)
  have F248 := Fld.other W234 F217 (Or.inl ne_a_th)
  have F249 := F218.other W234 ne_tk_th
  have F251 := F220.other W234 ne_th_te.symm
  have F252 := A205.other W234 ne_th_tb.symm
  have F253 := F222.other W234 ne_th_t.symm
  refine g_aloadN X232 hx (hb hby d7_117) (v := (.ref a)) rfl rfl (pc' := 118) rfl ?_
  refine g_dup X232 hx (hb hby d7_118) rfl (pc' := 119) rfl ?_
  refine g_getF X232 hx hZ hown (hw _ (List.mem_of_getElem? (i := 53) rfl)) e233 F247 (hb hby d7_119) (pc' := 122) rfl (fun T254 X255 e256 => ?_)
  refine g_iconst X255 hx (hb hby d7_122) (v := 1) (by decide) (pc' := 123) rfl ?_
  refine g_iadd X255 hx (hb hby d7_123) (pc' := 124) rfl ?_
  refine g_putF X255 hx hZ hown (hw _ (List.mem_of_getElem? (i := 53) rfl)) e256 (v := (.int (((1 : Int32) + (1 : Int32)) + (1 : Int32)))) F247 F239 (Or.inl (hw _ (List.mem_of_getElem? (i := 54) rfl))) (hw _ (List.mem_of_getElem? (i := 7) rfl)) (ty := .int) (by decide) rfl rfl N235 gn_a (hb hby d7_124) (pc' := 127) rfl (fun T257 h258 L259 X260 e261 W262 N263 => ?_)
  have K264 := K237.wr W262 (Or.inl (by simp))
  have Z265 : NLe n0 h258.size := Z238.wr W262
  have F266 := Exa.wr W262 F239
  have F267 := Fld.other W262 F240 (Or.inr (slot_ne (Or.inl (hw _ (List.mem_of_getElem? (i := 18) rfl))) (Or.inl (hw _ (List.mem_of_getElem? (i := 54) rfl))) (by decide) (t := (.array .long)) (t' := .int) (by decide) (by decide)))
  have F268 := Fld.other W262 F241 (Or.inr (slot_ne (Or.inl (hw _ (List.mem_of_getElem? (i := 28) rfl))) (Or.inl (hw _ (List.mem_of_getElem? (i := 54) rfl))) (by decide) (t := (.array .int)) (t' := .int) (by decide) (by decide)))
  have F269 := Fld.other W262 F242 (Or.inr (slot_ne (Or.inl (hw _ (List.mem_of_getElem? (i := 30) rfl))) (Or.inl (hw _ (List.mem_of_getElem? (i := 54) rfl))) (by decide) (t := (.array .int)) (t' := .int) (by decide) (by decide)))
  have F270 := Fld.other W262 F243 (Or.inr (slot_ne (Or.inl (hw _ (List.mem_of_getElem? (i := 32) rfl))) (Or.inl (hw _ (List.mem_of_getElem? (i := 54) rfl))) (by decide) (t := (.array .int)) (t' := .int) (by decide) (by decide)))
  have F271 := Fld.other W262 F244 (Or.inr (slot_ne (Or.inr (hw _ (List.mem_of_getElem? (i := 34) rfl))) (Or.inl (hw _ (List.mem_of_getElem? (i := 54) rfl))) (by decide) (t := .int) (t' := .int) (by decide) (by decide)))
  have F272 := Fld.other W262 F245 (Or.inr (slot_ne (Or.inr (hw _ (List.mem_of_getElem? (i := 39) rfl))) (Or.inl (hw _ (List.mem_of_getElem? (i := 54) rfl))) (by decide) (t := .int) (t' := .int) (by decide) (by decide)))
  have F273 := Fld.other W262 F246 (Or.inr (slot_ne (Or.inl (hw _ (List.mem_of_getElem? (i := 52) rfl))) (Or.inl (hw _ (List.mem_of_getElem? (i := 54) rfl))) (by decide) (t := .int) (t' := .int) (by decide) (by decide)))
  have F274 := Fld.same W262 F247
  have F275 := Fld.other W262 F248 (Or.inr (slot_ne (Or.inl (hw _ (List.mem_of_getElem? (i := 50) rfl))) (Or.inl (hw _ (List.mem_of_getElem? (i := 54) rfl))) (by decide) (t := .int) (t' := .int) (by decide) (by decide)))
  have F276 := F249.other W262 ne_a_tk.symm
  have F277 := A236.other W262 ne_a_th.symm
  have F278 := F251.other W262 ne_a_te.symm
  have F279 := F252.other W262 ne_a_tb.symm
  have F280 := F253.other W262 ne_a_t.symm
  refine g_iinc X260 hx (hb hby d7_127) (v := 1) (by decide) (x := (1 : Int32)) rfl (Ls' := #[.val (.ref a), .val (.ref t), .val (.int p2), .val (.ref t), .val (.int (2 : Int32)), .val (.int (2 : Int32)), .val (.long q2), .second, .val (.int b152)]) rfl (pc' := 130) rfl ?_
  refine g_goto X260 hx (hb hby d7_130) (by decide) (pc' := 15) (by decide) ?_
  refine g_iload X260 hx (hb hby d7_15) (v := (2 : Int32)) rfl (pc' := 17) rfl ?_
  refine g_iload X260 hx (hb hby d7_17) (v := (2 : Int32)) rfl (pc' := 19) rfl ?_
  refine g_ii_ge X260 hx (a := 2) (b := 2) rfl rfl (hb hby d7_19) (by decide) (pc' := 133) (by decide) (pc2 := 22) rfl (fun c281 => ?_) (fun c281 => False.elim (by omega))
  refine g_aloadN X260 hx (hb hby d7_133) (v := (.ref a)) rfl rfl (pc' := 134) rfl ?_
  refine g_dup X260 hx (hb hby d7_134) rfl (pc' := 135) rfl ?_
  refine g_getF X260 hx hZ hown (hw _ (List.mem_of_getElem? (i := 49) rfl)) e261 F275 (hb hby d7_135) (pc' := 138) rfl (fun T282 X283 e284 => ?_)
  refine g_aloadN X283 hx (hb hby d7_138) (v := (.ref t)) rfl rfl (pc' := 139) rfl ?_
  refine g_lenLA X283 hx hZ e284 (z := (2 : Int32)) F280 rfl (hb hby d7_139) (pc' := 140) rfl ?_
  refine g_iadd X283 hx (hb hby d7_140) (pc' := 141) rfl ?_
  refine g_putF X283 hx hZ hown (hw _ (List.mem_of_getElem? (i := 49) rfl)) e284 (v := (.int ((3 : Int32) + (2 : Int32)))) F275 F266 (Or.inl (hw _ (List.mem_of_getElem? (i := 50) rfl))) (hw _ (List.mem_of_getElem? (i := 7) rfl)) (ty := .int) (by decide) rfl rfl N263 gn_a (hb hby d7_141) (pc' := 144) rfl (fun T285 h286 L287 X288 e289 W290 N291 => ?_)
  have K292 := K264.wr W290 (Or.inl (by simp))
  have Z293 : NLe n0 h286.size := Z265.wr W290
  have F294 := Exa.wr W290 F266
  have F295 := Fld.other W290 F267 (Or.inr (slot_ne (Or.inl (hw _ (List.mem_of_getElem? (i := 18) rfl))) (Or.inl (hw _ (List.mem_of_getElem? (i := 50) rfl))) (by decide) (t := (.array .long)) (t' := .int) (by decide) (by decide)))
  have F296 := Fld.other W290 F268 (Or.inr (slot_ne (Or.inl (hw _ (List.mem_of_getElem? (i := 28) rfl))) (Or.inl (hw _ (List.mem_of_getElem? (i := 50) rfl))) (by decide) (t := (.array .int)) (t' := .int) (by decide) (by decide)))
  have F297 := Fld.other W290 F269 (Or.inr (slot_ne (Or.inl (hw _ (List.mem_of_getElem? (i := 30) rfl))) (Or.inl (hw _ (List.mem_of_getElem? (i := 50) rfl))) (by decide) (t := (.array .int)) (t' := .int) (by decide) (by decide)))
  have F298 := Fld.other W290 F270 (Or.inr (slot_ne (Or.inl (hw _ (List.mem_of_getElem? (i := 32) rfl))) (Or.inl (hw _ (List.mem_of_getElem? (i := 50) rfl))) (by decide) (t := (.array .int)) (t' := .int) (by decide) (by decide)))
  have F299 := Fld.other W290 F271 (Or.inr (slot_ne (Or.inr (hw _ (List.mem_of_getElem? (i := 34) rfl))) (Or.inl (hw _ (List.mem_of_getElem? (i := 50) rfl))) (by decide) (t := .int) (t' := .int) (by decide) (by decide)))
  have F300 := Fld.other W290 F272 (Or.inr (slot_ne (Or.inr (hw _ (List.mem_of_getElem? (i := 39) rfl))) (Or.inl (hw _ (List.mem_of_getElem? (i := 50) rfl))) (by decide) (t := .int) (t' := .int) (by decide) (by decide)))
  have F301 := Fld.other W290 F273 (Or.inr (slot_ne (Or.inl (hw _ (List.mem_of_getElem? (i := 52) rfl))) (Or.inl (hw _ (List.mem_of_getElem? (i := 50) rfl))) (by decide) (t := .int) (t' := .int) (by decide) (by decide)))
  have F302 := Fld.other W290 F274 (Or.inr (slot_ne (Or.inl (hw _ (List.mem_of_getElem? (i := 54) rfl))) (Or.inl (hw _ (List.mem_of_getElem? (i := 50) rfl))) (by decide) (t := .int) (t' := .int) (by decide) (by decide)))
  have F303 := Fld.same W290 F275
  have F304 := F276.other W290 ne_a_tk.symm
  have F305 := F277.other W290 ne_a_th.symm
  have F306 := F278.other W290 ne_a_te.symm
  have F307 := F279.other W290 ne_a_tb.symm
  have F308 := F280.other W290 ne_a_t.symm
  refine g_retV X288 hx hlk hret (hb hby d7_144) N291 (by decide) (by decide) ?_
  rw [e289]
  exact ⟨rfl, K292, F294, F295, F296, F297, F298, F299, F300, F301, F302, F303, F304, F305, F306, F307⟩
theorem own_alone (b : Int32) (h : 0 ≤ b.toInt ∧ b.toInt ≤ 2147483639) : ((-2 : Int32) - b).toInt = -2 - b.toInt := by
  have q := c_isub (-2) b
  have l : (-2 : Int32).toInt = -2 := rfl
  have q1 := ((-2 : Int32) - b).toInt_lt
  have q2 := ((-2 : Int32) - b).le_toInt
  rw [l] at q
  omega
theorem own_alone2 (b : Int32) (h : 0 ≤ b.toInt ∧ b.toInt ≤ 2147483639) : ((-2 : Int32) - ((-2 : Int32) - b)).toInt = b.toInt := by
  have e := own_alone b h
  have q := c_isub (-2) ((-2 : Int32) - b)
  have l : (-2 : Int32).toInt = -2 := rfl
  have q1 := ((-2 : Int32) - ((-2 : Int32) - b)).toInt_lt
  have q2 := ((-2 : Int32) - ((-2 : Int32) - b)).le_toInt
  rw [l, e] at q
  omega

theorem pn_12 : plainFor (⟨"com/example/positano/positano/PostingsNextPinLaw", "law", "(JJIIII)Z"⟩ : MethodName) = true := by first | exact plainFor_of_name (by first | (simp [plainName, overriddenIn]; done) | decide +kernel) | decide +kernel
def Q0 (Z : State) (p0 : Int64) (p1 : Int64) (p2 : Int32) (p3 : Int32) (p4 : Int32) (p5 : Int32) (h0 : Heap) (n0 : Nat) (v : Option Value) (h : Heap) : Prop := v = some (.int 1)
set_option maxRecDepth 65536 in
set_option maxHeartbeats 40000000 in
theorem rm0 (l : Launch) (Z : State) (a0 : Array Value) (hw : ∀ d ∈ tables_1, d.before a0 Z = true) (ws : List Jvm.Cond) (p0 : Int64) (p1 : Int64) (p2 : Int32) (p3 : Int32) (p4 : Int32) (p5 : Int32) (h0 : Heap) (n0 : Nat) (Z0 : NLe n0 h0.size)  :
    Con l x code maxLocals ret ws room_1 Z #[(.long p0), (.long p1), (.int p2), (.int p3), (.int p4), (.int p5)] h0 n0 (Q0 Z p0 p1 p2 p3 p4 p5 h0 n0) := by
  refine con_of (Ls0 := #[.val (.long p0), .second, .val (.long p1), .second, .val (.int p2), .val (.int p3), .val (.int p4), .val (.int p5), .unset, .unset, .unset, .unset, .unset, .unset, .unset, .unset, .unset, .unset, .unset, .unset, .unset, .unset, .unset, .unset, .unset, .unset]) pn_12 (fun m => by first | (simp [entryFrame, mkF, argsToLocals, Value.category, maxLocals]; done) | rfl) ?_
  intro p e s m below meth c s₁ X0 hx hby hml hZ hown hnm hret hlk e0 N0
  refine g_iload X0 hx (hb hby at_0) (v := p2) rfl (pc' := 2) rfl ?_
  refine g_ldc X0 hx hZ hown (hb hby at_2) (v := 2147483647) (hw _ (List.mem_of_getElem? (i := 0) rfl)) (pc' := 4) rfl ?_
  refine g_iand X0 hx (hb hby at_4) (pc' := 5) rfl ?_
  refine g_ldc X0 hx hZ hown (hb hby at_5) (v := 2147483639) (hw _ (List.mem_of_getElem? (i := 1) rfl)) (pc' := 7) rfl ?_
  refine g_static X0 hx hZ hown (hw _ (List.mem_of_getElem? (i := 2) rfl)) (hw _ (List.mem_of_getElem? (i := 3) rfl)) (hw _ (List.mem_of_getElem? (i := 4) rfl)) (hw _ (List.mem_of_getElem? (i := 5) rfl)) (by decide) (argsL := [(.int (p2 &&& (2147483647 : Int32))), (.int (2147483639 : Int32))]) (rm1 l Z a0 hw (p2 &&& (2147483647 : Int32)) (2147483639 : Int32) h0 n0 Z0 ) rfl e0 (by rw [hml]; rfl) pd_0 rfl (rest := []) rfl (W := 0) (Nat.le_of_eq rfl) (by decide) (by decide) (by decide) (by decide) N0 (hb hby at_7) (pc' := 10) rfl (fun v1 T2 L3 X4 N5 q6 => ?_)
  obtain ⟨b7, rfl, f8, e9⟩ := q6
  have lt10 : (2147483639 : Int32).toInt = 2147483639 := rfl
  show OGoes p e s below (Q0 Z p0 p1 p2 p3 p4 p5 h0 n0) n0 room_1.cells room_1.slots T2 (mkF m 10 #[.val (.long p0), .second, .val (.long p1), .second, .val (.int p2), .val (.int p3), .val (.int p4), .val (.int p5), .unset, .unset, .unset, .unset, .unset, .unset, .unset, .unset, .unset, .unset, .unset, .unset, .unset, .unset, .unset, .unset, .unset, .unset] [(.int b7)])
  refine g_istore X4 hx (hb hby at_10) (Ls' := #[.val (.long p0), .second, .val (.long p1), .second, .val (.int p2), .val (.int p3), .val (.int p4), .val (.int p5), .val (.int b7), .unset, .unset, .unset, .unset, .unset, .unset, .unset, .unset, .unset, .unset, .unset, .unset, .unset, .unset, .unset, .unset, .unset]) rfl (pc' := 12) rfl ?_
  refine g_iload X4 hx (hb hby at_12) (v := p3) rfl (pc' := 14) rfl ?_
  refine g_ldc X4 hx hZ hown (hb hby at_14) (v := 2147483647) (hw _ (List.mem_of_getElem? (i := 0) rfl)) (pc' := 16) rfl ?_
  refine g_iand X4 hx (hb hby at_16) (pc' := 17) rfl ?_
  refine g_ldc X4 hx hZ hown (hb hby at_17) (v := 2147483639) (hw _ (List.mem_of_getElem? (i := 1) rfl)) (pc' := 19) rfl ?_
  refine g_static X4 hx hZ hown (hw _ (List.mem_of_getElem? (i := 2) rfl)) (hw _ (List.mem_of_getElem? (i := 3) rfl)) (hw _ (List.mem_of_getElem? (i := 4) rfl)) (hw _ (List.mem_of_getElem? (i := 5) rfl)) (by decide) (argsL := [(.int (p3 &&& (2147483647 : Int32))), (.int (2147483639 : Int32))]) (rm1 l Z a0 hw (p3 &&& (2147483647 : Int32)) (2147483639 : Int32) h0 n0 Z0 ) rfl e9 (by rw [hml]; rfl) pd_0 rfl (rest := []) rfl (W := 0) (Nat.le_of_eq rfl) (by decide) (by decide) (by decide) (by decide) N5 (hb hby at_19) (pc' := 22) rfl (fun v11 T12 L13 X14 N15 q16 => ?_)
  obtain ⟨b17, rfl, f18, e19⟩ := q16
  show OGoes p e s below (Q0 Z p0 p1 p2 p3 p4 p5 h0 n0) n0 room_1.cells room_1.slots T12 (mkF m 22 #[.val (.long p0), .second, .val (.long p1), .second, .val (.int p2), .val (.int p3), .val (.int p4), .val (.int p5), .val (.int b7), .unset, .unset, .unset, .unset, .unset, .unset, .unset, .unset, .unset, .unset, .unset, .unset, .unset, .unset, .unset, .unset, .unset] [(.int b17)])
  refine g_istore X14 hx (hb hby at_22) (Ls' := #[.val (.long p0), .second, .val (.long p1), .second, .val (.int p2), .val (.int p3), .val (.int p4), .val (.int p5), .val (.int b7), .val (.int b17), .unset, .unset, .unset, .unset, .unset, .unset, .unset, .unset, .unset, .unset, .unset, .unset, .unset, .unset, .unset, .unset]) rfl (pc' := 24) rfl ?_
  refine g_iload X14 hx (hb hby at_24) (v := p4) rfl (pc' := 26) rfl ?_
  refine g_ldc X14 hx hZ hown (hb hby at_26) (v := 2147483647) (hw _ (List.mem_of_getElem? (i := 0) rfl)) (pc' := 28) rfl ?_
  refine g_iand X14 hx (hb hby at_28) (pc' := 29) rfl ?_
  refine g_ldc X14 hx hZ hown (hb hby at_29) (v := 2147483639) (hw _ (List.mem_of_getElem? (i := 1) rfl)) (pc' := 31) rfl ?_
  refine g_static X14 hx hZ hown (hw _ (List.mem_of_getElem? (i := 2) rfl)) (hw _ (List.mem_of_getElem? (i := 3) rfl)) (hw _ (List.mem_of_getElem? (i := 4) rfl)) (hw _ (List.mem_of_getElem? (i := 5) rfl)) (by decide) (argsL := [(.int (p4 &&& (2147483647 : Int32))), (.int (2147483639 : Int32))]) (rm1 l Z a0 hw (p4 &&& (2147483647 : Int32)) (2147483639 : Int32) h0 n0 Z0 ) rfl e19 (by rw [hml]; rfl) pd_0 rfl (rest := []) rfl (W := 0) (Nat.le_of_eq rfl) (by decide) (by decide) (by decide) (by decide) N15 (hb hby at_31) (pc' := 34) rfl (fun v20 T21 L22 X23 N24 q25 => ?_)
  obtain ⟨b26, rfl, f27, e28⟩ := q25
  show OGoes p e s below (Q0 Z p0 p1 p2 p3 p4 p5 h0 n0) n0 room_1.cells room_1.slots T21 (mkF m 34 #[.val (.long p0), .second, .val (.long p1), .second, .val (.int p2), .val (.int p3), .val (.int p4), .val (.int p5), .val (.int b7), .val (.int b17), .unset, .unset, .unset, .unset, .unset, .unset, .unset, .unset, .unset, .unset, .unset, .unset, .unset, .unset, .unset, .unset] [(.int b26)])
  refine g_istore X23 hx (hb hby at_34) (Ls' := #[.val (.long p0), .second, .val (.long p1), .second, .val (.int p2), .val (.int p3), .val (.int p4), .val (.int p5), .val (.int b7), .val (.int b17), .val (.int b26), .unset, .unset, .unset, .unset, .unset, .unset, .unset, .unset, .unset, .unset, .unset, .unset, .unset, .unset, .unset]) rfl (pc' := 36) rfl ?_
  have m8 := c_mask p2 2147483647 31 (by decide) (by decide)
  have B8 : 0 ≤ b7.toInt ∧ b7.toInt ≤ 2147483639 := by omega
  have m9 := c_mask p3 2147483647 31 (by decide) (by decide)
  have B9 : 0 ≤ b17.toInt ∧ b17.toInt ≤ 2147483639 := by omega
  have m10 := c_mask p4 2147483647 31 (by decide) (by decide)
  have B10 : 0 ≤ b26.toInt ∧ b26.toInt ≤ 2147483639 := by omega
  clear m8 m9 m10 f8 f18 f27
  refine g_lloadN X23 hx (hb hby at_36) (v := p0) rfl (pc' := 37) rfl ?_
  refine g_lstore X23 hx (hb hby at_37) (Ls' := #[.val (.long p0), .second, .val (.long p1), .second, .val (.int p2), .val (.int p3), .val (.int p4), .val (.int p5), .val (.int b7), .val (.int b17), .val (.int b26), .val (.long p0), .second, .unset, .unset, .unset, .unset, .unset, .unset, .unset, .unset, .unset, .unset, .unset, .unset, .unset]) rfl (pc' := 39) rfl ?_
  refine g_lloadN X23 hx (hb hby at_39) (v := p1) rfl (pc' := 40) rfl ?_
  refine g_lstore X23 hx (hb hby at_40) (Ls' := #[.val (.long p0), .second, .val (.long p1), .second, .val (.int p2), .val (.int p3), .val (.int p4), .val (.int p5), .val (.int b7), .val (.int b17), .val (.int b26), .val (.long p0), .second, .val (.long p1), .second, .unset, .unset, .unset, .unset, .unset, .unset, .unset, .unset, .unset, .unset, .unset]) rfl (pc' := 42) rfl ?_
  refine g_lload X23 hx (hb hby at_42) (v := p1) rfl (pc' := 44) rfl ?_
  refine g_lload X23 hx (hb hby at_44) (v := p0) rfl (pc' := 46) rfl ?_
  have J29 : ∀ (jj : Int64), jj ≠ p0 → OGoes p e s below (Q0 Z p0 p1 p2 p3 p4 p5 h0 n0) n0 room_1.cells room_1.slots T21 (mkF m 58 #[.val (.long p0), .second, .val (.long p1), .second, .val (.int p2), .val (.int p3), .val (.int p4), .val (.int p5), .val (.int b7), .val (.int b17), .val (.int b26), .val (.long p0), .second, .val (.long jj), .second, .unset, .unset, .unset, .unset, .unset, .unset, .unset, .unset, .unset, .unset, .unset] []) := by
    intro jj j30
    obtain ⟨k1, hS1⟩ := own_Slot_first p0
    obtain ⟨k2, hS2, hne, hz⟩ := own_Slot_second hS1 j30
    have hne' : ¬ k1 = k2 := fun z => hne z.symm
    have hl1 := own_Slot_lt hS1; have hl2 := own_Slot_lt hS2
    have alA : ((-2 : Int32) - b7).toInt = -2 - b7.toInt := own_alone b7 B8
    have alB : ((-2 : Int32) - b17).toInt = -2 - b17.toInt := own_alone b17 B9
    refine g_new X23 hx hZ hown (hw _ (List.mem_of_getElem? (i := 6) rfl)) (hw _ (List.mem_of_getElem? (i := 7) rfl)) (hw _ (List.mem_of_getElem? (i := 8) rfl)) e28 (hb hby at_58) (by decide) (by decide) (pc' := 61) rfl (fun T31 h32 a33 g34 X35 e36 E37 l38 A39 D40 => ?_)
    have Z41 : NLe n0 h32.size := Z0.tr E37.1
    have nl42 : NLe n0 a33 := NLe.at g34 Z0
    clear g34 l38
    have F43 : Fld Z h32 a33 "com/example/positano/positano/Postings" "keys" "[J" .null := D40 (Or.inl (hw _ (List.mem_of_getElem? (i := 18) rfl))) (ty := (.array .long)) (by decide)
    have F44 : Fld Z h32 a33 "com/example/positano/positano/Postings" "heads" "[I" .null := D40 (Or.inl (hw _ (List.mem_of_getElem? (i := 28) rfl))) (ty := (.array .int)) (by decide)
    have F45 : Fld Z h32 a33 "com/example/positano/positano/Postings" "entries" "[I" .null := D40 (Or.inl (hw _ (List.mem_of_getElem? (i := 30) rfl))) (ty := (.array .int)) (by decide)
    have F46 : Fld Z h32 a33 "com/example/positano/positano/Postings" "before" "[I" .null := D40 (Or.inl (hw _ (List.mem_of_getElem? (i := 32) rfl))) (ty := (.array .int)) (by decide)
    have F47 : Fld Z h32 a33 "com/example/positano/positano/Postings" "maxPostings" "I" (.int (0 : Int32)) := D40 (Or.inr (hw _ (List.mem_of_getElem? (i := 34) rfl))) (ty := .int) (by decide)
    have F48 : Fld Z h32 a33 "com/example/positano/positano/Postings" "maxKeys" "I" (.int (0 : Int32)) := D40 (Or.inr (hw _ (List.mem_of_getElem? (i := 39) rfl))) (ty := .int) (by decide)
    have F49 : Fld Z h32 a33 "com/example/positano/positano/Postings" "count" "I" (.int (0 : Int32)) := D40 (Or.inl (hw _ (List.mem_of_getElem? (i := 50) rfl))) (ty := .int) (by decide)
    have F50 : Fld Z h32 a33 "com/example/positano/positano/Postings" "keyCount" "I" (.int (0 : Int32)) := D40 (Or.inl (hw _ (List.mem_of_getElem? (i := 52) rfl))) (ty := .int) (by decide)
    have F51 : Fld Z h32 a33 "com/example/positano/positano/Postings" "kept" "I" (.int (0 : Int32)) := D40 (Or.inl (hw _ (List.mem_of_getElem? (i := 54) rfl))) (ty := .int) (by decide)
    refine g_dup X35 hx (hb hby at_61) rfl (pc' := 62) rfl ?_
    refine g_ldc X35 hx hZ hown (hb hby at_62) (v := 2147483639) (hw _ (List.mem_of_getElem? (i := 1) rfl)) (pc' := 64) rfl ?_
    refine g_ldc X35 hx hZ hown (hb hby at_64) (v := 1073741824) (hw _ (List.mem_of_getElem? (i := 9) rfl)) (pc' := 66) rfl ?_
    refine g_special X35 hx hZ rfl hown (hw _ (List.mem_of_getElem? (i := 10) rfl)) (hw _ (List.mem_of_getElem? (i := 11) rfl)) (hw _ (List.mem_of_getElem? (i := 8) rfl)) (hw _ (List.mem_of_getElem? (i := 12) rfl)) (by decide) (a := a33) (argsL := [(.int (2147483639 : Int32)), (.int (1073741824 : Int32))]) (rm6 l Z a0 hw a33 h32 n0 Z41 F43 F44 F45 F46 F47 F48 F49 F50 F51 A39 nl42) rfl e36 (by rw [hml]; rfl) pd_1 rfl (rest := [(.ref a33)]) rfl (W := 1) (Nat.le_of_eq rfl) (by decide) (by decide) (by decide) (by decide) N24 (hb hby at_66) (pc' := 69) rfl (fun v52 T53 L54 X55 N56 q57 => ?_)
    obtain ⟨tk58, th59, te60, tb61, rfl, f62, f63, f64, f65, f66, f67, z68, z69, z70, z71, K72, F73, F74, F75, F76, F77, F78, F79, F80, F81, F82, F83, F84, F85, F86⟩ := q57
    have lt87 : (1073741824 : Int32).toInt = 1073741824 := rfl
    have Z88 : NLe n0 T53.heap.size := Z41.tr K72.1
    have nl89 : NLe n0 tk58 := Z41.tr z68
    have ne90 : Apart a33 tk58 := Apart.fr A39.lt z68
    have nl91 : NLe n0 th59 := Z41.tr z69
    have ne92 : Apart a33 th59 := Apart.fr A39.lt z69
    have nl93 : NLe n0 te60 := Z41.tr z70
    have ne94 : Apart a33 te60 := Apart.fr A39.lt z70
    have nl95 : NLe n0 tb61 := Z41.tr z71
    have ne96 : Apart a33 tb61 := Apart.fr A39.lt z71
    show OGoes p e s below (Q0 Z p0 p1 p2 p3 p4 p5 h0 n0) n0 room_1.cells room_1.slots T53 (mkF m 69 #[.val (.long p0), .second, .val (.long p1), .second, .val (.int p2), .val (.int p3), .val (.int p4), .val (.int p5), .val (.int b7), .val (.int b17), .val (.int b26), .val (.long p0), .second, .val (.long jj), .second, .unset, .unset, .unset, .unset, .unset, .unset, .unset, .unset, .unset, .unset, .unset] [(.ref a33)])
    refine g_astore X55 hx (hb hby at_69) rfl (Ls' := #[.val (.long p0), .second, .val (.long p1), .second, .val (.int p2), .val (.int p3), .val (.int p4), .val (.int p5), .val (.int b7), .val (.int b17), .val (.int b26), .val (.long p0), .second, .val (.long jj), .second, .val (.ref a33), .unset, .unset, .unset, .unset, .unset, .unset, .unset, .unset, .unset, .unset]) rfl (pc' := 71) rfl ?_
    refine g_aload X55 hx (hb hby at_71) (v := (.ref a33)) rfl rfl (pc' := 73) rfl ?_
    refine g_iconst X55 hx (hb hby at_73) (v := 1) (by decide) (pc' := 74) rfl ?_
    refine g_newLA X55 hx hZ (hw _ (List.mem_of_getElem? (i := 16) rfl)) rfl (n := 1) rfl (cap := 1) (by decide) (by decide) (hb hby at_74) (by decide) (by decide) (pc' := 76) rfl (fun T97 h98 a99 g100 X101 e102 E103 l104 A105  => ?_)
    have Z106 : NLe n0 h98.size := Z88.tr E103.1
    have nl107 : NLe n0 a99 := NLe.at g100 Z88
    have ne108 : Apart a33 a99 := Apart.new g100 F73.lt
    have ne109 : Apart tk58 a99 := Apart.new g100 F83.lt
    have ne110 : Apart th59 a99 := Apart.new g100 F84.lt
    have ne111 : Apart te60 a99 := Apart.new g100 F85.lt
    have ne112 : Apart tb61 a99 := Apart.new g100 F86.lt
    have F113 := Exa.ext E103 F73
    have F114 := Fld.ext E103 F74
    have F115 := Fld.ext E103 F75
    have F116 := Fld.ext E103 F76
    have F117 := Fld.ext E103 F77
    have F118 := Fld.ext E103 F78
    have F119 := Fld.ext E103 F79
    have F120 := Fld.ext E103 F80
    have F121 := Fld.ext E103 F81
    have F122 := Fld.ext E103 F82
    have F123 := F83.ext E103
    have F124 := F84.ext E103
    have F125 := F85.ext E103
    have F126 := F86.ext E103
    clear g100 l104
    refine g_dup X101 hx (hb hby at_76) rfl (pc' := 77) rfl ?_
    refine g_iconst X101 hx (hb hby at_77) (v := 0) (by decide) (pc' := 78) rfl ?_
    refine g_lload X101 hx (hb hby at_78) (v := p0) rfl (pc' := 80) rfl ?_
    refine g_lastore X101 hx hZ e102 (k := 0) (x := p0) A105 rfl (by decide) N56 nl107 (hb hby at_80) (pc' := 81) rfl (fun T127 h128 L129 X130 e131 W132 N133 A134 => ?_)
    have Z135 : NLe n0 h128.size := Z106.wr W132
    have F136 := Exa.wr W132 F113
    have F137 := Fld.other W132 F114 (Or.inl ne108)
    have F138 := Fld.other W132 F115 (Or.inl ne108)
    have F139 := Fld.other W132 F116 (Or.inl ne108)
    have F140 := Fld.other W132 F117 (Or.inl ne108)
    have F141 := Fld.other W132 F118 (Or.inl ne108)
    have F142 := Fld.other W132 F119 (Or.inl ne108)
    have F143 := Fld.other W132 F120 (Or.inl ne108)
    have F144 := Fld.other W132 F121 (Or.inl ne108)
    have F145 := Fld.other W132 F122 (Or.inl ne108)
    have F146 := F123.other W132 ne109
    have F147 := F124.other W132 ne110
    have F148 := F125.other W132 ne111
    have F149 := F126.other W132 ne112
    refine g_iload X130 hx (hb hby at_81) (v := b7) rfl (pc' := 83) rfl ?_
    refine g_virtual X130 hx hZ hown (hw _ (List.mem_of_getElem? (i := 40) rfl)) (hw _ (List.mem_of_getElem? (i := 41) rfl)) (hw _ (List.mem_of_getElem? (i := 43) rfl)) (hw _ (List.mem_of_getElem? (i := 42) rfl)) (hw _ (List.mem_of_getElem? (i := 8) rfl)) (hw _ (List.mem_of_getElem? (i := 44) rfl)) (by decide) (a := a33) (argsL := [(.ref a99), (.int b7)]) (rm14 l Z a0 hw a33 tk58 th59 te60 tb61 a99 b7 p0 k1 zeroL (own_const (-1 : Int32)) zeroI zeroI h128 n0 Z135 F136 F137 F138 F139 F140 F141 F142 F143 F144 F145 F146 F147 F148 F149 A134 hS1 rfl nl42 nl89 nl91 nl93 nl95 ne90 ne92 ne94 ne96 ne108 f62 f63 f64 ne109 f65 f66 ne110 f67 ne111 ne112) rfl e131 F136 (by rw [hml]; rfl) pd_5 rfl (rest := []) rfl (W := 0) (Nat.le_of_eq rfl) (by decide) (by decide) (by decide) (by decide) N133 (hb hby at_83) (pc' := 86) rfl (fun v151 T152 L153 X154 N155 q156 => ?_)
    obtain ⟨rfl, K157, F158, F159, F160, F161, F162, F163, F164, F165, F166, F167, F168, F169, F170, F171⟩ := q156
    have Z172 : NLe n0 T152.heap.size := Z135.tr K157.1
    have F173 := A134.keep K157 (ninS ne108.symm (ninS ne109.symm (ninS ne110.symm nin0)))
    show OGoes p e s below (Q0 Z p0 p1 p2 p3 p4 p5 h0 n0) n0 room_1.cells room_1.slots T152 (mkF m 86 #[.val (.long p0), .second, .val (.long p1), .second, .val (.int p2), .val (.int p3), .val (.int p4), .val (.int p5), .val (.int b7), .val (.int b17), .val (.int b26), .val (.long p0), .second, .val (.long jj), .second, .val (.ref a33), .unset, .unset, .unset, .unset, .unset, .unset, .unset, .unset, .unset, .unset] [])
    refine g_aload X154 hx (hb hby at_86) (v := (.ref a33)) rfl rfl (pc' := 88) rfl ?_
    refine g_iconst X154 hx (hb hby at_88) (v := 2) (by decide) (pc' := 89) rfl ?_
    refine g_newLA X154 hx hZ (hw _ (List.mem_of_getElem? (i := 16) rfl)) rfl (n := 2) rfl (cap := 2) (by decide) (by decide) (hb hby at_89) (by decide) (by decide) (pc' := 91) rfl (fun T174 h175 a176 g177 X178 e179 E180 l181 A182  => ?_)
    have Z183 : NLe n0 h175.size := Z172.tr E180.1
    have nl184 : NLe n0 a176 := NLe.at g177 Z172
    have ne185 : Apart a99 a176 := Apart.new g177 F173.lt
    have ne186 : Apart a33 a176 := Apart.new g177 F158.lt
    have ne187 : Apart tk58 a176 := Apart.new g177 F168.lt
    have ne188 : Apart th59 a176 := Apart.new g177 F169.lt
    have ne189 : Apart te60 a176 := Apart.new g177 F170.lt
    have ne190 : Apart tb61 a176 := Apart.new g177 F171.lt
    have F191 := F173.ext E180
    have F192 := Exa.ext E180 F158
    have F193 := Fld.ext E180 F159
    have F194 := Fld.ext E180 F160
    have F195 := Fld.ext E180 F161
    have F196 := Fld.ext E180 F162
    have F197 := Fld.ext E180 F163
    have F198 := Fld.ext E180 F164
    have F199 := Fld.ext E180 F165
    have F200 := Fld.ext E180 F166
    have F201 := Fld.ext E180 F167
    have F202 := F168.ext E180
    have F203 := F169.ext E180
    have F204 := F170.ext E180
    have F205 := F171.ext E180
    clear g177 l181
    refine g_dup X178 hx (hb hby at_91) rfl (pc' := 92) rfl ?_
    refine g_iconst X178 hx (hb hby at_92) (v := 0) (by decide) (pc' := 93) rfl ?_
    refine g_lload X178 hx (hb hby at_93) (v := p0) rfl (pc' := 95) rfl ?_
    refine g_lastore X178 hx hZ e179 (k := 0) (x := p0) A182 rfl (by decide) N155 nl184 (hb hby at_95) (pc' := 96) rfl (fun T206 h207 L208 X209 e210 W211 N212 A213 => ?_)
    have Z214 : NLe n0 h207.size := Z183.wr W211
    have F215 := F191.other W211 ne185
    have F216 := Exa.wr W211 F192
    have F217 := Fld.other W211 F193 (Or.inl ne186)
    have F218 := Fld.other W211 F194 (Or.inl ne186)
    have F219 := Fld.other W211 F195 (Or.inl ne186)
    have F220 := Fld.other W211 F196 (Or.inl ne186)
    have F221 := Fld.other W211 F197 (Or.inl ne186)
    have F222 := Fld.other W211 F198 (Or.inl ne186)
    have F223 := Fld.other W211 F199 (Or.inl ne186)
    have F224 := Fld.other W211 F200 (Or.inl ne186)
    have F225 := Fld.other W211 F201 (Or.inl ne186)
    have F226 := F202.other W211 ne187
    have F227 := F203.other W211 ne188
    have F228 := F204.other W211 ne189
    have F229 := F205.other W211 ne190
    refine g_dup X209 hx (hb hby at_96) rfl (pc' := 97) rfl ?_
    refine g_iconst X209 hx (hb hby at_97) (v := 1) (by decide) (pc' := 98) rfl ?_
    refine g_lload X209 hx (hb hby at_98) (v := jj) rfl (pc' := 100) rfl ?_
    refine g_lastore X209 hx hZ e210 (k := 1) (x := jj) A213 rfl (by decide) N212 nl184 (hb hby at_100) (pc' := 101) rfl (fun T231 h232 L233 X234 e235 W236 N237 A238 => ?_)
    have Z239 : NLe n0 h232.size := Z214.wr W236
    have F240 := F215.other W236 ne185
    have F241 := Exa.wr W236 F216
    have F242 := Fld.other W236 F217 (Or.inl ne186)
    have F243 := Fld.other W236 F218 (Or.inl ne186)
    have F244 := Fld.other W236 F219 (Or.inl ne186)
    have F245 := Fld.other W236 F220 (Or.inl ne186)
    have F246 := Fld.other W236 F221 (Or.inl ne186)
    have F247 := Fld.other W236 F222 (Or.inl ne186)
    have F248 := Fld.other W236 F223 (Or.inl ne186)
    have F249 := Fld.other W236 F224 (Or.inl ne186)
    have F250 := Fld.other W236 F225 (Or.inl ne186)
    have F251 := F226.other W236 ne187
    have F252 := F227.other W236 ne188
    have F253 := F228.other W236 ne189
    have F254 := F229.other W236 ne190
    refine g_iload X234 hx (hb hby at_101) (v := b17) rfl (pc' := 103) rfl ?_
    refine g_virtual X234 hx hZ hown (hw _ (List.mem_of_getElem? (i := 40) rfl)) (hw _ (List.mem_of_getElem? (i := 41) rfl)) (hw _ (List.mem_of_getElem? (i := 43) rfl)) (hw _ (List.mem_of_getElem? (i := 42) rfl)) (hw _ (List.mem_of_getElem? (i := 8) rfl)) (hw _ (List.mem_of_getElem? (i := 44) rfl)) (by decide) (a := a33) (argsL := [(.ref a176), (.int b17)]) (rm15 l Z a0 hw a33 tk58 th59 te60 tb61 a176 b17 p0 jj k1 k2 (oupd zeroL k1 p0) (oupd (own_const (-1 : Int32)) k1 ((-2 : Int32) - b7)) zeroI zeroI h232 n0 Z239 F241 F242 F243 F244 F245 F246 F247 F248 F249 F250 F251 F252 F253 F254 A238 (own_Slot_new hS1) (by simp only [oupd, if_true]; omega) hS2 (by simp only [oupd, hne, if_false]; rfl) hne' nl42 nl89 nl91 nl93 nl95 ne90 ne92 ne94 ne96 ne186 f62 f63 f64 ne187 f65 f66 ne188 f67 ne189 ne190) rfl e235 F241 (by rw [hml]; rfl) pd_5 rfl (rest := []) rfl (W := 0) (Nat.le_of_eq rfl) (by decide) (by decide) (by decide) (by decide) N237 (hb hby at_103) (pc' := 106) rfl (fun v256 T257 L258 X259 N260 q261 => ?_)
    obtain ⟨rfl, K262, F263, F264, F265, F266, F267, F268, F269, F270, F271, F272, F273, F274, F275, F276⟩ := q261
    have Z277 : NLe n0 T257.heap.size := Z239.tr K262.1
    have F278 := F240.keep K262 (ninS ne108.symm (ninS ne109.symm (ninS ne110.symm (ninS ne111.symm (ninS ne112.symm nin0)))))
    have F279 := A238.keep K262 (ninS ne186.symm (ninS ne187.symm (ninS ne188.symm (ninS ne189.symm (ninS ne190.symm nin0)))))
    show OGoes p e s below (Q0 Z p0 p1 p2 p3 p4 p5 h0 n0) n0 room_1.cells room_1.slots T257 (mkF m 106 #[.val (.long p0), .second, .val (.long p1), .second, .val (.int p2), .val (.int p3), .val (.int p4), .val (.int p5), .val (.int b7), .val (.int b17), .val (.int b26), .val (.long p0), .second, .val (.long jj), .second, .val (.ref a33), .unset, .unset, .unset, .unset, .unset, .unset, .unset, .unset, .unset, .unset] [])
    refine g_aload X259 hx (hb hby at_106) (v := (.ref a33)) rfl rfl (pc' := 108) rfl ?_
    refine g_iconst X259 hx (hb hby at_108) (v := 2) (by decide) (pc' := 109) rfl ?_
    refine g_newLA X259 hx hZ (hw _ (List.mem_of_getElem? (i := 16) rfl)) rfl (n := 2) rfl (cap := 2) (by decide) (by decide) (hb hby at_109) (by decide) (by decide) (pc' := 111) rfl (fun T280 h281 a282 g283 X284 e285 E286 l287 A288  => ?_)
    have Z289 : NLe n0 h281.size := Z277.tr E286.1
    have nl290 : NLe n0 a282 := NLe.at g283 Z277
    have ne291 : Apart a99 a282 := Apart.new g283 F278.lt
    have ne292 : Apart a176 a282 := Apart.new g283 F279.lt
    have ne293 : Apart a33 a282 := Apart.new g283 F263.lt
    have ne294 : Apart tk58 a282 := Apart.new g283 F273.lt
    have ne295 : Apart th59 a282 := Apart.new g283 F274.lt
    have ne296 : Apart te60 a282 := Apart.new g283 F275.lt
    have ne297 : Apart tb61 a282 := Apart.new g283 F276.lt
    have F298 := F278.ext E286
    have F299 := F279.ext E286
    have F300 := Exa.ext E286 F263
    have F301 := Fld.ext E286 F264
    have F302 := Fld.ext E286 F265
    have F303 := Fld.ext E286 F266
    have F304 := Fld.ext E286 F267
    have F305 := Fld.ext E286 F268
    have F306 := Fld.ext E286 F269
    have F307 := Fld.ext E286 F270
    have F308 := Fld.ext E286 F271
    have F309 := Fld.ext E286 F272
    have F310 := F273.ext E286
    have F311 := F274.ext E286
    have F312 := F275.ext E286
    have F313 := F276.ext E286
    clear g283 l287
    refine g_dup X284 hx (hb hby at_111) rfl (pc' := 112) rfl ?_
    refine g_iconst X284 hx (hb hby at_112) (v := 0) (by decide) (pc' := 113) rfl ?_
    refine g_lload X284 hx (hb hby at_113) (v := jj) rfl (pc' := 115) rfl ?_
    refine g_lastore X284 hx hZ e285 (k := 0) (x := jj) A288 rfl (by decide) N260 nl290 (hb hby at_115) (pc' := 116) rfl (fun T314 h315 L316 X317 e318 W319 N320 A321 => ?_)
    have Z322 : NLe n0 h315.size := Z289.wr W319
    have F323 := F298.other W319 ne291
    have F324 := F299.other W319 ne292
    have F325 := Exa.wr W319 F300
    have F326 := Fld.other W319 F301 (Or.inl ne293)
    have F327 := Fld.other W319 F302 (Or.inl ne293)
    have F328 := Fld.other W319 F303 (Or.inl ne293)
    have F329 := Fld.other W319 F304 (Or.inl ne293)
    have F330 := Fld.other W319 F305 (Or.inl ne293)
    have F331 := Fld.other W319 F306 (Or.inl ne293)
    have F332 := Fld.other W319 F307 (Or.inl ne293)
    have F333 := Fld.other W319 F308 (Or.inl ne293)
    have F334 := Fld.other W319 F309 (Or.inl ne293)
    have F335 := F310.other W319 ne294
    have F336 := F311.other W319 ne295
    have F337 := F312.other W319 ne296
    have F338 := F313.other W319 ne297
    refine g_dup X317 hx (hb hby at_116) rfl (pc' := 117) rfl ?_
    refine g_iconst X317 hx (hb hby at_117) (v := 1) (by decide) (pc' := 118) rfl ?_
    refine g_lload X317 hx (hb hby at_118) (v := p0) rfl (pc' := 120) rfl ?_
    refine g_lastore X317 hx hZ e318 (k := 1) (x := p0) A321 rfl (by decide) N320 nl290 (hb hby at_120) (pc' := 121) rfl (fun T340 h341 L342 X343 e344 W345 N346 A347 => ?_)
    have Z348 : NLe n0 h341.size := Z322.wr W345
    have F349 := F323.other W345 ne291
    have F350 := F324.other W345 ne292
    have F351 := Exa.wr W345 F325
    have F352 := Fld.other W345 F326 (Or.inl ne293)
    have F353 := Fld.other W345 F327 (Or.inl ne293)
    have F354 := Fld.other W345 F328 (Or.inl ne293)
    have F355 := Fld.other W345 F329 (Or.inl ne293)
    have F356 := Fld.other W345 F330 (Or.inl ne293)
    have F357 := Fld.other W345 F331 (Or.inl ne293)
    have F358 := Fld.other W345 F332 (Or.inl ne293)
    have F359 := Fld.other W345 F333 (Or.inl ne293)
    have F360 := Fld.other W345 F334 (Or.inl ne293)
    have F361 := F335.other W345 ne294
    have F362 := F336.other W345 ne295
    have F363 := F337.other W345 ne296
    have F364 := F338.other W345 ne297
    refine g_iload X343 hx (hb hby at_121) (v := b26) rfl (pc' := 123) rfl ?_
    refine g_virtual X343 hx hZ hown (hw _ (List.mem_of_getElem? (i := 40) rfl)) (hw _ (List.mem_of_getElem? (i := 41) rfl)) (hw _ (List.mem_of_getElem? (i := 43) rfl)) (hw _ (List.mem_of_getElem? (i := 42) rfl)) (hw _ (List.mem_of_getElem? (i := 8) rfl)) (hw _ (List.mem_of_getElem? (i := 44) rfl)) (by decide) (a := a33) (argsL := [(.ref a282), (.int b26)]) (rm16 l Z a0 hw a33 tk58 th59 te60 tb61 a282 b26 jj p0 k2 k1 (oupd (oupd zeroL k1 p0) k2 jj) (oupd (oupd (oupd (own_const (-1 : Int32)) k1 ((-2 : Int32) - b7)) k1 (0 : Int32)) k2 ((-2 : Int32) - b17)) (oupd zeroI 0 b17) (oupd zeroI 0 ((oupd (own_const (-1 : Int32)) k1 ((-2 : Int32) - b7)) k1)) h341 n0 Z348 F351 F352 F353 F354 F355 F356 F357 F358 F359 F360 F361 F362 F363 F364 A347 (own_Slot_new hS2) (by simp only [oupd, if_true]; omega) (own_Slot_other (own_Slot_new hS1) hz hne) (by simp only [oupd, hne', if_true, if_false]; decide) hne nl42 nl89 nl91 nl93 nl95 ne90 ne92 ne94 ne96 ne293 f62 f63 f64 ne294 f65 f66 ne295 f67 ne296 ne297) rfl e344 F351 (by rw [hml]; rfl) pd_5 rfl (rest := []) rfl (W := 0) (Nat.le_of_eq rfl) (by decide) (by decide) (by decide) (by decide) N346 (hb hby at_123) (pc' := 126) rfl (fun v366 T367 L368 X369 N370 q371 => ?_)
    obtain ⟨rfl, K372, F373, F374, F375, F376, F377, F378, F379, F380, F381, F382, F383, F384, F385, F386⟩ := q371
    have Z387 : NLe n0 T367.heap.size := Z348.tr K372.1
    have F388 := F349.keep K372 (ninS ne108.symm (ninS ne110.symm (ninS ne111.symm (ninS ne112.symm nin0))))
    have F389 := F350.keep K372 (ninS ne186.symm (ninS ne188.symm (ninS ne189.symm (ninS ne190.symm nin0))))
    have F390 := A347.keep K372 (ninS ne293.symm (ninS ne295.symm (ninS ne296.symm (ninS ne297.symm nin0))))
    show OGoes p e s below (Q0 Z p0 p1 p2 p3 p4 p5 h0 n0) n0 room_1.cells room_1.slots T367 (mkF m 126 #[.val (.long p0), .second, .val (.long p1), .second, .val (.int p2), .val (.int p3), .val (.int p4), .val (.int p5), .val (.int b7), .val (.int b17), .val (.int b26), .val (.long p0), .second, .val (.long jj), .second, .val (.ref a33), .unset, .unset, .unset, .unset, .unset, .unset, .unset, .unset, .unset, .unset] [])
    refine g_aload X369 hx (hb hby at_126) (v := (.ref a33)) rfl rfl (pc' := 128) rfl ?_
    refine g_lload X369 hx (hb hby at_128) (v := p0) rfl (pc' := 130) rfl ?_
    refine g_virtual X369 hx hZ hown (hw _ (List.mem_of_getElem? (i := 63) rfl)) (hw _ (List.mem_of_getElem? (i := 64) rfl)) (hw _ (List.mem_of_getElem? (i := 66) rfl)) (hw _ (List.mem_of_getElem? (i := 65) rfl)) (hw _ (List.mem_of_getElem? (i := 8) rfl)) (hw _ (List.mem_of_getElem? (i := 67) rfl)) (by decide) (a := a33) (argsL := [(.long p0)]) (rm9 l Z a0 hw a33 p0 tk58 th59 (oupd (oupd zeroL k1 p0) k2 jj) (oupd (oupd (oupd (oupd (oupd (own_const (-1 : Int32)) k1 ((-2 : Int32) - b7)) k1 (0 : Int32)) k2 ((-2 : Int32) - b17)) k2 (1 : Int32)) k1 (2 : Int32)) k1 T367.heap n0 Z387 F373 F374 F375 F383 F384 (own_Slot_other (own_Slot_new hS1) hz hne) (by simp only [oupd, hne', if_true, if_false])) rfl rfl F373 (by rw [hml]; rfl) pd_7 rfl (rest := []) rfl (W := 0) (Nat.le_of_eq rfl) (by decide) (by decide) (by decide) (by decide) N370 (hb hby at_130) (pc' := 133) rfl (fun v391 T392 L393 X394 N395 q396 => ?_)
    obtain ⟨rfl, K397⟩ := q396
    show OGoes p e s below (Q0 Z p0 p1 p2 p3 p4 p5 h0 n0) n0 room_1.cells room_1.slots T392 (mkF m 133 #[.val (.long p0), .second, .val (.long p1), .second, .val (.int p2), .val (.int p3), .val (.int p4), .val (.int p5), .val (.int b7), .val (.int b17), .val (.int b26), .val (.long p0), .second, .val (.long jj), .second, .val (.ref a33), .unset, .unset, .unset, .unset, .unset, .unset, .unset, .unset, .unset, .unset] [(.int ((oupd (oupd (oupd (oupd (oupd (own_const (-1 : Int32)) k1 ((-2 : Int32) - b7)) k1 (0 : Int32)) k2 ((-2 : Int32) - b17)) k2 (1 : Int32)) k1 (2 : Int32)) k1))])
    have rw398 : ((oupd (oupd (oupd (oupd (oupd (own_const (-1 : Int32)) k1 ((-2 : Int32) - b7)) k1 (0 : Int32)) k2 ((-2 : Int32) - b17)) k2 (1 : Int32)) k1 (2 : Int32)) k1) = (2 : Int32) := by simp only [oupd, hne, hne', if_true, if_false]
    rw [rw398]
    show OGoes p e s below (Q0 Z p0 p1 p2 p3 p4 p5 h0 n0) n0 room_1.cells room_1.slots T392 (mkF m 133 #[.val (.long p0), .second, .val (.long p1), .second, .val (.int p2), .val (.int p3), .val (.int p4), .val (.int p5), .val (.int b7), .val (.int b17), .val (.int b26), .val (.long p0), .second, .val (.long jj), .second, .val (.ref a33), .unset, .unset, .unset, .unset, .unset, .unset, .unset, .unset, .unset, .unset] [(.int (2 : Int32))])
    refine g_istore X394 hx (hb hby at_133) (Ls' := #[.val (.long p0), .second, .val (.long p1), .second, .val (.int p2), .val (.int p3), .val (.int p4), .val (.int p5), .val (.int b7), .val (.int b17), .val (.int b26), .val (.long p0), .second, .val (.long jj), .second, .val (.ref a33), .val (.int (2 : Int32)), .unset, .unset, .unset, .unset, .unset, .unset, .unset, .unset, .unset]) rfl (pc' := 135) rfl ?_
    refine g_aload X394 hx (hb hby at_135) (v := (.ref a33)) rfl rfl (pc' := 137) rfl ?_
    refine g_iload X394 hx (hb hby at_137) (v := (2 : Int32)) rfl (pc' := 139) rfl ?_
    refine g_virtual X394 hx hZ hown (hw _ (List.mem_of_getElem? (i := 68) rfl)) (hw _ (List.mem_of_getElem? (i := 69) rfl)) (hw _ (List.mem_of_getElem? (i := 71) rfl)) (hw _ (List.mem_of_getElem? (i := 70) rfl)) (hw _ (List.mem_of_getElem? (i := 8) rfl)) (hw _ (List.mem_of_getElem? (i := 72) rfl)) (by decide) (a := a33) (argsL := [(.int (2 : Int32))]) (rm10 l Z a0 hw a33 (2 : Int32) tb61 (oupd (oupd (oupd zeroI 0 ((oupd (own_const (-1 : Int32)) k1 ((-2 : Int32) - b7)) k1)) 1 ((oupd (oupd (oupd (own_const (-1 : Int32)) k1 ((-2 : Int32) - b7)) k1 (0 : Int32)) k2 ((-2 : Int32) - b17)) k2)) 2 ((oupd (oupd (oupd (oupd (own_const (-1 : Int32)) k1 ((-2 : Int32) - b7)) k1 (0 : Int32)) k2 ((-2 : Int32) - b17)) k2 (1 : Int32)) k1)) 2 T367.heap n0 Z387 F377 F386 rfl (by decide)) rfl K397 F373 (by rw [hml]; rfl) pd_4 rfl (rest := []) rfl (W := 0) (Nat.le_of_eq rfl) (by decide) (by decide) (by decide) (by decide) N395 (hb hby at_139) (pc' := 142) rfl (fun v399 T400 L401 X402 N403 q404 => ?_)
    obtain ⟨rfl, K405⟩ := q404
    have lt406 : (2 : Int32).toInt = 2 := rfl
    show OGoes p e s below (Q0 Z p0 p1 p2 p3 p4 p5 h0 n0) n0 room_1.cells room_1.slots T400 (mkF m 142 #[.val (.long p0), .second, .val (.long p1), .second, .val (.int p2), .val (.int p3), .val (.int p4), .val (.int p5), .val (.int b7), .val (.int b17), .val (.int b26), .val (.long p0), .second, .val (.long jj), .second, .val (.ref a33), .val (.int (2 : Int32)), .unset, .unset, .unset, .unset, .unset, .unset, .unset, .unset, .unset] [(.int ((oupd (oupd (oupd zeroI 0 ((oupd (own_const (-1 : Int32)) k1 ((-2 : Int32) - b7)) k1)) 1 ((oupd (oupd (oupd (own_const (-1 : Int32)) k1 ((-2 : Int32) - b7)) k1 (0 : Int32)) k2 ((-2 : Int32) - b17)) k2)) 2 ((oupd (oupd (oupd (oupd (own_const (-1 : Int32)) k1 ((-2 : Int32) - b7)) k1 (0 : Int32)) k2 ((-2 : Int32) - b17)) k2 (1 : Int32)) k1)) 2))])
    have rw407 : ((oupd (oupd (oupd zeroI 0 ((oupd (own_const (-1 : Int32)) k1 ((-2 : Int32) - b7)) k1)) 1 ((oupd (oupd (oupd (own_const (-1 : Int32)) k1 ((-2 : Int32) - b7)) k1 (0 : Int32)) k2 ((-2 : Int32) - b17)) k2)) 2 ((oupd (oupd (oupd (oupd (own_const (-1 : Int32)) k1 ((-2 : Int32) - b7)) k1 (0 : Int32)) k2 ((-2 : Int32) - b17)) k2 (1 : Int32)) k1)) 2) = (0 : Int32) := by simp [oupd, hne, hne']
    rw [rw407]
    show OGoes p e s below (Q0 Z p0 p1 p2 p3 p4 p5 h0 n0) n0 room_1.cells room_1.slots T400 (mkF m 142 #[.val (.long p0), .second, .val (.long p1), .second, .val (.int p2), .val (.int p3), .val (.int p4), .val (.int p5), .val (.int b7), .val (.int b17), .val (.int b26), .val (.long p0), .second, .val (.long jj), .second, .val (.ref a33), .val (.int (2 : Int32)), .unset, .unset, .unset, .unset, .unset, .unset, .unset, .unset, .unset] [(.int (0 : Int32))])
    refine g_istore X402 hx (hb hby at_142) (Ls' := #[.val (.long p0), .second, .val (.long p1), .second, .val (.int p2), .val (.int p3), .val (.int p4), .val (.int p5), .val (.int b7), .val (.int b17), .val (.int b26), .val (.long p0), .second, .val (.long jj), .second, .val (.ref a33), .val (.int (2 : Int32)), .val (.int (0 : Int32)), .unset, .unset, .unset, .unset, .unset, .unset, .unset, .unset]) rfl (pc' := 144) rfl ?_
    refine g_aload X402 hx (hb hby at_144) (v := (.ref a33)) rfl rfl (pc' := 146) rfl ?_
    refine g_iload X402 hx (hb hby at_146) (v := (0 : Int32)) rfl (pc' := 148) rfl ?_
    refine g_virtual X402 hx hZ hown (hw _ (List.mem_of_getElem? (i := 68) rfl)) (hw _ (List.mem_of_getElem? (i := 69) rfl)) (hw _ (List.mem_of_getElem? (i := 71) rfl)) (hw _ (List.mem_of_getElem? (i := 70) rfl)) (hw _ (List.mem_of_getElem? (i := 8) rfl)) (hw _ (List.mem_of_getElem? (i := 72) rfl)) (by decide) (a := a33) (argsL := [(.int (0 : Int32))]) (rm10 l Z a0 hw a33 (0 : Int32) tb61 (oupd (oupd (oupd zeroI 0 ((oupd (own_const (-1 : Int32)) k1 ((-2 : Int32) - b7)) k1)) 1 ((oupd (oupd (oupd (own_const (-1 : Int32)) k1 ((-2 : Int32) - b7)) k1 (0 : Int32)) k2 ((-2 : Int32) - b17)) k2)) 2 ((oupd (oupd (oupd (oupd (own_const (-1 : Int32)) k1 ((-2 : Int32) - b7)) k1 (0 : Int32)) k2 ((-2 : Int32) - b17)) k2 (1 : Int32)) k1)) 0 T367.heap n0 Z387 F377 F386 rfl (by decide)) rfl K405 F373 (by rw [hml]; rfl) pd_4 rfl (rest := []) rfl (W := 0) (Nat.le_of_eq rfl) (by decide) (by decide) (by decide) (by decide) N403 (hb hby at_148) (pc' := 151) rfl (fun v408 T409 L410 X411 N412 q413 => ?_)
    obtain ⟨rfl, K414⟩ := q413
    have lt415 : (0 : Int32).toInt = 0 := rfl
    show OGoes p e s below (Q0 Z p0 p1 p2 p3 p4 p5 h0 n0) n0 room_1.cells room_1.slots T409 (mkF m 151 #[.val (.long p0), .second, .val (.long p1), .second, .val (.int p2), .val (.int p3), .val (.int p4), .val (.int p5), .val (.int b7), .val (.int b17), .val (.int b26), .val (.long p0), .second, .val (.long jj), .second, .val (.ref a33), .val (.int (2 : Int32)), .val (.int (0 : Int32)), .unset, .unset, .unset, .unset, .unset, .unset, .unset, .unset] [(.int ((oupd (oupd (oupd zeroI 0 ((oupd (own_const (-1 : Int32)) k1 ((-2 : Int32) - b7)) k1)) 1 ((oupd (oupd (oupd (own_const (-1 : Int32)) k1 ((-2 : Int32) - b7)) k1 (0 : Int32)) k2 ((-2 : Int32) - b17)) k2)) 2 ((oupd (oupd (oupd (oupd (own_const (-1 : Int32)) k1 ((-2 : Int32) - b7)) k1 (0 : Int32)) k2 ((-2 : Int32) - b17)) k2 (1 : Int32)) k1)) 0))])
    have rw416 : ((oupd (oupd (oupd zeroI 0 ((oupd (own_const (-1 : Int32)) k1 ((-2 : Int32) - b7)) k1)) 1 ((oupd (oupd (oupd (own_const (-1 : Int32)) k1 ((-2 : Int32) - b7)) k1 (0 : Int32)) k2 ((-2 : Int32) - b17)) k2)) 2 ((oupd (oupd (oupd (oupd (own_const (-1 : Int32)) k1 ((-2 : Int32) - b7)) k1 (0 : Int32)) k2 ((-2 : Int32) - b17)) k2 (1 : Int32)) k1)) 0) = ((-2 : Int32) - b7) := by simp [oupd, hne, hne']
    rw [rw416]
    show OGoes p e s below (Q0 Z p0 p1 p2 p3 p4 p5 h0 n0) n0 room_1.cells room_1.slots T409 (mkF m 151 #[.val (.long p0), .second, .val (.long p1), .second, .val (.int p2), .val (.int p3), .val (.int p4), .val (.int p5), .val (.int b7), .val (.int b17), .val (.int b26), .val (.long p0), .second, .val (.long jj), .second, .val (.ref a33), .val (.int (2 : Int32)), .val (.int (0 : Int32)), .unset, .unset, .unset, .unset, .unset, .unset, .unset, .unset] [(.int ((-2 : Int32) - b7))])
    refine g_istore X411 hx (hb hby at_151) (Ls' := #[.val (.long p0), .second, .val (.long p1), .second, .val (.int p2), .val (.int p3), .val (.int p4), .val (.int p5), .val (.int b7), .val (.int b17), .val (.int b26), .val (.long p0), .second, .val (.long jj), .second, .val (.ref a33), .val (.int (2 : Int32)), .val (.int (0 : Int32)), .val (.int ((-2 : Int32) - b7)), .unset, .unset, .unset, .unset, .unset, .unset, .unset]) rfl (pc' := 153) rfl ?_
    refine g_aload X411 hx (hb hby at_153) (v := (.ref a33)) rfl rfl (pc' := 155) rfl ?_
    refine g_iload X411 hx (hb hby at_155) (v := ((-2 : Int32) - b7)) rfl (pc' := 157) rfl ?_
    refine g_virtual X411 hx hZ hown (hw _ (List.mem_of_getElem? (i := 68) rfl)) (hw _ (List.mem_of_getElem? (i := 69) rfl)) (hw _ (List.mem_of_getElem? (i := 71) rfl)) (hw _ (List.mem_of_getElem? (i := 70) rfl)) (hw _ (List.mem_of_getElem? (i := 8) rfl)) (hw _ (List.mem_of_getElem? (i := 72) rfl)) (by decide) (a := a33) (argsL := [(.int ((-2 : Int32) - b7))]) (rm11 l Z a0 hw a33 ((-2 : Int32) - b7) T367.heap n0 Z387 (by omega)) rfl K414 F373 (by rw [hml]; rfl) pd_4 rfl (rest := []) rfl (W := 0) (Nat.le_of_eq rfl) (by decide) (by decide) (by decide) (by decide) N412 (hb hby at_157) (pc' := 160) rfl (fun v417 T418 L419 X420 N421 q422 => ?_)
    obtain ⟨rfl, K423⟩ := q422
    show OGoes p e s below (Q0 Z p0 p1 p2 p3 p4 p5 h0 n0) n0 room_1.cells room_1.slots T418 (mkF m 160 #[.val (.long p0), .second, .val (.long p1), .second, .val (.int p2), .val (.int p3), .val (.int p4), .val (.int p5), .val (.int b7), .val (.int b17), .val (.int b26), .val (.long p0), .second, .val (.long jj), .second, .val (.ref a33), .val (.int (2 : Int32)), .val (.int (0 : Int32)), .val (.int ((-2 : Int32) - b7)), .unset, .unset, .unset, .unset, .unset, .unset, .unset] [(.int (-1 : Int32))])
    refine g_istore X420 hx (hb hby at_160) (Ls' := #[.val (.long p0), .second, .val (.long p1), .second, .val (.int p2), .val (.int p3), .val (.int p4), .val (.int p5), .val (.int b7), .val (.int b17), .val (.int b26), .val (.long p0), .second, .val (.long jj), .second, .val (.ref a33), .val (.int (2 : Int32)), .val (.int (0 : Int32)), .val (.int ((-2 : Int32) - b7)), .val (.int (-1 : Int32)), .unset, .unset, .unset, .unset, .unset, .unset]) rfl (pc' := 162) rfl ?_
    refine g_aload X420 hx (hb hby at_162) (v := (.ref a33)) rfl rfl (pc' := 164) rfl ?_
    refine g_lload X420 hx (hb hby at_164) (v := jj) rfl (pc' := 166) rfl ?_
    refine g_virtual X420 hx hZ hown (hw _ (List.mem_of_getElem? (i := 63) rfl)) (hw _ (List.mem_of_getElem? (i := 64) rfl)) (hw _ (List.mem_of_getElem? (i := 66) rfl)) (hw _ (List.mem_of_getElem? (i := 65) rfl)) (hw _ (List.mem_of_getElem? (i := 8) rfl)) (hw _ (List.mem_of_getElem? (i := 67) rfl)) (by decide) (a := a33) (argsL := [(.long jj)]) (rm9 l Z a0 hw a33 jj tk58 th59 (oupd (oupd zeroL k1 p0) k2 jj) (oupd (oupd (oupd (oupd (oupd (own_const (-1 : Int32)) k1 ((-2 : Int32) - b7)) k1 (0 : Int32)) k2 ((-2 : Int32) - b17)) k2 (1 : Int32)) k1 (2 : Int32)) k2 T367.heap n0 Z387 F373 F374 F375 F383 F384 (own_Slot_new hS2) (by simp only [oupd, if_true])) rfl K423 F373 (by rw [hml]; rfl) pd_7 rfl (rest := []) rfl (W := 0) (Nat.le_of_eq rfl) (by decide) (by decide) (by decide) (by decide) N421 (hb hby at_166) (pc' := 169) rfl (fun v424 T425 L426 X427 N428 q429 => ?_)
    obtain ⟨rfl, K430⟩ := q429
    show OGoes p e s below (Q0 Z p0 p1 p2 p3 p4 p5 h0 n0) n0 room_1.cells room_1.slots T425 (mkF m 169 #[.val (.long p0), .second, .val (.long p1), .second, .val (.int p2), .val (.int p3), .val (.int p4), .val (.int p5), .val (.int b7), .val (.int b17), .val (.int b26), .val (.long p0), .second, .val (.long jj), .second, .val (.ref a33), .val (.int (2 : Int32)), .val (.int (0 : Int32)), .val (.int ((-2 : Int32) - b7)), .val (.int (-1 : Int32)), .unset, .unset, .unset, .unset, .unset, .unset] [(.int ((oupd (oupd (oupd (oupd (oupd (own_const (-1 : Int32)) k1 ((-2 : Int32) - b7)) k1 (0 : Int32)) k2 ((-2 : Int32) - b17)) k2 (1 : Int32)) k1 (2 : Int32)) k2))])
    have rw431 : ((oupd (oupd (oupd (oupd (oupd (own_const (-1 : Int32)) k1 ((-2 : Int32) - b7)) k1 (0 : Int32)) k2 ((-2 : Int32) - b17)) k2 (1 : Int32)) k1 (2 : Int32)) k2) = (1 : Int32) := by simp only [oupd, hne, hne', if_true, if_false]
    rw [rw431]
    show OGoes p e s below (Q0 Z p0 p1 p2 p3 p4 p5 h0 n0) n0 room_1.cells room_1.slots T425 (mkF m 169 #[.val (.long p0), .second, .val (.long p1), .second, .val (.int p2), .val (.int p3), .val (.int p4), .val (.int p5), .val (.int b7), .val (.int b17), .val (.int b26), .val (.long p0), .second, .val (.long jj), .second, .val (.ref a33), .val (.int (2 : Int32)), .val (.int (0 : Int32)), .val (.int ((-2 : Int32) - b7)), .val (.int (-1 : Int32)), .unset, .unset, .unset, .unset, .unset, .unset] [(.int (1 : Int32))])
    refine g_istore X427 hx (hb hby at_169) (Ls' := #[.val (.long p0), .second, .val (.long p1), .second, .val (.int p2), .val (.int p3), .val (.int p4), .val (.int p5), .val (.int b7), .val (.int b17), .val (.int b26), .val (.long p0), .second, .val (.long jj), .second, .val (.ref a33), .val (.int (2 : Int32)), .val (.int (0 : Int32)), .val (.int ((-2 : Int32) - b7)), .val (.int (-1 : Int32)), .val (.int (1 : Int32)), .unset, .unset, .unset, .unset, .unset]) rfl (pc' := 171) rfl ?_
    refine g_aload X427 hx (hb hby at_171) (v := (.ref a33)) rfl rfl (pc' := 173) rfl ?_
    refine g_iload X427 hx (hb hby at_173) (v := (1 : Int32)) rfl (pc' := 175) rfl ?_
    refine g_virtual X427 hx hZ hown (hw _ (List.mem_of_getElem? (i := 68) rfl)) (hw _ (List.mem_of_getElem? (i := 69) rfl)) (hw _ (List.mem_of_getElem? (i := 71) rfl)) (hw _ (List.mem_of_getElem? (i := 70) rfl)) (hw _ (List.mem_of_getElem? (i := 8) rfl)) (hw _ (List.mem_of_getElem? (i := 72) rfl)) (by decide) (a := a33) (argsL := [(.int (1 : Int32))]) (rm10 l Z a0 hw a33 (1 : Int32) tb61 (oupd (oupd (oupd zeroI 0 ((oupd (own_const (-1 : Int32)) k1 ((-2 : Int32) - b7)) k1)) 1 ((oupd (oupd (oupd (own_const (-1 : Int32)) k1 ((-2 : Int32) - b7)) k1 (0 : Int32)) k2 ((-2 : Int32) - b17)) k2)) 2 ((oupd (oupd (oupd (oupd (own_const (-1 : Int32)) k1 ((-2 : Int32) - b7)) k1 (0 : Int32)) k2 ((-2 : Int32) - b17)) k2 (1 : Int32)) k1)) 1 T367.heap n0 Z387 F377 F386 rfl (by decide)) rfl K430 F373 (by rw [hml]; rfl) pd_4 rfl (rest := []) rfl (W := 0) (Nat.le_of_eq rfl) (by decide) (by decide) (by decide) (by decide) N428 (hb hby at_175) (pc' := 178) rfl (fun v432 T433 L434 X435 N436 q437 => ?_)
    obtain ⟨rfl, K438⟩ := q437
    have lt439 : (1 : Int32).toInt = 1 := rfl
    show OGoes p e s below (Q0 Z p0 p1 p2 p3 p4 p5 h0 n0) n0 room_1.cells room_1.slots T433 (mkF m 178 #[.val (.long p0), .second, .val (.long p1), .second, .val (.int p2), .val (.int p3), .val (.int p4), .val (.int p5), .val (.int b7), .val (.int b17), .val (.int b26), .val (.long p0), .second, .val (.long jj), .second, .val (.ref a33), .val (.int (2 : Int32)), .val (.int (0 : Int32)), .val (.int ((-2 : Int32) - b7)), .val (.int (-1 : Int32)), .val (.int (1 : Int32)), .unset, .unset, .unset, .unset, .unset] [(.int ((oupd (oupd (oupd zeroI 0 ((oupd (own_const (-1 : Int32)) k1 ((-2 : Int32) - b7)) k1)) 1 ((oupd (oupd (oupd (own_const (-1 : Int32)) k1 ((-2 : Int32) - b7)) k1 (0 : Int32)) k2 ((-2 : Int32) - b17)) k2)) 2 ((oupd (oupd (oupd (oupd (own_const (-1 : Int32)) k1 ((-2 : Int32) - b7)) k1 (0 : Int32)) k2 ((-2 : Int32) - b17)) k2 (1 : Int32)) k1)) 1))])
    have rw440 : ((oupd (oupd (oupd zeroI 0 ((oupd (own_const (-1 : Int32)) k1 ((-2 : Int32) - b7)) k1)) 1 ((oupd (oupd (oupd (own_const (-1 : Int32)) k1 ((-2 : Int32) - b7)) k1 (0 : Int32)) k2 ((-2 : Int32) - b17)) k2)) 2 ((oupd (oupd (oupd (oupd (own_const (-1 : Int32)) k1 ((-2 : Int32) - b7)) k1 (0 : Int32)) k2 ((-2 : Int32) - b17)) k2 (1 : Int32)) k1)) 1) = ((-2 : Int32) - b17) := by simp [oupd, hne, hne']
    rw [rw440]
    show OGoes p e s below (Q0 Z p0 p1 p2 p3 p4 p5 h0 n0) n0 room_1.cells room_1.slots T433 (mkF m 178 #[.val (.long p0), .second, .val (.long p1), .second, .val (.int p2), .val (.int p3), .val (.int p4), .val (.int p5), .val (.int b7), .val (.int b17), .val (.int b26), .val (.long p0), .second, .val (.long jj), .second, .val (.ref a33), .val (.int (2 : Int32)), .val (.int (0 : Int32)), .val (.int ((-2 : Int32) - b7)), .val (.int (-1 : Int32)), .val (.int (1 : Int32)), .unset, .unset, .unset, .unset, .unset] [(.int ((-2 : Int32) - b17))])
    refine g_istore X435 hx (hb hby at_178) (Ls' := #[.val (.long p0), .second, .val (.long p1), .second, .val (.int p2), .val (.int p3), .val (.int p4), .val (.int p5), .val (.int b7), .val (.int b17), .val (.int b26), .val (.long p0), .second, .val (.long jj), .second, .val (.ref a33), .val (.int (2 : Int32)), .val (.int (0 : Int32)), .val (.int ((-2 : Int32) - b7)), .val (.int (-1 : Int32)), .val (.int (1 : Int32)), .val (.int ((-2 : Int32) - b17)), .unset, .unset, .unset, .unset]) rfl (pc' := 180) rfl ?_
    refine g_aload X435 hx (hb hby at_180) (v := (.ref a33)) rfl rfl (pc' := 182) rfl ?_
    refine g_iload X435 hx (hb hby at_182) (v := ((-2 : Int32) - b17)) rfl (pc' := 184) rfl ?_
    refine g_virtual X435 hx hZ hown (hw _ (List.mem_of_getElem? (i := 68) rfl)) (hw _ (List.mem_of_getElem? (i := 69) rfl)) (hw _ (List.mem_of_getElem? (i := 71) rfl)) (hw _ (List.mem_of_getElem? (i := 70) rfl)) (hw _ (List.mem_of_getElem? (i := 8) rfl)) (hw _ (List.mem_of_getElem? (i := 72) rfl)) (by decide) (a := a33) (argsL := [(.int ((-2 : Int32) - b17))]) (rm11 l Z a0 hw a33 ((-2 : Int32) - b17) T367.heap n0 Z387 (by omega)) rfl K438 F373 (by rw [hml]; rfl) pd_4 rfl (rest := []) rfl (W := 0) (Nat.le_of_eq rfl) (by decide) (by decide) (by decide) (by decide) N436 (hb hby at_184) (pc' := 187) rfl (fun v441 T442 L443 X444 N445 q446 => ?_)
    obtain ⟨rfl, K447⟩ := q446
    show OGoes p e s below (Q0 Z p0 p1 p2 p3 p4 p5 h0 n0) n0 room_1.cells room_1.slots T442 (mkF m 187 #[.val (.long p0), .second, .val (.long p1), .second, .val (.int p2), .val (.int p3), .val (.int p4), .val (.int p5), .val (.int b7), .val (.int b17), .val (.int b26), .val (.long p0), .second, .val (.long jj), .second, .val (.ref a33), .val (.int (2 : Int32)), .val (.int (0 : Int32)), .val (.int ((-2 : Int32) - b7)), .val (.int (-1 : Int32)), .val (.int (1 : Int32)), .val (.int ((-2 : Int32) - b17)), .unset, .unset, .unset, .unset] [(.int (-1 : Int32))])
    refine g_istore X444 hx (hb hby at_187) (Ls' := #[.val (.long p0), .second, .val (.long p1), .second, .val (.int p2), .val (.int p3), .val (.int p4), .val (.int p5), .val (.int b7), .val (.int b17), .val (.int b26), .val (.long p0), .second, .val (.long jj), .second, .val (.ref a33), .val (.int (2 : Int32)), .val (.int (0 : Int32)), .val (.int ((-2 : Int32) - b7)), .val (.int (-1 : Int32)), .val (.int (1 : Int32)), .val (.int ((-2 : Int32) - b17)), .val (.int (-1 : Int32)), .unset, .unset, .unset]) rfl (pc' := 189) rfl ?_
    refine g_iload X444 hx (hb hby at_189) (v := (2 : Int32)) rfl (pc' := 191) rfl ?_
    refine g_i0_lt X444 hx (a := 2) rfl (hb hby at_191) (by decide) (pc' := 244) (by decide) (pc2 := 194) rfl (fun c448 => False.elim (by omega)) (fun c448 => ?_)
    refine g_iload X444 hx (hb hby at_194) (v := (0 : Int32)) rfl (pc' := 196) rfl ?_
    refine g_i0_lt X444 hx (a := 0) rfl (hb hby at_196) (by decide) (pc' := 244) (by decide) (pc2 := 199) rfl (fun c449 => False.elim (by omega)) (fun c449 => ?_)
    refine g_iload X444 hx (hb hby at_199) (v := ((-2 : Int32) - b7)) rfl (pc' := 201) rfl ?_
    refine g_i0_ge X444 hx (a := ((-2 : Int32) - b7).toInt) rfl (hb hby at_201) (by decide) (pc' := 244) (by decide) (pc2 := 204) rfl (fun c450 => False.elim (by omega)) (fun c450 => ?_)
    refine g_iload X444 hx (hb hby at_204) (v := ((-2 : Int32) - b7)) rfl (pc' := 206) rfl ?_
    refine g_iconst X444 hx (hb hby at_206) (v := -1) (by decide) (pc' := 207) rfl ?_
    refine g_ii_eq X444 hx (a := ((-2 : Int32) - b7).toInt) (b := (-1)) rfl rfl (hb hby at_207) (by decide) (pc' := 244) (by decide) (pc2 := 210) rfl (fun c451 => False.elim (by omega)) (fun c451 => ?_)
    refine g_iload X444 hx (hb hby at_210) (v := (-1 : Int32)) rfl (pc' := 212) rfl ?_
    refine g_iconst X444 hx (hb hby at_212) (v := -1) (by decide) (pc' := 213) rfl ?_
    refine g_ii_ne X444 hx (a := (-1)) (b := (-1)) rfl rfl (hb hby at_213) (by decide) (pc' := 244) (by decide) (pc2 := 216) rfl (fun c452 => False.elim (by omega)) (fun c452 => ?_)
    refine g_aload X444 hx (hb hby at_216) (v := (.ref a33)) rfl rfl (pc' := 218) rfl ?_
    refine g_iload X444 hx (hb hby at_218) (v := (0 : Int32)) rfl (pc' := 220) rfl ?_
    refine g_virtual X444 hx hZ hown (hw _ (List.mem_of_getElem? (i := 73) rfl)) (hw _ (List.mem_of_getElem? (i := 74) rfl)) (hw _ (List.mem_of_getElem? (i := 76) rfl)) (hw _ (List.mem_of_getElem? (i := 75) rfl)) (hw _ (List.mem_of_getElem? (i := 8) rfl)) (hw _ (List.mem_of_getElem? (i := 77) rfl)) (by decide) (a := a33) (argsL := [(.int (0 : Int32))]) (rm12 l Z a0 hw a33 (0 : Int32) te60 (oupd (oupd (oupd zeroI 0 b17) 1 b26) 2 b26) 0 T367.heap n0 Z387 F376 F385 rfl (by decide)) rfl K447 F373 (by rw [hml]; rfl) pd_4 rfl (rest := []) rfl (W := 0) (Nat.le_of_eq rfl) (by decide) (by decide) (by decide) (by decide) N445 (hb hby at_220) (pc' := 223) rfl (fun v453 T454 L455 X456 N457 q458 => ?_)
    obtain ⟨rfl, K459⟩ := q458
    show OGoes p e s below (Q0 Z p0 p1 p2 p3 p4 p5 h0 n0) n0 room_1.cells room_1.slots T454 (mkF m 223 #[.val (.long p0), .second, .val (.long p1), .second, .val (.int p2), .val (.int p3), .val (.int p4), .val (.int p5), .val (.int b7), .val (.int b17), .val (.int b26), .val (.long p0), .second, .val (.long jj), .second, .val (.ref a33), .val (.int (2 : Int32)), .val (.int (0 : Int32)), .val (.int ((-2 : Int32) - b7)), .val (.int (-1 : Int32)), .val (.int (1 : Int32)), .val (.int ((-2 : Int32) - b17)), .val (.int (-1 : Int32)), .unset, .unset, .unset] [(.int ((oupd (oupd (oupd zeroI 0 b17) 1 b26) 2 b26) 0))])
    have rw460 : ((oupd (oupd (oupd zeroI 0 b17) 1 b26) 2 b26) 0) = b17 := by simp [oupd, hne, hne']
    rw [rw460]
    show OGoes p e s below (Q0 Z p0 p1 p2 p3 p4 p5 h0 n0) n0 room_1.cells room_1.slots T454 (mkF m 223 #[.val (.long p0), .second, .val (.long p1), .second, .val (.int p2), .val (.int p3), .val (.int p4), .val (.int p5), .val (.int b7), .val (.int b17), .val (.int b26), .val (.long p0), .second, .val (.long jj), .second, .val (.ref a33), .val (.int (2 : Int32)), .val (.int (0 : Int32)), .val (.int ((-2 : Int32) - b7)), .val (.int (-1 : Int32)), .val (.int (1 : Int32)), .val (.int ((-2 : Int32) - b17)), .val (.int (-1 : Int32)), .unset, .unset, .unset] [(.int b17)])
    refine g_iload X456 hx (hb hby at_223) (v := b17) rfl (pc' := 225) rfl ?_
    refine g_ii_ne X456 hx (a := b17.toInt) (b := b17.toInt) rfl rfl (hb hby at_225) (by decide) (pc' := 244) (by decide) (pc2 := 228) rfl (fun c461 => False.elim (by omega)) (fun c461 => ?_)
    refine g_aload X456 hx (hb hby at_228) (v := (.ref a33)) rfl rfl (pc' := 230) rfl ?_
    refine g_iload X456 hx (hb hby at_230) (v := ((-2 : Int32) - b7)) rfl (pc' := 232) rfl ?_
    refine g_virtual X456 hx hZ hown (hw _ (List.mem_of_getElem? (i := 73) rfl)) (hw _ (List.mem_of_getElem? (i := 74) rfl)) (hw _ (List.mem_of_getElem? (i := 76) rfl)) (hw _ (List.mem_of_getElem? (i := 75) rfl)) (hw _ (List.mem_of_getElem? (i := 8) rfl)) (hw _ (List.mem_of_getElem? (i := 77) rfl)) (by decide) (a := a33) (argsL := [(.int ((-2 : Int32) - b7))]) (rm13 l Z a0 hw a33 ((-2 : Int32) - b7) T367.heap n0 Z387 (by omega)) rfl K459 F373 (by rw [hml]; rfl) pd_4 rfl (rest := []) rfl (W := 0) (Nat.le_of_eq rfl) (by decide) (by decide) (by decide) (by decide) N457 (hb hby at_232) (pc' := 235) rfl (fun v462 T463 L464 X465 N466 q467 => ?_)
    obtain ⟨rfl, K468⟩ := q467
    show OGoes p e s below (Q0 Z p0 p1 p2 p3 p4 p5 h0 n0) n0 room_1.cells room_1.slots T463 (mkF m 235 #[.val (.long p0), .second, .val (.long p1), .second, .val (.int p2), .val (.int p3), .val (.int p4), .val (.int p5), .val (.int b7), .val (.int b17), .val (.int b26), .val (.long p0), .second, .val (.long jj), .second, .val (.ref a33), .val (.int (2 : Int32)), .val (.int (0 : Int32)), .val (.int ((-2 : Int32) - b7)), .val (.int (-1 : Int32)), .val (.int (1 : Int32)), .val (.int ((-2 : Int32) - b17)), .val (.int (-1 : Int32)), .unset, .unset, .unset] [(.int ((-2 : Int32) - ((-2 : Int32) - b7)))])
    refine g_iload X465 hx (hb hby at_235) (v := b7) rfl (pc' := 237) rfl ?_
    refine g_ii_ne X465 hx (a := ((-2 : Int32) - ((-2 : Int32) - b7)).toInt) (b := b7.toInt) rfl rfl (hb hby at_237) (by decide) (pc' := 244) (by decide) (pc2 := 240) rfl (fun cA => False.elim (by exact cA (own_alone2 b7 B8))) (fun cA => ?_)
    refine g_iconst X465 hx (hb hby at_240) (v := 1) (by decide) (pc' := 241) rfl ?_
    refine g_goto X465 hx (hb hby at_241) (by decide) (pc' := 245) (by decide) ?_
    refine g_istore X465 hx (hb hby at_245) (Ls' := #[.val (.long p0), .second, .val (.long p1), .second, .val (.int p2), .val (.int p3), .val (.int p4), .val (.int p5), .val (.int b7), .val (.int b17), .val (.int b26), .val (.long p0), .second, .val (.long jj), .second, .val (.ref a33), .val (.int (2 : Int32)), .val (.int (0 : Int32)), .val (.int ((-2 : Int32) - b7)), .val (.int (-1 : Int32)), .val (.int (1 : Int32)), .val (.int ((-2 : Int32) - b17)), .val (.int (-1 : Int32)), .val (.int (1 : Int32)), .unset, .unset]) rfl (pc' := 247) rfl ?_
    refine g_iload X465 hx (hb hby at_247) (v := (1 : Int32)) rfl (pc' := 249) rfl ?_
    refine g_i0_lt X465 hx (a := 1) rfl (hb hby at_249) (by decide) (pc' := 285) (by decide) (pc2 := 252) rfl (fun c469 => False.elim (by omega)) (fun c469 => ?_)
    refine g_iload X465 hx (hb hby at_252) (v := ((-2 : Int32) - b17)) rfl (pc' := 254) rfl ?_
    refine g_i0_ge X465 hx (a := ((-2 : Int32) - b17).toInt) rfl (hb hby at_254) (by decide) (pc' := 285) (by decide) (pc2 := 257) rfl (fun c470 => False.elim (by omega)) (fun c470 => ?_)
    refine g_iload X465 hx (hb hby at_257) (v := ((-2 : Int32) - b17)) rfl (pc' := 259) rfl ?_
    refine g_iconst X465 hx (hb hby at_259) (v := -1) (by decide) (pc' := 260) rfl ?_
    refine g_ii_eq X465 hx (a := ((-2 : Int32) - b17).toInt) (b := (-1)) rfl rfl (hb hby at_260) (by decide) (pc' := 285) (by decide) (pc2 := 263) rfl (fun c471 => False.elim (by omega)) (fun c471 => ?_)
    refine g_aload X465 hx (hb hby at_263) (v := (.ref a33)) rfl rfl (pc' := 265) rfl ?_
    refine g_iload X465 hx (hb hby at_265) (v := ((-2 : Int32) - b17)) rfl (pc' := 267) rfl ?_
    refine g_virtual X465 hx hZ hown (hw _ (List.mem_of_getElem? (i := 73) rfl)) (hw _ (List.mem_of_getElem? (i := 74) rfl)) (hw _ (List.mem_of_getElem? (i := 76) rfl)) (hw _ (List.mem_of_getElem? (i := 75) rfl)) (hw _ (List.mem_of_getElem? (i := 8) rfl)) (hw _ (List.mem_of_getElem? (i := 77) rfl)) (by decide) (a := a33) (argsL := [(.int ((-2 : Int32) - b17))]) (rm13 l Z a0 hw a33 ((-2 : Int32) - b17) T367.heap n0 Z387 (by omega)) rfl K468 F373 (by rw [hml]; rfl) pd_4 rfl (rest := []) rfl (W := 0) (Nat.le_of_eq rfl) (by decide) (by decide) (by decide) (by decide) N466 (hb hby at_267) (pc' := 270) rfl (fun v472 T473 L474 X475 N476 q477 => ?_)
    obtain ⟨rfl, K478⟩ := q477
    show OGoes p e s below (Q0 Z p0 p1 p2 p3 p4 p5 h0 n0) n0 room_1.cells room_1.slots T473 (mkF m 270 #[.val (.long p0), .second, .val (.long p1), .second, .val (.int p2), .val (.int p3), .val (.int p4), .val (.int p5), .val (.int b7), .val (.int b17), .val (.int b26), .val (.long p0), .second, .val (.long jj), .second, .val (.ref a33), .val (.int (2 : Int32)), .val (.int (0 : Int32)), .val (.int ((-2 : Int32) - b7)), .val (.int (-1 : Int32)), .val (.int (1 : Int32)), .val (.int ((-2 : Int32) - b17)), .val (.int (-1 : Int32)), .val (.int (1 : Int32)), .unset, .unset] [(.int ((-2 : Int32) - ((-2 : Int32) - b17)))])
    refine g_iload X475 hx (hb hby at_270) (v := b17) rfl (pc' := 272) rfl ?_
    refine g_ii_ne X475 hx (a := ((-2 : Int32) - ((-2 : Int32) - b17)).toInt) (b := b17.toInt) rfl rfl (hb hby at_272) (by decide) (pc' := 285) (by decide) (pc2 := 275) rfl (fun cB => False.elim (by exact cB (own_alone2 b17 B9))) (fun cB => ?_)
    refine g_iload X475 hx (hb hby at_275) (v := (-1 : Int32)) rfl (pc' := 277) rfl ?_
    refine g_iconst X475 hx (hb hby at_277) (v := -1) (by decide) (pc' := 278) rfl ?_
    refine g_ii_ne X475 hx (a := (-1)) (b := (-1)) rfl rfl (hb hby at_278) (by decide) (pc' := 285) (by decide) (pc2 := 281) rfl (fun c479 => False.elim (by omega)) (fun c479 => ?_)
    refine g_iconst X475 hx (hb hby at_281) (v := 1) (by decide) (pc' := 282) rfl ?_
    refine g_goto X475 hx (hb hby at_282) (by decide) (pc' := 286) (by decide) ?_
    refine g_istore X475 hx (hb hby at_286) (Ls' := #[.val (.long p0), .second, .val (.long p1), .second, .val (.int p2), .val (.int p3), .val (.int p4), .val (.int p5), .val (.int b7), .val (.int b17), .val (.int b26), .val (.long p0), .second, .val (.long jj), .second, .val (.ref a33), .val (.int (2 : Int32)), .val (.int (0 : Int32)), .val (.int ((-2 : Int32) - b7)), .val (.int (-1 : Int32)), .val (.int (1 : Int32)), .val (.int ((-2 : Int32) - b17)), .val (.int (-1 : Int32)), .val (.int (1 : Int32)), .val (.int (1 : Int32)), .unset]) rfl (pc' := 288) rfl ?_
    refine g_aload X475 hx (hb hby at_288) (v := (.ref a33)) rfl rfl (pc' := 290) rfl ?_
    refine g_iload X475 hx (hb hby at_290) (v := p5) rfl (pc' := 292) rfl ?_
    refine g_ldc X475 hx hZ hown (hb hby at_292) (v := -2147483648) (hw _ (List.mem_of_getElem? (i := 78) rfl)) (pc' := 294) rfl ?_
    refine g_ior X475 hx (hb hby at_294) (pc' := 295) rfl ?_
    have om := c_orS p5 (-2147483648); have lmn : (-2147483648 : Int32).toInt = -2147483648 := rfl
    refine g_virtual X475 hx hZ hown (hw _ (List.mem_of_getElem? (i := 68) rfl)) (hw _ (List.mem_of_getElem? (i := 69) rfl)) (hw _ (List.mem_of_getElem? (i := 71) rfl)) (hw _ (List.mem_of_getElem? (i := 70) rfl)) (hw _ (List.mem_of_getElem? (i := 8) rfl)) (hw _ (List.mem_of_getElem? (i := 72) rfl)) (by decide) (a := a33) (argsL := [(.int (p5 ||| (-2147483648 : Int32)))]) (rm11 l Z a0 hw a33 (p5 ||| (-2147483648 : Int32)) T367.heap n0 Z387 (om.2.2 (by omega))) rfl K478 F373 (by rw [hml]; rfl) pd_4 rfl (rest := []) rfl (W := 0) (Nat.le_of_eq rfl) (by decide) (by decide) (by decide) (by decide) N476 (hb hby at_295) (pc' := 298) rfl (fun v480 T481 L482 X483 N484 q485 => ?_)
    obtain ⟨rfl, K486⟩ := q485
    show OGoes p e s below (Q0 Z p0 p1 p2 p3 p4 p5 h0 n0) n0 room_1.cells room_1.slots T481 (mkF m 298 #[.val (.long p0), .second, .val (.long p1), .second, .val (.int p2), .val (.int p3), .val (.int p4), .val (.int p5), .val (.int b7), .val (.int b17), .val (.int b26), .val (.long p0), .second, .val (.long jj), .second, .val (.ref a33), .val (.int (2 : Int32)), .val (.int (0 : Int32)), .val (.int ((-2 : Int32) - b7)), .val (.int (-1 : Int32)), .val (.int (1 : Int32)), .val (.int ((-2 : Int32) - b17)), .val (.int (-1 : Int32)), .val (.int (1 : Int32)), .val (.int (1 : Int32)), .unset] [(.int (-1 : Int32))])
    refine g_iconst X483 hx (hb hby at_298) (v := -1) (by decide) (pc' := 299) rfl ?_
    refine g_ii_ne X483 hx (a := (-1)) (b := (-1)) rfl rfl (hb hby at_299) (by decide) (pc' := 306) (by decide) (pc2 := 302) rfl (fun c487 => False.elim (by omega)) (fun c487 => ?_)
    refine g_iconst X483 hx (hb hby at_302) (v := 1) (by decide) (pc' := 303) rfl ?_
    refine g_goto X483 hx (hb hby at_303) (by decide) (pc' := 307) (by decide) ?_
    refine g_istore X483 hx (hb hby at_307) (Ls' := #[.val (.long p0), .second, .val (.long p1), .second, .val (.int p2), .val (.int p3), .val (.int p4), .val (.int p5), .val (.int b7), .val (.int b17), .val (.int b26), .val (.long p0), .second, .val (.long jj), .second, .val (.ref a33), .val (.int (2 : Int32)), .val (.int (0 : Int32)), .val (.int ((-2 : Int32) - b7)), .val (.int (-1 : Int32)), .val (.int (1 : Int32)), .val (.int ((-2 : Int32) - b17)), .val (.int (-1 : Int32)), .val (.int (1 : Int32)), .val (.int (1 : Int32)), .val (.int (1 : Int32))]) rfl (pc' := 309) rfl ?_
    refine g_iload X483 hx (hb hby at_309) (v := (1 : Int32)) rfl (pc' := 311) rfl ?_
    refine g_i0_eq X483 hx (a := 1) rfl (hb hby at_311) (by decide) (pc' := 328) (by decide) (pc2 := 314) rfl (fun c488 => False.elim (by omega)) (fun c488 => ?_)
    refine g_iload X483 hx (hb hby at_314) (v := (1 : Int32)) rfl (pc' := 316) rfl ?_
    refine g_i0_eq X483 hx (a := 1) rfl (hb hby at_316) (by decide) (pc' := 328) (by decide) (pc2 := 319) rfl (fun c489 => False.elim (by omega)) (fun c489 => ?_)
    refine g_iload X483 hx (hb hby at_319) (v := (1 : Int32)) rfl (pc' := 321) rfl ?_
    refine g_i0_eq X483 hx (a := 1) rfl (hb hby at_321) (by decide) (pc' := 328) (by decide) (pc2 := 324) rfl (fun c490 => False.elim (by omega)) (fun c490 => ?_)
    refine g_iconst X483 hx (hb hby at_324) (v := 1) (by decide) (pc' := 325) rfl ?_
    refine g_goto X483 hx (hb hby at_325) (by decide) (pc' := 329) (by decide) ?_
    refine g_retZ X483 hx hlk (by decide) hret (hb hby at_329) N484 (by decide) (by decide) ?_
    exact rfl
  refine g_ll_ne X23 hx (a := p1.toInt) (b := p0.toInt) rfl rfl (hb hby at_46) (pc1 := 47) rfl (hb hby at_47) (by decide) (pc' := 58) (by decide) (pc2 := 50) rfl (fun cj => ?_) (fun cj => ?_)
  · exact J29 _ (fun z => cj (by rw [z]))
  · refine g_lload X23 hx (hb hby at_50) (v := p0) rfl (pc' := 52) rfl ?_
    refine g_ldc2 X23 hx hZ hown (hb hby at_52) (v := -1) (hw _ (List.mem_of_getElem? (i := 79) rfl)) (pc' := 55) rfl ?_
    refine g_lxor X23 hx (hb hby at_55) (pc' := 56) rfl ?_
    refine g_lstore X23 hx (hb hby at_56) (Ls' := #[.val (.long p0), .second, .val (.long p1), .second, .val (.int p2), .val (.int p3), .val (.int p4), .val (.int p5), .val (.int b7), .val (.int b17), .val (.int b26), .val (.long p0), .second, .val (.long (p0 ^^^ (-1 : Int64))), .second, .unset, .unset, .unset, .unset, .unset, .unset, .unset, .unset, .unset, .unset, .unset]) rfl (pc' := 58) rfl ?_
    exact J29 _ (fun z => by have q := c_xorSL p0 (-1); rw [z] at q; have l : (-1 : Int64).toInt = -1 := rfl; omega)
set_option maxRecDepth 65536 in
set_option maxHeartbeats 40000000 in
theorem comes_1 {Post : Tables → Env → Array Value → State → Outcome → State → Prop} (hpost : ∀ tb e args s v u, (limb_1_1.after args s (.returned v) u = true ∧ limb_1_2.after args s (.returned v) u = true ∧ True) → FrameEnd s (.returned v) u (Jvm.fieldLocs frame_1_writes args s ++ Jvm.arrayLocs frame_1_arrays args s ++ Jvm.staticLocs frame_1_statics s) 24 256 → Post tb e args s (.returned v) u) :
    ArmFor flags0 classFile x code maxLocals ret World_1 tables_1 room_1 Calls_1 rest_1 Pre_1 Post := by
  intro l hfl _ _ p e ha hc hk s m args below hf hA hF happ hP
  obtain ⟨hcalls, hrest, hpre⟩ := hP
  obtain ⟨-, -, -, hnamed, -, -, -, hat⟩ := (Spec.applies_iff hf).mp happ
  obtain ⟨hg, hn⟩ := and_e (Cond.before_iff.mp (show (Jvm.Cond.and given_1 narrow_1).before args s = true from hpre))
  obtain ⟨hcount, k0⟩ := and_e hg
  obtain ⟨g0, k1⟩ := and_e k0
  obtain ⟨g1, k2⟩ := and_e k1
  obtain ⟨g2, k3⟩ := and_e k2
  obtain ⟨g3, k4⟩ := and_e k3
  obtain ⟨g4, k5⟩ := and_e k4
  have g5 := k5
  obtain ⟨w0, w1, w2, w3, w4, w5, rfl⟩ : ∃ w0 w1 w2 w3 w4 w5 : Value, args = #[w0, w1, w2, w3, w4, w5] := by
    have hs : args.size = 6 := by simpa [Cond.value, given_1] using hcount
    obtain ⟨L⟩ := args
    match L, hs with
    | [w0, w1, w2, w3, w4, w5], _ => exact ⟨w0, w1, w2, w3, w4, w5, rfl⟩
  have hw := fun d (hd : d ∈ tables_1) => atoms_spec (ws := Jvm.Cond.code x code maxLocals ret :: tables_1) hat d (List.mem_cons_of_mem _ hd)
  obtain ⟨i0, z0⟩ := isL_v g0
  obtain rfl : w0 = (.long i0) := Option.some.inj z0
  obtain ⟨i1, z1⟩ := isL_v g1
  obtain rfl : w1 = (.long i1) := Option.some.inj z1
  obtain ⟨i2, z2⟩ := is_v g2
  obtain rfl : w2 = (.int i2) := Option.some.inj z2
  obtain ⟨i3, z3⟩ := is_v g3
  obtain rfl : w3 = (.int i3) := Option.some.inj z3
  obtain ⟨i4, z4⟩ := is_v g4
  obtain rfl : w4 = (.int i4) := Option.some.inj z4
  obtain ⟨i5, z5⟩ := is_v g5
  obtain rfl : w5 = (.int i5) := Option.some.inj z5
  obtain ⟨n, o, h1, h2, h3, _, L, rfl, ⟨N, rfl⟩, hq⟩ := rm0 l s _ hw tables_1 i0 i1 i2 i3 i4 i5  s.heap s.heap.size (Nat.le_refl _)  p e ha hc hk s m _ below hf ((Spec.applies_iff_loose hf).mp happ).1 ⟨rfl, State.Warmed39.refl s, rfl⟩ trivial
  exact ⟨n, _, h1, h2, h3, hpost _ _ _ _ _ _ ⟨Cond.after_iff.mpr rfl, Cond.after_iff.mpr (eq_i res_at (Term.int_eval (1)) rfl), trivial⟩ ⟨hq.1, hq.2.1, (hq.2.2.sift fun y hy => Or.inr (N y hy)).mono (by decide) (by decide)⟩⟩
theorem main_1_1 : Claimed_1_1 := comes_1 fun _ _ _ _ _ _ h hF => ⟨h.1, hF⟩
theorem main_1_2 : Claimed_1_2 := comes_1 fun _ _ _ _ _ _ h hF => ⟨h.2.1, hF⟩
end Jvm.Pilot.@@N@@
namespace Jvm.Pilot.@@N@@
open Jvm Jvm.ClassFile Sem Op Lib Jvm.Free Jvm.Stand Jvm.Pilot.@@N@@.Jvm.D
/-! MADE BY PROGRAM (witnessworld.py) out of the Statement's table words and the real class files: 13 classes; the members and pool entries that the words name. The judged class is class 1, her method 1. -/
namespace start1
open Jvm.ClassFile
def u (s : String) : CpInfo := .utf8 (stringToUtf16 s)
/-- a pool by its gaps: so many unusable entries, then the entry; so many at the end -/
def gap : Nat → List CpInfo → List CpInfo
  | 0, r => r
  | n + 1, r => .unusable :: gap n r
def poolList (es : List (Nat × CpInfo)) (last : Nat) : List CpInfo := es.foldr (fun e r => gap e.1 (e.2 :: r)) (gap last [])
def pool (es : List (Nat × CpInfo)) (last : Nat) : Array CpInfo := ⟨poolList es last⟩
def fileOf (pool : Array CpInfo) (this : Nat) (attrs : Array Attribute := #[]) (ms : Array MethodInfo := #[]) (fl : Nat := 33) (sup : Nat := 0) (ifs : Array Nat := #[]) (fds : Array FieldInfo := #[]) : ClassFile where
  minorVersion := 0
  majorVersion := 65
  constantPool := pool
  accessFlags := fl
  thisClass := this
  superClass := sup
  interfaces := ifs
  fields := fds
  methods := ms
  attributes := attrs
def plain (name : String) (sup : Option ClassId) : Class where
  name := name
  kind := .ordinary
  loader := none
  accessFlags := 33
  super := sup
  interfaces := #[]
  cf := none
  fields := #[]
  methods := #[]
  instanceTypes := #[]
  staticTypes := #[]
  resolved := #[]
  callSites := []
  init := .initialized
  statics := none
  mirror := none

def pool0 : Array CpInfo := pool [(5, u "<init>"), (0, u "()V"), (1, .class_ 10), (1, u "java/lang/Object")] 113

def k0c0 : Code := { maxStack := 0, maxLocals := 1, code := object_method_1_code, exceptionTable := #[], attributes := #[] }
def k0m0 : Method := { name := "<init>", desc := "()V", sig := { parameters := [], returnType := none }, accessFlags := 1, code := some k0c0 }
/-- java/lang/Object -/
def k0 : Class := { plain "java/lang/Object" none with
  accessFlags := 33
  interfaces := #[]
  cf := some (fileOf pool0 8 #[] #[{ accessFlags := 1, nameIndex := 5, descriptorIndex := 6, attributes := #[] }] 33 0 #[] #[])
  fields := #[]
  methods := #[k0m0]
  instanceTypes := #[]
  staticTypes := #[]
  resolved := Array.replicate 124 none
  statics := none }

def pool1 : Array CpInfo := pool [(2, .class_ 4), (1, u "java/lang/Object"), (0, u "<init>"), (0, u "()V"), (0, .integer 2147483647), (0, .class_ 9), (0, u "com/example/positano/positano/Postings"), (0, .integer 2147483639), (0, .methodref 12 13), (0, .class_ 14), (0, .nameAndType 15 16), (0, u "java/lang/Math"), (0, u "min"), (0, u "(II)I"), (0, .long 18446744073709551615), (1, .integer 1073741824), (0, .methodref 8 21), (0, .nameAndType 5 22), (0, u "(II)V"), (0, .methodref 8 24), (0, .nameAndType 25 26), (0, u "add"), (0, u "([JI)V"), (0, .methodref 8 28), (0, .nameAndType 29 30), (0, u "first"), (0, u "(J)I"), (0, .methodref 8 32), (0, .nameAndType 33 34), (0, u "next"), (0, u "(I)I"), (0, .methodref 8 36), (0, .nameAndType 37 34), (0, u "entry"), (2, .integer 2147483648), (0, .class_ 42), (0, u "com/example/positano/positano/PostingsNextPinLaw"), (2, u "law"), (0, u "(JJIIII)Z")] 3

def k1m0 : Method := { name := "<init>", desc := "()V", sig := { parameters := [], returnType := none }, accessFlags := 2, code := none }
def k1c1 : Code := { maxStack := 6, maxLocals := 26, code := code, exceptionTable := #[], attributes := #[] }
def k1m1 : Method := { name := "law", desc := "(JJIIII)Z", sig := { parameters := [.long, .long, .int, .int, .int, .int], returnType := some .boolean }, accessFlags := 9, code := some k1c1 }
/-- com/example/positano/positano/PostingsNextPinLaw -/
def k1 : Class := { plain "com/example/positano/positano/PostingsNextPinLaw" (some 0) with
  accessFlags := 49
  interfaces := #[]
  cf := some (fileOf pool1 41 #[] #[{ accessFlags := 2, nameIndex := 5, descriptorIndex := 6, attributes := #[] }, { accessFlags := 9, nameIndex := 45, descriptorIndex := 46, attributes := #[] }] 49 2 #[] #[])
  fields := #[]
  methods := #[k1m0, k1m1]
  instanceTypes := #[]
  staticTypes := #[]
  resolved := Array.replicate 50 none
  statics := none }

def pool2 : Array CpInfo := pool [(1, .class_ 2), (0, u "java/lang/Math"), (1, .class_ 6), (1, u "java/lang/Object"), (0, u "<init>"), (0, u "()V"), (89, .class_ 100), (1, u "java/lang/Math$RandomNumberGeneratorHolder"), (71, u "negativeZeroFloatBits"), (0, u "J"), (2, u "negativeZeroDoubleBits"), (24, u "min"), (43, u "$assertionsDisabled"), (0, u "Z"), (88, u "(II)I"), (2, u "twoToTheDoubleScaleDown"), (0, u "D"), (4, u "twoToTheDoubleScaleUp"), (9, u "E"), (3, u "PI"), (2, u "TAU"), (2, u "DEGREES_TO_RADIANS"), (0, u "RADIANS_TO_DEGREES")] 94

def k2m0 : Method := { name := "<init>", desc := "()V", sig := { parameters := [], returnType := none }, accessFlags := 2, code := none }
def k2c1 : Code := { maxStack := 2, maxLocals := 2, code := jdk_29_method_69_code, exceptionTable := #[], attributes := #[] }
def k2m1 : Method := { name := "min", desc := "(II)I", sig := { parameters := [.int, .int], returnType := some .int }, accessFlags := 9, code := some k2c1 }
/-- java/lang/Math -/
def k2 : Class := { plain "java/lang/Math" (some 0) with
  accessFlags := 49
  interfaces := #[]
  cf := some (fileOf pool2 1 #[.nestMembers #[98]] #[{ accessFlags := 2, nameIndex := 7, descriptorIndex := 8, attributes := #[] }, { accessFlags := 9, nameIndex := 201, descriptorIndex := 335, attributes := #[] }] 49 4 #[] #[{ accessFlags := 25, nameIndex := 354, descriptorIndex := 339, attributes := #[] }, { accessFlags := 25, nameIndex := 358, descriptorIndex := 339, attributes := #[] }, { accessFlags := 25, nameIndex := 361, descriptorIndex := 339, attributes := #[] }, { accessFlags := 26, nameIndex := 364, descriptorIndex := 339, attributes := #[] }, { accessFlags := 26, nameIndex := 365, descriptorIndex := 339, attributes := #[] }, { accessFlags := 26, nameIndex := 172, descriptorIndex := 173, attributes := #[] }, { accessFlags := 26, nameIndex := 176, descriptorIndex := 173, attributes := #[] }, { accessFlags := 8, nameIndex := 344, descriptorIndex := 339, attributes := #[] }, { accessFlags := 8, nameIndex := 338, descriptorIndex := 339, attributes := #[] }, { accessFlags := 4120, nameIndex := 245, descriptorIndex := 246, attributes := #[] }])
  fields := #[{ name := "E", type := .double, accessFlags := 25, slot := 0, constantValue := 0 }, { name := "PI", type := .double, accessFlags := 25, slot := 1, constantValue := 0 }, { name := "TAU", type := .double, accessFlags := 25, slot := 2, constantValue := 0 }, { name := "DEGREES_TO_RADIANS", type := .double, accessFlags := 26, slot := 3, constantValue := 0 }, { name := "RADIANS_TO_DEGREES", type := .double, accessFlags := 26, slot := 4, constantValue := 0 }, { name := "negativeZeroFloatBits", type := .long, accessFlags := 26, slot := 5, constantValue := 0 }, { name := "negativeZeroDoubleBits", type := .long, accessFlags := 26, slot := 6, constantValue := 0 }, { name := "twoToTheDoubleScaleUp", type := .double, accessFlags := 8, slot := 7, constantValue := 0 }, { name := "twoToTheDoubleScaleDown", type := .double, accessFlags := 8, slot := 8, constantValue := 0 }, { name := "$assertionsDisabled", type := .boolean, accessFlags := 4120, slot := 9, constantValue := 0 }]
  methods := #[k2m0, k2m1]
  instanceTypes := #[]
  staticTypes := #[.double, .double, .double, .double, .double, .long, .long, .double, .double, .boolean]
  resolved := Array.replicate 460 none
  statics := none }

def pool3 : Array CpInfo := pool [(3, .class_ 4), (0, u "com/example/positano/positano/Postings"), (4, u "<init>"), (0, u "(II)V"), (0, .methodref 12 13), (0, .class_ 14), (0, .nameAndType 9 15), (0, u "java/lang/Object"), (0, u "()V"), (0, .fieldref 3 17), (0, .nameAndType 18 19), (0, u "keys"), (0, u "[J"), (0, .methodref 3 21), (0, .nameAndType 22 23), (0, u "emptyHeads"), (0, u "(I)[I"), (0, .fieldref 3 25), (0, .nameAndType 26 27), (0, u "heads"), (0, u "[I"), (0, .fieldref 3 29), (0, .nameAndType 30 27), (0, u "entries"), (0, .fieldref 3 32), (0, .nameAndType 33 27), (0, u "before"), (0, .fieldref 3 35), (0, .nameAndType 36 37), (0, u "maxPostings"), (0, u "I"), (0, .methodref 3 39), (0, .nameAndType 40 41), (0, u "keysHeld"), (0, u "(I)I"), (0, .fieldref 3 43), (0, .nameAndType 44 37), (0, u "maxKeys"), (0, .methodref 3 46), (0, .nameAndType 47 48), (0, u "makeRoom"), (0, u "(I)V"), (0, .methodref 3 50), (0, .nameAndType 51 52), (0, u "slot"), (0, u "(J)I"), (0, .methodref 3 54), (0, .nameAndType 55 41), (0, u "alone"), (0, .fieldref 3 57), (0, .nameAndType 58 37), (0, u "keyCount"), (0, .fieldref 3 60), (0, .nameAndType 61 37), (0, u "kept"), (0, .fieldref 3 63), (0, .nameAndType 64 37), (0, u "count"), (13, .long 2), (11, .class_ 92), (1, u "java/util/Arrays"), (2, .long 11400714819323198485), (1, .methodref 90 98), (0, .nameAndType 99 100), (0, u "fill"), (0, u "([II)V"), (0, u "NONE"), (2, u "MAX_POSTINGS"), (0, u "MAX_SLOTS"), (0, u "SPREAD"), (0, u "J"), (0, u "FIRST_LENGTH"), (3, u "add"), (0, u "([JI)V"), (2, u "first"), (0, u "next"), (0, u "entry")] 20

def k3m0 : Method := { name := "<init>", desc := "()V", sig := { parameters := [], returnType := none }, accessFlags := 0, code := none }
def k3c1 : Code := { maxStack := 2, maxLocals := 3, code := prog_11_method_2_code, exceptionTable := #[], attributes := #[] }
def k3m1 : Method := { name := "<init>", desc := "(II)V", sig := { parameters := [.int, .int], returnType := none }, accessFlags := 0, code := some k3c1 }
def k3c2 : Code := { maxStack := 4, maxLocals := 9, code := prog_11_method_3_code, exceptionTable := #[], attributes := #[] }
def k3m2 : Method := { name := "add", desc := "([JI)V", sig := { parameters := [(.array .long), .int], returnType := none }, accessFlags := 0, code := some k3c2 }
def k3c3 : Code := { maxStack := 4, maxLocals := 4, code := prog_11_method_4_code, exceptionTable := #[], attributes := #[] }
def k3m3 : Method := { name := "first", desc := "(J)I", sig := { parameters := [.long], returnType := some .int }, accessFlags := 0, code := some k3c3 }
def k3c4 : Code := { maxStack := 2, maxLocals := 2, code := prog_11_method_5_code, exceptionTable := #[], attributes := #[] }
def k3m4 : Method := { name := "next", desc := "(I)I", sig := { parameters := [.int], returnType := some .int }, accessFlags := 0, code := some k3c4 }
def k3c5 : Code := { maxStack := 2, maxLocals := 2, code := prog_11_method_6_code, exceptionTable := #[], attributes := #[] }
def k3m5 : Method := { name := "entry", desc := "(I)I", sig := { parameters := [.int], returnType := some .int }, accessFlags := 0, code := some k3c5 }
def k3c6 : Code := { maxStack := 2, maxLocals := 1, code := prog_11_method_7_code, exceptionTable := #[], attributes := #[] }
def k3m6 : Method := { name := "alone", desc := "(I)I", sig := { parameters := [.int], returnType := some .int }, accessFlags := 10, code := some k3c6 }
def k3c7 : Code := { maxStack := 6, maxLocals := 6, code := prog_11_method_8_code, exceptionTable := #[], attributes := #[] }
def k3m7 : Method := { name := "makeRoom", desc := "(I)V", sig := { parameters := [.int], returnType := none }, accessFlags := 2, code := some k3c7 }
def k3c8 : Code := { maxStack := 2, maxLocals := 1, code := prog_11_method_9_code, exceptionTable := #[], attributes := #[] }
def k3m8 : Method := { name := "keysHeld", desc := "(I)I", sig := { parameters := [.int], returnType := some .int }, accessFlags := 10, code := some k3c8 }
def k3c9 : Code := { maxStack := 4, maxLocals := 5, code := prog_11_method_10_code, exceptionTable := #[], attributes := #[] }
def k3m9 : Method := { name := "slot", desc := "(J)I", sig := { parameters := [.long], returnType := some .int }, accessFlags := 2, code := some k3c9 }
def k3c10 : Code := { maxStack := 2, maxLocals := 2, code := prog_11_method_12_code, exceptionTable := #[], attributes := #[] }
def k3m10 : Method := { name := "emptyHeads", desc := "(I)[I", sig := { parameters := [.int], returnType := some (.array .int) }, accessFlags := 10, code := some k3c10 }
/-- com/example/positano/positano/Postings -/
def k3 : Class := { plain "com/example/positano/positano/Postings" (some 0) with
  accessFlags := 48
  interfaces := #[]
  cf := some (fileOf pool3 3 #[] #[{ accessFlags := 0, nameIndex := 9, descriptorIndex := 15, attributes := #[] }, { accessFlags := 0, nameIndex := 9, descriptorIndex := 10, attributes := #[] }, { accessFlags := 0, nameIndex := 112, descriptorIndex := 113, attributes := #[] }, { accessFlags := 0, nameIndex := 116, descriptorIndex := 52, attributes := #[] }, { accessFlags := 0, nameIndex := 117, descriptorIndex := 41, attributes := #[] }, { accessFlags := 0, nameIndex := 118, descriptorIndex := 41, attributes := #[] }, { accessFlags := 10, nameIndex := 55, descriptorIndex := 41, attributes := #[] }, { accessFlags := 2, nameIndex := 47, descriptorIndex := 48, attributes := #[] }, { accessFlags := 10, nameIndex := 40, descriptorIndex := 41, attributes := #[] }, { accessFlags := 2, nameIndex := 51, descriptorIndex := 52, attributes := #[] }, { accessFlags := 10, nameIndex := 22, descriptorIndex := 23, attributes := #[] }] 48 12 #[] #[{ accessFlags := 24, nameIndex := 101, descriptorIndex := 37, attributes := #[] }, { accessFlags := 24, nameIndex := 104, descriptorIndex := 37, attributes := #[] }, { accessFlags := 24, nameIndex := 105, descriptorIndex := 37, attributes := #[] }, { accessFlags := 26, nameIndex := 106, descriptorIndex := 107, attributes := #[] }, { accessFlags := 26, nameIndex := 108, descriptorIndex := 37, attributes := #[] }, { accessFlags := 18, nameIndex := 36, descriptorIndex := 37, attributes := #[] }, { accessFlags := 18, nameIndex := 44, descriptorIndex := 37, attributes := #[] }, { accessFlags := 2, nameIndex := 18, descriptorIndex := 19, attributes := #[] }, { accessFlags := 2, nameIndex := 26, descriptorIndex := 27, attributes := #[] }, { accessFlags := 2, nameIndex := 58, descriptorIndex := 37, attributes := #[] }, { accessFlags := 2, nameIndex := 30, descriptorIndex := 27, attributes := #[] }, { accessFlags := 2, nameIndex := 33, descriptorIndex := 27, attributes := #[] }, { accessFlags := 2, nameIndex := 61, descriptorIndex := 37, attributes := #[] }, { accessFlags := 2, nameIndex := 64, descriptorIndex := 37, attributes := #[] }])
  fields := #[{ name := "NONE", type := .int, accessFlags := 24, slot := 0, constantValue := 0 }, { name := "MAX_POSTINGS", type := .int, accessFlags := 24, slot := 1, constantValue := 0 }, { name := "MAX_SLOTS", type := .int, accessFlags := 24, slot := 2, constantValue := 0 }, { name := "SPREAD", type := .long, accessFlags := 26, slot := 3, constantValue := 0 }, { name := "FIRST_LENGTH", type := .int, accessFlags := 26, slot := 4, constantValue := 0 }, { name := "maxPostings", type := .int, accessFlags := 18, slot := 0, constantValue := 0 }, { name := "maxKeys", type := .int, accessFlags := 18, slot := 1, constantValue := 0 }, { name := "keys", type := (.array .long), accessFlags := 2, slot := 2, constantValue := 0 }, { name := "heads", type := (.array .int), accessFlags := 2, slot := 3, constantValue := 0 }, { name := "keyCount", type := .int, accessFlags := 2, slot := 4, constantValue := 0 }, { name := "entries", type := (.array .int), accessFlags := 2, slot := 5, constantValue := 0 }, { name := "before", type := (.array .int), accessFlags := 2, slot := 6, constantValue := 0 }, { name := "kept", type := .int, accessFlags := 2, slot := 7, constantValue := 0 }, { name := "count", type := .int, accessFlags := 2, slot := 8, constantValue := 0 }]
  methods := #[k3m0, k3m1, k3m2, k3m3, k3m4, k3m5, k3m6, k3m7, k3m8, k3m9, k3m10]
  instanceTypes := #[.int, .int, (.array .long), (.array .int), .int, (.array .int), (.array .int), .int, .int]
  staticTypes := #[.int, .int, .int, .long, .int]
  resolved := Array.replicate 139 none
  statics := none }

def pool4 : Array CpInfo := pool [(2, .class_ 4), (1, u "java/lang/Object"), (0, u "<init>"), (0, u "()V"), (7, .class_ 16), (1, u "java/util/Arrays"), (57, .class_ 76), (1, u "java/util/Arrays$NaturalOrder"), (36, .class_ 115), (1, u "java/util/Arrays$LegacyMergeSort"), (1, u "Z"), (257, .class_ 376), (0, u "java/util/Arrays$ArrayList"), (68, u "$assertionsDisabled"), (269, u "MIN_ARRAY_SORT_GRAN"), (0, u "I"), (2, u "INSERTIONSORT_THRESHOLD"), (120, u "fill"), (4, u "([II)V"), (129, .class_ 976), (0, u "java/util/Arrays$ArrayItr")] 52

def k4m0 : Method := { name := "<init>", desc := "()V", sig := { parameters := [], returnType := none }, accessFlags := 2, code := none }
def k4c1 : Code := { maxStack := 3, maxLocals := 4, code := jdk_65_method_103_code, exceptionTable := #[], attributes := #[] }
def k4m1 : Method := { name := "fill", desc := "([II)V", sig := { parameters := [(.array .int), .int], returnType := none }, accessFlags := 9, code := some k4c1 }
/-- java/util/Arrays -/
def k4 : Class := { plain "java/util/Arrays" (some 0) with
  accessFlags := 49
  interfaces := #[]
  cf := some (fileOf pool4 14 #[.nestMembers #[975, 375, 113, 74]] #[{ accessFlags := 2, nameIndex := 5, descriptorIndex := 6, attributes := #[] }, { accessFlags := 9, nameIndex := 840, descriptorIndex := 845, attributes := #[] }] 49 2 #[] #[{ accessFlags := 26, nameIndex := 715, descriptorIndex := 716, attributes := #[] }, { accessFlags := 26, nameIndex := 719, descriptorIndex := 716, attributes := #[] }, { accessFlags := 4120, nameIndex := 445, descriptorIndex := 117, attributes := #[] }])
  fields := #[{ name := "MIN_ARRAY_SORT_GRAN", type := .int, accessFlags := 26, slot := 0, constantValue := 0 }, { name := "INSERTIONSORT_THRESHOLD", type := .int, accessFlags := 26, slot := 1, constantValue := 0 }, { name := "$assertionsDisabled", type := .boolean, accessFlags := 4120, slot := 2, constantValue := 0 }]
  methods := #[k4m0, k4m1]
  instanceTypes := #[]
  staticTypes := #[.int, .int, .boolean]
  resolved := Array.replicate 1029 none
  statics := none }

def pool5 : Array CpInfo := pool [(1, u "java/lang/Cloneable"), (0, .class_ 1), (0, u "java/lang/Object"), (0, .class_ 3)] 3

/-- java/lang/Cloneable -/
def k5 : Class := { plain "java/lang/Cloneable" (some 0) with
  accessFlags := 1537
  interfaces := #[]
  cf := some (fileOf pool5 2 #[] #[] 1537 4 #[] #[])
  fields := #[]
  methods := #[]
  instanceTypes := #[]
  staticTypes := #[]
  resolved := Array.replicate 8 none
  statics := none }

def pool6 : Array CpInfo := pool [(1, u "java/io/Serializable"), (0, .class_ 1), (0, u "java/lang/Object"), (0, .class_ 3)] 3

/-- java/io/Serializable -/
def k6 : Class := { plain "java/io/Serializable" (some 0) with
  accessFlags := 1537
  interfaces := #[]
  cf := some (fileOf pool6 2 #[] #[] 1537 4 #[] #[])
  fields := #[]
  methods := #[]
  instanceTypes := #[]
  staticTypes := #[]
  resolved := Array.replicate 8 none
  statics := none }

/-- the primitive byte -/
def k7 : Class := { plain "byte" none with kind := .primitive 'B', accessFlags := 0x411 }
/-- [B -/
def k8 : Class := { plain "[B" (some 0) with kind := .array 7 .byte, interfaces := #[5, 6], accessFlags := 1041 }

/-- the primitive int -/
def k9 : Class := { plain "int" none with kind := .primitive 'I', accessFlags := 0x411 }
/-- [I -/
def k10 : Class := { plain "[I" (some 0) with kind := .array 9 .int, interfaces := #[5, 6], accessFlags := 1041 }

/-- the primitive long -/
def k11 : Class := { plain "long" none with kind := .primitive 'J', accessFlags := 0x411 }
/-- [J -/
def k12 : Class := { plain "[J" (some 0) with kind := .array 11 .long, interfaces := #[5, 6], accessFlags := 1041 }

def heap : Heap := #[]
def classes : Array Class := #[k0, k1, k2, k3, k4, k5, k6, k7, k8, k9, k10, k11, k12]
def interned : List (Array UInt16 × Addr) := []
def slotsUsed : Nat := 0
def theMethod : MethodId := ⟨1, 1⟩
def args0 : Array Value := #[.long 5, .long 300, .int 7, .int 2, .int 1, .int 8]
def aboutOver (below : List Frame) : State where
  vm := { classes := classes, interned := interned.toArray }
  heap := heap
  slotsUsed := slotsUsed
  threads := #[{ frames := .invoking theMethod args0 :: below }]
def below0 : List Frame := [.native { method := ⟨0, 0⟩, args := #[] }]
def about1 : State := aboutOver below0
def p0 : Program := .bare "" "" ""
def e0 : Env := launch0.env 0 0 0
theorem w_frames : about1.frames = Frame.invoking theMethod args0 :: below0 := rfl
set_option maxRecDepth 65536 in
theorem w_args : argsFit about1.vm theMethod args0 = true := by decide +kernel
set_option maxRecDepth 65536 in
theorem w_heap : heapFits about1 = true := by decide +kernel
set_option maxRecDepth 65536 in
theorem w_runnable : about1.curStatus? = some .runnable := by decide +kernel
set_option maxRecDepth 65536 in
theorem w_alone : about1.alone = true := by decide +kernel
set_option maxRecDepth 65536 in
theorem w_named : about1.methodNamed? x = some theMethod := by decide +kernel
set_option maxRecDepth 65536 in
theorem w_hears : about1.hears theMethod below0 = true := by decide +kernel
set_option maxRecDepth 65536 in
theorem w_ripe : about1.ripe theMethod args0 below0 = true := by decide +kernel
theorem w_running : about1.status = .running := rfl
set_option maxRecDepth 65536 in
theorem w_room : about1.hasRoom e0.platform room_1 = true :=
  launch0.hasRoom_least _ room_1 (by decide +kernel) (by decide +kernel) (by decide +kernel) (by decide +kernel) (by decide +kernel) (by decide +kernel)
theorem allAtoms_all (ts : List Jvm.Cond) (a : Array Jvm.Value) (st : Jvm.State) : (allAtoms ts).before a st = ts.all (fun c => c.before a st) := by
  induction ts with
  | nil => rfl
  | cons c t ih =>
    show (Jvm.Cond.and c (allAtoms t)).before a st = _
    rw [Jvm.Cond.before_and, ih, List.all_cons]
def words1 : List Jvm.Cond := Jvm.Cond.code x code maxLocals ret :: tables_1
/-- a 'code' word, met by the world's own term for the bytes: nothing is compared byte by byte -/
theorem code_word {y : MethodName} {bytes : ByteArray} {mx : Nat} {rt : Option FieldType} {a : Array Value} {s : State} {m : MethodId} {meth : Method} {c : Code} (h1 : s.methodNamed? y = some m) (h2 : s.vm.method? m = some meth) (h3 : meth.code = some c) (h4 : c.code = bytes)
    (h5 : (c.maxLocals == mx && c.exceptionTable.isEmpty && decide (c.maxStack ≤ mostOperands) && decide (meth.sig.returnType = rt) && !meth.locks && decide (parseMethodDescriptor y.desc = some meth.sig)) = true) : (Jvm.Cond.code y bytes mx rt).before a s = true := by
  simp only [Bool.and_eq_true, beq_iff_eq, Bool.not_eq_true', decide_eq_true_eq] at h5
  obtain ⟨⟨⟨⟨⟨g1, g2⟩, g3⟩, g4⟩, g5⟩, g6⟩ := h5
  simp [Cond.before, Cond.holds, Cond.value, h1, h2, h3, h4, g1, g2, g3, g4, g5, g6]
def isCode : Jvm.Cond → Bool
  | .code _ _ _ _ => true
  | _ => false
theorem all_split {L : List Jvm.Cond} {P : Jvm.Cond → Bool} (h1 : L.all (fun c => isCode c || P c) = true) (h2 : ∀ c ∈ L.filter isCode, P c = true) : L.all P = true := by
  refine List.all_eq_true.mpr fun c hc => ?_
  have h := List.all_eq_true.mp h1 c hc
  rcases Bool.eq_false_or_eq_true (isCode c) with hi | hi
  · exact h2 c (List.mem_filter.mpr ⟨hc, hi⟩)
  · simpa [hi] using h
set_option maxRecDepth 65536 in
theorem w_c0 : (Jvm.Cond.code x code maxLocals ret).before args0 about1 = true := code_word (m := ⟨1, 1⟩) (meth := k1m1) (c := k1c1) (by decide +kernel) rfl rfl rfl (by decide +kernel)
set_option maxRecDepth 65536 in
theorem w_c1 : (Jvm.Cond.code ({ cls := "java/lang/Math", name := "min", desc := "(II)I" } : Jvm.MethodName) jdk_29_method_69_code (2 : Nat) (Option.some Jvm.ClassFile.FieldType.int)).before args0 about1 = true := code_word (m := ⟨2, 1⟩) (meth := k2m1) (c := k2c1) (by decide +kernel) rfl rfl rfl (by decide +kernel)
set_option maxRecDepth 65536 in
theorem w_c2 : (Jvm.Cond.code ({ cls := "com/example/positano/positano/Postings", name := "<init>", desc := "(II)V" } : Jvm.MethodName) prog_11_method_2_code (3 : Nat) (Option.none : Option Jvm.ClassFile.FieldType)).before args0 about1 = true := code_word (m := ⟨3, 1⟩) (meth := k3m1) (c := k3c1) (by decide +kernel) rfl rfl rfl (by decide +kernel)
set_option maxRecDepth 65536 in
theorem w_c3 : (Jvm.Cond.code ({ cls := "java/lang/Object", name := "<init>", desc := "()V" } : Jvm.MethodName) object_method_1_code (1 : Nat) (Option.none : Option Jvm.ClassFile.FieldType)).before args0 about1 = true := code_word (m := ⟨0, 0⟩) (meth := k0m0) (c := k0c0) (by decide +kernel) rfl rfl rfl (by decide +kernel)
set_option maxRecDepth 65536 in
theorem w_c4 : (Jvm.Cond.code ({ cls := "com/example/positano/positano/Postings", name := "emptyHeads", desc := "(I)[I" } : Jvm.MethodName) prog_11_method_12_code (2 : Nat) (Option.some (Jvm.ClassFile.FieldType.array Jvm.ClassFile.FieldType.int))).before args0 about1 = true := code_word (m := ⟨3, 10⟩) (meth := k3m10) (c := k3c10) (by decide +kernel) rfl rfl rfl (by decide +kernel)
set_option maxRecDepth 65536 in
theorem w_c5 : (Jvm.Cond.code ({ cls := "java/util/Arrays", name := "fill", desc := "([II)V" } : Jvm.MethodName) jdk_65_method_103_code (4 : Nat) (Option.none : Option Jvm.ClassFile.FieldType)).before args0 about1 = true := code_word (m := ⟨4, 1⟩) (meth := k4m1) (c := k4c1) (by decide +kernel) rfl rfl rfl (by decide +kernel)
set_option maxRecDepth 65536 in
theorem w_c6 : (Jvm.Cond.code ({ cls := "com/example/positano/positano/Postings", name := "keysHeld", desc := "(I)I" } : Jvm.MethodName) prog_11_method_9_code (1 : Nat) (Option.some Jvm.ClassFile.FieldType.int)).before args0 about1 = true := code_word (m := ⟨3, 8⟩) (meth := k3m8) (c := k3c8) (by decide +kernel) rfl rfl rfl (by decide +kernel)
set_option maxRecDepth 65536 in
theorem w_c7 : (Jvm.Cond.code ({ cls := "com/example/positano/positano/Postings", name := "add", desc := "([JI)V" } : Jvm.MethodName) prog_11_method_3_code (9 : Nat) (Option.none : Option Jvm.ClassFile.FieldType)).before args0 about1 = true := code_word (m := ⟨3, 2⟩) (meth := k3m2) (c := k3c2) (by decide +kernel) rfl rfl rfl (by decide +kernel)
set_option maxRecDepth 65536 in
theorem w_c8 : (Jvm.Cond.code ({ cls := "com/example/positano/positano/Postings", name := "makeRoom", desc := "(I)V" } : Jvm.MethodName) prog_11_method_8_code (6 : Nat) (Option.none : Option Jvm.ClassFile.FieldType)).before args0 about1 = true := code_word (m := ⟨3, 7⟩) (meth := k3m7) (c := k3c7) (by decide +kernel) rfl rfl rfl (by decide +kernel)
set_option maxRecDepth 65536 in
theorem w_c9 : (Jvm.Cond.code ({ cls := "com/example/positano/positano/Postings", name := "slot", desc := "(J)I" } : Jvm.MethodName) prog_11_method_10_code (5 : Nat) (Option.some Jvm.ClassFile.FieldType.int)).before args0 about1 = true := code_word (m := ⟨3, 9⟩) (meth := k3m9) (c := k3c9) (by decide +kernel) rfl rfl rfl (by decide +kernel)
set_option maxRecDepth 65536 in
theorem w_c10 : (Jvm.Cond.code ({ cls := "com/example/positano/positano/Postings", name := "alone", desc := "(I)I" } : Jvm.MethodName) prog_11_method_7_code (1 : Nat) (Option.some Jvm.ClassFile.FieldType.int)).before args0 about1 = true := code_word (m := ⟨3, 6⟩) (meth := k3m6) (c := k3c6) (by decide +kernel) rfl rfl rfl (by decide +kernel)
set_option maxRecDepth 65536 in
theorem w_c11 : (Jvm.Cond.code ({ cls := "com/example/positano/positano/Postings", name := "first", desc := "(J)I" } : Jvm.MethodName) prog_11_method_4_code (4 : Nat) (Option.some Jvm.ClassFile.FieldType.int)).before args0 about1 = true := code_word (m := ⟨3, 3⟩) (meth := k3m3) (c := k3c3) (by decide +kernel) rfl rfl rfl (by decide +kernel)
set_option maxRecDepth 65536 in
theorem w_c12 : (Jvm.Cond.code ({ cls := "com/example/positano/positano/Postings", name := "next", desc := "(I)I" } : Jvm.MethodName) prog_11_method_5_code (2 : Nat) (Option.some Jvm.ClassFile.FieldType.int)).before args0 about1 = true := code_word (m := ⟨3, 4⟩) (meth := k3m4) (c := k3c4) (by decide +kernel) rfl rfl rfl (by decide +kernel)
set_option maxRecDepth 65536 in
theorem w_c13 : (Jvm.Cond.code ({ cls := "com/example/positano/positano/Postings", name := "entry", desc := "(I)I" } : Jvm.MethodName) prog_11_method_6_code (2 : Nat) (Option.some Jvm.ClassFile.FieldType.int)).before args0 about1 = true := code_word (m := ⟨3, 5⟩) (meth := k3m5) (c := k3c5) (by decide +kernel) rfl rfl rfl (by decide +kernel)
def codes1 : List Jvm.Cond := [Jvm.Cond.code x code maxLocals ret, Jvm.Cond.code ({ cls := "java/lang/Math", name := "min", desc := "(II)I" } : Jvm.MethodName) jdk_29_method_69_code (2 : Nat) (Option.some Jvm.ClassFile.FieldType.int), Jvm.Cond.code ({ cls := "com/example/positano/positano/Postings", name := "<init>", desc := "(II)V" } : Jvm.MethodName) prog_11_method_2_code (3 : Nat) (Option.none : Option Jvm.ClassFile.FieldType), Jvm.Cond.code ({ cls := "java/lang/Object", name := "<init>", desc := "()V" } : Jvm.MethodName) object_method_1_code (1 : Nat) (Option.none : Option Jvm.ClassFile.FieldType), Jvm.Cond.code ({ cls := "com/example/positano/positano/Postings", name := "emptyHeads", desc := "(I)[I" } : Jvm.MethodName) prog_11_method_12_code (2 : Nat) (Option.some (Jvm.ClassFile.FieldType.array Jvm.ClassFile.FieldType.int)), Jvm.Cond.code ({ cls := "java/util/Arrays", name := "fill", desc := "([II)V" } : Jvm.MethodName) jdk_65_method_103_code (4 : Nat) (Option.none : Option Jvm.ClassFile.FieldType), Jvm.Cond.code ({ cls := "com/example/positano/positano/Postings", name := "keysHeld", desc := "(I)I" } : Jvm.MethodName) prog_11_method_9_code (1 : Nat) (Option.some Jvm.ClassFile.FieldType.int), Jvm.Cond.code ({ cls := "com/example/positano/positano/Postings", name := "add", desc := "([JI)V" } : Jvm.MethodName) prog_11_method_3_code (9 : Nat) (Option.none : Option Jvm.ClassFile.FieldType), Jvm.Cond.code ({ cls := "com/example/positano/positano/Postings", name := "makeRoom", desc := "(I)V" } : Jvm.MethodName) prog_11_method_8_code (6 : Nat) (Option.none : Option Jvm.ClassFile.FieldType), Jvm.Cond.code ({ cls := "com/example/positano/positano/Postings", name := "slot", desc := "(J)I" } : Jvm.MethodName) prog_11_method_10_code (5 : Nat) (Option.some Jvm.ClassFile.FieldType.int), Jvm.Cond.code ({ cls := "com/example/positano/positano/Postings", name := "alone", desc := "(I)I" } : Jvm.MethodName) prog_11_method_7_code (1 : Nat) (Option.some Jvm.ClassFile.FieldType.int), Jvm.Cond.code ({ cls := "com/example/positano/positano/Postings", name := "first", desc := "(J)I" } : Jvm.MethodName) prog_11_method_4_code (4 : Nat) (Option.some Jvm.ClassFile.FieldType.int), Jvm.Cond.code ({ cls := "com/example/positano/positano/Postings", name := "next", desc := "(I)I" } : Jvm.MethodName) prog_11_method_5_code (2 : Nat) (Option.some Jvm.ClassFile.FieldType.int), Jvm.Cond.code ({ cls := "com/example/positano/positano/Postings", name := "entry", desc := "(I)I" } : Jvm.MethodName) prog_11_method_6_code (2 : Nat) (Option.some Jvm.ClassFile.FieldType.int)]
set_option maxRecDepth 65536 in
theorem codes_eq : words1.filter isCode = codes1 := rfl
theorem w_codes : ∀ c ∈ words1.filter isCode, c.before args0 about1 = true := by
  rw [codes_eq]
  intro c hc
  simp only [codes1, List.mem_cons, List.not_mem_nil, or_false] at hc
  rcases hc with rfl | rfl | rfl | rfl | rfl | rfl | rfl | rfl | rfl | rfl | rfl | rfl | rfl | rfl
  · exact w_c0
  · exact w_c1
  · exact w_c2
  · exact w_c3
  · exact w_c4
  · exact w_c5
  · exact w_c6
  · exact w_c7
  · exact w_c8
  · exact w_c9
  · exact w_c10
  · exact w_c11
  · exact w_c12
  · exact w_c13
set_option maxRecDepth 65536 in
theorem w_t1 : (words1.take 24).all (fun c => isCode c || c.before args0 about1) = true := by decide +kernel
set_option maxRecDepth 65536 in
theorem w_t2 : ((words1.drop 24).take 24).all (fun c => isCode c || c.before args0 about1) = true := by decide +kernel
set_option maxRecDepth 65536 in
theorem w_t3 : (((words1.drop 24).drop 24).take 24).all (fun c => isCode c || c.before args0 about1) = true := by decide +kernel
set_option maxRecDepth 65536 in
theorem w_t4 : (((words1.drop 24).drop 24).drop 24).all (fun c => isCode c || c.before args0 about1) = true := by decide +kernel
theorem w_tables : (allAtoms (Jvm.Cond.code x code maxLocals ret :: tables_1)).before args0 about1 = true := by
  rw [allAtoms_all]
  show words1.all (fun c => c.before args0 about1) = true
  refine all_split ?_ w_codes
  rw [← List.take_append_drop 24 words1, List.all_append, w_t1, ← List.take_append_drop 24 (words1.drop 24), List.all_append, w_t2, ← List.take_append_drop 24 ((words1.drop 24).drop 24), List.all_append, w_t3, w_t4]
  rfl
set_option maxRecDepth 65536 in
theorem w_case : (Jvm.Cond.and given_1 narrow_1).before args0 about1 = true := by decide +kernel
theorem w_applies : (headSpec (Jvm.Cond.code x code maxLocals ret :: tables_1) room_1).applies x e0.platform about1 = true :=
  (Spec.applies_iff w_frames).mpr ⟨w_running, w_runnable, w_alone, w_named, w_hears, w_ripe, w_room, w_tables⟩
theorem atStart : AtStart classFile x code maxLocals ret World_1 tables_1 room_1 Calls_1 rest_1 Pre_1 launch0 p0 e0 about1 theMethod args0 below0 :=
  ⟨lists_1, trivial, launch0.admits_env _ _ _, launch0.least_env, fairChoices_fair.cas, fairChoices_fair.clock, w_frames, w_args, w_heap, w_applies, trivial, trivial, w_case⟩
end start1
theorem witness_1 : WitnessClaimed_1 := ⟨start1.p0, start1.e0, start1.about1, start1.theMethod, start1.args0, start1.below0, start1.atStart⟩
end Jvm.Pilot.@@N@@
