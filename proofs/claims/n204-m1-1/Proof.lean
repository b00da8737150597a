import JvmDerived
import JvmDerived.Pilot.@@N@@Statement
import JvmDerived.Pilot.@@N@@Code
set_option linter.unusedVariables false
set_option linter.unusedSimpArgs false
namespace Jvm.OwnKit
open Sem ClassFile Op Lib Jvm.Stand Jvm.Free Jvm.LawKit Jvm.RoadKit
/-- from here the run returns; it wrote new cells alone, and what it leaves is as Q says -/
def OGoes (p : Program) (e : Env) (s : State) (below : List Frame) (Q : Option Value → Heap → Prop) (n0 C N : Nat) (T : State) (g : JFrame) : Prop :=
  ∃ s₂ o, Steps p.tables e below (T.setTop g) s₂ ∧ s₂.status = .running ∧ Ended s₂ below o ∧ ∃ v L, o = .returned v ∧ (Fr n0 L ∧ Q v s₂.heap) ∧ FrameEnd s o s₂ L C N
/-- two addresses apart, one number up to another: kept from omega's sight -/
def Apart (a b : Nat) : Prop := a ≠ b
theorem Apart.symm {a b : Nat} (h : Apart a b) : Apart b a := Ne.symm h
def NLe (a b : Nat) : Prop := a ≤ b
theorem NLe.tr {a b c : Nat} (h : NLe a b) (k : b ≤ c) : NLe a c := Nat.le_trans h k
theorem NLe.wr {a : Nat} {h h' : Heap} {b sl : Nat} {v : Value} (q : NLe a h.size) (W : Wr h h' b sl v) : NLe a h'.size := by show a ≤ h'.size; rw [W.size]; exact q
theorem NLe.at {n a b : Nat} (g : a = b) (q : NLe n b) : NLe n a := g ▸ q
theorem Apart.new {a b n : Nat} (g : a = n) (q : b < n) : Apart b a := g ▸ Nat.ne_of_lt q
theorem Apart.fr {a b n : Nat} (q : b < n) (r : n ≤ a) : Apart b a := Nat.ne_of_lt (Nat.lt_of_lt_of_le q r)
/-- a method's contract: entered with these arguments over the heap h it returns as Q says -/
abbrev Con (l : Launch) (y : MethodName) (bytes : ByteArray) (maxL : Nat) (ret : Option FieldType) (ws : List Jvm.Cond) (rm : Room) (Z : State) (as' : Array Value) (h : Heap) (n0 : Nat) (Q : Option Value → Heap → Prop) : Prop :=
  MetFree l y (head1 (Jvm.Cond.code y bytes maxL ret :: ws) rm) (fun a U => a = as' ∧ Z.Warmed39 U.vm ∧ U.heap = h) (fun _ _ _ _ _ => True) (fun _ U o U' => ∃ v L, o = .returned v ∧ (Fr n0 L ∧ Q v U'.heap) ∧ FrameEnd U o U' L rm.cells rm.slots)
section Laws
variable {p : Program} {l : Launch} {e : Env} {R : Room} {s : State} {m : MethodId} {args : Array Value} {below : List Frame} {meth : Method} {c : Code} {T T' : State} {locs : List Loc} {cells slots : Nat} {Z : State} {h : Heap} {a0 : Array Value} {Q : Option Value → Heap → Prop} {n0 C N pc pc' : Nat} {Ls Ls' : Array Slot} {st : List Value} {g g' : JFrame}
theorem OGoes.go (k : ∀ t, Steps p.tables e below (T'.setTop g') t → Steps p.tables e below (T.setTop g) t) (h : OGoes p e s below Q n0 C N T' g') : OGoes p e s below Q n0 C N T g := by
  obtain ⟨s₂, o, h1, h2⟩ := h; exact ⟨s₂, o, k _ h1, h2⟩
/-- what opens every body's walk -/
theorem con_of {y : MethodName} {bytes : ByteArray} {maxL : Nat} {ret : Option FieldType} {ws : List Jvm.Cond} {rm : Room} {as' : Array Value} {Ls0 : Array Slot} (hn : plainFor y = true) (hef : ∀ m, entryFrame m as' maxL = mkF m 0 Ls0 [])
    (body : ∀ (p : Program) (e : Env) (s : State) (m : MethodId) (below : List Frame) (meth : Method) (c : Code) (s₁ : State), Stand p l e rm s m as' below meth c s₁ [] 0 0 → p.tables.exec = Jvm.exec → c.code = bytes → c.maxLocals = maxL → Z.Warmed39 s.vm → s.vm.findClass y.cls = some m.cls → meth.name = y.name → meth.sig.returnType = ret → meth.locks = false → s₁.heap = h → Fr n0 [] →
      OGoes p e s below Q n0 rm.cells rm.slots s₁ (mkF m 0 Ls0 [])) : Con l y bytes maxL ret ws rm Z as' h n0 Q := by
  refine MetFree.of_bodySF hn hisR ?_
  intro p e s m args below meth c s₁ Bd hml0 hP hK
  obtain ⟨rfl, hZ, hh⟩ := hP
  have e0 : s₁.heap = h := by rw [← hh, Bd.state]; rfl
  have q := body p e s m below meth c s₁ (Stand.of_body Bd) Bd.exec Bd.bytes hml0 hZ (findClass_of_methodNamed Bd.named) (name_of_methodNamed Bd.named Bd.method).1 Bd.returns Bd.notSynchronized e0 (Fr.nil n0)
  rw [hef m]
  exact q
/-- a return -/
theorem g_ret (X : Stand p l e R s m args below meth c T locs cells slots) (hx : p.tables.exec = Jvm.exec) (hlk : meth.locks = false) {w : Value} {t : FieldType} {i : Instr} (hret : meth.sig.returnType = some t) (hn : narrow t w = w)
    (hi : (i = .ireturn ∧ (t = .int ∨ t = .boolean ∨ t = .byte ∨ t = .char ∨ t = .short) ∧ ∃ z, w = .int z) ∨ (i = .lreturn ∧ t = .long ∧ ∃ z, w = .long z) ∨ (i = .dreturn ∧ t = .double ∧ ∃ z, w = .double z) ∨ (i = .freturn ∧ t = .float ∧ ∃ z, w = .float z) ∨ (i = .areturn ∧ t.isReference = true ∧ w.isRef = true))
    (hd : decode c.code pc = .ok (i, 1)) (hN : Fr n0 locs) (hc : cells ≤ C) (hs : slots ≤ N) (hQ : Q (some w) T.heap) : OGoes p e s below Q n0 C N T (mkF m pc Ls (w :: st)) := by
  obtain ⟨fs, hr, hrun, hended, hW, hsame⟩ := X.leave (v := some w) (fun z => by rw [hret] at z; cases z)
  exact ⟨_, _, retOut X hx hret hn hi hd hr, hrun, hended, _, _, rfl, ⟨hN, hQ⟩, ⟨_, rfl⟩, hW, hsame.mono hc hs⟩
theorem g_retI (X : Stand p l e R s m args below meth c T locs cells slots) (hx : p.tables.exec = Jvm.exec) (hlk : meth.locks = false) {z : Int32} (hret : meth.sig.returnType = some .int) (hd : decode c.code pc = .ok (.ireturn, 1)) (hN : Fr n0 locs) (hc : cells ≤ C) (hs : slots ≤ N) (hQ : Q (some (.int z)) T.heap) : OGoes p e s below Q n0 C N T (mkF m pc Ls (.int z :: st)) :=
  g_ret X hx hlk hret rfl (Or.inl ⟨rfl, Or.inl rfl, _, rfl⟩) hd hN hc hs hQ
theorem g_retZ (X : Stand p l e R s m args below meth c T locs cells slots) (hx : p.tables.exec = Jvm.exec) (hlk : meth.locks = false) {z : Int32} (hz : z &&& 1 = z) (hret : meth.sig.returnType = some .boolean) (hd : decode c.code pc = .ok (.ireturn, 1)) (hN : Fr n0 locs) (hc : cells ≤ C) (hs : slots ≤ N) (hQ : Q (some (.int z)) T.heap) : OGoes p e s below Q n0 C N T (mkF m pc Ls (.int z :: st)) :=
  g_ret X hx hlk hret (congrArg Value.int hz) (Or.inl ⟨rfl, Or.inr (Or.inl rfl), _, rfl⟩) hd hN hc hs hQ
theorem g_retJ (X : Stand p l e R s m args below meth c T locs cells slots) (hx : p.tables.exec = Jvm.exec) (hlk : meth.locks = false) {z : Int64} (hret : meth.sig.returnType = some .long) (hd : decode c.code pc = .ok (.lreturn, 1)) (hN : Fr n0 locs) (hc : cells ≤ C) (hs : slots ≤ N) (hQ : Q (some (.long z)) T.heap) : OGoes p e s below Q n0 C N T (mkF m pc Ls (.long z :: st)) :=
  g_ret X hx hlk hret rfl (Or.inr (Or.inl ⟨rfl, rfl, _, rfl⟩)) hd hN hc hs hQ
theorem g_retA (X : Stand p l e R s m args below meth c T locs cells slots) (hx : p.tables.exec = Jvm.exec) (hlk : meth.locks = false) {v : Value} {t : FieldType} (hret : meth.sig.returnType = some t) (ht : t.isReference = true) (hn : narrow t v = v) (hv : v.isRef = true) (hd : decode c.code pc = .ok (.areturn, 1)) (hN : Fr n0 locs) (hc : cells ≤ C) (hs : slots ≤ N) (hQ : Q (some v) T.heap) : OGoes p e s below Q n0 C N T (mkF m pc Ls (v :: st)) :=
  g_ret X hx hlk hret hn (Or.inr (Or.inr (Or.inr (Or.inr ⟨rfl, ht, hv⟩)))) hd hN hc hs hQ
theorem g_retV (X : Stand p l e R s m args below meth c T locs cells slots) (hx : p.tables.exec = Jvm.exec) (hlk : meth.locks = false) (hret : meth.sig.returnType = none) (hd : decode c.code pc = .ok (.return_, 1)) (hN : Fr n0 locs) (hc : cells ≤ C) (hs : slots ≤ N) (hQ : Q none T.heap) : OGoes p e s below Q n0 C N T (mkF m pc Ls []) := by
  obtain ⟨fs, hr, hrun, hended, hW, hsame⟩ := X.leave (v := none) (fun _ => rfl)
  exact ⟨_, _, X.returnOut hx hret hd hr, hrun, hended, _, _, rfl, ⟨hN, hQ⟩, ⟨_, rfl⟩, hW, hsame.mono hc hs⟩
/-! fields and objects -/
theorem g_getF (X : Stand p l e R s m args below meth c T locs cells slots) (hx : p.tables.exec = Jvm.exec) (hZ : Z.Warmed39 s.vm) {own O n d : String} {i : Nat} (hown : s.vm.findClass own = some m.cls) (w : (Cond.fieldLink own i O n d).before a0 Z = true) (eT : T.heap = h) {a : Addr} {v : Value} (F : Fld Z h a O n d v) (hd : decode c.code pc = .ok (.getfield i, 3)) (hp : pc + 3 = pc')
    (k : ∀ T', Stand p l e R s m args below meth c T' locs cells slots → T'.heap = h → OGoes p e s below Q n0 C N T' (mkF m pc' Ls (v :: st))) : OGoes p e s below Q n0 C N T (mkF m pc Ls (.ref a :: st)) := by
  subst hp
  obtain ⟨T', X', e', st'⟩ := getF X hx hZ hown (host := "") (Or.inl w) Via.refl eT F (g := mkF m pc Ls (.ref a :: st)) rfl rfl hd
  exact (k T' X' e').go st'
theorem g_putF (X : Stand p l e R s m args below meth c T locs cells slots) (hx : p.tables.exec = Jvm.exec) (hZ : Z.Warmed39 s.vm) {own O n d K : String} {i kk : Nat} {ty : FieldType} (hown : s.vm.findClass own = some m.cls) (w : (Cond.fieldLink own i O n d).before a0 Z = true) (eT : T.heap = h) {a : Addr} {v old : Value} (F : Fld Z h a O n d old) (E : Exa Z h a K) (L : (Cond.lays K O n d).before a0 Z = true ∨ ((Cond.laysFinal K O n d).before a0 Z = true ∧ own = O ∧ meth.name = "<init>")) (wi : (Cond.instantiable K kk).before a0 Z = true)
    (hty : parseFieldDescriptor d = some ty) (hn : narrow ty v = v) (hf : fits ty v = true) (hN : Fr n0 locs) (ha : n0 ≤ a) (hd : decode c.code pc = .ok (.putfield i, 3)) (hp : pc + 3 = pc')
    (k : ∀ T' h' locs', Stand p l e R s m args below meth c T' locs' cells slots → T'.heap = h' → Wr h h' a (RoadKit.slotOf Z O n d) v → Fr n0 locs' → OGoes p e s below Q n0 C N T' (mkF m pc' Ls st)) : OGoes p e s below Q n0 C N T (mkF m pc Ls (v :: .ref a :: st)) := by
  subst hp
  obtain ⟨T', h', X', e', W', st'⟩ := putF X hx hZ hown (host := "") (Or.inl w) Via.refl eT F E L wi hty hn hf (g := mkF m pc Ls (v :: .ref a :: st)) rfl rfl hd
  exact (k T' h' _ X' e' W' (Fr.snoc X' hN ha)).go st'
theorem g_new (X : Stand p l e R s m args below meth c T locs cells slots) (hx : p.tables.exec = Jvm.exec) (hZ : Z.Warmed39 s.vm) {own K : String} {i n : Nat} (hown : s.vm.findClass own = some m.cls) (w : (Cond.classLink own i K).before a0 Z = true) (wi : (Cond.instantiable K n).before a0 Z = true) (wz : (Cond.initialized K).before a0 Z = true) (eT : T.heap = h) (hd : decode c.code pc = .ok (.new i, 3)) (hc : cells + 1 ≤ R.cells) (hl : slots + n ≤ R.slots) (hp : pc + 3 = pc')
    (k : ∀ T' h' a, a = h.size → Stand p l e R s m args below meth c T' locs (cells + 1) (slots + n) → T'.heap = h' → Ext h h' → a < h'.size → Exa Z h' a K → (∀ {O nm d : String} {ty : FieldType}, Laid Z a0 K O nm d → parseFieldDescriptor d = some ty → Fld Z h' a O nm d (defaultValue ty)) → OGoes p e s below Q n0 C N T' (mkF m pc' Ls (.ref a :: st))) : OGoes p e s below Q n0 C N T (mkF m pc Ls st) := by
  subst hp
  obtain ⟨T', h', X', e', E', A', D', -, st'⟩ := newO X hx hZ hown w wi wz eT (g := mkF m pc Ls st) rfl hd hc hl
  exact (k T' h' h.size rfl X' e' E' A'.lt A' D').go st'
theorem g_initO (X : Stand p l e R s m args below meth c T locs cells slots) (hx : p.tables.exec = Jvm.exec) (hZ : Z.Warmed39 s.vm) {own : String} {i : Nat} (hown : s.vm.findClass own = some m.cls) (w1 : (Cond.methodLink own i Lib.objectInit).before a0 Z = true) (w2 : (Cond.instanceMethod Lib.objectInit).before a0 Z = true) (w3 : (Cond.code Lib.objectInit ⟨#[0xb1]⟩ 1 none).before a0 Z = true) (eT : T.heap = h) (hsz : Ls.size = c.maxLocals) {a : Addr} (hd : decode c.code pc = .ok (.invokespecial i, 3))
    (hf : 1 ≤ R.frames) {W : Nat} (hW : (st.map fun v => v.category).sum ≤ W) (hl : W + 12 ≤ R.locals) (hp : pc + 3 = pc')
    (k : ∀ T', Stand p l e R s m args below meth c T' locs cells slots → T'.heap = h → OGoes p e s below Q n0 C N T' (mkF m pc' Ls st)) : OGoes p e s below Q n0 C N T (mkF m pc Ls (.ref a :: st)) := by
  subst hp
  obtain ⟨T', X', e', st'⟩ := initO X hx hZ hown w1 w2 w3 eT (g := mkF m pc Ls (.ref a :: st)) rfl hsz rfl hd hf (W := W) (by show 2 * 0 + _ ≤ _; omega) hl
  exact (k T' X' e').go st'
theorem g_getS (X : Stand p l e R s m args below meth c T locs cells slots) (hx : p.tables.exec = Jvm.exec) (hZ : Z.Warmed39 s.vm) {own O n d : String} {i : Nat} (hown : s.vm.findClass own = some m.cls) (w : (Cond.fieldLink own i O n d).before a0 Z = true) (eT : T.heap = h) {v : Value} (F : Sta Z h O n d v) (hd : decode c.code pc = .ok (.getstatic i, 3)) (hp : pc + 3 = pc')
    (k : ∀ T', Stand p l e R s m args below meth c T' locs cells slots → T'.heap = h → OGoes p e s below Q n0 C N T' (mkF m pc' Ls (v :: st))) : OGoes p e s below Q n0 C N T (mkF m pc Ls st) := by
  subst hp
  obtain ⟨T', X', e', st'⟩ := getS X hx hZ hown (host := "") w Via.refl eT F (g := mkF m pc Ls st) rfl hd
  exact (k T' X' e').go st'
theorem g_ldcF (X : Stand p l e R s m args below meth c T locs cells slots) (hx : p.tables.exec = Jvm.exec) (hZ : Z.Warmed39 s.vm) {own : String} {i : Nat} {b : UInt32} (hown : s.vm.findClass own = some m.cls) (w : (Cond.constantFloat own i b).before a0 Z = true) (hd : decode c.code pc = .ok (.ldc i, 2)) (hp : pc + 2 = pc')
    (k : OGoes p e s below Q n0 C N T (mkF m pc' Ls (.float b :: st))) : OGoes p e s below Q n0 C N T (mkF m pc Ls st) := by
  subst hp
  exact k.go fun t q => X.ldcFloatC hx hown (mvT hZ w) (g := mkF m pc Ls st) rfl hd t q
/-! calls: the callee's contract pays -/
theorem g_static (X : Stand p l e R s m args below meth c T locs cells slots) (hx : p.tables.exec = Jvm.exec) (hZ : Z.Warmed39 s.vm) {own : String} {i : Nat} {y : MethodName} {bytes : ByteArray} {maxL : Nat} {ret : Option FieldType} (hown : s.vm.findClass own = some m.cls) (w1 : (Cond.methodLink own i y).before a0 Z = true) (w2 : (Cond.static y).before a0 Z = true) (w3 : (Cond.initialized y.cls).before a0 Z = true) (w4 : (Cond.code y bytes maxL ret).before a0 Z = true) (hy : y.cls ≠ "java/lang/invoke/MethodHandle" ∧ y.cls ≠ "java/lang/invoke/VarHandle")
    {rm : Room} {argsL : List Value} {as' : Array Value} {Qy : Option Value → Heap → Prop} (hM : Con l y bytes maxL ret [] rm Z as' h n0 Qy) (has : argsL.toArray = as') (eT : T.heap = h) (hsz : Ls.size = c.maxLocals) {ps : List FieldType} {rt : Option FieldType} (pd : parseMethodDescriptor y.desc = some ⟨ps, rt⟩) (hlen : argsL.length = ps.length) {rest : List Value} (hst : st = argsL.reverse ++ rest) {W : Nat} (hW : (rest.map fun v => v.category).sum ≤ W)
    (hf : rm.frames + 1 ≤ R.frames) (hl : W + (maxL + 11) + rm.locals ≤ R.locals) (hc : cells + rm.cells ≤ R.cells) (hs : slots + rm.slots ≤ R.slots) (hN : Fr n0 locs) (hd : decode c.code pc = .ok (.invokestatic i, 3)) (hp : pc + 3 = pc')
    (k : ∀ v T' locs', Stand p l e R s m args below meth c T' locs' (cells + rm.cells) (slots + rm.slots) → Fr n0 locs' → Qy v T'.heap → OGoes p e s below Q n0 C N T' (mkF m pc' Ls (v.toList ++ rest))) : OGoes p e s below Q n0 C N T (mkF m pc Ls st) := by
  subst hp has
  obtain ⟨v, _, ⟨T', L', k', n'⟩, -, X', ⟨L, ⟨hNL, hQ⟩, q1, q2, q3⟩, st'⟩ := Jvm.LawKit.callS X hx (y := y) hown (mvT hZ w1) (mvT hZ w2) (mvT hZ w3) (mvT hZ w4) hy (backOf (W := W) (Q := fun v h L => Fr n0 L ∧ Qy v h) hM hZ w4 w3 hf hl) (g := mkF m pc Ls st) rfl hsz (argsL := argsL) (rest := rest) (lenOf pd hlen) hst (by show 2 * 0 + _ ≤ _; omega) hd (fun _ _ => ⟨rfl, eT, hc, hs⟩)
  dsimp only [Pt.U, Pt.locs, Pt.cells, Pt.slots] at X' q1 q2 q3 st' hQ
  subst q1 q2 q3
  exact (k v T' _ X' (Fr.app hN hNL) hQ).go st'
theorem g_special (X : Stand p l e R s m args below meth c T locs cells slots) (hx : p.tables.exec = Jvm.exec) (hZ : Z.Warmed39 s.vm) {own : String} {i : Nat} {y : MethodName} {bytes : ByteArray} {maxL : Nat} (hy1 : y.name = "<init>") (hown : s.vm.findClass own = some m.cls) (w1 : (Cond.methodLink own i y).before a0 Z = true) (w2 : (Cond.instanceMethod y).before a0 Z = true) (w3 : (Cond.initialized y.cls).before a0 Z = true) (w4 : (Cond.code y bytes maxL none).before a0 Z = true) (hy : y.cls ≠ "java/lang/invoke/MethodHandle" ∧ y.cls ≠ "java/lang/invoke/VarHandle")
    {rm : Room} {a : Addr} {argsL : List Value} {as' : Array Value} {Qy : Option Value → Heap → Prop} (hM : Con l y bytes maxL none [] rm Z as' h n0 Qy) (has : (.ref a :: argsL).toArray = as') (eT : T.heap = h) (hsz : Ls.size = c.maxLocals) {ps : List FieldType} {rt : Option FieldType} (pd : parseMethodDescriptor y.desc = some ⟨ps, rt⟩) (hlen : argsL.length = ps.length) {rest : List Value} (hst : st = argsL.reverse ++ .ref a :: rest) {W : Nat} (hW : (rest.map fun v => v.category).sum ≤ W)
    (hf : rm.frames + 1 ≤ R.frames) (hl : W + (maxL + 11) + rm.locals ≤ R.locals) (hc : cells + rm.cells ≤ R.cells) (hs : slots + rm.slots ≤ R.slots) (hN : Fr n0 locs) (hd : decode c.code pc = .ok (.invokespecial i, 3)) (hp : pc + 3 = pc')
    (k : ∀ v T' locs', Stand p l e R s m args below meth c T' locs' (cells + rm.cells) (slots + rm.slots) → Fr n0 locs' → Qy v T'.heap → OGoes p e s below Q n0 C N T' (mkF m pc' Ls (v.toList ++ rest))) : OGoes p e s below Q n0 C N T (mkF m pc Ls st) := by
  subst hp has
  obtain ⟨v, _, ⟨T', L', k', n'⟩, -, X', ⟨L, ⟨hNL, hQ⟩, q1, q2, q3⟩, st'⟩ := X.specialBack hx (y := y) hy1 hown (mvT hZ w1) (mvT hZ w2) (mvT hZ w4) hy (backOf (W := W) (Q := fun v h L => Fr n0 L ∧ Qy v h) hM hZ w4 w3 hf hl) (g := mkF m pc Ls st) rfl hsz (Steps.refl _) (a := a) (argsL := argsL) (rest := rest) (lenOf pd hlen) hst (by show 2 * 0 + _ ≤ _; omega) hd (fun _ _ => ⟨rfl, eT, hc, hs⟩)
  dsimp only [Pt.U, Pt.locs, Pt.cells, Pt.slots] at X' q1 q2 q3 st' hQ
  subst q1 q2 q3
  exact (k v T' _ X' (Fr.app hN hNL) hQ).go fun _ z => st'.trans z
theorem g_virtual (X : Stand p l e R s m args below meth c T locs cells slots) (hx : p.tables.exec = Jvm.exec) (hZ : Z.Warmed39 s.vm) {own K : String} {i : Nat} {y : MethodName} {bytes : ByteArray} {maxL : Nat} {ret : Option FieldType} (hown : s.vm.findClass own = some m.cls) (w1 : (Cond.methodLink own i y).before a0 Z = true) (w2 : (Cond.declares y).before a0 Z = true) (w5 : (Cond.selects K y y).before a0 Z = true) (w6 : (Cond.instanceMethod y).before a0 Z = true) (w3 : (Cond.initialized y.cls).before a0 Z = true) (w4 : (Cond.code y bytes maxL ret).before a0 Z = true) (hy : y.cls ≠ "java/lang/invoke/MethodHandle" ∧ y.cls ≠ "java/lang/invoke/VarHandle")
    {rm : Room} {a : Addr} {argsL : List Value} {as' : Array Value} {Qy : Option Value → Heap → Prop} (hM : Con l y bytes maxL ret [] rm Z as' h n0 Qy) (has : (.ref a :: argsL).toArray = as') (eT : T.heap = h) (E : Exa Z h a K) (hsz : Ls.size = c.maxLocals) {ps : List FieldType} {rt : Option FieldType} (pd : parseMethodDescriptor y.desc = some ⟨ps, rt⟩) (hlen : argsL.length = ps.length) {rest : List Value} (hst : st = argsL.reverse ++ .ref a :: rest) {W : Nat} (hW : (rest.map fun v => v.category).sum ≤ W)
    (hf : rm.frames + 1 ≤ R.frames) (hl : W + (maxL + 11) + rm.locals ≤ R.locals) (hc : cells + rm.cells ≤ R.cells) (hs : slots + rm.slots ≤ R.slots) (hN : Fr n0 locs) (hd : decode c.code pc = .ok (.invokevirtual i, 3)) (hp : pc + 3 = pc')
    (k : ∀ v T' locs', Stand p l e R s m args below meth c T' locs' (cells + rm.cells) (slots + rm.slots) → Fr n0 locs' → Qy v T'.heap → OGoes p e s below Q n0 C N T' (mkF m pc' Ls (v.toList ++ rest))) : OGoes p e s below Q n0 C N T (mkF m pc Ls st) := by
  subst hp has
  obtain ⟨cq, kq, qa, qb, qc⟩ := isOf hZ eT E
  obtain ⟨v, _, ⟨T', L', k', n'⟩, -, X', ⟨L, ⟨hNL, hQ⟩, q1, q2, q3⟩, st'⟩ := X.virtualBack hx (y := y) (z := y) hown (mvT hZ w1) (mvT hZ w2) (notFace_of_selects (args := #[]) (mvT hZ w5)) (mvT hZ w5) (mvT hZ w6) hy (backOf (W := W) (Q := fun v h L => Fr n0 L ∧ Qy v h) hM hZ w4 w3 hf hl) qa qc (g := mkF m pc Ls st) rfl hsz (Steps.refl _) (argsL := argsL) (rest := rest) (lenOf pd hlen) hst (by show 2 * 0 + _ ≤ _; omega) hd (fun _ _ => ⟨rfl, eT, hc, hs⟩)
  dsimp only [Pt.U, Pt.locs, Pt.cells, Pt.slots] at X' q1 q2 q3 st' hQ
  subst q1 q2 q3
  exact (k v T' _ X' (Fr.app hN hNL) hQ).go fun _ z => st'.trans z
/-! int arrays and long arrays, by their values -/
def IA (Z : State) (h : Heap) (a : Addr) (n : Nat) (f : Nat → Int32) : Prop := n < 2147483648 ∧ ∃ c : Cell, Arr Z h a c .int ∧ c.slots.size = n ∧ ∀ i, i < n → c.slots[i]? = some (.int (f i))
def LA (Z : State) (h : Heap) (a : Addr) (n : Nat) (f : Nat → Int64) : Prop := n < 2147483648 ∧ ∃ c : Cell, Arr Z h a c .long ∧ c.slots.size = n ∧ ∀ i, i < n → c.slots[i]? = some (.long (f i))
def zeroI : Nat → Int32 := fun _ => 0
def zeroL : Nat → Int64 := fun _ => 0
def oupd {A : Type} (f : Nat → A) (j : Nat) (v : A) : Nat → A := fun i => if i = j then v else f i
theorem nclamp {j : Int32} {k : Nat} (hj : j.toInt = (k : Int)) : j.toNatClampNeg = k ∧ ¬ j < 0 := by
  refine ⟨by simp only [Int32.toNatClampNeg, hj]; rfl, fun z => ?_⟩
  rw [Int32.lt_iff_toInt_lt, hj] at z; have : (0 : Int32).toInt = 0 := rfl; omega
theorem nin {j : Int32} {k n : Nat} (hj : j.toInt = (k : Int)) (hk : k < n) : ¬ (j < 0 ∨ n ≤ j.toNatClampNeg) := by
  obtain ⟨q1, q2⟩ := nclamp hj; rw [q1]; rintro (z | z)
  · exact q2 z
  · omega
theorem len32 {n : Nat} (hn : n < 2147483648) : (n.toInt32).toInt = (n : Int) := len_toInt hn
theorem g_iloadN (X : Stand p l e R s m args below meth c T locs cells slots) (hx : p.tables.exec = Jvm.exec) {k : Fin 4} {v : Int32} (hd : decode c.code pc = .ok (.iload_n k, 1)) (hl : Ls[k.val]? = some (.val (.int v))) (hp : pc + 1 = pc')
    (k : OGoes p e s below Q n0 C N T (mkF m pc' Ls (.int v :: st))) : OGoes p e s below Q n0 C N T (mkF m pc Ls (st)) := by
  subst hp; exact k.go fun _ q => XS.iloadN X.here hx rfl hd hl q
theorem g_iload (X : Stand p l e R s m args below meth c T locs cells slots) (hx : p.tables.exec = Jvm.exec) {k : Nat} {v : Int32} (hd : decode c.code pc = .ok (.iload k, 2)) (hl : Ls[k]? = some (.val (.int v))) (hp : pc + 2 = pc')
    (k : OGoes p e s below Q n0 C N T (mkF m pc' Ls (.int v :: st))) : OGoes p e s below Q n0 C N T (mkF m pc Ls (st)) := by
  subst hp; exact k.go fun _ q => XS.iload X.here hx rfl hd hl q
theorem g_lloadN (X : Stand p l e R s m args below meth c T locs cells slots) (hx : p.tables.exec = Jvm.exec) {k : Fin 4} {v : Int64} (hd : decode c.code pc = .ok (.lload_n k, 1)) (hl : Ls[k.val]? = some (.val (.long v))) (hp : pc + 1 = pc')
    (k : OGoes p e s below Q n0 C N T (mkF m pc' Ls (.long v :: st))) : OGoes p e s below Q n0 C N T (mkF m pc Ls (st)) := by
  subst hp; exact k.go fun _ q => XT.lloadN X.here hx rfl hd hl q
theorem g_lload (X : Stand p l e R s m args below meth c T locs cells slots) (hx : p.tables.exec = Jvm.exec) {k : Nat} {v : Int64} (hd : decode c.code pc = .ok (.lload k, 2)) (hl : Ls[k]? = some (.val (.long v))) (hp : pc + 2 = pc')
    (k : OGoes p e s below Q n0 C N T (mkF m pc' Ls (.long v :: st))) : OGoes p e s below Q n0 C N T (mkF m pc Ls (st)) := by
  subst hp; exact k.go fun _ q => XT.lload X.here hx rfl hd hl q
theorem g_aloadN (X : Stand p l e R s m args below meth c T locs cells slots) (hx : p.tables.exec = Jvm.exec) {k : Fin 4} {v : Value} (hd : decode c.code pc = .ok (.aload_n k, 1)) (hl : Ls[k.val]? = some (.val v)) (hv : v.isRef = true) (hp : pc + 1 = pc')
    (k : OGoes p e s below Q n0 C N T (mkF m pc' Ls (v :: st))) : OGoes p e s below Q n0 C N T (mkF m pc Ls (st)) := by
  subst hp; exact k.go fun _ q => XS.aloadN X.here hx rfl hd hl hv q
theorem g_aload (X : Stand p l e R s m args below meth c T locs cells slots) (hx : p.tables.exec = Jvm.exec) {k : Nat} {v : Value} (hd : decode c.code pc = .ok (.aload k, 2)) (hl : Ls[k]? = some (.val v)) (hv : v.isRef = true) (hp : pc + 2 = pc')
    (k : OGoes p e s below Q n0 C N T (mkF m pc' Ls (v :: st))) : OGoes p e s below Q n0 C N T (mkF m pc Ls (st)) := by
  subst hp; exact k.go fun _ q => XS.aload X.here hx rfl hd hl hv q
theorem g_istoreN (X : Stand p l e R s m args below meth c T locs cells slots) (hx : p.tables.exec = Jvm.exec) {k : Fin 4} {x : Int32} (hd : decode c.code pc = .ok (.istore_n k, 1)) (hl : storeLocals Ls k.val (.int x) = some Ls') (hp : pc + 1 = pc')
    (k : OGoes p e s below Q n0 C N T (mkF m pc' Ls' (st))) : OGoes p e s below Q n0 C N T (mkF m pc Ls (.int x :: st)) := by
  subst hp; exact k.go fun _ q => XS.istoreN X.here hx rfl hd rfl hl q
theorem g_istore (X : Stand p l e R s m args below meth c T locs cells slots) (hx : p.tables.exec = Jvm.exec) {k : Nat} {x : Int32} (hd : decode c.code pc = .ok (.istore k, 2)) (hl : storeLocals Ls k (.int x) = some Ls') (hp : pc + 2 = pc')
    (k : OGoes p e s below Q n0 C N T (mkF m pc' Ls' (st))) : OGoes p e s below Q n0 C N T (mkF m pc Ls (.int x :: st)) := by
  subst hp; exact k.go fun _ q => XS.istore X.here hx rfl hd rfl hl q
theorem g_lstoreN (X : Stand p l e R s m args below meth c T locs cells slots) (hx : p.tables.exec = Jvm.exec) {k : Fin 4} {x : Int64} (hd : decode c.code pc = .ok (.lstore_n k, 1)) (hl : storeLocals Ls k.val (.long x) = some Ls') (hp : pc + 1 = pc')
    (k : OGoes p e s below Q n0 C N T (mkF m pc' Ls' (st))) : OGoes p e s below Q n0 C N T (mkF m pc Ls (.long x :: st)) := by
  subst hp; exact k.go fun _ q => XT.lstoreN X.here hx rfl hd rfl hl q
theorem g_lstore (X : Stand p l e R s m args below meth c T locs cells slots) (hx : p.tables.exec = Jvm.exec) {k : Nat} {x : Int64} (hd : decode c.code pc = .ok (.lstore k, 2)) (hl : storeLocals Ls k (.long x) = some Ls') (hp : pc + 2 = pc')
    (k : OGoes p e s below Q n0 C N T (mkF m pc' Ls' (st))) : OGoes p e s below Q n0 C N T (mkF m pc Ls (.long x :: st)) := by
  subst hp; exact k.go fun _ q => XT.lstore X.here hx rfl hd rfl hl q
theorem g_astoreN (X : Stand p l e R s m args below meth c T locs cells slots) (hx : p.tables.exec = Jvm.exec) {k : Fin 4} {x : Value} (hd : decode c.code pc = .ok (.astore_n k, 1)) (hv : x.isRef = true) (hl : storeLocals Ls k.val x = some Ls') (hp : pc + 1 = pc')
    (k : OGoes p e s below Q n0 C N T (mkF m pc' Ls' (st))) : OGoes p e s below Q n0 C N T (mkF m pc Ls (x :: st)) := by
  subst hp; exact k.go fun _ q => XS.astoreN X.here hx rfl hd rfl hv hl q
theorem g_astore (X : Stand p l e R s m args below meth c T locs cells slots) (hx : p.tables.exec = Jvm.exec) {k : Nat} {x : Value} (hd : decode c.code pc = .ok (.astore k, 2)) (hv : x.isRef = true) (hl : storeLocals Ls k x = some Ls') (hp : pc + 2 = pc')
    (k : OGoes p e s below Q n0 C N T (mkF m pc' Ls' (st))) : OGoes p e s below Q n0 C N T (mkF m pc Ls (x :: st)) := by
  subst hp; exact k.go fun _ q => XS.astore X.here hx rfl hd rfl hv hl q
theorem g_iinc (X : Stand p l e R s m args below meth c T locs cells slots) (hx : p.tables.exec = Jvm.exec) {k : Nat} {cst : Int} {x v : Int32} (hd : decode c.code pc = .ok (.iinc k cst, 3)) (hv : Int32.ofInt cst = v) (hl : Ls[k]? = some (.val (.int x))) (hl' : storeLocals Ls k (.int (x + v)) = some Ls') (hp : pc + 3 = pc')
    (k : OGoes p e s below Q n0 C N T (mkF m pc' Ls' (st))) : OGoes p e s below Q n0 C N T (mkF m pc Ls (st)) := by
  subst hp; exact k.go fun _ q => XT.iincV X.here hx rfl v hd hv hl hl' q
theorem g_iconst (X : Stand p l e R s m args below meth c T locs cells slots) (hx : p.tables.exec = Jvm.exec) {i : Int} {v : Int32} (hd : decode c.code pc = .ok (.iconst i, 1)) (hv : Int32.ofInt i = v) (hp : pc + 1 = pc')
    (k : OGoes p e s below Q n0 C N T (mkF m pc' Ls (.int v :: st))) : OGoes p e s below Q n0 C N T (mkF m pc Ls (st)) := by
  subst hp; exact k.go fun _ q => XT.iconstV X.here hx rfl v hd hv q
theorem g_bipush (X : Stand p l e R s m args below meth c T locs cells slots) (hx : p.tables.exec = Jvm.exec) {i : Int} {v : Int32} (hd : decode c.code pc = .ok (.bipush i, 2)) (hv : (Int8.ofInt i).toInt32 = v) (hp : pc + 2 = pc')
    (k : OGoes p e s below Q n0 C N T (mkF m pc' Ls (.int v :: st))) : OGoes p e s below Q n0 C N T (mkF m pc Ls (st)) := by
  subst hp; exact k.go fun _ q => XT.bipushV X.here hx rfl v hd hv q
theorem g_sipush (X : Stand p l e R s m args below meth c T locs cells slots) (hx : p.tables.exec = Jvm.exec) {i : Int} {v : Int32} (hd : decode c.code pc = .ok (.sipush i, 3)) (hv : (Int16.ofInt i).toInt32 = v) (hp : pc + 3 = pc')
    (k : OGoes p e s below Q n0 C N T (mkF m pc' Ls (.int v :: st))) : OGoes p e s below Q n0 C N T (mkF m pc Ls (st)) := by
  subst hp; exact k.go fun _ q => XT.sipushV X.here hx rfl v hd hv q
theorem g_lconst (X : Stand p l e R s m args below meth c T locs cells slots) (hx : p.tables.exec = Jvm.exec) {k : Fin 2} {v : Int64} (hd : decode c.code pc = .ok (.lconst k, 1)) (hv : Int64.ofNat k = v) (hp : pc + 1 = pc')
    (k : OGoes p e s below Q n0 C N T (mkF m pc' Ls (.long v :: st))) : OGoes p e s below Q n0 C N T (mkF m pc Ls (st)) := by
  subst hp; exact k.go fun _ q => XT.lconstV X.here hx rfl v hd hv q
theorem g_null (X : Stand p l e R s m args below meth c T locs cells slots) (hx : p.tables.exec = Jvm.exec)  (hd : decode c.code pc = .ok (.aconst_null, 1))  (hp : pc + 1 = pc')
    (k : OGoes p e s below Q n0 C N T (mkF m pc' Ls (.null :: st))) : OGoes p e s below Q n0 C N T (mkF m pc Ls (st)) := by
  subst hp; exact k.go fun _ q => XS.aconstNull X.here hx rfl hd q
theorem g_ldc (X : Stand p l e R s m args below meth c T locs cells slots) (hx : p.tables.exec = Jvm.exec) (hZ : Z.Warmed39 s.vm) {own : String} {i : Nat} (hown : s.vm.findClass own = some m.cls) {v : Int32} (hd : decode c.code pc = .ok (.ldc i, 2)) (w : (Cond.constant own i v).before a0 Z = true) (hp : pc + 2 = pc')
    (k : OGoes p e s below Q n0 C N T (mkF m pc' Ls (.int v :: st))) : OGoes p e s below Q n0 C N T (mkF m pc Ls (st)) := by
  subst hp; exact k.go fun _ q => X.ldcI hx hown (mvT hZ w) rfl hd q
theorem g_ldcW (X : Stand p l e R s m args below meth c T locs cells slots) (hx : p.tables.exec = Jvm.exec) (hZ : Z.Warmed39 s.vm) {own : String} {i : Nat} (hown : s.vm.findClass own = some m.cls) {v : Int32} (hd : decode c.code pc = .ok (.ldc_w i, 3)) (w : (Cond.constant own i v).before a0 Z = true) (hp : pc + 3 = pc')
    (k : OGoes p e s below Q n0 C N T (mkF m pc' Ls (.int v :: st))) : OGoes p e s below Q n0 C N T (mkF m pc Ls (st)) := by
  subst hp; exact k.go fun _ q => X.ldcWI hx hown (mvT hZ w) rfl hd q
theorem g_ldc2 (X : Stand p l e R s m args below meth c T locs cells slots) (hx : p.tables.exec = Jvm.exec) (hZ : Z.Warmed39 s.vm) {own : String} {i : Nat} (hown : s.vm.findClass own = some m.cls) {v : Int64} (hd : decode c.code pc = .ok (.ldc2_w i, 3)) (w : (Cond.constantLong own i v).before a0 Z = true) (hp : pc + 3 = pc')
    (k : OGoes p e s below Q n0 C N T (mkF m pc' Ls (.long v :: st))) : OGoes p e s below Q n0 C N T (mkF m pc Ls (st)) := by
  subst hp; exact k.go fun _ q => X.ldc2J hx hown (mvT hZ w) rfl hd q
theorem g_iadd (X : Stand p l e R s m args below meth c T locs cells slots) (hx : p.tables.exec = Jvm.exec) {x y : Int32} (hd : decode c.code pc = .ok (.iadd, 1))  (hp : pc + 1 = pc')
    (k : OGoes p e s below Q n0 C N T (mkF m pc' Ls (.int (x + y) :: st))) : OGoes p e s below Q n0 C N T (mkF m pc Ls (.int y :: .int x :: st)) := by
  subst hp; exact k.go fun _ q => XS.iadd X.here hx rfl hd rfl q
theorem g_isub (X : Stand p l e R s m args below meth c T locs cells slots) (hx : p.tables.exec = Jvm.exec) {x y : Int32} (hd : decode c.code pc = .ok (.isub, 1))  (hp : pc + 1 = pc')
    (k : OGoes p e s below Q n0 C N T (mkF m pc' Ls (.int (x - y) :: st))) : OGoes p e s below Q n0 C N T (mkF m pc Ls (.int y :: .int x :: st)) := by
  subst hp; exact k.go fun _ q => XS.isub X.here hx rfl hd rfl q
theorem g_iand (X : Stand p l e R s m args below meth c T locs cells slots) (hx : p.tables.exec = Jvm.exec) {x y : Int32} (hd : decode c.code pc = .ok (.iand, 1))  (hp : pc + 1 = pc')
    (k : OGoes p e s below Q n0 C N T (mkF m pc' Ls (.int (x &&& y) :: st))) : OGoes p e s below Q n0 C N T (mkF m pc Ls (.int y :: .int x :: st)) := by
  subst hp; exact k.go fun _ q => XS.iand X.here hx rfl hd rfl q
theorem g_imul (X : Stand p l e R s m args below meth c T locs cells slots) (hx : p.tables.exec = Jvm.exec) {x y : Int32} (hd : decode c.code pc = .ok (.imul, 1))  (hp : pc + 1 = pc')
    (k : OGoes p e s below Q n0 C N T (mkF m pc' Ls (.int (x * y) :: st))) : OGoes p e s below Q n0 C N T (mkF m pc Ls (.int y :: .int x :: st)) := by
  subst hp; exact k.go fun _ q => XS.imul X.here hx rfl hd rfl q
theorem g_ior (X : Stand p l e R s m args below meth c T locs cells slots) (hx : p.tables.exec = Jvm.exec) {x y : Int32} (hd : decode c.code pc = .ok (.ior, 1))  (hp : pc + 1 = pc')
    (k : OGoes p e s below Q n0 C N T (mkF m pc' Ls (.int (x ||| y) :: st))) : OGoes p e s below Q n0 C N T (mkF m pc Ls (.int y :: .int x :: st)) := by
  subst hp; exact k.go fun _ q => XT.ior X.here hx rfl hd rfl q
theorem g_ixor (X : Stand p l e R s m args below meth c T locs cells slots) (hx : p.tables.exec = Jvm.exec) {x y : Int32} (hd : decode c.code pc = .ok (.ixor, 1))  (hp : pc + 1 = pc')
    (k : OGoes p e s below Q n0 C N T (mkF m pc' Ls (.int (x ^^^ y) :: st))) : OGoes p e s below Q n0 C N T (mkF m pc Ls (.int y :: .int x :: st)) := by
  subst hp; exact k.go fun _ q => XT.ixor X.here hx rfl hd rfl q
theorem g_ishl (X : Stand p l e R s m args below meth c T locs cells slots) (hx : p.tables.exec = Jvm.exec) {x y : Int32} (hd : decode c.code pc = .ok (.ishl, 1))  (hp : pc + 1 = pc')
    (k : OGoes p e s below Q n0 C N T (mkF m pc' Ls (.int (x <<< (y &&& 31)) :: st))) : OGoes p e s below Q n0 C N T (mkF m pc Ls (.int y :: .int x :: st)) := by
  subst hp; exact k.go fun _ q => XT.ishl X.here hx rfl hd rfl q
theorem g_ishr (X : Stand p l e R s m args below meth c T locs cells slots) (hx : p.tables.exec = Jvm.exec) {x y : Int32} (hd : decode c.code pc = .ok (.ishr, 1))  (hp : pc + 1 = pc')
    (k : OGoes p e s below Q n0 C N T (mkF m pc' Ls (.int (x >>> (y &&& 31)) :: st))) : OGoes p e s below Q n0 C N T (mkF m pc Ls (.int y :: .int x :: st)) := by
  subst hp; exact k.go fun _ q => XT.ishr X.here hx rfl hd rfl q
theorem g_iushr (X : Stand p l e R s m args below meth c T locs cells slots) (hx : p.tables.exec = Jvm.exec) {x y : Int32} (hd : decode c.code pc = .ok (.iushr, 1))  (hp : pc + 1 = pc')
    (k : OGoes p e s below Q n0 C N T (mkF m pc' Ls (.int (XT.ushr x y) :: st))) : OGoes p e s below Q n0 C N T (mkF m pc Ls (.int y :: .int x :: st)) := by
  subst hp; exact k.go fun _ q => XT.iushr X.here hx rfl hd rfl q
theorem g_ineg (X : Stand p l e R s m args below meth c T locs cells slots) (hx : p.tables.exec = Jvm.exec) {x : Int32} (hd : decode c.code pc = .ok (.ineg, 1))  (hp : pc + 1 = pc')
    (k : OGoes p e s below Q n0 C N T (mkF m pc' Ls (.int (-x) :: st))) : OGoes p e s below Q n0 C N T (mkF m pc Ls (.int x :: st)) := by
  subst hp; exact k.go fun _ q => XS.ineg X.here hx rfl hd rfl q
theorem g_idiv (X : Stand p l e R s m args below meth c T locs cells slots) (hx : p.tables.exec = Jvm.exec) {x y : Int32} (hd : decode c.code pc = .ok (.idiv, 1)) (hy : y ≠ 0) (hp : pc + 1 = pc')
    (k : OGoes p e s below Q n0 C N T (mkF m pc' Ls (.int (x / y) :: st))) : OGoes p e s below Q n0 C N T (mkF m pc Ls (.int y :: .int x :: st)) := by
  subst hp; exact k.go fun _ q => XS.idiv X.here hx rfl hd rfl hy q
theorem g_irem (X : Stand p l e R s m args below meth c T locs cells slots) (hx : p.tables.exec = Jvm.exec) {x y : Int32} (hd : decode c.code pc = .ok (.irem, 1)) (hy : y ≠ 0) (hp : pc + 1 = pc')
    (k : OGoes p e s below Q n0 C N T (mkF m pc' Ls (.int (x % y) :: st))) : OGoes p e s below Q n0 C N T (mkF m pc Ls (.int y :: .int x :: st)) := by
  subst hp; exact k.go fun _ q => iremM X hx rfl hd rfl hy q
theorem g_ladd (X : Stand p l e R s m args below meth c T locs cells slots) (hx : p.tables.exec = Jvm.exec) {x y : Int64} (hd : decode c.code pc = .ok (.ladd, 1))  (hp : pc + 1 = pc')
    (k : OGoes p e s below Q n0 C N T (mkF m pc' Ls (.long (x + y) :: st))) : OGoes p e s below Q n0 C N T (mkF m pc Ls (.long y :: .long x :: st)) := by
  subst hp; exact k.go fun _ q => XT.ladd X.here hx rfl hd rfl q
theorem g_lsub (X : Stand p l e R s m args below meth c T locs cells slots) (hx : p.tables.exec = Jvm.exec) {x y : Int64} (hd : decode c.code pc = .ok (.lsub, 1))  (hp : pc + 1 = pc')
    (k : OGoes p e s below Q n0 C N T (mkF m pc' Ls (.long (x - y) :: st))) : OGoes p e s below Q n0 C N T (mkF m pc Ls (.long y :: .long x :: st)) := by
  subst hp; exact k.go fun _ q => XT.lsub X.here hx rfl hd rfl q
theorem g_lmul (X : Stand p l e R s m args below meth c T locs cells slots) (hx : p.tables.exec = Jvm.exec) {x y : Int64} (hd : decode c.code pc = .ok (.lmul, 1))  (hp : pc + 1 = pc')
    (k : OGoes p e s below Q n0 C N T (mkF m pc' Ls (.long (x * y) :: st))) : OGoes p e s below Q n0 C N T (mkF m pc Ls (.long y :: .long x :: st)) := by
  subst hp; exact k.go fun _ q => XT.lmul X.here hx rfl hd rfl q
theorem g_land (X : Stand p l e R s m args below meth c T locs cells slots) (hx : p.tables.exec = Jvm.exec) {x y : Int64} (hd : decode c.code pc = .ok (.land, 1))  (hp : pc + 1 = pc')
    (k : OGoes p e s below Q n0 C N T (mkF m pc' Ls (.long (x &&& y) :: st))) : OGoes p e s below Q n0 C N T (mkF m pc Ls (.long y :: .long x :: st)) := by
  subst hp; exact k.go fun _ q => XT.land X.here hx rfl hd rfl q
theorem g_lor (X : Stand p l e R s m args below meth c T locs cells slots) (hx : p.tables.exec = Jvm.exec) {x y : Int64} (hd : decode c.code pc = .ok (.lor, 1))  (hp : pc + 1 = pc')
    (k : OGoes p e s below Q n0 C N T (mkF m pc' Ls (.long (x ||| y) :: st))) : OGoes p e s below Q n0 C N T (mkF m pc Ls (.long y :: .long x :: st)) := by
  subst hp; exact k.go fun _ q => XT.lor X.here hx rfl hd rfl q
theorem g_lxor (X : Stand p l e R s m args below meth c T locs cells slots) (hx : p.tables.exec = Jvm.exec) {x y : Int64} (hd : decode c.code pc = .ok (.lxor, 1))  (hp : pc + 1 = pc')
    (k : OGoes p e s below Q n0 C N T (mkF m pc' Ls (.long (x ^^^ y) :: st))) : OGoes p e s below Q n0 C N T (mkF m pc Ls (.long y :: .long x :: st)) := by
  subst hp; exact k.go fun _ q => XT.lxor X.here hx rfl hd rfl q
theorem g_lshl (X : Stand p l e R s m args below meth c T locs cells slots) (hx : p.tables.exec = Jvm.exec) {x : Int64} {y : Int32} (hd : decode c.code pc = .ok (.lshl, 1))  (hp : pc + 1 = pc')
    (k : OGoes p e s below Q n0 C N T (mkF m pc' Ls (.long (x <<< (y.toInt64 &&& 63)) :: st))) : OGoes p e s below Q n0 C N T (mkF m pc Ls (.int y :: .long x :: st)) := by
  subst hp; exact k.go fun _ q => XT.lshl X.here hx rfl hd rfl q
theorem g_lshr (X : Stand p l e R s m args below meth c T locs cells slots) (hx : p.tables.exec = Jvm.exec) {x : Int64} {y : Int32} (hd : decode c.code pc = .ok (.lshr, 1))  (hp : pc + 1 = pc')
    (k : OGoes p e s below Q n0 C N T (mkF m pc' Ls (.long (x >>> (y.toInt64 &&& 63)) :: st))) : OGoes p e s below Q n0 C N T (mkF m pc Ls (.int y :: .long x :: st)) := by
  subst hp; exact k.go fun _ q => XT.lshr X.here hx rfl hd rfl q
theorem g_lushr (X : Stand p l e R s m args below meth c T locs cells slots) (hx : p.tables.exec = Jvm.exec) {x : Int64} {y : Int32} (hd : decode c.code pc = .ok (.lushr, 1))  (hp : pc + 1 = pc')
    (k : OGoes p e s below Q n0 C N T (mkF m pc' Ls (.long (XT.ushrL x y) :: st))) : OGoes p e s below Q n0 C N T (mkF m pc Ls (.int y :: .long x :: st)) := by
  subst hp; exact k.go fun _ q => XT.lushr X.here hx rfl hd rfl q
theorem g_ldiv (X : Stand p l e R s m args below meth c T locs cells slots) (hx : p.tables.exec = Jvm.exec) {x y : Int64} (hd : decode c.code pc = .ok (.ldiv, 1)) (hy : y ≠ 0) (hp : pc + 1 = pc')
    (k : OGoes p e s below Q n0 C N T (mkF m pc' Ls (.long (x / y) :: st))) : OGoes p e s below Q n0 C N T (mkF m pc Ls (.long y :: .long x :: st)) := by
  subst hp; exact k.go fun _ q => XT.ldiv X.here hx rfl hd rfl hy q
theorem g_lrem (X : Stand p l e R s m args below meth c T locs cells slots) (hx : p.tables.exec = Jvm.exec) {x y : Int64} (hd : decode c.code pc = .ok (.lrem, 1)) (hy : y ≠ 0) (hp : pc + 1 = pc')
    (k : OGoes p e s below Q n0 C N T (mkF m pc' Ls (.long (x - (x / y) * y) :: st))) : OGoes p e s below Q n0 C N T (mkF m pc Ls (.long y :: .long x :: st)) := by
  subst hp; exact k.go fun _ q => XT.lrem X.here hx rfl hd rfl hy q
theorem g_lneg (X : Stand p l e R s m args below meth c T locs cells slots) (hx : p.tables.exec = Jvm.exec) {x : Int64} (hd : decode c.code pc = .ok (.lneg, 1))  (hp : pc + 1 = pc')
    (k : OGoes p e s below Q n0 C N T (mkF m pc' Ls (.long (-x) :: st))) : OGoes p e s below Q n0 C N T (mkF m pc Ls (.long x :: st)) := by
  subst hp; exact k.go fun _ q => XT.lneg X.here hx rfl hd rfl q
theorem g_i2l (X : Stand p l e R s m args below meth c T locs cells slots) (hx : p.tables.exec = Jvm.exec) {x : Int32} (hd : decode c.code pc = .ok (.i2l, 1))  (hp : pc + 1 = pc')
    (k : OGoes p e s below Q n0 C N T (mkF m pc' Ls (.long x.toInt64 :: st))) : OGoes p e s below Q n0 C N T (mkF m pc Ls (.int x :: st)) := by
  subst hp; exact k.go fun _ q => XT.i2l X.here hx rfl hd rfl q
theorem g_l2i (X : Stand p l e R s m args below meth c T locs cells slots) (hx : p.tables.exec = Jvm.exec) {x : Int64} (hd : decode c.code pc = .ok (.l2i, 1))  (hp : pc + 1 = pc')
    (k : OGoes p e s below Q n0 C N T (mkF m pc' Ls (.int x.toInt32 :: st))) : OGoes p e s below Q n0 C N T (mkF m pc Ls (.long x :: st)) := by
  subst hp; exact k.go fun _ q => XT.l2i X.here hx rfl hd rfl q
theorem g_i2b (X : Stand p l e R s m args below meth c T locs cells slots) (hx : p.tables.exec = Jvm.exec) {x : Int32} (hd : decode c.code pc = .ok (.i2b, 1))  (hp : pc + 1 = pc')
    (k : OGoes p e s below Q n0 C N T (mkF m pc' Ls (.int x.toInt8.toInt32 :: st))) : OGoes p e s below Q n0 C N T (mkF m pc Ls (.int x :: st)) := by
  subst hp; exact k.go fun _ q => XT.i2b X.here hx rfl hd rfl q
theorem g_dup (X : Stand p l e R s m args below meth c T locs cells slots) (hx : p.tables.exec = Jvm.exec) {v : Value} (hd : decode c.code pc = .ok (.dup, 1)) (hc : v.category = 1) (hp : pc + 1 = pc')
    (k : OGoes p e s below Q n0 C N T (mkF m pc' Ls (v :: v :: st))) : OGoes p e s below Q n0 C N T (mkF m pc Ls (v :: st)) := by
  subst hp; exact k.go fun _ q => XS.dup X.here hx rfl hd rfl hc q
theorem g_pop (X : Stand p l e R s m args below meth c T locs cells slots) (hx : p.tables.exec = Jvm.exec) {v : Value} (hd : decode c.code pc = .ok (.pop, 1)) (hc : v.category = 1) (hp : pc + 1 = pc')
    (k : OGoes p e s below Q n0 C N T (mkF m pc' Ls (st))) : OGoes p e s below Q n0 C N T (mkF m pc Ls (v :: st)) := by
  subst hp; exact k.go fun _ q => XT.pop X.here hx rfl hd rfl hc q
theorem g_dupX1 (X : Stand p l e R s m args below meth c T locs cells slots) (hx : p.tables.exec = Jvm.exec) {v w : Value} (hd : decode c.code pc = .ok (.dup_x1, 1)) (hc : v.category = 1) (hc' : w.category = 1) (hp : pc + 1 = pc')
    (k : OGoes p e s below Q n0 C N T (mkF m pc' Ls (v :: w :: v :: st))) : OGoes p e s below Q n0 C N T (mkF m pc Ls (v :: w :: st)) := by
  subst hp; exact k.go fun _ q => XT.dupX1 X.here hx rfl hd rfl hc hc' q
theorem g_dup2 (X : Stand p l e R s m args below meth c T locs cells slots) (hx : p.tables.exec = Jvm.exec) {v w : Value} (hd : decode c.code pc = .ok (.dup2, 1)) (hc : v.category = 1) (hc' : w.category = 1) (hp : pc + 1 = pc')
    (k : OGoes p e s below Q n0 C N T (mkF m pc' Ls (v :: w :: v :: w :: st))) : OGoes p e s below Q n0 C N T (mkF m pc Ls (v :: w :: st)) := by
  subst hp; exact k.go fun _ q => XT.dup2 X.here hx rfl hd rfl hc hc' q
theorem g_dup2L (X : Stand p l e R s m args below meth c T locs cells slots) (hx : p.tables.exec = Jvm.exec) {x : Int64} (hd : decode c.code pc = .ok (.dup2, 1))  (hp : pc + 1 = pc')
    (k : OGoes p e s below Q n0 C N T (mkF m pc' Ls (.long x :: .long x :: st))) : OGoes p e s below Q n0 C N T (mkF m pc Ls (.long x :: st)) := by
  subst hp; exact k.go fun _ q => XT.dup2L X.here hx rfl hd rfl q
theorem g_goto (X : Stand p l e R s m args below meth c T locs cells slots) (hx : p.tables.exec = Jvm.exec) {o : Int} (hd : decode c.code pc = .ok (.goto o, 3)) (ho : 0 ≤ (pc : Int) + o) (hp : ((pc : Int) + o).toNat = pc')
    (k : OGoes p e s below Q n0 C N T (mkF m pc' Ls st)) : OGoes p e s below Q n0 C N T (mkF m pc Ls st) := k.go fun _ q => XS.goto X.here hx rfl rfl hd ho hp q
theorem g_ii_eq (X : Stand p l e R s m args below meth c T locs cells slots) (hx : p.tables.exec = Jvm.exec) {o : Int} {x y : Int32} {a b : Int} (ha : x.toInt = a) (hb : y.toInt = b) (hd : decode c.code pc = .ok (.if_icmp .eq o, 3)) (ho : 0 ≤ (pc : Int) + o) (hp : ((pc : Int) + o).toNat = pc') {pc2 : Nat} (hp2 : pc + 3 = pc2)
    (kt : a = b → OGoes p e s below Q n0 C N T (mkF m pc' Ls st)) (kf : ¬ a = b → OGoes p e s below Q n0 C N T (mkF m pc2 Ls st)) : OGoes p e s below Q n0 C N T (mkF m pc Ls (.int y :: .int x :: st)) := by
  subst ha hb hp2
  have hw : x = y ↔ x.toInt = y.toInt := Int32.toInt_inj.symm
  by_cases hq : x = y
  · exact (kt (hw.mp hq)).go fun _ q => XS.icmpYes X.here hx rfl rfl hd rfl (XT.ii_eq_t hq) ho hp q
  · exact (kf fun z => hq (hw.mpr z)).go fun _ q => XS.icmpNo X.here hx rfl hd rfl (XT.ii_eq_f hq) q
theorem g_ll_eq (X : Stand p l e R s m args below meth c T locs cells slots) (hx : p.tables.exec = Jvm.exec) {o : Int} {x y : Int64} {a b : Int} (ha : x.toInt = a) (hb : y.toInt = b) (hd1 : decode c.code pc = .ok (.lcmp, 1)) {pc1 : Nat} (hp1 : pc + 1 = pc1) (hd : decode c.code pc1 = .ok (.ifCond .eq o, 3)) (ho : 0 ≤ (pc1 : Int) + o) (hp : ((pc1 : Int) + o).toNat = pc') {pc2 : Nat} (hp2 : pc1 + 3 = pc2)
    (kt : a = b → OGoes p e s below Q n0 C N T (mkF m pc' Ls st)) (kf : ¬ a = b → OGoes p e s below Q n0 C N T (mkF m pc2 Ls st)) : OGoes p e s below Q n0 C N T (mkF m pc Ls (.long y :: .long x :: st)) := by
  subst ha hb hp1 hp2
  refine OGoes.go (g' := mkF m (pc + 1) Ls (.int (XT.cmpL x y) :: st)) (fun _ q => XT.lcmp X.here hx rfl hd1 rfl q) ?_
  have hw : x = y ↔ x.toInt = y.toInt := Int64.toInt_inj.symm
  by_cases hq : x = y
  · exact (kt (hw.mp hq)).go fun _ q => XS.ifYes X.here hx rfl rfl hd rfl (XT.ll_eq_t hq) ho hp q
  · exact (kf fun z => hq (hw.mpr z)).go fun _ q => XS.ifNo X.here hx rfl hd rfl (XT.ll_eq_f hq) q
theorem g_i0_eq (X : Stand p l e R s m args below meth c T locs cells slots) (hx : p.tables.exec = Jvm.exec) {o : Int} {x : Int32} {a : Int} (ha : x.toInt = a) (hd : decode c.code pc = .ok (.ifCond .eq o, 3)) (ho : 0 ≤ (pc : Int) + o) (hp : ((pc : Int) + o).toNat = pc') {pc2 : Nat} (hp2 : pc + 3 = pc2)
    (kt : a = 0 → OGoes p e s below Q n0 C N T (mkF m pc' Ls st)) (kf : ¬ a = 0 → OGoes p e s below Q n0 C N T (mkF m pc2 Ls st)) : OGoes p e s below Q n0 C N T (mkF m pc Ls (.int x :: st)) := by
  subst ha hp2
  have hw : x = 0 ↔ x.toInt = 0 := ⟨fun z => by rw [z]; rfl, fun z => Int32.toInt_inj.mp (z.trans rfl)⟩
  by_cases hq : x = 0
  · exact (kt (hw.mp hq)).go fun _ q => XS.ifYes X.here hx rfl rfl hd rfl (XT.i0_eq_t hq) ho hp q
  · exact (kf fun z => hq (hw.mpr z)).go fun _ q => XS.ifNo X.here hx rfl hd rfl (XT.i0_eq_f hq) q
theorem g_ii_ne (X : Stand p l e R s m args below meth c T locs cells slots) (hx : p.tables.exec = Jvm.exec) {o : Int} {x y : Int32} {a b : Int} (ha : x.toInt = a) (hb : y.toInt = b) (hd : decode c.code pc = .ok (.if_icmp .ne o, 3)) (ho : 0 ≤ (pc : Int) + o) (hp : ((pc : Int) + o).toNat = pc') {pc2 : Nat} (hp2 : pc + 3 = pc2)
    (kt : ¬ a = b → OGoes p e s below Q n0 C N T (mkF m pc' Ls st)) (kf : a = b → OGoes p e s below Q n0 C N T (mkF m pc2 Ls st)) : OGoes p e s below Q n0 C N T (mkF m pc Ls (.int y :: .int x :: st)) := by
  subst ha hb hp2
  have hw : x = y ↔ x.toInt = y.toInt := Int32.toInt_inj.symm
  by_cases hq : x = y
  · exact (kf (hw.mp hq)).go fun _ q => XS.icmpNo X.here hx rfl hd rfl (XT.ii_ne_f hq) q
  · exact (kt fun z => hq (hw.mpr z)).go fun _ q => XS.icmpYes X.here hx rfl rfl hd rfl (XT.ii_ne_t hq) ho hp q
theorem g_ll_ne (X : Stand p l e R s m args below meth c T locs cells slots) (hx : p.tables.exec = Jvm.exec) {o : Int} {x y : Int64} {a b : Int} (ha : x.toInt = a) (hb : y.toInt = b) (hd1 : decode c.code pc = .ok (.lcmp, 1)) {pc1 : Nat} (hp1 : pc + 1 = pc1) (hd : decode c.code pc1 = .ok (.ifCond .ne o, 3)) (ho : 0 ≤ (pc1 : Int) + o) (hp : ((pc1 : Int) + o).toNat = pc') {pc2 : Nat} (hp2 : pc1 + 3 = pc2)
    (kt : ¬ a = b → OGoes p e s below Q n0 C N T (mkF m pc' Ls st)) (kf : a = b → OGoes p e s below Q n0 C N T (mkF m pc2 Ls st)) : OGoes p e s below Q n0 C N T (mkF m pc Ls (.long y :: .long x :: st)) := by
  subst ha hb hp1 hp2
  refine OGoes.go (g' := mkF m (pc + 1) Ls (.int (XT.cmpL x y) :: st)) (fun _ q => XT.lcmp X.here hx rfl hd1 rfl q) ?_
  have hw : x = y ↔ x.toInt = y.toInt := Int64.toInt_inj.symm
  by_cases hq : x = y
  · exact (kf (hw.mp hq)).go fun _ q => XS.ifNo X.here hx rfl hd rfl (XT.ll_ne_f hq) q
  · exact (kt fun z => hq (hw.mpr z)).go fun _ q => XS.ifYes X.here hx rfl rfl hd rfl (XT.ll_ne_t hq) ho hp q
theorem g_i0_ne (X : Stand p l e R s m args below meth c T locs cells slots) (hx : p.tables.exec = Jvm.exec) {o : Int} {x : Int32} {a : Int} (ha : x.toInt = a) (hd : decode c.code pc = .ok (.ifCond .ne o, 3)) (ho : 0 ≤ (pc : Int) + o) (hp : ((pc : Int) + o).toNat = pc') {pc2 : Nat} (hp2 : pc + 3 = pc2)
    (kt : ¬ a = 0 → OGoes p e s below Q n0 C N T (mkF m pc' Ls st)) (kf : a = 0 → OGoes p e s below Q n0 C N T (mkF m pc2 Ls st)) : OGoes p e s below Q n0 C N T (mkF m pc Ls (.int x :: st)) := by
  subst ha hp2
  have hw : x = 0 ↔ x.toInt = 0 := ⟨fun z => by rw [z]; rfl, fun z => Int32.toInt_inj.mp (z.trans rfl)⟩
  by_cases hq : x = 0
  · exact (kf (hw.mp hq)).go fun _ q => XS.ifNo X.here hx rfl hd rfl (XT.i0_ne_f hq) q
  · exact (kt fun z => hq (hw.mpr z)).go fun _ q => XS.ifYes X.here hx rfl rfl hd rfl (XT.i0_ne_t hq) ho hp q
theorem g_ii_lt (X : Stand p l e R s m args below meth c T locs cells slots) (hx : p.tables.exec = Jvm.exec) {o : Int} {x y : Int32} {a b : Int} (ha : x.toInt = a) (hb : y.toInt = b) (hd : decode c.code pc = .ok (.if_icmp .lt o, 3)) (ho : 0 ≤ (pc : Int) + o) (hp : ((pc : Int) + o).toNat = pc') {pc2 : Nat} (hp2 : pc + 3 = pc2)
    (kt : a < b → OGoes p e s below Q n0 C N T (mkF m pc' Ls st)) (kf : ¬ a < b → OGoes p e s below Q n0 C N T (mkF m pc2 Ls st)) : OGoes p e s below Q n0 C N T (mkF m pc Ls (.int y :: .int x :: st)) := by
  subst ha hb hp2
  have hw : x < y ↔ x.toInt < y.toInt := Int32.lt_iff_toInt_lt
  by_cases hq : x < y
  · exact (kt (hw.mp hq)).go fun _ q => XS.icmpYes X.here hx rfl rfl hd rfl (XT.ii_lt_t hq) ho hp q
  · exact (kf fun z => hq (hw.mpr z)).go fun _ q => XS.icmpNo X.here hx rfl hd rfl (XT.ii_lt_f hq) q
theorem g_ll_lt (X : Stand p l e R s m args below meth c T locs cells slots) (hx : p.tables.exec = Jvm.exec) {o : Int} {x y : Int64} {a b : Int} (ha : x.toInt = a) (hb : y.toInt = b) (hd1 : decode c.code pc = .ok (.lcmp, 1)) {pc1 : Nat} (hp1 : pc + 1 = pc1) (hd : decode c.code pc1 = .ok (.ifCond .lt o, 3)) (ho : 0 ≤ (pc1 : Int) + o) (hp : ((pc1 : Int) + o).toNat = pc') {pc2 : Nat} (hp2 : pc1 + 3 = pc2)
    (kt : a < b → OGoes p e s below Q n0 C N T (mkF m pc' Ls st)) (kf : ¬ a < b → OGoes p e s below Q n0 C N T (mkF m pc2 Ls st)) : OGoes p e s below Q n0 C N T (mkF m pc Ls (.long y :: .long x :: st)) := by
  subst ha hb hp1 hp2
  refine OGoes.go (g' := mkF m (pc + 1) Ls (.int (XT.cmpL x y) :: st)) (fun _ q => XT.lcmp X.here hx rfl hd1 rfl q) ?_
  have hw : x < y ↔ x.toInt < y.toInt := Int64.lt_iff_toInt_lt
  by_cases hq : x < y
  · exact (kt (hw.mp hq)).go fun _ q => XS.ifYes X.here hx rfl rfl hd rfl (XT.ll_lt_t hq) ho hp q
  · exact (kf fun z => hq (hw.mpr z)).go fun _ q => XS.ifNo X.here hx rfl hd rfl (XT.ll_lt_f hq) q
theorem g_i0_lt (X : Stand p l e R s m args below meth c T locs cells slots) (hx : p.tables.exec = Jvm.exec) {o : Int} {x : Int32} {a : Int} (ha : x.toInt = a) (hd : decode c.code pc = .ok (.ifCond .lt o, 3)) (ho : 0 ≤ (pc : Int) + o) (hp : ((pc : Int) + o).toNat = pc') {pc2 : Nat} (hp2 : pc + 3 = pc2)
    (kt : a < 0 → OGoes p e s below Q n0 C N T (mkF m pc' Ls st)) (kf : ¬ a < 0 → OGoes p e s below Q n0 C N T (mkF m pc2 Ls st)) : OGoes p e s below Q n0 C N T (mkF m pc Ls (.int x :: st)) := by
  subst ha hp2
  have hw : x < 0 ↔ x.toInt < 0 := Int32.lt_iff_toInt_lt
  by_cases hq : x < 0
  · exact (kt (hw.mp hq)).go fun _ q => XS.ifYes X.here hx rfl rfl hd rfl (XT.i0_lt_t hq) ho hp q
  · exact (kf fun z => hq (hw.mpr z)).go fun _ q => XS.ifNo X.here hx rfl hd rfl (XT.i0_lt_f hq) q
theorem g_ii_ge (X : Stand p l e R s m args below meth c T locs cells slots) (hx : p.tables.exec = Jvm.exec) {o : Int} {x y : Int32} {a b : Int} (ha : x.toInt = a) (hb : y.toInt = b) (hd : decode c.code pc = .ok (.if_icmp .ge o, 3)) (ho : 0 ≤ (pc : Int) + o) (hp : ((pc : Int) + o).toNat = pc') {pc2 : Nat} (hp2 : pc + 3 = pc2)
    (kt : ¬ a < b → OGoes p e s below Q n0 C N T (mkF m pc' Ls st)) (kf : a < b → OGoes p e s below Q n0 C N T (mkF m pc2 Ls st)) : OGoes p e s below Q n0 C N T (mkF m pc Ls (.int y :: .int x :: st)) := by
  subst ha hb hp2
  have hw : x < y ↔ x.toInt < y.toInt := Int32.lt_iff_toInt_lt
  by_cases hq : x < y
  · exact (kf (hw.mp hq)).go fun _ q => XS.icmpNo X.here hx rfl hd rfl (XT.ii_ge_f hq) q
  · exact (kt fun z => hq (hw.mpr z)).go fun _ q => XS.icmpYes X.here hx rfl rfl hd rfl (XT.ii_ge_t hq) ho hp q
theorem g_ll_ge (X : Stand p l e R s m args below meth c T locs cells slots) (hx : p.tables.exec = Jvm.exec) {o : Int} {x y : Int64} {a b : Int} (ha : x.toInt = a) (hb : y.toInt = b) (hd1 : decode c.code pc = .ok (.lcmp, 1)) {pc1 : Nat} (hp1 : pc + 1 = pc1) (hd : decode c.code pc1 = .ok (.ifCond .ge o, 3)) (ho : 0 ≤ (pc1 : Int) + o) (hp : ((pc1 : Int) + o).toNat = pc') {pc2 : Nat} (hp2 : pc1 + 3 = pc2)
    (kt : ¬ a < b → OGoes p e s below Q n0 C N T (mkF m pc' Ls st)) (kf : a < b → OGoes p e s below Q n0 C N T (mkF m pc2 Ls st)) : OGoes p e s below Q n0 C N T (mkF m pc Ls (.long y :: .long x :: st)) := by
  subst ha hb hp1 hp2
  refine OGoes.go (g' := mkF m (pc + 1) Ls (.int (XT.cmpL x y) :: st)) (fun _ q => XT.lcmp X.here hx rfl hd1 rfl q) ?_
  have hw : x < y ↔ x.toInt < y.toInt := Int64.lt_iff_toInt_lt
  by_cases hq : x < y
  · exact (kf (hw.mp hq)).go fun _ q => XS.ifNo X.here hx rfl hd rfl (XT.ll_ge_f hq) q
  · exact (kt fun z => hq (hw.mpr z)).go fun _ q => XS.ifYes X.here hx rfl rfl hd rfl (XT.ll_ge_t hq) ho hp q
theorem g_i0_ge (X : Stand p l e R s m args below meth c T locs cells slots) (hx : p.tables.exec = Jvm.exec) {o : Int} {x : Int32} {a : Int} (ha : x.toInt = a) (hd : decode c.code pc = .ok (.ifCond .ge o, 3)) (ho : 0 ≤ (pc : Int) + o) (hp : ((pc : Int) + o).toNat = pc') {pc2 : Nat} (hp2 : pc + 3 = pc2)
    (kt : ¬ a < 0 → OGoes p e s below Q n0 C N T (mkF m pc' Ls st)) (kf : a < 0 → OGoes p e s below Q n0 C N T (mkF m pc2 Ls st)) : OGoes p e s below Q n0 C N T (mkF m pc Ls (.int x :: st)) := by
  subst ha hp2
  have hw : x < 0 ↔ x.toInt < 0 := Int32.lt_iff_toInt_lt
  by_cases hq : x < 0
  · exact (kf (hw.mp hq)).go fun _ q => XS.ifNo X.here hx rfl hd rfl (XT.i0_ge_f hq) q
  · exact (kt fun z => hq (hw.mpr z)).go fun _ q => XS.ifYes X.here hx rfl rfl hd rfl (XT.i0_ge_t hq) ho hp q
theorem g_ii_gt (X : Stand p l e R s m args below meth c T locs cells slots) (hx : p.tables.exec = Jvm.exec) {o : Int} {x y : Int32} {a b : Int} (ha : x.toInt = a) (hb : y.toInt = b) (hd : decode c.code pc = .ok (.if_icmp .gt o, 3)) (ho : 0 ≤ (pc : Int) + o) (hp : ((pc : Int) + o).toNat = pc') {pc2 : Nat} (hp2 : pc + 3 = pc2)
    (kt : b < a → OGoes p e s below Q n0 C N T (mkF m pc' Ls st)) (kf : ¬ b < a → OGoes p e s below Q n0 C N T (mkF m pc2 Ls st)) : OGoes p e s below Q n0 C N T (mkF m pc Ls (.int y :: .int x :: st)) := by
  subst ha hb hp2
  have hw : y < x ↔ y.toInt < x.toInt := Int32.lt_iff_toInt_lt
  by_cases hq : y < x
  · exact (kt (hw.mp hq)).go fun _ q => XS.icmpYes X.here hx rfl rfl hd rfl (XT.ii_gt_t hq) ho hp q
  · exact (kf fun z => hq (hw.mpr z)).go fun _ q => XS.icmpNo X.here hx rfl hd rfl (XT.ii_gt_f hq) q
theorem g_ll_gt (X : Stand p l e R s m args below meth c T locs cells slots) (hx : p.tables.exec = Jvm.exec) {o : Int} {x y : Int64} {a b : Int} (ha : x.toInt = a) (hb : y.toInt = b) (hd1 : decode c.code pc = .ok (.lcmp, 1)) {pc1 : Nat} (hp1 : pc + 1 = pc1) (hd : decode c.code pc1 = .ok (.ifCond .gt o, 3)) (ho : 0 ≤ (pc1 : Int) + o) (hp : ((pc1 : Int) + o).toNat = pc') {pc2 : Nat} (hp2 : pc1 + 3 = pc2)
    (kt : b < a → OGoes p e s below Q n0 C N T (mkF m pc' Ls st)) (kf : ¬ b < a → OGoes p e s below Q n0 C N T (mkF m pc2 Ls st)) : OGoes p e s below Q n0 C N T (mkF m pc Ls (.long y :: .long x :: st)) := by
  subst ha hb hp1 hp2
  refine OGoes.go (g' := mkF m (pc + 1) Ls (.int (XT.cmpL x y) :: st)) (fun _ q => XT.lcmp X.here hx rfl hd1 rfl q) ?_
  have hw : y < x ↔ y.toInt < x.toInt := Int64.lt_iff_toInt_lt
  by_cases hq : y < x
  · exact (kt (hw.mp hq)).go fun _ q => XS.ifYes X.here hx rfl rfl hd rfl (XT.ll_gt_t hq) ho hp q
  · exact (kf fun z => hq (hw.mpr z)).go fun _ q => XS.ifNo X.here hx rfl hd rfl (XT.ll_gt_f hq) q
theorem g_i0_gt (X : Stand p l e R s m args below meth c T locs cells slots) (hx : p.tables.exec = Jvm.exec) {o : Int} {x : Int32} {a : Int} (ha : x.toInt = a) (hd : decode c.code pc = .ok (.ifCond .gt o, 3)) (ho : 0 ≤ (pc : Int) + o) (hp : ((pc : Int) + o).toNat = pc') {pc2 : Nat} (hp2 : pc + 3 = pc2)
    (kt : 0 < a → OGoes p e s below Q n0 C N T (mkF m pc' Ls st)) (kf : ¬ 0 < a → OGoes p e s below Q n0 C N T (mkF m pc2 Ls st)) : OGoes p e s below Q n0 C N T (mkF m pc Ls (.int x :: st)) := by
  subst ha hp2
  have hw : 0 < x ↔ 0 < x.toInt := Int32.lt_iff_toInt_lt
  by_cases hq : 0 < x
  · exact (kt (hw.mp hq)).go fun _ q => XS.ifYes X.here hx rfl rfl hd rfl (XT.i0_gt_t hq) ho hp q
  · exact (kf fun z => hq (hw.mpr z)).go fun _ q => XS.ifNo X.here hx rfl hd rfl (XT.i0_gt_f hq) q
theorem g_ii_le (X : Stand p l e R s m args below meth c T locs cells slots) (hx : p.tables.exec = Jvm.exec) {o : Int} {x y : Int32} {a b : Int} (ha : x.toInt = a) (hb : y.toInt = b) (hd : decode c.code pc = .ok (.if_icmp .le o, 3)) (ho : 0 ≤ (pc : Int) + o) (hp : ((pc : Int) + o).toNat = pc') {pc2 : Nat} (hp2 : pc + 3 = pc2)
    (kt : ¬ b < a → OGoes p e s below Q n0 C N T (mkF m pc' Ls st)) (kf : b < a → OGoes p e s below Q n0 C N T (mkF m pc2 Ls st)) : OGoes p e s below Q n0 C N T (mkF m pc Ls (.int y :: .int x :: st)) := by
  subst ha hb hp2
  have hw : y < x ↔ y.toInt < x.toInt := Int32.lt_iff_toInt_lt
  by_cases hq : y < x
  · exact (kf (hw.mp hq)).go fun _ q => XS.icmpNo X.here hx rfl hd rfl (XT.ii_le_f hq) q
  · exact (kt fun z => hq (hw.mpr z)).go fun _ q => XS.icmpYes X.here hx rfl rfl hd rfl (XT.ii_le_t hq) ho hp q
theorem g_ll_le (X : Stand p l e R s m args below meth c T locs cells slots) (hx : p.tables.exec = Jvm.exec) {o : Int} {x y : Int64} {a b : Int} (ha : x.toInt = a) (hb : y.toInt = b) (hd1 : decode c.code pc = .ok (.lcmp, 1)) {pc1 : Nat} (hp1 : pc + 1 = pc1) (hd : decode c.code pc1 = .ok (.ifCond .le o, 3)) (ho : 0 ≤ (pc1 : Int) + o) (hp : ((pc1 : Int) + o).toNat = pc') {pc2 : Nat} (hp2 : pc1 + 3 = pc2)
    (kt : ¬ b < a → OGoes p e s below Q n0 C N T (mkF m pc' Ls st)) (kf : b < a → OGoes p e s below Q n0 C N T (mkF m pc2 Ls st)) : OGoes p e s below Q n0 C N T (mkF m pc Ls (.long y :: .long x :: st)) := by
  subst ha hb hp1 hp2
  refine OGoes.go (g' := mkF m (pc + 1) Ls (.int (XT.cmpL x y) :: st)) (fun _ q => XT.lcmp X.here hx rfl hd1 rfl q) ?_
  have hw : y < x ↔ y.toInt < x.toInt := Int64.lt_iff_toInt_lt
  by_cases hq : y < x
  · exact (kf (hw.mp hq)).go fun _ q => XS.ifNo X.here hx rfl hd rfl (XT.ll_le_f hq) q
  · exact (kt fun z => hq (hw.mpr z)).go fun _ q => XS.ifYes X.here hx rfl rfl hd rfl (XT.ll_le_t hq) ho hp q
theorem g_i0_le (X : Stand p l e R s m args below meth c T locs cells slots) (hx : p.tables.exec = Jvm.exec) {o : Int} {x : Int32} {a : Int} (ha : x.toInt = a) (hd : decode c.code pc = .ok (.ifCond .le o, 3)) (ho : 0 ≤ (pc : Int) + o) (hp : ((pc : Int) + o).toNat = pc') {pc2 : Nat} (hp2 : pc + 3 = pc2)
    (kt : ¬ 0 < a → OGoes p e s below Q n0 C N T (mkF m pc' Ls st)) (kf : 0 < a → OGoes p e s below Q n0 C N T (mkF m pc2 Ls st)) : OGoes p e s below Q n0 C N T (mkF m pc Ls (.int x :: st)) := by
  subst ha hp2
  have hw : 0 < x ↔ 0 < x.toInt := Int32.lt_iff_toInt_lt
  by_cases hq : 0 < x
  · exact (kf (hw.mp hq)).go fun _ q => XS.ifNo X.here hx rfl hd rfl (XT.i0_le_f hq) q
  · exact (kt fun z => hq (hw.mpr z)).go fun _ q => XS.ifYes X.here hx rfl rfl hd rfl (XT.i0_le_t hq) ho hp q
theorem g_ifnullYes (X : Stand p l e R s m args below meth c T locs cells slots) (hx : p.tables.exec = Jvm.exec) {o : Int} (hd : decode c.code pc = .ok (.ifnull o, 3)) (ho : 0 ≤ (pc : Int) + o) (hp : ((pc : Int) + o).toNat = pc')
    (k : OGoes p e s below Q n0 C N T (mkF m pc' Ls st)) : OGoes p e s below Q n0 C N T (mkF m pc Ls (.null :: st)) := k.go fun _ q => XS.ifnullYes X.here hx rfl rfl hd rfl ho hp q
theorem g_ifnullNo (X : Stand p l e R s m args below meth c T locs cells slots) (hx : p.tables.exec = Jvm.exec) {o : Int} {b : Addr} (hd : decode c.code pc = .ok (.ifnull o, 3)) (hp : pc + 3 = pc')
    (k : OGoes p e s below Q n0 C N T (mkF m pc' Ls st)) : OGoes p e s below Q n0 C N T (mkF m pc Ls (.ref b :: st)) := by
  subst hp; exact k.go fun _ q => XS.ifnullNo X.here hx rfl hd rfl q
theorem g_ifnonnullYes (X : Stand p l e R s m args below meth c T locs cells slots) (hx : p.tables.exec = Jvm.exec) {o : Int} {b : Addr} (hd : decode c.code pc = .ok (.ifnonnull o, 3)) (ho : 0 ≤ (pc : Int) + o) (hp : ((pc : Int) + o).toNat = pc')
    (k : OGoes p e s below Q n0 C N T (mkF m pc' Ls st)) : OGoes p e s below Q n0 C N T (mkF m pc Ls (.ref b :: st)) := k.go fun _ q => XT.ifnonnullYes X.here hx rfl rfl hd rfl ho hp q
theorem IA.lt {h : Heap} {a n : Nat} {f : Nat → Int32} (F : IA Z h a n f) : a < h.size := by obtain ⟨_, c, A, -⟩ := F; exact A.lt
theorem IA.ext {h h' : Heap} {a n : Nat} {f : Nat → Int32} (F : IA Z h a n f) (E : Ext h h') : IA Z h' a n f := by obtain ⟨q, c, A, r⟩ := F; exact ⟨q, c, A.ext E, r⟩
theorem IA.keep {h h' : Heap} {a n : Nat} {f : Nat → Int32} {ws : List Addr} (F : IA Z h a n f) (K : Keep h h' ws) (q : a ∉ ws) : IA Z h' a n f := by obtain ⟨q', c, A, r⟩ := F; exact ⟨q', c, ⟨K.2.1 a c A.1 q, A.2⟩, r⟩
theorem IA.other {h h' : Heap} {a b n sl : Nat} {f : Nat → Int32} {v : Value} (F : IA Z h b n f) (W : Wr h h' a sl v) (q : b ≠ a) : IA Z h' b n f := by obtain ⟨q', c, A, r⟩ := F; exact ⟨q', c, A.other W q, r⟩
theorem IA.congr {h : Heap} {a n : Nat} {f f' : Nat → Int32} (F : IA Z h a n f) (q : ∀ i, i < n → f i = f' i) : IA Z h a n f' := by obtain ⟨q', c, A, r, s⟩ := F; exact ⟨q', c, A, r, fun i hi => by rw [← q i hi]; exact s i hi⟩
theorem g_iaload (X : Stand p l e R s m args below meth c T locs cells slots) (hx : p.tables.exec = Jvm.exec) (hZ : Z.Warmed39 s.vm) (eT : T.heap = h) {a n k : Nat} {f : Nat → Int32} {j : Int32} (F : IA Z h a n f) (hj : j.toInt = (k : Int)) (hk : k < n) (hd : decode c.code pc = .ok (.iaload, 1)) (hp : pc + 1 = pc')
    (kk : OGoes p e s below Q n0 C N T (mkF m pc' Ls (.int (f k) :: st))) : OGoes p e s below Q n0 C N T (mkF m pc Ls (.int j :: .ref a :: st)) := by
  subst hp; obtain ⟨-, cl, A, S, H⟩ := F
  exact kk.go fun t q => X.iaload hx (by rw [eT]; exact A.1) (State.isArrayOf_alike hZ.alike A.2.1) A.2.2 (by rw [S]; exact nin hj hk) (by rw [(nclamp hj).1]; exact H k hk) (g := mkF m pc Ls (.int j :: .ref a :: st)) rfl rfl hd t q
theorem g_lenIA (X : Stand p l e R s m args below meth c T locs cells slots) (hx : p.tables.exec = Jvm.exec) (hZ : Z.Warmed39 s.vm) (eT : T.heap = h) {a n : Nat} {f : Nat → Int32} {z : Int32} (F : IA Z h a n f) (hz : z.toInt = (n : Int)) (hd : decode c.code pc = .ok (.arraylength, 1)) (hp : pc + 1 = pc')
    (kk : OGoes p e s below Q n0 C N T (mkF m pc' Ls (.int z :: st))) : OGoes p e s below Q n0 C N T (mkF m pc Ls (.ref a :: st)) := by
  subst hp; obtain ⟨hn, cl, A, S, H⟩ := F
  have hzz : z = cl.slots.size.toInt32 := Int32.toInt_inj.mp (by rw [S, hz, len32 hn])
  subst hzz
  exact kk.go fun t q => X.arraylength hx (by rw [eT]; exact A.1) (State.isArrayOf_alike hZ.alike A.2.1) (g := mkF m pc Ls (.ref a :: st)) rfl rfl hd t q
theorem g_iastore (X : Stand p l e R s m args below meth c T locs cells slots) (hx : p.tables.exec = Jvm.exec) (hZ : Z.Warmed39 s.vm) (eT : T.heap = h) {a n k : Nat} {f : Nat → Int32} {j : Int32} {x : Int32} (F : IA Z h a n f) (hj : j.toInt = (k : Int)) (hk : k < n) (hN : Fr n0 locs) (ha : n0 ≤ a) (hd : decode c.code pc = .ok (.iastore, 1)) (hp : pc + 1 = pc')
    (kk : ∀ T' h' locs', Stand p l e R s m args below meth c T' locs' cells slots → T'.heap = h' → Wr h h' a k (.int x) → Fr n0 locs' → IA Z h' a n (oupd f k x) → OGoes p e s below Q n0 C N T' (mkF m pc' Ls st)) : OGoes p e s below Q n0 C N T (mkF m pc Ls (.int x :: .int j :: .ref a :: st)) := by
  subst hp; obtain ⟨hn, cl, A, S, H⟩ := F
  obtain ⟨T', h', X', e', W', st'⟩ := stI X hx hZ eT A (j := j) (x := x) (by rw [S]; exact nin hj hk) (g := mkF m pc Ls (.int x :: .int j :: .ref a :: st)) rfl rfl hd
  rw [(nclamp hj).1] at W' X'
  refine (kk T' h' _ X' e' W' (Fr.snoc X' hN ha) ⟨hn, _, A.same W', by rw [sz_set]; exact S, fun i hi => ?_⟩).go st'
  by_cases q : i = k
  · subst q; simp [Cell.setSlot, oupd, S, hi]
  · have := H i hi
    simp only [Cell.setSlot, oupd, q, if_false]
    rw [Array.getElem?_setIfInBounds_ne (fun z => q z.symm)]; exact this
theorem g_newIA (X : Stand p l e R s m args below meth c T locs cells slots) (hx : p.tables.exec = Jvm.exec) (hZ : Z.Warmed39 s.vm) (w : (Cond.arrayClass .int).before a0 Z = true) (eT : T.heap = h) {z : Int32} {n : Nat} (hz : z.toInt = (n : Int)) {cap : Nat} (hcap : n ≤ cap) (hb : cap * 8 ≤ 536870912) (hd : decode c.code pc = .ok (.newarray .int, 2)) (hc : cells + 1 ≤ R.cells) (hl : slots + cap ≤ R.slots) (hp : pc + 2 = pc')
    (kk : ∀ T' h' a, a = h.size → Stand p l e R s m args below meth c T' locs (cells + 1) (slots + cap) → T'.heap = h' → Ext h h' → a < h'.size → IA Z h' a n zeroI → OGoes p e s below Q n0 C N T' (mkF m pc' Ls (.ref a :: st))) : OGoes p e s below Q n0 C N T (mkF m pc Ls (.int z :: st)) := by
  subst hp
  obtain ⟨q1, q2⟩ := nclamp hz
  obtain ⟨T', h', cA, X', e', E', A', st'⟩ := newP X hx hZ (aty := .int) w eT (g := mkF m pc Ls (.int z :: st)) rfl hd (n := z) rfl q2 (cap := cap) (by rw [q1]; exact hcap) hb hc hl
  refine (kk T' h' h.size rfl X' e' E' A'.lt ⟨?_, _, A', by rw [sz_new, q1], fun i hi => ?_⟩).go st'
  · have := z.toInt_lt; omega
  · simp only [newA, q1]; simp [hi]; rfl
theorem LA.lt {h : Heap} {a n : Nat} {f : Nat → Int64} (F : LA Z h a n f) : a < h.size := by obtain ⟨_, c, A, -⟩ := F; exact A.lt
theorem LA.ext {h h' : Heap} {a n : Nat} {f : Nat → Int64} (F : LA Z h a n f) (E : Ext h h') : LA Z h' a n f := by obtain ⟨q, c, A, r⟩ := F; exact ⟨q, c, A.ext E, r⟩
theorem LA.keep {h h' : Heap} {a n : Nat} {f : Nat → Int64} {ws : List Addr} (F : LA Z h a n f) (K : Keep h h' ws) (q : a ∉ ws) : LA Z h' a n f := by obtain ⟨q', c, A, r⟩ := F; exact ⟨q', c, ⟨K.2.1 a c A.1 q, A.2⟩, r⟩
theorem LA.other {h h' : Heap} {a b n sl : Nat} {f : Nat → Int64} {v : Value} (F : LA Z h b n f) (W : Wr h h' a sl v) (q : b ≠ a) : LA Z h' b n f := by obtain ⟨q', c, A, r⟩ := F; exact ⟨q', c, A.other W q, r⟩
theorem LA.congr {h : Heap} {a n : Nat} {f f' : Nat → Int64} (F : LA Z h a n f) (q : ∀ i, i < n → f i = f' i) : LA Z h a n f' := by obtain ⟨q', c, A, r, s⟩ := F; exact ⟨q', c, A, r, fun i hi => by rw [← q i hi]; exact s i hi⟩
theorem g_laload (X : Stand p l e R s m args below meth c T locs cells slots) (hx : p.tables.exec = Jvm.exec) (hZ : Z.Warmed39 s.vm) (eT : T.heap = h) {a n k : Nat} {f : Nat → Int64} {j : Int32} (F : LA Z h a n f) (hj : j.toInt = (k : Int)) (hk : k < n) (hd : decode c.code pc = .ok (.laload, 1)) (hp : pc + 1 = pc')
    (kk : OGoes p e s below Q n0 C N T (mkF m pc' Ls (.long (f k) :: st))) : OGoes p e s below Q n0 C N T (mkF m pc Ls (.int j :: .ref a :: st)) := by
  subst hp; obtain ⟨-, cl, A, S, H⟩ := F
  exact kk.go fun t q => X.laload hx (by rw [eT]; exact A.1) (State.isArrayOf_alike hZ.alike A.2.1) A.2.2 (by rw [S]; exact nin hj hk) (by rw [(nclamp hj).1]; exact H k hk) (g := mkF m pc Ls (.int j :: .ref a :: st)) rfl rfl hd t q
theorem g_lenLA (X : Stand p l e R s m args below meth c T locs cells slots) (hx : p.tables.exec = Jvm.exec) (hZ : Z.Warmed39 s.vm) (eT : T.heap = h) {a n : Nat} {f : Nat → Int64} {z : Int32} (F : LA Z h a n f) (hz : z.toInt = (n : Int)) (hd : decode c.code pc = .ok (.arraylength, 1)) (hp : pc + 1 = pc')
    (kk : OGoes p e s below Q n0 C N T (mkF m pc' Ls (.int z :: st))) : OGoes p e s below Q n0 C N T (mkF m pc Ls (.ref a :: st)) := by
  subst hp; obtain ⟨hn, cl, A, S, H⟩ := F
  have hzz : z = cl.slots.size.toInt32 := Int32.toInt_inj.mp (by rw [S, hz, len32 hn])
  subst hzz
  exact kk.go fun t q => X.arraylength hx (by rw [eT]; exact A.1) (State.isArrayOf_alike hZ.alike A.2.1) (g := mkF m pc Ls (.ref a :: st)) rfl rfl hd t q
theorem g_lastore (X : Stand p l e R s m args below meth c T locs cells slots) (hx : p.tables.exec = Jvm.exec) (hZ : Z.Warmed39 s.vm) (eT : T.heap = h) {a n k : Nat} {f : Nat → Int64} {j : Int32} {x : Int64} (F : LA Z h a n f) (hj : j.toInt = (k : Int)) (hk : k < n) (hN : Fr n0 locs) (ha : n0 ≤ a) (hd : decode c.code pc = .ok (.lastore, 1)) (hp : pc + 1 = pc')
    (kk : ∀ T' h' locs', Stand p l e R s m args below meth c T' locs' cells slots → T'.heap = h' → Wr h h' a k (.long x) → Fr n0 locs' → LA Z h' a n (oupd f k x) → OGoes p e s below Q n0 C N T' (mkF m pc' Ls st)) : OGoes p e s below Q n0 C N T (mkF m pc Ls (.long x :: .int j :: .ref a :: st)) := by
  subst hp; obtain ⟨hn, cl, A, S, H⟩ := F
  obtain ⟨T', h', X', e', W', st'⟩ := stJ X hx hZ eT A (j := j) (x := x) (by rw [S]; exact nin hj hk) (g := mkF m pc Ls (.long x :: .int j :: .ref a :: st)) rfl rfl hd
  rw [(nclamp hj).1] at W' X'
  refine (kk T' h' _ X' e' W' (Fr.snoc X' hN ha) ⟨hn, _, A.same W', by rw [sz_set]; exact S, fun i hi => ?_⟩).go st'
  by_cases q : i = k
  · subst q; simp [Cell.setSlot, oupd, S, hi]
  · have := H i hi
    simp only [Cell.setSlot, oupd, q, if_false]
    rw [Array.getElem?_setIfInBounds_ne (fun z => q z.symm)]; exact this
theorem g_newLA (X : Stand p l e R s m args below meth c T locs cells slots) (hx : p.tables.exec = Jvm.exec) (hZ : Z.Warmed39 s.vm) (w : (Cond.arrayClass .long).before a0 Z = true) (eT : T.heap = h) {z : Int32} {n : Nat} (hz : z.toInt = (n : Int)) {cap : Nat} (hcap : n ≤ cap) (hb : cap * 8 ≤ 536870912) (hd : decode c.code pc = .ok (.newarray .long, 2)) (hc : cells + 1 ≤ R.cells) (hl : slots + cap ≤ R.slots) (hp : pc + 2 = pc')
    (kk : ∀ T' h' a, a = h.size → Stand p l e R s m args below meth c T' locs (cells + 1) (slots + cap) → T'.heap = h' → Ext h h' → a < h'.size → LA Z h' a n zeroL → OGoes p e s below Q n0 C N T' (mkF m pc' Ls (.ref a :: st))) : OGoes p e s below Q n0 C N T (mkF m pc Ls (.int z :: st)) := by
  subst hp
  obtain ⟨q1, q2⟩ := nclamp hz
  obtain ⟨T', h', cA, X', e', E', A', st'⟩ := newP X hx hZ (aty := .long) w eT (g := mkF m pc Ls (.int z :: st)) rfl hd (n := z) rfl q2 (cap := cap) (by rw [q1]; exact hcap) hb hc hl
  refine (kk T' h' h.size rfl X' e' E' A'.lt ⟨?_, _, A', by rw [sz_new, q1], fun i hi => ?_⟩).go st'
  · have := z.toInt_lt; omega
  · simp only [newA, q1]; simp [hi]; rfl
theorem g_private (X : Stand p l e R s m args below meth c T locs cells slots) (hx : p.tables.exec = Jvm.exec) (hZ : Z.Warmed39 s.vm) {own K : String} {i kn : Nat} {y : MethodName} {bytes : ByteArray} {maxL : Nat} {ret : Option FieldType} (hown : s.vm.findClass own = some m.cls) (w1 : (Cond.methodLink own i y).before a0 Z = true) (w2 : (Cond.instanceMethod y).before a0 Z = true) (w5 : (Cond.privateMethod y).before a0 Z = true) (wi : (Cond.instantiable y.cls kn).before a0 Z = true) (w3 : (Cond.initialized y.cls).before a0 Z = true) (w4 : (Cond.code y bytes maxL ret).before a0 Z = true) (hy : y.cls ≠ "java/lang/invoke/MethodHandle" ∧ y.cls ≠ "java/lang/invoke/VarHandle")
    {rm : Room} {a : Addr} {argsL : List Value} {as' : Array Value} {Qy : Option Value → Heap → Prop} (hM : Con l y bytes maxL ret [] rm Z as' h n0 Qy) (has : (.ref a :: argsL).toArray = as') (eT : T.heap = h) (E : Exa Z h a K) (hsz : Ls.size = c.maxLocals) {ps : List FieldType} {rt : Option FieldType} (pd : parseMethodDescriptor y.desc = some ⟨ps, rt⟩) (hlen : argsL.length = ps.length) {rest : List Value} (hst : st = argsL.reverse ++ .ref a :: rest) {W : Nat} (hW : (rest.map fun v => v.category).sum ≤ W)
    (hf : rm.frames + 1 ≤ R.frames) (hl : W + (maxL + 11) + rm.locals ≤ R.locals) (hc : cells + rm.cells ≤ R.cells) (hs : slots + rm.slots ≤ R.slots) (hN : Fr n0 locs) (hd : decode c.code pc = .ok (.invokevirtual i, 3)) (hp : pc + 3 = pc')
    (k : ∀ v T' locs', Stand p l e R s m args below meth c T' locs' (cells + rm.cells) (slots + rm.slots) → Fr n0 locs' → Qy v T'.heap → OGoes p e s below Q n0 C N T' (mkF m pc' Ls (v.toList ++ rest))) : OGoes p e s below Q n0 C N T (mkF m pc Ls st) := by
  subst hp has
  have v2 : (Cond.instanceMethod y).before args s = true := mvT hZ w2
  have v4 : (Cond.code y bytes maxL ret).before args s = true := mvT hZ w4
  have vi : (Cond.instantiable y.cls kn).before args s = true := mvT hZ wi
  obtain ⟨mk, methM, hnamed, hmethM, hstM, habM⟩ := Cond.instanceMethod_spec v2
  obtain ⟨methM', cM, hmethM', -, -, -, -, -, -, hsigM⟩ := Cond.code_spec hnamed v4
  cases hmethM.symm.trans hmethM'
  obtain ⟨c2, kP, i1, i2, -, i4, -⟩ := Cond.instantiable_spec vi
  have hcl : c2 = mk.cls := Option.some.inj (i1.symm.trans (findClass_of_methodNamed hnamed))
  subst hcl
  have hitf : kP.isInterface = false := (Bool.or_eq_false_iff.mp i4).1
  obtain ⟨cell, hcell, hobj⟩ := E.cell
  have hselP : selectMethod e.platform s.vm cell.cls mk = .method mk := selectMethod_private hmethM ((Cond.privateMethod_at (mvP hZ w5 (args := #[]))) mk methM hnamed hmethM)
  obtain ⟨vm₁, X₁, hstep₁⟩ := X.invokevirtual hx hown (mvT hZ w1) hnamed hmethM hstM i2 hitf hy (a := a) (cell := cell) (by rw [eT]; exact hcell) hobj hselP hmethM habM i2 hitf (g := mkF m pc Ls st) rfl (argsL := argsL) (rest := rest) (lenOf pd hlen _ hsigM) hst hd
  have hBK := backOf (p := p) (e := e) (below := below) (args := args) (len := 3) (W := W) (Q := fun v h L => Fr n0 L ∧ Qy v h) hM hZ w4 w3 hf hl
  obtain ⟨v, ⟨T', L', k', n'⟩, X', ⟨L, ⟨hNL, hQ⟩, q1, q2, q3⟩, hsteps⟩ := hBK m meth c ⟨T.setVm vm₁, locs, cells, slots⟩ (mkF m pc Ls rest) (.invokevirtual i) mk (.ref a :: argsL).toArray X₁ rfl hsz hd (by show 2 * 0 + (rest.map fun v => v.category).sum ≤ W; omega) (X₁.named hnamed) ⟨rfl, eT, hc, hs⟩
  dsimp only [Pt.U, Pt.locs, Pt.cells, Pt.slots] at X' q1 q2 q3 hsteps hQ
  subst q1 q2 q3
  exact (k v T' _ X' (Fr.app hN hNL) hQ).go fun _ z => (hstep₁ _ fun acts => by rw [doInvoke_state]; exact Steps.refl _).trans (hsteps.trans z)

/-! numbers -/
theorem all_succ {P : Nat → Prop} {i : Nat} (h : ∀ y, y < i → P y) (hi : P i) : ∀ y, y < i + 1 → P y := fun y hy => by
  by_cases q : y = i
  · exact q ▸ hi
  · exact h y (by omega)
theorem oupd_at {A : Type} (f : Nat → A) (j : Nat) (v : A) : oupd f j v j = v := by simp [oupd]
theorem oupd_ne {A : Type} (f : Nat → A) {i j : Nat} (v : A) (q : ¬ i = j) : oupd f j v i = f i := by simp [oupd, q]
theorem i32_of_nat (n : Nat) (hn : n < 2147483648) : (Int32.ofNat n).toInt = (n : Int) := by
  rw [Int32.toInt_ofNat']; have hsz : (Int32.size : Int) = 4294967296 := rfl; exact Int.bmod_eq_of_le (by omega) (by omega)
theorem i32_get {x : Int32} (h : 0 ≤ x.toInt) : ∃ n : Nat, x.toInt = (n : Int) ∧ n < 2147483648 := ⟨x.toInt.toNat, (Int.toNat_of_nonneg h).symm, by have := x.toInt_lt; omega⟩
theorem oupdI (f : Nat → Int32) (j i : Nat) (v : Int32) : i = j ∧ (oupd f j v i).toInt = v.toInt ∨ ¬ i = j ∧ (oupd f j v i).toInt = (f i).toInt := by
  by_cases q : i = j
  · exact Or.inl ⟨q, by simp [oupd, q]⟩
  · exact Or.inr ⟨q, by simp [oupd, q]⟩
theorem oupdL (f : Nat → Int64) (j i : Nat) (v : Int64) : i = j ∧ (oupd f j v i).toInt = v.toInt ∨ ¬ i = j ∧ (oupd f j v i).toInt = (f i).toInt := by
  by_cases q : i = j
  · exact Or.inl ⟨q, by simp [oupd, q]⟩
  · exact Or.inr ⟨q, by simp [oupd, q]⟩

theorem g_copyLA (X : Stand p l e R s m args below meth c T locs cells slots) (hx : p.tables.exec = Jvm.exec) (hZ : Z.Warmed39 s.vm) {own : String} {i : Nat} (hown : s.vm.findClass own = some m.cls) (w1 : (Cond.methodLink own i acN).before a0 Z = true) (w2 : (Cond.native acN).before a0 Z = true) (w3 : (Cond.static acN).before a0 Z = true) (w4 : (Cond.initialized "java/lang/System").before a0 Z = true)
    (eT : T.heap = h) {a b n1 n2 k : Nat} {f g : Nat → Int64} {js jd jn : Int32} (F : LA Z h a n1 f) (G : LA Z h b n2 g) (hs : js.toInt = ((0 : Nat) : Int)) (hd0 : jd.toInt = ((0 : Nat) : Int)) (hn : jn.toInt = (k : Int)) (hk1 : k ≤ n1) (hk2 : k ≤ n2) (hsz : Ls.size = c.maxLocals) (hd : decode c.code pc = .ok (.invokestatic i, 3)) (hf : 1 ≤ R.frames) {W : Nat} (hW : (st.map fun v => v.category).sum ≤ W) (hl : W + 40 ≤ R.locals) (hN : Fr n0 locs) (hb0 : n0 ≤ b) (hp : pc + 3 = pc')
    (kk : ∀ T' h' locs', Stand p l e R s m args below meth c T' locs' cells slots → T'.heap = h' → Keep h h' [b] → Fr n0 locs' → LA Z h' b n2 (fun y => if y < k then f y else g y) → OGoes p e s below Q n0 C N T' (mkF m pc' Ls st)) : OGoes p e s below Q n0 C N T (mkF m pc Ls (.int jn :: .int jd :: .ref b :: .int js :: .ref a :: st)) := by
  subst hp
  obtain ⟨hn1, ca, A, zA, HA⟩ := F
  obtain ⟨hn2, cb, B, zB, HB⟩ := G
  obtain ⟨s1, s2⟩ := nclamp hs
  obtain ⟨d1, d2⟩ := nclamp hd0
  obtain ⟨m1, m2⟩ := nclamp hn
  obtain ⟨ob1, k1, hk1', c1, kd1⟩ := State.isArrayOf_alike hZ.alike A.2.1
  obtain ⟨ob2, k2, hk2', c2, kd2⟩ := State.isArrayOf_alike hZ.alike B.2.1
  have hwords : nativeFrameWords "java/lang/System" "arraycopy" 5 + 11 ≤ 40 := by decide
  obtain ⟨vm₁, -, X', st'⟩ := X.arraycopyK hx hown (mvT hZ w1) (mvT hZ w2) (mvT hZ w3) (mvT hZ w4) (src := a) (dst := b) (srcPos := js) (destPos := jd) (n := jn) (by rw [eT]; exact A.1) (by rw [eT]; exact B.1) ob1 ob2 A.2.2 B.2.2 hk1' hk2' kd1 kd2 rfl s2 d2 m2
    (by rw [hs, hn, zA]; omega) (by rw [hd0, hn, zB]; omega)
    (fun vmx hWx y hy => by
      rw [m1] at hy
      have hv : ca.slots.getD (js.toNatClampNeg + y) .null = .long (f y) := by
        rw [s1, Nat.zero_add, Array.getD_eq_getD_getElem?, HA y (by omega)]; rfl
      rw [hv]; exact ⟨rfl, trivial⟩)
    (g := mkF m pc Ls (.int jn :: .int jd :: .ref b :: .int js :: .ref a :: st)) rfl hsz rfl hd hf (by show 2 * 0 + _ + _ ≤ _; omega)
  obtain ⟨f1, f2, f3⟩ := SB.copied_facts ca cb js jd jn
  have hlt : b < T.heap.size := by rw [eT]; exact B.lt
  have hh : ((T.setVm vm₁).setCell b (copied ca cb js jd jn)).heap = T.heap.setIfInBounds b (copied ca cb js jd jn) := rfl
  have ejs : js = Int32.ofNat 0 := Int32.toInt_inj.mp (by rw [hs]; rfl)
  have ejn : jn = Int32.ofNat k := Int32.toInt_inj.mp (by rw [hn, i32_of_nat k (by omega)])
  have ejd : jd = Int32.ofNat 0 := Int32.toInt_inj.mp (by rw [hd0]; rfl)
  have cat : ∀ y, (copied ca cb js jd jn).slots[y]? = if 0 ≤ y ∧ y < 0 + k then some (ca.slots.getD (0 + (y - 0)) .null) else cb.slots[y]? := by
    rw [ejs, ejd, ejn]; exact Str.copied_at2 (by omega) (by omega) (by omega) (by rw [zB]; omega)
  refine (kk _ _ _ X' rfl ?_ (Fr.app hN (fun y hy => ?_)) ⟨hn2, copied ca cb js jd jn, ⟨?_, ?_, ?_⟩, by rw [f3]; exact zB, fun y hy => ?_⟩).go st'
  · rw [hh, eT]
    refine ⟨by simp, fun x cx q r => ?_, fun x cx q => ?_⟩
    · have : b ≠ x := fun z => r (by simp [z])
      rw [Array.getElem?_setIfInBounds_ne this]; exact q
    · by_cases z : b = x
      · subst z; cases B.1.symm.trans q
        exact ⟨copied ca cb js jd jn, by rw [Array.getElem?_setIfInBounds_self_of_lt (by rw [← eT]; exact hlt)], f1, f2, f3⟩
      · exact ⟨cx, by rw [Array.getElem?_setIfInBounds_ne z]; exact q, rfl, rfl, rfl⟩
  · obtain ⟨j, -, rfl⟩ := List.mem_map.mp hy; exact hb0
  · rw [hh, Array.getElem?_setIfInBounds_self_of_lt hlt]
  · obtain ⟨z1, z2⟩ := B.2.1
    exact ⟨fun q hq => z1 q (by rw [← f2]; exact hq), by rw [f1]; exact z2⟩
  · rw [f2]; exact B.2.2
  · rw [cat y]
    show _ = some (Value.long (if y < k then f y else g y))
    by_cases q : y < k
    · have hc : 0 ≤ y ∧ y < 0 + k := ⟨by omega, by omega⟩
      rw [if_pos hc, if_pos q, Nat.zero_add, Nat.sub_zero, Array.getD_eq_getD_getElem?, HA y (by omega)]; rfl
    · have hc : ¬ (0 ≤ y ∧ y < 0 + k) := by omega
      rw [if_neg hc, if_neg q]; exact HB y hy
end Laws
end Jvm.OwnKit

namespace Jvm.Pilot.@@N@@
open Jvm Jvm.ClassFile Sem Op Lib Jvm.Free Jvm.Stand Jvm.LawKit Jvm.RoadKit Bundle Jvm.OwnKit Jvm.Pilot.@@N@@.Jvm.D
theorem pd_0 : parseMethodDescriptor "(JJ)J" = some ⟨[.long, .long], some .long⟩ := by decide +kernel
theorem pd_1 : parseMethodDescriptor "(II)I" = some ⟨[.int, .int], some .int⟩ := by decide +kernel
theorem pd_2 : parseMethodDescriptor "([II)V" = some ⟨[(.array .int), .int], none⟩ := by decide +kernel
theorem pd_3 : parseMethodDescriptor "(I)V" = some ⟨[.int], none⟩ := by decide +kernel
theorem pd_4 : parseMethodDescriptor "()I" = some ⟨[], some .int⟩ := by decide +kernel
theorem pd_5 : parseMethodDescriptor "(I[JI)V" = some ⟨[.int, (.array .long), .int], none⟩ := by decide +kernel
theorem pd_6 : parseMethodDescriptor "(I[JI[J)I" = some ⟨[.int, (.array .long), .int, (.array .long)], some .int⟩ := by decide +kernel
theorem pd_7 : parseMethodDescriptor "(J[JI)Z" = some ⟨[.long, (.array .long), .int], some .boolean⟩ := by decide +kernel

/-- a merge under way: i of the n values and j of the m held ones are in the first k places of g -/
def own_M (m n : Nat) (fp fv : Nat → Int64) (i j k : Nat) (g : Nat → Int64) : Prop :=
  (i ≤ n ∧ j ≤ m ∧ k ≤ i + j) ∧ (∀ x, x + 1 < k → (g x).toInt < (g (x + 1)).toInt) ∧
  (∀ x, x < k → (∃ y, y < j ∧ g x = fp y) ∨ (∃ y, y < i ∧ g x = fv y)) ∧
  (∀ y, y < j → ∃ x, x < k ∧ g x = fp y) ∧ (∀ y, y < i → ∃ x, x < k ∧ g x = fv y) ∧
  (∀ x, x < k → i < n → (g x).toInt < (fv i).toInt) ∧ (∀ x, x < k → j < m → (g x).toInt < (fp j).toInt)
theorem own_at {g : Nat → Int64} {k : Nat} {e : Int64} : oupd g k e k = e := by simp [oupd]
theorem own_be {g : Nat → Int64} {k x : Nat} {e : Int64} (h : x < k) : oupd g k e x = g x := by have : ¬ x = k := by omega
                                                                                                simp [oupd, this]
theorem own_M0 (m n : Nat) (fp fv g : Nat → Int64) : own_M m n fp fv 0 0 0 g := by
  refine ⟨⟨by omega, by omega, by omega⟩, ?_, ?_, ?_, ?_, ?_, ?_⟩ <;> intro x h <;> omega
theorem own_Mv {m n : Nat} {fp fv : Nat → Int64} {i j k : Nat} {g : Nat → Int64} (hs : ∀ y, y + 1 < n → (fv y).toInt < (fv (y + 1)).toInt) (h : own_M m n fp fv i j k g) (hi : i < n) (hj : j < m → (fv i).toInt < (fp j).toInt) : own_M m n fp fv (i + 1) j (k + 1) (oupd g k (fv i)) := by
  obtain ⟨⟨a1, a2, a3⟩, b, c, d, e, f1, f2⟩ := h
  refine ⟨⟨by omega, a2, by omega⟩, fun x hx => ?_, fun x hx => ?_, fun y hy => ?_, fun y hy => ?_, fun x hx hn => ?_, fun x hx hm => ?_⟩
  · by_cases q : x + 1 = k
    · subst q; rw [own_at, own_be (by omega)]; exact f1 x (by omega) hi
    · rw [own_be (by omega), own_be (by omega)]; exact b x (by omega)
  · by_cases q : x = k
    · subst q; rw [own_at]; exact Or.inr ⟨i, by omega, rfl⟩
    · rw [own_be (by omega)]; exact (c x (by omega)).imp id fun ⟨y, hy, z⟩ => ⟨y, by omega, z⟩
  · obtain ⟨x, hx, z⟩ := d y hy; exact ⟨x, by omega, by rw [own_be hx]; exact z⟩
  · by_cases q : y = i
    · subst q; exact ⟨k, by omega, own_at⟩
    · obtain ⟨x, hx, z⟩ := e y (by omega); exact ⟨x, by omega, by rw [own_be hx]; exact z⟩
  · have o := hs i hn
    by_cases q : x = k
    · subst q; rw [own_at]; exact o
    · rw [own_be (by omega)]; have := f1 x (by omega) hi; omega
  · by_cases q : x = k
    · subst q; rw [own_at]; exact hj hm
    · rw [own_be (by omega)]; exact f2 x (by omega) hm
theorem own_Mh {m n : Nat} {fp fv : Nat → Int64} {i j k : Nat} {g : Nat → Int64} (hs : ∀ y, y + 1 < m → (fp y).toInt < (fp (y + 1)).toInt) (h : own_M m n fp fv i j k g) (hj : j < m) (hi : i < n → (fp j).toInt < (fv i).toInt) : own_M m n fp fv i (j + 1) (k + 1) (oupd g k (fp j)) := by
  obtain ⟨⟨a1, a2, a3⟩, b, c, d, e, f1, f2⟩ := h
  refine ⟨⟨a1, by omega, by omega⟩, fun x hx => ?_, fun x hx => ?_, fun y hy => ?_, fun y hy => ?_, fun x hx hn => ?_, fun x hx hm => ?_⟩
  · by_cases q : x + 1 = k
    · subst q; rw [own_at, own_be (by omega)]; exact f2 x (by omega) hj
    · rw [own_be (by omega), own_be (by omega)]; exact b x (by omega)
  · by_cases q : x = k
    · subst q; rw [own_at]; exact Or.inl ⟨j, by omega, rfl⟩
    · rw [own_be (by omega)]; exact (c x (by omega)).imp (fun ⟨y, hy, z⟩ => ⟨y, by omega, z⟩) id
  · by_cases q : y = j
    · subst q; exact ⟨k, by omega, own_at⟩
    · obtain ⟨x, hx, z⟩ := d y (by omega); exact ⟨x, by omega, by rw [own_be hx]; exact z⟩
  · obtain ⟨x, hx, z⟩ := e y hy; exact ⟨x, by omega, by rw [own_be hx]; exact z⟩
  · by_cases q : x = k
    · subst q; rw [own_at]; exact hi hn
    · rw [own_be (by omega)]; exact f1 x (by omega) hn
  · have o := hs j hm
    by_cases q : x = k
    · subst q; rw [own_at]; exact o
    · rw [own_be (by omega)]; have := f2 x (by omega) hj; omega
theorem own_Mb {m n : Nat} {fp fv : Nat → Int64} {i j k : Nat} {g : Nat → Int64} (hsv : ∀ y, y + 1 < n → (fv y).toInt < (fv (y + 1)).toInt) (hsp : ∀ y, y + 1 < m → (fp y).toInt < (fp (y + 1)).toInt) (h : own_M m n fp fv i j k g) (hi : i < n) (hj : j < m) (he : (fv i).toInt = (fp j).toInt) : own_M m n fp fv (i + 1) (j + 1) (k + 1) (oupd g k (fv i)) := by
  have heq : fv i = fp j := Int64.toInt_inj.mp he
  obtain ⟨⟨a1, a2, a3⟩, b, c, d, e, f1, f2⟩ := h
  refine ⟨⟨by omega, by omega, by omega⟩, fun x hx => ?_, fun x hx => ?_, fun y hy => ?_, fun y hy => ?_, fun x hx hn => ?_, fun x hx hm => ?_⟩
  · by_cases q : x + 1 = k
    · subst q; rw [own_at, own_be (by omega)]; exact f1 x (by omega) hi
    · rw [own_be (by omega), own_be (by omega)]; exact b x (by omega)
  · by_cases q : x = k
    · subst q; rw [own_at]; exact Or.inr ⟨i, by omega, rfl⟩
    · rw [own_be (by omega)]; exact (c x (by omega)).imp (fun ⟨y, hy, z⟩ => ⟨y, by omega, z⟩) fun ⟨y, hy, z⟩ => ⟨y, by omega, z⟩
  · by_cases q : y = j
    · subst q; exact ⟨k, by omega, by rw [own_at]; exact heq⟩
    · obtain ⟨x, hx, z⟩ := d y (by omega); exact ⟨x, by omega, by rw [own_be hx]; exact z⟩
  · by_cases q : y = i
    · subst q; exact ⟨k, by omega, own_at⟩
    · obtain ⟨x, hx, z⟩ := e y (by omega); exact ⟨x, by omega, by rw [own_be hx]; exact z⟩
  · have o := hsv i hn
    by_cases q : x = k
    · subst q; rw [own_at]; exact o
    · rw [own_be (by omega)]; have := f1 x (by omega) hi; omega
  · have o := hsp j hm
    by_cases q : x = k
    · subst q; rw [own_at, heq]; exact o
    · rw [own_be (by omega)]; have := f2 x (by omega) hj; omega

def own_cp (k : Nat) (f g : Nat → Int64) : Nat → Int64 := fun y => if y < k then f y else g y
theorem own_cp_at {k : Nat} {f g : Nat → Int64} {y : Nat} (h : y < k) : own_cp k f g y = f y := if_pos h
def own_two (x y : Int64) : Nat → Int64 := oupd (oupd zeroL 0 x) 1 y
theorem own_asc {f : Nat → Int64} {k : Nat} (h2 : k ≤ 2) (h : k = 2 → (f 0).toInt < (f 1).toInt) : ∀ y, y + 1 < k → (f y).toInt < (f (y + 1)).toInt := by
  intro y hy
  have e : y = 0 := by omega
  subst e
  exact h (by omega)
theorem own_asc_cp {f g : Nat → Int64} {k : Nat} (h2 : k ≤ 2) (h : k = 2 → (f 0).toInt < (f 1).toInt) : ∀ y, y + 1 < k → (own_cp k f g y).toInt < (own_cp k f g (y + 1)).toInt := by
  intro y hy
  rw [own_cp_at (by omega), own_cp_at hy]
  exact own_asc h2 h y hy
theorem own_law {m n s : Nat} {f g0 fv g : Nat → Int64} (h : own_M m n (own_cp m f g0) fv n m s g) : s ≤ m + n ∧ (∀ x, x + 1 < s → (g x).toInt < (g (x + 1)).toInt) ∧ (∀ x, x < s → (∃ y, y < m ∧ f y = g x) ∨ ∃ y, y < n ∧ fv y = g x) ∧ (∀ y, y < m → ∃ x, x < s ∧ g x = f y) ∧ (∀ y, y < n → ∃ x, x < s ∧ g x = fv y) := by
  obtain ⟨⟨-, -, a3⟩, b, c, d, e, -, -⟩ := h
  refine ⟨by omega, b, fun x hx => (c x hx).imp (fun ⟨y, hy, z⟩ => ⟨y, hy, by rw [z, own_cp_at hy]⟩) (fun ⟨y, hy, z⟩ => ⟨y, hy, z.symm⟩), fun y hy => ?_, e⟩
  obtain ⟨x, hx, z⟩ := d y hy
  exact ⟨x, hx, by rw [z, own_cp_at hy]⟩
theorem own_incT {x : Int32} {k : Nat} (hx : x.toInt = (k : Int)) (hk : k < 1000000) : (x + (1 : Int32)).toInt = ((k + 1 : Nat) : Int) := by
  have q := c_iadd x 1
  have l : (1 : Int32).toInt = 1 := rfl
  have q1 := (x + (1 : Int32)).toInt_lt
  have q2 := (x + (1 : Int32)).le_toInt
  rw [hx, l] at q; omega
theorem own_sum {x y : Int32} {k : Nat} (hx : x.toInt = ((0 : Nat) : Int)) (hy : y.toInt = (k : Int)) : (x + y).toInt = (k : Int) := by
  have q := c_iadd x y
  have q1 := (x + y).toInt_lt
  have q2 := (x + y).le_toInt
  have q3 := y.toInt_lt
  rw [hx, hy] at q; omega
theorem own_room {y : Int32} {k : Nat} (hy : y.toInt = (k : Int)) : ((0 : Int32).toInt64 + y.toInt64).toInt = (k : Int) := by
  have q := c_ladd (0 : Int32).toInt64 y.toInt64
  have q0 : (0 : Int32).toInt64.toInt = 0 := by decide
  have q1 := ((0 : Int32).toInt64 + y.toInt64).toInt_lt
  have q2 := ((0 : Int32).toInt64 + y.toInt64).le_toInt
  have q3 := y.toInt_lt
  rw [c_i2l y, hy, q0] at q; omega
theorem own_none {k : Nat} {f : Nat → Int64} {q : Int64} (h4 : k ≤ 4) (h0 : 0 < k → ¬ (f 0).toInt = q.toInt) (h1 : 1 < k → ¬ (f 1).toInt = q.toInt) (h2 : 2 < k → ¬ (f 2).toInt = q.toInt) (h3 : 3 < k → ¬ (f 3).toInt = q.toInt) : ¬ ∃ y, y < k ∧ f y = q := by
  rintro ⟨y, hy, z⟩
  have z2 := congrArg Int64.toInt z
  have hc : y = 0 ∨ y = 1 ∨ y = 2 ∨ y = 3 := by omega
  rcases hc with rfl | rfl | rfl | rfl
  · exact h0 hy z2
  · exact h1 hy z2
  · exact h2 hy z2
  · exact h3 hy z2
theorem own_cnt (p : Int32) : 0 ≤ ((p &&& 2147483647) % 3).toInt ∧ ((p &&& 2147483647) % 3).toInt ≤ 2 := by
  have m := c_mask p 2147483647 31 (by decide) (by decide)
  have r := c_irem (p &&& 2147483647) 3 3 rfl
  omega
theorem d1_0 : decode jdk_29_method_70_code 0 = .ok (.lload_n 0, 1) := by decide +kernel
theorem d1_1 : decode jdk_29_method_70_code 1 = .ok (.lload_n 2, 1) := by decide +kernel
theorem d1_2 : decode jdk_29_method_70_code 2 = .ok (.lcmp, 1) := by decide +kernel
theorem d1_3 : decode jdk_29_method_70_code 3 = .ok (.ifCond .gt 7, 3) := by decide +kernel
theorem d1_6 : decode jdk_29_method_70_code 6 = .ok (.lload_n 0, 1) := by decide +kernel
theorem d1_7 : decode jdk_29_method_70_code 7 = .ok (.goto 4, 3) := by decide +kernel
theorem d1_10 : decode jdk_29_method_70_code 10 = .ok (.lload_n 2, 1) := by decide +kernel
theorem d1_11 : decode jdk_29_method_70_code 11 = .ok (.lreturn, 1) := by decide +kernel
theorem pn_0 : plainFor (⟨"java/lang/Math", "min", "(JJ)J"⟩ : MethodName) = true := by first | exact plainFor_of_name (by first | (simp [plainName, overriddenIn]; done) | decide +kernel) | decide +kernel
def Q1 (Z : State) (p1 : Int64) (p2 : Int64) (h0 : Heap) (n0 : Nat) (v : Option Value) (h : Heap) : Prop := ∃ b : Int64, v = some (.long b) ∧ (p1.toInt ≤ p2.toInt ∧ b.toInt = p1.toInt ∨ p2.toInt < p1.toInt ∧ b.toInt = p2.toInt) ∧ h = h0
abbrev R1 : Room := { frames := 0, cells := 0, slots := 0, locals := 0 }
set_option maxRecDepth 65536 in
set_option maxHeartbeats 40000000 in
theorem rm1 (l : Launch) (Z : State) (a0 : Array Value) (hw : ∀ d ∈ tables_1, d.before a0 Z = true)  (p1 : Int64) (p2 : Int64) (h0 : Heap) (n0 : Nat) (Z0 : NLe n0 h0.size)  :
    Con l (⟨"java/lang/Math", "min", "(JJ)J"⟩ : MethodName) jdk_29_method_70_code 4 (some .long) [] R1 Z #[(.long p1), (.long p2)] h0 n0 (Q1 Z p1 p2 h0 n0) := by
  refine con_of (Ls0 := #[.val (.long p1), .second, .val (.long p2), .second]) pn_0 (fun m => by first | (simp [entryFrame, mkF, argsToLocals, Value.category, maxLocals]; done) | rfl) ?_
  intro p e s m below meth c s₁ X0 hx hby hml hZ hown hnm hret hlk e0 N0
  show OGoes p e s below (Q1 Z p1 p2 h0 n0) n0 R1.cells R1.slots s₁ (mkF m 0 #[.val (.long p1), .second, .val (.long p2), .second] [])
  refine g_lloadN X0 hx (hb hby d1_0) (v := p1) rfl (pc' := 1) rfl ?_
  refine g_lloadN X0 hx (hb hby d1_1) (v := p2) rfl (pc' := 2) rfl ?_
  refine g_ll_gt X0 hx (a := p1.toInt) (b := p2.toInt) rfl rfl (hb hby d1_2) (pc1 := 3) rfl (hb hby d1_3) (by decide) (pc' := 10) (by decide) (pc2 := 6) rfl (fun c1 => ?_) (fun c1 => ?_)
  · refine g_lloadN X0 hx (hb hby d1_10) (v := p2) rfl (pc' := 11) rfl ?_
    refine g_retJ X0 hx hlk hret (hb hby d1_11) N0 (by decide) (by decide) ?_
    exact ⟨_, rfl, by omega, e0⟩
  · refine g_lloadN X0 hx (hb hby d1_6) (v := p1) rfl (pc' := 7) rfl ?_
    refine g_goto X0 hx (hb hby d1_7) (by decide) (pc' := 11) (by decide) ?_
    refine g_retJ X0 hx hlk hret (hb hby d1_11) N0 (by decide) (by decide) ?_
    exact ⟨_, rfl, by omega, e0⟩
theorem d2_0 : decode jdk_29_method_66_code 0 = .ok (.lload_n 0, 1) := by decide +kernel
theorem d2_1 : decode jdk_29_method_66_code 1 = .ok (.lload_n 2, 1) := by decide +kernel
theorem d2_2 : decode jdk_29_method_66_code 2 = .ok (.lcmp, 1) := by decide +kernel
theorem d2_3 : decode jdk_29_method_66_code 3 = .ok (.ifCond .lt 7, 3) := by decide +kernel
theorem d2_6 : decode jdk_29_method_66_code 6 = .ok (.lload_n 0, 1) := by decide +kernel
theorem d2_7 : decode jdk_29_method_66_code 7 = .ok (.goto 4, 3) := by decide +kernel
theorem d2_10 : decode jdk_29_method_66_code 10 = .ok (.lload_n 2, 1) := by decide +kernel
theorem d2_11 : decode jdk_29_method_66_code 11 = .ok (.lreturn, 1) := by decide +kernel
theorem pn_1 : plainFor (⟨"java/lang/Math", "max", "(JJ)J"⟩ : MethodName) = true := by first | exact plainFor_of_name (by first | (simp [plainName, overriddenIn]; done) | decide +kernel) | decide +kernel
def Q2 (Z : State) (p1 : Int64) (p2 : Int64) (h0 : Heap) (n0 : Nat) (v : Option Value) (h : Heap) : Prop := ∃ b : Int64, v = some (.long b) ∧ (p2.toInt ≤ p1.toInt ∧ b.toInt = p1.toInt ∨ p1.toInt < p2.toInt ∧ b.toInt = p2.toInt) ∧ h = h0
abbrev R2 : Room := { frames := 0, cells := 0, slots := 0, locals := 0 }
set_option maxRecDepth 65536 in
set_option maxHeartbeats 40000000 in
theorem rm2 (l : Launch) (Z : State) (a0 : Array Value) (hw : ∀ d ∈ tables_1, d.before a0 Z = true)  (p1 : Int64) (p2 : Int64) (h0 : Heap) (n0 : Nat) (Z0 : NLe n0 h0.size)  :
    Con l (⟨"java/lang/Math", "max", "(JJ)J"⟩ : MethodName) jdk_29_method_66_code 4 (some .long) [] R2 Z #[(.long p1), (.long p2)] h0 n0 (Q2 Z p1 p2 h0 n0) := by
  refine con_of (Ls0 := #[.val (.long p1), .second, .val (.long p2), .second]) pn_1 (fun m => by first | (simp [entryFrame, mkF, argsToLocals, Value.category, maxLocals]; done) | rfl) ?_
  intro p e s m below meth c s₁ X0 hx hby hml hZ hown hnm hret hlk e0 N0
  show OGoes p e s below (Q2 Z p1 p2 h0 n0) n0 R2.cells R2.slots s₁ (mkF m 0 #[.val (.long p1), .second, .val (.long p2), .second] [])
  refine g_lloadN X0 hx (hb hby d2_0) (v := p1) rfl (pc' := 1) rfl ?_
  refine g_lloadN X0 hx (hb hby d2_1) (v := p2) rfl (pc' := 2) rfl ?_
  refine g_ll_lt X0 hx (a := p1.toInt) (b := p2.toInt) rfl rfl (hb hby d2_2) (pc1 := 3) rfl (hb hby d2_3) (by decide) (pc' := 10) (by decide) (pc2 := 6) rfl (fun c1 => ?_) (fun c1 => ?_)
  · refine g_lloadN X0 hx (hb hby d2_10) (v := p2) rfl (pc' := 11) rfl ?_
    refine g_retJ X0 hx hlk hret (hb hby d2_11) N0 (by decide) (by decide) ?_
    exact ⟨_, rfl, by omega, e0⟩
  · refine g_lloadN X0 hx (hb hby d2_6) (v := p1) rfl (pc' := 7) rfl ?_
    refine g_goto X0 hx (hb hby d2_7) (by decide) (pc' := 11) (by decide) ?_
    refine g_retJ X0 hx hlk hret (hb hby d2_11) N0 (by decide) (by decide) ?_
    exact ⟨_, rfl, by omega, e0⟩
theorem d5_0 : decode jdk_29_method_65_code 0 = .ok (.iload_n 0, 1) := by decide +kernel
theorem d5_1 : decode jdk_29_method_65_code 1 = .ok (.iload_n 1, 1) := by decide +kernel
theorem d5_2 : decode jdk_29_method_65_code 2 = .ok (.if_icmp .lt 7, 3) := by decide +kernel
theorem d5_5 : decode jdk_29_method_65_code 5 = .ok (.iload_n 0, 1) := by decide +kernel
theorem d5_6 : decode jdk_29_method_65_code 6 = .ok (.goto 4, 3) := by decide +kernel
theorem d5_9 : decode jdk_29_method_65_code 9 = .ok (.iload_n 1, 1) := by decide +kernel
theorem d5_10 : decode jdk_29_method_65_code 10 = .ok (.ireturn, 1) := by decide +kernel
theorem pn_2 : plainFor (⟨"java/lang/Math", "max", "(II)I"⟩ : MethodName) = true := by first | exact plainFor_of_name (by first | (simp [plainName, overriddenIn]; done) | decide +kernel) | decide +kernel
def Q3 (Z : State) (p1 : Int32) (p2 : Int32) (h0 : Heap) (n0 : Nat) (v : Option Value) (h : Heap) : Prop := ∃ b : Int32, v = some (.int b) ∧ (p2.toInt ≤ p1.toInt ∧ b.toInt = p1.toInt ∨ p1.toInt < p2.toInt ∧ b.toInt = p2.toInt) ∧ h = h0
abbrev R3 : Room := { frames := 0, cells := 0, slots := 0, locals := 0 }
set_option maxRecDepth 65536 in
set_option maxHeartbeats 40000000 in
theorem rm3 (l : Launch) (Z : State) (a0 : Array Value) (hw : ∀ d ∈ tables_1, d.before a0 Z = true)  (p1 : Int32) (p2 : Int32) (h0 : Heap) (n0 : Nat) (Z0 : NLe n0 h0.size)  :
    Con l (⟨"java/lang/Math", "max", "(II)I"⟩ : MethodName) jdk_29_method_65_code 2 (some .int) [] R3 Z #[(.int p1), (.int p2)] h0 n0 (Q3 Z p1 p2 h0 n0) := by
  refine con_of (Ls0 := #[.val (.int p1), .val (.int p2)]) pn_2 (fun m => by first | (simp [entryFrame, mkF, argsToLocals, Value.category, maxLocals]; done) | rfl) ?_
  intro p e s m below meth c s₁ X0 hx hby hml hZ hown hnm hret hlk e0 N0
  show OGoes p e s below (Q3 Z p1 p2 h0 n0) n0 R3.cells R3.slots s₁ (mkF m 0 #[.val (.int p1), .val (.int p2)] [])
  refine g_iloadN X0 hx (hb hby d5_0) (v := p1) rfl (pc' := 1) rfl ?_
  refine g_iloadN X0 hx (hb hby d5_1) (v := p2) rfl (pc' := 2) rfl ?_
  refine g_ii_lt X0 hx (a := p1.toInt) (b := p2.toInt) rfl rfl (hb hby d5_2) (by decide) (pc' := 9) (by decide) (pc2 := 5) rfl (fun c1 => ?_) (fun c1 => ?_)
  · refine g_iloadN X0 hx (hb hby d5_9) (v := p2) rfl (pc' := 10) rfl ?_
    refine g_retI X0 hx hlk hret (hb hby d5_10) N0 (by decide) (by decide) ?_
    exact ⟨_, rfl, by omega, e0⟩
  · refine g_iloadN X0 hx (hb hby d5_5) (v := p1) rfl (pc' := 6) rfl ?_
    refine g_goto X0 hx (hb hby d5_6) (by decide) (pc' := 10) (by decide) ?_
    refine g_retI X0 hx hlk hret (hb hby d5_10) N0 (by decide) (by decide) ?_
    exact ⟨_, rfl, by omega, e0⟩
def own_const (v : Int32) : Nat → Int32 := fun _ => v
theorem d6_0 : decode jdk_65_method_103_code 0 = .ok (.iconst 0, 1) := by decide +kernel
theorem d6_1 : decode jdk_65_method_103_code 1 = .ok (.istore_n 2, 1) := by decide +kernel
theorem d6_2 : decode jdk_65_method_103_code 2 = .ok (.aload_n 0, 1) := by decide +kernel
theorem d6_3 : decode jdk_65_method_103_code 3 = .ok (.arraylength, 1) := by decide +kernel
theorem d6_4 : decode jdk_65_method_103_code 4 = .ok (.istore_n 3, 1) := by decide +kernel
theorem d6_5 : decode jdk_65_method_103_code 5 = .ok (.iload_n 2, 1) := by decide +kernel
theorem d6_6 : decode jdk_65_method_103_code 6 = .ok (.iload_n 3, 1) := by decide +kernel
theorem d6_7 : decode jdk_65_method_103_code 7 = .ok (.if_icmp .ge 13, 3) := by decide +kernel
theorem d6_10 : decode jdk_65_method_103_code 10 = .ok (.aload_n 0, 1) := by decide +kernel
theorem d6_11 : decode jdk_65_method_103_code 11 = .ok (.iload_n 2, 1) := by decide +kernel
theorem d6_12 : decode jdk_65_method_103_code 12 = .ok (.iload_n 1, 1) := by decide +kernel
theorem d6_13 : decode jdk_65_method_103_code 13 = .ok (.iastore, 1) := by decide +kernel
theorem d6_14 : decode jdk_65_method_103_code 14 = .ok (.iinc 2 1, 3) := by decide +kernel
theorem d6_17 : decode jdk_65_method_103_code 17 = .ok (.goto (-12), 3) := by decide +kernel
theorem d6_20 : decode jdk_65_method_103_code 20 = .ok (.return_, 1) := by decide +kernel
theorem pn_3 : plainFor (⟨"java/util/Arrays", "fill", "([II)V"⟩ : MethodName) = true := by first | exact plainFor_of_name (by first | (simp [plainName, overriddenIn]; done) | decide +kernel) | decide +kernel
def Q4 (Z : State) (t : Addr) (p2 : Int32) (n : Nat) (f : Nat → Int32) (h0 : Heap) (n0 : Nat) (v : Option Value) (h : Heap) : Prop := v = none ∧ Keep h0 h [t] ∧ IA Z h t n (own_const p2)
abbrev R4 : Room := { frames := 0, cells := 0, slots := 0, locals := 0 }
set_option maxRecDepth 65536 in
set_option maxHeartbeats 40000000 in
theorem rm4 (l : Launch) (Z : State) (a0 : Array Value) (hw : ∀ d ∈ tables_1, d.before a0 Z = true)  (t : Addr) (p2 : Int32) (n : Nat) (f : Nat → Int32) (h0 : Heap) (n0 : Nat) (Z0 : NLe n0 h0.size) (Fp0 : IA Z h0 t n f) (gn_t : NLe n0 t) :
    Con l (⟨"java/util/Arrays", "fill", "([II)V"⟩ : MethodName) jdk_65_method_103_code 4 none [] R4 Z #[(.ref t), (.int p2)] h0 n0 (Q4 Z t p2 n f h0 n0) := by
  refine con_of (Ls0 := #[.val (.ref t), .val (.int p2), .unset, .unset]) pn_3 (fun m => by first | (simp [entryFrame, mkF, argsToLocals, Value.category, maxLocals]; done) | rfl) ?_
  intro p e s m below meth c s₁ X0 hx hby hml hZ hown hnm hret hlk e0 N0
  show OGoes p e s below (Q4 Z t p2 n f h0 n0) n0 R4.cells R4.slots s₁ (mkF m 0 #[.val (.ref t), .val (.int p2), .unset, .unset] [])
  have K0 : Keep h0 h0 [t] := Keep.refl _ _
  have hn := i32_of_nat n Fp0.1
  refine g_iconst X0 hx (hb hby d6_0) (v := 0) (by decide) (pc' := 1) rfl ?_
  refine g_istoreN X0 hx (hb hby d6_1) (Ls' := #[.val (.ref t), .val (.int p2), .val (.int (0 : Int32)), .unset]) rfl (pc' := 2) rfl ?_
  refine g_aloadN X0 hx (hb hby d6_2) (v := (.ref t)) rfl rfl (pc' := 3) rfl ?_
  refine g_lenIA X0 hx hZ e0 (z := (Int32.ofNat n)) Fp0 (i32_of_nat n Fp0.1) (hb hby d6_3) (pc' := 4) rfl ?_
  refine g_istoreN X0 hx (hb hby d6_4) (Ls' := #[.val (.ref t), .val (.int p2), .val (.int (0 : Int32)), .val (.int (Int32.ofNat n))]) rfl (pc' := 5) rfl ?_
  have loop : ∀ (k : Nat) (i : Nat) (j : Int32) (g : Nat → Int32) (Tl : State) (Ll : List Loc) (hl : Heap) , i + k = n → j.toInt = (i : Int) → (∀ y, y < i → g y = own_const p2 y) → Stand p l e R4 s m #[(.ref t), (.int p2)] below meth c Tl Ll 0 0 → Tl.heap = hl → Fr n0 Ll → NLe n0 hl.size → IA Z hl t n g → Keep h0 hl [t] → OGoes p e s below (Q4 Z t p2 n f h0 n0) n0 R4.cells R4.slots Tl (mkF m 5 #[.val (.ref t), .val (.int p2), .val (.int j), .val (.int (Int32.ofNat n))] []) := by
    intro k; induction k with
    | zero =>
      intro i j g Tl Ll hl hik hj hf Xl El Nl Zl Fl0 Kl
      refine g_iloadN Xl hx (hb hby d6_5) (v := j) rfl (pc' := 6) rfl ?_
      refine g_iloadN Xl hx (hb hby d6_6) (v := (Int32.ofNat n)) rfl (pc' := 7) rfl ?_
      refine g_ii_ge Xl hx (a := (i : Int)) (b := (n : Int)) hj hn (hb hby d6_7) (by decide) (pc' := 20) (by decide) (pc2 := 10) rfl (fun c1 => ?_) (fun c1 => False.elim (by omega))
      refine g_retV Xl hx hlk hret (hb hby d6_20) Nl (by decide) (by decide) ?_
      rw [El]
      exact ⟨rfl, Kl, (Fl0.congr fun y hy => hf y (by omega))⟩
    | succ k ih =>
      intro i j g Tl Ll hl hik hj hf Xl El Nl Zl Fl0 Kl
      refine g_iloadN Xl hx (hb hby d6_5) (v := j) rfl (pc' := 6) rfl ?_
      refine g_iloadN Xl hx (hb hby d6_6) (v := (Int32.ofNat n)) rfl (pc' := 7) rfl ?_
      refine g_ii_ge Xl hx (a := (i : Int)) (b := (n : Int)) hj hn (hb hby d6_7) (by decide) (pc' := 20) (by decide) (pc2 := 10) rfl (fun c2 => False.elim (by omega)) (fun c2 => ?_)
      refine g_aloadN Xl hx (hb hby d6_10) (v := (.ref t)) rfl rfl (pc' := 11) rfl ?_
      refine g_iloadN Xl hx (hb hby d6_11) (v := j) rfl (pc' := 12) rfl ?_
      refine g_iloadN Xl hx (hb hby d6_12) (v := p2) rfl (pc' := 13) rfl ?_
      refine g_iastore Xl hx hZ El (k := i) (x := p2) Fl0 hj (by omega) Nl gn_t (hb hby d6_13) (pc' := 14) rfl (fun T3 h4 L5 X6 e7 W8 N9 A10 => ?_)
      have K11 := Kl.wr W8 (Or.inl (by simp))
      have Z12 : NLe n0 h4.size := Zl.wr W8
      have ad := c_iadd j 1; have l1 : (1 : Int32).toInt = 1 := rfl; have t1 := (j + 1).toInt_lt; have t2 := (j + 1).le_toInt; have t3 := (Int32.ofNat n).toInt_lt
      refine g_iinc X6 hx (hb hby d6_14) (v := 1) (by decide) (x := j) rfl (Ls' := #[.val (.ref t), .val (.int p2), .val (.int (j + (1 : Int32))), .val (.int (Int32.ofNat n))]) rfl (pc' := 17) rfl ?_
      refine g_goto X6 hx (hb hby d6_17) (by decide) (pc' := 5) (by decide) ?_
      exact ih (i + 1) (j + (1 : Int32)) (oupd g i p2) _ _ _ (by omega) (by omega) (all_succ (P := fun y => oupd g i p2 y = own_const p2 y) (fun y hy => (oupd_ne g p2 (by omega)).trans (hf y hy)) (oupd_at g i p2)) X6 e7 N9 Z12 A10 K11
  exact loop n 0 (0 : Int32) f _ _ _ (by omega) rfl (fun y hy => absurd hy (by omega)) X0 e0 N0 Z0 Fp0 K0
theorem d3_0 : decode prog_86_method_1_code 0 = .ok (.aload_n 0, 1) := by decide +kernel
theorem d3_1 : decode prog_86_method_1_code 1 = .ok (.invokespecial 3, 3) := by decide +kernel
theorem d3_4 : decode prog_86_method_1_code 4 = .ok (.aload_n 0, 1) := by decide +kernel
theorem d3_5 : decode prog_86_method_1_code 5 = .ok (.bipush 16, 2) := by decide +kernel
theorem d3_7 : decode prog_86_method_1_code 7 = .ok (.newarray .int, 2) := by decide +kernel
theorem d3_9 : decode prog_86_method_1_code 9 = .ok (.putfield 9, 3) := by decide +kernel
theorem d3_12 : decode prog_86_method_1_code 12 = .ok (.aload_n 0, 1) := by decide +kernel
theorem d3_13 : decode prog_86_method_1_code 13 = .ok (.aload_n 0, 1) := by decide +kernel
theorem d3_14 : decode prog_86_method_1_code 14 = .ok (.getfield 9, 3) := by decide +kernel
theorem d3_17 : decode prog_86_method_1_code 17 = .ok (.arraylength, 1) := by decide +kernel
theorem d3_18 : decode prog_86_method_1_code 18 = .ok (.newarray .int, 2) := by decide +kernel
theorem d3_20 : decode prog_86_method_1_code 20 = .ok (.putfield 15, 3) := by decide +kernel
theorem d3_23 : decode prog_86_method_1_code 23 = .ok (.aload_n 0, 1) := by decide +kernel
theorem d3_24 : decode prog_86_method_1_code 24 = .ok (.aload_n 0, 1) := by decide +kernel
theorem d3_25 : decode prog_86_method_1_code 25 = .ok (.getfield 9, 3) := by decide +kernel
theorem d3_28 : decode prog_86_method_1_code 28 = .ok (.arraylength, 1) := by decide +kernel
theorem d3_29 : decode prog_86_method_1_code 29 = .ok (.newarray .long, 2) := by decide +kernel
theorem d3_31 : decode prog_86_method_1_code 31 = .ok (.putfield 18, 3) := by decide +kernel
theorem d3_34 : decode prog_86_method_1_code 34 = .ok (.aload_n 0, 1) := by decide +kernel
theorem d3_35 : decode prog_86_method_1_code 35 = .ok (.aload_n 0, 1) := by decide +kernel
theorem d3_36 : decode prog_86_method_1_code 36 = .ok (.getfield 9, 3) := by decide +kernel
theorem d3_39 : decode prog_86_method_1_code 39 = .ok (.arraylength, 1) := by decide +kernel
theorem d3_40 : decode prog_86_method_1_code 40 = .ok (.newarray .int, 2) := by decide +kernel
theorem d3_42 : decode prog_86_method_1_code 42 = .ok (.putfield 22, 3) := by decide +kernel
theorem d3_45 : decode prog_86_method_1_code 45 = .ok (.aload_n 0, 1) := by decide +kernel
theorem d3_46 : decode prog_86_method_1_code 46 = .ok (.iload_n 1, 1) := by decide +kernel
theorem d3_47 : decode prog_86_method_1_code 47 = .ok (.bipush 16, 2) := by decide +kernel
theorem d3_49 : decode prog_86_method_1_code 49 = .ok (.invokestatic 25, 3) := by decide +kernel
theorem d3_52 : decode prog_86_method_1_code 52 = .ok (.newarray .long, 2) := by decide +kernel
theorem d3_54 : decode prog_86_method_1_code 54 = .ok (.putfield 31, 3) := by decide +kernel
theorem d3_57 : decode prog_86_method_1_code 57 = .ok (.aload_n 0, 1) := by decide +kernel
theorem d3_58 : decode prog_86_method_1_code 58 = .ok (.iload_n 1, 1) := by decide +kernel
theorem d3_59 : decode prog_86_method_1_code 59 = .ok (.newarray .int, 2) := by decide +kernel
theorem d3_61 : decode prog_86_method_1_code 61 = .ok (.putfield 34, 3) := by decide +kernel
theorem d3_64 : decode prog_86_method_1_code 64 = .ok (.aload_n 0, 1) := by decide +kernel
theorem d3_65 : decode prog_86_method_1_code 65 = .ok (.getfield 34, 3) := by decide +kernel
theorem d3_68 : decode prog_86_method_1_code 68 = .ok (.iconst (-1), 1) := by decide +kernel
theorem d3_69 : decode prog_86_method_1_code 69 = .ok (.invokestatic 37, 3) := by decide +kernel
theorem d3_72 : decode prog_86_method_1_code 72 = .ok (.return_, 1) := by decide +kernel
theorem pn_4 : plainFor (⟨"com/example/vetter/vetter/compare/PairSets", "<init>", "(I)V"⟩ : MethodName) = true := by first | exact plainFor_of_name (by first | (simp [plainName, overriddenIn]; done) | decide +kernel) | decide +kernel
def Q5 (Z : State) (a : Addr) (h0 : Heap) (n0 : Nat) (v : Option Value) (h : Heap) : Prop := ∃ ts : Addr, ∃ tz : Addr, ∃ th : Addr, ∃ tl : Addr, ∃ tp : Addr, ∃ to : Addr, v = none ∧ (Apart ts tz) ∧ (Apart ts th) ∧ (Apart ts tl) ∧ (Apart ts tp) ∧ (Apart ts to) ∧ (Apart tz th) ∧ (Apart tz tl) ∧ (Apart tz tp) ∧ (Apart tz to) ∧ (Apart th tl) ∧ (Apart th tp) ∧ (Apart th to) ∧ (Apart tl tp) ∧ (Apart tl to) ∧ (Apart tp to) ∧ NLe h0.size ts ∧ NLe h0.size tz ∧ NLe h0.size th ∧ NLe h0.size tl ∧ NLe h0.size tp ∧ NLe h0.size to ∧ Keep h0 h [a] ∧ Exa Z h a "com/example/vetter/vetter/compare/PairSets" ∧ Fld Z h a "com/example/vetter/vetter/compare/PairSets" "starts" "[I" (.ref ts) ∧ Fld Z h a "com/example/vetter/vetter/compare/PairSets" "sizes" "[I" (.ref tz) ∧ Fld Z h a "com/example/vetter/vetter/compare/PairSets" "hashes" "[J" (.ref th) ∧ Fld Z h a "com/example/vetter/vetter/compare/PairSets" "holders" "[I" (.ref tl) ∧ Fld Z h a "com/example/vetter/vetter/compare/PairSets" "pool" "[J" (.ref tp) ∧ Fld Z h a "com/example/vetter/vetter/compare/PairSets" "setOf" "[I" (.ref to) ∧ Fld Z h a "com/example/vetter/vetter/compare/PairSets" "used" "I" (.int (0 : Int32)) ∧ Fld Z h a "com/example/vetter/vetter/compare/PairSets" "count" "I" (.int (0 : Int32)) ∧ Fld Z h a "com/example/vetter/vetter/compare/PairSets" "dropped" "J" (.long (0 : Int64)) ∧ IA Z h ts 16 zeroI ∧ IA Z h tz 16 zeroI ∧ LA Z h th 16 zeroL ∧ IA Z h tl 16 zeroI ∧ LA Z h tp 16 zeroL ∧ IA Z h to 1 (own_const (-1 : Int32))
abbrev R5 : Room := { frames := 1, cells := 6, slots := 81, locals := 40 }
set_option maxRecDepth 65536 in
set_option maxHeartbeats 40000000 in
theorem rm5 (l : Launch) (Z : State) (a0 : Array Value) (hw : ∀ d ∈ tables_1, d.before a0 Z = true)  (a : Addr) (h0 : Heap) (n0 : Nat) (Z0 : NLe n0 h0.size) (Fp0 : Fld Z h0 a "com/example/vetter/vetter/compare/PairSets" "starts" "[I" .null) (Fp1 : Fld Z h0 a "com/example/vetter/vetter/compare/PairSets" "sizes" "[I" .null) (Fp2 : Fld Z h0 a "com/example/vetter/vetter/compare/PairSets" "hashes" "[J" .null) (Fp3 : Fld Z h0 a "com/example/vetter/vetter/compare/PairSets" "holders" "[I" .null) (Fp4 : Fld Z h0 a "com/example/vetter/vetter/compare/PairSets" "pool" "[J" .null) (Fp5 : Fld Z h0 a "com/example/vetter/vetter/compare/PairSets" "setOf" "[I" .null) (Fp6 : Fld Z h0 a "com/example/vetter/vetter/compare/PairSets" "used" "I" (.int (0 : Int32))) (Fp7 : Fld Z h0 a "com/example/vetter/vetter/compare/PairSets" "count" "I" (.int (0 : Int32))) (Fp8 : Fld Z h0 a "com/example/vetter/vetter/compare/PairSets" "dropped" "J" (.long (0 : Int64))) (Fp9 : Exa Z h0 a "com/example/vetter/vetter/compare/PairSets") (gn_a : NLe n0 a) :
    Con l (⟨"com/example/vetter/vetter/compare/PairSets", "<init>", "(I)V"⟩ : MethodName) prog_86_method_1_code 2 none [] R5 Z #[(.ref a), (.int (1 : Int32))] h0 n0 (Q5 Z a h0 n0) := by
  refine con_of (Ls0 := #[.val (.ref a), .val (.int (1 : Int32))]) pn_4 (fun m => by first | (simp [entryFrame, mkF, argsToLocals, Value.category, maxLocals]; done) | rfl) ?_
  intro p e s m below meth c s₁ X0 hx hby hml hZ hown hnm hret hlk e0 N0
  show OGoes p e s below (Q5 Z a h0 n0) n0 R5.cells R5.slots s₁ (mkF m 0 #[.val (.ref a), .val (.int (1 : Int32))] [])
  have K0 : Keep h0 h0 [a] := Keep.refl _ _
  have l16 : (16 : Int32).toInt = 16 := rfl; have l1 : (1 : Int32).toInt = 1 := rfl
  refine g_aloadN X0 hx (hb hby d3_0) (v := (.ref a)) rfl rfl (pc' := 1) rfl ?_
  refine g_initO X0 hx hZ hown (hw _ (List.mem_of_getElem? (i := 15) rfl)) (hw _ (List.mem_of_getElem? (i := 16) rfl)) (hw _ (List.mem_of_getElem? (i := 17) rfl)) e0 (by rw [hml]; rfl) (hb hby d3_1) (by decide) (W := 0) (Nat.le_of_eq rfl) (by decide) (pc' := 4) rfl (fun T1 X2 e3 => ?_)
  refine g_aloadN X2 hx (hb hby d3_4) (v := (.ref a)) rfl rfl (pc' := 5) rfl ?_
  refine g_bipush X2 hx (hb hby d3_5) (v := 16) (by decide) (pc' := 7) rfl ?_
  refine g_newIA X2 hx hZ (hw _ (List.mem_of_getElem? (i := 18) rfl)) e3 (n := 16) rfl (cap := 16) (by decide) (by decide) (hb hby d3_7) (by decide) (by decide) (pc' := 9) rfl (fun T4 h5 a6 g7 X8 e9 E10 l11 A12  => ?_)
  have Z13 : NLe n0 h5.size := Z0.tr E10.1
  have nl14 : NLe n0 a6 := NLe.at g7 Z0
  have ne15 : Apart a a6 := Apart.new g7 Fp0.lt
  have F16 := Fld.ext E10 Fp0
  have F17 := Fld.ext E10 Fp1
  have F18 := Fld.ext E10 Fp2
  have F19 := Fld.ext E10 Fp3
  have F20 := Fld.ext E10 Fp4
  have F21 := Fld.ext E10 Fp5
  have F22 := Fld.ext E10 Fp6
  have F23 := Fld.ext E10 Fp7
  have F24 := Fld.ext E10 Fp8
  have F25 := Exa.ext E10 Fp9
  have kf26 : NLe h0.size a6 := NLe.at g7 K0.1
  have K27 := K0.ext E10
  clear g7 l11
  refine g_putF X8 hx hZ hown (hw _ (List.mem_of_getElem? (i := 19) rfl)) e9 (v := (.ref a6)) F16 F25 (Or.inl (hw _ (List.mem_of_getElem? (i := 20) rfl))) (hw _ (List.mem_of_getElem? (i := 10) rfl)) (ty := (.array .int)) (by decide) rfl rfl N0 gn_a (hb hby d3_9) (pc' := 12) rfl (fun T28 h29 L30 X31 e32 W33 N34 => ?_)
  have K35 := K27.wr W33 (Or.inl (by simp))
  have Z36 : NLe n0 h29.size := Z13.wr W33
  have F37 := Fld.same W33 F16
  have F38 := Fld.other W33 F17 (Or.inr (slot_ne (Or.inl (hw _ (List.mem_of_getElem? (i := 22) rfl))) (Or.inl (hw _ (List.mem_of_getElem? (i := 20) rfl))) (by decide) (t := (.array .int)) (t' := (.array .int)) (by decide) (by decide)))
  have F39 := Fld.other W33 F18 (Or.inr (slot_ne (Or.inl (hw _ (List.mem_of_getElem? (i := 24) rfl))) (Or.inl (hw _ (List.mem_of_getElem? (i := 20) rfl))) (by decide) (t := (.array .long)) (t' := (.array .int)) (by decide) (by decide)))
  have F40 := Fld.other W33 F19 (Or.inr (slot_ne (Or.inl (hw _ (List.mem_of_getElem? (i := 26) rfl))) (Or.inl (hw _ (List.mem_of_getElem? (i := 20) rfl))) (by decide) (t := (.array .int)) (t' := (.array .int)) (by decide) (by decide)))
  have F41 := Fld.other W33 F20 (Or.inr (slot_ne (Or.inl (hw _ (List.mem_of_getElem? (i := 31) rfl))) (Or.inl (hw _ (List.mem_of_getElem? (i := 20) rfl))) (by decide) (t := (.array .long)) (t' := (.array .int)) (by decide) (by decide)))
  have F42 := Fld.other W33 F21 (Or.inr (slot_ne (Or.inr (hw _ (List.mem_of_getElem? (i := 33) rfl))) (Or.inl (hw _ (List.mem_of_getElem? (i := 20) rfl))) (by decide) (t := (.array .int)) (t' := (.array .int)) (by decide) (by decide)))
  have F43 := Fld.other W33 F22 (Or.inr (slot_ne (Or.inl (hw _ (List.mem_of_getElem? (i := 52) rfl))) (Or.inl (hw _ (List.mem_of_getElem? (i := 20) rfl))) (by decide) (t := .int) (t' := (.array .int)) (by decide) (by decide)))
  have F44 := Fld.other W33 F23 (Or.inr (slot_ne (Or.inl (hw _ (List.mem_of_getElem? (i := 58) rfl))) (Or.inl (hw _ (List.mem_of_getElem? (i := 20) rfl))) (by decide) (t := .int) (t' := (.array .int)) (by decide) (by decide)))
  have F45 := Fld.other W33 F24 (Or.inr (slot_ne (Or.inl (hw _ (List.mem_of_getElem? (i := 74) rfl))) (Or.inl (hw _ (List.mem_of_getElem? (i := 20) rfl))) (by decide) (t := .long) (t' := (.array .int)) (by decide) (by decide)))
  have F46 := Exa.wr W33 F25
  have F47 := A12.other W33 ne15.symm
  refine g_aloadN X31 hx (hb hby d3_12) (v := (.ref a)) rfl rfl (pc' := 13) rfl ?_
  refine g_aloadN X31 hx (hb hby d3_13) (v := (.ref a)) rfl rfl (pc' := 14) rfl ?_
  refine g_getF X31 hx hZ hown (hw _ (List.mem_of_getElem? (i := 19) rfl)) e32 F37 (hb hby d3_14) (pc' := 17) rfl (fun T48 X49 e50 => ?_)
  refine g_lenIA X49 hx hZ e50 (z := (16 : Int32)) F47 rfl (hb hby d3_17) (pc' := 18) rfl ?_
  refine g_newIA X49 hx hZ (hw _ (List.mem_of_getElem? (i := 18) rfl)) e50 (n := 16) rfl (cap := 16) (by decide) (by decide) (hb hby d3_18) (by decide) (by decide) (pc' := 20) rfl (fun T51 h52 a53 g54 X55 e56 E57 l58 A59  => ?_)
  have Z60 : NLe n0 h52.size := Z36.tr E57.1
  have nl61 : NLe n0 a53 := NLe.at g54 Z36
  have ne62 : Apart a a53 := Apart.new g54 F37.lt
  have ne63 : Apart a6 a53 := Apart.new g54 F47.lt
  have F64 := Fld.ext E57 F37
  have F65 := Fld.ext E57 F38
  have F66 := Fld.ext E57 F39
  have F67 := Fld.ext E57 F40
  have F68 := Fld.ext E57 F41
  have F69 := Fld.ext E57 F42
  have F70 := Fld.ext E57 F43
  have F71 := Fld.ext E57 F44
  have F72 := Fld.ext E57 F45
  have F73 := Exa.ext E57 F46
  have F74 := F47.ext E57
  have kf75 : NLe h0.size a53 := NLe.at g54 K35.1
  have K76 := K35.ext E57
  clear g54 l58
  refine g_putF X55 hx hZ hown (hw _ (List.mem_of_getElem? (i := 21) rfl)) e56 (v := (.ref a53)) F65 F73 (Or.inl (hw _ (List.mem_of_getElem? (i := 22) rfl))) (hw _ (List.mem_of_getElem? (i := 10) rfl)) (ty := (.array .int)) (by decide) rfl rfl N34 gn_a (hb hby d3_20) (pc' := 23) rfl (fun T77 h78 L79 X80 e81 W82 N83 => ?_)
  have K84 := K76.wr W82 (Or.inl (by simp))
  have Z85 : NLe n0 h78.size := Z60.wr W82
  have F86 := Fld.other W82 F64 (Or.inr (slot_ne (Or.inl (hw _ (List.mem_of_getElem? (i := 20) rfl))) (Or.inl (hw _ (List.mem_of_getElem? (i := 22) rfl))) (by decide) (t := (.array .int)) (t' := (.array .int)) (by decide) (by decide)))
  have F87 := Fld.same W82 F65
  have F88 := Fld.other W82 F66 (Or.inr (slot_ne (Or.inl (hw _ (List.mem_of_getElem? (i := 24) rfl))) (Or.inl (hw _ (List.mem_of_getElem? (i := 22) rfl))) (by decide) (t := (.array .long)) (t' := (.array .int)) (by decide) (by decide)))
  have F89 := Fld.other W82 F67 (Or.inr (slot_ne (Or.inl (hw _ (List.mem_of_getElem? (i := 26) rfl))) (Or.inl (hw _ (List.mem_of_getElem? (i := 22) rfl))) (by decide) (t := (.array .int)) (t' := (.array .int)) (by decide) (by decide)))
  have F90 := Fld.other W82 F68 (Or.inr (slot_ne (Or.inl (hw _ (List.mem_of_getElem? (i := 31) rfl))) (Or.inl (hw _ (List.mem_of_getElem? (i := 22) rfl))) (by decide) (t := (.array .long)) (t' := (.array .int)) (by decide) (by decide)))
  have F91 := Fld.other W82 F69 (Or.inr (slot_ne (Or.inr (hw _ (List.mem_of_getElem? (i := 33) rfl))) (Or.inl (hw _ (List.mem_of_getElem? (i := 22) rfl))) (by decide) (t := (.array .int)) (t' := (.array .int)) (by decide) (by decide)))
  have F92 := Fld.other W82 F70 (Or.inr (slot_ne (Or.inl (hw _ (List.mem_of_getElem? (i := 52) rfl))) (Or.inl (hw _ (List.mem_of_getElem? (i := 22) rfl))) (by decide) (t := .int) (t' := (.array .int)) (by decide) (by decide)))
  have F93 := Fld.other W82 F71 (Or.inr (slot_ne (Or.inl (hw _ (List.mem_of_getElem? (i := 58) rfl))) (Or.inl (hw _ (List.mem_of_getElem? (i := 22) rfl))) (by decide) (t := .int) (t' := (.array .int)) (by decide) (by decide)))
  have F94 := Fld.other W82 F72 (Or.inr (slot_ne (Or.inl (hw _ (List.mem_of_getElem? (i := 74) rfl))) (Or.inl (hw _ (List.mem_of_getElem? (i := 22) rfl))) (by decide) (t := .long) (t' := (.array .int)) (by decide) (by decide)))
  have F95 := Exa.wr W82 F73
  have F96 := F74.other W82 ne15.symm
  have F97 := A59.other W82 ne62.symm
  refine g_aloadN X80 hx (hb hby d3_23) (v := (.ref a)) rfl rfl (pc' := 24) rfl ?_
  refine g_aloadN X80 hx (hb hby d3_24) (v := (.ref a)) rfl rfl (pc' := 25) rfl ?_
  refine g_getF X80 hx hZ hown (hw _ (List.mem_of_getElem? (i := 19) rfl)) e81 F86 (hb hby d3_25) (pc' := 28) rfl (fun T98 X99 e100 => ?_)
  refine g_lenIA X99 hx hZ e100 (z := (16 : Int32)) F96 rfl (hb hby d3_28) (pc' := 29) rfl ?_
  refine g_newLA X99 hx hZ (hw _ (List.mem_of_getElem? (i := 8) rfl)) e100 (n := 16) rfl (cap := 16) (by decide) (by decide) (hb hby d3_29) (by decide) (by decide) (pc' := 31) rfl (fun T101 h102 a103 g104 X105 e106 E107 l108 A109  => ?_)
  have Z110 : NLe n0 h102.size := Z85.tr E107.1
  have nl111 : NLe n0 a103 := NLe.at g104 Z85
  have ne112 : Apart a a103 := Apart.new g104 F86.lt
  have ne113 : Apart a6 a103 := Apart.new g104 F96.lt
  have ne114 : Apart a53 a103 := Apart.new g104 F97.lt
  have F115 := Fld.ext E107 F86
  have F116 := Fld.ext E107 F87
  have F117 := Fld.ext E107 F88
  have F118 := Fld.ext E107 F89
  have F119 := Fld.ext E107 F90
  have F120 := Fld.ext E107 F91
  have F121 := Fld.ext E107 F92
  have F122 := Fld.ext E107 F93
  have F123 := Fld.ext E107 F94
  have F124 := Exa.ext E107 F95
  have F125 := F96.ext E107
  have F126 := F97.ext E107
  have kf127 : NLe h0.size a103 := NLe.at g104 K84.1
  have K128 := K84.ext E107
  clear g104 l108
  refine g_putF X105 hx hZ hown (hw _ (List.mem_of_getElem? (i := 23) rfl)) e106 (v := (.ref a103)) F117 F124 (Or.inl (hw _ (List.mem_of_getElem? (i := 24) rfl))) (hw _ (List.mem_of_getElem? (i := 10) rfl)) (ty := (.array .long)) (by decide) rfl rfl N83 gn_a (hb hby d3_31) (pc' := 34) rfl (fun T129 h130 L131 X132 e133 W134 N135 => ?_)
  have K136 := K128.wr W134 (Or.inl (by simp))
  have Z137 : NLe n0 h130.size := Z110.wr W134
  have F138 := Fld.other W134 F115 (Or.inr (slot_ne (Or.inl (hw _ (List.mem_of_getElem? (i := 20) rfl))) (Or.inl (hw _ (List.mem_of_getElem? (i := 24) rfl))) (by decide) (t := (.array .int)) (t' := (.array .long)) (by decide) (by decide)))
  have F139 := Fld.other W134 F116 (Or.inr (slot_ne (Or.inl (hw _ (List.mem_of_getElem? (i := 22) rfl))) (Or.inl (hw _ (List.mem_of_getElem? (i := 24) rfl))) (by decide) (t := (.array .int)) (t' := (.array .long)) (by decide) (by decide)))
  have F140 := Fld.same W134 F117
  have F141 := Fld.other W134 F118 (Or.inr (slot_ne (Or.inl (hw _ (List.mem_of_getElem? (i := 26) rfl))) (Or.inl (hw _ (List.mem_of_getElem? (i := 24) rfl))) (by decide) (t := (.array .int)) (t' := (.array .long)) (by decide) (by decide)))
  have F142 := Fld.other W134 F119 (Or.inr (slot_ne (Or.inl (hw _ (List.mem_of_getElem? (i := 31) rfl))) (Or.inl (hw _ (List.mem_of_getElem? (i := 24) rfl))) (by decide) (t := (.array .long)) (t' := (.array .long)) (by decide) (by decide)))
  have F143 := Fld.other W134 F120 (Or.inr (slot_ne (Or.inr (hw _ (List.mem_of_getElem? (i := 33) rfl))) (Or.inl (hw _ (List.mem_of_getElem? (i := 24) rfl))) (by decide) (t := (.array .int)) (t' := (.array .long)) (by decide) (by decide)))
  have F144 := Fld.other W134 F121 (Or.inr (slot_ne (Or.inl (hw _ (List.mem_of_getElem? (i := 52) rfl))) (Or.inl (hw _ (List.mem_of_getElem? (i := 24) rfl))) (by decide) (t := .int) (t' := (.array .long)) (by decide) (by decide)))
  have F145 := Fld.other W134 F122 (Or.inr (slot_ne (Or.inl (hw _ (List.mem_of_getElem? (i := 58) rfl))) (Or.inl (hw _ (List.mem_of_getElem? (i := 24) rfl))) (by decide) (t := .int) (t' := (.array .long)) (by decide) (by decide)))
  have F146 := Fld.other W134 F123 (Or.inr (slot_ne (Or.inl (hw _ (List.mem_of_getElem? (i := 74) rfl))) (Or.inl (hw _ (List.mem_of_getElem? (i := 24) rfl))) (by decide) (t := .long) (t' := (.array .long)) (by decide) (by decide)))
  have F147 := Exa.wr W134 F124
  have F148 := F125.other W134 ne15.symm
  have F149 := F126.other W134 ne62.symm
  have F150 := A109.other W134 ne112.symm
  refine g_aloadN X132 hx (hb hby d3_34) (v := (.ref a)) rfl rfl (pc' := 35) rfl ?_
  refine g_aloadN X132 hx (hb hby d3_35) (v := (.ref a)) rfl rfl (pc' := 36) rfl ?_
  refine g_getF X132 hx hZ hown (hw _ (List.mem_of_getElem? (i := 19) rfl)) e133 F138 (hb hby d3_36) (pc' := 39) rfl (fun T151 X152 e153 => ?_)
  refine g_lenIA X152 hx hZ e153 (z := (16 : Int32)) F148 rfl (hb hby d3_39) (pc' := 40) rfl ?_
  refine g_newIA X152 hx hZ (hw _ (List.mem_of_getElem? (i := 18) rfl)) e153 (n := 16) rfl (cap := 16) (by decide) (by decide) (hb hby d3_40) (by decide) (by decide) (pc' := 42) rfl (fun T154 h155 a156 g157 X158 e159 E160 l161 A162  => ?_)
  have Z163 : NLe n0 h155.size := Z137.tr E160.1
  have nl164 : NLe n0 a156 := NLe.at g157 Z137
  have ne165 : Apart a a156 := Apart.new g157 F138.lt
  have ne166 : Apart a6 a156 := Apart.new g157 F148.lt
  have ne167 : Apart a53 a156 := Apart.new g157 F149.lt
  have ne168 : Apart a103 a156 := Apart.new g157 F150.lt
  have F169 := Fld.ext E160 F138
  have F170 := Fld.ext E160 F139
  have F171 := Fld.ext E160 F140
  have F172 := Fld.ext E160 F141
  have F173 := Fld.ext E160 F142
  have F174 := Fld.ext E160 F143
  have F175 := Fld.ext E160 F144
  have F176 := Fld.ext E160 F145
  have F177 := Fld.ext E160 F146
  have F178 := Exa.ext E160 F147
  have F179 := F148.ext E160
  have F180 := F149.ext E160
  have F181 := F150.ext E160
  have kf182 : NLe h0.size a156 := NLe.at g157 K136.1
  have K183 := K136.ext E160
  clear g157 l161
  refine g_putF X158 hx hZ hown (hw _ (List.mem_of_getElem? (i := 25) rfl)) e159 (v := (.ref a156)) F172 F178 (Or.inl (hw _ (List.mem_of_getElem? (i := 26) rfl))) (hw _ (List.mem_of_getElem? (i := 10) rfl)) (ty := (.array .int)) (by decide) rfl rfl N135 gn_a (hb hby d3_42) (pc' := 45) rfl (fun T184 h185 L186 X187 e188 W189 N190 => ?_)
  have K191 := K183.wr W189 (Or.inl (by simp))
  have Z192 : NLe n0 h185.size := Z163.wr W189
  have F193 := Fld.other W189 F169 (Or.inr (slot_ne (Or.inl (hw _ (List.mem_of_getElem? (i := 20) rfl))) (Or.inl (hw _ (List.mem_of_getElem? (i := 26) rfl))) (by decide) (t := (.array .int)) (t' := (.array .int)) (by decide) (by decide)))
  have F194 := Fld.other W189 F170 (Or.inr (slot_ne (Or.inl (hw _ (List.mem_of_getElem? (i := 22) rfl))) (Or.inl (hw _ (List.mem_of_getElem? (i := 26) rfl))) (by decide) (t := (.array .int)) (t' := (.array .int)) (by decide) (by decide)))
  have F195 := Fld.other W189 F171 (Or.inr (slot_ne (Or.inl (hw _ (List.mem_of_getElem? (i := 24) rfl))) (Or.inl (hw _ (List.mem_of_getElem? (i := 26) rfl))) (by decide) (t := (.array .long)) (t' := (.array .int)) (by decide) (by decide)))
  have F196 := Fld.same W189 F172
  have F197 := Fld.other W189 F173 (Or.inr (slot_ne (Or.inl (hw _ (List.mem_of_getElem? (i := 31) rfl))) (Or.inl (hw _ (List.mem_of_getElem? (i := 26) rfl))) (by decide) (t := (.array .long)) (t' := (.array .int)) (by decide) (by decide)))
  have F198 := Fld.other W189 F174 (Or.inr (slot_ne (Or.inr (hw _ (List.mem_of_getElem? (i := 33) rfl))) (Or.inl (hw _ (List.mem_of_getElem? (i := 26) rfl))) (by decide) (t := (.array .int)) (t' := (.array .int)) (by decide) (by decide)))
  have F199 := Fld.other W189 F175 (Or.inr (slot_ne (Or.inl (hw _ (List.mem_of_getElem? (i := 52) rfl))) (Or.inl (hw _ (List.mem_of_getElem? (i := 26) rfl))) (by decide) (t := .int) (t' := (.array .int)) (by decide) (by decide)))
  have F200 := Fld.other W189 F176 (Or.inr (slot_ne (Or.inl (hw _ (List.mem_of_getElem? (i := 58) rfl))) (Or.inl (hw _ (List.mem_of_getElem? (i := 26) rfl))) (by decide) (t := .int) (t' := (.array .int)) (by decide) (by decide)))
  have F201 := Fld.other W189 F177 (Or.inr (slot_ne (Or.inl (hw _ (List.mem_of_getElem? (i := 74) rfl))) (Or.inl (hw _ (List.mem_of_getElem? (i := 26) rfl))) (by decide) (t := .long) (t' := (.array .int)) (by decide) (by decide)))
  have F202 := Exa.wr W189 F178
  have F203 := F179.other W189 ne15.symm
  have F204 := F180.other W189 ne62.symm
  have F205 := F181.other W189 ne112.symm
  have F206 := A162.other W189 ne165.symm
  refine g_aloadN X187 hx (hb hby d3_45) (v := (.ref a)) rfl rfl (pc' := 46) rfl ?_
  refine g_iloadN X187 hx (hb hby d3_46) (v := (1 : Int32)) rfl (pc' := 47) rfl ?_
  refine g_bipush X187 hx (hb hby d3_47) (v := 16) (by decide) (pc' := 49) rfl ?_
  refine g_static X187 hx hZ hown (hw _ (List.mem_of_getElem? (i := 27) rfl)) (hw _ (List.mem_of_getElem? (i := 28) rfl)) (hw _ (List.mem_of_getElem? (i := 3) rfl)) (hw _ (List.mem_of_getElem? (i := 29) rfl)) (by decide) (argsL := [(.int (1 : Int32)), (.int (16 : Int32))]) (rm3 l Z a0 hw (1 : Int32) (16 : Int32) h185 n0 Z192 ) rfl e188 (by rw [hml]; rfl) pd_1 rfl (rest := [(.ref a)]) rfl (W := 1) (Nat.le_of_eq rfl) (by decide) (by decide) (by decide) (by decide) N190 (hb hby d3_49) (pc' := 52) rfl (fun v207 T208 L209 X210 N211 q212 => ?_)
  obtain ⟨b213, rfl, f214, e215⟩ := q212
  have lt216 : (1 : Int32).toInt = 1 := rfl
  have lt217 : (16 : Int32).toInt = 16 := rfl
  show OGoes p e s below (Q5 Z a h0 n0) n0 R5.cells R5.slots T208 (mkF m 52 #[.val (.ref a), .val (.int (1 : Int32))] [(.int b213), (.ref a)])
  refine g_newLA X210 hx hZ (hw _ (List.mem_of_getElem? (i := 8) rfl)) e215 (n := 16) (by omega) (cap := 16) (by decide) (by decide) (hb hby d3_52) (by decide) (by decide) (pc' := 54) rfl (fun T218 h219 a220 g221 X222 e223 E224 l225 A226  => ?_)
  have Z227 : NLe n0 h219.size := Z192.tr E224.1
  have nl228 : NLe n0 a220 := NLe.at g221 Z192
  have ne229 : Apart a a220 := Apart.new g221 F193.lt
  have ne230 : Apart a6 a220 := Apart.new g221 F203.lt
  have ne231 : Apart a53 a220 := Apart.new g221 F204.lt
  have ne232 : Apart a103 a220 := Apart.new g221 F205.lt
  have ne233 : Apart a156 a220 := Apart.new g221 F206.lt
  have F234 := Fld.ext E224 F193
  have F235 := Fld.ext E224 F194
  have F236 := Fld.ext E224 F195
  have F237 := Fld.ext E224 F196
  have F238 := Fld.ext E224 F197
  have F239 := Fld.ext E224 F198
  have F240 := Fld.ext E224 F199
  have F241 := Fld.ext E224 F200
  have F242 := Fld.ext E224 F201
  have F243 := Exa.ext E224 F202
  have F244 := F203.ext E224
  have F245 := F204.ext E224
  have F246 := F205.ext E224
  have F247 := F206.ext E224
  have kf248 : NLe h0.size a220 := NLe.at g221 K191.1
  have K249 := K191.ext E224
  clear g221 l225
  refine g_putF X222 hx hZ hown (hw _ (List.mem_of_getElem? (i := 30) rfl)) e223 (v := (.ref a220)) F238 F243 (Or.inl (hw _ (List.mem_of_getElem? (i := 31) rfl))) (hw _ (List.mem_of_getElem? (i := 10) rfl)) (ty := (.array .long)) (by decide) rfl rfl N211 gn_a (hb hby d3_54) (pc' := 57) rfl (fun T250 h251 L252 X253 e254 W255 N256 => ?_)
  have K257 := K249.wr W255 (Or.inl (by simp))
  have Z258 : NLe n0 h251.size := Z227.wr W255
  have F259 := Fld.other W255 F234 (Or.inr (slot_ne (Or.inl (hw _ (List.mem_of_getElem? (i := 20) rfl))) (Or.inl (hw _ (List.mem_of_getElem? (i := 31) rfl))) (by decide) (t := (.array .int)) (t' := (.array .long)) (by decide) (by decide)))
  have F260 := Fld.other W255 F235 (Or.inr (slot_ne (Or.inl (hw _ (List.mem_of_getElem? (i := 22) rfl))) (Or.inl (hw _ (List.mem_of_getElem? (i := 31) rfl))) (by decide) (t := (.array .int)) (t' := (.array .long)) (by decide) (by decide)))
  have F261 := Fld.other W255 F236 (Or.inr (slot_ne (Or.inl (hw _ (List.mem_of_getElem? (i := 24) rfl))) (Or.inl (hw _ (List.mem_of_getElem? (i := 31) rfl))) (by decide) (t := (.array .long)) (t' := (.array .long)) (by decide) (by decide)))
  have F262 := Fld.other W255 F237 (Or.inr (slot_ne (Or.inl (hw _ (List.mem_of_getElem? (i := 26) rfl))) (Or.inl (hw _ (List.mem_of_getElem? (i := 31) rfl))) (by decide) (t := (.array .int)) (t' := (.array .long)) (by decide) (by decide)))
  have F263 := Fld.same W255 F238
  have F264 := Fld.other W255 F239 (Or.inr (slot_ne (Or.inr (hw _ (List.mem_of_getElem? (i := 33) rfl))) (Or.inl (hw _ (List.mem_of_getElem? (i := 31) rfl))) (by decide) (t := (.array .int)) (t' := (.array .long)) (by decide) (by decide)))
  have F265 := Fld.other W255 F240 (Or.inr (slot_ne (Or.inl (hw _ (List.mem_of_getElem? (i := 52) rfl))) (Or.inl (hw _ (List.mem_of_getElem? (i := 31) rfl))) (by decide) (t := .int) (t' := (.array .long)) (by decide) (by decide)))
  have F266 := Fld.other W255 F241 (Or.inr (slot_ne (Or.inl (hw _ (List.mem_of_getElem? (i := 58) rfl))) (Or.inl (hw _ (List.mem_of_getElem? (i := 31) rfl))) (by decide) (t := .int) (t' := (.array .long)) (by decide) (by decide)))
  have F267 := Fld.other W255 F242 (Or.inr (slot_ne (Or.inl (hw _ (List.mem_of_getElem? (i := 74) rfl))) (Or.inl (hw _ (List.mem_of_getElem? (i := 31) rfl))) (by decide) (t := .long) (t' := (.array .long)) (by decide) (by decide)))
  have F268 := Exa.wr W255 F243
  have F269 := F244.other W255 ne15.symm
  have F270 := F245.other W255 ne62.symm
  have F271 := F246.other W255 ne112.symm
  have F272 := F247.other W255 ne165.symm
  have F273 := A226.other W255 ne229.symm
  refine g_aloadN X253 hx (hb hby d3_57) (v := (.ref a)) rfl rfl (pc' := 58) rfl ?_
  refine g_iloadN X253 hx (hb hby d3_58) (v := (1 : Int32)) rfl (pc' := 59) rfl ?_
  refine g_newIA X253 hx hZ (hw _ (List.mem_of_getElem? (i := 18) rfl)) e254 (n := 1) rfl (cap := 1) (by decide) (by decide) (hb hby d3_59) (by decide) (by decide) (pc' := 61) rfl (fun T274 h275 a276 g277 X278 e279 E280 l281 A282  => ?_)
  have Z283 : NLe n0 h275.size := Z258.tr E280.1
  have nl284 : NLe n0 a276 := NLe.at g277 Z258
  have ne285 : Apart a a276 := Apart.new g277 F259.lt
  have ne286 : Apart a6 a276 := Apart.new g277 F269.lt
  have ne287 : Apart a53 a276 := Apart.new g277 F270.lt
  have ne288 : Apart a103 a276 := Apart.new g277 F271.lt
  have ne289 : Apart a156 a276 := Apart.new g277 F272.lt
  have ne290 : Apart a220 a276 := Apart.new g277 F273.lt
  have F291 := Fld.ext E280 F259
  have F292 := Fld.ext E280 F260
  have F293 := Fld.ext E280 F261
  have F294 := Fld.ext E280 F262
  have F295 := Fld.ext E280 F263
  have F296 := Fld.ext E280 F264
  have F297 := Fld.ext E280 F265
  have F298 := Fld.ext E280 F266
  have F299 := Fld.ext E280 F267
  have F300 := Exa.ext E280 F268
  have F301 := F269.ext E280
  have F302 := F270.ext E280
  have F303 := F271.ext E280
  have F304 := F272.ext E280
  have F305 := F273.ext E280
  have kf306 : NLe h0.size a276 := NLe.at g277 K257.1
  have K307 := K257.ext E280
  clear g277 l281
  refine g_putF X278 hx hZ hown (hw _ (List.mem_of_getElem? (i := 32) rfl)) e279 (v := (.ref a276)) F296 F300 (Or.inr ⟨(hw _ (List.mem_of_getElem? (i := 33) rfl)), rfl, hnm⟩) (hw _ (List.mem_of_getElem? (i := 10) rfl)) (ty := (.array .int)) (by decide) rfl rfl N256 gn_a (hb hby d3_61) (pc' := 64) rfl (fun T308 h309 L310 X311 e312 W313 N314 => ?_)
  have K315 := K307.wr W313 (Or.inl (by simp))
  have Z316 : NLe n0 h309.size := Z283.wr W313
  have F317 := Fld.other W313 F291 (Or.inr (slot_ne (Or.inl (hw _ (List.mem_of_getElem? (i := 20) rfl))) (Or.inr (hw _ (List.mem_of_getElem? (i := 33) rfl))) (by decide) (t := (.array .int)) (t' := (.array .int)) (by decide) (by decide)))
  have F318 := Fld.other W313 F292 (Or.inr (slot_ne (Or.inl (hw _ (List.mem_of_getElem? (i := 22) rfl))) (Or.inr (hw _ (List.mem_of_getElem? (i := 33) rfl))) (by decide) (t := (.array .int)) (t' := (.array .int)) (by decide) (by decide)))
  have F319 := Fld.other W313 F293 (Or.inr (slot_ne (Or.inl (hw _ (List.mem_of_getElem? (i := 24) rfl))) (Or.inr (hw _ (List.mem_of_getElem? (i := 33) rfl))) (by decide) (t := (.array .long)) (t' := (.array .int)) (by decide) (by decide)))
  have F320 := Fld.other W313 F294 (Or.inr (slot_ne (Or.inl (hw _ (List.mem_of_getElem? (i := 26) rfl))) (Or.inr (hw _ (List.mem_of_getElem? (i := 33) rfl))) (by decide) (t := (.array .int)) (t' := (.array .int)) (by decide) (by decide)))
  have F321 := Fld.other W313 F295 (Or.inr (slot_ne (Or.inl (hw _ (List.mem_of_getElem? (i := 31) rfl))) (Or.inr (hw _ (List.mem_of_getElem? (i := 33) rfl))) (by decide) (t := (.array .long)) (t' := (.array .int)) (by decide) (by decide)))
  have F322 := Fld.same W313 F296
  have F323 := Fld.other W313 F297 (Or.inr (slot_ne (Or.inl (hw _ (List.mem_of_getElem? (i := 52) rfl))) (Or.inr (hw _ (List.mem_of_getElem? (i := 33) rfl))) (by decide) (t := .int) (t' := (.array .int)) (by decide) (by decide)))
  have F324 := Fld.other W313 F298 (Or.inr (slot_ne (Or.inl (hw _ (List.mem_of_getElem? (i := 58) rfl))) (Or.inr (hw _ (List.mem_of_getElem? (i := 33) rfl))) (by decide) (t := .int) (t' := (.array .int)) (by decide) (by decide)))
  have F325 := Fld.other W313 F299 (Or.inr (slot_ne (Or.inl (hw _ (List.mem_of_getElem? (i := 74) rfl))) (Or.inr (hw _ (List.mem_of_getElem? (i := 33) rfl))) (by decide) (t := .long) (t' := (.array .int)) (by decide) (by decide)))
  have F326 := Exa.wr W313 F300
  have F327 := F301.other W313 ne15.symm
  have F328 := F302.other W313 ne62.symm
  have F329 := F303.other W313 ne112.symm
  have F330 := F304.other W313 ne165.symm
  have F331 := F305.other W313 ne229.symm
  have F332 := A282.other W313 ne285.symm
  refine g_aloadN X311 hx (hb hby d3_64) (v := (.ref a)) rfl rfl (pc' := 65) rfl ?_
  refine g_getF X311 hx hZ hown (hw _ (List.mem_of_getElem? (i := 32) rfl)) e312 F322 (hb hby d3_65) (pc' := 68) rfl (fun T333 X334 e335 => ?_)
  refine g_iconst X334 hx (hb hby d3_68) (v := -1) (by decide) (pc' := 69) rfl ?_
  refine g_static X334 hx hZ hown (hw _ (List.mem_of_getElem? (i := 34) rfl)) (hw _ (List.mem_of_getElem? (i := 35) rfl)) (hw _ (List.mem_of_getElem? (i := 36) rfl)) (hw _ (List.mem_of_getElem? (i := 37) rfl)) (by decide) (argsL := [(.ref a276), (.int (-1 : Int32))]) (rm4 l Z a0 hw a276 (-1 : Int32) 1 zeroI h309 n0 Z316 F332 nl284) rfl e335 (by rw [hml]; rfl) pd_2 rfl (rest := []) rfl (W := 0) (Nat.le_of_eq rfl) (by decide) (by decide) (by decide) (by decide) N314 (hb hby d3_69) (pc' := 72) rfl (fun v336 T337 L338 X339 N340 q341 => ?_)
  obtain ⟨rfl, K342, F343⟩ := q341
  have lt344 : (-1 : Int32).toInt = -1 := rfl
  have Z345 : NLe n0 T337.heap.size := Z316.tr K342.1
  have F346 := F317.keep K342 (ninS ne285 nin0)
  have F347 := F318.keep K342 (ninS ne285 nin0)
  have F348 := F319.keep K342 (ninS ne285 nin0)
  have F349 := F320.keep K342 (ninS ne285 nin0)
  have F350 := F321.keep K342 (ninS ne285 nin0)
  have F351 := F322.keep K342 (ninS ne285 nin0)
  have F352 := F323.keep K342 (ninS ne285 nin0)
  have F353 := F324.keep K342 (ninS ne285 nin0)
  have F354 := F325.keep K342 (ninS ne285 nin0)
  have F355 := F326.keep K342
  have F356 := F327.keep K342 (ninS ne286 nin0)
  have F357 := F328.keep K342 (ninS ne287 nin0)
  have F358 := F329.keep K342 (ninS ne288 nin0)
  have F359 := F330.keep K342 (ninS ne289 nin0)
  have F360 := F331.keep K342 (ninS ne290 nin0)
  have K361 := K315.trans K342 (allS (Or.inr kf306) all0)
  show OGoes p e s below (Q5 Z a h0 n0) n0 R5.cells R5.slots T337 (mkF m 72 #[.val (.ref a), .val (.int (1 : Int32))] [])
  refine g_retV X339 hx hlk hret (hb hby d3_72) N340 (by decide) (by decide) ?_
  exact ⟨a6, a53, a103, a156, a220, a276, rfl, ne63, ne113, ne166, ne230, ne286, ne114, ne167, ne231, ne287, ne168, ne232, ne288, ne233, ne289, ne290, kf26, kf75, kf127, kf182, kf248, kf306, K361, F355, F346, F347, F348, F349, F350, F351, F352, F353, F354, F356, F357, F358, F359, F360, F343⟩
theorem d8_0 : decode prog_86_method_16_code 0 = .ok (.aload_n 0, 1) := by decide +kernel
theorem d8_1 : decode prog_86_method_16_code 1 = .ok (.getfield 34, 3) := by decide +kernel
theorem d8_4 : decode prog_86_method_16_code 4 = .ok (.iload_n 1, 1) := by decide +kernel
theorem d8_5 : decode prog_86_method_16_code 5 = .ok (.iaload, 1) := by decide +kernel
theorem d8_6 : decode prog_86_method_16_code 6 = .ok (.istore_n 2, 1) := by decide +kernel
theorem d8_7 : decode prog_86_method_16_code 7 = .ok (.iload_n 2, 1) := by decide +kernel
theorem d8_8 : decode prog_86_method_16_code 8 = .ok (.ifCond .lt 33, 3) := by decide +kernel
theorem d8_11 : decode prog_86_method_16_code 11 = .ok (.aload_n 0, 1) := by decide +kernel
theorem d8_12 : decode prog_86_method_16_code 12 = .ok (.getfield 22, 3) := by decide +kernel
theorem d8_15 : decode prog_86_method_16_code 15 = .ok (.iload_n 2, 1) := by decide +kernel
theorem d8_16 : decode prog_86_method_16_code 16 = .ok (.dup2, 1) := by decide +kernel
theorem d8_17 : decode prog_86_method_16_code 17 = .ok (.iaload, 1) := by decide +kernel
theorem d8_18 : decode prog_86_method_16_code 18 = .ok (.iconst 1, 1) := by decide +kernel
theorem d8_19 : decode prog_86_method_16_code 19 = .ok (.isub, 1) := by decide +kernel
theorem d8_20 : decode prog_86_method_16_code 20 = .ok (.dup_x2, 1) := by decide +kernel
theorem d8_21 : decode prog_86_method_16_code 21 = .ok (.iastore, 1) := by decide +kernel
theorem d8_22 : decode prog_86_method_16_code 22 = .ok (.ifCond .ne 19, 3) := by decide +kernel
theorem d8_25 : decode prog_86_method_16_code 25 = .ok (.aload_n 0, 1) := by decide +kernel
theorem d8_26 : decode prog_86_method_16_code 26 = .ok (.dup, 1) := by decide +kernel
theorem d8_27 : decode prog_86_method_16_code 27 = .ok (.getfield 50, 3) := by decide +kernel
theorem d8_30 : decode prog_86_method_16_code 30 = .ok (.aload_n 0, 1) := by decide +kernel
theorem d8_31 : decode prog_86_method_16_code 31 = .ok (.getfield 15, 3) := by decide +kernel
theorem d8_34 : decode prog_86_method_16_code 34 = .ok (.iload_n 2, 1) := by decide +kernel
theorem d8_35 : decode prog_86_method_16_code 35 = .ok (.iaload, 1) := by decide +kernel
theorem d8_36 : decode prog_86_method_16_code 36 = .ok (.i2l, 1) := by decide +kernel
theorem d8_37 : decode prog_86_method_16_code 37 = .ok (.ladd, 1) := by decide +kernel
theorem d8_38 : decode prog_86_method_16_code 38 = .ok (.putfield 50, 3) := by decide +kernel
theorem d8_41 : decode prog_86_method_16_code 41 = .ok (.aload_n 0, 1) := by decide +kernel
theorem d8_42 : decode prog_86_method_16_code 42 = .ok (.getfield 34, 3) := by decide +kernel
theorem d8_45 : decode prog_86_method_16_code 45 = .ok (.iload_n 1, 1) := by decide +kernel
theorem d8_46 : decode prog_86_method_16_code 46 = .ok (.iconst (-1), 1) := by decide +kernel
theorem d8_47 : decode prog_86_method_16_code 47 = .ok (.iastore, 1) := by decide +kernel
theorem d8_48 : decode prog_86_method_16_code 48 = .ok (.return_, 1) := by decide +kernel
theorem pn_5 : plainFor (⟨"com/example/vetter/vetter/compare/PairSets", "release", "(I)V"⟩ : MethodName) = true := by first | exact plainFor_of_name (by first | (simp [plainName, overriddenIn]; done) | decide +kernel) | decide +kernel
def Q6 (Z : State) (a : Addr) (to : Addr) (h0 : Heap) (n0 : Nat) (v : Option Value) (h : Heap) : Prop := v = none ∧ Keep h0 h [to] ∧ IA Z h to 1 (oupd (own_const (-1 : Int32)) 0 (-1 : Int32))
abbrev R6 : Room := { frames := 0, cells := 0, slots := 0, locals := 0 }
set_option maxRecDepth 65536 in
set_option maxHeartbeats 40000000 in
theorem rm6 (l : Launch) (Z : State) (a0 : Array Value) (hw : ∀ d ∈ tables_1, d.before a0 Z = true)  (a : Addr) (to : Addr) (h0 : Heap) (n0 : Nat) (Z0 : NLe n0 h0.size) (Fp0 : Fld Z h0 a "com/example/vetter/vetter/compare/PairSets" "setOf" "[I" (.ref to)) (Fp1 : IA Z h0 to 1 (own_const (-1 : Int32))) (gn_to : NLe n0 to) (ne_a_to : Apart a to) :
    Con l (⟨"com/example/vetter/vetter/compare/PairSets", "release", "(I)V"⟩ : MethodName) prog_86_method_16_code 3 none [] R6 Z #[(.ref a), (.int (0 : Int32))] h0 n0 (Q6 Z a to h0 n0) := by
  refine con_of (Ls0 := #[.val (.ref a), .val (.int (0 : Int32)), .unset]) pn_5 (fun m => by first | (simp [entryFrame, mkF, argsToLocals, Value.category, maxLocals]; done) | rfl) ?_
  intro p e s m below meth c s₁ X0 hx hby hml hZ hown hnm hret hlk e0 N0
  show OGoes p e s below (Q6 Z a to h0 n0) n0 R6.cells R6.slots s₁ (mkF m 0 #[.val (.ref a), .val (.int (0 : Int32)), .unset] [])
  have K0 : Keep h0 h0 [to] := Keep.refl _ _
  have hm1 : ((own_const (-1 : Int32)) 0).toInt = -1 := rfl
  refine g_aloadN X0 hx (hb hby d8_0) (v := (.ref a)) rfl rfl (pc' := 1) rfl ?_
  refine g_getF X0 hx hZ hown (hw _ (List.mem_of_getElem? (i := 32) rfl)) e0 Fp0 (hb hby d8_1) (pc' := 4) rfl (fun T1 X2 e3 => ?_)
  refine g_iloadN X2 hx (hb hby d8_4) (v := (0 : Int32)) rfl (pc' := 5) rfl ?_
  refine g_iaload X2 hx hZ e3 (k := 0) Fp1 rfl (by decide) (hb hby d8_5) (pc' := 6) rfl ?_
  refine g_istoreN X2 hx (hb hby d8_6) (Ls' := #[.val (.ref a), .val (.int (0 : Int32)), .val (.int ((own_const (-1 : Int32)) 0))]) rfl (pc' := 7) rfl ?_
  refine g_iloadN X2 hx (hb hby d8_7) (v := ((own_const (-1 : Int32)) 0)) rfl (pc' := 8) rfl ?_
  refine g_i0_lt X2 hx (a := (-1)) hm1 (hb hby d8_8) (by decide) (pc' := 41) (by decide) (pc2 := 11) rfl (fun c4 => ?_) (fun c4 => False.elim (by omega))
  refine g_aloadN X2 hx (hb hby d8_41) (v := (.ref a)) rfl rfl (pc' := 42) rfl ?_
  refine g_getF X2 hx hZ hown (hw _ (List.mem_of_getElem? (i := 32) rfl)) e3 Fp0 (hb hby d8_42) (pc' := 45) rfl (fun T5 X6 e7 => ?_)
  refine g_iloadN X6 hx (hb hby d8_45) (v := (0 : Int32)) rfl (pc' := 46) rfl ?_
  refine g_iconst X6 hx (hb hby d8_46) (v := -1) (by decide) (pc' := 47) rfl ?_
  refine g_iastore X6 hx hZ e7 (k := 0) (x := (-1 : Int32)) Fp1 rfl (by decide) N0 gn_to (hb hby d8_47) (pc' := 48) rfl (fun T8 h9 L10 X11 e12 W13 N14 A15 => ?_)
  have K16 := K0.wr W13 (Or.inl (by simp))
  have Z17 : NLe n0 h9.size := Z0.wr W13
  have F18 := Fld.other W13 Fp0 (Or.inl ne_a_to)
  refine g_retV X11 hx hlk hret (hb hby d8_48) N14 (by decide) (by decide) ?_
  rw [e12]
  exact ⟨rfl, K16, A15⟩
theorem d9_0 : decode prog_86_method_18_code 0 = .ok (.aload_n 0, 1) := by decide +kernel
theorem d9_1 : decode prog_86_method_18_code 1 = .ok (.getfield 47, 3) := by decide +kernel
theorem d9_4 : decode prog_86_method_18_code 4 = .ok (.i2l, 1) := by decide +kernel
theorem d9_5 : decode prog_86_method_18_code 5 = .ok (.iload_n 1, 1) := by decide +kernel
theorem d9_6 : decode prog_86_method_18_code 6 = .ok (.i2l, 1) := by decide +kernel
theorem d9_7 : decode prog_86_method_18_code 7 = .ok (.ladd, 1) := by decide +kernel
theorem d9_8 : decode prog_86_method_18_code 8 = .ok (.aload_n 0, 1) := by decide +kernel
theorem d9_9 : decode prog_86_method_18_code 9 = .ok (.getfield 31, 3) := by decide +kernel
theorem d9_12 : decode prog_86_method_18_code 12 = .ok (.arraylength, 1) := by decide +kernel
theorem d9_13 : decode prog_86_method_18_code 13 = .ok (.i2l, 1) := by decide +kernel
theorem d9_14 : decode prog_86_method_18_code 14 = .ok (.lcmp, 1) := by decide +kernel
theorem d9_15 : decode prog_86_method_18_code 15 = .ok (.ifCond .gt 4, 3) := by decide +kernel
theorem d9_18 : decode prog_86_method_18_code 18 = .ok (.return_, 1) := by decide +kernel
theorem d9_19 : decode prog_86_method_18_code 19 = .ok (.ldc2_w 104, 3) := by decide +kernel
theorem d9_22 : decode prog_86_method_18_code 22 = .ok (.aload_n 0, 1) := by decide +kernel
theorem d9_23 : decode prog_86_method_18_code 23 = .ok (.getfield 50, 3) := by decide +kernel
theorem d9_26 : decode prog_86_method_18_code 26 = .ok (.lmul, 1) := by decide +kernel
theorem d9_27 : decode prog_86_method_18_code 27 = .ok (.aload_n 0, 1) := by decide +kernel
theorem d9_28 : decode prog_86_method_18_code 28 = .ok (.getfield 31, 3) := by decide +kernel
theorem d9_31 : decode prog_86_method_18_code 31 = .ok (.arraylength, 1) := by decide +kernel
theorem d9_32 : decode prog_86_method_18_code 32 = .ok (.i2l, 1) := by decide +kernel
theorem d9_33 : decode prog_86_method_18_code 33 = .ok (.lcmp, 1) := by decide +kernel
theorem d9_34 : decode prog_86_method_18_code 34 = .ok (.ifCond .lt 7, 3) := by decide +kernel
theorem d9_37 : decode prog_86_method_18_code 37 = .ok (.aload_n 0, 1) := by decide +kernel
theorem d9_38 : decode prog_86_method_18_code 38 = .ok (.invokevirtual 106, 3) := by decide +kernel
theorem d9_41 : decode prog_86_method_18_code 41 = .ok (.aload_n 0, 1) := by decide +kernel
theorem d9_42 : decode prog_86_method_18_code 42 = .ok (.getfield 47, 3) := by decide +kernel
theorem d9_45 : decode prog_86_method_18_code 45 = .ok (.i2l, 1) := by decide +kernel
theorem d9_46 : decode prog_86_method_18_code 46 = .ok (.iload_n 1, 1) := by decide +kernel
theorem d9_47 : decode prog_86_method_18_code 47 = .ok (.i2l, 1) := by decide +kernel
theorem d9_48 : decode prog_86_method_18_code 48 = .ok (.ladd, 1) := by decide +kernel
theorem d9_49 : decode prog_86_method_18_code 49 = .ok (.lstore_n 2, 1) := by decide +kernel
theorem d9_50 : decode prog_86_method_18_code 50 = .ok (.lload_n 2, 1) := by decide +kernel
theorem d9_51 : decode prog_86_method_18_code 51 = .ok (.ldc2_w 93, 3) := by decide +kernel
theorem d9_54 : decode prog_86_method_18_code 54 = .ok (.lcmp, 1) := by decide +kernel
theorem d9_55 : decode prog_86_method_18_code 55 = .ok (.ifCond .le 13, 3) := by decide +kernel
theorem d9_58 : decode prog_86_method_18_code 58 = .ok (.new 109, 3) := by decide +kernel
theorem d9_61 : decode prog_86_method_18_code 61 = .ok (.dup, 1) := by decide +kernel
theorem d9_62 : decode prog_86_method_18_code 62 = .ok (.ldc 111, 2) := by decide +kernel
theorem d9_64 : decode prog_86_method_18_code 64 = .ok (.invokespecial 113, 3) := by decide +kernel
theorem d9_67 : decode prog_86_method_18_code 67 = .ok (.athrow, 1) := by decide +kernel
theorem d9_68 : decode prog_86_method_18_code 68 = .ok (.lload_n 2, 1) := by decide +kernel
theorem d9_69 : decode prog_86_method_18_code 69 = .ok (.aload_n 0, 1) := by decide +kernel
theorem d9_70 : decode prog_86_method_18_code 70 = .ok (.getfield 31, 3) := by decide +kernel
theorem d9_73 : decode prog_86_method_18_code 73 = .ok (.arraylength, 1) := by decide +kernel
theorem d9_74 : decode prog_86_method_18_code 74 = .ok (.i2l, 1) := by decide +kernel
theorem d9_75 : decode prog_86_method_18_code 75 = .ok (.lcmp, 1) := by decide +kernel
theorem d9_76 : decode prog_86_method_18_code 76 = .ok (.ifCond .le 42, 3) := by decide +kernel
theorem d9_79 : decode prog_86_method_18_code 79 = .ok (.aload_n 0, 1) := by decide +kernel
theorem d9_80 : decode prog_86_method_18_code 80 = .ok (.aload_n 0, 1) := by decide +kernel
theorem d9_81 : decode prog_86_method_18_code 81 = .ok (.getfield 31, 3) := by decide +kernel
theorem d9_84 : decode prog_86_method_18_code 84 = .ok (.lload_n 2, 1) := by decide +kernel
theorem d9_85 : decode prog_86_method_18_code 85 = .ok (.aload_n 0, 1) := by decide +kernel
theorem d9_86 : decode prog_86_method_18_code 86 = .ok (.getfield 31, 3) := by decide +kernel
theorem d9_89 : decode prog_86_method_18_code 89 = .ok (.arraylength, 1) := by decide +kernel
theorem d9_90 : decode prog_86_method_18_code 90 = .ok (.i2l, 1) := by decide +kernel
theorem d9_91 : decode prog_86_method_18_code 91 = .ok (.aload_n 0, 1) := by decide +kernel
theorem d9_92 : decode prog_86_method_18_code 92 = .ok (.getfield 31, 3) := by decide +kernel
theorem d9_95 : decode prog_86_method_18_code 95 = .ok (.arraylength, 1) := by decide +kernel
theorem d9_96 : decode prog_86_method_18_code 96 = .ok (.i2l, 1) := by decide +kernel
theorem d9_97 : decode prog_86_method_18_code 97 = .ok (.ldc2_w 88, 3) := by decide +kernel
theorem d9_100 : decode prog_86_method_18_code 100 = .ok (.ldiv, 1) := by decide +kernel
theorem d9_101 : decode prog_86_method_18_code 101 = .ok (.ladd, 1) := by decide +kernel
theorem d9_102 : decode prog_86_method_18_code 102 = .ok (.invokestatic 90, 3) := by decide +kernel
theorem d9_105 : decode prog_86_method_18_code 105 = .ok (.ldc2_w 93, 3) := by decide +kernel
theorem d9_108 : decode prog_86_method_18_code 108 = .ok (.invokestatic 95, 3) := by decide +kernel
theorem d9_111 : decode prog_86_method_18_code 111 = .ok (.l2i, 1) := by decide +kernel
theorem d9_112 : decode prog_86_method_18_code 112 = .ok (.invokestatic 98, 3) := by decide +kernel
theorem d9_115 : decode prog_86_method_18_code 115 = .ok (.putfield 31, 3) := by decide +kernel
theorem d9_118 : decode prog_86_method_18_code 118 = .ok (.return_, 1) := by decide +kernel
theorem pn_6 : plainFor (⟨"com/example/vetter/vetter/compare/PairSets", "makeRoom", "(I)V"⟩ : MethodName) = true := by first | exact plainFor_of_name (by first | (simp [plainName, overriddenIn]; done) | decide +kernel) | decide +kernel
def Q7 (Z : State) (a : Addr) (p1 : Int32) (tp : Addr) (m1 : Nat) (h0 : Heap) (n0 : Nat) (v : Option Value) (h : Heap) : Prop := v = none ∧ h = h0
abbrev R7 : Room := { frames := 0, cells := 0, slots := 0, locals := 0 }
set_option maxRecDepth 65536 in
set_option maxHeartbeats 40000000 in
theorem rm7 (l : Launch) (Z : State) (a0 : Array Value) (hw : ∀ d ∈ tables_1, d.before a0 Z = true)  (a : Addr) (p1 : Int32) (tp : Addr) (m1 : Nat) (h0 : Heap) (n0 : Nat) (Z0 : NLe n0 h0.size) (Fp0 : Fld Z h0 a "com/example/vetter/vetter/compare/PairSets" "used" "I" (.int (0 : Int32))) (Fp1 : Fld Z h0 a "com/example/vetter/vetter/compare/PairSets" "pool" "[J" (.ref tp)) (Fp2 : LA Z h0 tp 16 zeroL) (hm : p1.toInt = (m1 : Int)) (hm2 : m1 ≤ 2) :
    Con l (⟨"com/example/vetter/vetter/compare/PairSets", "makeRoom", "(I)V"⟩ : MethodName) prog_86_method_18_code 4 none [] R7 Z #[(.ref a), (.int p1)] h0 n0 (Q7 Z a p1 tp m1 h0 n0) := by
  refine con_of (Ls0 := #[.val (.ref a), .val (.int p1), .unset, .unset]) pn_6 (fun m => by first | (simp [entryFrame, mkF, argsToLocals, Value.category, maxLocals]; done) | rfl) ?_
  intro p e s m below meth c s₁ X0 hx hby hml hZ hown hnm hret hlk e0 N0
  show OGoes p e s below (Q7 Z a p1 tp m1 h0 n0) n0 R7.cells R7.slots s₁ (mkF m 0 #[.val (.ref a), .val (.int p1), .unset, .unset] [])
  refine g_aloadN X0 hx (hb hby d9_0) (v := (.ref a)) rfl rfl (pc' := 1) rfl ?_
  refine g_getF X0 hx hZ hown (hw _ (List.mem_of_getElem? (i := 51) rfl)) e0 Fp0 (hb hby d9_1) (pc' := 4) rfl (fun T1 X2 e3 => ?_)
  refine g_i2l X2 hx (hb hby d9_4) (pc' := 5) rfl ?_
  refine g_iloadN X2 hx (hb hby d9_5) (v := p1) rfl (pc' := 6) rfl ?_
  refine g_i2l X2 hx (hb hby d9_6) (pc' := 7) rfl ?_
  refine g_ladd X2 hx (hb hby d9_7) (pc' := 8) rfl ?_
  refine g_aloadN X2 hx (hb hby d9_8) (v := (.ref a)) rfl rfl (pc' := 9) rfl ?_
  refine g_getF X2 hx hZ hown (hw _ (List.mem_of_getElem? (i := 30) rfl)) e3 Fp1 (hb hby d9_9) (pc' := 12) rfl (fun T4 X5 e6 => ?_)
  refine g_lenLA X5 hx hZ e6 (z := (16 : Int32)) Fp2 rfl (hb hby d9_12) (pc' := 13) rfl ?_
  refine g_i2l X5 hx (hb hby d9_13) (pc' := 14) rfl ?_
  refine g_ll_gt X5 hx (a := (m1 : Int)) (b := 16) (own_room hm) (by decide) (hb hby d9_14) (pc1 := 15) rfl (hb hby d9_15) (by decide) (pc' := 19) (by decide) (pc2 := 18) rfl (fun c7 => False.elim (by omega)) (fun c7 => ?_)
  refine g_retV X5 hx hlk hret (hb hby d9_18) N0 (by decide) (by decide) ?_
  exact ⟨rfl, e6⟩
theorem d10_0 : decode prog_86_method_17_code 0 = .ok (.aload_n 0, 1) := by decide +kernel
theorem d10_1 : decode prog_86_method_17_code 1 = .ok (.getfield 43, 3) := by decide +kernel
theorem d10_4 : decode prog_86_method_17_code 4 = .ok (.aload_n 0, 1) := by decide +kernel
theorem d10_5 : decode prog_86_method_17_code 5 = .ok (.getfield 9, 3) := by decide +kernel
theorem d10_8 : decode prog_86_method_17_code 8 = .ok (.arraylength, 1) := by decide +kernel
theorem d10_9 : decode prog_86_method_17_code 9 = .ok (.if_icmp .ne 68, 3) := by decide +kernel
theorem d10_12 : decode prog_86_method_17_code 12 = .ok (.ldc2_w 88, 3) := by decide +kernel
theorem d10_15 : decode prog_86_method_17_code 15 = .ok (.aload_n 0, 1) := by decide +kernel
theorem d10_16 : decode prog_86_method_17_code 16 = .ok (.getfield 43, 3) := by decide +kernel
theorem d10_19 : decode prog_86_method_17_code 19 = .ok (.i2l, 1) := by decide +kernel
theorem d10_20 : decode prog_86_method_17_code 20 = .ok (.lmul, 1) := by decide +kernel
theorem d10_21 : decode prog_86_method_17_code 21 = .ok (.ldc2_w 93, 3) := by decide +kernel
theorem d10_24 : decode prog_86_method_17_code 24 = .ok (.invokestatic 95, 3) := by decide +kernel
theorem d10_27 : decode prog_86_method_17_code 27 = .ok (.l2i, 1) := by decide +kernel
theorem d10_28 : decode prog_86_method_17_code 28 = .ok (.istore_n 1, 1) := by decide +kernel
theorem d10_29 : decode prog_86_method_17_code 29 = .ok (.aload_n 0, 1) := by decide +kernel
theorem d10_30 : decode prog_86_method_17_code 30 = .ok (.aload_n 0, 1) := by decide +kernel
theorem d10_31 : decode prog_86_method_17_code 31 = .ok (.getfield 9, 3) := by decide +kernel
theorem d10_34 : decode prog_86_method_17_code 34 = .ok (.iload_n 1, 1) := by decide +kernel
theorem d10_35 : decode prog_86_method_17_code 35 = .ok (.invokestatic 101, 3) := by decide +kernel
theorem d10_38 : decode prog_86_method_17_code 38 = .ok (.putfield 9, 3) := by decide +kernel
theorem d10_41 : decode prog_86_method_17_code 41 = .ok (.aload_n 0, 1) := by decide +kernel
theorem d10_42 : decode prog_86_method_17_code 42 = .ok (.aload_n 0, 1) := by decide +kernel
theorem d10_43 : decode prog_86_method_17_code 43 = .ok (.getfield 15, 3) := by decide +kernel
theorem d10_46 : decode prog_86_method_17_code 46 = .ok (.iload_n 1, 1) := by decide +kernel
theorem d10_47 : decode prog_86_method_17_code 47 = .ok (.invokestatic 101, 3) := by decide +kernel
theorem d10_50 : decode prog_86_method_17_code 50 = .ok (.putfield 15, 3) := by decide +kernel
theorem d10_53 : decode prog_86_method_17_code 53 = .ok (.aload_n 0, 1) := by decide +kernel
theorem d10_54 : decode prog_86_method_17_code 54 = .ok (.aload_n 0, 1) := by decide +kernel
theorem d10_55 : decode prog_86_method_17_code 55 = .ok (.getfield 18, 3) := by decide +kernel
theorem d10_58 : decode prog_86_method_17_code 58 = .ok (.iload_n 1, 1) := by decide +kernel
theorem d10_59 : decode prog_86_method_17_code 59 = .ok (.invokestatic 98, 3) := by decide +kernel
theorem d10_62 : decode prog_86_method_17_code 62 = .ok (.putfield 18, 3) := by decide +kernel
theorem d10_65 : decode prog_86_method_17_code 65 = .ok (.aload_n 0, 1) := by decide +kernel
theorem d10_66 : decode prog_86_method_17_code 66 = .ok (.aload_n 0, 1) := by decide +kernel
theorem d10_67 : decode prog_86_method_17_code 67 = .ok (.getfield 22, 3) := by decide +kernel
theorem d10_70 : decode prog_86_method_17_code 70 = .ok (.iload_n 1, 1) := by decide +kernel
theorem d10_71 : decode prog_86_method_17_code 71 = .ok (.invokestatic 101, 3) := by decide +kernel
theorem d10_74 : decode prog_86_method_17_code 74 = .ok (.putfield 22, 3) := by decide +kernel
theorem d10_77 : decode prog_86_method_17_code 77 = .ok (.aload_n 0, 1) := by decide +kernel
theorem d10_78 : decode prog_86_method_17_code 78 = .ok (.dup, 1) := by decide +kernel
theorem d10_79 : decode prog_86_method_17_code 79 = .ok (.getfield 43, 3) := by decide +kernel
theorem d10_82 : decode prog_86_method_17_code 82 = .ok (.dup_x1, 1) := by decide +kernel
theorem d10_83 : decode prog_86_method_17_code 83 = .ok (.iconst 1, 1) := by decide +kernel
theorem d10_84 : decode prog_86_method_17_code 84 = .ok (.iadd, 1) := by decide +kernel
theorem d10_85 : decode prog_86_method_17_code 85 = .ok (.putfield 43, 3) := by decide +kernel
theorem d10_88 : decode prog_86_method_17_code 88 = .ok (.ireturn, 1) := by decide +kernel
theorem pn_7 : plainFor (⟨"com/example/vetter/vetter/compare/PairSets", "numbered", "()I"⟩ : MethodName) = true := by first | exact plainFor_of_name (by first | (simp [plainName, overriddenIn]; done) | decide +kernel) | decide +kernel
def Q8 (Z : State) (a : Addr) (ts : Addr) (tz : Addr) (th : Addr) (tl : Addr) (tp : Addr) (to : Addr) (h0 : Heap) (n0 : Nat) (v : Option Value) (h : Heap) : Prop := v = some (.int (0 : Int32)) ∧ Keep h0 h [a] ∧ Exa Z h a "com/example/vetter/vetter/compare/PairSets" ∧ Fld Z h a "com/example/vetter/vetter/compare/PairSets" "starts" "[I" (.ref ts) ∧ Fld Z h a "com/example/vetter/vetter/compare/PairSets" "sizes" "[I" (.ref tz) ∧ Fld Z h a "com/example/vetter/vetter/compare/PairSets" "hashes" "[J" (.ref th) ∧ Fld Z h a "com/example/vetter/vetter/compare/PairSets" "holders" "[I" (.ref tl) ∧ Fld Z h a "com/example/vetter/vetter/compare/PairSets" "pool" "[J" (.ref tp) ∧ Fld Z h a "com/example/vetter/vetter/compare/PairSets" "setOf" "[I" (.ref to) ∧ Fld Z h a "com/example/vetter/vetter/compare/PairSets" "used" "I" (.int (0 : Int32)) ∧ Fld Z h a "com/example/vetter/vetter/compare/PairSets" "count" "I" (.int ((0 : Int32) + (1 : Int32))) ∧ Fld Z h a "com/example/vetter/vetter/compare/PairSets" "dropped" "J" (.long (0 : Int64))
abbrev R8 : Room := { frames := 0, cells := 0, slots := 0, locals := 0 }
set_option maxRecDepth 65536 in
set_option maxHeartbeats 40000000 in
theorem rm8 (l : Launch) (Z : State) (a0 : Array Value) (hw : ∀ d ∈ tables_1, d.before a0 Z = true)  (a : Addr) (ts : Addr) (tz : Addr) (th : Addr) (tl : Addr) (tp : Addr) (to : Addr) (h0 : Heap) (n0 : Nat) (Z0 : NLe n0 h0.size) (Fp0 : Exa Z h0 a "com/example/vetter/vetter/compare/PairSets") (Fp1 : Fld Z h0 a "com/example/vetter/vetter/compare/PairSets" "starts" "[I" (.ref ts)) (Fp2 : Fld Z h0 a "com/example/vetter/vetter/compare/PairSets" "sizes" "[I" (.ref tz)) (Fp3 : Fld Z h0 a "com/example/vetter/vetter/compare/PairSets" "hashes" "[J" (.ref th)) (Fp4 : Fld Z h0 a "com/example/vetter/vetter/compare/PairSets" "holders" "[I" (.ref tl)) (Fp5 : Fld Z h0 a "com/example/vetter/vetter/compare/PairSets" "pool" "[J" (.ref tp)) (Fp6 : Fld Z h0 a "com/example/vetter/vetter/compare/PairSets" "setOf" "[I" (.ref to)) (Fp7 : Fld Z h0 a "com/example/vetter/vetter/compare/PairSets" "used" "I" (.int (0 : Int32))) (Fp8 : Fld Z h0 a "com/example/vetter/vetter/compare/PairSets" "count" "I" (.int (0 : Int32))) (Fp9 : Fld Z h0 a "com/example/vetter/vetter/compare/PairSets" "dropped" "J" (.long (0 : Int64))) (Fp10 : IA Z h0 ts 16 zeroI) (gn_a : NLe n0 a) (ne_a_ts : Apart a ts) :
    Con l (⟨"com/example/vetter/vetter/compare/PairSets", "numbered", "()I"⟩ : MethodName) prog_86_method_17_code 2 (some .int) [] R8 Z #[(.ref a)] h0 n0 (Q8 Z a ts tz th tl tp to h0 n0) := by
  refine con_of (Ls0 := #[.val (.ref a), .unset]) pn_7 (fun m => by first | (simp [entryFrame, mkF, argsToLocals, Value.category, maxLocals]; done) | rfl) ?_
  intro p e s m below meth c s₁ X0 hx hby hml hZ hown hnm hret hlk e0 N0
  show OGoes p e s below (Q8 Z a ts tz th tl tp to h0 n0) n0 R8.cells R8.slots s₁ (mkF m 0 #[.val (.ref a), .unset] [])
  have K0 : Keep h0 h0 [a] := Keep.refl _ _
  refine g_aloadN X0 hx (hb hby d10_0) (v := (.ref a)) rfl rfl (pc' := 1) rfl ?_
  refine g_getF X0 hx hZ hown (hw _ (List.mem_of_getElem? (i := 57) rfl)) e0 Fp8 (hb hby d10_1) (pc' := 4) rfl (fun T1 X2 e3 => ?_)
  refine g_aloadN X2 hx (hb hby d10_4) (v := (.ref a)) rfl rfl (pc' := 5) rfl ?_
  refine g_getF X2 hx hZ hown (hw _ (List.mem_of_getElem? (i := 19) rfl)) e3 Fp1 (hb hby d10_5) (pc' := 8) rfl (fun T4 X5 e6 => ?_)
  refine g_lenIA X5 hx hZ e6 (z := (16 : Int32)) Fp10 rfl (hb hby d10_8) (pc' := 9) rfl ?_
  refine g_ii_ne X5 hx (a := 0) (b := 16) rfl rfl (hb hby d10_9) (by decide) (pc' := 77) (by decide) (pc2 := 12) rfl (fun c7 => ?_) (fun c7 => False.elim (by omega))
  refine g_aloadN X5 hx (hb hby d10_77) (v := (.ref a)) rfl rfl (pc' := 78) rfl ?_
  refine g_dup X5 hx (hb hby d10_78) rfl (pc' := 79) rfl ?_
  refine g_getF X5 hx hZ hown (hw _ (List.mem_of_getElem? (i := 57) rfl)) e6 Fp8 (hb hby d10_79) (pc' := 82) rfl (fun T8 X9 e10 => ?_)
  refine g_dupX1 X9 hx (hb hby d10_82) rfl rfl (pc' := 83) rfl ?_
  refine g_iconst X9 hx (hb hby d10_83) (v := 1) (by decide) (pc' := 84) rfl ?_
  refine g_iadd X9 hx (hb hby d10_84) (pc' := 85) rfl ?_
  refine g_putF X9 hx hZ hown (hw _ (List.mem_of_getElem? (i := 57) rfl)) e10 (v := (.int ((0 : Int32) + (1 : Int32)))) Fp8 Fp0 (Or.inl (hw _ (List.mem_of_getElem? (i := 58) rfl))) (hw _ (List.mem_of_getElem? (i := 10) rfl)) (ty := .int) (by decide) rfl rfl N0 gn_a (hb hby d10_85) (pc' := 88) rfl (fun T11 h12 L13 X14 e15 W16 N17 => ?_)
  have K18 := K0.wr W16 (Or.inl (by simp))
  have Z19 : NLe n0 h12.size := Z0.wr W16
  have F20 := Exa.wr W16 Fp0
  have F21 := Fld.other W16 Fp1 (Or.inr (slot_ne (Or.inl (hw _ (List.mem_of_getElem? (i := 20) rfl))) (Or.inl (hw _ (List.mem_of_getElem? (i := 58) rfl))) (by decide) (t := (.array .int)) (t' := .int) (by decide) (by decide)))
  have F22 := Fld.other W16 Fp2 (Or.inr (slot_ne (Or.inl (hw _ (List.mem_of_getElem? (i := 22) rfl))) (Or.inl (hw _ (List.mem_of_getElem? (i := 58) rfl))) (by decide) (t := (.array .int)) (t' := .int) (by decide) (by decide)))
  have F23 := Fld.other W16 Fp3 (Or.inr (slot_ne (Or.inl (hw _ (List.mem_of_getElem? (i := 24) rfl))) (Or.inl (hw _ (List.mem_of_getElem? (i := 58) rfl))) (by decide) (t := (.array .long)) (t' := .int) (by decide) (by decide)))
  have F24 := Fld.other W16 Fp4 (Or.inr (slot_ne (Or.inl (hw _ (List.mem_of_getElem? (i := 26) rfl))) (Or.inl (hw _ (List.mem_of_getElem? (i := 58) rfl))) (by decide) (t := (.array .int)) (t' := .int) (by decide) (by decide)))
  have F25 := Fld.other W16 Fp5 (Or.inr (slot_ne (Or.inl (hw _ (List.mem_of_getElem? (i := 31) rfl))) (Or.inl (hw _ (List.mem_of_getElem? (i := 58) rfl))) (by decide) (t := (.array .long)) (t' := .int) (by decide) (by decide)))
  have F26 := Fld.other W16 Fp6 (Or.inr (slot_ne (Or.inr (hw _ (List.mem_of_getElem? (i := 33) rfl))) (Or.inl (hw _ (List.mem_of_getElem? (i := 58) rfl))) (by decide) (t := (.array .int)) (t' := .int) (by decide) (by decide)))
  have F27 := Fld.other W16 Fp7 (Or.inr (slot_ne (Or.inl (hw _ (List.mem_of_getElem? (i := 52) rfl))) (Or.inl (hw _ (List.mem_of_getElem? (i := 58) rfl))) (by decide) (t := .int) (t' := .int) (by decide) (by decide)))
  have F28 := Fld.same W16 Fp8
  have F29 := Fld.other W16 Fp9 (Or.inr (slot_ne (Or.inl (hw _ (List.mem_of_getElem? (i := 74) rfl))) (Or.inl (hw _ (List.mem_of_getElem? (i := 58) rfl))) (by decide) (t := .long) (t' := .int) (by decide) (by decide)))
  have F30 := Fp10.other W16 ne_a_ts.symm
  refine g_retI X14 hx hlk hret (hb hby d10_88) N17 (by decide) (by decide) ?_
  rw [e15]
  exact ⟨rfl, K18, F20, F21, F22, F23, F24, F25, F26, F27, F28, F29⟩
theorem d7_0 : decode prog_86_method_13_code 0 = .ok (.aload_n 0, 1) := by decide +kernel
theorem d7_1 : decode prog_86_method_13_code 1 = .ok (.iload_n 1, 1) := by decide +kernel
theorem d7_2 : decode prog_86_method_13_code 2 = .ok (.invokevirtual 75, 3) := by decide +kernel
theorem d7_5 : decode prog_86_method_13_code 5 = .ok (.aload_n 0, 1) := by decide +kernel
theorem d7_6 : decode prog_86_method_13_code 6 = .ok (.iload_n 3, 1) := by decide +kernel
theorem d7_7 : decode prog_86_method_13_code 7 = .ok (.invokevirtual 79, 3) := by decide +kernel
theorem d7_10 : decode prog_86_method_13_code 10 = .ok (.aload_n 0, 1) := by decide +kernel
theorem d7_11 : decode prog_86_method_13_code 11 = .ok (.invokevirtual 82, 3) := by decide +kernel
theorem d7_14 : decode prog_86_method_13_code 14 = .ok (.istore 4, 2) := by decide +kernel
theorem d7_16 : decode prog_86_method_13_code 16 = .ok (.iload_n 3, 1) := by decide +kernel
theorem d7_17 : decode prog_86_method_13_code 17 = .ok (.i2l, 1) := by decide +kernel
theorem d7_18 : decode prog_86_method_13_code 18 = .ok (.lstore 5, 2) := by decide +kernel
theorem d7_20 : decode prog_86_method_13_code 20 = .ok (.iconst 0, 1) := by decide +kernel
theorem d7_21 : decode prog_86_method_13_code 21 = .ok (.istore 7, 2) := by decide +kernel
theorem d7_23 : decode prog_86_method_13_code 23 = .ok (.iload 7, 2) := by decide +kernel
theorem d7_25 : decode prog_86_method_13_code 25 = .ok (.iload_n 3, 1) := by decide +kernel
theorem d7_26 : decode prog_86_method_13_code 26 = .ok (.if_icmp .ge 22, 3) := by decide +kernel
theorem d7_29 : decode prog_86_method_13_code 29 = .ok (.lload 5, 2) := by decide +kernel
theorem d7_31 : decode prog_86_method_13_code 31 = .ok (.aload_n 2, 1) := by decide +kernel
theorem d7_32 : decode prog_86_method_13_code 32 = .ok (.iload 7, 2) := by decide +kernel
theorem d7_34 : decode prog_86_method_13_code 34 = .ok (.laload, 1) := by decide +kernel
theorem d7_35 : decode prog_86_method_13_code 35 = .ok (.ladd, 1) := by decide +kernel
theorem d7_36 : decode prog_86_method_13_code 36 = .ok (.ldc2_w 86, 3) := by decide +kernel
theorem d7_39 : decode prog_86_method_13_code 39 = .ok (.lmul, 1) := by decide +kernel
theorem d7_40 : decode prog_86_method_13_code 40 = .ok (.lstore 5, 2) := by decide +kernel
theorem d7_42 : decode prog_86_method_13_code 42 = .ok (.iinc 7 1, 3) := by decide +kernel
theorem d7_45 : decode prog_86_method_13_code 45 = .ok (.goto (-22), 3) := by decide +kernel
theorem d7_48 : decode prog_86_method_13_code 48 = .ok (.aload_n 2, 1) := by decide +kernel
theorem d7_49 : decode prog_86_method_13_code 49 = .ok (.iconst 0, 1) := by decide +kernel
theorem d7_50 : decode prog_86_method_13_code 50 = .ok (.aload_n 0, 1) := by decide +kernel
theorem d7_51 : decode prog_86_method_13_code 51 = .ok (.getfield 31, 3) := by decide +kernel
theorem d7_54 : decode prog_86_method_13_code 54 = .ok (.aload_n 0, 1) := by decide +kernel
theorem d7_55 : decode prog_86_method_13_code 55 = .ok (.getfield 47, 3) := by decide +kernel
theorem d7_58 : decode prog_86_method_13_code 58 = .ok (.iload_n 3, 1) := by decide +kernel
theorem d7_59 : decode prog_86_method_13_code 59 = .ok (.invokestatic 62, 3) := by decide +kernel
theorem d7_62 : decode prog_86_method_13_code 62 = .ok (.aload_n 0, 1) := by decide +kernel
theorem d7_63 : decode prog_86_method_13_code 63 = .ok (.getfield 9, 3) := by decide +kernel
theorem d7_66 : decode prog_86_method_13_code 66 = .ok (.iload 4, 2) := by decide +kernel
theorem d7_68 : decode prog_86_method_13_code 68 = .ok (.aload_n 0, 1) := by decide +kernel
theorem d7_69 : decode prog_86_method_13_code 69 = .ok (.getfield 47, 3) := by decide +kernel
theorem d7_72 : decode prog_86_method_13_code 72 = .ok (.iastore, 1) := by decide +kernel
theorem d7_73 : decode prog_86_method_13_code 73 = .ok (.aload_n 0, 1) := by decide +kernel
theorem d7_74 : decode prog_86_method_13_code 74 = .ok (.getfield 15, 3) := by decide +kernel
theorem d7_77 : decode prog_86_method_13_code 77 = .ok (.iload 4, 2) := by decide +kernel
theorem d7_79 : decode prog_86_method_13_code 79 = .ok (.iload_n 3, 1) := by decide +kernel
theorem d7_80 : decode prog_86_method_13_code 80 = .ok (.iastore, 1) := by decide +kernel
theorem d7_81 : decode prog_86_method_13_code 81 = .ok (.aload_n 0, 1) := by decide +kernel
theorem d7_82 : decode prog_86_method_13_code 82 = .ok (.getfield 18, 3) := by decide +kernel
theorem d7_85 : decode prog_86_method_13_code 85 = .ok (.iload 4, 2) := by decide +kernel
theorem d7_87 : decode prog_86_method_13_code 87 = .ok (.lload 5, 2) := by decide +kernel
theorem d7_89 : decode prog_86_method_13_code 89 = .ok (.lastore, 1) := by decide +kernel
theorem d7_90 : decode prog_86_method_13_code 90 = .ok (.aload_n 0, 1) := by decide +kernel
theorem d7_91 : decode prog_86_method_13_code 91 = .ok (.getfield 22, 3) := by decide +kernel
theorem d7_94 : decode prog_86_method_13_code 94 = .ok (.iload 4, 2) := by decide +kernel
theorem d7_96 : decode prog_86_method_13_code 96 = .ok (.iconst 1, 1) := by decide +kernel
theorem d7_97 : decode prog_86_method_13_code 97 = .ok (.iastore, 1) := by decide +kernel
theorem d7_98 : decode prog_86_method_13_code 98 = .ok (.aload_n 0, 1) := by decide +kernel
theorem d7_99 : decode prog_86_method_13_code 99 = .ok (.getfield 34, 3) := by decide +kernel
theorem d7_102 : decode prog_86_method_13_code 102 = .ok (.iload_n 1, 1) := by decide +kernel
theorem d7_103 : decode prog_86_method_13_code 103 = .ok (.iload 4, 2) := by decide +kernel
theorem d7_105 : decode prog_86_method_13_code 105 = .ok (.iastore, 1) := by decide +kernel
theorem d7_106 : decode prog_86_method_13_code 106 = .ok (.aload_n 0, 1) := by decide +kernel
theorem d7_107 : decode prog_86_method_13_code 107 = .ok (.dup, 1) := by decide +kernel
theorem d7_108 : decode prog_86_method_13_code 108 = .ok (.getfield 47, 3) := by decide +kernel
theorem d7_111 : decode prog_86_method_13_code 111 = .ok (.iload_n 3, 1) := by decide +kernel
theorem d7_112 : decode prog_86_method_13_code 112 = .ok (.iadd, 1) := by decide +kernel
theorem d7_113 : decode prog_86_method_13_code 113 = .ok (.putfield 47, 3) := by decide +kernel
theorem d7_116 : decode prog_86_method_13_code 116 = .ok (.return_, 1) := by decide +kernel
theorem pn_8 : plainFor (⟨"com/example/vetter/vetter/compare/PairSets", "set", "(I[JI)V"⟩ : MethodName) = true := by first | exact plainFor_of_name (by first | (simp [plainName, overriddenIn]; done) | decide +kernel) | decide +kernel
def Q9 (Z : State) (a : Addr) (ts : Addr) (tz : Addr) (th : Addr) (tl : Addr) (tp : Addr) (to : Addr) (tA : Addr) (p3 : Int32) (m1 : Nat) (fA : Nat → Int64) (h0 : Heap) (n0 : Nat) (v : Option Value) (h : Heap) : Prop := v = none ∧ Keep h0 h [a, ts, tz, th, tl, tp, to] ∧ Exa Z h a "com/example/vetter/vetter/compare/PairSets" ∧ Fld Z h a "com/example/vetter/vetter/compare/PairSets" "starts" "[I" (.ref ts) ∧ Fld Z h a "com/example/vetter/vetter/compare/PairSets" "sizes" "[I" (.ref tz) ∧ Fld Z h a "com/example/vetter/vetter/compare/PairSets" "hashes" "[J" (.ref th) ∧ Fld Z h a "com/example/vetter/vetter/compare/PairSets" "holders" "[I" (.ref tl) ∧ Fld Z h a "com/example/vetter/vetter/compare/PairSets" "pool" "[J" (.ref tp) ∧ Fld Z h a "com/example/vetter/vetter/compare/PairSets" "setOf" "[I" (.ref to) ∧ IA Z h ts 16 (oupd zeroI 0 (0 : Int32)) ∧ IA Z h tz 16 (oupd zeroI 0 p3) ∧ LA Z h tp 16 (own_cp m1 fA zeroL) ∧ IA Z h to 1 (oupd (oupd (own_const (-1 : Int32)) 0 (-1 : Int32)) 0 (0 : Int32))
abbrev R9 : Room := { frames := 1, cells := 0, slots := 0, locals := 50 }
set_option maxRecDepth 65536 in
set_option maxHeartbeats 40000000 in
theorem rm9 (l : Launch) (Z : State) (a0 : Array Value) (hw : ∀ d ∈ tables_1, d.before a0 Z = true)  (a : Addr) (ts : Addr) (tz : Addr) (th : Addr) (tl : Addr) (tp : Addr) (to : Addr) (tA : Addr) (p3 : Int32) (m1 : Nat) (fA : Nat → Int64) (h0 : Heap) (n0 : Nat) (Z0 : NLe n0 h0.size) (Fp0 : Exa Z h0 a "com/example/vetter/vetter/compare/PairSets") (Fp1 : Fld Z h0 a "com/example/vetter/vetter/compare/PairSets" "starts" "[I" (.ref ts)) (Fp2 : Fld Z h0 a "com/example/vetter/vetter/compare/PairSets" "sizes" "[I" (.ref tz)) (Fp3 : Fld Z h0 a "com/example/vetter/vetter/compare/PairSets" "hashes" "[J" (.ref th)) (Fp4 : Fld Z h0 a "com/example/vetter/vetter/compare/PairSets" "holders" "[I" (.ref tl)) (Fp5 : Fld Z h0 a "com/example/vetter/vetter/compare/PairSets" "pool" "[J" (.ref tp)) (Fp6 : Fld Z h0 a "com/example/vetter/vetter/compare/PairSets" "setOf" "[I" (.ref to)) (Fp7 : Fld Z h0 a "com/example/vetter/vetter/compare/PairSets" "used" "I" (.int (0 : Int32))) (Fp8 : Fld Z h0 a "com/example/vetter/vetter/compare/PairSets" "count" "I" (.int (0 : Int32))) (Fp9 : Fld Z h0 a "com/example/vetter/vetter/compare/PairSets" "dropped" "J" (.long (0 : Int64))) (Fp10 : IA Z h0 ts 16 zeroI) (Fp11 : IA Z h0 tz 16 zeroI) (Fp12 : LA Z h0 th 16 zeroL) (Fp13 : IA Z h0 tl 16 zeroI) (Fp14 : LA Z h0 tp 16 zeroL) (Fp15 : IA Z h0 to 1 (own_const (-1 : Int32))) (Fp16 : LA Z h0 tA 2 fA) (hm : p3.toInt = (m1 : Int)) (hm2 : m1 ≤ 2) (gn_a : NLe n0 a) (gn_ts : NLe n0 ts) (gn_tz : NLe n0 tz) (gn_th : NLe n0 th) (gn_tl : NLe n0 tl) (gn_tp : NLe n0 tp) (gn_to : NLe n0 to) (ne_a_ts : Apart a ts) (ne_a_tz : Apart a tz) (ne_a_th : Apart a th) (ne_a_tl : Apart a tl) (ne_a_tp : Apart a tp) (ne_a_to : Apart a to) (ne_a_tA : Apart a tA) (ne_ts_tz : Apart ts tz) (ne_ts_th : Apart ts th) (ne_ts_tl : Apart ts tl) (ne_ts_tp : Apart ts tp) (ne_ts_to : Apart ts to) (ne_ts_tA : Apart ts tA) (ne_tz_th : Apart tz th) (ne_tz_tl : Apart tz tl) (ne_tz_tp : Apart tz tp) (ne_tz_to : Apart tz to) (ne_tz_tA : Apart tz tA) (ne_th_tl : Apart th tl) (ne_th_tp : Apart th tp) (ne_th_to : Apart th to) (ne_th_tA : Apart th tA) (ne_tl_tp : Apart tl tp) (ne_tl_to : Apart tl to) (ne_tl_tA : Apart tl tA) (ne_tp_to : Apart tp to) (ne_tp_tA : Apart tp tA) (ne_to_tA : Apart to tA) :
    Con l (⟨"com/example/vetter/vetter/compare/PairSets", "set", "(I[JI)V"⟩ : MethodName) prog_86_method_13_code 8 none [] R9 Z #[(.ref a), (.int (0 : Int32)), (.ref tA), (.int p3)] h0 n0 (Q9 Z a ts tz th tl tp to tA p3 m1 fA h0 n0) := by
  refine con_of (Ls0 := #[.val (.ref a), .val (.int (0 : Int32)), .val (.ref tA), .val (.int p3), .unset, .unset, .unset, .unset]) pn_8 (fun m => by first | (simp [entryFrame, mkF, argsToLocals, Value.category, maxLocals]; done) | rfl) ?_
  intro p e s m below meth c s₁ X0 hx hby hml hZ hown hnm hret hlk e0 N0
  show OGoes p e s below (Q9 Z a ts tz th tl tp to tA p3 m1 fA h0 n0) n0 R9.cells R9.slots s₁ (mkF m 0 #[.val (.ref a), .val (.int (0 : Int32)), .val (.ref tA), .val (.int p3), .unset, .unset, .unset, .unset] [])
  have K0 : Keep h0 h0 [a, ts, tz, th, tl, tp, to] := Keep.refl _ _
  refine g_aloadN X0 hx (hb hby d7_0) (v := (.ref a)) rfl rfl (pc' := 1) rfl ?_
  refine g_iloadN X0 hx (hb hby d7_1) (v := (0 : Int32)) rfl (pc' := 2) rfl ?_
  refine g_private X0 hx hZ hown (hw _ (List.mem_of_getElem? (i := 43) rfl)) (hw _ (List.mem_of_getElem? (i := 44) rfl)) (hw _ (List.mem_of_getElem? (i := 45) rfl)) (hw _ (List.mem_of_getElem? (i := 10) rfl)) (hw _ (List.mem_of_getElem? (i := 11) rfl)) (hw _ (List.mem_of_getElem? (i := 46) rfl)) (by decide) (a := a) (argsL := [(.int (0 : Int32))]) (rm6 l Z a0 hw a to h0 n0 Z0 Fp6 Fp15 gn_to ne_a_to) rfl e0 Fp0 (by rw [hml]; rfl) pd_3 rfl (rest := []) rfl (W := 0) (Nat.le_of_eq rfl) (by decide) (by decide) (by decide) (by decide) N0 (hb hby d7_2) (pc' := 5) rfl (fun v1 T2 L3 X4 N5 q6 => ?_)
  obtain ⟨rfl, K7, F8⟩ := q6
  have lt9 : (0 : Int32).toInt = 0 := rfl
  have Z10 : NLe n0 T2.heap.size := Z0.tr K7.1
  have F11 := Fp0.keep K7
  have F12 := Fp1.keep K7 (ninS ne_a_to nin0)
  have F13 := Fp2.keep K7 (ninS ne_a_to nin0)
  have F14 := Fp3.keep K7 (ninS ne_a_to nin0)
  have F15 := Fp4.keep K7 (ninS ne_a_to nin0)
  have F16 := Fp5.keep K7 (ninS ne_a_to nin0)
  have F17 := Fp6.keep K7 (ninS ne_a_to nin0)
  have F18 := Fp7.keep K7 (ninS ne_a_to nin0)
  have F19 := Fp8.keep K7 (ninS ne_a_to nin0)
  have F20 := Fp9.keep K7 (ninS ne_a_to nin0)
  have F21 := Fp10.keep K7 (ninS ne_ts_to nin0)
  have F22 := Fp11.keep K7 (ninS ne_tz_to nin0)
  have F23 := Fp12.keep K7 (ninS ne_th_to nin0)
  have F24 := Fp13.keep K7 (ninS ne_tl_to nin0)
  have F25 := Fp14.keep K7 (ninS ne_tp_to nin0)
  have F26 := Fp16.keep K7 (ninS ne_to_tA.symm nin0)
  have K27 := K0.trans K7 (allS (Or.inl (by simp)) all0)
  show OGoes p e s below (Q9 Z a ts tz th tl tp to tA p3 m1 fA h0 n0) n0 R9.cells R9.slots T2 (mkF m 5 #[.val (.ref a), .val (.int (0 : Int32)), .val (.ref tA), .val (.int p3), .unset, .unset, .unset, .unset] [])
  refine g_aloadN X4 hx (hb hby d7_5) (v := (.ref a)) rfl rfl (pc' := 6) rfl ?_
  refine g_iloadN X4 hx (hb hby d7_6) (v := p3) rfl (pc' := 7) rfl ?_
  refine g_private X4 hx hZ hown (hw _ (List.mem_of_getElem? (i := 47) rfl)) (hw _ (List.mem_of_getElem? (i := 48) rfl)) (hw _ (List.mem_of_getElem? (i := 49) rfl)) (hw _ (List.mem_of_getElem? (i := 10) rfl)) (hw _ (List.mem_of_getElem? (i := 11) rfl)) (hw _ (List.mem_of_getElem? (i := 50) rfl)) (by decide) (a := a) (argsL := [(.int p3)]) (rm7 l Z a0 hw a p3 tp m1 T2.heap n0 Z10 F18 F16 F25 hm hm2) rfl rfl F11 (by rw [hml]; rfl) pd_3 rfl (rest := []) rfl (W := 0) (Nat.le_of_eq rfl) (by decide) (by decide) (by decide) (by decide) N5 (hb hby d7_7) (pc' := 10) rfl (fun v28 T29 L30 X31 N32 q33 => ?_)
  obtain ⟨rfl, K34⟩ := q33
  show OGoes p e s below (Q9 Z a ts tz th tl tp to tA p3 m1 fA h0 n0) n0 R9.cells R9.slots T29 (mkF m 10 #[.val (.ref a), .val (.int (0 : Int32)), .val (.ref tA), .val (.int p3), .unset, .unset, .unset, .unset] [])
  refine g_aloadN X31 hx (hb hby d7_10) (v := (.ref a)) rfl rfl (pc' := 11) rfl ?_
  refine g_private X31 hx hZ hown (hw _ (List.mem_of_getElem? (i := 53) rfl)) (hw _ (List.mem_of_getElem? (i := 54) rfl)) (hw _ (List.mem_of_getElem? (i := 55) rfl)) (hw _ (List.mem_of_getElem? (i := 10) rfl)) (hw _ (List.mem_of_getElem? (i := 11) rfl)) (hw _ (List.mem_of_getElem? (i := 56) rfl)) (by decide) (a := a) (argsL := []) (rm8 l Z a0 hw a ts tz th tl tp to T2.heap n0 Z10 F11 F12 F13 F14 F15 F16 F17 F18 F19 F20 F21 gn_a ne_a_ts) rfl K34 F11 (by rw [hml]; rfl) pd_4 rfl (rest := []) rfl (W := 0) (Nat.le_of_eq rfl) (by decide) (by decide) (by decide) (by decide) N32 (hb hby d7_11) (pc' := 14) rfl (fun v35 T36 L37 X38 N39 q40 => ?_)
  obtain ⟨rfl, K41, F42, F43, F44, F45, F46, F47, F48, F49, F50, F51⟩ := q40
  have Z52 : NLe n0 T36.heap.size := Z10.tr K41.1
  have F53 := F21.keep K41 (ninS ne_a_ts.symm nin0)
  have F54 := F22.keep K41 (ninS ne_a_tz.symm nin0)
  have F55 := F23.keep K41 (ninS ne_a_th.symm nin0)
  have F56 := F24.keep K41 (ninS ne_a_tl.symm nin0)
  have F57 := F25.keep K41 (ninS ne_a_tp.symm nin0)
  have F58 := F26.keep K41 (ninS ne_a_tA.symm nin0)
  have F59 := F8.keep K41 (ninS ne_a_to.symm nin0)
  have K60 := K27.trans K41 (allS (Or.inl (by simp)) all0)
  show OGoes p e s below (Q9 Z a ts tz th tl tp to tA p3 m1 fA h0 n0) n0 R9.cells R9.slots T36 (mkF m 14 #[.val (.ref a), .val (.int (0 : Int32)), .val (.ref tA), .val (.int p3), .unset, .unset, .unset, .unset] [(.int (0 : Int32))])
  refine g_istore X38 hx (hb hby d7_14) (Ls' := #[.val (.ref a), .val (.int (0 : Int32)), .val (.ref tA), .val (.int p3), .val (.int (0 : Int32)), .unset, .unset, .unset]) rfl (pc' := 16) rfl ?_
  refine g_iloadN X38 hx (hb hby d7_16) (v := p3) rfl (pc' := 17) rfl ?_
  refine g_i2l X38 hx (hb hby d7_17) (pc' := 18) rfl ?_
  refine g_lstore X38 hx (hb hby d7_18) (Ls' := #[.val (.ref a), .val (.int (0 : Int32)), .val (.ref tA), .val (.int p3), .val (.int (0 : Int32)), .val (.long p3.toInt64), .second, .unset]) rfl (pc' := 20) rfl ?_
  refine g_iconst X38 hx (hb hby d7_20) (v := 0) (by decide) (pc' := 21) rfl ?_
  refine g_istore X38 hx (hb hby d7_21) (Ls' := #[.val (.ref a), .val (.int (0 : Int32)), .val (.ref tA), .val (.int p3), .val (.int (0 : Int32)), .val (.long p3.toInt64), .second, .val (.int (0 : Int32))]) rfl (pc' := 23) rfl ?_
  have loop : ∀ (k : Nat) (i : Nat) (j : Int32) (ac : Int64) (Tl : State) (Ll : List Loc) , i + k = m1 → j.toInt = (i : Int) → Stand p l e R9 s m #[(.ref a), (.int (0 : Int32)), (.ref tA), (.int p3)] below meth c Tl Ll 0 0 → Tl.heap = T36.heap → Fr n0 Ll → IA Z T36.heap ts 16 zeroI → IA Z T36.heap tz 16 zeroI → LA Z T36.heap th 16 zeroL → IA Z T36.heap tl 16 zeroI → LA Z T36.heap tp 16 zeroL → LA Z T36.heap tA 2 fA → IA Z T36.heap to 1 (oupd (own_const (-1 : Int32)) 0 (-1 : Int32)) → Exa Z T36.heap a "com/example/vetter/vetter/compare/PairSets" → Fld Z T36.heap a "com/example/vetter/vetter/compare/PairSets" "starts" "[I" (.ref ts) → Fld Z T36.heap a "com/example/vetter/vetter/compare/PairSets" "sizes" "[I" (.ref tz) → Fld Z T36.heap a "com/example/vetter/vetter/compare/PairSets" "hashes" "[J" (.ref th) → Fld Z T36.heap a "com/example/vetter/vetter/compare/PairSets" "holders" "[I" (.ref tl) → Fld Z T36.heap a "com/example/vetter/vetter/compare/PairSets" "pool" "[J" (.ref tp) → Fld Z T36.heap a "com/example/vetter/vetter/compare/PairSets" "setOf" "[I" (.ref to) → Fld Z T36.heap a "com/example/vetter/vetter/compare/PairSets" "used" "I" (.int (0 : Int32)) → Fld Z T36.heap a "com/example/vetter/vetter/compare/PairSets" "count" "I" (.int ((0 : Int32) + (1 : Int32))) → Fld Z T36.heap a "com/example/vetter/vetter/compare/PairSets" "dropped" "J" (.long (0 : Int64)) → OGoes p e s below (Q9 Z a ts tz th tl tp to tA p3 m1 fA h0 n0) n0 R9.cells R9.slots Tl (mkF m 23 #[.val (.ref a), .val (.int (0 : Int32)), .val (.ref tA), .val (.int p3), .val (.int (0 : Int32)), .val (.long ac), .second, .val (.int j)] []) := by
    intro k; induction k with
    | zero =>
      intro i j ac Tl Ll hik hj Xl El Nl Fl0 Fl1 Fl2 Fl3 Fl4 Fl5 Fl6 Fl7 Fl8 Fl9 Fl10 Fl11 Fl12 Fl13 Fl14 Fl15 Fl16
      refine g_iload Xl hx (hb hby d7_23) (v := j) rfl (pc' := 25) rfl ?_
      refine g_iloadN Xl hx (hb hby d7_25) (v := p3) rfl (pc' := 26) rfl ?_
      refine g_ii_ge Xl hx (a := (i : Int)) (b := (m1 : Int)) hj hm (hb hby d7_26) (by decide) (pc' := 48) (by decide) (pc2 := 29) rfl (fun c61 => ?_) (fun c61 => False.elim (by omega))
      refine g_aloadN Xl hx (hb hby d7_48) (v := (.ref tA)) rfl rfl (pc' := 49) rfl ?_
      refine g_iconst Xl hx (hb hby d7_49) (v := 0) (by decide) (pc' := 50) rfl ?_
      refine g_aloadN Xl hx (hb hby d7_50) (v := (.ref a)) rfl rfl (pc' := 51) rfl ?_
      refine g_getF Xl hx hZ hown (hw _ (List.mem_of_getElem? (i := 30) rfl)) El Fl12 (hb hby d7_51) (pc' := 54) rfl (fun T62 X63 e64 => ?_)
      refine g_aloadN X63 hx (hb hby d7_54) (v := (.ref a)) rfl rfl (pc' := 55) rfl ?_
      refine g_getF X63 hx hZ hown (hw _ (List.mem_of_getElem? (i := 51) rfl)) e64 Fl14 (hb hby d7_55) (pc' := 58) rfl (fun T65 X66 e67 => ?_)
      refine g_iloadN X66 hx (hb hby d7_58) (v := p3) rfl (pc' := 59) rfl ?_
      refine g_copyLA X66 hx hZ hown (hw _ (List.mem_of_getElem? (i := 59) rfl)) (hw _ (List.mem_of_getElem? (i := 62) rfl)) (hw _ (List.mem_of_getElem? (i := 60) rfl)) (hw _ (List.mem_of_getElem? (i := 61) rfl)) e67 Fl5 Fl4 rfl rfl hm (by omega) (by omega) (by rw [hml]; rfl) (hb hby d7_59) (by decide) (W := 0) (Nat.le_of_eq rfl) (by decide) Nl gn_tp (pc' := 62) rfl (fun T68 h69 L70 X71 e72 K73 N74 A75 => ?_)
      have Z76 : NLe n0 h69.size := Z52.tr K73.1
      have F77 := Fl0.keep K73 (ninS ne_ts_tp nin0)
      have F78 := Fl1.keep K73 (ninS ne_tz_tp nin0)
      have F79 := Fl2.keep K73 (ninS ne_th_tp nin0)
      have F80 := Fl3.keep K73 (ninS ne_tl_tp nin0)
      have F81 : LA Z h69 tp 16 (own_cp m1 fA zeroL) := A75
      have F82 := Fl5.keep K73 (ninS ne_tp_tA.symm nin0)
      have F83 := Fl6.keep K73 (ninS ne_tp_to.symm nin0)
      have F84 := Fl7.keep K73
      have F85 := Fl8.keep K73 (ninS ne_a_tp nin0)
      have F86 := Fl9.keep K73 (ninS ne_a_tp nin0)
      have F87 := Fl10.keep K73 (ninS ne_a_tp nin0)
      have F88 := Fl11.keep K73 (ninS ne_a_tp nin0)
      have F89 := Fl12.keep K73 (ninS ne_a_tp nin0)
      have F90 := Fl13.keep K73 (ninS ne_a_tp nin0)
      have F91 := Fl14.keep K73 (ninS ne_a_tp nin0)
      have F92 := Fl15.keep K73 (ninS ne_a_tp nin0)
      have F93 := Fl16.keep K73 (ninS ne_a_tp nin0)
      have K94 := K60.trans K73 (allS (Or.inl (by simp)) all0)
      refine g_aloadN X71 hx (hb hby d7_62) (v := (.ref a)) rfl rfl (pc' := 63) rfl ?_
      refine g_getF X71 hx hZ hown (hw _ (List.mem_of_getElem? (i := 19) rfl)) e72 F85 (hb hby d7_63) (pc' := 66) rfl (fun T95 X96 e97 => ?_)
      refine g_iload X96 hx (hb hby d7_66) (v := (0 : Int32)) rfl (pc' := 68) rfl ?_
      refine g_aloadN X96 hx (hb hby d7_68) (v := (.ref a)) rfl rfl (pc' := 69) rfl ?_
      refine g_getF X96 hx hZ hown (hw _ (List.mem_of_getElem? (i := 51) rfl)) e97 F91 (hb hby d7_69) (pc' := 72) rfl (fun T98 X99 e100 => ?_)
      refine g_iastore X99 hx hZ e100 (k := 0) (x := (0 : Int32)) F77 rfl (by decide) N74 gn_ts (hb hby d7_72) (pc' := 73) rfl (fun T101 h102 L103 X104 e105 W106 N107 A108 => ?_)
      have K109 := K94.wr W106 (Or.inl (by simp))
      have Z110 : NLe n0 h102.size := Z76.wr W106
      have F112 := F78.other W106 ne_ts_tz.symm
      have F113 := F79.other W106 ne_ts_th.symm
      have F114 := F80.other W106 ne_ts_tl.symm
      have F115 := F81.other W106 ne_ts_tp.symm
      have F116 := F82.other W106 ne_ts_tA.symm
      have F117 := F83.other W106 ne_ts_to.symm
      have F118 := Exa.wr W106 F84
      have F119 := Fld.other W106 F85 (Or.inl ne_a_ts)
      have F120 := Fld.other W106 F86 (Or.inl ne_a_ts)
      have F121 := Fld.other W106 F87 (Or.inl ne_a_ts)
      have F122 := Fld.other W106 F88 (Or.inl ne_a_ts)
      have F123 := Fld.other W106 F89 (Or.inl ne_a_ts)
      have F124 := Fld.other W106 F90 (Or.inl ne_a_ts)
      have F125 := Fld.other W106 F91 (Or.inl ne_a_ts)
      have F126 := Fld.other W106 F92 (Or.inl ne_a_ts)
      have F127 := Fld.other W106 F93 (Or.inl ne_a_ts)
      refine g_aloadN X104 hx (hb hby d7_73) (v := (.ref a)) rfl rfl (pc' := 74) rfl ?_
      refine g_getF X104 hx hZ hown (hw _ (List.mem_of_getElem? (i := 21) rfl)) e105 F120 (hb hby d7_74) (pc' := 77) rfl (fun T128 X129 e130 => ?_)
      refine g_iload X129 hx (hb hby d7_77) (v := (0 : Int32)) rfl (pc' := 79) rfl ?_
      refine g_iloadN X129 hx (hb hby d7_79) (v := p3) rfl (pc' := 80) rfl ?_
      refine g_iastore X129 hx hZ e130 (k := 0) (x := p3) F112 rfl (by decide) N107 gn_tz (hb hby d7_80) (pc' := 81) rfl (fun T131 h132 L133 X134 e135 W136 N137 A138 => ?_)
      have K139 := K109.wr W136 (Or.inl (by simp))
      have Z140 : NLe n0 h132.size := Z110.wr W136
      have F141 := A108.other W136 ne_ts_tz
      have F143 := F113.other W136 ne_tz_th.symm
      have F144 := F114.other W136 ne_tz_tl.symm
      have F145 := F115.other W136 ne_tz_tp.symm
      have F146 := F116.other W136 ne_tz_tA.symm
      have F147 := F117.other W136 ne_tz_to.symm
      have F148 := Exa.wr W136 F118
      have F149 := Fld.other W136 F119 (Or.inl ne_a_tz)
      have F150 := Fld.other W136 F120 (Or.inl ne_a_tz)
      have F151 := Fld.other W136 F121 (Or.inl ne_a_tz)
      have F152 := Fld.other W136 F122 (Or.inl ne_a_tz)
      have F153 := Fld.other W136 F123 (Or.inl ne_a_tz)
      have F154 := Fld.other W136 F124 (Or.inl ne_a_tz)
      have F155 := Fld.other W136 F125 (Or.inl ne_a_tz)
      have F156 := Fld.other W136 F126 (Or.inl ne_a_tz)
      have F157 := Fld.other W136 F127 (Or.inl ne_a_tz)
      refine g_aloadN X134 hx (hb hby d7_81) (v := (.ref a)) rfl rfl (pc' := 82) rfl ?_
      refine g_getF X134 hx hZ hown (hw _ (List.mem_of_getElem? (i := 23) rfl)) e135 F151 (hb hby d7_82) (pc' := 85) rfl (fun T158 X159 e160 => ?_)
      refine g_iload X159 hx (hb hby d7_85) (v := (0 : Int32)) rfl (pc' := 87) rfl ?_
      refine g_lload X159 hx (hb hby d7_87) (v := ac) rfl (pc' := 89) rfl ?_
      refine g_lastore X159 hx hZ e160 (k := 0) (x := ac) F143 rfl (by decide) N137 gn_th (hb hby d7_89) (pc' := 90) rfl (fun T161 h162 L163 X164 e165 W166 N167 A168 => ?_)
      have K169 := K139.wr W166 (Or.inl (by simp))
      have Z170 : NLe n0 h162.size := Z140.wr W166
      have F171 := F141.other W166 ne_ts_th
      have F172 := A138.other W166 ne_tz_th
      have F174 := F144.other W166 ne_th_tl.symm
      have F175 := F145.other W166 ne_th_tp.symm
      have F176 := F146.other W166 ne_th_tA.symm
      have F177 := F147.other W166 ne_th_to.symm
      have F178 := Exa.wr W166 F148
      have F179 := Fld.other W166 F149 (Or.inl ne_a_th)
      have F180 := Fld.other W166 F150 (Or.inl ne_a_th)
      have F181 := Fld.other W166 F151 (Or.inl ne_a_th)
      have F182 := Fld.other W166 F152 (Or.inl ne_a_th)
      have F183 := Fld.other W166 F153 (Or.inl ne_a_th)
      have F184 := Fld.other W166 F154 (Or.inl ne_a_th)
      have F185 := Fld.other W166 F155 (Or.inl ne_a_th)
      have F186 := Fld.other W166 F156 (Or.inl ne_a_th)
      have F187 := Fld.other W166 F157 (Or.inl ne_a_th)
      refine g_aloadN X164 hx (hb hby d7_90) (v := (.ref a)) rfl rfl (pc' := 91) rfl ?_
      refine g_getF X164 hx hZ hown (hw _ (List.mem_of_getElem? (i := 25) rfl)) e165 F182 (hb hby d7_91) (pc' := 94) rfl (fun T188 X189 e190 => ?_)
      refine g_iload X189 hx (hb hby d7_94) (v := (0 : Int32)) rfl (pc' := 96) rfl ?_
      refine g_iconst X189 hx (hb hby d7_96) (v := 1) (by decide) (pc' := 97) rfl ?_
      refine g_iastore X189 hx hZ e190 (k := 0) (x := (1 : Int32)) F174 rfl (by decide) N167 gn_tl (hb hby d7_97) (pc' := 98) rfl (fun T191 h192 L193 X194 e195 W196 N197 A198 => ?_)
      have K199 := K169.wr W196 (Or.inl (by simp))
      have Z200 : NLe n0 h192.size := Z170.wr W196
      have F201 := F171.other W196 ne_ts_tl
      have F202 := F172.other W196 ne_tz_tl
      have F203 := A168.other W196 ne_th_tl
      have F205 := F175.other W196 ne_tl_tp.symm
      have F206 := F176.other W196 ne_tl_tA.symm
      have F207 := F177.other W196 ne_tl_to.symm
      have F208 := Exa.wr W196 F178
      have F209 := Fld.other W196 F179 (Or.inl ne_a_tl)
      have F210 := Fld.other W196 F180 (Or.inl ne_a_tl)
      have F211 := Fld.other W196 F181 (Or.inl ne_a_tl)
      have F212 := Fld.other W196 F182 (Or.inl ne_a_tl)
      have F213 := Fld.other W196 F183 (Or.inl ne_a_tl)
      have F214 := Fld.other W196 F184 (Or.inl ne_a_tl)
      have F215 := Fld.other W196 F185 (Or.inl ne_a_tl)
      have F216 := Fld.other W196 F186 (Or.inl ne_a_tl)
      have F217 := Fld.other W196 F187 (Or.inl ne_a_tl)
      refine g_aloadN X194 hx (hb hby d7_98) (v := (.ref a)) rfl rfl (pc' := 99) rfl ?_
      refine g_getF X194 hx hZ hown (hw _ (List.mem_of_getElem? (i := 32) rfl)) e195 F214 (hb hby d7_99) (pc' := 102) rfl (fun T218 X219 e220 => ?_)
      refine g_iloadN X219 hx (hb hby d7_102) (v := (0 : Int32)) rfl (pc' := 103) rfl ?_
      refine g_iload X219 hx (hb hby d7_103) (v := (0 : Int32)) rfl (pc' := 105) rfl ?_
      refine g_iastore X219 hx hZ e220 (k := 0) (x := (0 : Int32)) F207 rfl (by decide) N197 gn_to (hb hby d7_105) (pc' := 106) rfl (fun T221 h222 L223 X224 e225 W226 N227 A228 => ?_)
      have K229 := K199.wr W226 (Or.inl (by simp))
      have Z230 : NLe n0 h222.size := Z200.wr W226
      have F231 := F201.other W226 ne_ts_to
      have F232 := F202.other W226 ne_tz_to
      have F233 := F203.other W226 ne_th_to
      have F234 := A198.other W226 ne_tl_to
      have F235 := F205.other W226 ne_tp_to
      have F236 := F206.other W226 ne_to_tA.symm
      have F238 := Exa.wr W226 F208
      have F239 := Fld.other W226 F209 (Or.inl ne_a_to)
      have F240 := Fld.other W226 F210 (Or.inl ne_a_to)
      have F241 := Fld.other W226 F211 (Or.inl ne_a_to)
      have F242 := Fld.other W226 F212 (Or.inl ne_a_to)
      have F243 := Fld.other W226 F213 (Or.inl ne_a_to)
      have F244 := Fld.other W226 F214 (Or.inl ne_a_to)
      have F245 := Fld.other W226 F215 (Or.inl ne_a_to)
      have F246 := Fld.other W226 F216 (Or.inl ne_a_to)
      have F247 := Fld.other W226 F217 (Or.inl ne_a_to)
      refine g_aloadN X224 hx (hb hby d7_106) (v := (.ref a)) rfl rfl (pc' := 107) rfl ?_
      refine g_dup X224 hx (hb hby d7_107) rfl (pc' := 108) rfl ?_
      refine g_getF X224 hx hZ hown (hw _ (List.mem_of_getElem? (i := 51) rfl)) e225 F245 (hb hby d7_108) (pc' := 111) rfl (fun T248 X249 e250 => ?_)
      refine g_iloadN X249 hx (hb hby d7_111) (v := p3) rfl (pc' := 112) rfl ?_
      refine g_iadd X249 hx (hb hby d7_112) (pc' := 113) rfl ?_
      refine g_putF X249 hx hZ hown (hw _ (List.mem_of_getElem? (i := 51) rfl)) e250 (v := (.int ((0 : Int32) + p3))) F245 F238 (Or.inl (hw _ (List.mem_of_getElem? (i := 52) rfl))) (hw _ (List.mem_of_getElem? (i := 10) rfl)) (ty := .int) (by decide) rfl rfl N227 gn_a (hb hby d7_113) (pc' := 116) rfl (fun T251 h252 L253 X254 e255 W256 N257 => ?_)
      have K258 := K229.wr W256 (Or.inl (by simp))
      have Z259 : NLe n0 h252.size := Z230.wr W256
      have F260 := F231.other W256 ne_a_ts.symm
      have F261 := F232.other W256 ne_a_tz.symm
      have F262 := F233.other W256 ne_a_th.symm
      have F263 := F234.other W256 ne_a_tl.symm
      have F264 := F235.other W256 ne_a_tp.symm
      have F265 := F236.other W256 ne_a_tA.symm
      have F266 := A228.other W256 ne_a_to.symm
      have F267 := Exa.wr W256 F238
      have F268 := Fld.other W256 F239 (Or.inr (slot_ne (Or.inl (hw _ (List.mem_of_getElem? (i := 20) rfl))) (Or.inl (hw _ (List.mem_of_getElem? (i := 52) rfl))) (by decide) (t := (.array .int)) (t' := .int) (by decide) (by decide)))
      have F269 := Fld.other W256 F240 (Or.inr (slot_ne (Or.inl (hw _ (List.mem_of_getElem? (i := 22) rfl))) (Or.inl (hw _ (List.mem_of_getElem? (i := 52) rfl))) (by decide) (t := (.array .int)) (t' := .int) (by decide) (by decide)))
      have F270 := Fld.other W256 F241 (Or.inr (slot_ne (Or.inl (hw _ (List.mem_of_getElem? (i := 24) rfl))) (Or.inl (hw _ (List.mem_of_getElem? (i := 52) rfl))) (by decide) (t := (.array .long)) (t' := .int) (by decide) (by decide)))
      have F271 := Fld.other W256 F242 (Or.inr (slot_ne (Or.inl (hw _ (List.mem_of_getElem? (i := 26) rfl))) (Or.inl (hw _ (List.mem_of_getElem? (i := 52) rfl))) (by decide) (t := (.array .int)) (t' := .int) (by decide) (by decide)))
      have F272 := Fld.other W256 F243 (Or.inr (slot_ne (Or.inl (hw _ (List.mem_of_getElem? (i := 31) rfl))) (Or.inl (hw _ (List.mem_of_getElem? (i := 52) rfl))) (by decide) (t := (.array .long)) (t' := .int) (by decide) (by decide)))
      have F273 := Fld.other W256 F244 (Or.inr (slot_ne (Or.inr (hw _ (List.mem_of_getElem? (i := 33) rfl))) (Or.inl (hw _ (List.mem_of_getElem? (i := 52) rfl))) (by decide) (t := (.array .int)) (t' := .int) (by decide) (by decide)))
      have F274 := Fld.same W256 F245
      have F275 := Fld.other W256 F246 (Or.inr (slot_ne (Or.inl (hw _ (List.mem_of_getElem? (i := 58) rfl))) (Or.inl (hw _ (List.mem_of_getElem? (i := 52) rfl))) (by decide) (t := .int) (t' := .int) (by decide) (by decide)))
      have F276 := Fld.other W256 F247 (Or.inr (slot_ne (Or.inl (hw _ (List.mem_of_getElem? (i := 74) rfl))) (Or.inl (hw _ (List.mem_of_getElem? (i := 52) rfl))) (by decide) (t := .long) (t' := .int) (by decide) (by decide)))
      refine g_retV X254 hx hlk hret (hb hby d7_116) N257 (by decide) (by decide) ?_
      rw [e255]
      exact ⟨rfl, K258, F267, F268, F269, F270, F271, F272, F273, F260, F261, F264, F266⟩
    | succ k ih =>
      intro i j ac Tl Ll hik hj Xl El Nl Fl0 Fl1 Fl2 Fl3 Fl4 Fl5 Fl6 Fl7 Fl8 Fl9 Fl10 Fl11 Fl12 Fl13 Fl14 Fl15 Fl16
      refine g_iload Xl hx (hb hby d7_23) (v := j) rfl (pc' := 25) rfl ?_
      refine g_iloadN Xl hx (hb hby d7_25) (v := p3) rfl (pc' := 26) rfl ?_
      refine g_ii_ge Xl hx (a := (i : Int)) (b := (m1 : Int)) hj hm (hb hby d7_26) (by decide) (pc' := 48) (by decide) (pc2 := 29) rfl (fun c277 => False.elim (by omega)) (fun c277 => ?_)
      refine g_lload Xl hx (hb hby d7_29) (v := ac) rfl (pc' := 31) rfl ?_
      refine g_aloadN Xl hx (hb hby d7_31) (v := (.ref tA)) rfl rfl (pc' := 32) rfl ?_
      refine g_iload Xl hx (hb hby d7_32) (v := j) rfl (pc' := 34) rfl ?_
      refine g_laload Xl hx hZ El (k := i) Fl5 hj (by omega) (hb hby d7_34) (pc' := 35) rfl ?_
      refine g_ladd Xl hx (hb hby d7_35) (pc' := 36) rfl ?_
      refine g_ldc2 Xl hx hZ hown (hb hby d7_36) (v := -7046029254386353131) (hw _ (List.mem_of_getElem? (i := 68) rfl)) (pc' := 39) rfl ?_
      refine g_lmul Xl hx (hb hby d7_39) (pc' := 40) rfl ?_
      refine g_lstore Xl hx (hb hby d7_40) (Ls' := #[.val (.ref a), .val (.int (0 : Int32)), .val (.ref tA), .val (.int p3), .val (.int (0 : Int32)), .val (.long ((ac + (fA i)) * (-7046029254386353131 : Int64))), .second, .val (.int j)]) rfl (pc' := 42) rfl ?_
      have hj' := own_incT hj (by omega)
      refine g_iinc Xl hx (hb hby d7_42) (v := 1) (by decide) (x := j) rfl (Ls' := #[.val (.ref a), .val (.int (0 : Int32)), .val (.ref tA), .val (.int p3), .val (.int (0 : Int32)), .val (.long ((ac + (fA i)) * (-7046029254386353131 : Int64))), .second, .val (.int (j + (1 : Int32)))]) rfl (pc' := 45) rfl ?_
      refine g_goto Xl hx (hb hby d7_45) (by decide) (pc' := 23) (by decide) ?_
      exact ih (i + 1) (j + (1 : Int32)) ((ac + (fA i)) * (-7046029254386353131 : Int64)) _ _ (by omega) hj' Xl El Nl Fl0 Fl1 Fl2 Fl3 Fl4 Fl5 Fl6 Fl7 Fl8 Fl9 Fl10 Fl11 Fl12 Fl13 Fl14 Fl15 Fl16
  exact loop m1 0 (0 : Int32) p3.toInt64 _ _ (by omega) rfl X38 rfl N39 F53 F54 F55 F56 F57 F58 F59 F42 F43 F44 F45 F46 F47 F48 F49 F50 F51
theorem d11_0 : decode prog_86_method_12_code 0 = .ok (.aload_n 0, 1) := by decide +kernel
theorem d11_1 : decode prog_86_method_12_code 1 = .ok (.getfield 34, 3) := by decide +kernel
theorem d11_4 : decode prog_86_method_12_code 4 = .ok (.iload_n 1, 1) := by decide +kernel
theorem d11_5 : decode prog_86_method_12_code 5 = .ok (.iaload, 1) := by decide +kernel
theorem d11_6 : decode prog_86_method_12_code 6 = .ok (.istore 5, 2) := by decide +kernel
theorem d11_8 : decode prog_86_method_12_code 8 = .ok (.aload_n 0, 1) := by decide +kernel
theorem d11_9 : decode prog_86_method_12_code 9 = .ok (.getfield 9, 3) := by decide +kernel
theorem d11_12 : decode prog_86_method_12_code 12 = .ok (.iload 5, 2) := by decide +kernel
theorem d11_14 : decode prog_86_method_12_code 14 = .ok (.iaload, 1) := by decide +kernel
theorem d11_15 : decode prog_86_method_12_code 15 = .ok (.istore 6, 2) := by decide +kernel
theorem d11_17 : decode prog_86_method_12_code 17 = .ok (.iload 6, 2) := by decide +kernel
theorem d11_19 : decode prog_86_method_12_code 19 = .ok (.aload_n 0, 1) := by decide +kernel
theorem d11_20 : decode prog_86_method_12_code 20 = .ok (.getfield 15, 3) := by decide +kernel
theorem d11_23 : decode prog_86_method_12_code 23 = .ok (.iload 5, 2) := by decide +kernel
theorem d11_25 : decode prog_86_method_12_code 25 = .ok (.iaload, 1) := by decide +kernel
theorem d11_26 : decode prog_86_method_12_code 26 = .ok (.iadd, 1) := by decide +kernel
theorem d11_27 : decode prog_86_method_12_code 27 = .ok (.istore 7, 2) := by decide +kernel
theorem d11_29 : decode prog_86_method_12_code 29 = .ok (.iconst 0, 1) := by decide +kernel
theorem d11_30 : decode prog_86_method_12_code 30 = .ok (.istore 8, 2) := by decide +kernel
theorem d11_32 : decode prog_86_method_12_code 32 = .ok (.iconst 0, 1) := by decide +kernel
theorem d11_33 : decode prog_86_method_12_code 33 = .ok (.istore 9, 2) := by decide +kernel
theorem d11_35 : decode prog_86_method_12_code 35 = .ok (.iload 8, 2) := by decide +kernel
theorem d11_37 : decode prog_86_method_12_code 37 = .ok (.iload_n 3, 1) := by decide +kernel
theorem d11_38 : decode prog_86_method_12_code 38 = .ok (.if_icmp .ge 92, 3) := by decide +kernel
theorem d11_41 : decode prog_86_method_12_code 41 = .ok (.iload 6, 2) := by decide +kernel
theorem d11_43 : decode prog_86_method_12_code 43 = .ok (.iload 7, 2) := by decide +kernel
theorem d11_45 : decode prog_86_method_12_code 45 = .ok (.if_icmp .ge 85, 3) := by decide +kernel
theorem d11_48 : decode prog_86_method_12_code 48 = .ok (.aload_n 2, 1) := by decide +kernel
theorem d11_49 : decode prog_86_method_12_code 49 = .ok (.iload 8, 2) := by decide +kernel
theorem d11_51 : decode prog_86_method_12_code 51 = .ok (.laload, 1) := by decide +kernel
theorem d11_52 : decode prog_86_method_12_code 52 = .ok (.lstore 10, 2) := by decide +kernel
theorem d11_54 : decode prog_86_method_12_code 54 = .ok (.aload_n 0, 1) := by decide +kernel
theorem d11_55 : decode prog_86_method_12_code 55 = .ok (.getfield 31, 3) := by decide +kernel
theorem d11_58 : decode prog_86_method_12_code 58 = .ok (.iload 6, 2) := by decide +kernel
theorem d11_60 : decode prog_86_method_12_code 60 = .ok (.laload, 1) := by decide +kernel
theorem d11_61 : decode prog_86_method_12_code 61 = .ok (.lstore 12, 2) := by decide +kernel
theorem d11_63 : decode prog_86_method_12_code 63 = .ok (.lload 10, 2) := by decide +kernel
theorem d11_65 : decode prog_86_method_12_code 65 = .ok (.lload 12, 2) := by decide +kernel
theorem d11_67 : decode prog_86_method_12_code 67 = .ok (.lcmp, 1) := by decide +kernel
theorem d11_68 : decode prog_86_method_12_code 68 = .ok (.ifCond .ge 19, 3) := by decide +kernel
theorem d11_71 : decode prog_86_method_12_code 71 = .ok (.aload 4, 2) := by decide +kernel
theorem d11_73 : decode prog_86_method_12_code 73 = .ok (.iload 9, 2) := by decide +kernel
theorem d11_75 : decode prog_86_method_12_code 75 = .ok (.iinc 9 1, 3) := by decide +kernel
theorem d11_78 : decode prog_86_method_12_code 78 = .ok (.lload 10, 2) := by decide +kernel
theorem d11_80 : decode prog_86_method_12_code 80 = .ok (.lastore, 1) := by decide +kernel
theorem d11_81 : decode prog_86_method_12_code 81 = .ok (.iinc 8 1, 3) := by decide +kernel
theorem d11_84 : decode prog_86_method_12_code 84 = .ok (.goto 43, 3) := by decide +kernel
theorem d11_87 : decode prog_86_method_12_code 87 = .ok (.lload 12, 2) := by decide +kernel
theorem d11_89 : decode prog_86_method_12_code 89 = .ok (.lload 10, 2) := by decide +kernel
theorem d11_91 : decode prog_86_method_12_code 91 = .ok (.lcmp, 1) := by decide +kernel
theorem d11_92 : decode prog_86_method_12_code 92 = .ok (.ifCond .ge 19, 3) := by decide +kernel
theorem d11_95 : decode prog_86_method_12_code 95 = .ok (.aload 4, 2) := by decide +kernel
theorem d11_97 : decode prog_86_method_12_code 97 = .ok (.iload 9, 2) := by decide +kernel
theorem d11_99 : decode prog_86_method_12_code 99 = .ok (.iinc 9 1, 3) := by decide +kernel
theorem d11_102 : decode prog_86_method_12_code 102 = .ok (.lload 12, 2) := by decide +kernel
theorem d11_104 : decode prog_86_method_12_code 104 = .ok (.lastore, 1) := by decide +kernel
theorem d11_105 : decode prog_86_method_12_code 105 = .ok (.iinc 6 1, 3) := by decide +kernel
theorem d11_108 : decode prog_86_method_12_code 108 = .ok (.goto 19, 3) := by decide +kernel
theorem d11_111 : decode prog_86_method_12_code 111 = .ok (.aload 4, 2) := by decide +kernel
theorem d11_113 : decode prog_86_method_12_code 113 = .ok (.iload 9, 2) := by decide +kernel
theorem d11_115 : decode prog_86_method_12_code 115 = .ok (.iinc 9 1, 3) := by decide +kernel
theorem d11_118 : decode prog_86_method_12_code 118 = .ok (.lload 10, 2) := by decide +kernel
theorem d11_120 : decode prog_86_method_12_code 120 = .ok (.lastore, 1) := by decide +kernel
theorem d11_121 : decode prog_86_method_12_code 121 = .ok (.iinc 8 1, 3) := by decide +kernel
theorem d11_124 : decode prog_86_method_12_code 124 = .ok (.iinc 6 1, 3) := by decide +kernel
theorem d11_127 : decode prog_86_method_12_code 127 = .ok (.goto (-92), 3) := by decide +kernel
theorem d11_130 : decode prog_86_method_12_code 130 = .ok (.iload 8, 2) := by decide +kernel
theorem d11_132 : decode prog_86_method_12_code 132 = .ok (.iload_n 3, 1) := by decide +kernel
theorem d11_133 : decode prog_86_method_12_code 133 = .ok (.if_icmp .ge 21, 3) := by decide +kernel
theorem d11_136 : decode prog_86_method_12_code 136 = .ok (.aload 4, 2) := by decide +kernel
theorem d11_138 : decode prog_86_method_12_code 138 = .ok (.iload 9, 2) := by decide +kernel
theorem d11_140 : decode prog_86_method_12_code 140 = .ok (.iinc 9 1, 3) := by decide +kernel
theorem d11_143 : decode prog_86_method_12_code 143 = .ok (.aload_n 2, 1) := by decide +kernel
theorem d11_144 : decode prog_86_method_12_code 144 = .ok (.iload 8, 2) := by decide +kernel
theorem d11_146 : decode prog_86_method_12_code 146 = .ok (.iinc 8 1, 3) := by decide +kernel
theorem d11_149 : decode prog_86_method_12_code 149 = .ok (.laload, 1) := by decide +kernel
theorem d11_150 : decode prog_86_method_12_code 150 = .ok (.lastore, 1) := by decide +kernel
theorem d11_151 : decode prog_86_method_12_code 151 = .ok (.goto (-21), 3) := by decide +kernel
theorem d11_154 : decode prog_86_method_12_code 154 = .ok (.iload 6, 2) := by decide +kernel
theorem d11_156 : decode prog_86_method_12_code 156 = .ok (.iload 7, 2) := by decide +kernel
theorem d11_158 : decode prog_86_method_12_code 158 = .ok (.if_icmp .ge 24, 3) := by decide +kernel
theorem d11_161 : decode prog_86_method_12_code 161 = .ok (.aload 4, 2) := by decide +kernel
theorem d11_163 : decode prog_86_method_12_code 163 = .ok (.iload 9, 2) := by decide +kernel
theorem d11_165 : decode prog_86_method_12_code 165 = .ok (.iinc 9 1, 3) := by decide +kernel
theorem d11_168 : decode prog_86_method_12_code 168 = .ok (.aload_n 0, 1) := by decide +kernel
theorem d11_169 : decode prog_86_method_12_code 169 = .ok (.getfield 31, 3) := by decide +kernel
theorem d11_172 : decode prog_86_method_12_code 172 = .ok (.iload 6, 2) := by decide +kernel
theorem d11_174 : decode prog_86_method_12_code 174 = .ok (.iinc 6 1, 3) := by decide +kernel
theorem d11_177 : decode prog_86_method_12_code 177 = .ok (.laload, 1) := by decide +kernel
theorem d11_178 : decode prog_86_method_12_code 178 = .ok (.lastore, 1) := by decide +kernel
theorem d11_179 : decode prog_86_method_12_code 179 = .ok (.goto (-25), 3) := by decide +kernel
theorem d11_182 : decode prog_86_method_12_code 182 = .ok (.iload 9, 2) := by decide +kernel
theorem d11_184 : decode prog_86_method_12_code 184 = .ok (.ireturn, 1) := by decide +kernel
theorem pn_9 : plainFor (⟨"com/example/vetter/vetter/compare/PairSets", "union", "(I[JI[J)I"⟩ : MethodName) = true := by first | exact plainFor_of_name (by first | (simp [plainName, overriddenIn]; done) | decide +kernel) | decide +kernel
def Q10 (Z : State) (a : Addr) (ts : Addr) (tz : Addr) (tp : Addr) (to : Addr) (tv : Addr) (tg : Addr) (p3 : Int32) (m1 : Nat) (n1 : Nat) (fs : Nat → Int32) (fz : Nat → Int32) (fo : Nat → Int32) (fp : Nat → Int64) (fv : Nat → Int64) (g0 : Nat → Int64) (h0 : Heap) (n0 : Nat) (v : Option Value) (h : Heap) : Prop := ∃ b : Int32, ∃ s : Nat, ∃ g : Nat → Int64, v = some (.int b) ∧ (b.toInt = (s : Int)) ∧ (own_M m1 n1 fp fv n1 m1 s g) ∧ Keep h0 h [tg] ∧ LA Z h tg 4 g
abbrev R10 : Room := { frames := 0, cells := 0, slots := 0, locals := 0 }
set_option maxRecDepth 65536 in
set_option maxHeartbeats 40000000 in
theorem rm10 (l : Launch) (Z : State) (a0 : Array Value) (hw : ∀ d ∈ tables_1, d.before a0 Z = true)  (a : Addr) (ts : Addr) (tz : Addr) (tp : Addr) (to : Addr) (tv : Addr) (tg : Addr) (p3 : Int32) (m1 : Nat) (n1 : Nat) (fs : Nat → Int32) (fz : Nat → Int32) (fo : Nat → Int32) (fp : Nat → Int64) (fv : Nat → Int64) (g0 : Nat → Int64) (h0 : Heap) (n0 : Nat) (Z0 : NLe n0 h0.size) (Fp0 : Fld Z h0 a "com/example/vetter/vetter/compare/PairSets" "starts" "[I" (.ref ts)) (Fp1 : Fld Z h0 a "com/example/vetter/vetter/compare/PairSets" "sizes" "[I" (.ref tz)) (Fp2 : Fld Z h0 a "com/example/vetter/vetter/compare/PairSets" "pool" "[J" (.ref tp)) (Fp3 : Fld Z h0 a "com/example/vetter/vetter/compare/PairSets" "setOf" "[I" (.ref to)) (Fp4 : IA Z h0 ts 16 fs) (Fp5 : IA Z h0 tz 16 fz) (Fp6 : LA Z h0 tp 16 fp) (Fp7 : IA Z h0 to 1 fo) (Fp8 : LA Z h0 tv 2 fv) (Fp9 : LA Z h0 tg 4 g0) (hn : p3.toInt = (n1 : Int)) (hn2 : n1 ≤ 2) (hm2 : m1 ≤ 2) (ho : (fo 0).toInt = ((0 : Nat) : Int)) (hs : (fs 0).toInt = ((0 : Nat) : Int)) (hz : (fz 0).toInt = (m1 : Int)) (hsp : ∀ y, y + 1 < m1 → (fp y).toInt < (fp (y + 1)).toInt) (hsv : ∀ y, y + 1 < n1 → (fv y).toInt < (fv (y + 1)).toInt) (gn_tg : NLe n0 tg) (ne_tg_a : Apart tg a) (ne_tg_ts : Apart tg ts) (ne_tg_tz : Apart tg tz) (ne_tg_tp : Apart tg tp) (ne_tg_to : Apart tg to) (ne_tg_tv : Apart tg tv) :
    Con l (⟨"com/example/vetter/vetter/compare/PairSets", "union", "(I[JI[J)I"⟩ : MethodName) prog_86_method_12_code 14 (some .int) [] R10 Z #[(.ref a), (.int (0 : Int32)), (.ref tv), (.int p3), (.ref tg)] h0 n0 (Q10 Z a ts tz tp to tv tg p3 m1 n1 fs fz fo fp fv g0 h0 n0) := by
  refine con_of (Ls0 := #[.val (.ref a), .val (.int (0 : Int32)), .val (.ref tv), .val (.int p3), .val (.ref tg), .unset, .unset, .unset, .unset, .unset, .unset, .unset, .unset, .unset]) pn_9 (fun m => by first | (simp [entryFrame, mkF, argsToLocals, Value.category, maxLocals]; done) | rfl) ?_
  intro p e s m below meth c s₁ X0 hx hby hml hZ hown hnm hret hlk e0 N0
  show OGoes p e s below (Q10 Z a ts tz tp to tv tg p3 m1 n1 fs fz fo fp fv g0 h0 n0) n0 R10.cells R10.slots s₁ (mkF m 0 #[.val (.ref a), .val (.int (0 : Int32)), .val (.ref tv), .val (.int p3), .val (.ref tg), .unset, .unset, .unset, .unset, .unset, .unset, .unset, .unset, .unset] [])
  have K0 : Keep h0 h0 [tg] := Keep.refl _ _
  have h7 : ((fs 0) + (fz 0)).toInt = (m1 : Int) := own_sum hs hz
  refine g_aloadN X0 hx (hb hby d11_0) (v := (.ref a)) rfl rfl (pc' := 1) rfl ?_
  refine g_getF X0 hx hZ hown (hw _ (List.mem_of_getElem? (i := 32) rfl)) e0 Fp3 (hb hby d11_1) (pc' := 4) rfl (fun T1 X2 e3 => ?_)
  refine g_iloadN X2 hx (hb hby d11_4) (v := (0 : Int32)) rfl (pc' := 5) rfl ?_
  refine g_iaload X2 hx hZ e3 (k := 0) Fp7 rfl (by decide) (hb hby d11_5) (pc' := 6) rfl ?_
  refine g_istore X2 hx (hb hby d11_6) (Ls' := #[.val (.ref a), .val (.int (0 : Int32)), .val (.ref tv), .val (.int p3), .val (.ref tg), .val (.int (fo 0)), .unset, .unset, .unset, .unset, .unset, .unset, .unset, .unset]) rfl (pc' := 8) rfl ?_
  refine g_aloadN X2 hx (hb hby d11_8) (v := (.ref a)) rfl rfl (pc' := 9) rfl ?_
  refine g_getF X2 hx hZ hown (hw _ (List.mem_of_getElem? (i := 19) rfl)) e3 Fp0 (hb hby d11_9) (pc' := 12) rfl (fun T4 X5 e6 => ?_)
  refine g_iload X5 hx (hb hby d11_12) (v := (fo 0)) rfl (pc' := 14) rfl ?_
  refine g_iaload X5 hx hZ e6 (k := 0) Fp4 ho (by omega) (hb hby d11_14) (pc' := 15) rfl ?_
  refine g_istore X5 hx (hb hby d11_15) (Ls' := #[.val (.ref a), .val (.int (0 : Int32)), .val (.ref tv), .val (.int p3), .val (.ref tg), .val (.int (fo 0)), .val (.int (fs 0)), .unset, .unset, .unset, .unset, .unset, .unset, .unset]) rfl (pc' := 17) rfl ?_
  refine g_iload X5 hx (hb hby d11_17) (v := (fs 0)) rfl (pc' := 19) rfl ?_
  refine g_aloadN X5 hx (hb hby d11_19) (v := (.ref a)) rfl rfl (pc' := 20) rfl ?_
  refine g_getF X5 hx hZ hown (hw _ (List.mem_of_getElem? (i := 21) rfl)) e6 Fp1 (hb hby d11_20) (pc' := 23) rfl (fun T7 X8 e9 => ?_)
  refine g_iload X8 hx (hb hby d11_23) (v := (fo 0)) rfl (pc' := 25) rfl ?_
  refine g_iaload X8 hx hZ e9 (k := 0) Fp5 ho (by omega) (hb hby d11_25) (pc' := 26) rfl ?_
  refine g_iadd X8 hx (hb hby d11_26) (pc' := 27) rfl ?_
  refine g_istore X8 hx (hb hby d11_27) (Ls' := #[.val (.ref a), .val (.int (0 : Int32)), .val (.ref tv), .val (.int p3), .val (.ref tg), .val (.int (fo 0)), .val (.int (fs 0)), .val (.int ((fs 0) + (fz 0))), .unset, .unset, .unset, .unset, .unset, .unset]) rfl (pc' := 29) rfl ?_
  refine g_iconst X8 hx (hb hby d11_29) (v := 0) (by decide) (pc' := 30) rfl ?_
  refine g_istore X8 hx (hb hby d11_30) (Ls' := #[.val (.ref a), .val (.int (0 : Int32)), .val (.ref tv), .val (.int p3), .val (.ref tg), .val (.int (fo 0)), .val (.int (fs 0)), .val (.int ((fs 0) + (fz 0))), .val (.int (0 : Int32)), .unset, .unset, .unset, .unset, .unset]) rfl (pc' := 32) rfl ?_
  refine g_iconst X8 hx (hb hby d11_32) (v := 0) (by decide) (pc' := 33) rfl ?_
  refine g_istore X8 hx (hb hby d11_33) (Ls' := #[.val (.ref a), .val (.int (0 : Int32)), .val (.ref tv), .val (.int p3), .val (.ref tg), .val (.int (fo 0)), .val (.int (fs 0)), .val (.int ((fs 0) + (fz 0))), .val (.int (0 : Int32)), .val (.int (0 : Int32)), .unset, .unset, .unset, .unset]) rfl (pc' := 35) rfl ?_
  have loop3 : ∀ (t : Nat) (i : Nat) (j : Nat) (k : Nat) (g : Nat → Int64) (e6 : Int32) (e8 : Int32) (e9 : Int32) (s10 : Slot) (s11 : Slot) (s12 : Slot) (s13 : Slot) (Tl : State) (Ll : List Loc) (hl : Heap) , own_M m1 n1 fp fv i j k g → i = n1 → j + t = m1 → e6.toInt = (j : Int) → e8.toInt = (i : Int) → e9.toInt = (k : Int) → Stand p l e R10 s m #[(.ref a), (.int (0 : Int32)), (.ref tv), (.int p3), (.ref tg)] below meth c Tl Ll 0 0 → Tl.heap = hl → Fr n0 Ll → NLe n0 hl.size → Fld Z hl a "com/example/vetter/vetter/compare/PairSets" "pool" "[J" (.ref tp) → LA Z hl tp 16 fp → LA Z hl tv 2 fv → LA Z hl tg 4 g → Keep h0 hl [tg] → OGoes p e s below (Q10 Z a ts tz tp to tv tg p3 m1 n1 fs fz fo fp fv g0 h0 n0) n0 R10.cells R10.slots Tl (mkF m 154 #[.val (.ref a), .val (.int (0 : Int32)), .val (.ref tv), .val (.int p3), .val (.ref tg), .val (.int (fo 0)), .val (.int e6), .val (.int ((fs 0) + (fz 0))), .val (.int e8), .val (.int e9), s10, s11, s12, s13] []) := by
    intro t; induction t with
    | zero =>
      intro i j k g e6 e8 e9 s10 s11 s12 s13 Tl Ll hl hM hin hjt h6 h8 h9 Xl El Nl Zl Fl0 Fl1 Fl2 Fl3 Kl
      have hbd := hM.1
      refine g_iload Xl hx (hb hby d11_154) (v := e6) rfl (pc' := 156) rfl ?_
      refine g_iload Xl hx (hb hby d11_156) (v := ((fs 0) + (fz 0))) rfl (pc' := 158) rfl ?_
      refine g_ii_ge Xl hx (a := (j : Int)) (b := (m1 : Int)) h6 h7 (hb hby d11_158) (by decide) (pc' := 182) (by decide) (pc2 := 161) rfl (fun c10 => ?_) (fun c10 => False.elim (by omega))
      refine g_iload Xl hx (hb hby d11_182) (v := e9) rfl (pc' := 184) rfl ?_
      have hjm : j = m1 := by omega
      rw [hjm, hin] at hM
      refine g_retI Xl hx hlk hret (hb hby d11_184) Nl (by decide) (by decide) ?_
      rw [El]
      exact ⟨_, k, g, rfl, h9, hM, Kl, Fl3⟩
    | succ t ih =>
      intro i j k g e6 e8 e9 s10 s11 s12 s13 Tl Ll hl hM hin hjt h6 h8 h9 Xl El Nl Zl Fl0 Fl1 Fl2 Fl3 Kl
      have hbd := hM.1
      refine g_iload Xl hx (hb hby d11_154) (v := e6) rfl (pc' := 156) rfl ?_
      refine g_iload Xl hx (hb hby d11_156) (v := ((fs 0) + (fz 0))) rfl (pc' := 158) rfl ?_
      refine g_ii_ge Xl hx (a := (j : Int)) (b := (m1 : Int)) h6 h7 (hb hby d11_158) (by decide) (pc' := 182) (by decide) (pc2 := 161) rfl (fun c11 => False.elim (by omega)) (fun c11 => ?_)
      refine g_aload Xl hx (hb hby d11_161) (v := (.ref tg)) rfl rfl (pc' := 163) rfl ?_
      refine g_iload Xl hx (hb hby d11_163) (v := e9) rfl (pc' := 165) rfl ?_
      refine g_iinc Xl hx (hb hby d11_165) (v := 1) (by decide) (x := e9) rfl (Ls' := #[.val (.ref a), .val (.int (0 : Int32)), .val (.ref tv), .val (.int p3), .val (.ref tg), .val (.int (fo 0)), .val (.int e6), .val (.int ((fs 0) + (fz 0))), .val (.int e8), .val (.int (e9 + (1 : Int32))), s10, s11, s12, s13]) rfl (pc' := 168) rfl ?_
      refine g_aloadN Xl hx (hb hby d11_168) (v := (.ref a)) rfl rfl (pc' := 169) rfl ?_
      refine g_getF Xl hx hZ hown (hw _ (List.mem_of_getElem? (i := 30) rfl)) El Fl0 (hb hby d11_169) (pc' := 172) rfl (fun T12 X13 e14 => ?_)
      refine g_iload X13 hx (hb hby d11_172) (v := e6) rfl (pc' := 174) rfl ?_
      refine g_iinc X13 hx (hb hby d11_174) (v := 1) (by decide) (x := e6) rfl (Ls' := #[.val (.ref a), .val (.int (0 : Int32)), .val (.ref tv), .val (.int p3), .val (.ref tg), .val (.int (fo 0)), .val (.int (e6 + (1 : Int32))), .val (.int ((fs 0) + (fz 0))), .val (.int e8), .val (.int (e9 + (1 : Int32))), s10, s11, s12, s13]) rfl (pc' := 177) rfl ?_
      refine g_laload X13 hx hZ e14 (k := j) Fl1 h6 (by omega) (hb hby d11_177) (pc' := 178) rfl ?_
      refine g_lastore X13 hx hZ e14 (k := k) (x := (fp j)) Fl3 h9 (by omega) Nl gn_tg (hb hby d11_178) (pc' := 179) rfl (fun T15 h16 L17 X18 e19 W20 N21 A22 => ?_)
      have K23 := Kl.wr W20 (Or.inl (by simp))
      have Z24 : NLe n0 h16.size := Zl.wr W20
      have F25 := Fld.other W20 Fl0 (Or.inl ne_tg_a.symm)
      have F26 := Fl1.other W20 ne_tg_tp.symm
      have F27 := Fl2.other W20 ne_tg_tv.symm
      refine g_goto X18 hx (hb hby d11_179) (by decide) (pc' := 154) (by decide) ?_
      exact ih i (j + 1) (k + 1) (oupd g k (fp j)) (e6 + (1 : Int32)) e8 (e9 + (1 : Int32)) s10 s11 s12 s13 _ _ _ (own_Mh hsp hM (by omega) (fun q => absurd q (by omega))) hin (by omega) (own_incT h6 (by omega)) h8 (own_incT h9 (by omega)) X18 e19 N21 Z24 F25 F26 F27 A22 K23
  have loop2 : ∀ (t : Nat) (i : Nat) (j : Nat) (k : Nat) (g : Nat → Int64) (e6 : Int32) (e8 : Int32) (e9 : Int32) (s10 : Slot) (s11 : Slot) (s12 : Slot) (s13 : Slot) (Tl : State) (Ll : List Loc) (hl : Heap) , own_M m1 n1 fp fv i j k g → (i < n1 → m1 ≤ j) → i + t = n1 → e6.toInt = (j : Int) → e8.toInt = (i : Int) → e9.toInt = (k : Int) → Stand p l e R10 s m #[(.ref a), (.int (0 : Int32)), (.ref tv), (.int p3), (.ref tg)] below meth c Tl Ll 0 0 → Tl.heap = hl → Fr n0 Ll → NLe n0 hl.size → Fld Z hl a "com/example/vetter/vetter/compare/PairSets" "pool" "[J" (.ref tp) → LA Z hl tp 16 fp → LA Z hl tv 2 fv → LA Z hl tg 4 g → Keep h0 hl [tg] → OGoes p e s below (Q10 Z a ts tz tp to tv tg p3 m1 n1 fs fz fo fp fv g0 h0 n0) n0 R10.cells R10.slots Tl (mkF m 130 #[.val (.ref a), .val (.int (0 : Int32)), .val (.ref tv), .val (.int p3), .val (.ref tg), .val (.int (fo 0)), .val (.int e6), .val (.int ((fs 0) + (fz 0))), .val (.int e8), .val (.int e9), s10, s11, s12, s13] []) := by
    intro t; induction t with
    | zero =>
      intro i j k g e6 e8 e9 s10 s11 s12 s13 Tl Ll hl hM hij hit h6 h8 h9 Xl El Nl Zl Fl0 Fl1 Fl2 Fl3 Kl
      have hbd := hM.1
      refine g_iload Xl hx (hb hby d11_130) (v := e8) rfl (pc' := 132) rfl ?_
      refine g_iloadN Xl hx (hb hby d11_132) (v := p3) rfl (pc' := 133) rfl ?_
      refine g_ii_ge Xl hx (a := (i : Int)) (b := (n1 : Int)) h8 hn (hb hby d11_133) (by decide) (pc' := 154) (by decide) (pc2 := 136) rfl (fun c29 => ?_) (fun c29 => False.elim (by omega))
      have hin : i = n1 := by omega
      exact loop3 (m1 - j) i j k g e6 e8 e9 s10 s11 s12 s13 _ _ _ hM hin (by omega) h6 h8 h9 Xl El Nl Zl Fl0 Fl1 Fl2 Fl3 Kl
    | succ t ih =>
      intro i j k g e6 e8 e9 s10 s11 s12 s13 Tl Ll hl hM hij hit h6 h8 h9 Xl El Nl Zl Fl0 Fl1 Fl2 Fl3 Kl
      have hbd := hM.1
      refine g_iload Xl hx (hb hby d11_130) (v := e8) rfl (pc' := 132) rfl ?_
      refine g_iloadN Xl hx (hb hby d11_132) (v := p3) rfl (pc' := 133) rfl ?_
      refine g_ii_ge Xl hx (a := (i : Int)) (b := (n1 : Int)) h8 hn (hb hby d11_133) (by decide) (pc' := 154) (by decide) (pc2 := 136) rfl (fun c30 => False.elim (by omega)) (fun c30 => ?_)
      refine g_aload Xl hx (hb hby d11_136) (v := (.ref tg)) rfl rfl (pc' := 138) rfl ?_
      refine g_iload Xl hx (hb hby d11_138) (v := e9) rfl (pc' := 140) rfl ?_
      refine g_iinc Xl hx (hb hby d11_140) (v := 1) (by decide) (x := e9) rfl (Ls' := #[.val (.ref a), .val (.int (0 : Int32)), .val (.ref tv), .val (.int p3), .val (.ref tg), .val (.int (fo 0)), .val (.int e6), .val (.int ((fs 0) + (fz 0))), .val (.int e8), .val (.int (e9 + (1 : Int32))), s10, s11, s12, s13]) rfl (pc' := 143) rfl ?_
      refine g_aloadN Xl hx (hb hby d11_143) (v := (.ref tv)) rfl rfl (pc' := 144) rfl ?_
      refine g_iload Xl hx (hb hby d11_144) (v := e8) rfl (pc' := 146) rfl ?_
      refine g_iinc Xl hx (hb hby d11_146) (v := 1) (by decide) (x := e8) rfl (Ls' := #[.val (.ref a), .val (.int (0 : Int32)), .val (.ref tv), .val (.int p3), .val (.ref tg), .val (.int (fo 0)), .val (.int e6), .val (.int ((fs 0) + (fz 0))), .val (.int (e8 + (1 : Int32))), .val (.int (e9 + (1 : Int32))), s10, s11, s12, s13]) rfl (pc' := 149) rfl ?_
      refine g_laload Xl hx hZ El (k := i) Fl2 h8 (by omega) (hb hby d11_149) (pc' := 150) rfl ?_
      refine g_lastore Xl hx hZ El (k := k) (x := (fv i)) Fl3 h9 (by omega) Nl gn_tg (hb hby d11_150) (pc' := 151) rfl (fun T31 h32 L33 X34 e35 W36 N37 A38 => ?_)
      have K39 := Kl.wr W36 (Or.inl (by simp))
      have Z40 : NLe n0 h32.size := Zl.wr W36
      have F41 := Fld.other W36 Fl0 (Or.inl ne_tg_a.symm)
      have F42 := Fl1.other W36 ne_tg_tp.symm
      have F43 := Fl2.other W36 ne_tg_tv.symm
      refine g_goto X34 hx (hb hby d11_151) (by decide) (pc' := 130) (by decide) ?_
      exact ih (i + 1) j (k + 1) (oupd g k (fv i)) e6 (e8 + (1 : Int32)) (e9 + (1 : Int32)) s10 s11 s12 s13 _ _ _ (own_Mv hsv hM (by omega) (fun q => absurd q (by omega))) (fun _ => by omega) (by omega) h6 (own_incT h8 (by omega)) (own_incT h9 (by omega)) X34 e35 N37 Z40 F41 F42 F43 A38 K39
  have loop1 : ∀ (t : Nat) (i : Nat) (j : Nat) (k : Nat) (g : Nat → Int64) (e6 : Int32) (e8 : Int32) (e9 : Int32) (s10 : Slot) (s11 : Slot) (s12 : Slot) (s13 : Slot) (Tl : State) (Ll : List Loc) (hl : Heap) , own_M m1 n1 fp fv i j k g → n1 + m1 ≤ i + j + t → e6.toInt = (j : Int) → e8.toInt = (i : Int) → e9.toInt = (k : Int) → ((s10 = .unset ∧ s11 = .unset ∧ s12 = .unset ∧ s13 = .unset) ∨ ∃ (a10 a12 : Int64), s10 = .val (.long a10) ∧ s11 = .second ∧ s12 = .val (.long a12) ∧ s13 = .second) → Stand p l e R10 s m #[(.ref a), (.int (0 : Int32)), (.ref tv), (.int p3), (.ref tg)] below meth c Tl Ll 0 0 → Tl.heap = hl → Fr n0 Ll → NLe n0 hl.size → Fld Z hl a "com/example/vetter/vetter/compare/PairSets" "pool" "[J" (.ref tp) → LA Z hl tp 16 fp → LA Z hl tv 2 fv → LA Z hl tg 4 g → Keep h0 hl [tg] → OGoes p e s below (Q10 Z a ts tz tp to tv tg p3 m1 n1 fs fz fo fp fv g0 h0 n0) n0 R10.cells R10.slots Tl (mkF m 35 #[.val (.ref a), .val (.int (0 : Int32)), .val (.ref tv), .val (.int p3), .val (.ref tg), .val (.int (fo 0)), .val (.int e6), .val (.int ((fs 0) + (fz 0))), .val (.int e8), .val (.int e9), s10, s11, s12, s13] []) := by
    intro t; induction t with
    | zero =>
      intro i j k g e6 e8 e9 s10 s11 s12 s13 Tl Ll hl hM ht h6 h8 h9 hsl Xl El Nl Zl Fl0 Fl1 Fl2 Fl3 Kl
      have hbd := hM.1
      refine g_iload Xl hx (hb hby d11_35) (v := e8) rfl (pc' := 37) rfl ?_
      refine g_iloadN Xl hx (hb hby d11_37) (v := p3) rfl (pc' := 38) rfl ?_
      refine g_ii_ge Xl hx (a := (i : Int)) (b := (n1 : Int)) h8 hn (hb hby d11_38) (by decide) (pc' := 130) (by decide) (pc2 := 41) rfl (fun c45 => ?_) (fun c45 => False.elim (by omega))
      exact loop2 (n1 - i) i j k g e6 e8 e9 s10 s11 s12 s13 _ _ _ hM (fun _ => by omega) (by omega) h6 h8 h9 Xl El Nl Zl Fl0 Fl1 Fl2 Fl3 Kl
    | succ t ih =>
      intro i j k g e6 e8 e9 s10 s11 s12 s13 Tl Ll hl hM ht h6 h8 h9 hsl Xl El Nl Zl Fl0 Fl1 Fl2 Fl3 Kl
      have hbd := hM.1
      refine g_iload Xl hx (hb hby d11_35) (v := e8) rfl (pc' := 37) rfl ?_
      refine g_iloadN Xl hx (hb hby d11_37) (v := p3) rfl (pc' := 38) rfl ?_
      refine g_ii_ge Xl hx (a := (i : Int)) (b := (n1 : Int)) h8 hn (hb hby d11_38) (by decide) (pc' := 130) (by decide) (pc2 := 41) rfl (fun c46 => ?_) (fun c46 => ?_)
      · exact loop2 (n1 - i) i j k g e6 e8 e9 s10 s11 s12 s13 _ _ _ hM (fun _ => by omega) (by omega) h6 h8 h9 Xl El Nl Zl Fl0 Fl1 Fl2 Fl3 Kl
      · refine g_iload Xl hx (hb hby d11_41) (v := e6) rfl (pc' := 43) rfl ?_
        refine g_iload Xl hx (hb hby d11_43) (v := ((fs 0) + (fz 0))) rfl (pc' := 45) rfl ?_
        refine g_ii_ge Xl hx (a := (j : Int)) (b := (m1 : Int)) h6 h7 (hb hby d11_45) (by decide) (pc' := 130) (by decide) (pc2 := 48) rfl (fun c47 => ?_) (fun c47 => ?_)
        · exact loop2 (n1 - i) i j k g e6 e8 e9 s10 s11 s12 s13 _ _ _ hM (fun _ => by omega) (by omega) h6 h8 h9 Xl El Nl Zl Fl0 Fl1 Fl2 Fl3 Kl
        · rcases hsl with ⟨rfl, rfl, rfl, rfl⟩ | ⟨a10, a12, rfl, rfl, rfl, rfl⟩
          · show OGoes p e s below (Q10 Z a ts tz tp to tv tg p3 m1 n1 fs fz fo fp fv g0 h0 n0) n0 R10.cells R10.slots Tl (mkF m 48 #[.val (.ref a), .val (.int (0 : Int32)), .val (.ref tv), .val (.int p3), .val (.ref tg), .val (.int (fo 0)), .val (.int e6), .val (.int ((fs 0) + (fz 0))), .val (.int e8), .val (.int e9), .unset, .unset, .unset, .unset] [])
            refine g_aloadN Xl hx (hb hby d11_48) (v := (.ref tv)) rfl rfl (pc' := 49) rfl ?_
            refine g_iload Xl hx (hb hby d11_49) (v := e8) rfl (pc' := 51) rfl ?_
            refine g_laload Xl hx hZ El (k := i) Fl2 h8 (by omega) (hb hby d11_51) (pc' := 52) rfl ?_
            refine g_lstore Xl hx (hb hby d11_52) (Ls' := #[.val (.ref a), .val (.int (0 : Int32)), .val (.ref tv), .val (.int p3), .val (.ref tg), .val (.int (fo 0)), .val (.int e6), .val (.int ((fs 0) + (fz 0))), .val (.int e8), .val (.int e9), .val (.long (fv i)), .second, .unset, .unset]) rfl (pc' := 54) rfl ?_
            refine g_aloadN Xl hx (hb hby d11_54) (v := (.ref a)) rfl rfl (pc' := 55) rfl ?_
            refine g_getF Xl hx hZ hown (hw _ (List.mem_of_getElem? (i := 30) rfl)) El Fl0 (hb hby d11_55) (pc' := 58) rfl (fun T48 X49 e50 => ?_)
            refine g_iload X49 hx (hb hby d11_58) (v := e6) rfl (pc' := 60) rfl ?_
            refine g_laload X49 hx hZ e50 (k := j) Fl1 h6 (by omega) (hb hby d11_60) (pc' := 61) rfl ?_
            refine g_lstore X49 hx (hb hby d11_61) (Ls' := #[.val (.ref a), .val (.int (0 : Int32)), .val (.ref tv), .val (.int p3), .val (.ref tg), .val (.int (fo 0)), .val (.int e6), .val (.int ((fs 0) + (fz 0))), .val (.int e8), .val (.int e9), .val (.long (fv i)), .second, .val (.long (fp j)), .second]) rfl (pc' := 63) rfl ?_
            refine g_lload X49 hx (hb hby d11_63) (v := (fv i)) rfl (pc' := 65) rfl ?_
            refine g_lload X49 hx (hb hby d11_65) (v := (fp j)) rfl (pc' := 67) rfl ?_
            refine g_ll_ge X49 hx (a := (fv i).toInt) (b := (fp j).toInt) rfl rfl (hb hby d11_67) (pc1 := 68) rfl (hb hby d11_68) (by decide) (pc' := 87) (by decide) (pc2 := 71) rfl (fun cl => ?_) (fun cl => ?_)
            · refine g_lload X49 hx (hb hby d11_87) (v := (fp j)) rfl (pc' := 89) rfl ?_
              refine g_lload X49 hx (hb hby d11_89) (v := (fv i)) rfl (pc' := 91) rfl ?_
              refine g_ll_ge X49 hx (a := (fp j).toInt) (b := (fv i).toInt) rfl rfl (hb hby d11_91) (pc1 := 92) rfl (hb hby d11_92) (by decide) (pc' := 111) (by decide) (pc2 := 95) rfl (fun cg => ?_) (fun cg => ?_)
              · refine g_aload X49 hx (hb hby d11_111) (v := (.ref tg)) rfl rfl (pc' := 113) rfl ?_
                refine g_iload X49 hx (hb hby d11_113) (v := e9) rfl (pc' := 115) rfl ?_
                refine g_iinc X49 hx (hb hby d11_115) (v := 1) (by decide) (x := e9) rfl (Ls' := #[.val (.ref a), .val (.int (0 : Int32)), .val (.ref tv), .val (.int p3), .val (.ref tg), .val (.int (fo 0)), .val (.int e6), .val (.int ((fs 0) + (fz 0))), .val (.int e8), .val (.int (e9 + (1 : Int32))), .val (.long (fv i)), .second, .val (.long (fp j)), .second]) rfl (pc' := 118) rfl ?_
                refine g_lload X49 hx (hb hby d11_118) (v := (fv i)) rfl (pc' := 120) rfl ?_
                refine g_lastore X49 hx hZ e50 (k := k) (x := (fv i)) Fl3 h9 (by omega) Nl gn_tg (hb hby d11_120) (pc' := 121) rfl (fun T51 h52 L53 X54 e55 W56 N57 A58 => ?_)
                have K59 := Kl.wr W56 (Or.inl (by simp))
                have Z60 : NLe n0 h52.size := Zl.wr W56
                have F61 := Fld.other W56 Fl0 (Or.inl ne_tg_a.symm)
                have F62 := Fl1.other W56 ne_tg_tp.symm
                have F63 := Fl2.other W56 ne_tg_tv.symm
                refine g_iinc X54 hx (hb hby d11_121) (v := 1) (by decide) (x := e8) rfl (Ls' := #[.val (.ref a), .val (.int (0 : Int32)), .val (.ref tv), .val (.int p3), .val (.ref tg), .val (.int (fo 0)), .val (.int e6), .val (.int ((fs 0) + (fz 0))), .val (.int (e8 + (1 : Int32))), .val (.int (e9 + (1 : Int32))), .val (.long (fv i)), .second, .val (.long (fp j)), .second]) rfl (pc' := 124) rfl ?_
                refine g_iinc X54 hx (hb hby d11_124) (v := 1) (by decide) (x := e6) rfl (Ls' := #[.val (.ref a), .val (.int (0 : Int32)), .val (.ref tv), .val (.int p3), .val (.ref tg), .val (.int (fo 0)), .val (.int (e6 + (1 : Int32))), .val (.int ((fs 0) + (fz 0))), .val (.int (e8 + (1 : Int32))), .val (.int (e9 + (1 : Int32))), .val (.long (fv i)), .second, .val (.long (fp j)), .second]) rfl (pc' := 127) rfl ?_
                refine g_goto X54 hx (hb hby d11_127) (by decide) (pc' := 35) (by decide) ?_
                exact ih (i + 1) (j + 1) (k + 1) (oupd g k (fv i)) (e6 + (1 : Int32)) (e8 + (1 : Int32)) (e9 + (1 : Int32)) (.val (.long (fv i))) .second (.val (.long (fp j))) .second _ _ _ (own_Mb hsv hsp hM (by omega) (by omega) (by omega)) (by omega) (own_incT h6 (by omega)) (own_incT h8 (by omega)) (own_incT h9 (by omega)) (Or.inr ⟨_, _, rfl, rfl, rfl, rfl⟩) X54 e55 N57 Z60 F61 F62 F63 A58 K59
              · refine g_aload X49 hx (hb hby d11_95) (v := (.ref tg)) rfl rfl (pc' := 97) rfl ?_
                refine g_iload X49 hx (hb hby d11_97) (v := e9) rfl (pc' := 99) rfl ?_
                refine g_iinc X49 hx (hb hby d11_99) (v := 1) (by decide) (x := e9) rfl (Ls' := #[.val (.ref a), .val (.int (0 : Int32)), .val (.ref tv), .val (.int p3), .val (.ref tg), .val (.int (fo 0)), .val (.int e6), .val (.int ((fs 0) + (fz 0))), .val (.int e8), .val (.int (e9 + (1 : Int32))), .val (.long (fv i)), .second, .val (.long (fp j)), .second]) rfl (pc' := 102) rfl ?_
                refine g_lload X49 hx (hb hby d11_102) (v := (fp j)) rfl (pc' := 104) rfl ?_
                refine g_lastore X49 hx hZ e50 (k := k) (x := (fp j)) Fl3 h9 (by omega) Nl gn_tg (hb hby d11_104) (pc' := 105) rfl (fun T65 h66 L67 X68 e69 W70 N71 A72 => ?_)
                have K73 := Kl.wr W70 (Or.inl (by simp))
                have Z74 : NLe n0 h66.size := Zl.wr W70
                have F75 := Fld.other W70 Fl0 (Or.inl ne_tg_a.symm)
                have F76 := Fl1.other W70 ne_tg_tp.symm
                have F77 := Fl2.other W70 ne_tg_tv.symm
                refine g_iinc X68 hx (hb hby d11_105) (v := 1) (by decide) (x := e6) rfl (Ls' := #[.val (.ref a), .val (.int (0 : Int32)), .val (.ref tv), .val (.int p3), .val (.ref tg), .val (.int (fo 0)), .val (.int (e6 + (1 : Int32))), .val (.int ((fs 0) + (fz 0))), .val (.int e8), .val (.int (e9 + (1 : Int32))), .val (.long (fv i)), .second, .val (.long (fp j)), .second]) rfl (pc' := 108) rfl ?_
                refine g_goto X68 hx (hb hby d11_108) (by decide) (pc' := 127) (by decide) ?_
                refine g_goto X68 hx (hb hby d11_127) (by decide) (pc' := 35) (by decide) ?_
                exact ih i (j + 1) (k + 1) (oupd g k (fp j)) (e6 + (1 : Int32)) e8 (e9 + (1 : Int32)) (.val (.long (fv i))) .second (.val (.long (fp j))) .second _ _ _ (own_Mh hsp hM (by omega) (fun _ => cg)) (by omega) (own_incT h6 (by omega)) h8 (own_incT h9 (by omega)) (Or.inr ⟨_, _, rfl, rfl, rfl, rfl⟩) X68 e69 N71 Z74 F75 F76 F77 A72 K73
            · refine g_aload X49 hx (hb hby d11_71) (v := (.ref tg)) rfl rfl (pc' := 73) rfl ?_
              refine g_iload X49 hx (hb hby d11_73) (v := e9) rfl (pc' := 75) rfl ?_
              refine g_iinc X49 hx (hb hby d11_75) (v := 1) (by decide) (x := e9) rfl (Ls' := #[.val (.ref a), .val (.int (0 : Int32)), .val (.ref tv), .val (.int p3), .val (.ref tg), .val (.int (fo 0)), .val (.int e6), .val (.int ((fs 0) + (fz 0))), .val (.int e8), .val (.int (e9 + (1 : Int32))), .val (.long (fv i)), .second, .val (.long (fp j)), .second]) rfl (pc' := 78) rfl ?_
              refine g_lload X49 hx (hb hby d11_78) (v := (fv i)) rfl (pc' := 80) rfl ?_
              refine g_lastore X49 hx hZ e50 (k := k) (x := (fv i)) Fl3 h9 (by omega) Nl gn_tg (hb hby d11_80) (pc' := 81) rfl (fun T79 h80 L81 X82 e83 W84 N85 A86 => ?_)
              have K87 := Kl.wr W84 (Or.inl (by simp))
              have Z88 : NLe n0 h80.size := Zl.wr W84
              have F89 := Fld.other W84 Fl0 (Or.inl ne_tg_a.symm)
              have F90 := Fl1.other W84 ne_tg_tp.symm
              have F91 := Fl2.other W84 ne_tg_tv.symm
              refine g_iinc X82 hx (hb hby d11_81) (v := 1) (by decide) (x := e8) rfl (Ls' := #[.val (.ref a), .val (.int (0 : Int32)), .val (.ref tv), .val (.int p3), .val (.ref tg), .val (.int (fo 0)), .val (.int e6), .val (.int ((fs 0) + (fz 0))), .val (.int (e8 + (1 : Int32))), .val (.int (e9 + (1 : Int32))), .val (.long (fv i)), .second, .val (.long (fp j)), .second]) rfl (pc' := 84) rfl ?_
              refine g_goto X82 hx (hb hby d11_84) (by decide) (pc' := 127) (by decide) ?_
              refine g_goto X82 hx (hb hby d11_127) (by decide) (pc' := 35) (by decide) ?_
              exact ih (i + 1) j (k + 1) (oupd g k (fv i)) e6 (e8 + (1 : Int32)) (e9 + (1 : Int32)) (.val (.long (fv i))) .second (.val (.long (fp j))) .second _ _ _ (own_Mv hsv hM (by omega) (fun _ => cl)) (by omega) h6 (own_incT h8 (by omega)) (own_incT h9 (by omega)) (Or.inr ⟨_, _, rfl, rfl, rfl, rfl⟩) X82 e83 N85 Z88 F89 F90 F91 A86 K87
          · show OGoes p e s below (Q10 Z a ts tz tp to tv tg p3 m1 n1 fs fz fo fp fv g0 h0 n0) n0 R10.cells R10.slots Tl (mkF m 48 #[.val (.ref a), .val (.int (0 : Int32)), .val (.ref tv), .val (.int p3), .val (.ref tg), .val (.int (fo 0)), .val (.int e6), .val (.int ((fs 0) + (fz 0))), .val (.int e8), .val (.int e9), .val (.long a10), .second, .val (.long a12), .second] [])
            refine g_aloadN Xl hx (hb hby d11_48) (v := (.ref tv)) rfl rfl (pc' := 49) rfl ?_
            refine g_iload Xl hx (hb hby d11_49) (v := e8) rfl (pc' := 51) rfl ?_
            refine g_laload Xl hx hZ El (k := i) Fl2 h8 (by omega) (hb hby d11_51) (pc' := 52) rfl ?_
            refine g_lstore Xl hx (hb hby d11_52) (Ls' := #[.val (.ref a), .val (.int (0 : Int32)), .val (.ref tv), .val (.int p3), .val (.ref tg), .val (.int (fo 0)), .val (.int e6), .val (.int ((fs 0) + (fz 0))), .val (.int e8), .val (.int e9), .val (.long (fv i)), .second, .val (.long a12), .second]) rfl (pc' := 54) rfl ?_
            refine g_aloadN Xl hx (hb hby d11_54) (v := (.ref a)) rfl rfl (pc' := 55) rfl ?_
            refine g_getF Xl hx hZ hown (hw _ (List.mem_of_getElem? (i := 30) rfl)) El Fl0 (hb hby d11_55) (pc' := 58) rfl (fun T93 X94 e95 => ?_)
            refine g_iload X94 hx (hb hby d11_58) (v := e6) rfl (pc' := 60) rfl ?_
            refine g_laload X94 hx hZ e95 (k := j) Fl1 h6 (by omega) (hb hby d11_60) (pc' := 61) rfl ?_
            refine g_lstore X94 hx (hb hby d11_61) (Ls' := #[.val (.ref a), .val (.int (0 : Int32)), .val (.ref tv), .val (.int p3), .val (.ref tg), .val (.int (fo 0)), .val (.int e6), .val (.int ((fs 0) + (fz 0))), .val (.int e8), .val (.int e9), .val (.long (fv i)), .second, .val (.long (fp j)), .second]) rfl (pc' := 63) rfl ?_
            refine g_lload X94 hx (hb hby d11_63) (v := (fv i)) rfl (pc' := 65) rfl ?_
            refine g_lload X94 hx (hb hby d11_65) (v := (fp j)) rfl (pc' := 67) rfl ?_
            refine g_ll_ge X94 hx (a := (fv i).toInt) (b := (fp j).toInt) rfl rfl (hb hby d11_67) (pc1 := 68) rfl (hb hby d11_68) (by decide) (pc' := 87) (by decide) (pc2 := 71) rfl (fun cl => ?_) (fun cl => ?_)
            · refine g_lload X94 hx (hb hby d11_87) (v := (fp j)) rfl (pc' := 89) rfl ?_
              refine g_lload X94 hx (hb hby d11_89) (v := (fv i)) rfl (pc' := 91) rfl ?_
              refine g_ll_ge X94 hx (a := (fp j).toInt) (b := (fv i).toInt) rfl rfl (hb hby d11_91) (pc1 := 92) rfl (hb hby d11_92) (by decide) (pc' := 111) (by decide) (pc2 := 95) rfl (fun cg => ?_) (fun cg => ?_)
              · refine g_aload X94 hx (hb hby d11_111) (v := (.ref tg)) rfl rfl (pc' := 113) rfl ?_
                refine g_iload X94 hx (hb hby d11_113) (v := e9) rfl (pc' := 115) rfl ?_
                refine g_iinc X94 hx (hb hby d11_115) (v := 1) (by decide) (x := e9) rfl (Ls' := #[.val (.ref a), .val (.int (0 : Int32)), .val (.ref tv), .val (.int p3), .val (.ref tg), .val (.int (fo 0)), .val (.int e6), .val (.int ((fs 0) + (fz 0))), .val (.int e8), .val (.int (e9 + (1 : Int32))), .val (.long (fv i)), .second, .val (.long (fp j)), .second]) rfl (pc' := 118) rfl ?_
                refine g_lload X94 hx (hb hby d11_118) (v := (fv i)) rfl (pc' := 120) rfl ?_
                refine g_lastore X94 hx hZ e95 (k := k) (x := (fv i)) Fl3 h9 (by omega) Nl gn_tg (hb hby d11_120) (pc' := 121) rfl (fun T96 h97 L98 X99 e100 W101 N102 A103 => ?_)
                have K104 := Kl.wr W101 (Or.inl (by simp))
                have Z105 : NLe n0 h97.size := Zl.wr W101
                have F106 := Fld.other W101 Fl0 (Or.inl ne_tg_a.symm)
                have F107 := Fl1.other W101 ne_tg_tp.symm
                have F108 := Fl2.other W101 ne_tg_tv.symm
                refine g_iinc X99 hx (hb hby d11_121) (v := 1) (by decide) (x := e8) rfl (Ls' := #[.val (.ref a), .val (.int (0 : Int32)), .val (.ref tv), .val (.int p3), .val (.ref tg), .val (.int (fo 0)), .val (.int e6), .val (.int ((fs 0) + (fz 0))), .val (.int (e8 + (1 : Int32))), .val (.int (e9 + (1 : Int32))), .val (.long (fv i)), .second, .val (.long (fp j)), .second]) rfl (pc' := 124) rfl ?_
                refine g_iinc X99 hx (hb hby d11_124) (v := 1) (by decide) (x := e6) rfl (Ls' := #[.val (.ref a), .val (.int (0 : Int32)), .val (.ref tv), .val (.int p3), .val (.ref tg), .val (.int (fo 0)), .val (.int (e6 + (1 : Int32))), .val (.int ((fs 0) + (fz 0))), .val (.int (e8 + (1 : Int32))), .val (.int (e9 + (1 : Int32))), .val (.long (fv i)), .second, .val (.long (fp j)), .second]) rfl (pc' := 127) rfl ?_
                refine g_goto X99 hx (hb hby d11_127) (by decide) (pc' := 35) (by decide) ?_
                exact ih (i + 1) (j + 1) (k + 1) (oupd g k (fv i)) (e6 + (1 : Int32)) (e8 + (1 : Int32)) (e9 + (1 : Int32)) (.val (.long (fv i))) .second (.val (.long (fp j))) .second _ _ _ (own_Mb hsv hsp hM (by omega) (by omega) (by omega)) (by omega) (own_incT h6 (by omega)) (own_incT h8 (by omega)) (own_incT h9 (by omega)) (Or.inr ⟨_, _, rfl, rfl, rfl, rfl⟩) X99 e100 N102 Z105 F106 F107 F108 A103 K104
              · refine g_aload X94 hx (hb hby d11_95) (v := (.ref tg)) rfl rfl (pc' := 97) rfl ?_
                refine g_iload X94 hx (hb hby d11_97) (v := e9) rfl (pc' := 99) rfl ?_
                refine g_iinc X94 hx (hb hby d11_99) (v := 1) (by decide) (x := e9) rfl (Ls' := #[.val (.ref a), .val (.int (0 : Int32)), .val (.ref tv), .val (.int p3), .val (.ref tg), .val (.int (fo 0)), .val (.int e6), .val (.int ((fs 0) + (fz 0))), .val (.int e8), .val (.int (e9 + (1 : Int32))), .val (.long (fv i)), .second, .val (.long (fp j)), .second]) rfl (pc' := 102) rfl ?_
                refine g_lload X94 hx (hb hby d11_102) (v := (fp j)) rfl (pc' := 104) rfl ?_
                refine g_lastore X94 hx hZ e95 (k := k) (x := (fp j)) Fl3 h9 (by omega) Nl gn_tg (hb hby d11_104) (pc' := 105) rfl (fun T110 h111 L112 X113 e114 W115 N116 A117 => ?_)
                have K118 := Kl.wr W115 (Or.inl (by simp))
                have Z119 : NLe n0 h111.size := Zl.wr W115
                have F120 := Fld.other W115 Fl0 (Or.inl ne_tg_a.symm)
                have F121 := Fl1.other W115 ne_tg_tp.symm
                have F122 := Fl2.other W115 ne_tg_tv.symm
                refine g_iinc X113 hx (hb hby d11_105) (v := 1) (by decide) (x := e6) rfl (Ls' := #[.val (.ref a), .val (.int (0 : Int32)), .val (.ref tv), .val (.int p3), .val (.ref tg), .val (.int (fo 0)), .val (.int (e6 + (1 : Int32))), .val (.int ((fs 0) + (fz 0))), .val (.int e8), .val (.int (e9 + (1 : Int32))), .val (.long (fv i)), .second, .val (.long (fp j)), .second]) rfl (pc' := 108) rfl ?_
                refine g_goto X113 hx (hb hby d11_108) (by decide) (pc' := 127) (by decide) ?_
                refine g_goto X113 hx (hb hby d11_127) (by decide) (pc' := 35) (by decide) ?_
                exact ih i (j + 1) (k + 1) (oupd g k (fp j)) (e6 + (1 : Int32)) e8 (e9 + (1 : Int32)) (.val (.long (fv i))) .second (.val (.long (fp j))) .second _ _ _ (own_Mh hsp hM (by omega) (fun _ => cg)) (by omega) (own_incT h6 (by omega)) h8 (own_incT h9 (by omega)) (Or.inr ⟨_, _, rfl, rfl, rfl, rfl⟩) X113 e114 N116 Z119 F120 F121 F122 A117 K118
            · refine g_aload X94 hx (hb hby d11_71) (v := (.ref tg)) rfl rfl (pc' := 73) rfl ?_
              refine g_iload X94 hx (hb hby d11_73) (v := e9) rfl (pc' := 75) rfl ?_
              refine g_iinc X94 hx (hb hby d11_75) (v := 1) (by decide) (x := e9) rfl (Ls' := #[.val (.ref a), .val (.int (0 : Int32)), .val (.ref tv), .val (.int p3), .val (.ref tg), .val (.int (fo 0)), .val (.int e6), .val (.int ((fs 0) + (fz 0))), .val (.int e8), .val (.int (e9 + (1 : Int32))), .val (.long (fv i)), .second, .val (.long (fp j)), .second]) rfl (pc' := 78) rfl ?_
              refine g_lload X94 hx (hb hby d11_78) (v := (fv i)) rfl (pc' := 80) rfl ?_
              refine g_lastore X94 hx hZ e95 (k := k) (x := (fv i)) Fl3 h9 (by omega) Nl gn_tg (hb hby d11_80) (pc' := 81) rfl (fun T124 h125 L126 X127 e128 W129 N130 A131 => ?_)
              have K132 := Kl.wr W129 (Or.inl (by simp))
              have Z133 : NLe n0 h125.size := Zl.wr W129
              have F134 := Fld.other W129 Fl0 (Or.inl ne_tg_a.symm)
              have F135 := Fl1.other W129 ne_tg_tp.symm
              have F136 := Fl2.other W129 ne_tg_tv.symm
              refine g_iinc X127 hx (hb hby d11_81) (v := 1) (by decide) (x := e8) rfl (Ls' := #[.val (.ref a), .val (.int (0 : Int32)), .val (.ref tv), .val (.int p3), .val (.ref tg), .val (.int (fo 0)), .val (.int e6), .val (.int ((fs 0) + (fz 0))), .val (.int (e8 + (1 : Int32))), .val (.int (e9 + (1 : Int32))), .val (.long (fv i)), .second, .val (.long (fp j)), .second]) rfl (pc' := 84) rfl ?_
              refine g_goto X127 hx (hb hby d11_84) (by decide) (pc' := 127) (by decide) ?_
              refine g_goto X127 hx (hb hby d11_127) (by decide) (pc' := 35) (by decide) ?_
              exact ih (i + 1) j (k + 1) (oupd g k (fv i)) e6 (e8 + (1 : Int32)) (e9 + (1 : Int32)) (.val (.long (fv i))) .second (.val (.long (fp j))) .second _ _ _ (own_Mv hsv hM (by omega) (fun _ => cl)) (by omega) h6 (own_incT h8 (by omega)) (own_incT h9 (by omega)) (Or.inr ⟨_, _, rfl, rfl, rfl, rfl⟩) X127 e128 N130 Z133 F134 F135 F136 A131 K132
  exact loop1 (n1 + m1) 0 0 0 g0 (fs 0) (0 : Int32) (0 : Int32) .unset .unset .unset .unset _ _ _ (own_M0 m1 n1 fp fv g0) (by omega) hs rfl rfl (Or.inl ⟨rfl, rfl, rfl, rfl⟩) X8 e9 N0 Z0 Fp2 Fp6 Fp8 Fp9 K0
theorem d12_0 : decode method_3_code 0 = .ok (.iload_n 3, 1) := by decide +kernel
theorem d12_1 : decode method_3_code 1 = .ok (.ifCond .le 11, 3) := by decide +kernel
theorem d12_4 : decode method_3_code 4 = .ok (.aload_n 2, 1) := by decide +kernel
theorem d12_5 : decode method_3_code 5 = .ok (.iconst 0, 1) := by decide +kernel
theorem d12_6 : decode method_3_code 6 = .ok (.laload, 1) := by decide +kernel
theorem d12_7 : decode method_3_code 7 = .ok (.lload_n 0, 1) := by decide +kernel
theorem d12_8 : decode method_3_code 8 = .ok (.lcmp, 1) := by decide +kernel
theorem d12_9 : decode method_3_code 9 = .ok (.ifCond .eq 42, 3) := by decide +kernel
theorem d12_12 : decode method_3_code 12 = .ok (.iload_n 3, 1) := by decide +kernel
theorem d12_13 : decode method_3_code 13 = .ok (.iconst 1, 1) := by decide +kernel
theorem d12_14 : decode method_3_code 14 = .ok (.if_icmp .le 11, 3) := by decide +kernel
theorem d12_17 : decode method_3_code 17 = .ok (.aload_n 2, 1) := by decide +kernel
theorem d12_18 : decode method_3_code 18 = .ok (.iconst 1, 1) := by decide +kernel
theorem d12_19 : decode method_3_code 19 = .ok (.laload, 1) := by decide +kernel
theorem d12_20 : decode method_3_code 20 = .ok (.lload_n 0, 1) := by decide +kernel
theorem d12_21 : decode method_3_code 21 = .ok (.lcmp, 1) := by decide +kernel
theorem d12_22 : decode method_3_code 22 = .ok (.ifCond .eq 29, 3) := by decide +kernel
theorem d12_25 : decode method_3_code 25 = .ok (.iload_n 3, 1) := by decide +kernel
theorem d12_26 : decode method_3_code 26 = .ok (.iconst 2, 1) := by decide +kernel
theorem d12_27 : decode method_3_code 27 = .ok (.if_icmp .le 11, 3) := by decide +kernel
theorem d12_30 : decode method_3_code 30 = .ok (.aload_n 2, 1) := by decide +kernel
theorem d12_31 : decode method_3_code 31 = .ok (.iconst 2, 1) := by decide +kernel
theorem d12_32 : decode method_3_code 32 = .ok (.laload, 1) := by decide +kernel
theorem d12_33 : decode method_3_code 33 = .ok (.lload_n 0, 1) := by decide +kernel
theorem d12_34 : decode method_3_code 34 = .ok (.lcmp, 1) := by decide +kernel
theorem d12_35 : decode method_3_code 35 = .ok (.ifCond .eq 16, 3) := by decide +kernel
theorem d12_38 : decode method_3_code 38 = .ok (.iload_n 3, 1) := by decide +kernel
theorem d12_39 : decode method_3_code 39 = .ok (.iconst 3, 1) := by decide +kernel
theorem d12_40 : decode method_3_code 40 = .ok (.if_icmp .le 15, 3) := by decide +kernel
theorem d12_43 : decode method_3_code 43 = .ok (.aload_n 2, 1) := by decide +kernel
theorem d12_44 : decode method_3_code 44 = .ok (.iconst 3, 1) := by decide +kernel
theorem d12_45 : decode method_3_code 45 = .ok (.laload, 1) := by decide +kernel
theorem d12_46 : decode method_3_code 46 = .ok (.lload_n 0, 1) := by decide +kernel
theorem d12_47 : decode method_3_code 47 = .ok (.lcmp, 1) := by decide +kernel
theorem d12_48 : decode method_3_code 48 = .ok (.ifCond .ne 7, 3) := by decide +kernel
theorem d12_51 : decode method_3_code 51 = .ok (.iconst 1, 1) := by decide +kernel
theorem d12_52 : decode method_3_code 52 = .ok (.goto 4, 3) := by decide +kernel
theorem d12_55 : decode method_3_code 55 = .ok (.iconst 0, 1) := by decide +kernel
theorem d12_56 : decode method_3_code 56 = .ok (.ireturn, 1) := by decide +kernel
theorem pn_10 : plainFor (⟨"com/example/vetter/vetter/compare/PairSetsUnionPinLaw", "inFirst", "(J[JI)Z"⟩ : MethodName) = true := by first | exact plainFor_of_name (by first | (simp [plainName, overriddenIn]; done) | decide +kernel) | decide +kernel
def Q11 (Z : State) (q : Int64) (t : Addr) (p3 : Int32) (n : Nat) (k1 : Nat) (f : Nat → Int64) (h0 : Heap) (n0 : Nat) (v : Option Value) (h : Heap) : Prop := ∃ b : Int32, v = some (.int b) ∧ ((∃ y, y < k1 ∧ f y = q) ∧ b.toInt = 1 ∨ ¬ (∃ y, y < k1 ∧ f y = q) ∧ b.toInt = 0) ∧ h = h0
abbrev R11 : Room := { frames := 0, cells := 0, slots := 0, locals := 0 }
set_option maxRecDepth 65536 in
set_option maxHeartbeats 40000000 in
theorem rm11 (l : Launch) (Z : State) (a0 : Array Value) (hw : ∀ d ∈ tables_1, d.before a0 Z = true)  (q : Int64) (t : Addr) (p3 : Int32) (n : Nat) (k1 : Nat) (f : Nat → Int64) (h0 : Heap) (n0 : Nat) (Z0 : NLe n0 h0.size) (Fp0 : LA Z h0 t n f) (hk : p3.toInt = (k1 : Int)) (hkn : k1 ≤ n) (hk4 : k1 ≤ 4) :
    Con l (⟨"com/example/vetter/vetter/compare/PairSetsUnionPinLaw", "inFirst", "(J[JI)Z"⟩ : MethodName) method_3_code 4 (some .boolean) [] R11 Z #[(.long q), (.ref t), (.int p3)] h0 n0 (Q11 Z q t p3 n k1 f h0 n0) := by
  refine con_of (Ls0 := #[.val (.long q), .second, .val (.ref t), .val (.int p3)]) pn_10 (fun m => by first | (simp [entryFrame, mkF, argsToLocals, Value.category, maxLocals]; done) | rfl) ?_
  intro p e s m below meth c s₁ X0 hx hby hml hZ hown hnm hret hlk e0 N0
  show OGoes p e s below (Q11 Z q t p3 n k1 f h0 n0) n0 R11.cells R11.slots s₁ (mkF m 0 #[.val (.long q), .second, .val (.ref t), .val (.int p3)] [])
  refine g_iloadN X0 hx (hb hby d12_0) (v := p3) rfl (pc' := 1) rfl ?_
  refine g_i0_le X0 hx (a := (k1 : Int)) hk (hb hby d12_1) (by decide) (pc' := 12) (by decide) (pc2 := 4) rfl (fun c1 => ?_) (fun c1 => ?_)
  · refine g_iloadN X0 hx (hb hby d12_12) (v := p3) rfl (pc' := 13) rfl ?_
    refine g_iconst X0 hx (hb hby d12_13) (v := 1) (by decide) (pc' := 14) rfl ?_
    refine g_ii_le X0 hx (a := (k1 : Int)) (b := 1) hk rfl (hb hby d12_14) (by decide) (pc' := 25) (by decide) (pc2 := 17) rfl (fun c2 => ?_) (fun c2 => False.elim (by omega))
    refine g_iloadN X0 hx (hb hby d12_25) (v := p3) rfl (pc' := 26) rfl ?_
    refine g_iconst X0 hx (hb hby d12_26) (v := 2) (by decide) (pc' := 27) rfl ?_
    refine g_ii_le X0 hx (a := (k1 : Int)) (b := 2) hk rfl (hb hby d12_27) (by decide) (pc' := 38) (by decide) (pc2 := 30) rfl (fun c3 => ?_) (fun c3 => False.elim (by omega))
    refine g_iloadN X0 hx (hb hby d12_38) (v := p3) rfl (pc' := 39) rfl ?_
    refine g_iconst X0 hx (hb hby d12_39) (v := 3) (by decide) (pc' := 40) rfl ?_
    refine g_ii_le X0 hx (a := (k1 : Int)) (b := 3) hk rfl (hb hby d12_40) (by decide) (pc' := 55) (by decide) (pc2 := 43) rfl (fun c4 => ?_) (fun c4 => False.elim (by omega))
    refine g_iconst X0 hx (hb hby d12_55) (v := 0) (by decide) (pc' := 56) rfl ?_
    refine g_retZ X0 hx hlk (by decide) hret (hb hby d12_56) N0 (by decide) (by decide) ?_
    exact ⟨_, rfl, Or.inr ⟨own_none hk4 (by omega) (by omega) (by omega) (by omega), rfl⟩, e0⟩
  · refine g_aloadN X0 hx (hb hby d12_4) (v := (.ref t)) rfl rfl (pc' := 5) rfl ?_
    refine g_iconst X0 hx (hb hby d12_5) (v := 0) (by decide) (pc' := 6) rfl ?_
    refine g_laload X0 hx hZ e0 (k := 0) Fp0 rfl (by omega) (hb hby d12_6) (pc' := 7) rfl ?_
    refine g_lloadN X0 hx (hb hby d12_7) (v := q) rfl (pc' := 8) rfl ?_
    refine g_ll_eq X0 hx (a := (f 0).toInt) (b := q.toInt) rfl rfl (hb hby d12_8) (pc1 := 9) rfl (hb hby d12_9) (by decide) (pc' := 51) (by decide) (pc2 := 12) rfl (fun c5 => ?_) (fun c5 => ?_)
    · refine g_iconst X0 hx (hb hby d12_51) (v := 1) (by decide) (pc' := 52) rfl ?_
      refine g_goto X0 hx (hb hby d12_52) (by decide) (pc' := 56) (by decide) ?_
      refine g_retZ X0 hx hlk (by decide) hret (hb hby d12_56) N0 (by decide) (by decide) ?_
      exact ⟨_, rfl, by exact Or.inl ⟨⟨0, by omega, Int64.toInt_inj.mp (by assumption)⟩, rfl⟩, e0⟩
    · refine g_iloadN X0 hx (hb hby d12_12) (v := p3) rfl (pc' := 13) rfl ?_
      refine g_iconst X0 hx (hb hby d12_13) (v := 1) (by decide) (pc' := 14) rfl ?_
      refine g_ii_le X0 hx (a := (k1 : Int)) (b := 1) hk rfl (hb hby d12_14) (by decide) (pc' := 25) (by decide) (pc2 := 17) rfl (fun c6 => ?_) (fun c6 => ?_)
      · refine g_iloadN X0 hx (hb hby d12_25) (v := p3) rfl (pc' := 26) rfl ?_
        refine g_iconst X0 hx (hb hby d12_26) (v := 2) (by decide) (pc' := 27) rfl ?_
        refine g_ii_le X0 hx (a := (k1 : Int)) (b := 2) hk rfl (hb hby d12_27) (by decide) (pc' := 38) (by decide) (pc2 := 30) rfl (fun c7 => ?_) (fun c7 => False.elim (by omega))
        refine g_iloadN X0 hx (hb hby d12_38) (v := p3) rfl (pc' := 39) rfl ?_
        refine g_iconst X0 hx (hb hby d12_39) (v := 3) (by decide) (pc' := 40) rfl ?_
        refine g_ii_le X0 hx (a := (k1 : Int)) (b := 3) hk rfl (hb hby d12_40) (by decide) (pc' := 55) (by decide) (pc2 := 43) rfl (fun c8 => ?_) (fun c8 => False.elim (by omega))
        refine g_iconst X0 hx (hb hby d12_55) (v := 0) (by decide) (pc' := 56) rfl ?_
        refine g_retZ X0 hx hlk (by decide) hret (hb hby d12_56) N0 (by decide) (by decide) ?_
        exact ⟨_, rfl, Or.inr ⟨own_none hk4 (by omega) (by omega) (by omega) (by omega), rfl⟩, e0⟩
      · refine g_aloadN X0 hx (hb hby d12_17) (v := (.ref t)) rfl rfl (pc' := 18) rfl ?_
        refine g_iconst X0 hx (hb hby d12_18) (v := 1) (by decide) (pc' := 19) rfl ?_
        refine g_laload X0 hx hZ e0 (k := 1) Fp0 rfl (by omega) (hb hby d12_19) (pc' := 20) rfl ?_
        refine g_lloadN X0 hx (hb hby d12_20) (v := q) rfl (pc' := 21) rfl ?_
        refine g_ll_eq X0 hx (a := (f 1).toInt) (b := q.toInt) rfl rfl (hb hby d12_21) (pc1 := 22) rfl (hb hby d12_22) (by decide) (pc' := 51) (by decide) (pc2 := 25) rfl (fun c9 => ?_) (fun c9 => ?_)
        · refine g_iconst X0 hx (hb hby d12_51) (v := 1) (by decide) (pc' := 52) rfl ?_
          refine g_goto X0 hx (hb hby d12_52) (by decide) (pc' := 56) (by decide) ?_
          refine g_retZ X0 hx hlk (by decide) hret (hb hby d12_56) N0 (by decide) (by decide) ?_
          exact ⟨_, rfl, by exact Or.inl ⟨⟨1, by omega, Int64.toInt_inj.mp (by assumption)⟩, rfl⟩, e0⟩
        · refine g_iloadN X0 hx (hb hby d12_25) (v := p3) rfl (pc' := 26) rfl ?_
          refine g_iconst X0 hx (hb hby d12_26) (v := 2) (by decide) (pc' := 27) rfl ?_
          refine g_ii_le X0 hx (a := (k1 : Int)) (b := 2) hk rfl (hb hby d12_27) (by decide) (pc' := 38) (by decide) (pc2 := 30) rfl (fun c10 => ?_) (fun c10 => ?_)
          · refine g_iloadN X0 hx (hb hby d12_38) (v := p3) rfl (pc' := 39) rfl ?_
            refine g_iconst X0 hx (hb hby d12_39) (v := 3) (by decide) (pc' := 40) rfl ?_
            refine g_ii_le X0 hx (a := (k1 : Int)) (b := 3) hk rfl (hb hby d12_40) (by decide) (pc' := 55) (by decide) (pc2 := 43) rfl (fun c11 => ?_) (fun c11 => False.elim (by omega))
            refine g_iconst X0 hx (hb hby d12_55) (v := 0) (by decide) (pc' := 56) rfl ?_
            refine g_retZ X0 hx hlk (by decide) hret (hb hby d12_56) N0 (by decide) (by decide) ?_
            exact ⟨_, rfl, Or.inr ⟨own_none hk4 (by omega) (by omega) (by omega) (by omega), rfl⟩, e0⟩
          · refine g_aloadN X0 hx (hb hby d12_30) (v := (.ref t)) rfl rfl (pc' := 31) rfl ?_
            refine g_iconst X0 hx (hb hby d12_31) (v := 2) (by decide) (pc' := 32) rfl ?_
            refine g_laload X0 hx hZ e0 (k := 2) Fp0 rfl (by omega) (hb hby d12_32) (pc' := 33) rfl ?_
            refine g_lloadN X0 hx (hb hby d12_33) (v := q) rfl (pc' := 34) rfl ?_
            refine g_ll_eq X0 hx (a := (f 2).toInt) (b := q.toInt) rfl rfl (hb hby d12_34) (pc1 := 35) rfl (hb hby d12_35) (by decide) (pc' := 51) (by decide) (pc2 := 38) rfl (fun c12 => ?_) (fun c12 => ?_)
            · refine g_iconst X0 hx (hb hby d12_51) (v := 1) (by decide) (pc' := 52) rfl ?_
              refine g_goto X0 hx (hb hby d12_52) (by decide) (pc' := 56) (by decide) ?_
              refine g_retZ X0 hx hlk (by decide) hret (hb hby d12_56) N0 (by decide) (by decide) ?_
              exact ⟨_, rfl, by exact Or.inl ⟨⟨2, by omega, Int64.toInt_inj.mp (by assumption)⟩, rfl⟩, e0⟩
            · refine g_iloadN X0 hx (hb hby d12_38) (v := p3) rfl (pc' := 39) rfl ?_
              refine g_iconst X0 hx (hb hby d12_39) (v := 3) (by decide) (pc' := 40) rfl ?_
              refine g_ii_le X0 hx (a := (k1 : Int)) (b := 3) hk rfl (hb hby d12_40) (by decide) (pc' := 55) (by decide) (pc2 := 43) rfl (fun c13 => ?_) (fun c13 => ?_)
              · refine g_iconst X0 hx (hb hby d12_55) (v := 0) (by decide) (pc' := 56) rfl ?_
                refine g_retZ X0 hx hlk (by decide) hret (hb hby d12_56) N0 (by decide) (by decide) ?_
                exact ⟨_, rfl, Or.inr ⟨own_none hk4 (by omega) (by omega) (by omega) (by omega), rfl⟩, e0⟩
              · refine g_aloadN X0 hx (hb hby d12_43) (v := (.ref t)) rfl rfl (pc' := 44) rfl ?_
                refine g_iconst X0 hx (hb hby d12_44) (v := 3) (by decide) (pc' := 45) rfl ?_
                refine g_laload X0 hx hZ e0 (k := 3) Fp0 rfl (by omega) (hb hby d12_45) (pc' := 46) rfl ?_
                refine g_lloadN X0 hx (hb hby d12_46) (v := q) rfl (pc' := 47) rfl ?_
                refine g_ll_ne X0 hx (a := (f 3).toInt) (b := q.toInt) rfl rfl (hb hby d12_47) (pc1 := 48) rfl (hb hby d12_48) (by decide) (pc' := 55) (by decide) (pc2 := 51) rfl (fun c14 => ?_) (fun c14 => ?_)
                · refine g_iconst X0 hx (hb hby d12_55) (v := 0) (by decide) (pc' := 56) rfl ?_
                  refine g_retZ X0 hx hlk (by decide) hret (hb hby d12_56) N0 (by decide) (by decide) ?_
                  exact ⟨_, rfl, Or.inr ⟨own_none hk4 (by omega) (by omega) (by omega) (by omega), rfl⟩, e0⟩
                · refine g_iconst X0 hx (hb hby d12_51) (v := 1) (by decide) (pc' := 52) rfl ?_
                  refine g_goto X0 hx (hb hby d12_52) (by decide) (pc' := 56) (by decide) ?_
                  refine g_retZ X0 hx hlk (by decide) hret (hb hby d12_56) N0 (by decide) (by decide) ?_
                  exact ⟨_, rfl, by exact Or.inl ⟨⟨3, by omega, Int64.toInt_inj.mp (by assumption)⟩, rfl⟩, e0⟩
theorem own_pick {A B : Prop} {b1 b2 : Int} (h : A ∨ B) (f1 : A ∧ b1 = 1 ∨ ¬ A ∧ b1 = 0) (f2 : B ∧ b2 = 1 ∨ ¬ B ∧ b2 = 0) (c : b1 = 0) : b2 = 1 := by
  rcases f2 with f2 | f2
  · exact f2.2
  · rcases f1 with f1 | f1
    · have := f1.2; omega
    · exact absurd h (fun q => q.elim f1.1 f2.1)
theorem own_hit {A : Prop} {b : Int} (h : A) (f : A ∧ b = 1 ∨ ¬ A ∧ b = 0) : b = 1 := f.elim (fun q => q.2) (fun q => absurd h q.1)
theorem own_mm {x y a b : Int} (f1 : x ≤ y ∧ a = x ∨ y < x ∧ a = y) (f2 : y ≤ x ∧ b = x ∨ x < y ∧ b = y) : a ≤ b := by omega
theorem pn_11 : plainFor (⟨"com/example/vetter/vetter/compare/PairSetsUnionPinLaw", "law", "(JJJJI)Z"⟩ : MethodName) = true := by first | exact plainFor_of_name (by first | (simp [plainName, overriddenIn]; done) | decide +kernel) | decide +kernel
def Q0 (Z : State) (p0 : Int64) (p1 : Int64) (p2 : Int64) (p3 : Int64) (p4 : Int32) (h0 : Heap) (n0 : Nat) (v : Option Value) (h : Heap) : Prop := v = some (.int 1)
set_option maxRecDepth 65536 in
set_option maxHeartbeats 40000000 in
theorem rm0 (l : Launch) (Z : State) (a0 : Array Value) (hw : ∀ d ∈ tables_1, d.before a0 Z = true) (ws : List Jvm.Cond) (p0 : Int64) (p1 : Int64) (p2 : Int64) (p3 : Int64) (p4 : Int32) (h0 : Heap) (n0 : Nat) (Z0 : NLe n0 h0.size)  :
    Con l x code maxLocals ret ws room_1 Z #[(.long p0), (.long p1), (.long p2), (.long p3), (.int p4)] h0 n0 (Q0 Z p0 p1 p2 p3 p4 h0 n0) := by
  refine con_of (Ls0 := #[.val (.long p0), .second, .val (.long p1), .second, .val (.long p2), .second, .val (.long p3), .second, .val (.int p4), .unset, .unset, .unset, .unset, .unset, .unset, .unset, .unset, .unset, .unset, .unset, .unset, .unset, .unset, .unset]) pn_11 (fun m => by first | (simp [entryFrame, mkF, argsToLocals, Value.category, maxLocals]; done) | rfl) ?_
  intro p e s m below meth c s₁ X0 hx hby hml hZ hown hnm hret hlk e0 N0
  refine g_iload X0 hx (hb hby at_0) (v := p4) rfl (pc' := 2) rfl ?_
  refine g_ldc X0 hx hZ hown (hb hby at_2) (v := 2147483647) (hw _ (List.mem_of_getElem? (i := 0) rfl)) (pc' := 4) rfl ?_
  refine g_iand X0 hx (hb hby at_4) (pc' := 5) rfl ?_
  refine g_iconst X0 hx (hb hby at_5) (v := 3) (by decide) (pc' := 6) rfl ?_
  refine g_irem X0 hx (hb hby at_6) (by decide) (pc' := 7) rfl ?_
  refine g_istore X0 hx (hb hby at_7) (Ls' := #[.val (.long p0), .second, .val (.long p1), .second, .val (.long p2), .second, .val (.long p3), .second, .val (.int p4), .val (.int ((p4 &&& (2147483647 : Int32)) % (3 : Int32))), .unset, .unset, .unset, .unset, .unset, .unset, .unset, .unset, .unset, .unset, .unset, .unset, .unset, .unset]) rfl (pc' := 9) rfl ?_
  refine g_iload X0 hx (hb hby at_9) (v := p4) rfl (pc' := 11) rfl ?_
  refine g_bipush X0 hx (hb hby at_11) (v := 8) (by decide) (pc' := 13) rfl ?_
  refine g_iushr X0 hx (hb hby at_13) (pc' := 14) rfl ?_
  refine g_ldc X0 hx hZ hown (hb hby at_14) (v := 2147483647) (hw _ (List.mem_of_getElem? (i := 0) rfl)) (pc' := 16) rfl ?_
  refine g_iand X0 hx (hb hby at_16) (pc' := 17) rfl ?_
  refine g_iconst X0 hx (hb hby at_17) (v := 3) (by decide) (pc' := 18) rfl ?_
  refine g_irem X0 hx (hb hby at_18) (by decide) (pc' := 19) rfl ?_
  refine g_istore X0 hx (hb hby at_19) (Ls' := #[.val (.long p0), .second, .val (.long p1), .second, .val (.long p2), .second, .val (.long p3), .second, .val (.int p4), .val (.int ((p4 &&& (2147483647 : Int32)) % (3 : Int32))), .val (.int (((XT.ushr p4 (8 : Int32)) &&& (2147483647 : Int32)) % (3 : Int32))), .unset, .unset, .unset, .unset, .unset, .unset, .unset, .unset, .unset, .unset, .unset, .unset, .unset]) rfl (pc' := 21) rfl ?_
  refine g_lloadN X0 hx (hb hby at_21) (v := p0) rfl (pc' := 22) rfl ?_
  refine g_lloadN X0 hx (hb hby at_22) (v := p1) rfl (pc' := 23) rfl ?_
  refine g_static X0 hx hZ hown (hw _ (List.mem_of_getElem? (i := 1) rfl)) (hw _ (List.mem_of_getElem? (i := 2) rfl)) (hw _ (List.mem_of_getElem? (i := 3) rfl)) (hw _ (List.mem_of_getElem? (i := 4) rfl)) (by decide) (argsL := [(.long p0), (.long p1)]) (rm1 l Z a0 hw p0 p1 h0 n0 Z0 ) rfl e0 (by rw [hml]; rfl) pd_0 rfl (rest := []) rfl (W := 0) (Nat.le_of_eq rfl) (by decide) (by decide) (by decide) (by decide) N0 (hb hby at_23) (pc' := 26) rfl (fun v1 T2 L3 X4 N5 q6 => ?_)
  obtain ⟨b7, rfl, f8, e9⟩ := q6
  show OGoes p e s below (Q0 Z p0 p1 p2 p3 p4 h0 n0) n0 room_1.cells room_1.slots T2 (mkF m 26 #[.val (.long p0), .second, .val (.long p1), .second, .val (.long p2), .second, .val (.long p3), .second, .val (.int p4), .val (.int ((p4 &&& (2147483647 : Int32)) % (3 : Int32))), .val (.int (((XT.ushr p4 (8 : Int32)) &&& (2147483647 : Int32)) % (3 : Int32))), .unset, .unset, .unset, .unset, .unset, .unset, .unset, .unset, .unset, .unset, .unset, .unset, .unset] [(.long b7)])
  refine g_lstore X4 hx (hb hby at_26) (Ls' := #[.val (.long p0), .second, .val (.long p1), .second, .val (.long p2), .second, .val (.long p3), .second, .val (.int p4), .val (.int ((p4 &&& (2147483647 : Int32)) % (3 : Int32))), .val (.int (((XT.ushr p4 (8 : Int32)) &&& (2147483647 : Int32)) % (3 : Int32))), .val (.long b7), .second, .unset, .unset, .unset, .unset, .unset, .unset, .unset, .unset, .unset, .unset, .unset]) rfl (pc' := 28) rfl ?_
  refine g_lloadN X4 hx (hb hby at_28) (v := p0) rfl (pc' := 29) rfl ?_
  refine g_lloadN X4 hx (hb hby at_29) (v := p1) rfl (pc' := 30) rfl ?_
  refine g_static X4 hx hZ hown (hw _ (List.mem_of_getElem? (i := 5) rfl)) (hw _ (List.mem_of_getElem? (i := 6) rfl)) (hw _ (List.mem_of_getElem? (i := 3) rfl)) (hw _ (List.mem_of_getElem? (i := 7) rfl)) (by decide) (argsL := [(.long p0), (.long p1)]) (rm2 l Z a0 hw p0 p1 h0 n0 Z0 ) rfl e9 (by rw [hml]; rfl) pd_0 rfl (rest := []) rfl (W := 0) (Nat.le_of_eq rfl) (by decide) (by decide) (by decide) (by decide) N5 (hb hby at_30) (pc' := 33) rfl (fun v10 T11 L12 X13 N14 q15 => ?_)
  obtain ⟨b16, rfl, f17, e18⟩ := q15
  show OGoes p e s below (Q0 Z p0 p1 p2 p3 p4 h0 n0) n0 room_1.cells room_1.slots T11 (mkF m 33 #[.val (.long p0), .second, .val (.long p1), .second, .val (.long p2), .second, .val (.long p3), .second, .val (.int p4), .val (.int ((p4 &&& (2147483647 : Int32)) % (3 : Int32))), .val (.int (((XT.ushr p4 (8 : Int32)) &&& (2147483647 : Int32)) % (3 : Int32))), .val (.long b7), .second, .unset, .unset, .unset, .unset, .unset, .unset, .unset, .unset, .unset, .unset, .unset] [(.long b16)])
  have hA1 : b7.toInt ≤ b16.toInt := own_mm f8 f17
  clear f8 f17
  refine g_lstore X13 hx (hb hby at_33) (Ls' := #[.val (.long p0), .second, .val (.long p1), .second, .val (.long p2), .second, .val (.long p3), .second, .val (.int p4), .val (.int ((p4 &&& (2147483647 : Int32)) % (3 : Int32))), .val (.int (((XT.ushr p4 (8 : Int32)) &&& (2147483647 : Int32)) % (3 : Int32))), .val (.long b7), .second, .val (.long b16), .second, .unset, .unset, .unset, .unset, .unset, .unset, .unset, .unset, .unset]) rfl (pc' := 35) rfl ?_
  have B9 := own_cnt p4
  have B10 : 0 ≤ ((((XT.ushr p4 (8 : Int32)) &&& (2147483647 : Int32)) % (3 : Int32))).toInt ∧ ((((XT.ushr p4 (8 : Int32)) &&& (2147483647 : Int32)) % (3 : Int32))).toInt ≤ 2 := own_cnt _
  generalize hg19 : ((p4 &&& (2147483647 : Int32)) % (3 : Int32)) = cm
  rw [hg19] at B9; clear hg19
  generalize hg20 : (((XT.ushr p4 (8 : Int32)) &&& (2147483647 : Int32)) % (3 : Int32)) = cn
  rw [hg20] at B10; clear hg20
  have J21 : ∀ (m9 : Int32), (0 ≤ m9.toInt ∧ m9.toInt ≤ 2 ∧ (m9.toInt = 2 → b7.toInt < b16.toInt)) → OGoes p e s below (Q0 Z p0 p1 p2 p3 p4 h0 n0) n0 room_1.cells room_1.slots T11 (mkF m 52 #[.val (.long p0), .second, .val (.long p1), .second, .val (.long p2), .second, .val (.long p3), .second, .val (.int p4), .val (.int m9), .val (.int cn), .val (.long b7), .second, .val (.long b16), .second, .unset, .unset, .unset, .unset, .unset, .unset, .unset, .unset, .unset] []) := by
    intro m9 j22
    clear B9 hA1
    refine g_lload X13 hx (hb hby at_52) (v := p2) rfl (pc' := 54) rfl ?_
    refine g_lload X13 hx (hb hby at_54) (v := p3) rfl (pc' := 56) rfl ?_
    refine g_static X13 hx hZ hown (hw _ (List.mem_of_getElem? (i := 1) rfl)) (hw _ (List.mem_of_getElem? (i := 2) rfl)) (hw _ (List.mem_of_getElem? (i := 3) rfl)) (hw _ (List.mem_of_getElem? (i := 4) rfl)) (by decide) (argsL := [(.long p2), (.long p3)]) (rm1 l Z a0 hw p2 p3 h0 n0 Z0 ) rfl e18 (by rw [hml]; rfl) pd_0 rfl (rest := []) rfl (W := 0) (Nat.le_of_eq rfl) (by decide) (by decide) (by decide) (by decide) N14 (hb hby at_56) (pc' := 59) rfl (fun v23 T24 L25 X26 N27 q28 => ?_)
    obtain ⟨b29, rfl, f30, e31⟩ := q28
    show OGoes p e s below (Q0 Z p0 p1 p2 p3 p4 h0 n0) n0 room_1.cells room_1.slots T24 (mkF m 59 #[.val (.long p0), .second, .val (.long p1), .second, .val (.long p2), .second, .val (.long p3), .second, .val (.int p4), .val (.int m9), .val (.int cn), .val (.long b7), .second, .val (.long b16), .second, .unset, .unset, .unset, .unset, .unset, .unset, .unset, .unset, .unset] [(.long b29)])
    refine g_lstore X26 hx (hb hby at_59) (Ls' := #[.val (.long p0), .second, .val (.long p1), .second, .val (.long p2), .second, .val (.long p3), .second, .val (.int p4), .val (.int m9), .val (.int cn), .val (.long b7), .second, .val (.long b16), .second, .val (.long b29), .second, .unset, .unset, .unset, .unset, .unset, .unset, .unset]) rfl (pc' := 61) rfl ?_
    refine g_lload X26 hx (hb hby at_61) (v := p2) rfl (pc' := 63) rfl ?_
    refine g_lload X26 hx (hb hby at_63) (v := p3) rfl (pc' := 65) rfl ?_
    refine g_static X26 hx hZ hown (hw _ (List.mem_of_getElem? (i := 5) rfl)) (hw _ (List.mem_of_getElem? (i := 6) rfl)) (hw _ (List.mem_of_getElem? (i := 3) rfl)) (hw _ (List.mem_of_getElem? (i := 7) rfl)) (by decide) (argsL := [(.long p2), (.long p3)]) (rm2 l Z a0 hw p2 p3 h0 n0 Z0 ) rfl e31 (by rw [hml]; rfl) pd_0 rfl (rest := []) rfl (W := 0) (Nat.le_of_eq rfl) (by decide) (by decide) (by decide) (by decide) N27 (hb hby at_65) (pc' := 68) rfl (fun v32 T33 L34 X35 N36 q37 => ?_)
    obtain ⟨b38, rfl, f39, e40⟩ := q37
    show OGoes p e s below (Q0 Z p0 p1 p2 p3 p4 h0 n0) n0 room_1.cells room_1.slots T33 (mkF m 68 #[.val (.long p0), .second, .val (.long p1), .second, .val (.long p2), .second, .val (.long p3), .second, .val (.int p4), .val (.int m9), .val (.int cn), .val (.long b7), .second, .val (.long b16), .second, .val (.long b29), .second, .unset, .unset, .unset, .unset, .unset, .unset, .unset] [(.long b38)])
    have hV1 : b29.toInt ≤ b38.toInt := own_mm f30 f39
    clear f30 f39
    refine g_lstore X35 hx (hb hby at_68) (Ls' := #[.val (.long p0), .second, .val (.long p1), .second, .val (.long p2), .second, .val (.long p3), .second, .val (.int p4), .val (.int m9), .val (.int cn), .val (.long b7), .second, .val (.long b16), .second, .val (.long b29), .second, .val (.long b38), .second, .unset, .unset, .unset, .unset, .unset]) rfl (pc' := 70) rfl ?_
    have J41 : ∀ (n10 : Int32), (0 ≤ n10.toInt ∧ n10.toInt ≤ 2 ∧ (n10.toInt = 2 → b29.toInt < b38.toInt)) → OGoes p e s below (Q0 Z p0 p1 p2 p3 p4 h0 n0) n0 room_1.cells room_1.slots T33 (mkF m 87 #[.val (.long p0), .second, .val (.long p1), .second, .val (.long p2), .second, .val (.long p3), .second, .val (.int p4), .val (.int m9), .val (.int n10), .val (.long b7), .second, .val (.long b16), .second, .val (.long b29), .second, .val (.long b38), .second, .unset, .unset, .unset, .unset, .unset] []) := by
      intro n10 j42
      obtain ⟨m1, hm, -⟩ := i32_get (x := m9) j22.1
      obtain ⟨n1, hn, -⟩ := i32_get (x := n10) j42.1
      have hm2 : m1 ≤ 2 := by omega
      have hn2 : n1 ≤ 2 := by omega
      have hA2 : m1 = 2 → b7.toInt < b16.toInt := fun z => j22.2.2 (by omega)
      have hV2 : n1 = 2 → b29.toInt < b38.toInt := fun z => j42.2.2 (by omega)
      refine g_iconst X35 hx (hb hby at_87) (v := 2) (by decide) (pc' := 88) rfl ?_
      refine g_newLA X35 hx hZ (hw _ (List.mem_of_getElem? (i := 8) rfl)) e40 (n := 2) rfl (cap := 2) (by decide) (by decide) (hb hby at_88) (by decide) (by decide) (pc' := 90) rfl (fun T43 h44 a45 g46 X47 e48 E49 l50 A51  => ?_)
      have Z52 : NLe n0 h44.size := Z0.tr E49.1
      have nl53 : NLe n0 a45 := NLe.at g46 Z0
      clear g46 l50
      refine g_dup X47 hx (hb hby at_90) rfl (pc' := 91) rfl ?_
      refine g_iconst X47 hx (hb hby at_91) (v := 0) (by decide) (pc' := 92) rfl ?_
      refine g_lload X47 hx (hb hby at_92) (v := b7) rfl (pc' := 94) rfl ?_
      refine g_lastore X47 hx hZ e48 (k := 0) (x := b7) A51 rfl (by decide) N36 nl53 (hb hby at_94) (pc' := 95) rfl (fun T54 h55 L56 X57 e58 W59 N60 A61 => ?_)
      have Z62 : NLe n0 h55.size := Z52.wr W59
      refine g_dup X57 hx (hb hby at_95) rfl (pc' := 96) rfl ?_
      refine g_iconst X57 hx (hb hby at_96) (v := 1) (by decide) (pc' := 97) rfl ?_
      refine g_lload X57 hx (hb hby at_97) (v := b16) rfl (pc' := 99) rfl ?_
      refine g_lastore X57 hx hZ e58 (k := 1) (x := b16) A61 rfl (by decide) N60 nl53 (hb hby at_99) (pc' := 100) rfl (fun T64 h65 L66 X67 e68 W69 N70 A71 => ?_)
      have Z72 : NLe n0 h65.size := Z62.wr W69
      refine g_astore X67 hx (hb hby at_100) rfl (Ls' := #[.val (.long p0), .second, .val (.long p1), .second, .val (.long p2), .second, .val (.long p3), .second, .val (.int p4), .val (.int m9), .val (.int n10), .val (.long b7), .second, .val (.long b16), .second, .val (.long b29), .second, .val (.long b38), .second, .val (.ref a45), .unset, .unset, .unset, .unset]) rfl (pc' := 102) rfl ?_
      refine g_iconst X67 hx (hb hby at_102) (v := 2) (by decide) (pc' := 103) rfl ?_
      refine g_newLA X67 hx hZ (hw _ (List.mem_of_getElem? (i := 8) rfl)) e68 (n := 2) rfl (cap := 2) (by decide) (by decide) (hb hby at_103) (by decide) (by decide) (pc' := 105) rfl (fun T74 h75 a76 g77 X78 e79 E80 l81 A82  => ?_)
      have Z83 : NLe n0 h75.size := Z72.tr E80.1
      have nl84 : NLe n0 a76 := NLe.at g77 Z72
      have ne85 : Apart a45 a76 := Apart.new g77 A71.lt
      have F86 := A71.ext E80
      clear g77 l81
      refine g_dup X78 hx (hb hby at_105) rfl (pc' := 106) rfl ?_
      refine g_iconst X78 hx (hb hby at_106) (v := 0) (by decide) (pc' := 107) rfl ?_
      refine g_lload X78 hx (hb hby at_107) (v := b29) rfl (pc' := 109) rfl ?_
      refine g_lastore X78 hx hZ e79 (k := 0) (x := b29) A82 rfl (by decide) N70 nl84 (hb hby at_109) (pc' := 110) rfl (fun T87 h88 L89 X90 e91 W92 N93 A94 => ?_)
      have Z95 : NLe n0 h88.size := Z83.wr W92
      have F96 := F86.other W92 ne85
      refine g_dup X90 hx (hb hby at_110) rfl (pc' := 111) rfl ?_
      refine g_iconst X90 hx (hb hby at_111) (v := 1) (by decide) (pc' := 112) rfl ?_
      refine g_lload X90 hx (hb hby at_112) (v := b38) rfl (pc' := 114) rfl ?_
      refine g_lastore X90 hx hZ e91 (k := 1) (x := b38) A94 rfl (by decide) N93 nl84 (hb hby at_114) (pc' := 115) rfl (fun T98 h99 L100 X101 e102 W103 N104 A105 => ?_)
      have Z106 : NLe n0 h99.size := Z95.wr W103
      have F107 := F96.other W103 ne85
      refine g_astore X101 hx (hb hby at_115) rfl (Ls' := #[.val (.long p0), .second, .val (.long p1), .second, .val (.long p2), .second, .val (.long p3), .second, .val (.int p4), .val (.int m9), .val (.int n10), .val (.long b7), .second, .val (.long b16), .second, .val (.long b29), .second, .val (.long b38), .second, .val (.ref a45), .val (.ref a76), .unset, .unset, .unset]) rfl (pc' := 117) rfl ?_
      refine g_iconst X101 hx (hb hby at_117) (v := 4) (by decide) (pc' := 118) rfl ?_
      refine g_newLA X101 hx hZ (hw _ (List.mem_of_getElem? (i := 8) rfl)) e102 (n := 4) rfl (cap := 4) (by decide) (by decide) (hb hby at_118) (by decide) (by decide) (pc' := 120) rfl (fun T109 h110 a111 g112 X113 e114 E115 l116 A117  => ?_)
      have Z118 : NLe n0 h110.size := Z106.tr E115.1
      have nl119 : NLe n0 a111 := NLe.at g112 Z106
      have ne120 : Apart a45 a111 := Apart.new g112 F107.lt
      have ne121 : Apart a76 a111 := Apart.new g112 A105.lt
      have F122 := F107.ext E115
      have F123 := A105.ext E115
      clear g112 l116
      refine g_astore X113 hx (hb hby at_120) rfl (Ls' := #[.val (.long p0), .second, .val (.long p1), .second, .val (.long p2), .second, .val (.long p3), .second, .val (.int p4), .val (.int m9), .val (.int n10), .val (.long b7), .second, .val (.long b16), .second, .val (.long b29), .second, .val (.long b38), .second, .val (.ref a45), .val (.ref a76), .val (.ref a111), .unset, .unset]) rfl (pc' := 122) rfl ?_
      refine g_new X113 hx hZ hown (hw _ (List.mem_of_getElem? (i := 9) rfl)) (hw _ (List.mem_of_getElem? (i := 10) rfl)) (hw _ (List.mem_of_getElem? (i := 11) rfl)) e114 (hb hby at_122) (by decide) (by decide) (pc' := 125) rfl (fun T124 h125 a126 g127 X128 e129 E130 l131 A132 D133 => ?_)
      have Z134 : NLe n0 h125.size := Z118.tr E130.1
      have nl135 : NLe n0 a126 := NLe.at g127 Z118
      have ne136 : Apart a45 a126 := Apart.new g127 F122.lt
      have ne137 : Apart a76 a126 := Apart.new g127 F123.lt
      have ne138 : Apart a111 a126 := Apart.new g127 A117.lt
      have F139 := F122.ext E130
      have F140 := F123.ext E130
      have F141 := A117.ext E130
      clear g127 l131
      have F142 : Fld Z h125 a126 "com/example/vetter/vetter/compare/PairSets" "starts" "[I" .null := D133 (Or.inl (hw _ (List.mem_of_getElem? (i := 20) rfl))) (ty := (.array .int)) (by decide)
      have F143 : Fld Z h125 a126 "com/example/vetter/vetter/compare/PairSets" "sizes" "[I" .null := D133 (Or.inl (hw _ (List.mem_of_getElem? (i := 22) rfl))) (ty := (.array .int)) (by decide)
      have F144 : Fld Z h125 a126 "com/example/vetter/vetter/compare/PairSets" "hashes" "[J" .null := D133 (Or.inl (hw _ (List.mem_of_getElem? (i := 24) rfl))) (ty := (.array .long)) (by decide)
      have F145 : Fld Z h125 a126 "com/example/vetter/vetter/compare/PairSets" "holders" "[I" .null := D133 (Or.inl (hw _ (List.mem_of_getElem? (i := 26) rfl))) (ty := (.array .int)) (by decide)
      have F146 : Fld Z h125 a126 "com/example/vetter/vetter/compare/PairSets" "pool" "[J" .null := D133 (Or.inl (hw _ (List.mem_of_getElem? (i := 31) rfl))) (ty := (.array .long)) (by decide)
      have F147 : Fld Z h125 a126 "com/example/vetter/vetter/compare/PairSets" "setOf" "[I" .null := D133 (Or.inr (hw _ (List.mem_of_getElem? (i := 33) rfl))) (ty := (.array .int)) (by decide)
      have F148 : Fld Z h125 a126 "com/example/vetter/vetter/compare/PairSets" "used" "I" (.int (0 : Int32)) := D133 (Or.inl (hw _ (List.mem_of_getElem? (i := 52) rfl))) (ty := .int) (by decide)
      have F149 : Fld Z h125 a126 "com/example/vetter/vetter/compare/PairSets" "count" "I" (.int (0 : Int32)) := D133 (Or.inl (hw _ (List.mem_of_getElem? (i := 58) rfl))) (ty := .int) (by decide)
      have F150 : Fld Z h125 a126 "com/example/vetter/vetter/compare/PairSets" "dropped" "J" (.long (0 : Int64)) := D133 (Or.inl (hw _ (List.mem_of_getElem? (i := 74) rfl))) (ty := .long) (by decide)
      refine g_dup X128 hx (hb hby at_125) rfl (pc' := 126) rfl ?_
      refine g_iconst X128 hx (hb hby at_126) (v := 1) (by decide) (pc' := 127) rfl ?_
      refine g_special X128 hx hZ rfl hown (hw _ (List.mem_of_getElem? (i := 12) rfl)) (hw _ (List.mem_of_getElem? (i := 13) rfl)) (hw _ (List.mem_of_getElem? (i := 11) rfl)) (hw _ (List.mem_of_getElem? (i := 14) rfl)) (by decide) (a := a126) (argsL := [(.int (1 : Int32))]) (rm5 l Z a0 hw a126 h125 n0 Z134 F142 F143 F144 F145 F146 F147 F148 F149 F150 A132 nl135) rfl e129 (by rw [hml]; rfl) pd_3 rfl (rest := [(.ref a126)]) rfl (W := 1) (Nat.le_of_eq rfl) (by decide) (by decide) (by decide) (by decide) N104 (hb hby at_127) (pc' := 130) rfl (fun v151 T152 L153 X154 N155 q156 => ?_)
      obtain ⟨ts157, tz158, th159, tl160, tp161, to162, rfl, f163, f164, f165, f166, f167, f168, f169, f170, f171, f172, f173, f174, f175, f176, f177, z178, z179, z180, z181, z182, z183, K184, F185, F186, F187, F188, F189, F190, F191, F192, F193, F194, F195, F196, F197, F198, F199, F200⟩ := q156
      have lt201 : (1 : Int32).toInt = 1 := rfl
      have Z202 : NLe n0 T152.heap.size := Z134.tr K184.1
      have nl203 : NLe n0 ts157 := Z134.tr z178
      have ne204 : Apart a45 ts157 := Apart.fr F139.lt z178
      have ne205 : Apart a76 ts157 := Apart.fr F140.lt z178
      have ne206 : Apart a111 ts157 := Apart.fr F141.lt z178
      have ne207 : Apart a126 ts157 := Apart.fr A132.lt z178
      have nl208 : NLe n0 tz158 := Z134.tr z179
      have ne209 : Apart a45 tz158 := Apart.fr F139.lt z179
      have ne210 : Apart a76 tz158 := Apart.fr F140.lt z179
      have ne211 : Apart a111 tz158 := Apart.fr F141.lt z179
      have ne212 : Apart a126 tz158 := Apart.fr A132.lt z179
      have nl213 : NLe n0 th159 := Z134.tr z180
      have ne214 : Apart a45 th159 := Apart.fr F139.lt z180
      have ne215 : Apart a76 th159 := Apart.fr F140.lt z180
      have ne216 : Apart a111 th159 := Apart.fr F141.lt z180
      have ne217 : Apart a126 th159 := Apart.fr A132.lt z180
      have nl218 : NLe n0 tl160 := Z134.tr z181
      have ne219 : Apart a45 tl160 := Apart.fr F139.lt z181
      have ne220 : Apart a76 tl160 := Apart.fr F140.lt z181
      have ne221 : Apart a111 tl160 := Apart.fr F141.lt z181
      have ne222 : Apart a126 tl160 := Apart.fr A132.lt z181
      have nl223 : NLe n0 tp161 := Z134.tr z182
      have ne224 : Apart a45 tp161 := Apart.fr F139.lt z182
      have ne225 : Apart a76 tp161 := Apart.fr F140.lt z182
      have ne226 : Apart a111 tp161 := Apart.fr F141.lt z182
      have ne227 : Apart a126 tp161 := Apart.fr A132.lt z182
      have nl228 : NLe n0 to162 := Z134.tr z183
      have ne229 : Apart a45 to162 := Apart.fr F139.lt z183
      have ne230 : Apart a76 to162 := Apart.fr F140.lt z183
      have ne231 : Apart a111 to162 := Apart.fr F141.lt z183
      have ne232 : Apart a126 to162 := Apart.fr A132.lt z183
      have F233 := F139.keep K184 (ninS ne136 nin0)
      have F234 := F140.keep K184 (ninS ne137 nin0)
      have F235 := F141.keep K184 (ninS ne138 nin0)
      show OGoes p e s below (Q0 Z p0 p1 p2 p3 p4 h0 n0) n0 room_1.cells room_1.slots T152 (mkF m 130 #[.val (.long p0), .second, .val (.long p1), .second, .val (.long p2), .second, .val (.long p3), .second, .val (.int p4), .val (.int m9), .val (.int n10), .val (.long b7), .second, .val (.long b16), .second, .val (.long b29), .second, .val (.long b38), .second, .val (.ref a45), .val (.ref a76), .val (.ref a111), .unset, .unset] [(.ref a126)])
      refine g_astore X154 hx (hb hby at_130) rfl (Ls' := #[.val (.long p0), .second, .val (.long p1), .second, .val (.long p2), .second, .val (.long p3), .second, .val (.int p4), .val (.int m9), .val (.int n10), .val (.long b7), .second, .val (.long b16), .second, .val (.long b29), .second, .val (.long b38), .second, .val (.ref a45), .val (.ref a76), .val (.ref a111), .val (.ref a126), .unset]) rfl (pc' := 132) rfl ?_
      refine g_aload X154 hx (hb hby at_132) (v := (.ref a126)) rfl rfl (pc' := 134) rfl ?_
      refine g_iconst X154 hx (hb hby at_134) (v := 0) (by decide) (pc' := 135) rfl ?_
      refine g_aload X154 hx (hb hby at_135) (v := (.ref a45)) rfl rfl (pc' := 137) rfl ?_
      refine g_iload X154 hx (hb hby at_137) (v := m9) rfl (pc' := 139) rfl ?_
      refine g_virtual X154 hx hZ hown (hw _ (List.mem_of_getElem? (i := 38) rfl)) (hw _ (List.mem_of_getElem? (i := 39) rfl)) (hw _ (List.mem_of_getElem? (i := 41) rfl)) (hw _ (List.mem_of_getElem? (i := 40) rfl)) (hw _ (List.mem_of_getElem? (i := 11) rfl)) (hw _ (List.mem_of_getElem? (i := 42) rfl)) (by decide) (a := a126) (argsL := [(.int (0 : Int32)), (.ref a45), (.int m9)]) (rm9 l Z a0 hw a126 ts157 tz158 th159 tl160 tp161 to162 a45 m9 m1 (oupd (oupd zeroL 0 b7) 1 b16) T152.heap n0 Z202 F185 F186 F187 F188 F189 F190 F191 F192 F193 F194 F195 F196 F197 F198 F199 F200 F233 hm hm2 nl135 nl203 nl208 nl213 nl218 nl223 nl228 ne207 ne212 ne217 ne222 ne227 ne232 ne136.symm f163 f164 f165 f166 f167 ne204.symm f168 f169 f170 f171 ne209.symm f172 f173 f174 ne214.symm f175 f176 ne219.symm f177 ne224.symm ne229.symm) rfl rfl F185 (by rw [hml]; rfl) pd_5 rfl (rest := []) rfl (W := 0) (Nat.le_of_eq rfl) (by decide) (by decide) (by decide) (by decide) N155 (hb hby at_139) (pc' := 142) rfl (fun v236 T237 L238 X239 N240 q241 => ?_)
      obtain ⟨rfl, K242, F243, F244, F245, F246, F247, F248, F249, F250, F251, F252, F253⟩ := q241
      have lt254 : (0 : Int32).toInt = 0 := rfl
      have Z255 : NLe n0 T237.heap.size := Z202.tr K242.1
      have F256 := F233.keep K242 (ninS ne136 (ninS ne204 (ninS ne209 (ninS ne214 (ninS ne219 (ninS ne224 (ninS ne229 nin0)))))))
      have F257 := F234.keep K242 (ninS ne137 (ninS ne205 (ninS ne210 (ninS ne215 (ninS ne220 (ninS ne225 (ninS ne230 nin0)))))))
      have F258 := F235.keep K242 (ninS ne138 (ninS ne206 (ninS ne211 (ninS ne216 (ninS ne221 (ninS ne226 (ninS ne231 nin0)))))))
      show OGoes p e s below (Q0 Z p0 p1 p2 p3 p4 h0 n0) n0 room_1.cells room_1.slots T237 (mkF m 142 #[.val (.long p0), .second, .val (.long p1), .second, .val (.long p2), .second, .val (.long p3), .second, .val (.int p4), .val (.int m9), .val (.int n10), .val (.long b7), .second, .val (.long b16), .second, .val (.long b29), .second, .val (.long b38), .second, .val (.ref a45), .val (.ref a76), .val (.ref a111), .val (.ref a126), .unset] [])
      refine g_aload X239 hx (hb hby at_142) (v := (.ref a126)) rfl rfl (pc' := 144) rfl ?_
      refine g_iconst X239 hx (hb hby at_144) (v := 0) (by decide) (pc' := 145) rfl ?_
      refine g_aload X239 hx (hb hby at_145) (v := (.ref a76)) rfl rfl (pc' := 147) rfl ?_
      refine g_iload X239 hx (hb hby at_147) (v := n10) rfl (pc' := 149) rfl ?_
      refine g_aload X239 hx (hb hby at_149) (v := (.ref a111)) rfl rfl (pc' := 151) rfl ?_
      refine g_virtual X239 hx hZ hown (hw _ (List.mem_of_getElem? (i := 63) rfl)) (hw _ (List.mem_of_getElem? (i := 64) rfl)) (hw _ (List.mem_of_getElem? (i := 66) rfl)) (hw _ (List.mem_of_getElem? (i := 65) rfl)) (hw _ (List.mem_of_getElem? (i := 11) rfl)) (hw _ (List.mem_of_getElem? (i := 67) rfl)) (by decide) (a := a126) (argsL := [(.int (0 : Int32)), (.ref a76), (.int n10), (.ref a111)]) (rm10 l Z a0 hw a126 ts157 tz158 tp161 to162 a76 a111 n10 m1 n1 (oupd zeroI 0 (0 : Int32)) (oupd zeroI 0 m9) (oupd (oupd (own_const (-1 : Int32)) 0 (-1 : Int32)) 0 (0 : Int32)) (own_cp m1 (oupd (oupd zeroL 0 b7) 1 b16) zeroL) (oupd (oupd zeroL 0 b29) 1 b38) zeroL T237.heap n0 Z255 F244 F245 F248 F249 F250 F251 F252 F253 F257 F258 hn hn2 hm2 rfl rfl hm (own_asc_cp hm2 hA2) (own_asc hn2 hV2) nl119 ne138 ne206 ne211 ne226 ne231 ne121.symm) rfl rfl F243 (by rw [hml]; rfl) pd_6 rfl (rest := []) rfl (W := 0) (Nat.le_of_eq rfl) (by decide) (by decide) (by decide) (by decide) N240 (hb hby at_151) (pc' := 154) rfl (fun v264 T265 L266 X267 N268 q269 => ?_)
      obtain ⟨b270, s271, g272, rfl, f273, f274, K275, F276⟩ := q269
      have Z277 : NLe n0 T265.heap.size := Z255.tr K275.1
      have F278 := F256.keep K275 (ninS ne120 nin0)
      have F279 := F257.keep K275 (ninS ne121 nin0)
      have F280 := F243.keep K275
      have F281 := F244.keep K275 (ninS ne138.symm nin0)
      have F282 := F245.keep K275 (ninS ne138.symm nin0)
      have F283 := F246.keep K275 (ninS ne138.symm nin0)
      have F284 := F247.keep K275 (ninS ne138.symm nin0)
      have F285 := F248.keep K275 (ninS ne138.symm nin0)
      have F286 := F249.keep K275 (ninS ne138.symm nin0)
      have F287 := F250.keep K275 (ninS ne206.symm nin0)
      have F288 := F251.keep K275 (ninS ne211.symm nin0)
      have F289 := F252.keep K275 (ninS ne226.symm nin0)
      have F290 := F253.keep K275 (ninS ne231.symm nin0)
      show OGoes p e s below (Q0 Z p0 p1 p2 p3 p4 h0 n0) n0 room_1.cells room_1.slots T265 (mkF m 154 #[.val (.long p0), .second, .val (.long p1), .second, .val (.long p2), .second, .val (.long p3), .second, .val (.int p4), .val (.int m9), .val (.int n10), .val (.long b7), .second, .val (.long b16), .second, .val (.long b29), .second, .val (.long b38), .second, .val (.ref a45), .val (.ref a76), .val (.ref a111), .val (.ref a126), .unset] [(.int b270)])
      obtain ⟨hsm, hO, hI, hH, hV⟩ := own_law f274
      clear f274
      refine g_istore X267 hx (hb hby at_154) (Ls' := #[.val (.long p0), .second, .val (.long p1), .second, .val (.long p2), .second, .val (.long p3), .second, .val (.int p4), .val (.int m9), .val (.int n10), .val (.long b7), .second, .val (.long b16), .second, .val (.long b29), .second, .val (.long b38), .second, .val (.ref a45), .val (.ref a76), .val (.ref a111), .val (.ref a126), .val (.int b270)]) rfl (pc' := 156) rfl ?_
      refine g_iload X267 hx (hb hby at_156) (v := b270) rfl (pc' := 158) rfl ?_
      refine g_i0_lt X267 hx (a := (s271 : Int)) f273 (hb hby at_158) (by decide) (pc' := 167) (by decide) (pc2 := 161) rfl (fun c291 => False.elim (by omega)) (fun c291 => ?_)
      refine g_iload X267 hx (hb hby at_161) (v := b270) rfl (pc' := 163) rfl ?_
      refine g_iconst X267 hx (hb hby at_163) (v := 4) (by decide) (pc' := 164) rfl ?_
      refine g_ii_le X267 hx (a := (s271 : Int)) (b := 4) f273 rfl (hb hby at_164) (by decide) (pc' := 169) (by decide) (pc2 := 167) rfl (fun c292 => ?_) (fun c292 => False.elim (by omega))
      have J450 : ∀ (Tl : State) (Ll : List Loc), Stand p l e room_1 s m #[(.long p0), (.long p1), (.long p2), (.long p3), (.int p4)] below meth c Tl Ll 10 98 → Tl.heap = T265.heap → Fr n0 Ll → OGoes p e s below (Q0 Z p0 p1 p2 p3 p4 h0 n0) n0 room_1.cells room_1.slots Tl (mkF m 450 #[.val (.long p0), .second, .val (.long p1), .second, .val (.long p2), .second, .val (.long p3), .second, .val (.int p4), .val (.int m9), .val (.int n10), .val (.long b7), .second, .val (.long b16), .second, .val (.long b29), .second, .val (.long b38), .second, .val (.ref a45), .val (.ref a76), .val (.ref a111), .val (.ref a126), .val (.int b270)] []) := by
        intro Tl Ll Xl El Nl
        refine g_iconst Xl hx (hb hby at_450) (v := 1) (by decide) (pc' := 451) rfl ?_
        refine g_retZ Xl hx hlk (by decide) hret (hb hby at_451) Nl (by decide) (by decide) ?_
        exact rfl
      have J430 : ∀ (Tl : State) (Ll : List Loc), Stand p l e room_1 s m #[(.long p0), (.long p1), (.long p2), (.long p3), (.int p4)] below meth c Tl Ll 10 98 → Tl.heap = T265.heap → Fr n0 Ll → OGoes p e s below (Q0 Z p0 p1 p2 p3 p4 h0 n0) n0 room_1.cells room_1.slots Tl (mkF m 430 #[.val (.long p0), .second, .val (.long p1), .second, .val (.long p2), .second, .val (.long p3), .second, .val (.int p4), .val (.int m9), .val (.int n10), .val (.long b7), .second, .val (.long b16), .second, .val (.long b29), .second, .val (.long b38), .second, .val (.ref a45), .val (.ref a76), .val (.ref a111), .val (.ref a126), .val (.int b270)] []) := by
        intro Tl Ll Xl El Nl
        refine g_iload Xl hx (hb hby at_430) (v := n10) rfl (pc' := 432) rfl ?_
        refine g_iconst Xl hx (hb hby at_432) (v := 1) (by decide) (pc' := 433) rfl ?_
        refine g_ii_le Xl hx (a := (n1 : Int)) (b := 1) hn rfl (hb hby at_433) (by decide) (pc' := 450) (by decide) (pc2 := 436) rfl (fun c293 => ?_) (fun c293 => ?_)
        · exact J450 _ _ Xl El Nl
        · refine g_lload Xl hx (hb hby at_436) (v := b38) rfl (pc' := 438) rfl ?_
          refine g_aload Xl hx (hb hby at_438) (v := (.ref a111)) rfl rfl (pc' := 440) rfl ?_
          refine g_iload Xl hx (hb hby at_440) (v := b270) rfl (pc' := 442) rfl ?_
          refine g_static Xl hx hZ hown (hw _ (List.mem_of_getElem? (i := 69) rfl)) (hw _ (List.mem_of_getElem? (i := 70) rfl)) (hw _ (List.mem_of_getElem? (i := 71) rfl)) (hw _ (List.mem_of_getElem? (i := 72) rfl)) (by decide) (argsL := [(.long b38), (.ref a111), (.int b270)]) (rm11 l Z a0 hw b38 a111 b270 4 s271 g272 T265.heap n0 Z277 F276 f273 (by omega) (by omega)) rfl El (by rw [hml]; rfl) pd_7 rfl (rest := []) rfl (W := 0) (Nat.le_of_eq rfl) (by decide) (by decide) (by decide) (by decide) Nl (hb hby at_442) (pc' := 445) rfl (fun v294 T295 L296 X297 N298 q299 => ?_)
          obtain ⟨b300, rfl, f301, K302⟩ := q299
          show OGoes p e s below (Q0 Z p0 p1 p2 p3 p4 h0 n0) n0 room_1.cells room_1.slots T295 (mkF m 445 #[.val (.long p0), .second, .val (.long p1), .second, .val (.long p2), .second, .val (.long p3), .second, .val (.int p4), .val (.int m9), .val (.int n10), .val (.long b7), .second, .val (.long b16), .second, .val (.long b29), .second, .val (.long b38), .second, .val (.ref a45), .val (.ref a76), .val (.ref a111), .val (.ref a126), .val (.int b270)] [(.int b300)])
          have hbb : b300.toInt = 1 := own_hit (hV 1 (by omega)) f301
          clear f301
          refine g_i0_ne X297 hx (a := b300.toInt) rfl (hb hby at_445) (by decide) (pc' := 450) (by decide) (pc2 := 448) rfl (fun c303 => ?_) (fun c303 => False.elim (by omega))
          exact J450 _ _ X297 K302 N298
      have J411 : ∀ (Tl : State) (Ll : List Loc), Stand p l e room_1 s m #[(.long p0), (.long p1), (.long p2), (.long p3), (.int p4)] below meth c Tl Ll 10 98 → Tl.heap = T265.heap → Fr n0 Ll → OGoes p e s below (Q0 Z p0 p1 p2 p3 p4 h0 n0) n0 room_1.cells room_1.slots Tl (mkF m 411 #[.val (.long p0), .second, .val (.long p1), .second, .val (.long p2), .second, .val (.long p3), .second, .val (.int p4), .val (.int m9), .val (.int n10), .val (.long b7), .second, .val (.long b16), .second, .val (.long b29), .second, .val (.long b38), .second, .val (.ref a45), .val (.ref a76), .val (.ref a111), .val (.ref a126), .val (.int b270)] []) := by
        intro Tl Ll Xl El Nl
        refine g_iload Xl hx (hb hby at_411) (v := n10) rfl (pc' := 413) rfl ?_
        refine g_i0_le Xl hx (a := (n1 : Int)) hn (hb hby at_413) (by decide) (pc' := 430) (by decide) (pc2 := 416) rfl (fun c304 => ?_) (fun c304 => ?_)
        · exact J430 _ _ Xl El Nl
        · refine g_lload Xl hx (hb hby at_416) (v := b29) rfl (pc' := 418) rfl ?_
          refine g_aload Xl hx (hb hby at_418) (v := (.ref a111)) rfl rfl (pc' := 420) rfl ?_
          refine g_iload Xl hx (hb hby at_420) (v := b270) rfl (pc' := 422) rfl ?_
          refine g_static Xl hx hZ hown (hw _ (List.mem_of_getElem? (i := 69) rfl)) (hw _ (List.mem_of_getElem? (i := 70) rfl)) (hw _ (List.mem_of_getElem? (i := 71) rfl)) (hw _ (List.mem_of_getElem? (i := 72) rfl)) (by decide) (argsL := [(.long b29), (.ref a111), (.int b270)]) (rm11 l Z a0 hw b29 a111 b270 4 s271 g272 T265.heap n0 Z277 F276 f273 (by omega) (by omega)) rfl El (by rw [hml]; rfl) pd_7 rfl (rest := []) rfl (W := 0) (Nat.le_of_eq rfl) (by decide) (by decide) (by decide) (by decide) Nl (hb hby at_422) (pc' := 425) rfl (fun v305 T306 L307 X308 N309 q310 => ?_)
          obtain ⟨b311, rfl, f312, K313⟩ := q310
          show OGoes p e s below (Q0 Z p0 p1 p2 p3 p4 h0 n0) n0 room_1.cells room_1.slots T306 (mkF m 425 #[.val (.long p0), .second, .val (.long p1), .second, .val (.long p2), .second, .val (.long p3), .second, .val (.int p4), .val (.int m9), .val (.int n10), .val (.long b7), .second, .val (.long b16), .second, .val (.long b29), .second, .val (.long b38), .second, .val (.ref a45), .val (.ref a76), .val (.ref a111), .val (.ref a126), .val (.int b270)] [(.int b311)])
          have hbb : b311.toInt = 1 := own_hit (hV 0 (by omega)) f312
          clear f312
          refine g_i0_ne X308 hx (a := b311.toInt) rfl (hb hby at_425) (by decide) (pc' := 430) (by decide) (pc2 := 428) rfl (fun c314 => ?_) (fun c314 => False.elim (by omega))
          exact J430 _ _ X308 K313 N309
      have J391 : ∀ (Tl : State) (Ll : List Loc), Stand p l e room_1 s m #[(.long p0), (.long p1), (.long p2), (.long p3), (.int p4)] below meth c Tl Ll 10 98 → Tl.heap = T265.heap → Fr n0 Ll → OGoes p e s below (Q0 Z p0 p1 p2 p3 p4 h0 n0) n0 room_1.cells room_1.slots Tl (mkF m 391 #[.val (.long p0), .second, .val (.long p1), .second, .val (.long p2), .second, .val (.long p3), .second, .val (.int p4), .val (.int m9), .val (.int n10), .val (.long b7), .second, .val (.long b16), .second, .val (.long b29), .second, .val (.long b38), .second, .val (.ref a45), .val (.ref a76), .val (.ref a111), .val (.ref a126), .val (.int b270)] []) := by
        intro Tl Ll Xl El Nl
        refine g_iload Xl hx (hb hby at_391) (v := m9) rfl (pc' := 393) rfl ?_
        refine g_iconst Xl hx (hb hby at_393) (v := 1) (by decide) (pc' := 394) rfl ?_
        refine g_ii_le Xl hx (a := (m1 : Int)) (b := 1) hm rfl (hb hby at_394) (by decide) (pc' := 411) (by decide) (pc2 := 397) rfl (fun c315 => ?_) (fun c315 => ?_)
        · exact J411 _ _ Xl El Nl
        · refine g_lload Xl hx (hb hby at_397) (v := b16) rfl (pc' := 399) rfl ?_
          refine g_aload Xl hx (hb hby at_399) (v := (.ref a111)) rfl rfl (pc' := 401) rfl ?_
          refine g_iload Xl hx (hb hby at_401) (v := b270) rfl (pc' := 403) rfl ?_
          refine g_static Xl hx hZ hown (hw _ (List.mem_of_getElem? (i := 69) rfl)) (hw _ (List.mem_of_getElem? (i := 70) rfl)) (hw _ (List.mem_of_getElem? (i := 71) rfl)) (hw _ (List.mem_of_getElem? (i := 72) rfl)) (by decide) (argsL := [(.long b16), (.ref a111), (.int b270)]) (rm11 l Z a0 hw b16 a111 b270 4 s271 g272 T265.heap n0 Z277 F276 f273 (by omega) (by omega)) rfl El (by rw [hml]; rfl) pd_7 rfl (rest := []) rfl (W := 0) (Nat.le_of_eq rfl) (by decide) (by decide) (by decide) (by decide) Nl (hb hby at_403) (pc' := 406) rfl (fun v316 T317 L318 X319 N320 q321 => ?_)
          obtain ⟨b322, rfl, f323, K324⟩ := q321
          show OGoes p e s below (Q0 Z p0 p1 p2 p3 p4 h0 n0) n0 room_1.cells room_1.slots T317 (mkF m 406 #[.val (.long p0), .second, .val (.long p1), .second, .val (.long p2), .second, .val (.long p3), .second, .val (.int p4), .val (.int m9), .val (.int n10), .val (.long b7), .second, .val (.long b16), .second, .val (.long b29), .second, .val (.long b38), .second, .val (.ref a45), .val (.ref a76), .val (.ref a111), .val (.ref a126), .val (.int b270)] [(.int b322)])
          have hbb : b322.toInt = 1 := own_hit (hH 1 (by omega)) f323
          clear f323
          refine g_i0_ne X319 hx (a := b322.toInt) rfl (hb hby at_406) (by decide) (pc' := 411) (by decide) (pc2 := 409) rfl (fun c325 => ?_) (fun c325 => False.elim (by omega))
          exact J411 _ _ X319 K324 N320
      have J372 : ∀ (Tl : State) (Ll : List Loc), Stand p l e room_1 s m #[(.long p0), (.long p1), (.long p2), (.long p3), (.int p4)] below meth c Tl Ll 10 98 → Tl.heap = T265.heap → Fr n0 Ll → OGoes p e s below (Q0 Z p0 p1 p2 p3 p4 h0 n0) n0 room_1.cells room_1.slots Tl (mkF m 372 #[.val (.long p0), .second, .val (.long p1), .second, .val (.long p2), .second, .val (.long p3), .second, .val (.int p4), .val (.int m9), .val (.int n10), .val (.long b7), .second, .val (.long b16), .second, .val (.long b29), .second, .val (.long b38), .second, .val (.ref a45), .val (.ref a76), .val (.ref a111), .val (.ref a126), .val (.int b270)] []) := by
        intro Tl Ll Xl El Nl
        refine g_iload Xl hx (hb hby at_372) (v := m9) rfl (pc' := 374) rfl ?_
        refine g_i0_le Xl hx (a := (m1 : Int)) hm (hb hby at_374) (by decide) (pc' := 391) (by decide) (pc2 := 377) rfl (fun c326 => ?_) (fun c326 => ?_)
        · exact J391 _ _ Xl El Nl
        · refine g_lload Xl hx (hb hby at_377) (v := b7) rfl (pc' := 379) rfl ?_
          refine g_aload Xl hx (hb hby at_379) (v := (.ref a111)) rfl rfl (pc' := 381) rfl ?_
          refine g_iload Xl hx (hb hby at_381) (v := b270) rfl (pc' := 383) rfl ?_
          refine g_static Xl hx hZ hown (hw _ (List.mem_of_getElem? (i := 69) rfl)) (hw _ (List.mem_of_getElem? (i := 70) rfl)) (hw _ (List.mem_of_getElem? (i := 71) rfl)) (hw _ (List.mem_of_getElem? (i := 72) rfl)) (by decide) (argsL := [(.long b7), (.ref a111), (.int b270)]) (rm11 l Z a0 hw b7 a111 b270 4 s271 g272 T265.heap n0 Z277 F276 f273 (by omega) (by omega)) rfl El (by rw [hml]; rfl) pd_7 rfl (rest := []) rfl (W := 0) (Nat.le_of_eq rfl) (by decide) (by decide) (by decide) (by decide) Nl (hb hby at_383) (pc' := 386) rfl (fun v327 T328 L329 X330 N331 q332 => ?_)
          obtain ⟨b333, rfl, f334, K335⟩ := q332
          show OGoes p e s below (Q0 Z p0 p1 p2 p3 p4 h0 n0) n0 room_1.cells room_1.slots T328 (mkF m 386 #[.val (.long p0), .second, .val (.long p1), .second, .val (.long p2), .second, .val (.long p3), .second, .val (.int p4), .val (.int m9), .val (.int n10), .val (.long b7), .second, .val (.long b16), .second, .val (.long b29), .second, .val (.long b38), .second, .val (.ref a45), .val (.ref a76), .val (.ref a111), .val (.ref a126), .val (.int b270)] [(.int b333)])
          have hbb : b333.toInt = 1 := own_hit (hH 0 (by omega)) f334
          clear f334
          refine g_i0_ne X330 hx (a := b333.toInt) rfl (hb hby at_386) (by decide) (pc' := 391) (by decide) (pc2 := 389) rfl (fun c336 => ?_) (fun c336 => False.elim (by omega))
          exact J391 _ _ X330 K335 N331
      have J336 : ∀ (Tl : State) (Ll : List Loc), Stand p l e room_1 s m #[(.long p0), (.long p1), (.long p2), (.long p3), (.int p4)] below meth c Tl Ll 10 98 → Tl.heap = T265.heap → Fr n0 Ll → OGoes p e s below (Q0 Z p0 p1 p2 p3 p4 h0 n0) n0 room_1.cells room_1.slots Tl (mkF m 336 #[.val (.long p0), .second, .val (.long p1), .second, .val (.long p2), .second, .val (.long p3), .second, .val (.int p4), .val (.int m9), .val (.int n10), .val (.long b7), .second, .val (.long b16), .second, .val (.long b29), .second, .val (.long b38), .second, .val (.ref a45), .val (.ref a76), .val (.ref a111), .val (.ref a126), .val (.int b270)] []) := by
        intro Tl Ll Xl El Nl
        refine g_iload Xl hx (hb hby at_336) (v := b270) rfl (pc' := 338) rfl ?_
        refine g_iconst Xl hx (hb hby at_338) (v := 3) (by decide) (pc' := 339) rfl ?_
        refine g_ii_le Xl hx (a := (s271 : Int)) (b := 3) f273 rfl (hb hby at_339) (by decide) (pc' := 372) (by decide) (pc2 := 342) rfl (fun c337 => ?_) (fun c337 => ?_)
        · exact J372 _ _ Xl El Nl
        · refine g_aload Xl hx (hb hby at_342) (v := (.ref a111)) rfl rfl (pc' := 344) rfl ?_
          refine g_iconst Xl hx (hb hby at_344) (v := 3) (by decide) (pc' := 345) rfl ?_
          refine g_laload Xl hx hZ El (k := 3) F276 rfl (by decide) (hb hby at_345) (pc' := 346) rfl ?_
          refine g_aload Xl hx (hb hby at_346) (v := (.ref a45)) rfl rfl (pc' := 348) rfl ?_
          refine g_iload Xl hx (hb hby at_348) (v := m9) rfl (pc' := 350) rfl ?_
          refine g_static Xl hx hZ hown (hw _ (List.mem_of_getElem? (i := 69) rfl)) (hw _ (List.mem_of_getElem? (i := 70) rfl)) (hw _ (List.mem_of_getElem? (i := 71) rfl)) (hw _ (List.mem_of_getElem? (i := 72) rfl)) (by decide) (argsL := [(.long (g272 3)), (.ref a45), (.int m9)]) (rm11 l Z a0 hw (g272 3) a45 m9 2 m1 (oupd (oupd zeroL 0 b7) 1 b16) T265.heap n0 Z277 F278 hm (by omega) (by omega)) rfl El (by rw [hml]; rfl) pd_7 rfl (rest := []) rfl (W := 0) (Nat.le_of_eq rfl) (by decide) (by decide) (by decide) (by decide) Nl (hb hby at_350) (pc' := 353) rfl (fun v338 T339 L340 X341 N342 q343 => ?_)
          obtain ⟨b344, rfl, f345, K346⟩ := q343
          show OGoes p e s below (Q0 Z p0 p1 p2 p3 p4 h0 n0) n0 room_1.cells room_1.slots T339 (mkF m 353 #[.val (.long p0), .second, .val (.long p1), .second, .val (.long p2), .second, .val (.long p3), .second, .val (.int p4), .val (.int m9), .val (.int n10), .val (.long b7), .second, .val (.long b16), .second, .val (.long b29), .second, .val (.long b38), .second, .val (.ref a45), .val (.ref a76), .val (.ref a111), .val (.ref a126), .val (.int b270)] [(.int b344)])
          refine g_i0_ne X341 hx (a := b344.toInt) rfl (hb hby at_353) (by decide) (pc' := 372) (by decide) (pc2 := 356) rfl (fun c347 => ?_) (fun c347 => ?_)
          · exact J372 _ _ X341 K346 N342
          · refine g_aload X341 hx (hb hby at_356) (v := (.ref a111)) rfl rfl (pc' := 358) rfl ?_
            refine g_iconst X341 hx (hb hby at_358) (v := 3) (by decide) (pc' := 359) rfl ?_
            refine g_laload X341 hx hZ K346 (k := 3) F276 rfl (by decide) (hb hby at_359) (pc' := 360) rfl ?_
            refine g_aload X341 hx (hb hby at_360) (v := (.ref a76)) rfl rfl (pc' := 362) rfl ?_
            refine g_iload X341 hx (hb hby at_362) (v := n10) rfl (pc' := 364) rfl ?_
            refine g_static X341 hx hZ hown (hw _ (List.mem_of_getElem? (i := 69) rfl)) (hw _ (List.mem_of_getElem? (i := 70) rfl)) (hw _ (List.mem_of_getElem? (i := 71) rfl)) (hw _ (List.mem_of_getElem? (i := 72) rfl)) (by decide) (argsL := [(.long (g272 3)), (.ref a76), (.int n10)]) (rm11 l Z a0 hw (g272 3) a76 n10 2 n1 (oupd (oupd zeroL 0 b29) 1 b38) T265.heap n0 Z277 F279 hn (by omega) (by omega)) rfl K346 (by rw [hml]; rfl) pd_7 rfl (rest := []) rfl (W := 0) (Nat.le_of_eq rfl) (by decide) (by decide) (by decide) (by decide) N342 (hb hby at_364) (pc' := 367) rfl (fun v348 T349 L350 X351 N352 q353 => ?_)
            obtain ⟨b354, rfl, f355, K356⟩ := q353
            show OGoes p e s below (Q0 Z p0 p1 p2 p3 p4 h0 n0) n0 room_1.cells room_1.slots T349 (mkF m 367 #[.val (.long p0), .second, .val (.long p1), .second, .val (.long p2), .second, .val (.long p3), .second, .val (.int p4), .val (.int m9), .val (.int n10), .val (.long b7), .second, .val (.long b16), .second, .val (.long b29), .second, .val (.long b38), .second, .val (.ref a45), .val (.ref a76), .val (.ref a111), .val (.ref a126), .val (.int b270)] [(.int b354)])
            have hbb : b354.toInt = 1 := own_pick (hI 3 (by omega)) f345 f355 (by omega)
            clear f345 f355
            refine g_i0_ne X351 hx (a := b354.toInt) rfl (hb hby at_367) (by decide) (pc' := 372) (by decide) (pc2 := 370) rfl (fun c357 => ?_) (fun c357 => False.elim (by omega))
            exact J372 _ _ X351 K356 N352
      have J300 : ∀ (Tl : State) (Ll : List Loc), Stand p l e room_1 s m #[(.long p0), (.long p1), (.long p2), (.long p3), (.int p4)] below meth c Tl Ll 10 98 → Tl.heap = T265.heap → Fr n0 Ll → OGoes p e s below (Q0 Z p0 p1 p2 p3 p4 h0 n0) n0 room_1.cells room_1.slots Tl (mkF m 300 #[.val (.long p0), .second, .val (.long p1), .second, .val (.long p2), .second, .val (.long p3), .second, .val (.int p4), .val (.int m9), .val (.int n10), .val (.long b7), .second, .val (.long b16), .second, .val (.long b29), .second, .val (.long b38), .second, .val (.ref a45), .val (.ref a76), .val (.ref a111), .val (.ref a126), .val (.int b270)] []) := by
        intro Tl Ll Xl El Nl
        refine g_iload Xl hx (hb hby at_300) (v := b270) rfl (pc' := 302) rfl ?_
        refine g_iconst Xl hx (hb hby at_302) (v := 2) (by decide) (pc' := 303) rfl ?_
        refine g_ii_le Xl hx (a := (s271 : Int)) (b := 2) f273 rfl (hb hby at_303) (by decide) (pc' := 336) (by decide) (pc2 := 306) rfl (fun c358 => ?_) (fun c358 => ?_)
        · exact J336 _ _ Xl El Nl
        · refine g_aload Xl hx (hb hby at_306) (v := (.ref a111)) rfl rfl (pc' := 308) rfl ?_
          refine g_iconst Xl hx (hb hby at_308) (v := 2) (by decide) (pc' := 309) rfl ?_
          refine g_laload Xl hx hZ El (k := 2) F276 rfl (by decide) (hb hby at_309) (pc' := 310) rfl ?_
          refine g_aload Xl hx (hb hby at_310) (v := (.ref a45)) rfl rfl (pc' := 312) rfl ?_
          refine g_iload Xl hx (hb hby at_312) (v := m9) rfl (pc' := 314) rfl ?_
          refine g_static Xl hx hZ hown (hw _ (List.mem_of_getElem? (i := 69) rfl)) (hw _ (List.mem_of_getElem? (i := 70) rfl)) (hw _ (List.mem_of_getElem? (i := 71) rfl)) (hw _ (List.mem_of_getElem? (i := 72) rfl)) (by decide) (argsL := [(.long (g272 2)), (.ref a45), (.int m9)]) (rm11 l Z a0 hw (g272 2) a45 m9 2 m1 (oupd (oupd zeroL 0 b7) 1 b16) T265.heap n0 Z277 F278 hm (by omega) (by omega)) rfl El (by rw [hml]; rfl) pd_7 rfl (rest := []) rfl (W := 0) (Nat.le_of_eq rfl) (by decide) (by decide) (by decide) (by decide) Nl (hb hby at_314) (pc' := 317) rfl (fun v359 T360 L361 X362 N363 q364 => ?_)
          obtain ⟨b365, rfl, f366, K367⟩ := q364
          show OGoes p e s below (Q0 Z p0 p1 p2 p3 p4 h0 n0) n0 room_1.cells room_1.slots T360 (mkF m 317 #[.val (.long p0), .second, .val (.long p1), .second, .val (.long p2), .second, .val (.long p3), .second, .val (.int p4), .val (.int m9), .val (.int n10), .val (.long b7), .second, .val (.long b16), .second, .val (.long b29), .second, .val (.long b38), .second, .val (.ref a45), .val (.ref a76), .val (.ref a111), .val (.ref a126), .val (.int b270)] [(.int b365)])
          refine g_i0_ne X362 hx (a := b365.toInt) rfl (hb hby at_317) (by decide) (pc' := 336) (by decide) (pc2 := 320) rfl (fun c368 => ?_) (fun c368 => ?_)
          · exact J336 _ _ X362 K367 N363
          · refine g_aload X362 hx (hb hby at_320) (v := (.ref a111)) rfl rfl (pc' := 322) rfl ?_
            refine g_iconst X362 hx (hb hby at_322) (v := 2) (by decide) (pc' := 323) rfl ?_
            refine g_laload X362 hx hZ K367 (k := 2) F276 rfl (by decide) (hb hby at_323) (pc' := 324) rfl ?_
            refine g_aload X362 hx (hb hby at_324) (v := (.ref a76)) rfl rfl (pc' := 326) rfl ?_
            refine g_iload X362 hx (hb hby at_326) (v := n10) rfl (pc' := 328) rfl ?_
            refine g_static X362 hx hZ hown (hw _ (List.mem_of_getElem? (i := 69) rfl)) (hw _ (List.mem_of_getElem? (i := 70) rfl)) (hw _ (List.mem_of_getElem? (i := 71) rfl)) (hw _ (List.mem_of_getElem? (i := 72) rfl)) (by decide) (argsL := [(.long (g272 2)), (.ref a76), (.int n10)]) (rm11 l Z a0 hw (g272 2) a76 n10 2 n1 (oupd (oupd zeroL 0 b29) 1 b38) T265.heap n0 Z277 F279 hn (by omega) (by omega)) rfl K367 (by rw [hml]; rfl) pd_7 rfl (rest := []) rfl (W := 0) (Nat.le_of_eq rfl) (by decide) (by decide) (by decide) (by decide) N363 (hb hby at_328) (pc' := 331) rfl (fun v369 T370 L371 X372 N373 q374 => ?_)
            obtain ⟨b375, rfl, f376, K377⟩ := q374
            show OGoes p e s below (Q0 Z p0 p1 p2 p3 p4 h0 n0) n0 room_1.cells room_1.slots T370 (mkF m 331 #[.val (.long p0), .second, .val (.long p1), .second, .val (.long p2), .second, .val (.long p3), .second, .val (.int p4), .val (.int m9), .val (.int n10), .val (.long b7), .second, .val (.long b16), .second, .val (.long b29), .second, .val (.long b38), .second, .val (.ref a45), .val (.ref a76), .val (.ref a111), .val (.ref a126), .val (.int b270)] [(.int b375)])
            have hbb : b375.toInt = 1 := own_pick (hI 2 (by omega)) f366 f376 (by omega)
            clear f366 f376
            refine g_i0_ne X372 hx (a := b375.toInt) rfl (hb hby at_331) (by decide) (pc' := 336) (by decide) (pc2 := 334) rfl (fun c378 => ?_) (fun c378 => False.elim (by omega))
            exact J336 _ _ X372 K377 N373
      have J264 : ∀ (Tl : State) (Ll : List Loc), Stand p l e room_1 s m #[(.long p0), (.long p1), (.long p2), (.long p3), (.int p4)] below meth c Tl Ll 10 98 → Tl.heap = T265.heap → Fr n0 Ll → OGoes p e s below (Q0 Z p0 p1 p2 p3 p4 h0 n0) n0 room_1.cells room_1.slots Tl (mkF m 264 #[.val (.long p0), .second, .val (.long p1), .second, .val (.long p2), .second, .val (.long p3), .second, .val (.int p4), .val (.int m9), .val (.int n10), .val (.long b7), .second, .val (.long b16), .second, .val (.long b29), .second, .val (.long b38), .second, .val (.ref a45), .val (.ref a76), .val (.ref a111), .val (.ref a126), .val (.int b270)] []) := by
        intro Tl Ll Xl El Nl
        refine g_iload Xl hx (hb hby at_264) (v := b270) rfl (pc' := 266) rfl ?_
        refine g_iconst Xl hx (hb hby at_266) (v := 1) (by decide) (pc' := 267) rfl ?_
        refine g_ii_le Xl hx (a := (s271 : Int)) (b := 1) f273 rfl (hb hby at_267) (by decide) (pc' := 300) (by decide) (pc2 := 270) rfl (fun c379 => ?_) (fun c379 => ?_)
        · exact J300 _ _ Xl El Nl
        · refine g_aload Xl hx (hb hby at_270) (v := (.ref a111)) rfl rfl (pc' := 272) rfl ?_
          refine g_iconst Xl hx (hb hby at_272) (v := 1) (by decide) (pc' := 273) rfl ?_
          refine g_laload Xl hx hZ El (k := 1) F276 rfl (by decide) (hb hby at_273) (pc' := 274) rfl ?_
          refine g_aload Xl hx (hb hby at_274) (v := (.ref a45)) rfl rfl (pc' := 276) rfl ?_
          refine g_iload Xl hx (hb hby at_276) (v := m9) rfl (pc' := 278) rfl ?_
          refine g_static Xl hx hZ hown (hw _ (List.mem_of_getElem? (i := 69) rfl)) (hw _ (List.mem_of_getElem? (i := 70) rfl)) (hw _ (List.mem_of_getElem? (i := 71) rfl)) (hw _ (List.mem_of_getElem? (i := 72) rfl)) (by decide) (argsL := [(.long (g272 1)), (.ref a45), (.int m9)]) (rm11 l Z a0 hw (g272 1) a45 m9 2 m1 (oupd (oupd zeroL 0 b7) 1 b16) T265.heap n0 Z277 F278 hm (by omega) (by omega)) rfl El (by rw [hml]; rfl) pd_7 rfl (rest := []) rfl (W := 0) (Nat.le_of_eq rfl) (by decide) (by decide) (by decide) (by decide) Nl (hb hby at_278) (pc' := 281) rfl (fun v380 T381 L382 X383 N384 q385 => ?_)
          obtain ⟨b386, rfl, f387, K388⟩ := q385
          show OGoes p e s below (Q0 Z p0 p1 p2 p3 p4 h0 n0) n0 room_1.cells room_1.slots T381 (mkF m 281 #[.val (.long p0), .second, .val (.long p1), .second, .val (.long p2), .second, .val (.long p3), .second, .val (.int p4), .val (.int m9), .val (.int n10), .val (.long b7), .second, .val (.long b16), .second, .val (.long b29), .second, .val (.long b38), .second, .val (.ref a45), .val (.ref a76), .val (.ref a111), .val (.ref a126), .val (.int b270)] [(.int b386)])
          refine g_i0_ne X383 hx (a := b386.toInt) rfl (hb hby at_281) (by decide) (pc' := 300) (by decide) (pc2 := 284) rfl (fun c389 => ?_) (fun c389 => ?_)
          · exact J300 _ _ X383 K388 N384
          · refine g_aload X383 hx (hb hby at_284) (v := (.ref a111)) rfl rfl (pc' := 286) rfl ?_
            refine g_iconst X383 hx (hb hby at_286) (v := 1) (by decide) (pc' := 287) rfl ?_
            refine g_laload X383 hx hZ K388 (k := 1) F276 rfl (by decide) (hb hby at_287) (pc' := 288) rfl ?_
            refine g_aload X383 hx (hb hby at_288) (v := (.ref a76)) rfl rfl (pc' := 290) rfl ?_
            refine g_iload X383 hx (hb hby at_290) (v := n10) rfl (pc' := 292) rfl ?_
            refine g_static X383 hx hZ hown (hw _ (List.mem_of_getElem? (i := 69) rfl)) (hw _ (List.mem_of_getElem? (i := 70) rfl)) (hw _ (List.mem_of_getElem? (i := 71) rfl)) (hw _ (List.mem_of_getElem? (i := 72) rfl)) (by decide) (argsL := [(.long (g272 1)), (.ref a76), (.int n10)]) (rm11 l Z a0 hw (g272 1) a76 n10 2 n1 (oupd (oupd zeroL 0 b29) 1 b38) T265.heap n0 Z277 F279 hn (by omega) (by omega)) rfl K388 (by rw [hml]; rfl) pd_7 rfl (rest := []) rfl (W := 0) (Nat.le_of_eq rfl) (by decide) (by decide) (by decide) (by decide) N384 (hb hby at_292) (pc' := 295) rfl (fun v390 T391 L392 X393 N394 q395 => ?_)
            obtain ⟨b396, rfl, f397, K398⟩ := q395
            show OGoes p e s below (Q0 Z p0 p1 p2 p3 p4 h0 n0) n0 room_1.cells room_1.slots T391 (mkF m 295 #[.val (.long p0), .second, .val (.long p1), .second, .val (.long p2), .second, .val (.long p3), .second, .val (.int p4), .val (.int m9), .val (.int n10), .val (.long b7), .second, .val (.long b16), .second, .val (.long b29), .second, .val (.long b38), .second, .val (.ref a45), .val (.ref a76), .val (.ref a111), .val (.ref a126), .val (.int b270)] [(.int b396)])
            have hbb : b396.toInt = 1 := own_pick (hI 1 (by omega)) f387 f397 (by omega)
            clear f387 f397
            refine g_i0_ne X393 hx (a := b396.toInt) rfl (hb hby at_295) (by decide) (pc' := 300) (by decide) (pc2 := 298) rfl (fun c399 => ?_) (fun c399 => False.elim (by omega))
            exact J300 _ _ X393 K398 N394
      have J229 : ∀ (Tl : State) (Ll : List Loc), Stand p l e room_1 s m #[(.long p0), (.long p1), (.long p2), (.long p3), (.int p4)] below meth c Tl Ll 10 98 → Tl.heap = T265.heap → Fr n0 Ll → OGoes p e s below (Q0 Z p0 p1 p2 p3 p4 h0 n0) n0 room_1.cells room_1.slots Tl (mkF m 229 #[.val (.long p0), .second, .val (.long p1), .second, .val (.long p2), .second, .val (.long p3), .second, .val (.int p4), .val (.int m9), .val (.int n10), .val (.long b7), .second, .val (.long b16), .second, .val (.long b29), .second, .val (.long b38), .second, .val (.ref a45), .val (.ref a76), .val (.ref a111), .val (.ref a126), .val (.int b270)] []) := by
        intro Tl Ll Xl El Nl
        refine g_iload Xl hx (hb hby at_229) (v := b270) rfl (pc' := 231) rfl ?_
        refine g_i0_le Xl hx (a := (s271 : Int)) f273 (hb hby at_231) (by decide) (pc' := 264) (by decide) (pc2 := 234) rfl (fun c400 => ?_) (fun c400 => ?_)
        · exact J264 _ _ Xl El Nl
        · refine g_aload Xl hx (hb hby at_234) (v := (.ref a111)) rfl rfl (pc' := 236) rfl ?_
          refine g_iconst Xl hx (hb hby at_236) (v := 0) (by decide) (pc' := 237) rfl ?_
          refine g_laload Xl hx hZ El (k := 0) F276 rfl (by decide) (hb hby at_237) (pc' := 238) rfl ?_
          refine g_aload Xl hx (hb hby at_238) (v := (.ref a45)) rfl rfl (pc' := 240) rfl ?_
          refine g_iload Xl hx (hb hby at_240) (v := m9) rfl (pc' := 242) rfl ?_
          refine g_static Xl hx hZ hown (hw _ (List.mem_of_getElem? (i := 69) rfl)) (hw _ (List.mem_of_getElem? (i := 70) rfl)) (hw _ (List.mem_of_getElem? (i := 71) rfl)) (hw _ (List.mem_of_getElem? (i := 72) rfl)) (by decide) (argsL := [(.long (g272 0)), (.ref a45), (.int m9)]) (rm11 l Z a0 hw (g272 0) a45 m9 2 m1 (oupd (oupd zeroL 0 b7) 1 b16) T265.heap n0 Z277 F278 hm (by omega) (by omega)) rfl El (by rw [hml]; rfl) pd_7 rfl (rest := []) rfl (W := 0) (Nat.le_of_eq rfl) (by decide) (by decide) (by decide) (by decide) Nl (hb hby at_242) (pc' := 245) rfl (fun v401 T402 L403 X404 N405 q406 => ?_)
          obtain ⟨b407, rfl, f408, K409⟩ := q406
          show OGoes p e s below (Q0 Z p0 p1 p2 p3 p4 h0 n0) n0 room_1.cells room_1.slots T402 (mkF m 245 #[.val (.long p0), .second, .val (.long p1), .second, .val (.long p2), .second, .val (.long p3), .second, .val (.int p4), .val (.int m9), .val (.int n10), .val (.long b7), .second, .val (.long b16), .second, .val (.long b29), .second, .val (.long b38), .second, .val (.ref a45), .val (.ref a76), .val (.ref a111), .val (.ref a126), .val (.int b270)] [(.int b407)])
          refine g_i0_ne X404 hx (a := b407.toInt) rfl (hb hby at_245) (by decide) (pc' := 264) (by decide) (pc2 := 248) rfl (fun c410 => ?_) (fun c410 => ?_)
          · exact J264 _ _ X404 K409 N405
          · refine g_aload X404 hx (hb hby at_248) (v := (.ref a111)) rfl rfl (pc' := 250) rfl ?_
            refine g_iconst X404 hx (hb hby at_250) (v := 0) (by decide) (pc' := 251) rfl ?_
            refine g_laload X404 hx hZ K409 (k := 0) F276 rfl (by decide) (hb hby at_251) (pc' := 252) rfl ?_
            refine g_aload X404 hx (hb hby at_252) (v := (.ref a76)) rfl rfl (pc' := 254) rfl ?_
            refine g_iload X404 hx (hb hby at_254) (v := n10) rfl (pc' := 256) rfl ?_
            refine g_static X404 hx hZ hown (hw _ (List.mem_of_getElem? (i := 69) rfl)) (hw _ (List.mem_of_getElem? (i := 70) rfl)) (hw _ (List.mem_of_getElem? (i := 71) rfl)) (hw _ (List.mem_of_getElem? (i := 72) rfl)) (by decide) (argsL := [(.long (g272 0)), (.ref a76), (.int n10)]) (rm11 l Z a0 hw (g272 0) a76 n10 2 n1 (oupd (oupd zeroL 0 b29) 1 b38) T265.heap n0 Z277 F279 hn (by omega) (by omega)) rfl K409 (by rw [hml]; rfl) pd_7 rfl (rest := []) rfl (W := 0) (Nat.le_of_eq rfl) (by decide) (by decide) (by decide) (by decide) N405 (hb hby at_256) (pc' := 259) rfl (fun v411 T412 L413 X414 N415 q416 => ?_)
            obtain ⟨b417, rfl, f418, K419⟩ := q416
            show OGoes p e s below (Q0 Z p0 p1 p2 p3 p4 h0 n0) n0 room_1.cells room_1.slots T412 (mkF m 259 #[.val (.long p0), .second, .val (.long p1), .second, .val (.long p2), .second, .val (.long p3), .second, .val (.int p4), .val (.int m9), .val (.int n10), .val (.long b7), .second, .val (.long b16), .second, .val (.long b29), .second, .val (.long b38), .second, .val (.ref a45), .val (.ref a76), .val (.ref a111), .val (.ref a126), .val (.int b270)] [(.int b417)])
            have hbb : b417.toInt = 1 := own_pick (hI 0 (by omega)) f408 f418 (by omega)
            clear f408 f418
            refine g_i0_ne X414 hx (a := b417.toInt) rfl (hb hby at_259) (by decide) (pc' := 264) (by decide) (pc2 := 262) rfl (fun c420 => ?_) (fun c420 => False.elim (by omega))
            exact J264 _ _ X414 K419 N415
      have J209 : ∀ (Tl : State) (Ll : List Loc), Stand p l e room_1 s m #[(.long p0), (.long p1), (.long p2), (.long p3), (.int p4)] below meth c Tl Ll 10 98 → Tl.heap = T265.heap → Fr n0 Ll → OGoes p e s below (Q0 Z p0 p1 p2 p3 p4 h0 n0) n0 room_1.cells room_1.slots Tl (mkF m 209 #[.val (.long p0), .second, .val (.long p1), .second, .val (.long p2), .second, .val (.long p3), .second, .val (.int p4), .val (.int m9), .val (.int n10), .val (.long b7), .second, .val (.long b16), .second, .val (.long b29), .second, .val (.long b38), .second, .val (.ref a45), .val (.ref a76), .val (.ref a111), .val (.ref a126), .val (.int b270)] []) := by
        intro Tl Ll Xl El Nl
        refine g_iload Xl hx (hb hby at_209) (v := b270) rfl (pc' := 211) rfl ?_
        refine g_iconst Xl hx (hb hby at_211) (v := 3) (by decide) (pc' := 212) rfl ?_
        refine g_ii_le Xl hx (a := (s271 : Int)) (b := 3) f273 rfl (hb hby at_212) (by decide) (pc' := 229) (by decide) (pc2 := 215) rfl (fun c421 => ?_) (fun c421 => ?_)
        · exact J229 _ _ Xl El Nl
        · refine g_aload Xl hx (hb hby at_215) (v := (.ref a111)) rfl rfl (pc' := 217) rfl ?_
          refine g_iconst Xl hx (hb hby at_217) (v := 2) (by decide) (pc' := 218) rfl ?_
          refine g_laload Xl hx hZ El (k := 2) F276 rfl (by decide) (hb hby at_218) (pc' := 219) rfl ?_
          refine g_aload Xl hx (hb hby at_219) (v := (.ref a111)) rfl rfl (pc' := 221) rfl ?_
          refine g_iconst Xl hx (hb hby at_221) (v := 3) (by decide) (pc' := 222) rfl ?_
          refine g_laload Xl hx hZ El (k := 3) F276 rfl (by decide) (hb hby at_222) (pc' := 223) rfl ?_
          refine g_ll_lt Xl hx (a := (g272 2).toInt) (b := (g272 3).toInt) rfl rfl (hb hby at_223) (pc1 := 224) rfl (hb hby at_224) (by decide) (pc' := 229) (by decide) (pc2 := 227) rfl (fun co => ?_) (fun co => False.elim (by exact co (hO 2 (by omega))))
          exact J229 _ _ Xl El Nl
      have J189 : ∀ (Tl : State) (Ll : List Loc), Stand p l e room_1 s m #[(.long p0), (.long p1), (.long p2), (.long p3), (.int p4)] below meth c Tl Ll 10 98 → Tl.heap = T265.heap → Fr n0 Ll → OGoes p e s below (Q0 Z p0 p1 p2 p3 p4 h0 n0) n0 room_1.cells room_1.slots Tl (mkF m 189 #[.val (.long p0), .second, .val (.long p1), .second, .val (.long p2), .second, .val (.long p3), .second, .val (.int p4), .val (.int m9), .val (.int n10), .val (.long b7), .second, .val (.long b16), .second, .val (.long b29), .second, .val (.long b38), .second, .val (.ref a45), .val (.ref a76), .val (.ref a111), .val (.ref a126), .val (.int b270)] []) := by
        intro Tl Ll Xl El Nl
        refine g_iload Xl hx (hb hby at_189) (v := b270) rfl (pc' := 191) rfl ?_
        refine g_iconst Xl hx (hb hby at_191) (v := 2) (by decide) (pc' := 192) rfl ?_
        refine g_ii_le Xl hx (a := (s271 : Int)) (b := 2) f273 rfl (hb hby at_192) (by decide) (pc' := 209) (by decide) (pc2 := 195) rfl (fun c422 => ?_) (fun c422 => ?_)
        · exact J209 _ _ Xl El Nl
        · refine g_aload Xl hx (hb hby at_195) (v := (.ref a111)) rfl rfl (pc' := 197) rfl ?_
          refine g_iconst Xl hx (hb hby at_197) (v := 1) (by decide) (pc' := 198) rfl ?_
          refine g_laload Xl hx hZ El (k := 1) F276 rfl (by decide) (hb hby at_198) (pc' := 199) rfl ?_
          refine g_aload Xl hx (hb hby at_199) (v := (.ref a111)) rfl rfl (pc' := 201) rfl ?_
          refine g_iconst Xl hx (hb hby at_201) (v := 2) (by decide) (pc' := 202) rfl ?_
          refine g_laload Xl hx hZ El (k := 2) F276 rfl (by decide) (hb hby at_202) (pc' := 203) rfl ?_
          refine g_ll_lt Xl hx (a := (g272 1).toInt) (b := (g272 2).toInt) rfl rfl (hb hby at_203) (pc1 := 204) rfl (hb hby at_204) (by decide) (pc' := 209) (by decide) (pc2 := 207) rfl (fun co => ?_) (fun co => False.elim (by exact co (hO 1 (by omega))))
          exact J209 _ _ Xl El Nl
      have J169 : ∀ (Tl : State) (Ll : List Loc), Stand p l e room_1 s m #[(.long p0), (.long p1), (.long p2), (.long p3), (.int p4)] below meth c Tl Ll 10 98 → Tl.heap = T265.heap → Fr n0 Ll → OGoes p e s below (Q0 Z p0 p1 p2 p3 p4 h0 n0) n0 room_1.cells room_1.slots Tl (mkF m 169 #[.val (.long p0), .second, .val (.long p1), .second, .val (.long p2), .second, .val (.long p3), .second, .val (.int p4), .val (.int m9), .val (.int n10), .val (.long b7), .second, .val (.long b16), .second, .val (.long b29), .second, .val (.long b38), .second, .val (.ref a45), .val (.ref a76), .val (.ref a111), .val (.ref a126), .val (.int b270)] []) := by
        intro Tl Ll Xl El Nl
        refine g_iload Xl hx (hb hby at_169) (v := b270) rfl (pc' := 171) rfl ?_
        refine g_iconst Xl hx (hb hby at_171) (v := 1) (by decide) (pc' := 172) rfl ?_
        refine g_ii_le Xl hx (a := (s271 : Int)) (b := 1) f273 rfl (hb hby at_172) (by decide) (pc' := 189) (by decide) (pc2 := 175) rfl (fun c423 => ?_) (fun c423 => ?_)
        · exact J189 _ _ Xl El Nl
        · refine g_aload Xl hx (hb hby at_175) (v := (.ref a111)) rfl rfl (pc' := 177) rfl ?_
          refine g_iconst Xl hx (hb hby at_177) (v := 0) (by decide) (pc' := 178) rfl ?_
          refine g_laload Xl hx hZ El (k := 0) F276 rfl (by decide) (hb hby at_178) (pc' := 179) rfl ?_
          refine g_aload Xl hx (hb hby at_179) (v := (.ref a111)) rfl rfl (pc' := 181) rfl ?_
          refine g_iconst Xl hx (hb hby at_181) (v := 1) (by decide) (pc' := 182) rfl ?_
          refine g_laload Xl hx hZ El (k := 1) F276 rfl (by decide) (hb hby at_182) (pc' := 183) rfl ?_
          refine g_ll_lt Xl hx (a := (g272 0).toInt) (b := (g272 1).toInt) rfl rfl (hb hby at_183) (pc1 := 184) rfl (hb hby at_184) (by decide) (pc' := 189) (by decide) (pc2 := 187) rfl (fun co => ?_) (fun co => False.elim (by exact co (hO 0 (by omega))))
          exact J189 _ _ Xl El Nl
      exact J169 _ _ X267 rfl N268
    refine g_iload X35 hx (hb hby at_70) (v := cn) rfl (pc' := 72) rfl ?_
    refine g_iconst X35 hx (hb hby at_72) (v := 2) (by decide) (pc' := 73) rfl ?_
    refine g_ii_ne X35 hx (a := cn.toInt) (b := 2) rfl rfl (hb hby at_73) (by decide) (pc' := 87) (by decide) (pc2 := 76) rfl (fun c424 => ?_) (fun c424 => ?_)
    · exact J41 cn ⟨by omega, by omega, fun _ => by omega⟩
    · refine g_lload X35 hx (hb hby at_76) (v := b29) rfl (pc' := 78) rfl ?_
      refine g_lload X35 hx (hb hby at_78) (v := b38) rfl (pc' := 80) rfl ?_
      refine g_ll_ne X35 hx (a := b29.toInt) (b := b38.toInt) rfl rfl (hb hby at_80) (pc1 := 81) rfl (hb hby at_81) (by decide) (pc' := 87) (by decide) (pc2 := 84) rfl (fun c425 => ?_) (fun c425 => ?_)
      · exact J41 cn ⟨by omega, by omega, fun _ => by omega⟩
      · refine g_iconst X35 hx (hb hby at_84) (v := 1) (by decide) (pc' := 85) rfl ?_
        refine g_istore X35 hx (hb hby at_85) (Ls' := #[.val (.long p0), .second, .val (.long p1), .second, .val (.long p2), .second, .val (.long p3), .second, .val (.int p4), .val (.int m9), .val (.int (1 : Int32)), .val (.long b7), .second, .val (.long b16), .second, .val (.long b29), .second, .val (.long b38), .second, .unset, .unset, .unset, .unset, .unset]) rfl (pc' := 87) rfl ?_
        exact J41 (1 : Int32) ⟨by decide, by decide, fun z => absurd z (by decide)⟩
  refine g_iload X13 hx (hb hby at_35) (v := cm) rfl (pc' := 37) rfl ?_
  refine g_iconst X13 hx (hb hby at_37) (v := 2) (by decide) (pc' := 38) rfl ?_
  refine g_ii_ne X13 hx (a := cm.toInt) (b := 2) rfl rfl (hb hby at_38) (by decide) (pc' := 52) (by decide) (pc2 := 41) rfl (fun c426 => ?_) (fun c426 => ?_)
  · exact J21 cm ⟨by omega, by omega, fun _ => by omega⟩
  · refine g_lload X13 hx (hb hby at_41) (v := b7) rfl (pc' := 43) rfl ?_
    refine g_lload X13 hx (hb hby at_43) (v := b16) rfl (pc' := 45) rfl ?_
    refine g_ll_ne X13 hx (a := b7.toInt) (b := b16.toInt) rfl rfl (hb hby at_45) (pc1 := 46) rfl (hb hby at_46) (by decide) (pc' := 52) (by decide) (pc2 := 49) rfl (fun c427 => ?_) (fun c427 => ?_)
    · exact J21 cm ⟨by omega, by omega, fun _ => by omega⟩
    · refine g_iconst X13 hx (hb hby at_49) (v := 1) (by decide) (pc' := 50) rfl ?_
      refine g_istore X13 hx (hb hby at_50) (Ls' := #[.val (.long p0), .second, .val (.long p1), .second, .val (.long p2), .second, .val (.long p3), .second, .val (.int p4), .val (.int (1 : Int32)), .val (.int cn), .val (.long b7), .second, .val (.long b16), .second, .unset, .unset, .unset, .unset, .unset, .unset, .unset, .unset, .unset]) rfl (pc' := 52) rfl ?_
      exact J21 (1 : Int32) ⟨by decide, by decide, fun z => absurd z (by decide)⟩
set_option maxRecDepth 65536 in
set_option maxHeartbeats 40000000 in
theorem comes_1 {Post : Tables → Env → Array Value → State → Outcome → State → Prop} (hpost : ∀ tb e args s v u, (limb_1_1.after args s (.returned v) u = true ∧ limb_1_2.after args s (.returned v) u = true ∧ True) → FrameEnd s (.returned v) u (Jvm.fieldLocs frame_1_writes args s ++ Jvm.arrayLocs frame_1_arrays args s ++ Jvm.staticLocs frame_1_statics s) 32 320 → Post tb e args s (.returned v) u) :
    ArmFor flags0 classFile x code maxLocals ret World_1 tables_1 room_1 Calls_1 rest_1 Pre_1 Post := by
  intro l hfl _ _ p e ha hc hk s m args below hf hA hF happ hP
  obtain ⟨hcalls, hrest, hpre⟩ := hP
  obtain ⟨-, -, -, hnamed, -, -, -, hat⟩ := (Spec.applies_iff hf).mp happ
  obtain ⟨hg, hn⟩ := and_e (Cond.before_iff.mp (show (Jvm.Cond.and given_1 narrow_1).before args s = true from hpre))
  obtain ⟨hcount, k0⟩ := and_e hg
  obtain ⟨g0, k1⟩ := and_e k0
  obtain ⟨g1, k2⟩ := and_e k1
  obtain ⟨g2, k3⟩ := and_e k2
  obtain ⟨g3, k4⟩ := and_e k3
  have g4 := k4
  obtain ⟨w0, w1, w2, w3, w4, rfl⟩ : ∃ w0 w1 w2 w3 w4 : Value, args = #[w0, w1, w2, w3, w4] := by
    have hs : args.size = 5 := by simpa [Cond.value, given_1] using hcount
    obtain ⟨L⟩ := args
    match L, hs with
    | [w0, w1, w2, w3, w4], _ => exact ⟨w0, w1, w2, w3, w4, rfl⟩
  have hw := fun d (hd : d ∈ tables_1) => atoms_spec (ws := Jvm.Cond.code x code maxLocals ret :: tables_1) hat d (List.mem_cons_of_mem _ hd)
  obtain ⟨i0, z0⟩ := isL_v g0
  obtain rfl : w0 = (.long i0) := Option.some.inj z0
  obtain ⟨i1, z1⟩ := isL_v g1
  obtain rfl : w1 = (.long i1) := Option.some.inj z1
  obtain ⟨i2, z2⟩ := isL_v g2
  obtain rfl : w2 = (.long i2) := Option.some.inj z2
  obtain ⟨i3, z3⟩ := isL_v g3
  obtain rfl : w3 = (.long i3) := Option.some.inj z3
  obtain ⟨i4, z4⟩ := is_v g4
  obtain rfl : w4 = (.int i4) := Option.some.inj z4
  obtain ⟨n, o, h1, h2, h3, _, L, rfl, ⟨N, rfl⟩, hq⟩ := rm0 l s _ hw tables_1 i0 i1 i2 i3 i4  s.heap s.heap.size (Nat.le_refl _)  p e ha hc hk s m _ below hf ((Spec.applies_iff_loose hf).mp happ).1 ⟨rfl, State.Warmed39.refl s, rfl⟩ trivial
  exact ⟨n, _, h1, h2, h3, hpost _ _ _ _ _ _ ⟨Cond.after_iff.mpr rfl, Cond.after_iff.mpr (eq_i res_at (Term.int_eval (1)) rfl), trivial⟩ ⟨hq.1, hq.2.1, (hq.2.2.sift fun y hy => Or.inr (N y hy)).mono (by decide) (by decide)⟩⟩
theorem main_1_1 : Claimed_1_1 := comes_1 fun _ _ _ _ _ _ h hF => ⟨h.1, hF⟩
theorem main_1_2 : Claimed_1_2 := comes_1 fun _ _ _ _ _ _ h hF => ⟨h.2.1, hF⟩
end Jvm.Pilot.@@N@@
namespace Jvm.Pilot.@@N@@
open Jvm Jvm.ClassFile Sem Op Lib Jvm.Free Jvm.Stand Jvm.Pilot.@@N@@.Jvm.D
/-! MADE BY PROGRAM (witnessworld.py) out of the Statement's table words and the real class files: 14 classes; the members and pool entries that the words name. The judged class is class 1, her method 1. -/
namespace start1
open Jvm.ClassFile
def u (s : String) : CpInfo := .utf8 (stringToUtf16 s)
/-- a pool by its gaps: so many unusable entries, then the entry; so many at the end -/
def gap : Nat → List CpInfo → List CpInfo
  | 0, r => r
  | n + 1, r => .unusable :: gap n r
def poolList (es : List (Nat × CpInfo)) (last : Nat) : List CpInfo := es.foldr (fun e r => gap e.1 (e.2 :: r)) (gap last [])
def pool (es : List (Nat × CpInfo)) (last : Nat) : Array CpInfo := ⟨poolList es last⟩
def fileOf (pool : Array CpInfo) (this : Nat) (attrs : Array Attribute := #[]) (ms : Array MethodInfo := #[]) (fl : Nat := 33) (sup : Nat := 0) (ifs : Array Nat := #[]) (fds : Array FieldInfo := #[]) : ClassFile where
  minorVersion := 0
  majorVersion := 65
  constantPool := pool
  accessFlags := fl
  thisClass := this
  superClass := sup
  interfaces := ifs
  fields := fds
  methods := ms
  attributes := attrs
def plain (name : String) (sup : Option ClassId) : Class where
  name := name
  kind := .ordinary
  loader := none
  accessFlags := 33
  super := sup
  interfaces := #[]
  cf := none
  fields := #[]
  methods := #[]
  instanceTypes := #[]
  staticTypes := #[]
  resolved := #[]
  callSites := []
  init := .initialized
  statics := none
  mirror := none

def pool0 : Array CpInfo := pool [(5, u "<init>"), (0, u "()V"), (1, .class_ 10), (1, u "java/lang/Object")] 113

def k0c0 : Code := { maxStack := 0, maxLocals := 1, code := object_method_1_code, exceptionTable := #[], attributes := #[] }
def k0m0 : Method := { name := "<init>", desc := "()V", sig := { parameters := [], returnType := none }, accessFlags := 1, code := some k0c0 }
/-- java/lang/Object -/
def k0 : Class := { plain "java/lang/Object" none with
  accessFlags := 33
  interfaces := #[]
  cf := some (fileOf pool0 8 #[] #[{ accessFlags := 1, nameIndex := 5, descriptorIndex := 6, attributes := #[] }] 33 0 #[] #[])
  fields := #[]
  methods := #[k0m0]
  instanceTypes := #[]
  staticTypes := #[]
  resolved := Array.replicate 124 none
  statics := none }

def pool1 : Array CpInfo := pool [(2, .class_ 4), (1, u "java/lang/Object"), (0, u "<init>"), (0, u "()V"), (0, .integer 2147483647), (0, .methodref 9 10), (0, .class_ 11), (0, .nameAndType 12 13), (0, u "java/lang/Math"), (0, u "min"), (0, u "(JJ)J"), (0, .methodref 9 15), (0, .nameAndType 16 13), (0, u "max"), (0, .class_ 18), (0, u "com/example/vetter/vetter/compare/PairSets"), (0, .methodref 17 20), (0, .nameAndType 5 21), (0, u "(I)V"), (0, .methodref 17 23), (0, .nameAndType 24 25), (0, u "set"), (0, u "(I[JI)V"), (0, .methodref 17 27), (0, .nameAndType 28 29), (0, u "union"), (0, u "(I[JI[J)I"), (0, .methodref 31 32), (0, .class_ 33), (0, .nameAndType 34 35), (0, u "com/example/vetter/vetter/compare/PairSetsUnionPinLaw"), (0, u "inFirst"), (0, u "(J[JI)Z"), (2, u "law"), (0, u "(JJJJI)Z")] 5

def k1m0 : Method := { name := "<init>", desc := "()V", sig := { parameters := [], returnType := none }, accessFlags := 1, code := none }
def k1c1 : Code := { maxStack := 5, maxLocals := 24, code := code, exceptionTable := #[], attributes := #[] }
def k1m1 : Method := { name := "law", desc := "(JJJJI)Z", sig := { parameters := [.long, .long, .long, .long, .int], returnType := some .boolean }, accessFlags := 9, code := some k1c1 }
def k1c2 : Code := { maxStack := 4, maxLocals := 4, code := method_3_code, exceptionTable := #[], attributes := #[] }
def k1m2 : Method := { name := "inFirst", desc := "(J[JI)Z", sig := { parameters := [.long, (.array .long), .int], returnType := some .boolean }, accessFlags := 10, code := some k1c2 }
/-- com/example/vetter/vetter/compare/PairSetsUnionPinLaw -/
def k1 : Class := { plain "com/example/vetter/vetter/compare/PairSetsUnionPinLaw" (some 0) with
  accessFlags := 49
  interfaces := #[]
  cf := some (fileOf pool1 31 #[] #[{ accessFlags := 1, nameIndex := 5, descriptorIndex := 6, attributes := #[] }, { accessFlags := 9, nameIndex := 38, descriptorIndex := 39, attributes := #[] }, { accessFlags := 10, nameIndex := 34, descriptorIndex := 35, attributes := #[] }] 49 2 #[] #[])
  fields := #[]
  methods := #[k1m0, k1m1, k1m2]
  instanceTypes := #[]
  staticTypes := #[]
  resolved := Array.replicate 45 none
  statics := none }

def pool2 : Array CpInfo := pool [(1, .class_ 2), (0, u "java/lang/Math"), (1, .class_ 6), (1, u "java/lang/Object"), (0, u "<init>"), (0, u "()V"), (89, .class_ 100), (1, u "java/lang/Math$RandomNumberGeneratorHolder"), (20, u "(JJ)J"), (50, u "negativeZeroFloatBits"), (0, u "J"), (2, u "negativeZeroDoubleBits"), (21, u "max"), (2, u "min"), (43, u "$assertionsDisabled"), (0, u "Z"), (88, u "(II)I"), (2, u "twoToTheDoubleScaleDown"), (0, u "D"), (4, u "twoToTheDoubleScaleUp"), (9, u "E"), (3, u "PI"), (2, u "TAU"), (2, u "DEGREES_TO_RADIANS"), (0, u "RADIANS_TO_DEGREES")] 94

def k2m0 : Method := { name := "<init>", desc := "()V", sig := { parameters := [], returnType := none }, accessFlags := 2, code := none }
def k2c1 : Code := { maxStack := 2, maxLocals := 2, code := jdk_29_method_65_code, exceptionTable := #[], attributes := #[] }
def k2m1 : Method := { name := "max", desc := "(II)I", sig := { parameters := [.int, .int], returnType := some .int }, accessFlags := 9, code := some k2c1 }
def k2c2 : Code := { maxStack := 4, maxLocals := 4, code := jdk_29_method_66_code, exceptionTable := #[], attributes := #[] }
def k2m2 : Method := { name := "max", desc := "(JJ)J", sig := { parameters := [.long, .long], returnType := some .long }, accessFlags := 9, code := some k2c2 }
def k2c3 : Code := { maxStack := 4, maxLocals := 4, code := jdk_29_method_70_code, exceptionTable := #[], attributes := #[] }
def k2m3 : Method := { name := "min", desc := "(JJ)J", sig := { parameters := [.long, .long], returnType := some .long }, accessFlags := 9, code := some k2c3 }
/-- java/lang/Math -/
def k2 : Class := { plain "java/lang/Math" (some 0) with
  accessFlags := 49
  interfaces := #[]
  cf := some (fileOf pool2 1 #[.nestMembers #[98]] #[{ accessFlags := 2, nameIndex := 7, descriptorIndex := 8, attributes := #[] }, { accessFlags := 9, nameIndex := 198, descriptorIndex := 335, attributes := #[] }, { accessFlags := 9, nameIndex := 198, descriptorIndex := 121, attributes := #[] }, { accessFlags := 9, nameIndex := 201, descriptorIndex := 121, attributes := #[] }] 49 4 #[] #[{ accessFlags := 25, nameIndex := 354, descriptorIndex := 339, attributes := #[] }, { accessFlags := 25, nameIndex := 358, descriptorIndex := 339, attributes := #[] }, { accessFlags := 25, nameIndex := 361, descriptorIndex := 339, attributes := #[] }, { accessFlags := 26, nameIndex := 364, descriptorIndex := 339, attributes := #[] }, { accessFlags := 26, nameIndex := 365, descriptorIndex := 339, attributes := #[] }, { accessFlags := 26, nameIndex := 172, descriptorIndex := 173, attributes := #[] }, { accessFlags := 26, nameIndex := 176, descriptorIndex := 173, attributes := #[] }, { accessFlags := 8, nameIndex := 344, descriptorIndex := 339, attributes := #[] }, { accessFlags := 8, nameIndex := 338, descriptorIndex := 339, attributes := #[] }, { accessFlags := 4120, nameIndex := 245, descriptorIndex := 246, attributes := #[] }])
  fields := #[{ name := "E", type := .double, accessFlags := 25, slot := 0, constantValue := 0 }, { name := "PI", type := .double, accessFlags := 25, slot := 1, constantValue := 0 }, { name := "TAU", type := .double, accessFlags := 25, slot := 2, constantValue := 0 }, { name := "DEGREES_TO_RADIANS", type := .double, accessFlags := 26, slot := 3, constantValue := 0 }, { name := "RADIANS_TO_DEGREES", type := .double, accessFlags := 26, slot := 4, constantValue := 0 }, { name := "negativeZeroFloatBits", type := .long, accessFlags := 26, slot := 5, constantValue := 0 }, { name := "negativeZeroDoubleBits", type := .long, accessFlags := 26, slot := 6, constantValue := 0 }, { name := "twoToTheDoubleScaleUp", type := .double, accessFlags := 8, slot := 7, constantValue := 0 }, { name := "twoToTheDoubleScaleDown", type := .double, accessFlags := 8, slot := 8, constantValue := 0 }, { name := "$assertionsDisabled", type := .boolean, accessFlags := 4120, slot := 9, constantValue := 0 }]
  methods := #[k2m0, k2m1, k2m2, k2m3]
  instanceTypes := #[]
  staticTypes := #[.double, .double, .double, .double, .double, .long, .long, .double, .double, .boolean]
  resolved := Array.replicate 460 none
  statics := none }

def pool3 : Array CpInfo := pool [(3, .methodref 4 5), (0, .class_ 6), (0, .nameAndType 7 8), (0, u "java/lang/Object"), (0, u "<init>"), (0, u "()V"), (0, .fieldref 10 11), (0, .class_ 12), (0, .nameAndType 13 14), (0, u "com/example/vetter/vetter/compare/PairSets"), (0, u "starts"), (0, u "[I"), (0, .fieldref 10 16), (0, .nameAndType 17 14), (0, u "sizes"), (0, .fieldref 10 19), (0, .nameAndType 20 21), (0, u "hashes"), (0, u "[J"), (0, .fieldref 10 23), (0, .nameAndType 24 14), (0, u "holders"), (0, .methodref 26 27), (0, .class_ 28), (0, .nameAndType 29 30), (0, u "java/lang/Math"), (0, u "max"), (0, u "(II)I"), (0, .fieldref 10 32), (0, .nameAndType 33 21), (0, u "pool"), (0, .fieldref 10 35), (0, .nameAndType 36 14), (0, u "setOf"), (0, .methodref 38 39), (0, .class_ 40), (0, .nameAndType 41 42), (0, u "java/util/Arrays"), (0, u "fill"), (0, u "([II)V"), (0, .fieldref 10 44), (0, .nameAndType 45 46), (0, u "count"), (0, u "I"), (0, .fieldref 10 48), (0, .nameAndType 49 46), (0, u "used"), (0, .fieldref 10 51), (0, .nameAndType 52 53), (0, u "dropped"), (0, u "J"), (8, .methodref 63 64), (0, .class_ 65), (0, .nameAndType 66 67), (0, u "java/lang/System"), (0, u "arraycopy"), (0, u "(Ljava/lang/Object;ILjava/lang/Object;II)V"), (7, .methodref 10 76), (0, .nameAndType 77 78), (0, u "release"), (0, u "(I)V"), (0, .methodref 10 80), (0, .nameAndType 81 78), (0, u "makeRoom"), (0, .methodref 10 83), (0, .nameAndType 84 85), (0, u "numbered"), (0, u "()I"), (0, .long 11400714819323198485), (1, .long 2), (1, .methodref 26 91), (0, .nameAndType 29 92), (0, u "(JJ)J"), (0, .long 2147483639), (1, .methodref 26 96), (0, .nameAndType 97 92), (0, u "min"), (6, .long 4), (11, u "LONGEST"), (20, u "union"), (0, u "(I[JI[J)I"), (1, u "set"), (0, u "(I[JI)V")] 5

def k3c0 : Code := { maxStack := 3, maxLocals := 2, code := prog_86_method_1_code, exceptionTable := #[], attributes := #[] }
def k3m0 : Method := { name := "<init>", desc := "(I)V", sig := { parameters := [.int], returnType := none }, accessFlags := 0, code := some k3c0 }
def k3c1 : Code := { maxStack := 4, maxLocals := 14, code := prog_86_method_12_code, exceptionTable := #[], attributes := #[] }
def k3m1 : Method := { name := "union", desc := "(I[JI[J)I", sig := { parameters := [.int, (.array .long), .int, (.array .long)], returnType := some .int }, accessFlags := 0, code := some k3c1 }
def k3c2 : Code := { maxStack := 5, maxLocals := 8, code := prog_86_method_13_code, exceptionTable := #[], attributes := #[] }
def k3m2 : Method := { name := "set", desc := "(I[JI)V", sig := { parameters := [.int, (.array .long), .int], returnType := none }, accessFlags := 0, code := some k3c2 }
def k3c3 : Code := { maxStack := 5, maxLocals := 3, code := prog_86_method_16_code, exceptionTable := #[], attributes := #[] }
def k3m3 : Method := { name := "release", desc := "(I)V", sig := { parameters := [.int], returnType := none }, accessFlags := 2, code := some k3c3 }
def k3c4 : Code := { maxStack := 4, maxLocals := 2, code := prog_86_method_17_code, exceptionTable := #[], attributes := #[] }
def k3m4 : Method := { name := "numbered", desc := "()I", sig := { parameters := [], returnType := some .int }, accessFlags := 2, code := some k3c4 }
def k3c5 : Code := { maxStack := 10, maxLocals := 4, code := prog_86_method_18_code, exceptionTable := #[], attributes := #[] }
def k3m5 : Method := { name := "makeRoom", desc := "(I)V", sig := { parameters := [.int], returnType := none }, accessFlags := 2, code := some k3c5 }
/-- com/example/vetter/vetter/compare/PairSets -/
def k3 : Class := { plain "com/example/vetter/vetter/compare/PairSets" (some 0) with
  accessFlags := 32
  interfaces := #[]
  cf := some (fileOf pool3 10 #[] #[{ accessFlags := 0, nameIndex := 7, descriptorIndex := 78, attributes := #[] }, { accessFlags := 0, nameIndex := 137, descriptorIndex := 138, attributes := #[] }, { accessFlags := 0, nameIndex := 140, descriptorIndex := 141, attributes := #[] }, { accessFlags := 2, nameIndex := 77, descriptorIndex := 78, attributes := #[] }, { accessFlags := 2, nameIndex := 84, descriptorIndex := 85, attributes := #[] }, { accessFlags := 2, nameIndex := 81, descriptorIndex := 78, attributes := #[] }] 32 4 #[] #[{ accessFlags := 26, nameIndex := 116, descriptorIndex := 46, attributes := #[] }, { accessFlags := 2, nameIndex := 33, descriptorIndex := 21, attributes := #[] }, { accessFlags := 18, nameIndex := 36, descriptorIndex := 14, attributes := #[] }, { accessFlags := 2, nameIndex := 13, descriptorIndex := 14, attributes := #[] }, { accessFlags := 2, nameIndex := 17, descriptorIndex := 14, attributes := #[] }, { accessFlags := 2, nameIndex := 20, descriptorIndex := 21, attributes := #[] }, { accessFlags := 2, nameIndex := 24, descriptorIndex := 14, attributes := #[] }, { accessFlags := 2, nameIndex := 45, descriptorIndex := 46, attributes := #[] }, { accessFlags := 2, nameIndex := 49, descriptorIndex := 46, attributes := #[] }, { accessFlags := 2, nameIndex := 52, descriptorIndex := 53, attributes := #[] }])
  fields := #[{ name := "LONGEST", type := .int, accessFlags := 26, slot := 0, constantValue := 0 }, { name := "pool", type := (.array .long), accessFlags := 2, slot := 0, constantValue := 0 }, { name := "setOf", type := (.array .int), accessFlags := 18, slot := 1, constantValue := 0 }, { name := "starts", type := (.array .int), accessFlags := 2, slot := 2, constantValue := 0 }, { name := "sizes", type := (.array .int), accessFlags := 2, slot := 3, constantValue := 0 }, { name := "hashes", type := (.array .long), accessFlags := 2, slot := 4, constantValue := 0 }, { name := "holders", type := (.array .int), accessFlags := 2, slot := 5, constantValue := 0 }, { name := "count", type := .int, accessFlags := 2, slot := 6, constantValue := 0 }, { name := "used", type := .int, accessFlags := 2, slot := 7, constantValue := 0 }, { name := "dropped", type := .long, accessFlags := 2, slot := 8, constantValue := 0 }]
  methods := #[k3m0, k3m1, k3m2, k3m3, k3m4, k3m5]
  instanceTypes := #[(.array .long), (.array .int), (.array .int), (.array .int), (.array .long), (.array .int), .int, .int, .long]
  staticTypes := #[.int]
  resolved := Array.replicate 147 none
  statics := none }

def pool4 : Array CpInfo := pool [(2, .class_ 4), (1, u "java/lang/Object"), (0, u "<init>"), (0, u "()V"), (7, .class_ 16), (1, u "java/util/Arrays"), (57, .class_ 76), (1, u "java/util/Arrays$NaturalOrder"), (36, .class_ 115), (1, u "java/util/Arrays$LegacyMergeSort"), (1, u "Z"), (257, .class_ 376), (0, u "java/util/Arrays$ArrayList"), (68, u "$assertionsDisabled"), (269, u "MIN_ARRAY_SORT_GRAN"), (0, u "I"), (2, u "INSERTIONSORT_THRESHOLD"), (120, u "fill"), (4, u "([II)V"), (129, .class_ 976), (0, u "java/util/Arrays$ArrayItr")] 52

def k4m0 : Method := { name := "<init>", desc := "()V", sig := { parameters := [], returnType := none }, accessFlags := 2, code := none }
def k4c1 : Code := { maxStack := 3, maxLocals := 4, code := jdk_65_method_103_code, exceptionTable := #[], attributes := #[] }
def k4m1 : Method := { name := "fill", desc := "([II)V", sig := { parameters := [(.array .int), .int], returnType := none }, accessFlags := 9, code := some k4c1 }
/-- java/util/Arrays -/
def k4 : Class := { plain "java/util/Arrays" (some 0) with
  accessFlags := 49
  interfaces := #[]
  cf := some (fileOf pool4 14 #[.nestMembers #[975, 375, 113, 74]] #[{ accessFlags := 2, nameIndex := 5, descriptorIndex := 6, attributes := #[] }, { accessFlags := 9, nameIndex := 840, descriptorIndex := 845, attributes := #[] }] 49 2 #[] #[{ accessFlags := 26, nameIndex := 715, descriptorIndex := 716, attributes := #[] }, { accessFlags := 26, nameIndex := 719, descriptorIndex := 716, attributes := #[] }, { accessFlags := 4120, nameIndex := 445, descriptorIndex := 117, attributes := #[] }])
  fields := #[{ name := "MIN_ARRAY_SORT_GRAN", type := .int, accessFlags := 26, slot := 0, constantValue := 0 }, { name := "INSERTIONSORT_THRESHOLD", type := .int, accessFlags := 26, slot := 1, constantValue := 0 }, { name := "$assertionsDisabled", type := .boolean, accessFlags := 4120, slot := 2, constantValue := 0 }]
  methods := #[k4m0, k4m1]
  instanceTypes := #[]
  staticTypes := #[.int, .int, .boolean]
  resolved := Array.replicate 1029 none
  statics := none }

def pool5 : Array CpInfo := pool [(2, .class_ 4), (1, u "java/lang/Object"), (0, u "<init>"), (0, u "()V"), (1, .class_ 10), (1, u "java/lang/System"), (0, u "allowSecurityManager"), (0, u "I"), (16, u "cons"), (0, u "Ljava/io/Console;"), (77, .class_ 110), (1, u "java/lang/System$CallersHolder"), (43, u "initialErrStream"), (0, u "Ljava/io/PrintStream;"), (19, u "security"), (0, u "Ljava/lang/SecurityManager;"), (31, .class_ 209), (0, u "java/lang/System$1"), (7, u "props"), (0, u "Ljava/util/Properties;"), (2, u "lineSeparator"), (0, u "Ljava/lang/String;"), (96, .class_ 321), (1, u "java/lang/System$LoggerFinder"), (5, .class_ 328), (0, u "java/lang/System$Logger"), (67, u "err"), (2, u "out"), (91, u "notSupportedJnuEncoding"), (15, u "in"), (17, u "initialIn"), (0, u "Ljava/io/InputStream;"), (35, u "bootLayer"), (0, u "Ljava/lang/ModuleLayer;"), (99, .class_ 664), (0, u "java/lang/System$2"), (9, u "NEVER"), (2, u "MAYBE"), (49, u "arraycopy"), (0, u "(Ljava/lang/Object;ILjava/lang/Object;II)V"), (72, .class_ 802), (0, u "java/lang/System$Logger$Level")] 31

def k5m0 : Method := { name := "<init>", desc := "()V", sig := { parameters := [], returnType := none }, accessFlags := 2, code := none }
def k5m1 : Method := { name := "arraycopy", desc := "(Ljava/lang/Object;ILjava/lang/Object;II)V", sig := { parameters := [(.object "java/lang/Object"), .int, (.object "java/lang/Object"), .int, .int], returnType := none }, accessFlags := 265, code := none }
/-- java/lang/System -/
def k5 : Class := { plain "java/lang/System" (some 0) with
  accessFlags := 49
  interfaces := #[]
  cf := some (fileOf pool5 8 #[.nestMembers #[319, 327, 801, 108, 663, 208]] #[{ accessFlags := 2, nameIndex := 5, descriptorIndex := 6, attributes := #[] }, { accessFlags := 265, nameIndex := 727, descriptorIndex := 728, attributes := #[] }] 49 2 #[] #[{ accessFlags := 25, nameIndex := 507, descriptorIndex := 526, attributes := #[] }, { accessFlags := 25, nameIndex := 399, descriptorIndex := 155, attributes := #[] }, { accessFlags := 25, nameIndex := 396, descriptorIndex := 155, attributes := #[] }, { accessFlags := 10, nameIndex := 525, descriptorIndex := 526, attributes := #[] }, { accessFlags := 26, nameIndex := 674, descriptorIndex := 12, attributes := #[] }, { accessFlags := 26, nameIndex := 677, descriptorIndex := 12, attributes := #[] }, { accessFlags := 10, nameIndex := 11, descriptorIndex := 12, attributes := #[] }, { accessFlags := 74, nameIndex := 175, descriptorIndex := 176, attributes := #[] }, { accessFlags := 10, nameIndex := 491, descriptorIndex := 222, attributes := #[] }, { accessFlags := 74, nameIndex := 29, descriptorIndex := 30, attributes := #[] }, { accessFlags := 74, nameIndex := 154, descriptorIndex := 155, attributes := #[] }, { accessFlags := 10, nameIndex := 217, descriptorIndex := 218, attributes := #[] }, { accessFlags := 10, nameIndex := 221, descriptorIndex := 222, attributes := #[] }, { accessFlags := 8, nameIndex := 562, descriptorIndex := 563, attributes := #[] }])
  fields := #[{ name := "in", type := (.object "java/io/InputStream"), accessFlags := 25, slot := 0, constantValue := 0 }, { name := "out", type := (.object "java/io/PrintStream"), accessFlags := 25, slot := 1, constantValue := 0 }, { name := "err", type := (.object "java/io/PrintStream"), accessFlags := 25, slot := 2, constantValue := 0 }, { name := "initialIn", type := (.object "java/io/InputStream"), accessFlags := 10, slot := 3, constantValue := 0 }, { name := "NEVER", type := .int, accessFlags := 26, slot := 4, constantValue := 0 }, { name := "MAYBE", type := .int, accessFlags := 26, slot := 5, constantValue := 0 }, { name := "allowSecurityManager", type := .int, accessFlags := 10, slot := 6, constantValue := 0 }, { name := "security", type := (.object "java/lang/SecurityManager"), accessFlags := 74, slot := 7, constantValue := 0 }, { name := "notSupportedJnuEncoding", type := (.object "java/lang/String"), accessFlags := 10, slot := 8, constantValue := 0 }, { name := "cons", type := (.object "java/io/Console"), accessFlags := 74, slot := 9, constantValue := 0 }, { name := "initialErrStream", type := (.object "java/io/PrintStream"), accessFlags := 74, slot := 10, constantValue := 0 }, { name := "props", type := (.object "java/util/Properties"), accessFlags := 10, slot := 11, constantValue := 0 }, { name := "lineSeparator", type := (.object "java/lang/String"), accessFlags := 10, slot := 12, constantValue := 0 }, { name := "bootLayer", type := (.object "java/lang/ModuleLayer"), accessFlags := 8, slot := 13, constantValue := 0 }]
  methods := #[k5m0, k5m1]
  instanceTypes := #[]
  staticTypes := #[(.object "java/io/InputStream"), (.object "java/io/PrintStream"), (.object "java/io/PrintStream"), (.object "java/io/InputStream"), .int, .int, .int, (.object "java/lang/SecurityManager"), (.object "java/lang/String"), (.object "java/io/Console"), (.object "java/io/PrintStream"), (.object "java/util/Properties"), (.object "java/lang/String"), (.object "java/lang/ModuleLayer")]
  resolved := Array.replicate 834 none
  statics := none }

def pool6 : Array CpInfo := pool [(1, u "java/lang/Cloneable"), (0, .class_ 1), (0, u "java/lang/Object"), (0, .class_ 3)] 3

/-- java/lang/Cloneable -/
def k6 : Class := { plain "java/lang/Cloneable" (some 0) with
  accessFlags := 1537
  interfaces := #[]
  cf := some (fileOf pool6 2 #[] #[] 1537 4 #[] #[])
  fields := #[]
  methods := #[]
  instanceTypes := #[]
  staticTypes := #[]
  resolved := Array.replicate 8 none
  statics := none }

def pool7 : Array CpInfo := pool [(1, u "java/io/Serializable"), (0, .class_ 1), (0, u "java/lang/Object"), (0, .class_ 3)] 3

/-- java/io/Serializable -/
def k7 : Class := { plain "java/io/Serializable" (some 0) with
  accessFlags := 1537
  interfaces := #[]
  cf := some (fileOf pool7 2 #[] #[] 1537 4 #[] #[])
  fields := #[]
  methods := #[]
  instanceTypes := #[]
  staticTypes := #[]
  resolved := Array.replicate 8 none
  statics := none }

/-- the primitive byte -/
def k8 : Class := { plain "byte" none with kind := .primitive 'B', accessFlags := 0x411 }
/-- [B -/
def k9 : Class := { plain "[B" (some 0) with kind := .array 8 .byte, interfaces := #[6, 7], accessFlags := 1041 }

/-- the primitive int -/
def k10 : Class := { plain "int" none with kind := .primitive 'I', accessFlags := 0x411 }
/-- [I -/
def k11 : Class := { plain "[I" (some 0) with kind := .array 10 .int, interfaces := #[6, 7], accessFlags := 1041 }

/-- the primitive long -/
def k12 : Class := { plain "long" none with kind := .primitive 'J', accessFlags := 0x411 }
/-- [J -/
def k13 : Class := { plain "[J" (some 0) with kind := .array 12 .long, interfaces := #[6, 7], accessFlags := 1041 }

def heap : Heap := #[]
def classes : Array Class := #[k0, k1, k2, k3, k4, k5, k6, k7, k8, k9, k10, k11, k12, k13]
def interned : List (Array UInt16 × Addr) := []
def slotsUsed : Nat := 0
def theMethod : MethodId := ⟨1, 1⟩
def args0 : Array Value := #[.long 5, .long 300, .long 7, .long 2, .int 1]
def aboutOver (below : List Frame) : State where
  vm := { classes := classes, interned := interned.toArray }
  heap := heap
  slotsUsed := slotsUsed
  threads := #[{ frames := .invoking theMethod args0 :: below }]
def below0 : List Frame := [.native { method := ⟨0, 0⟩, args := #[] }]
def about1 : State := aboutOver below0
def p0 : Program := .bare "" "" ""
def e0 : Env := launch0.env 0 0 0
theorem w_frames : about1.frames = Frame.invoking theMethod args0 :: below0 := rfl
set_option maxRecDepth 65536 in
theorem w_args : argsFit about1.vm theMethod args0 = true := by decide +kernel
set_option maxRecDepth 65536 in
theorem w_heap : heapFits about1 = true := by decide +kernel
set_option maxRecDepth 65536 in
theorem w_runnable : about1.curStatus? = some .runnable := by decide +kernel
set_option maxRecDepth 65536 in
theorem w_alone : about1.alone = true := by decide +kernel
set_option maxRecDepth 65536 in
theorem w_named : about1.methodNamed? x = some theMethod := by decide +kernel
set_option maxRecDepth 65536 in
theorem w_hears : about1.hears theMethod below0 = true := by decide +kernel
set_option maxRecDepth 65536 in
theorem w_ripe : about1.ripe theMethod args0 below0 = true := by decide +kernel
theorem w_running : about1.status = .running := rfl
set_option maxRecDepth 65536 in
theorem w_room : about1.hasRoom e0.platform room_1 = true :=
  launch0.hasRoom_least _ room_1 (by decide +kernel) (by decide +kernel) (by decide +kernel) (by decide +kernel) (by decide +kernel) (by decide +kernel)
theorem allAtoms_all (ts : List Jvm.Cond) (a : Array Jvm.Value) (st : Jvm.State) : (allAtoms ts).before a st = ts.all (fun c => c.before a st) := by
  induction ts with
  | nil => rfl
  | cons c t ih =>
    show (Jvm.Cond.and c (allAtoms t)).before a st = _
    rw [Jvm.Cond.before_and, ih, List.all_cons]
def words1 : List Jvm.Cond := Jvm.Cond.code x code maxLocals ret :: tables_1
/-- a 'code' word, met by the world's own term for the bytes: nothing is compared byte by byte -/
theorem code_word {y : MethodName} {bytes : ByteArray} {mx : Nat} {rt : Option FieldType} {a : Array Value} {s : State} {m : MethodId} {meth : Method} {c : Code} (h1 : s.methodNamed? y = some m) (h2 : s.vm.method? m = some meth) (h3 : meth.code = some c) (h4 : c.code = bytes)
    (h5 : (c.maxLocals == mx && c.exceptionTable.isEmpty && decide (c.maxStack ≤ mostOperands) && decide (meth.sig.returnType = rt) && !meth.locks && decide (parseMethodDescriptor y.desc = some meth.sig)) = true) : (Jvm.Cond.code y bytes mx rt).before a s = true := by
  simp only [Bool.and_eq_true, beq_iff_eq, Bool.not_eq_true', decide_eq_true_eq] at h5
  obtain ⟨⟨⟨⟨⟨g1, g2⟩, g3⟩, g4⟩, g5⟩, g6⟩ := h5
  simp [Cond.before, Cond.holds, Cond.value, h1, h2, h3, h4, g1, g2, g3, g4, g5, g6]
def isCode : Jvm.Cond → Bool
  | .code _ _ _ _ => true
  | _ => false
theorem all_split {L : List Jvm.Cond} {P : Jvm.Cond → Bool} (h1 : L.all (fun c => isCode c || P c) = true) (h2 : ∀ c ∈ L.filter isCode, P c = true) : L.all P = true := by
  refine List.all_eq_true.mpr fun c hc => ?_
  have h := List.all_eq_true.mp h1 c hc
  rcases Bool.eq_false_or_eq_true (isCode c) with hi | hi
  · exact h2 c (List.mem_filter.mpr ⟨hc, hi⟩)
  · simpa [hi] using h
set_option maxRecDepth 65536 in
theorem w_c0 : (Jvm.Cond.code x code maxLocals ret).before args0 about1 = true := code_word (m := ⟨1, 1⟩) (meth := k1m1) (c := k1c1) (by decide +kernel) rfl rfl rfl (by decide +kernel)
set_option maxRecDepth 65536 in
theorem w_c1 : (Jvm.Cond.code ({ cls := "java/lang/Math", name := "min", desc := "(JJ)J" } : Jvm.MethodName) jdk_29_method_70_code (4 : Nat) (Option.some Jvm.ClassFile.FieldType.long)).before args0 about1 = true := code_word (m := ⟨2, 3⟩) (meth := k2m3) (c := k2c3) (by decide +kernel) rfl rfl rfl (by decide +kernel)
set_option maxRecDepth 65536 in
theorem w_c2 : (Jvm.Cond.code ({ cls := "java/lang/Math", name := "max", desc := "(JJ)J" } : Jvm.MethodName) jdk_29_method_66_code (4 : Nat) (Option.some Jvm.ClassFile.FieldType.long)).before args0 about1 = true := code_word (m := ⟨2, 2⟩) (meth := k2m2) (c := k2c2) (by decide +kernel) rfl rfl rfl (by decide +kernel)
set_option maxRecDepth 65536 in
theorem w_c3 : (Jvm.Cond.code ({ cls := "com/example/vetter/vetter/compare/PairSets", name := "<init>", desc := "(I)V" } : Jvm.MethodName) prog_86_method_1_code (2 : Nat) (Option.none : Option Jvm.ClassFile.FieldType)).before args0 about1 = true := code_word (m := ⟨3, 0⟩) (meth := k3m0) (c := k3c0) (by decide +kernel) rfl rfl rfl (by decide +kernel)
set_option maxRecDepth 65536 in
theorem w_c4 : (Jvm.Cond.code ({ cls := "java/lang/Object", name := "<init>", desc := "()V" } : Jvm.MethodName) object_method_1_code (1 : Nat) (Option.none : Option Jvm.ClassFile.FieldType)).before args0 about1 = true := code_word (m := ⟨0, 0⟩) (meth := k0m0) (c := k0c0) (by decide +kernel) rfl rfl rfl (by decide +kernel)
set_option maxRecDepth 65536 in
theorem w_c5 : (Jvm.Cond.code ({ cls := "java/lang/Math", name := "max", desc := "(II)I" } : Jvm.MethodName) jdk_29_method_65_code (2 : Nat) (Option.some Jvm.ClassFile.FieldType.int)).before args0 about1 = true := code_word (m := ⟨2, 1⟩) (meth := k2m1) (c := k2c1) (by decide +kernel) rfl rfl rfl (by decide +kernel)
set_option maxRecDepth 65536 in
theorem w_c6 : (Jvm.Cond.code ({ cls := "java/util/Arrays", name := "fill", desc := "([II)V" } : Jvm.MethodName) jdk_65_method_103_code (4 : Nat) (Option.none : Option Jvm.ClassFile.FieldType)).before args0 about1 = true := code_word (m := ⟨4, 1⟩) (meth := k4m1) (c := k4c1) (by decide +kernel) rfl rfl rfl (by decide +kernel)
set_option maxRecDepth 65536 in
theorem w_c7 : (Jvm.Cond.code ({ cls := "com/example/vetter/vetter/compare/PairSets", name := "set", desc := "(I[JI)V" } : Jvm.MethodName) prog_86_method_13_code (8 : Nat) (Option.none : Option Jvm.ClassFile.FieldType)).before args0 about1 = true := code_word (m := ⟨3, 2⟩) (meth := k3m2) (c := k3c2) (by decide +kernel) rfl rfl rfl (by decide +kernel)
set_option maxRecDepth 65536 in
theorem w_c8 : (Jvm.Cond.code ({ cls := "com/example/vetter/vetter/compare/PairSets", name := "release", desc := "(I)V" } : Jvm.MethodName) prog_86_method_16_code (3 : Nat) (Option.none : Option Jvm.ClassFile.FieldType)).before args0 about1 = true := code_word (m := ⟨3, 3⟩) (meth := k3m3) (c := k3c3) (by decide +kernel) rfl rfl rfl (by decide +kernel)
set_option maxRecDepth 65536 in
theorem w_c9 : (Jvm.Cond.code ({ cls := "com/example/vetter/vetter/compare/PairSets", name := "makeRoom", desc := "(I)V" } : Jvm.MethodName) prog_86_method_18_code (4 : Nat) (Option.none : Option Jvm.ClassFile.FieldType)).before args0 about1 = true := code_word (m := ⟨3, 5⟩) (meth := k3m5) (c := k3c5) (by decide +kernel) rfl rfl rfl (by decide +kernel)
set_option maxRecDepth 65536 in
theorem w_c10 : (Jvm.Cond.code ({ cls := "com/example/vetter/vetter/compare/PairSets", name := "numbered", desc := "()I" } : Jvm.MethodName) prog_86_method_17_code (2 : Nat) (Option.some Jvm.ClassFile.FieldType.int)).before args0 about1 = true := code_word (m := ⟨3, 4⟩) (meth := k3m4) (c := k3c4) (by decide +kernel) rfl rfl rfl (by decide +kernel)
set_option maxRecDepth 65536 in
theorem w_c11 : (Jvm.Cond.code ({ cls := "com/example/vetter/vetter/compare/PairSets", name := "union", desc := "(I[JI[J)I" } : Jvm.MethodName) prog_86_method_12_code (14 : Nat) (Option.some Jvm.ClassFile.FieldType.int)).before args0 about1 = true := code_word (m := ⟨3, 1⟩) (meth := k3m1) (c := k3c1) (by decide +kernel) rfl rfl rfl (by decide +kernel)
set_option maxRecDepth 65536 in
theorem w_c12 : (Jvm.Cond.code ({ cls := "com/example/vetter/vetter/compare/PairSetsUnionPinLaw", name := "inFirst", desc := "(J[JI)Z" } : Jvm.MethodName) method_3_code (4 : Nat) (Option.some Jvm.ClassFile.FieldType.boolean)).before args0 about1 = true := code_word (m := ⟨1, 2⟩) (meth := k1m2) (c := k1c2) (by decide +kernel) rfl rfl rfl (by decide +kernel)
def codes1 : List Jvm.Cond := [Jvm.Cond.code x code maxLocals ret, Jvm.Cond.code ({ cls := "java/lang/Math", name := "min", desc := "(JJ)J" } : Jvm.MethodName) jdk_29_method_70_code (4 : Nat) (Option.some Jvm.ClassFile.FieldType.long), Jvm.Cond.code ({ cls := "java/lang/Math", name := "max", desc := "(JJ)J" } : Jvm.MethodName) jdk_29_method_66_code (4 : Nat) (Option.some Jvm.ClassFile.FieldType.long), Jvm.Cond.code ({ cls := "com/example/vetter/vetter/compare/PairSets", name := "<init>", desc := "(I)V" } : Jvm.MethodName) prog_86_method_1_code (2 : Nat) (Option.none : Option Jvm.ClassFile.FieldType), Jvm.Cond.code ({ cls := "java/lang/Object", name := "<init>", desc := "()V" } : Jvm.MethodName) object_method_1_code (1 : Nat) (Option.none : Option Jvm.ClassFile.FieldType), Jvm.Cond.code ({ cls := "java/lang/Math", name := "max", desc := "(II)I" } : Jvm.MethodName) jdk_29_method_65_code (2 : Nat) (Option.some Jvm.ClassFile.FieldType.int), Jvm.Cond.code ({ cls := "java/util/Arrays", name := "fill", desc := "([II)V" } : Jvm.MethodName) jdk_65_method_103_code (4 : Nat) (Option.none : Option Jvm.ClassFile.FieldType), Jvm.Cond.code ({ cls := "com/example/vetter/vetter/compare/PairSets", name := "set", desc := "(I[JI)V" } : Jvm.MethodName) prog_86_method_13_code (8 : Nat) (Option.none : Option Jvm.ClassFile.FieldType), Jvm.Cond.code ({ cls := "com/example/vetter/vetter/compare/PairSets", name := "release", desc := "(I)V" } : Jvm.MethodName) prog_86_method_16_code (3 : Nat) (Option.none : Option Jvm.ClassFile.FieldType), Jvm.Cond.code ({ cls := "com/example/vetter/vetter/compare/PairSets", name := "makeRoom", desc := "(I)V" } : Jvm.MethodName) prog_86_method_18_code (4 : Nat) (Option.none : Option Jvm.ClassFile.FieldType), Jvm.Cond.code ({ cls := "com/example/vetter/vetter/compare/PairSets", name := "numbered", desc := "()I" } : Jvm.MethodName) prog_86_method_17_code (2 : Nat) (Option.some Jvm.ClassFile.FieldType.int), Jvm.Cond.code ({ cls := "com/example/vetter/vetter/compare/PairSets", name := "union", desc := "(I[JI[J)I" } : Jvm.MethodName) prog_86_method_12_code (14 : Nat) (Option.some Jvm.ClassFile.FieldType.int), Jvm.Cond.code ({ cls := "com/example/vetter/vetter/compare/PairSetsUnionPinLaw", name := "inFirst", desc := "(J[JI)Z" } : Jvm.MethodName) method_3_code (4 : Nat) (Option.some Jvm.ClassFile.FieldType.boolean)]
set_option maxRecDepth 65536 in
theorem codes_eq : words1.filter isCode = codes1 := rfl
theorem w_codes : ∀ c ∈ words1.filter isCode, c.before args0 about1 = true := by
  rw [codes_eq]
  intro c hc
  simp only [codes1, List.mem_cons, List.not_mem_nil, or_false] at hc
  rcases hc with rfl | rfl | rfl | rfl | rfl | rfl | rfl | rfl | rfl | rfl | rfl | rfl | rfl
  · exact w_c0
  · exact w_c1
  · exact w_c2
  · exact w_c3
  · exact w_c4
  · exact w_c5
  · exact w_c6
  · exact w_c7
  · exact w_c8
  · exact w_c9
  · exact w_c10
  · exact w_c11
  · exact w_c12
set_option maxRecDepth 65536 in
theorem w_t1 : (words1.take 24).all (fun c => isCode c || c.before args0 about1) = true := by decide +kernel
set_option maxRecDepth 65536 in
theorem w_t2 : ((words1.drop 24).take 24).all (fun c => isCode c || c.before args0 about1) = true := by decide +kernel
set_option maxRecDepth 65536 in
theorem w_t3 : (((words1.drop 24).drop 24).take 24).all (fun c => isCode c || c.before args0 about1) = true := by decide +kernel
set_option maxRecDepth 65536 in
theorem w_t4 : (((words1.drop 24).drop 24).drop 24).all (fun c => isCode c || c.before args0 about1) = true := by decide +kernel
theorem w_tables : (allAtoms (Jvm.Cond.code x code maxLocals ret :: tables_1)).before args0 about1 = true := by
  rw [allAtoms_all]
  show words1.all (fun c => c.before args0 about1) = true
  refine all_split ?_ w_codes
  rw [← List.take_append_drop 24 words1, List.all_append, w_t1, ← List.take_append_drop 24 (words1.drop 24), List.all_append, w_t2, ← List.take_append_drop 24 ((words1.drop 24).drop 24), List.all_append, w_t3, w_t4]
  rfl
set_option maxRecDepth 65536 in
theorem w_case : (Jvm.Cond.and given_1 narrow_1).before args0 about1 = true := by decide +kernel
theorem w_applies : (headSpec (Jvm.Cond.code x code maxLocals ret :: tables_1) room_1).applies x e0.platform about1 = true :=
  (Spec.applies_iff w_frames).mpr ⟨w_running, w_runnable, w_alone, w_named, w_hears, w_ripe, w_room, w_tables⟩
theorem atStart : AtStart classFile x code maxLocals ret World_1 tables_1 room_1 Calls_1 rest_1 Pre_1 launch0 p0 e0 about1 theMethod args0 below0 :=
  ⟨lists_1, trivial, launch0.admits_env _ _ _, launch0.least_env, fairChoices_fair.cas, fairChoices_fair.clock, w_frames, w_args, w_heap, w_applies, trivial, trivial, w_case⟩
end start1
theorem witness_1 : WitnessClaimed_1 := ⟨start1.p0, start1.e0, start1.about1, start1.theMethod, start1.args0, start1.below0, start1.atStart⟩
end Jvm.Pilot.@@N@@
