import JvmDerived
import JvmDerived.Pilot.@@N@@Statement
import JvmDerived.Pilot.@@N@@Code
set_option linter.unusedVariables false
set_option linter.unusedSimpArgs false
namespace Jvm.OwnKit
open Sem ClassFile Op Lib Jvm.Stand Jvm.Free Jvm.LawKit Jvm.RoadKit
/-- from here the run returns; it wrote new cells alone, and what it leaves is as Q says -/
def OGoes (p : Program) (e : Env) (s : State) (below : List Frame) (Q : Option Value → Heap → Prop) (n0 C N : Nat) (T : State) (g : JFrame) : Prop :=
  ∃ s₂ o, Steps p.tables e below (T.setTop g) s₂ ∧ s₂.status = .running ∧ Ended s₂ below o ∧ ∃ v L, o = .returned v ∧ (Fr n0 L ∧ Q v s₂.heap) ∧ FrameEnd s o s₂ L C N
/-- two addresses apart, one number up to another: kept from omega's sight -/
def Apart (a b : Nat) : Prop := a ≠ b
theorem Apart.symm {a b : Nat} (h : Apart a b) : Apart b a := Ne.symm h
def NLe (a b : Nat) : Prop := a ≤ b
theorem NLe.tr {a b c : Nat} (h : NLe a b) (k : b ≤ c) : NLe a c := Nat.le_trans h k
theorem NLe.wr {a : Nat} {h h' : Heap} {b sl : Nat} {v : Value} (q : NLe a h.size) (W : Wr h h' b sl v) : NLe a h'.size := by show a ≤ h'.size; rw [W.size]; exact q
theorem NLe.at {n a b : Nat} (g : a = b) (q : NLe n b) : NLe n a := g ▸ q
theorem Apart.new {a b n : Nat} (g : a = n) (q : b < n) : Apart b a := g ▸ Nat.ne_of_lt q
theorem Apart.fr {a b n : Nat} (q : b < n) (r : n ≤ a) : Apart b a := Nat.ne_of_lt (Nat.lt_of_lt_of_le q r)
/-- a method's contract: entered with these arguments over the heap h it returns as Q says -/
abbrev Con (l : Launch) (y : MethodName) (bytes : ByteArray) (maxL : Nat) (ret : Option FieldType) (ws : List Jvm.Cond) (rm : Room) (Z : State) (as' : Array Value) (h : Heap) (n0 : Nat) (Q : Option Value → Heap → Prop) : Prop :=
  MetFree l y (head1 (Jvm.Cond.code y bytes maxL ret :: ws) rm) (fun a U => a = as' ∧ Z.Warmed39 U.vm ∧ U.heap = h) (fun _ _ _ _ _ => True) (fun _ U o U' => ∃ v L, o = .returned v ∧ (Fr n0 L ∧ Q v U'.heap) ∧ FrameEnd U o U' L rm.cells rm.slots)
section Laws
variable {p : Program} {l : Launch} {e : Env} {R : Room} {s : State} {m : MethodId} {args : Array Value} {below : List Frame} {meth : Method} {c : Code} {T T' : State} {locs : List Loc} {cells slots : Nat} {Z : State} {h : Heap} {a0 : Array Value} {Q : Option Value → Heap → Prop} {n0 C N pc pc' : Nat} {Ls Ls' : Array Slot} {st : List Value} {g g' : JFrame}
theorem OGoes.go (k : ∀ t, Steps p.tables e below (T'.setTop g') t → Steps p.tables e below (T.setTop g) t) (h : OGoes p e s below Q n0 C N T' g') : OGoes p e s below Q n0 C N T g := by
  obtain ⟨s₂, o, h1, h2⟩ := h; exact ⟨s₂, o, k _ h1, h2⟩
/-- what opens every body's walk -/
theorem con_of {y : MethodName} {bytes : ByteArray} {maxL : Nat} {ret : Option FieldType} {ws : List Jvm.Cond} {rm : Room} {as' : Array Value} {Ls0 : Array Slot} (hn : plainFor y = true) (hef : ∀ m, entryFrame m as' maxL = mkF m 0 Ls0 [])
    (body : ∀ (p : Program) (e : Env) (s : State) (m : MethodId) (below : List Frame) (meth : Method) (c : Code) (s₁ : State), Stand p l e rm s m as' below meth c s₁ [] 0 0 → p.tables.exec = Jvm.exec → c.code = bytes → c.maxLocals = maxL → Z.Warmed39 s.vm → s.vm.findClass y.cls = some m.cls → meth.name = y.name → meth.sig.returnType = ret → meth.locks = false → s₁.heap = h → Fr n0 [] →
      OGoes p e s below Q n0 rm.cells rm.slots s₁ (mkF m 0 Ls0 [])) : Con l y bytes maxL ret ws rm Z as' h n0 Q := by
  refine MetFree.of_bodySF hn hisR ?_
  intro p e s m args below meth c s₁ Bd hml0 hP hK
  obtain ⟨rfl, hZ, hh⟩ := hP
  have e0 : s₁.heap = h := by rw [← hh, Bd.state]; rfl
  have q := body p e s m below meth c s₁ (Stand.of_body Bd) Bd.exec Bd.bytes hml0 hZ (findClass_of_methodNamed Bd.named) (name_of_methodNamed Bd.named Bd.method).1 Bd.returns Bd.notSynchronized e0 (Fr.nil n0)
  rw [hef m]
  exact q
/-- a return -/
theorem g_ret (X : Stand p l e R s m args below meth c T locs cells slots) (hx : p.tables.exec = Jvm.exec) (hlk : meth.locks = false) {w : Value} {t : FieldType} {i : Instr} (hret : meth.sig.returnType = some t) (hn : narrow t w = w)
    (hi : (i = .ireturn ∧ (t = .int ∨ t = .boolean ∨ t = .byte ∨ t = .char ∨ t = .short) ∧ ∃ z, w = .int z) ∨ (i = .lreturn ∧ t = .long ∧ ∃ z, w = .long z) ∨ (i = .dreturn ∧ t = .double ∧ ∃ z, w = .double z) ∨ (i = .freturn ∧ t = .float ∧ ∃ z, w = .float z) ∨ (i = .areturn ∧ t.isReference = true ∧ w.isRef = true))
    (hd : decode c.code pc = .ok (i, 1)) (hN : Fr n0 locs) (hc : cells ≤ C) (hs : slots ≤ N) (hQ : Q (some w) T.heap) : OGoes p e s below Q n0 C N T (mkF m pc Ls (w :: st)) := by
  obtain ⟨fs, hr, hrun, hended, hW, hsame⟩ := X.leave (v := some w) (fun z => by rw [hret] at z; cases z)
  exact ⟨_, _, retOut X hx hret hn hi hd hr, hrun, hended, _, _, rfl, ⟨hN, hQ⟩, ⟨_, rfl⟩, hW, hsame.mono hc hs⟩
theorem g_retI (X : Stand p l e R s m args below meth c T locs cells slots) (hx : p.tables.exec = Jvm.exec) (hlk : meth.locks = false) {z : Int32} (hret : meth.sig.returnType = some .int) (hd : decode c.code pc = .ok (.ireturn, 1)) (hN : Fr n0 locs) (hc : cells ≤ C) (hs : slots ≤ N) (hQ : Q (some (.int z)) T.heap) : OGoes p e s below Q n0 C N T (mkF m pc Ls (.int z :: st)) :=
  g_ret X hx hlk hret rfl (Or.inl ⟨rfl, Or.inl rfl, _, rfl⟩) hd hN hc hs hQ
theorem g_retZ (X : Stand p l e R s m args below meth c T locs cells slots) (hx : p.tables.exec = Jvm.exec) (hlk : meth.locks = false) {z : Int32} (hz : z &&& 1 = z) (hret : meth.sig.returnType = some .boolean) (hd : decode c.code pc = .ok (.ireturn, 1)) (hN : Fr n0 locs) (hc : cells ≤ C) (hs : slots ≤ N) (hQ : Q (some (.int z)) T.heap) : OGoes p e s below Q n0 C N T (mkF m pc Ls (.int z :: st)) :=
  g_ret X hx hlk hret (congrArg Value.int hz) (Or.inl ⟨rfl, Or.inr (Or.inl rfl), _, rfl⟩) hd hN hc hs hQ
theorem g_retJ (X : Stand p l e R s m args below meth c T locs cells slots) (hx : p.tables.exec = Jvm.exec) (hlk : meth.locks = false) {z : Int64} (hret : meth.sig.returnType = some .long) (hd : decode c.code pc = .ok (.lreturn, 1)) (hN : Fr n0 locs) (hc : cells ≤ C) (hs : slots ≤ N) (hQ : Q (some (.long z)) T.heap) : OGoes p e s below Q n0 C N T (mkF m pc Ls (.long z :: st)) :=
  g_ret X hx hlk hret rfl (Or.inr (Or.inl ⟨rfl, rfl, _, rfl⟩)) hd hN hc hs hQ
theorem g_retA (X : Stand p l e R s m args below meth c T locs cells slots) (hx : p.tables.exec = Jvm.exec) (hlk : meth.locks = false) {v : Value} {t : FieldType} (hret : meth.sig.returnType = some t) (ht : t.isReference = true) (hn : narrow t v = v) (hv : v.isRef = true) (hd : decode c.code pc = .ok (.areturn, 1)) (hN : Fr n0 locs) (hc : cells ≤ C) (hs : slots ≤ N) (hQ : Q (some v) T.heap) : OGoes p e s below Q n0 C N T (mkF m pc Ls (v :: st)) :=
  g_ret X hx hlk hret hn (Or.inr (Or.inr (Or.inr (Or.inr ⟨rfl, ht, hv⟩)))) hd hN hc hs hQ
theorem g_retV (X : Stand p l e R s m args below meth c T locs cells slots) (hx : p.tables.exec = Jvm.exec) (hlk : meth.locks = false) (hret : meth.sig.returnType = none) (hd : decode c.code pc = .ok (.return_, 1)) (hN : Fr n0 locs) (hc : cells ≤ C) (hs : slots ≤ N) (hQ : Q none T.heap) : OGoes p e s below Q n0 C N T (mkF m pc Ls []) := by
  obtain ⟨fs, hr, hrun, hended, hW, hsame⟩ := X.leave (v := none) (fun _ => rfl)
  exact ⟨_, _, X.returnOut hx hret hd hr, hrun, hended, _, _, rfl, ⟨hN, hQ⟩, ⟨_, rfl⟩, hW, hsame.mono hc hs⟩
/-! fields and objects -/
theorem g_getF (X : Stand p l e R s m args below meth c T locs cells slots) (hx : p.tables.exec = Jvm.exec) (hZ : Z.Warmed39 s.vm) {own O n d : String} {i : Nat} (hown : s.vm.findClass own = some m.cls) (w : (Cond.fieldLink own i O n d).before a0 Z = true) (eT : T.heap = h) {a : Addr} {v : Value} (F : Fld Z h a O n d v) (hd : decode c.code pc = .ok (.getfield i, 3)) (hp : pc + 3 = pc')
    (k : ∀ T', Stand p l e R s m args below meth c T' locs cells slots → T'.heap = h → OGoes p e s below Q n0 C N T' (mkF m pc' Ls (v :: st))) : OGoes p e s below Q n0 C N T (mkF m pc Ls (.ref a :: st)) := by
  subst hp
  obtain ⟨T', X', e', st'⟩ := getF X hx hZ hown (host := "") (Or.inl w) Via.refl eT F (g := mkF m pc Ls (.ref a :: st)) rfl rfl hd
  exact (k T' X' e').go st'
theorem g_putF (X : Stand p l e R s m args below meth c T locs cells slots) (hx : p.tables.exec = Jvm.exec) (hZ : Z.Warmed39 s.vm) {own O n d K : String} {i kk : Nat} {ty : FieldType} (hown : s.vm.findClass own = some m.cls) (w : (Cond.fieldLink own i O n d).before a0 Z = true) (eT : T.heap = h) {a : Addr} {v old : Value} (F : Fld Z h a O n d old) (E : Exa Z h a K) (L : (Cond.lays K O n d).before a0 Z = true ∨ ((Cond.laysFinal K O n d).before a0 Z = true ∧ own = O ∧ meth.name = "<init>")) (wi : (Cond.instantiable K kk).before a0 Z = true)
    (hty : parseFieldDescriptor d = some ty) (hn : narrow ty v = v) (hf : fits ty v = true) (hN : Fr n0 locs) (ha : n0 ≤ a) (hd : decode c.code pc = .ok (.putfield i, 3)) (hp : pc + 3 = pc')
    (k : ∀ T' h' locs', Stand p l e R s m args below meth c T' locs' cells slots → T'.heap = h' → Wr h h' a (RoadKit.slotOf Z O n d) v → Fr n0 locs' → OGoes p e s below Q n0 C N T' (mkF m pc' Ls st)) : OGoes p e s below Q n0 C N T (mkF m pc Ls (v :: .ref a :: st)) := by
  subst hp
  obtain ⟨T', h', X', e', W', st'⟩ := putF X hx hZ hown (host := "") (Or.inl w) Via.refl eT F E L wi hty hn hf (g := mkF m pc Ls (v :: .ref a :: st)) rfl rfl hd
  exact (k T' h' _ X' e' W' (Fr.snoc X' hN ha)).go st'
theorem g_new (X : Stand p l e R s m args below meth c T locs cells slots) (hx : p.tables.exec = Jvm.exec) (hZ : Z.Warmed39 s.vm) {own K : String} {i n : Nat} (hown : s.vm.findClass own = some m.cls) (w : (Cond.classLink own i K).before a0 Z = true) (wi : (Cond.instantiable K n).before a0 Z = true) (wz : (Cond.initialized K).before a0 Z = true) (eT : T.heap = h) (hd : decode c.code pc = .ok (.new i, 3)) (hc : cells + 1 ≤ R.cells) (hl : slots + n ≤ R.slots) (hp : pc + 3 = pc')
    (k : ∀ T' h' a, a = h.size → Stand p l e R s m args below meth c T' locs (cells + 1) (slots + n) → T'.heap = h' → Ext h h' → a < h'.size → Exa Z h' a K → (∀ {O nm d : String} {ty : FieldType}, Laid Z a0 K O nm d → parseFieldDescriptor d = some ty → Fld Z h' a O nm d (defaultValue ty)) → OGoes p e s below Q n0 C N T' (mkF m pc' Ls (.ref a :: st))) : OGoes p e s below Q n0 C N T (mkF m pc Ls st) := by
  subst hp
  obtain ⟨T', h', X', e', E', A', D', -, st'⟩ := newO X hx hZ hown w wi wz eT (g := mkF m pc Ls st) rfl hd hc hl
  exact (k T' h' h.size rfl X' e' E' A'.lt A' D').go st'
theorem g_initO (X : Stand p l e R s m args below meth c T locs cells slots) (hx : p.tables.exec = Jvm.exec) (hZ : Z.Warmed39 s.vm) {own : String} {i : Nat} (hown : s.vm.findClass own = some m.cls) (w1 : (Cond.methodLink own i Lib.objectInit).before a0 Z = true) (w2 : (Cond.instanceMethod Lib.objectInit).before a0 Z = true) (w3 : (Cond.code Lib.objectInit ⟨#[0xb1]⟩ 1 none).before a0 Z = true) (eT : T.heap = h) (hsz : Ls.size = c.maxLocals) {a : Addr} (hd : decode c.code pc = .ok (.invokespecial i, 3))
    (hf : 1 ≤ R.frames) {W : Nat} (hW : (st.map fun v => v.category).sum ≤ W) (hl : W + 12 ≤ R.locals) (hp : pc + 3 = pc')
    (k : ∀ T', Stand p l e R s m args below meth c T' locs cells slots → T'.heap = h → OGoes p e s below Q n0 C N T' (mkF m pc' Ls st)) : OGoes p e s below Q n0 C N T (mkF m pc Ls (.ref a :: st)) := by
  subst hp
  obtain ⟨T', X', e', st'⟩ := initO X hx hZ hown w1 w2 w3 eT (g := mkF m pc Ls (.ref a :: st)) rfl hsz rfl hd hf (W := W) (by show 2 * 0 + _ ≤ _; omega) hl
  exact (k T' X' e').go st'
theorem g_getS (X : Stand p l e R s m args below meth c T locs cells slots) (hx : p.tables.exec = Jvm.exec) (hZ : Z.Warmed39 s.vm) {own O n d : String} {i : Nat} (hown : s.vm.findClass own = some m.cls) (w : (Cond.fieldLink own i O n d).before a0 Z = true) (eT : T.heap = h) {v : Value} (F : Sta Z h O n d v) (hd : decode c.code pc = .ok (.getstatic i, 3)) (hp : pc + 3 = pc')
    (k : ∀ T', Stand p l e R s m args below meth c T' locs cells slots → T'.heap = h → OGoes p e s below Q n0 C N T' (mkF m pc' Ls (v :: st))) : OGoes p e s below Q n0 C N T (mkF m pc Ls st) := by
  subst hp
  obtain ⟨T', X', e', st'⟩ := getS X hx hZ hown (host := "") w Via.refl eT F (g := mkF m pc Ls st) rfl hd
  exact (k T' X' e').go st'
theorem g_ldcF (X : Stand p l e R s m args below meth c T locs cells slots) (hx : p.tables.exec = Jvm.exec) (hZ : Z.Warmed39 s.vm) {own : String} {i : Nat} {b : UInt32} (hown : s.vm.findClass own = some m.cls) (w : (Cond.constantFloat own i b).before a0 Z = true) (hd : decode c.code pc = .ok (.ldc i, 2)) (hp : pc + 2 = pc')
    (k : OGoes p e s below Q n0 C N T (mkF m pc' Ls (.float b :: st))) : OGoes p e s below Q n0 C N T (mkF m pc Ls st) := by
  subst hp
  exact k.go fun t q => X.ldcFloatC hx hown (mvT hZ w) (g := mkF m pc Ls st) rfl hd t q
/-! calls: the callee's contract pays -/
theorem g_static (X : Stand p l e R s m args below meth c T locs cells slots) (hx : p.tables.exec = Jvm.exec) (hZ : Z.Warmed39 s.vm) {own : String} {i : Nat} {y : MethodName} {bytes : ByteArray} {maxL : Nat} {ret : Option FieldType} (hown : s.vm.findClass own = some m.cls) (w1 : (Cond.methodLink own i y).before a0 Z = true) (w2 : (Cond.static y).before a0 Z = true) (w3 : (Cond.initialized y.cls).before a0 Z = true) (w4 : (Cond.code y bytes maxL ret).before a0 Z = true) (hy : y.cls ≠ "java/lang/invoke/MethodHandle" ∧ y.cls ≠ "java/lang/invoke/VarHandle")
    {rm : Room} {argsL : List Value} {as' : Array Value} {Qy : Option Value → Heap → Prop} (hM : Con l y bytes maxL ret [] rm Z as' h n0 Qy) (has : argsL.toArray = as') (eT : T.heap = h) (hsz : Ls.size = c.maxLocals) {ps : List FieldType} {rt : Option FieldType} (pd : parseMethodDescriptor y.desc = some ⟨ps, rt⟩) (hlen : argsL.length = ps.length) {rest : List Value} (hst : st = argsL.reverse ++ rest) {W : Nat} (hW : (rest.map fun v => v.category).sum ≤ W)
    (hf : rm.frames + 1 ≤ R.frames) (hl : W + (maxL + 11) + rm.locals ≤ R.locals) (hc : cells + rm.cells ≤ R.cells) (hs : slots + rm.slots ≤ R.slots) (hN : Fr n0 locs) (hd : decode c.code pc = .ok (.invokestatic i, 3)) (hp : pc + 3 = pc')
    (k : ∀ v T' locs', Stand p l e R s m args below meth c T' locs' (cells + rm.cells) (slots + rm.slots) → Fr n0 locs' → Qy v T'.heap → OGoes p e s below Q n0 C N T' (mkF m pc' Ls (v.toList ++ rest))) : OGoes p e s below Q n0 C N T (mkF m pc Ls st) := by
  subst hp has
  obtain ⟨v, _, ⟨T', L', k', n'⟩, -, X', ⟨L, ⟨hNL, hQ⟩, q1, q2, q3⟩, st'⟩ := Jvm.LawKit.callS X hx (y := y) hown (mvT hZ w1) (mvT hZ w2) (mvT hZ w3) (mvT hZ w4) hy (backOf (W := W) (Q := fun v h L => Fr n0 L ∧ Qy v h) hM hZ w4 w3 hf hl) (g := mkF m pc Ls st) rfl hsz (argsL := argsL) (rest := rest) (lenOf pd hlen) hst (by show 2 * 0 + _ ≤ _; omega) hd (fun _ _ => ⟨rfl, eT, hc, hs⟩)
  dsimp only [Pt.U, Pt.locs, Pt.cells, Pt.slots] at X' q1 q2 q3 st' hQ
  subst q1 q2 q3
  exact (k v T' _ X' (Fr.app hN hNL) hQ).go st'
theorem g_special (X : Stand p l e R s m args below meth c T locs cells slots) (hx : p.tables.exec = Jvm.exec) (hZ : Z.Warmed39 s.vm) {own : String} {i : Nat} {y : MethodName} {bytes : ByteArray} {maxL : Nat} (hy1 : y.name = "<init>") (hown : s.vm.findClass own = some m.cls) (w1 : (Cond.methodLink own i y).before a0 Z = true) (w2 : (Cond.instanceMethod y).before a0 Z = true) (w3 : (Cond.initialized y.cls).before a0 Z = true) (w4 : (Cond.code y bytes maxL none).before a0 Z = true) (hy : y.cls ≠ "java/lang/invoke/MethodHandle" ∧ y.cls ≠ "java/lang/invoke/VarHandle")
    {rm : Room} {a : Addr} {argsL : List Value} {as' : Array Value} {Qy : Option Value → Heap → Prop} (hM : Con l y bytes maxL none [] rm Z as' h n0 Qy) (has : (.ref a :: argsL).toArray = as') (eT : T.heap = h) (hsz : Ls.size = c.maxLocals) {ps : List FieldType} {rt : Option FieldType} (pd : parseMethodDescriptor y.desc = some ⟨ps, rt⟩) (hlen : argsL.length = ps.length) {rest : List Value} (hst : st = argsL.reverse ++ .ref a :: rest) {W : Nat} (hW : (rest.map fun v => v.category).sum ≤ W)
    (hf : rm.frames + 1 ≤ R.frames) (hl : W + (maxL + 11) + rm.locals ≤ R.locals) (hc : cells + rm.cells ≤ R.cells) (hs : slots + rm.slots ≤ R.slots) (hN : Fr n0 locs) (hd : decode c.code pc = .ok (.invokespecial i, 3)) (hp : pc + 3 = pc')
    (k : ∀ v T' locs', Stand p l e R s m args below meth c T' locs' (cells + rm.cells) (slots + rm.slots) → Fr n0 locs' → Qy v T'.heap → OGoes p e s below Q n0 C N T' (mkF m pc' Ls (v.toList ++ rest))) : OGoes p e s below Q n0 C N T (mkF m pc Ls st) := by
  subst hp has
  obtain ⟨v, _, ⟨T', L', k', n'⟩, -, X', ⟨L, ⟨hNL, hQ⟩, q1, q2, q3⟩, st'⟩ := X.specialBack hx (y := y) hy1 hown (mvT hZ w1) (mvT hZ w2) (mvT hZ w4) hy (backOf (W := W) (Q := fun v h L => Fr n0 L ∧ Qy v h) hM hZ w4 w3 hf hl) (g := mkF m pc Ls st) rfl hsz (Steps.refl _) (a := a) (argsL := argsL) (rest := rest) (lenOf pd hlen) hst (by show 2 * 0 + _ ≤ _; omega) hd (fun _ _ => ⟨rfl, eT, hc, hs⟩)
  dsimp only [Pt.U, Pt.locs, Pt.cells, Pt.slots] at X' q1 q2 q3 st' hQ
  subst q1 q2 q3
  exact (k v T' _ X' (Fr.app hN hNL) hQ).go fun _ z => st'.trans z
theorem g_virtual (X : Stand p l e R s m args below meth c T locs cells slots) (hx : p.tables.exec = Jvm.exec) (hZ : Z.Warmed39 s.vm) {own K : String} {i : Nat} {y : MethodName} {bytes : ByteArray} {maxL : Nat} {ret : Option FieldType} (hown : s.vm.findClass own = some m.cls) (w1 : (Cond.methodLink own i y).before a0 Z = true) (w2 : (Cond.declares y).before a0 Z = true) (w5 : (Cond.selects K y y).before a0 Z = true) (w6 : (Cond.instanceMethod y).before a0 Z = true) (w3 : (Cond.initialized y.cls).before a0 Z = true) (w4 : (Cond.code y bytes maxL ret).before a0 Z = true) (hy : y.cls ≠ "java/lang/invoke/MethodHandle" ∧ y.cls ≠ "java/lang/invoke/VarHandle")
    {rm : Room} {a : Addr} {argsL : List Value} {as' : Array Value} {Qy : Option Value → Heap → Prop} (hM : Con l y bytes maxL ret [] rm Z as' h n0 Qy) (has : (.ref a :: argsL).toArray = as') (eT : T.heap = h) (E : Exa Z h a K) (hsz : Ls.size = c.maxLocals) {ps : List FieldType} {rt : Option FieldType} (pd : parseMethodDescriptor y.desc = some ⟨ps, rt⟩) (hlen : argsL.length = ps.length) {rest : List Value} (hst : st = argsL.reverse ++ .ref a :: rest) {W : Nat} (hW : (rest.map fun v => v.category).sum ≤ W)
    (hf : rm.frames + 1 ≤ R.frames) (hl : W + (maxL + 11) + rm.locals ≤ R.locals) (hc : cells + rm.cells ≤ R.cells) (hs : slots + rm.slots ≤ R.slots) (hN : Fr n0 locs) (hd : decode c.code pc = .ok (.invokevirtual i, 3)) (hp : pc + 3 = pc')
    (k : ∀ v T' locs', Stand p l e R s m args below meth c T' locs' (cells + rm.cells) (slots + rm.slots) → Fr n0 locs' → Qy v T'.heap → OGoes p e s below Q n0 C N T' (mkF m pc' Ls (v.toList ++ rest))) : OGoes p e s below Q n0 C N T (mkF m pc Ls st) := by
  subst hp has
  obtain ⟨cq, kq, qa, qb, qc⟩ := isOf hZ eT E
  obtain ⟨v, _, ⟨T', L', k', n'⟩, -, X', ⟨L, ⟨hNL, hQ⟩, q1, q2, q3⟩, st'⟩ := X.virtualBack hx (y := y) (z := y) hown (mvT hZ w1) (mvT hZ w2) (notFace_of_selects (args := #[]) (mvT hZ w5)) (mvT hZ w5) (mvT hZ w6) hy (backOf (W := W) (Q := fun v h L => Fr n0 L ∧ Qy v h) hM hZ w4 w3 hf hl) qa qc (g := mkF m pc Ls st) rfl hsz (Steps.refl _) (argsL := argsL) (rest := rest) (lenOf pd hlen) hst (by show 2 * 0 + _ ≤ _; omega) hd (fun _ _ => ⟨rfl, eT, hc, hs⟩)
  dsimp only [Pt.U, Pt.locs, Pt.cells, Pt.slots] at X' q1 q2 q3 st' hQ
  subst q1 q2 q3
  exact (k v T' _ X' (Fr.app hN hNL) hQ).go fun _ z => st'.trans z
/-! int arrays and long arrays, by their values -/
def IA (Z : State) (h : Heap) (a : Addr) (n : Nat) (f : Nat → Int32) : Prop := n < 2147483648 ∧ ∃ c : Cell, Arr Z h a c .int ∧ c.slots.size = n ∧ ∀ i, i < n → c.slots[i]? = some (.int (f i))
def LA (Z : State) (h : Heap) (a : Addr) (n : Nat) (f : Nat → Int64) : Prop := n < 2147483648 ∧ ∃ c : Cell, Arr Z h a c .long ∧ c.slots.size = n ∧ ∀ i, i < n → c.slots[i]? = some (.long (f i))
def zeroI : Nat → Int32 := fun _ => 0
def zeroL : Nat → Int64 := fun _ => 0
def oupd {A : Type} (f : Nat → A) (j : Nat) (v : A) : Nat → A := fun i => if i = j then v else f i
theorem nclamp {j : Int32} {k : Nat} (hj : j.toInt = (k : Int)) : j.toNatClampNeg = k ∧ ¬ j < 0 := by
  refine ⟨by simp only [Int32.toNatClampNeg, hj]; rfl, fun z => ?_⟩
  rw [Int32.lt_iff_toInt_lt, hj] at z; have : (0 : Int32).toInt = 0 := rfl; omega
theorem nin {j : Int32} {k n : Nat} (hj : j.toInt = (k : Int)) (hk : k < n) : ¬ (j < 0 ∨ n ≤ j.toNatClampNeg) := by
  obtain ⟨q1, q2⟩ := nclamp hj; rw [q1]; rintro (z | z)
  · exact q2 z
  · omega
theorem len32 {n : Nat} (hn : n < 2147483648) : (n.toInt32).toInt = (n : Int) := len_toInt hn
theorem g_iloadN (X : Stand p l e R s m args below meth c T locs cells slots) (hx : p.tables.exec = Jvm.exec) {k : Fin 4} {v : Int32} (hd : decode c.code pc = .ok (.iload_n k, 1)) (hl : Ls[k.val]? = some (.val (.int v))) (hp : pc + 1 = pc')
    (k : OGoes p e s below Q n0 C N T (mkF m pc' Ls (.int v :: st))) : OGoes p e s below Q n0 C N T (mkF m pc Ls (st)) := by
  subst hp; exact k.go fun _ q => XS.iloadN X.here hx rfl hd hl q
theorem g_iload (X : Stand p l e R s m args below meth c T locs cells slots) (hx : p.tables.exec = Jvm.exec) {k : Nat} {v : Int32} (hd : decode c.code pc = .ok (.iload k, 2)) (hl : Ls[k]? = some (.val (.int v))) (hp : pc + 2 = pc')
    (k : OGoes p e s below Q n0 C N T (mkF m pc' Ls (.int v :: st))) : OGoes p e s below Q n0 C N T (mkF m pc Ls (st)) := by
  subst hp; exact k.go fun _ q => XS.iload X.here hx rfl hd hl q
theorem g_lloadN (X : Stand p l e R s m args below meth c T locs cells slots) (hx : p.tables.exec = Jvm.exec) {k : Fin 4} {v : Int64} (hd : decode c.code pc = .ok (.lload_n k, 1)) (hl : Ls[k.val]? = some (.val (.long v))) (hp : pc + 1 = pc')
    (k : OGoes p e s below Q n0 C N T (mkF m pc' Ls (.long v :: st))) : OGoes p e s below Q n0 C N T (mkF m pc Ls (st)) := by
  subst hp; exact k.go fun _ q => XT.lloadN X.here hx rfl hd hl q
theorem g_lload (X : Stand p l e R s m args below meth c T locs cells slots) (hx : p.tables.exec = Jvm.exec) {k : Nat} {v : Int64} (hd : decode c.code pc = .ok (.lload k, 2)) (hl : Ls[k]? = some (.val (.long v))) (hp : pc + 2 = pc')
    (k : OGoes p e s below Q n0 C N T (mkF m pc' Ls (.long v :: st))) : OGoes p e s below Q n0 C N T (mkF m pc Ls (st)) := by
  subst hp; exact k.go fun _ q => XT.lload X.here hx rfl hd hl q
theorem g_aloadN (X : Stand p l e R s m args below meth c T locs cells slots) (hx : p.tables.exec = Jvm.exec) {k : Fin 4} {v : Value} (hd : decode c.code pc = .ok (.aload_n k, 1)) (hl : Ls[k.val]? = some (.val v)) (hv : v.isRef = true) (hp : pc + 1 = pc')
    (k : OGoes p e s below Q n0 C N T (mkF m pc' Ls (v :: st))) : OGoes p e s below Q n0 C N T (mkF m pc Ls (st)) := by
  subst hp; exact k.go fun _ q => XS.aloadN X.here hx rfl hd hl hv q
theorem g_aload (X : Stand p l e R s m args below meth c T locs cells slots) (hx : p.tables.exec = Jvm.exec) {k : Nat} {v : Value} (hd : decode c.code pc = .ok (.aload k, 2)) (hl : Ls[k]? = some (.val v)) (hv : v.isRef = true) (hp : pc + 2 = pc')
    (k : OGoes p e s below Q n0 C N T (mkF m pc' Ls (v :: st))) : OGoes p e s below Q n0 C N T (mkF m pc Ls (st)) := by
  subst hp; exact k.go fun _ q => XS.aload X.here hx rfl hd hl hv q
theorem g_istoreN (X : Stand p l e R s m args below meth c T locs cells slots) (hx : p.tables.exec = Jvm.exec) {k : Fin 4} {x : Int32} (hd : decode c.code pc = .ok (.istore_n k, 1)) (hl : storeLocals Ls k.val (.int x) = some Ls') (hp : pc + 1 = pc')
    (k : OGoes p e s below Q n0 C N T (mkF m pc' Ls' (st))) : OGoes p e s below Q n0 C N T (mkF m pc Ls (.int x :: st)) := by
  subst hp; exact k.go fun _ q => XS.istoreN X.here hx rfl hd rfl hl q
theorem g_istore (X : Stand p l e R s m args below meth c T locs cells slots) (hx : p.tables.exec = Jvm.exec) {k : Nat} {x : Int32} (hd : decode c.code pc = .ok (.istore k, 2)) (hl : storeLocals Ls k (.int x) = some Ls') (hp : pc + 2 = pc')
    (k : OGoes p e s below Q n0 C N T (mkF m pc' Ls' (st))) : OGoes p e s below Q n0 C N T (mkF m pc Ls (.int x :: st)) := by
  subst hp; exact k.go fun _ q => XS.istore X.here hx rfl hd rfl hl q
theorem g_lstoreN (X : Stand p l e R s m args below meth c T locs cells slots) (hx : p.tables.exec = Jvm.exec) {k : Fin 4} {x : Int64} (hd : decode c.code pc = .ok (.lstore_n k, 1)) (hl : storeLocals Ls k.val (.long x) = some Ls') (hp : pc + 1 = pc')
    (k : OGoes p e s below Q n0 C N T (mkF m pc' Ls' (st))) : OGoes p e s below Q n0 C N T (mkF m pc Ls (.long x :: st)) := by
  subst hp; exact k.go fun _ q => XT.lstoreN X.here hx rfl hd rfl hl q
theorem g_lstore (X : Stand p l e R s m args below meth c T locs cells slots) (hx : p.tables.exec = Jvm.exec) {k : Nat} {x : Int64} (hd : decode c.code pc = .ok (.lstore k, 2)) (hl : storeLocals Ls k (.long x) = some Ls') (hp : pc + 2 = pc')
    (k : OGoes p e s below Q n0 C N T (mkF m pc' Ls' (st))) : OGoes p e s below Q n0 C N T (mkF m pc Ls (.long x :: st)) := by
  subst hp; exact k.go fun _ q => XT.lstore X.here hx rfl hd rfl hl q
theorem g_astoreN (X : Stand p l e R s m args below meth c T locs cells slots) (hx : p.tables.exec = Jvm.exec) {k : Fin 4} {x : Value} (hd : decode c.code pc = .ok (.astore_n k, 1)) (hv : x.isRef = true) (hl : storeLocals Ls k.val x = some Ls') (hp : pc + 1 = pc')
    (k : OGoes p e s below Q n0 C N T (mkF m pc' Ls' (st))) : OGoes p e s below Q n0 C N T (mkF m pc Ls (x :: st)) := by
  subst hp; exact k.go fun _ q => XS.astoreN X.here hx rfl hd rfl hv hl q
theorem g_astore (X : Stand p l e R s m args below meth c T locs cells slots) (hx : p.tables.exec = Jvm.exec) {k : Nat} {x : Value} (hd : decode c.code pc = .ok (.astore k, 2)) (hv : x.isRef = true) (hl : storeLocals Ls k x = some Ls') (hp : pc + 2 = pc')
    (k : OGoes p e s below Q n0 C N T (mkF m pc' Ls' (st))) : OGoes p e s below Q n0 C N T (mkF m pc Ls (x :: st)) := by
  subst hp; exact k.go fun _ q => XS.astore X.here hx rfl hd rfl hv hl q
theorem g_iinc (X : Stand p l e R s m args below meth c T locs cells slots) (hx : p.tables.exec = Jvm.exec) {k : Nat} {cst : Int} {x v : Int32} (hd : decode c.code pc = .ok (.iinc k cst, 3)) (hv : Int32.ofInt cst = v) (hl : Ls[k]? = some (.val (.int x))) (hl' : storeLocals Ls k (.int (x + v)) = some Ls') (hp : pc + 3 = pc')
    (k : OGoes p e s below Q n0 C N T (mkF m pc' Ls' (st))) : OGoes p e s below Q n0 C N T (mkF m pc Ls (st)) := by
  subst hp; exact k.go fun _ q => XT.iincV X.here hx rfl v hd hv hl hl' q
theorem g_iconst (X : Stand p l e R s m args below meth c T locs cells slots) (hx : p.tables.exec = Jvm.exec) {i : Int} {v : Int32} (hd : decode c.code pc = .ok (.iconst i, 1)) (hv : Int32.ofInt i = v) (hp : pc + 1 = pc')
    (k : OGoes p e s below Q n0 C N T (mkF m pc' Ls (.int v :: st))) : OGoes p e s below Q n0 C N T (mkF m pc Ls (st)) := by
  subst hp; exact k.go fun _ q => XT.iconstV X.here hx rfl v hd hv q
theorem g_bipush (X : Stand p l e R s m args below meth c T locs cells slots) (hx : p.tables.exec = Jvm.exec) {i : Int} {v : Int32} (hd : decode c.code pc = .ok (.bipush i, 2)) (hv : (Int8.ofInt i).toInt32 = v) (hp : pc + 2 = pc')
    (k : OGoes p e s below Q n0 C N T (mkF m pc' Ls (.int v :: st))) : OGoes p e s below Q n0 C N T (mkF m pc Ls (st)) := by
  subst hp; exact k.go fun _ q => XT.bipushV X.here hx rfl v hd hv q
theorem g_sipush (X : Stand p l e R s m args below meth c T locs cells slots) (hx : p.tables.exec = Jvm.exec) {i : Int} {v : Int32} (hd : decode c.code pc = .ok (.sipush i, 3)) (hv : (Int16.ofInt i).toInt32 = v) (hp : pc + 3 = pc')
    (k : OGoes p e s below Q n0 C N T (mkF m pc' Ls (.int v :: st))) : OGoes p e s below Q n0 C N T (mkF m pc Ls (st)) := by
  subst hp; exact k.go fun _ q => XT.sipushV X.here hx rfl v hd hv q
theorem g_lconst (X : Stand p l e R s m args below meth c T locs cells slots) (hx : p.tables.exec = Jvm.exec) {k : Fin 2} {v : Int64} (hd : decode c.code pc = .ok (.lconst k, 1)) (hv : Int64.ofNat k = v) (hp : pc + 1 = pc')
    (k : OGoes p e s below Q n0 C N T (mkF m pc' Ls (.long v :: st))) : OGoes p e s below Q n0 C N T (mkF m pc Ls (st)) := by
  subst hp; exact k.go fun _ q => XT.lconstV X.here hx rfl v hd hv q
theorem g_null (X : Stand p l e R s m args below meth c T locs cells slots) (hx : p.tables.exec = Jvm.exec)  (hd : decode c.code pc = .ok (.aconst_null, 1))  (hp : pc + 1 = pc')
    (k : OGoes p e s below Q n0 C N T (mkF m pc' Ls (.null :: st))) : OGoes p e s below Q n0 C N T (mkF m pc Ls (st)) := by
  subst hp; exact k.go fun _ q => XS.aconstNull X.here hx rfl hd q
theorem g_ldc (X : Stand p l e R s m args below meth c T locs cells slots) (hx : p.tables.exec = Jvm.exec) (hZ : Z.Warmed39 s.vm) {own : String} {i : Nat} (hown : s.vm.findClass own = some m.cls) {v : Int32} (hd : decode c.code pc = .ok (.ldc i, 2)) (w : (Cond.constant own i v).before a0 Z = true) (hp : pc + 2 = pc')
    (k : OGoes p e s below Q n0 C N T (mkF m pc' Ls (.int v :: st))) : OGoes p e s below Q n0 C N T (mkF m pc Ls (st)) := by
  subst hp; exact k.go fun _ q => X.ldcI hx hown (mvT hZ w) rfl hd q
theorem g_ldcW (X : Stand p l e R s m args below meth c T locs cells slots) (hx : p.tables.exec = Jvm.exec) (hZ : Z.Warmed39 s.vm) {own : String} {i : Nat} (hown : s.vm.findClass own = some m.cls) {v : Int32} (hd : decode c.code pc = .ok (.ldc_w i, 3)) (w : (Cond.constant own i v).before a0 Z = true) (hp : pc + 3 = pc')
    (k : OGoes p e s below Q n0 C N T (mkF m pc' Ls (.int v :: st))) : OGoes p e s below Q n0 C N T (mkF m pc Ls (st)) := by
  subst hp; exact k.go fun _ q => X.ldcWI hx hown (mvT hZ w) rfl hd q
theorem g_ldc2 (X : Stand p l e R s m args below meth c T locs cells slots) (hx : p.tables.exec = Jvm.exec) (hZ : Z.Warmed39 s.vm) {own : String} {i : Nat} (hown : s.vm.findClass own = some m.cls) {v : Int64} (hd : decode c.code pc = .ok (.ldc2_w i, 3)) (w : (Cond.constantLong own i v).before a0 Z = true) (hp : pc + 3 = pc')
    (k : OGoes p e s below Q n0 C N T (mkF m pc' Ls (.long v :: st))) : OGoes p e s below Q n0 C N T (mkF m pc Ls (st)) := by
  subst hp; exact k.go fun _ q => X.ldc2J hx hown (mvT hZ w) rfl hd q
theorem g_iadd (X : Stand p l e R s m args below meth c T locs cells slots) (hx : p.tables.exec = Jvm.exec) {x y : Int32} (hd : decode c.code pc = .ok (.iadd, 1))  (hp : pc + 1 = pc')
    (k : OGoes p e s below Q n0 C N T (mkF m pc' Ls (.int (x + y) :: st))) : OGoes p e s below Q n0 C N T (mkF m pc Ls (.int y :: .int x :: st)) := by
  subst hp; exact k.go fun _ q => XS.iadd X.here hx rfl hd rfl q
theorem g_isub (X : Stand p l e R s m args below meth c T locs cells slots) (hx : p.tables.exec = Jvm.exec) {x y : Int32} (hd : decode c.code pc = .ok (.isub, 1))  (hp : pc + 1 = pc')
    (k : OGoes p e s below Q n0 C N T (mkF m pc' Ls (.int (x - y) :: st))) : OGoes p e s below Q n0 C N T (mkF m pc Ls (.int y :: .int x :: st)) := by
  subst hp; exact k.go fun _ q => XS.isub X.here hx rfl hd rfl q
theorem g_iand (X : Stand p l e R s m args below meth c T locs cells slots) (hx : p.tables.exec = Jvm.exec) {x y : Int32} (hd : decode c.code pc = .ok (.iand, 1))  (hp : pc + 1 = pc')
    (k : OGoes p e s below Q n0 C N T (mkF m pc' Ls (.int (x &&& y) :: st))) : OGoes p e s below Q n0 C N T (mkF m pc Ls (.int y :: .int x :: st)) := by
  subst hp; exact k.go fun _ q => XS.iand X.here hx rfl hd rfl q
theorem g_imul (X : Stand p l e R s m args below meth c T locs cells slots) (hx : p.tables.exec = Jvm.exec) {x y : Int32} (hd : decode c.code pc = .ok (.imul, 1))  (hp : pc + 1 = pc')
    (k : OGoes p e s below Q n0 C N T (mkF m pc' Ls (.int (x * y) :: st))) : OGoes p e s below Q n0 C N T (mkF m pc Ls (.int y :: .int x :: st)) := by
  subst hp; exact k.go fun _ q => XS.imul X.here hx rfl hd rfl q
theorem g_ior (X : Stand p l e R s m args below meth c T locs cells slots) (hx : p.tables.exec = Jvm.exec) {x y : Int32} (hd : decode c.code pc = .ok (.ior, 1))  (hp : pc + 1 = pc')
    (k : OGoes p e s below Q n0 C N T (mkF m pc' Ls (.int (x ||| y) :: st))) : OGoes p e s below Q n0 C N T (mkF m pc Ls (.int y :: .int x :: st)) := by
  subst hp; exact k.go fun _ q => XT.ior X.here hx rfl hd rfl q
theorem g_ixor (X : Stand p l e R s m args below meth c T locs cells slots) (hx : p.tables.exec = Jvm.exec) {x y : Int32} (hd : decode c.code pc = .ok (.ixor, 1))  (hp : pc + 1 = pc')
    (k : OGoes p e s below Q n0 C N T (mkF m pc' Ls (.int (x ^^^ y) :: st))) : OGoes p e s below Q n0 C N T (mkF m pc Ls (.int y :: .int x :: st)) := by
  subst hp; exact k.go fun _ q => XT.ixor X.here hx rfl hd rfl q
theorem g_ishl (X : Stand p l e R s m args below meth c T locs cells slots) (hx : p.tables.exec = Jvm.exec) {x y : Int32} (hd : decode c.code pc = .ok (.ishl, 1))  (hp : pc + 1 = pc')
    (k : OGoes p e s below Q n0 C N T (mkF m pc' Ls (.int (x <<< (y &&& 31)) :: st))) : OGoes p e s below Q n0 C N T (mkF m pc Ls (.int y :: .int x :: st)) := by
  subst hp; exact k.go fun _ q => XT.ishl X.here hx rfl hd rfl q
theorem g_ishr (X : Stand p l e R s m args below meth c T locs cells slots) (hx : p.tables.exec = Jvm.exec) {x y : Int32} (hd : decode c.code pc = .ok (.ishr, 1))  (hp : pc + 1 = pc')
    (k : OGoes p e s below Q n0 C N T (mkF m pc' Ls (.int (x >>> (y &&& 31)) :: st))) : OGoes p e s below Q n0 C N T (mkF m pc Ls (.int y :: .int x :: st)) := by
  subst hp; exact k.go fun _ q => XT.ishr X.here hx rfl hd rfl q
theorem g_iushr (X : Stand p l e R s m args below meth c T locs cells slots) (hx : p.tables.exec = Jvm.exec) {x y : Int32} (hd : decode c.code pc = .ok (.iushr, 1))  (hp : pc + 1 = pc')
    (k : OGoes p e s below Q n0 C N T (mkF m pc' Ls (.int (XT.ushr x y) :: st))) : OGoes p e s below Q n0 C N T (mkF m pc Ls (.int y :: .int x :: st)) := by
  subst hp; exact k.go fun _ q => XT.iushr X.here hx rfl hd rfl q
theorem g_ineg (X : Stand p l e R s m args below meth c T locs cells slots) (hx : p.tables.exec = Jvm.exec) {x : Int32} (hd : decode c.code pc = .ok (.ineg, 1))  (hp : pc + 1 = pc')
    (k : OGoes p e s below Q n0 C N T (mkF m pc' Ls (.int (-x) :: st))) : OGoes p e s below Q n0 C N T (mkF m pc Ls (.int x :: st)) := by
  subst hp; exact k.go fun _ q => XS.ineg X.here hx rfl hd rfl q
theorem g_idiv (X : Stand p l e R s m args below meth c T locs cells slots) (hx : p.tables.exec = Jvm.exec) {x y : Int32} (hd : decode c.code pc = .ok (.idiv, 1)) (hy : y ≠ 0) (hp : pc + 1 = pc')
    (k : OGoes p e s below Q n0 C N T (mkF m pc' Ls (.int (x / y) :: st))) : OGoes p e s below Q n0 C N T (mkF m pc Ls (.int y :: .int x :: st)) := by
  subst hp; exact k.go fun _ q => XS.idiv X.here hx rfl hd rfl hy q
theorem g_irem (X : Stand p l e R s m args below meth c T locs cells slots) (hx : p.tables.exec = Jvm.exec) {x y : Int32} (hd : decode c.code pc = .ok (.irem, 1)) (hy : y ≠ 0) (hp : pc + 1 = pc')
    (k : OGoes p e s below Q n0 C N T (mkF m pc' Ls (.int (x % y) :: st))) : OGoes p e s below Q n0 C N T (mkF m pc Ls (.int y :: .int x :: st)) := by
  subst hp; exact k.go fun _ q => iremM X hx rfl hd rfl hy q
theorem g_ladd (X : Stand p l e R s m args below meth c T locs cells slots) (hx : p.tables.exec = Jvm.exec) {x y : Int64} (hd : decode c.code pc = .ok (.ladd, 1))  (hp : pc + 1 = pc')
    (k : OGoes p e s below Q n0 C N T (mkF m pc' Ls (.long (x + y) :: st))) : OGoes p e s below Q n0 C N T (mkF m pc Ls (.long y :: .long x :: st)) := by
  subst hp; exact k.go fun _ q => XT.ladd X.here hx rfl hd rfl q
theorem g_lsub (X : Stand p l e R s m args below meth c T locs cells slots) (hx : p.tables.exec = Jvm.exec) {x y : Int64} (hd : decode c.code pc = .ok (.lsub, 1))  (hp : pc + 1 = pc')
    (k : OGoes p e s below Q n0 C N T (mkF m pc' Ls (.long (x - y) :: st))) : OGoes p e s below Q n0 C N T (mkF m pc Ls (.long y :: .long x :: st)) := by
  subst hp; exact k.go fun _ q => XT.lsub X.here hx rfl hd rfl q
theorem g_lmul (X : Stand p l e R s m args below meth c T locs cells slots) (hx : p.tables.exec = Jvm.exec) {x y : Int64} (hd : decode c.code pc = .ok (.lmul, 1))  (hp : pc + 1 = pc')
    (k : OGoes p e s below Q n0 C N T (mkF m pc' Ls (.long (x * y) :: st))) : OGoes p e s below Q n0 C N T (mkF m pc Ls (.long y :: .long x :: st)) := by
  subst hp; exact k.go fun _ q => XT.lmul X.here hx rfl hd rfl q
theorem g_land (X : Stand p l e R s m args below meth c T locs cells slots) (hx : p.tables.exec = Jvm.exec) {x y : Int64} (hd : decode c.code pc = .ok (.land, 1))  (hp : pc + 1 = pc')
    (k : OGoes p e s below Q n0 C N T (mkF m pc' Ls (.long (x &&& y) :: st))) : OGoes p e s below Q n0 C N T (mkF m pc Ls (.long y :: .long x :: st)) := by
  subst hp; exact k.go fun _ q => XT.land X.here hx rfl hd rfl q
theorem g_lor (X : Stand p l e R s m args below meth c T locs cells slots) (hx : p.tables.exec = Jvm.exec) {x y : Int64} (hd : decode c.code pc = .ok (.lor, 1))  (hp : pc + 1 = pc')
    (k : OGoes p e s below Q n0 C N T (mkF m pc' Ls (.long (x ||| y) :: st))) : OGoes p e s below Q n0 C N T (mkF m pc Ls (.long y :: .long x :: st)) := by
  subst hp; exact k.go fun _ q => XT.lor X.here hx rfl hd rfl q
theorem g_lxor (X : Stand p l e R s m args below meth c T locs cells slots) (hx : p.tables.exec = Jvm.exec) {x y : Int64} (hd : decode c.code pc = .ok (.lxor, 1))  (hp : pc + 1 = pc')
    (k : OGoes p e s below Q n0 C N T (mkF m pc' Ls (.long (x ^^^ y) :: st))) : OGoes p e s below Q n0 C N T (mkF m pc Ls (.long y :: .long x :: st)) := by
  subst hp; exact k.go fun _ q => XT.lxor X.here hx rfl hd rfl q
theorem g_lshl (X : Stand p l e R s m args below meth c T locs cells slots) (hx : p.tables.exec = Jvm.exec) {x : Int64} {y : Int32} (hd : decode c.code pc = .ok (.lshl, 1))  (hp : pc + 1 = pc')
    (k : OGoes p e s below Q n0 C N T (mkF m pc' Ls (.long (x <<< (y.toInt64 &&& 63)) :: st))) : OGoes p e s below Q n0 C N T (mkF m pc Ls (.int y :: .long x :: st)) := by
  subst hp; exact k.go fun _ q => XT.lshl X.here hx rfl hd rfl q
theorem g_lshr (X : Stand p l e R s m args below meth c T locs cells slots) (hx : p.tables.exec = Jvm.exec) {x : Int64} {y : Int32} (hd : decode c.code pc = .ok (.lshr, 1))  (hp : pc + 1 = pc')
    (k : OGoes p e s below Q n0 C N T (mkF m pc' Ls (.long (x >>> (y.toInt64 &&& 63)) :: st))) : OGoes p e s below Q n0 C N T (mkF m pc Ls (.int y :: .long x :: st)) := by
  subst hp; exact k.go fun _ q => XT.lshr X.here hx rfl hd rfl q
theorem g_lushr (X : Stand p l e R s m args below meth c T locs cells slots) (hx : p.tables.exec = Jvm.exec) {x : Int64} {y : Int32} (hd : decode c.code pc = .ok (.lushr, 1))  (hp : pc + 1 = pc')
    (k : OGoes p e s below Q n0 C N T (mkF m pc' Ls (.long (XT.ushrL x y) :: st))) : OGoes p e s below Q n0 C N T (mkF m pc Ls (.int y :: .long x :: st)) := by
  subst hp; exact k.go fun _ q => XT.lushr X.here hx rfl hd rfl q
theorem g_ldiv (X : Stand p l e R s m args below meth c T locs cells slots) (hx : p.tables.exec = Jvm.exec) {x y : Int64} (hd : decode c.code pc = .ok (.ldiv, 1)) (hy : y ≠ 0) (hp : pc + 1 = pc')
    (k : OGoes p e s below Q n0 C N T (mkF m pc' Ls (.long (x / y) :: st))) : OGoes p e s below Q n0 C N T (mkF m pc Ls (.long y :: .long x :: st)) := by
  subst hp; exact k.go fun _ q => XT.ldiv X.here hx rfl hd rfl hy q
theorem g_lrem (X : Stand p l e R s m args below meth c T locs cells slots) (hx : p.tables.exec = Jvm.exec) {x y : Int64} (hd : decode c.code pc = .ok (.lrem, 1)) (hy : y ≠ 0) (hp : pc + 1 = pc')
    (k : OGoes p e s below Q n0 C N T (mkF m pc' Ls (.long (x - (x / y) * y) :: st))) : OGoes p e s below Q n0 C N T (mkF m pc Ls (.long y :: .long x :: st)) := by
  subst hp; exact k.go fun _ q => XT.lrem X.here hx rfl hd rfl hy q
theorem g_lneg (X : Stand p l e R s m args below meth c T locs cells slots) (hx : p.tables.exec = Jvm.exec) {x : Int64} (hd : decode c.code pc = .ok (.lneg, 1))  (hp : pc + 1 = pc')
    (k : OGoes p e s below Q n0 C N T (mkF m pc' Ls (.long (-x) :: st))) : OGoes p e s below Q n0 C N T (mkF m pc Ls (.long x :: st)) := by
  subst hp; exact k.go fun _ q => XT.lneg X.here hx rfl hd rfl q
theorem g_i2l (X : Stand p l e R s m args below meth c T locs cells slots) (hx : p.tables.exec = Jvm.exec) {x : Int32} (hd : decode c.code pc = .ok (.i2l, 1))  (hp : pc + 1 = pc')
    (k : OGoes p e s below Q n0 C N T (mkF m pc' Ls (.long x.toInt64 :: st))) : OGoes p e s below Q n0 C N T (mkF m pc Ls (.int x :: st)) := by
  subst hp; exact k.go fun _ q => XT.i2l X.here hx rfl hd rfl q
theorem g_l2i (X : Stand p l e R s m args below meth c T locs cells slots) (hx : p.tables.exec = Jvm.exec) {x : Int64} (hd : decode c.code pc = .ok (.l2i, 1))  (hp : pc + 1 = pc')
    (k : OGoes p e s below Q n0 C N T (mkF m pc' Ls (.int x.toInt32 :: st))) : OGoes p e s below Q n0 C N T (mkF m pc Ls (.long x :: st)) := by
  subst hp; exact k.go fun _ q => XT.l2i X.here hx rfl hd rfl q
theorem g_i2b (X : Stand p l e R s m args below meth c T locs cells slots) (hx : p.tables.exec = Jvm.exec) {x : Int32} (hd : decode c.code pc = .ok (.i2b, 1))  (hp : pc + 1 = pc')
    (k : OGoes p e s below Q n0 C N T (mkF m pc' Ls (.int x.toInt8.toInt32 :: st))) : OGoes p e s below Q n0 C N T (mkF m pc Ls (.int x :: st)) := by
  subst hp; exact k.go fun _ q => XT.i2b X.here hx rfl hd rfl q
theorem g_dup (X : Stand p l e R s m args below meth c T locs cells slots) (hx : p.tables.exec = Jvm.exec) {v : Value} (hd : decode c.code pc = .ok (.dup, 1)) (hc : v.category = 1) (hp : pc + 1 = pc')
    (k : OGoes p e s below Q n0 C N T (mkF m pc' Ls (v :: v :: st))) : OGoes p e s below Q n0 C N T (mkF m pc Ls (v :: st)) := by
  subst hp; exact k.go fun _ q => XS.dup X.here hx rfl hd rfl hc q
theorem g_pop (X : Stand p l e R s m args below meth c T locs cells slots) (hx : p.tables.exec = Jvm.exec) {v : Value} (hd : decode c.code pc = .ok (.pop, 1)) (hc : v.category = 1) (hp : pc + 1 = pc')
    (k : OGoes p e s below Q n0 C N T (mkF m pc' Ls (st))) : OGoes p e s below Q n0 C N T (mkF m pc Ls (v :: st)) := by
  subst hp; exact k.go fun _ q => XT.pop X.here hx rfl hd rfl hc q
theorem g_dupX1 (X : Stand p l e R s m args below meth c T locs cells slots) (hx : p.tables.exec = Jvm.exec) {v w : Value} (hd : decode c.code pc = .ok (.dup_x1, 1)) (hc : v.category = 1) (hc' : w.category = 1) (hp : pc + 1 = pc')
    (k : OGoes p e s below Q n0 C N T (mkF m pc' Ls (v :: w :: v :: st))) : OGoes p e s below Q n0 C N T (mkF m pc Ls (v :: w :: st)) := by
  subst hp; exact k.go fun _ q => XT.dupX1 X.here hx rfl hd rfl hc hc' q
theorem g_dup2 (X : Stand p l e R s m args below meth c T locs cells slots) (hx : p.tables.exec = Jvm.exec) {v w : Value} (hd : decode c.code pc = .ok (.dup2, 1)) (hc : v.category = 1) (hc' : w.category = 1) (hp : pc + 1 = pc')
    (k : OGoes p e s below Q n0 C N T (mkF m pc' Ls (v :: w :: v :: w :: st))) : OGoes p e s below Q n0 C N T (mkF m pc Ls (v :: w :: st)) := by
  subst hp; exact k.go fun _ q => XT.dup2 X.here hx rfl hd rfl hc hc' q
theorem g_dup2L (X : Stand p l e R s m args below meth c T locs cells slots) (hx : p.tables.exec = Jvm.exec) {x : Int64} (hd : decode c.code pc = .ok (.dup2, 1))  (hp : pc + 1 = pc')
    (k : OGoes p e s below Q n0 C N T (mkF m pc' Ls (.long x :: .long x :: st))) : OGoes p e s below Q n0 C N T (mkF m pc Ls (.long x :: st)) := by
  subst hp; exact k.go fun _ q => XT.dup2L X.here hx rfl hd rfl q
theorem g_goto (X : Stand p l e R s m args below meth c T locs cells slots) (hx : p.tables.exec = Jvm.exec) {o : Int} (hd : decode c.code pc = .ok (.goto o, 3)) (ho : 0 ≤ (pc : Int) + o) (hp : ((pc : Int) + o).toNat = pc')
    (k : OGoes p e s below Q n0 C N T (mkF m pc' Ls st)) : OGoes p e s below Q n0 C N T (mkF m pc Ls st) := k.go fun _ q => XS.goto X.here hx rfl rfl hd ho hp q
theorem g_ii_eq (X : Stand p l e R s m args below meth c T locs cells slots) (hx : p.tables.exec = Jvm.exec) {o : Int} {x y : Int32} {a b : Int} (ha : x.toInt = a) (hb : y.toInt = b) (hd : decode c.code pc = .ok (.if_icmp .eq o, 3)) (ho : 0 ≤ (pc : Int) + o) (hp : ((pc : Int) + o).toNat = pc') {pc2 : Nat} (hp2 : pc + 3 = pc2)
    (kt : a = b → OGoes p e s below Q n0 C N T (mkF m pc' Ls st)) (kf : ¬ a = b → OGoes p e s below Q n0 C N T (mkF m pc2 Ls st)) : OGoes p e s below Q n0 C N T (mkF m pc Ls (.int y :: .int x :: st)) := by
  subst ha hb hp2
  have hw : x = y ↔ x.toInt = y.toInt := Int32.toInt_inj.symm
  by_cases hq : x = y
  · exact (kt (hw.mp hq)).go fun _ q => XS.icmpYes X.here hx rfl rfl hd rfl (XT.ii_eq_t hq) ho hp q
  · exact (kf fun z => hq (hw.mpr z)).go fun _ q => XS.icmpNo X.here hx rfl hd rfl (XT.ii_eq_f hq) q
theorem g_ll_eq (X : Stand p l e R s m args below meth c T locs cells slots) (hx : p.tables.exec = Jvm.exec) {o : Int} {x y : Int64} {a b : Int} (ha : x.toInt = a) (hb : y.toInt = b) (hd1 : decode c.code pc = .ok (.lcmp, 1)) {pc1 : Nat} (hp1 : pc + 1 = pc1) (hd : decode c.code pc1 = .ok (.ifCond .eq o, 3)) (ho : 0 ≤ (pc1 : Int) + o) (hp : ((pc1 : Int) + o).toNat = pc') {pc2 : Nat} (hp2 : pc1 + 3 = pc2)
    (kt : a = b → OGoes p e s below Q n0 C N T (mkF m pc' Ls st)) (kf : ¬ a = b → OGoes p e s below Q n0 C N T (mkF m pc2 Ls st)) : OGoes p e s below Q n0 C N T (mkF m pc Ls (.long y :: .long x :: st)) := by
  subst ha hb hp1 hp2
  refine OGoes.go (g' := mkF m (pc + 1) Ls (.int (XT.cmpL x y) :: st)) (fun _ q => XT.lcmp X.here hx rfl hd1 rfl q) ?_
  have hw : x = y ↔ x.toInt = y.toInt := Int64.toInt_inj.symm
  by_cases hq : x = y
  · exact (kt (hw.mp hq)).go fun _ q => XS.ifYes X.here hx rfl rfl hd rfl (XT.ll_eq_t hq) ho hp q
  · exact (kf fun z => hq (hw.mpr z)).go fun _ q => XS.ifNo X.here hx rfl hd rfl (XT.ll_eq_f hq) q
theorem g_i0_eq (X : Stand p l e R s m args below meth c T locs cells slots) (hx : p.tables.exec = Jvm.exec) {o : Int} {x : Int32} {a : Int} (ha : x.toInt = a) (hd : decode c.code pc = .ok (.ifCond .eq o, 3)) (ho : 0 ≤ (pc : Int) + o) (hp : ((pc : Int) + o).toNat = pc') {pc2 : Nat} (hp2 : pc + 3 = pc2)
    (kt : a = 0 → OGoes p e s below Q n0 C N T (mkF m pc' Ls st)) (kf : ¬ a = 0 → OGoes p e s below Q n0 C N T (mkF m pc2 Ls st)) : OGoes p e s below Q n0 C N T (mkF m pc Ls (.int x :: st)) := by
  subst ha hp2
  have hw : x = 0 ↔ x.toInt = 0 := ⟨fun z => by rw [z]; rfl, fun z => Int32.toInt_inj.mp (z.trans rfl)⟩
  by_cases hq : x = 0
  · exact (kt (hw.mp hq)).go fun _ q => XS.ifYes X.here hx rfl rfl hd rfl (XT.i0_eq_t hq) ho hp q
  · exact (kf fun z => hq (hw.mpr z)).go fun _ q => XS.ifNo X.here hx rfl hd rfl (XT.i0_eq_f hq) q
theorem g_ii_ne (X : Stand p l e R s m args below meth c T locs cells slots) (hx : p.tables.exec = Jvm.exec) {o : Int} {x y : Int32} {a b : Int} (ha : x.toInt = a) (hb : y.toInt = b) (hd : decode c.code pc = .ok (.if_icmp .ne o, 3)) (ho : 0 ≤ (pc : Int) + o) (hp : ((pc : Int) + o).toNat = pc') {pc2 : Nat} (hp2 : pc + 3 = pc2)
    (kt : ¬ a = b → OGoes p e s below Q n0 C N T (mkF m pc' Ls st)) (kf : a = b → OGoes p e s below Q n0 C N T (mkF m pc2 Ls st)) : OGoes p e s below Q n0 C N T (mkF m pc Ls (.int y :: .int x :: st)) := by
  subst ha hb hp2
  have hw : x = y ↔ x.toInt = y.toInt := Int32.toInt_inj.symm
  by_cases hq : x = y
  · exact (kf (hw.mp hq)).go fun _ q => XS.icmpNo X.here hx rfl hd rfl (XT.ii_ne_f hq) q
  · exact (kt fun z => hq (hw.mpr z)).go fun _ q => XS.icmpYes X.here hx rfl rfl hd rfl (XT.ii_ne_t hq) ho hp q
theorem g_ll_ne (X : Stand p l e R s m args below meth c T locs cells slots) (hx : p.tables.exec = Jvm.exec) {o : Int} {x y : Int64} {a b : Int} (ha : x.toInt = a) (hb : y.toInt = b) (hd1 : decode c.code pc = .ok (.lcmp, 1)) {pc1 : Nat} (hp1 : pc + 1 = pc1) (hd : decode c.code pc1 = .ok (.ifCond .ne o, 3)) (ho : 0 ≤ (pc1 : Int) + o) (hp : ((pc1 : Int) + o).toNat = pc') {pc2 : Nat} (hp2 : pc1 + 3 = pc2)
    (kt : ¬ a = b → OGoes p e s below Q n0 C N T (mkF m pc' Ls st)) (kf : a = b → OGoes p e s below Q n0 C N T (mkF m pc2 Ls st)) : OGoes p e s below Q n0 C N T (mkF m pc Ls (.long y :: .long x :: st)) := by
  subst ha hb hp1 hp2
  refine OGoes.go (g' := mkF m (pc + 1) Ls (.int (XT.cmpL x y) :: st)) (fun _ q => XT.lcmp X.here hx rfl hd1 rfl q) ?_
  have hw : x = y ↔ x.toInt = y.toInt := Int64.toInt_inj.symm
  by_cases hq : x = y
  · exact (kf (hw.mp hq)).go fun _ q => XS.ifNo X.here hx rfl hd rfl (XT.ll_ne_f hq) q
  · exact (kt fun z => hq (hw.mpr z)).go fun _ q => XS.ifYes X.here hx rfl rfl hd rfl (XT.ll_ne_t hq) ho hp q
theorem g_i0_ne (X : Stand p l e R s m args below meth c T locs cells slots) (hx : p.tables.exec = Jvm.exec) {o : Int} {x : Int32} {a : Int} (ha : x.toInt = a) (hd : decode c.code pc = .ok (.ifCond .ne o, 3)) (ho : 0 ≤ (pc : Int) + o) (hp : ((pc : Int) + o).toNat = pc') {pc2 : Nat} (hp2 : pc + 3 = pc2)
    (kt : ¬ a = 0 → OGoes p e s below Q n0 C N T (mkF m pc' Ls st)) (kf : a = 0 → OGoes p e s below Q n0 C N T (mkF m pc2 Ls st)) : OGoes p e s below Q n0 C N T (mkF m pc Ls (.int x :: st)) := by
  subst ha hp2
  have hw : x = 0 ↔ x.toInt = 0 := ⟨fun z => by rw [z]; rfl, fun z => Int32.toInt_inj.mp (z.trans rfl)⟩
  by_cases hq : x = 0
  · exact (kf (hw.mp hq)).go fun _ q => XS.ifNo X.here hx rfl hd rfl (XT.i0_ne_f hq) q
  · exact (kt fun z => hq (hw.mpr z)).go fun _ q => XS.ifYes X.here hx rfl rfl hd rfl (XT.i0_ne_t hq) ho hp q
theorem g_ii_lt (X : Stand p l e R s m args below meth c T locs cells slots) (hx : p.tables.exec = Jvm.exec) {o : Int} {x y : Int32} {a b : Int} (ha : x.toInt = a) (hb : y.toInt = b) (hd : decode c.code pc = .ok (.if_icmp .lt o, 3)) (ho : 0 ≤ (pc : Int) + o) (hp : ((pc : Int) + o).toNat = pc') {pc2 : Nat} (hp2 : pc + 3 = pc2)
    (kt : a < b → OGoes p e s below Q n0 C N T (mkF m pc' Ls st)) (kf : ¬ a < b → OGoes p e s below Q n0 C N T (mkF m pc2 Ls st)) : OGoes p e s below Q n0 C N T (mkF m pc Ls (.int y :: .int x :: st)) := by
  subst ha hb hp2
  have hw : x < y ↔ x.toInt < y.toInt := Int32.lt_iff_toInt_lt
  by_cases hq : x < y
  · exact (kt (hw.mp hq)).go fun _ q => XS.icmpYes X.here hx rfl rfl hd rfl (XT.ii_lt_t hq) ho hp q
  · exact (kf fun z => hq (hw.mpr z)).go fun _ q => XS.icmpNo X.here hx rfl hd rfl (XT.ii_lt_f hq) q
theorem g_ll_lt (X : Stand p l e R s m args below meth c T locs cells slots) (hx : p.tables.exec = Jvm.exec) {o : Int} {x y : Int64} {a b : Int} (ha : x.toInt = a) (hb : y.toInt = b) (hd1 : decode c.code pc = .ok (.lcmp, 1)) {pc1 : Nat} (hp1 : pc + 1 = pc1) (hd : decode c.code pc1 = .ok (.ifCond .lt o, 3)) (ho : 0 ≤ (pc1 : Int) + o) (hp : ((pc1 : Int) + o).toNat = pc') {pc2 : Nat} (hp2 : pc1 + 3 = pc2)
    (kt : a < b → OGoes p e s below Q n0 C N T (mkF m pc' Ls st)) (kf : ¬ a < b → OGoes p e s below Q n0 C N T (mkF m pc2 Ls st)) : OGoes p e s below Q n0 C N T (mkF m pc Ls (.long y :: .long x :: st)) := by
  subst ha hb hp1 hp2
  refine OGoes.go (g' := mkF m (pc + 1) Ls (.int (XT.cmpL x y) :: st)) (fun _ q => XT.lcmp X.here hx rfl hd1 rfl q) ?_
  have hw : x < y ↔ x.toInt < y.toInt := Int64.lt_iff_toInt_lt
  by_cases hq : x < y
  · exact (kt (hw.mp hq)).go fun _ q => XS.ifYes X.here hx rfl rfl hd rfl (XT.ll_lt_t hq) ho hp q
  · exact (kf fun z => hq (hw.mpr z)).go fun _ q => XS.ifNo X.here hx rfl hd rfl (XT.ll_lt_f hq) q
theorem g_i0_lt (X : Stand p l e R s m args below meth c T locs cells slots) (hx : p.tables.exec = Jvm.exec) {o : Int} {x : Int32} {a : Int} (ha : x.toInt = a) (hd : decode c.code pc = .ok (.ifCond .lt o, 3)) (ho : 0 ≤ (pc : Int) + o) (hp : ((pc : Int) + o).toNat = pc') {pc2 : Nat} (hp2 : pc + 3 = pc2)
    (kt : a < 0 → OGoes p e s below Q n0 C N T (mkF m pc' Ls st)) (kf : ¬ a < 0 → OGoes p e s below Q n0 C N T (mkF m pc2 Ls st)) : OGoes p e s below Q n0 C N T (mkF m pc Ls (.int x :: st)) := by
  subst ha hp2
  have hw : x < 0 ↔ x.toInt < 0 := Int32.lt_iff_toInt_lt
  by_cases hq : x < 0
  · exact (kt (hw.mp hq)).go fun _ q => XS.ifYes X.here hx rfl rfl hd rfl (XT.i0_lt_t hq) ho hp q
  · exact (kf fun z => hq (hw.mpr z)).go fun _ q => XS.ifNo X.here hx rfl hd rfl (XT.i0_lt_f hq) q
theorem g_ii_ge (X : Stand p l e R s m args below meth c T locs cells slots) (hx : p.tables.exec = Jvm.exec) {o : Int} {x y : Int32} {a b : Int} (ha : x.toInt = a) (hb : y.toInt = b) (hd : decode c.code pc = .ok (.if_icmp .ge o, 3)) (ho : 0 ≤ (pc : Int) + o) (hp : ((pc : Int) + o).toNat = pc') {pc2 : Nat} (hp2 : pc + 3 = pc2)
    (kt : ¬ a < b → OGoes p e s below Q n0 C N T (mkF m pc' Ls st)) (kf : a < b → OGoes p e s below Q n0 C N T (mkF m pc2 Ls st)) : OGoes p e s below Q n0 C N T (mkF m pc Ls (.int y :: .int x :: st)) := by
  subst ha hb hp2
  have hw : x < y ↔ x.toInt < y.toInt := Int32.lt_iff_toInt_lt
  by_cases hq : x < y
  · exact (kf (hw.mp hq)).go fun _ q => XS.icmpNo X.here hx rfl hd rfl (XT.ii_ge_f hq) q
  · exact (kt fun z => hq (hw.mpr z)).go fun _ q => XS.icmpYes X.here hx rfl rfl hd rfl (XT.ii_ge_t hq) ho hp q
theorem g_ll_ge (X : Stand p l e R s m args below meth c T locs cells slots) (hx : p.tables.exec = Jvm.exec) {o : Int} {x y : Int64} {a b : Int} (ha : x.toInt = a) (hb : y.toInt = b) (hd1 : decode c.code pc = .ok (.lcmp, 1)) {pc1 : Nat} (hp1 : pc + 1 = pc1) (hd : decode c.code pc1 = .ok (.ifCond .ge o, 3)) (ho : 0 ≤ (pc1 : Int) + o) (hp : ((pc1 : Int) + o).toNat = pc') {pc2 : Nat} (hp2 : pc1 + 3 = pc2)
    (kt : ¬ a < b → OGoes p e s below Q n0 C N T (mkF m pc' Ls st)) (kf : a < b → OGoes p e s below Q n0 C N T (mkF m pc2 Ls st)) : OGoes p e s below Q n0 C N T (mkF m pc Ls (.long y :: .long x :: st)) := by
  subst ha hb hp1 hp2
  refine OGoes.go (g' := mkF m (pc + 1) Ls (.int (XT.cmpL x y) :: st)) (fun _ q => XT.lcmp X.here hx rfl hd1 rfl q) ?_
  have hw : x < y ↔ x.toInt < y.toInt := Int64.lt_iff_toInt_lt
  by_cases hq : x < y
  · exact (kf (hw.mp hq)).go fun _ q => XS.ifNo X.here hx rfl hd rfl (XT.ll_ge_f hq) q
  · exact (kt fun z => hq (hw.mpr z)).go fun _ q => XS.ifYes X.here hx rfl rfl hd rfl (XT.ll_ge_t hq) ho hp q
theorem g_i0_ge (X : Stand p l e R s m args below meth c T locs cells slots) (hx : p.tables.exec = Jvm.exec) {o : Int} {x : Int32} {a : Int} (ha : x.toInt = a) (hd : decode c.code pc = .ok (.ifCond .ge o, 3)) (ho : 0 ≤ (pc : Int) + o) (hp : ((pc : Int) + o).toNat = pc') {pc2 : Nat} (hp2 : pc + 3 = pc2)
    (kt : ¬ a < 0 → OGoes p e s below Q n0 C N T (mkF m pc' Ls st)) (kf : a < 0 → OGoes p e s below Q n0 C N T (mkF m pc2 Ls st)) : OGoes p e s below Q n0 C N T (mkF m pc Ls (.int x :: st)) := by
  subst ha hp2
  have hw : x < 0 ↔ x.toInt < 0 := Int32.lt_iff_toInt_lt
  by_cases hq : x < 0
  · exact (kf (hw.mp hq)).go fun _ q => XS.ifNo X.here hx rfl hd rfl (XT.i0_ge_f hq) q
  · exact (kt fun z => hq (hw.mpr z)).go fun _ q => XS.ifYes X.here hx rfl rfl hd rfl (XT.i0_ge_t hq) ho hp q
theorem g_ii_gt (X : Stand p l e R s m args below meth c T locs cells slots) (hx : p.tables.exec = Jvm.exec) {o : Int} {x y : Int32} {a b : Int} (ha : x.toInt = a) (hb : y.toInt = b) (hd : decode c.code pc = .ok (.if_icmp .gt o, 3)) (ho : 0 ≤ (pc : Int) + o) (hp : ((pc : Int) + o).toNat = pc') {pc2 : Nat} (hp2 : pc + 3 = pc2)
    (kt : b < a → OGoes p e s below Q n0 C N T (mkF m pc' Ls st)) (kf : ¬ b < a → OGoes p e s below Q n0 C N T (mkF m pc2 Ls st)) : OGoes p e s below Q n0 C N T (mkF m pc Ls (.int y :: .int x :: st)) := by
  subst ha hb hp2
  have hw : y < x ↔ y.toInt < x.toInt := Int32.lt_iff_toInt_lt
  by_cases hq : y < x
  · exact (kt (hw.mp hq)).go fun _ q => XS.icmpYes X.here hx rfl rfl hd rfl (XT.ii_gt_t hq) ho hp q
  · exact (kf fun z => hq (hw.mpr z)).go fun _ q => XS.icmpNo X.here hx rfl hd rfl (XT.ii_gt_f hq) q
theorem g_ll_gt (X : Stand p l e R s m args below meth c T locs cells slots) (hx : p.tables.exec = Jvm.exec) {o : Int} {x y : Int64} {a b : Int} (ha : x.toInt = a) (hb : y.toInt = b) (hd1 : decode c.code pc = .ok (.lcmp, 1)) {pc1 : Nat} (hp1 : pc + 1 = pc1) (hd : decode c.code pc1 = .ok (.ifCond .gt o, 3)) (ho : 0 ≤ (pc1 : Int) + o) (hp : ((pc1 : Int) + o).toNat = pc') {pc2 : Nat} (hp2 : pc1 + 3 = pc2)
    (kt : b < a → OGoes p e s below Q n0 C N T (mkF m pc' Ls st)) (kf : ¬ b < a → OGoes p e s below Q n0 C N T (mkF m pc2 Ls st)) : OGoes p e s below Q n0 C N T (mkF m pc Ls (.long y :: .long x :: st)) := by
  subst ha hb hp1 hp2
  refine OGoes.go (g' := mkF m (pc + 1) Ls (.int (XT.cmpL x y) :: st)) (fun _ q => XT.lcmp X.here hx rfl hd1 rfl q) ?_
  have hw : y < x ↔ y.toInt < x.toInt := Int64.lt_iff_toInt_lt
  by_cases hq : y < x
  · exact (kt (hw.mp hq)).go fun _ q => XS.ifYes X.here hx rfl rfl hd rfl (XT.ll_gt_t hq) ho hp q
  · exact (kf fun z => hq (hw.mpr z)).go fun _ q => XS.ifNo X.here hx rfl hd rfl (XT.ll_gt_f hq) q
theorem g_i0_gt (X : Stand p l e R s m args below meth c T locs cells slots) (hx : p.tables.exec = Jvm.exec) {o : Int} {x : Int32} {a : Int} (ha : x.toInt = a) (hd : decode c.code pc = .ok (.ifCond .gt o, 3)) (ho : 0 ≤ (pc : Int) + o) (hp : ((pc : Int) + o).toNat = pc') {pc2 : Nat} (hp2 : pc + 3 = pc2)
    (kt : 0 < a → OGoes p e s below Q n0 C N T (mkF m pc' Ls st)) (kf : ¬ 0 < a → OGoes p e s below Q n0 C N T (mkF m pc2 Ls st)) : OGoes p e s below Q n0 C N T (mkF m pc Ls (.int x :: st)) := by
  subst ha hp2
  have hw : 0 < x ↔ 0 < x.toInt := Int32.lt_iff_toInt_lt
  by_cases hq : 0 < x
  · exact (kt (hw.mp hq)).go fun _ q => XS.ifYes X.here hx rfl rfl hd rfl (XT.i0_gt_t hq) ho hp q
  · exact (kf fun z => hq (hw.mpr z)).go fun _ q => XS.ifNo X.here hx rfl hd rfl (XT.i0_gt_f hq) q
theorem g_ii_le (X : Stand p l e R s m args below meth c T locs cells slots) (hx : p.tables.exec = Jvm.exec) {o : Int} {x y : Int32} {a b : Int} (ha : x.toInt = a) (hb : y.toInt = b) (hd : decode c.code pc = .ok (.if_icmp .le o, 3)) (ho : 0 ≤ (pc : Int) + o) (hp : ((pc : Int) + o).toNat = pc') {pc2 : Nat} (hp2 : pc + 3 = pc2)
    (kt : ¬ b < a → OGoes p e s below Q n0 C N T (mkF m pc' Ls st)) (kf : b < a → OGoes p e s below Q n0 C N T (mkF m pc2 Ls st)) : OGoes p e s below Q n0 C N T (mkF m pc Ls (.int y :: .int x :: st)) := by
  subst ha hb hp2
  have hw : y < x ↔ y.toInt < x.toInt := Int32.lt_iff_toInt_lt
  by_cases hq : y < x
  · exact (kf (hw.mp hq)).go fun _ q => XS.icmpNo X.here hx rfl hd rfl (XT.ii_le_f hq) q
  · exact (kt fun z => hq (hw.mpr z)).go fun _ q => XS.icmpYes X.here hx rfl rfl hd rfl (XT.ii_le_t hq) ho hp q
theorem g_ll_le (X : Stand p l e R s m args below meth c T locs cells slots) (hx : p.tables.exec = Jvm.exec) {o : Int} {x y : Int64} {a b : Int} (ha : x.toInt = a) (hb : y.toInt = b) (hd1 : decode c.code pc = .ok (.lcmp, 1)) {pc1 : Nat} (hp1 : pc + 1 = pc1) (hd : decode c.code pc1 = .ok (.ifCond .le o, 3)) (ho : 0 ≤ (pc1 : Int) + o) (hp : ((pc1 : Int) + o).toNat = pc') {pc2 : Nat} (hp2 : pc1 + 3 = pc2)
    (kt : ¬ b < a → OGoes p e s below Q n0 C N T (mkF m pc' Ls st)) (kf : b < a → OGoes p e s below Q n0 C N T (mkF m pc2 Ls st)) : OGoes p e s below Q n0 C N T (mkF m pc Ls (.long y :: .long x :: st)) := by
  subst ha hb hp1 hp2
  refine OGoes.go (g' := mkF m (pc + 1) Ls (.int (XT.cmpL x y) :: st)) (fun _ q => XT.lcmp X.here hx rfl hd1 rfl q) ?_
  have hw : y < x ↔ y.toInt < x.toInt := Int64.lt_iff_toInt_lt
  by_cases hq : y < x
  · exact (kf (hw.mp hq)).go fun _ q => XS.ifNo X.here hx rfl hd rfl (XT.ll_le_f hq) q
  · exact (kt fun z => hq (hw.mpr z)).go fun _ q => XS.ifYes X.here hx rfl rfl hd rfl (XT.ll_le_t hq) ho hp q
theorem g_i0_le (X : Stand p l e R s m args below meth c T locs cells slots) (hx : p.tables.exec = Jvm.exec) {o : Int} {x : Int32} {a : Int} (ha : x.toInt = a) (hd : decode c.code pc = .ok (.ifCond .le o, 3)) (ho : 0 ≤ (pc : Int) + o) (hp : ((pc : Int) + o).toNat = pc') {pc2 : Nat} (hp2 : pc + 3 = pc2)
    (kt : ¬ 0 < a → OGoes p e s below Q n0 C N T (mkF m pc' Ls st)) (kf : 0 < a → OGoes p e s below Q n0 C N T (mkF m pc2 Ls st)) : OGoes p e s below Q n0 C N T (mkF m pc Ls (.int x :: st)) := by
  subst ha hp2
  have hw : 0 < x ↔ 0 < x.toInt := Int32.lt_iff_toInt_lt
  by_cases hq : 0 < x
  · exact (kf (hw.mp hq)).go fun _ q => XS.ifNo X.here hx rfl hd rfl (XT.i0_le_f hq) q
  · exact (kt fun z => hq (hw.mpr z)).go fun _ q => XS.ifYes X.here hx rfl rfl hd rfl (XT.i0_le_t hq) ho hp q
theorem g_ifnullYes (X : Stand p l e R s m args below meth c T locs cells slots) (hx : p.tables.exec = Jvm.exec) {o : Int} (hd : decode c.code pc = .ok (.ifnull o, 3)) (ho : 0 ≤ (pc : Int) + o) (hp : ((pc : Int) + o).toNat = pc')
    (k : OGoes p e s below Q n0 C N T (mkF m pc' Ls st)) : OGoes p e s below Q n0 C N T (mkF m pc Ls (.null :: st)) := k.go fun _ q => XS.ifnullYes X.here hx rfl rfl hd rfl ho hp q
theorem g_ifnullNo (X : Stand p l e R s m args below meth c T locs cells slots) (hx : p.tables.exec = Jvm.exec) {o : Int} {b : Addr} (hd : decode c.code pc = .ok (.ifnull o, 3)) (hp : pc + 3 = pc')
    (k : OGoes p e s below Q n0 C N T (mkF m pc' Ls st)) : OGoes p e s below Q n0 C N T (mkF m pc Ls (.ref b :: st)) := by
  subst hp; exact k.go fun _ q => XS.ifnullNo X.here hx rfl hd rfl q
theorem g_ifnonnullYes (X : Stand p l e R s m args below meth c T locs cells slots) (hx : p.tables.exec = Jvm.exec) {o : Int} {b : Addr} (hd : decode c.code pc = .ok (.ifnonnull o, 3)) (ho : 0 ≤ (pc : Int) + o) (hp : ((pc : Int) + o).toNat = pc')
    (k : OGoes p e s below Q n0 C N T (mkF m pc' Ls st)) : OGoes p e s below Q n0 C N T (mkF m pc Ls (.ref b :: st)) := k.go fun _ q => XT.ifnonnullYes X.here hx rfl rfl hd rfl ho hp q
theorem IA.lt {h : Heap} {a n : Nat} {f : Nat → Int32} (F : IA Z h a n f) : a < h.size := by obtain ⟨_, c, A, -⟩ := F; exact A.lt
theorem IA.ext {h h' : Heap} {a n : Nat} {f : Nat → Int32} (F : IA Z h a n f) (E : Ext h h') : IA Z h' a n f := by obtain ⟨q, c, A, r⟩ := F; exact ⟨q, c, A.ext E, r⟩
theorem IA.keep {h h' : Heap} {a n : Nat} {f : Nat → Int32} {ws : List Addr} (F : IA Z h a n f) (K : Keep h h' ws) (q : a ∉ ws) : IA Z h' a n f := by obtain ⟨q', c, A, r⟩ := F; exact ⟨q', c, ⟨K.2.1 a c A.1 q, A.2⟩, r⟩
theorem IA.other {h h' : Heap} {a b n sl : Nat} {f : Nat → Int32} {v : Value} (F : IA Z h b n f) (W : Wr h h' a sl v) (q : b ≠ a) : IA Z h' b n f := by obtain ⟨q', c, A, r⟩ := F; exact ⟨q', c, A.other W q, r⟩
theorem IA.congr {h : Heap} {a n : Nat} {f f' : Nat → Int32} (F : IA Z h a n f) (q : ∀ i, i < n → f i = f' i) : IA Z h a n f' := by obtain ⟨q', c, A, r, s⟩ := F; exact ⟨q', c, A, r, fun i hi => by rw [← q i hi]; exact s i hi⟩
theorem g_iaload (X : Stand p l e R s m args below meth c T locs cells slots) (hx : p.tables.exec = Jvm.exec) (hZ : Z.Warmed39 s.vm) (eT : T.heap = h) {a n k : Nat} {f : Nat → Int32} {j : Int32} (F : IA Z h a n f) (hj : j.toInt = (k : Int)) (hk : k < n) (hd : decode c.code pc = .ok (.iaload, 1)) (hp : pc + 1 = pc')
    (kk : OGoes p e s below Q n0 C N T (mkF m pc' Ls (.int (f k) :: st))) : OGoes p e s below Q n0 C N T (mkF m pc Ls (.int j :: .ref a :: st)) := by
  subst hp; obtain ⟨-, cl, A, S, H⟩ := F
  exact kk.go fun t q => X.iaload hx (by rw [eT]; exact A.1) (State.isArrayOf_alike hZ.alike A.2.1) A.2.2 (by rw [S]; exact nin hj hk) (by rw [(nclamp hj).1]; exact H k hk) (g := mkF m pc Ls (.int j :: .ref a :: st)) rfl rfl hd t q
theorem g_lenIA (X : Stand p l e R s m args below meth c T locs cells slots) (hx : p.tables.exec = Jvm.exec) (hZ : Z.Warmed39 s.vm) (eT : T.heap = h) {a n : Nat} {f : Nat → Int32} {z : Int32} (F : IA Z h a n f) (hz : z.toInt = (n : Int)) (hd : decode c.code pc = .ok (.arraylength, 1)) (hp : pc + 1 = pc')
    (kk : OGoes p e s below Q n0 C N T (mkF m pc' Ls (.int z :: st))) : OGoes p e s below Q n0 C N T (mkF m pc Ls (.ref a :: st)) := by
  subst hp; obtain ⟨hn, cl, A, S, H⟩ := F
  have hzz : z = cl.slots.size.toInt32 := Int32.toInt_inj.mp (by rw [S, hz, len32 hn])
  subst hzz
  exact kk.go fun t q => X.arraylength hx (by rw [eT]; exact A.1) (State.isArrayOf_alike hZ.alike A.2.1) (g := mkF m pc Ls (.ref a :: st)) rfl rfl hd t q
theorem g_iastore (X : Stand p l e R s m args below meth c T locs cells slots) (hx : p.tables.exec = Jvm.exec) (hZ : Z.Warmed39 s.vm) (eT : T.heap = h) {a n k : Nat} {f : Nat → Int32} {j : Int32} {x : Int32} (F : IA Z h a n f) (hj : j.toInt = (k : Int)) (hk : k < n) (hN : Fr n0 locs) (ha : n0 ≤ a) (hd : decode c.code pc = .ok (.iastore, 1)) (hp : pc + 1 = pc')
    (kk : ∀ T' h' locs', Stand p l e R s m args below meth c T' locs' cells slots → T'.heap = h' → Wr h h' a k (.int x) → Fr n0 locs' → IA Z h' a n (oupd f k x) → OGoes p e s below Q n0 C N T' (mkF m pc' Ls st)) : OGoes p e s below Q n0 C N T (mkF m pc Ls (.int x :: .int j :: .ref a :: st)) := by
  subst hp; obtain ⟨hn, cl, A, S, H⟩ := F
  obtain ⟨T', h', X', e', W', st'⟩ := stI X hx hZ eT A (j := j) (x := x) (by rw [S]; exact nin hj hk) (g := mkF m pc Ls (.int x :: .int j :: .ref a :: st)) rfl rfl hd
  rw [(nclamp hj).1] at W' X'
  refine (kk T' h' _ X' e' W' (Fr.snoc X' hN ha) ⟨hn, _, A.same W', by rw [sz_set]; exact S, fun i hi => ?_⟩).go st'
  by_cases q : i = k
  · subst q; simp [Cell.setSlot, oupd, S, hi]
  · have := H i hi
    simp only [Cell.setSlot, oupd, q, if_false]
    rw [Array.getElem?_setIfInBounds_ne (fun z => q z.symm)]; exact this
theorem g_newIA (X : Stand p l e R s m args below meth c T locs cells slots) (hx : p.tables.exec = Jvm.exec) (hZ : Z.Warmed39 s.vm) (w : (Cond.arrayClass .int).before a0 Z = true) (eT : T.heap = h) {z : Int32} {n : Nat} (hz : z.toInt = (n : Int)) {cap : Nat} (hcap : n ≤ cap) (hb : cap * 8 ≤ 536870912) (hd : decode c.code pc = .ok (.newarray .int, 2)) (hc : cells + 1 ≤ R.cells) (hl : slots + cap ≤ R.slots) (hp : pc + 2 = pc')
    (kk : ∀ T' h' a, a = h.size → Stand p l e R s m args below meth c T' locs (cells + 1) (slots + cap) → T'.heap = h' → Ext h h' → a < h'.size → IA Z h' a n zeroI → OGoes p e s below Q n0 C N T' (mkF m pc' Ls (.ref a :: st))) : OGoes p e s below Q n0 C N T (mkF m pc Ls (.int z :: st)) := by
  subst hp
  obtain ⟨q1, q2⟩ := nclamp hz
  obtain ⟨T', h', cA, X', e', E', A', st'⟩ := newP X hx hZ (aty := .int) w eT (g := mkF m pc Ls (.int z :: st)) rfl hd (n := z) rfl q2 (cap := cap) (by rw [q1]; exact hcap) hb hc hl
  refine (kk T' h' h.size rfl X' e' E' A'.lt ⟨?_, _, A', by rw [sz_new, q1], fun i hi => ?_⟩).go st'
  · have := z.toInt_lt; omega
  · simp only [newA, q1]; simp [hi]; rfl
theorem LA.lt {h : Heap} {a n : Nat} {f : Nat → Int64} (F : LA Z h a n f) : a < h.size := by obtain ⟨_, c, A, -⟩ := F; exact A.lt
theorem LA.ext {h h' : Heap} {a n : Nat} {f : Nat → Int64} (F : LA Z h a n f) (E : Ext h h') : LA Z h' a n f := by obtain ⟨q, c, A, r⟩ := F; exact ⟨q, c, A.ext E, r⟩
theorem LA.keep {h h' : Heap} {a n : Nat} {f : Nat → Int64} {ws : List Addr} (F : LA Z h a n f) (K : Keep h h' ws) (q : a ∉ ws) : LA Z h' a n f := by obtain ⟨q', c, A, r⟩ := F; exact ⟨q', c, ⟨K.2.1 a c A.1 q, A.2⟩, r⟩
theorem LA.other {h h' : Heap} {a b n sl : Nat} {f : Nat → Int64} {v : Value} (F : LA Z h b n f) (W : Wr h h' a sl v) (q : b ≠ a) : LA Z h' b n f := by obtain ⟨q', c, A, r⟩ := F; exact ⟨q', c, A.other W q, r⟩
theorem LA.congr {h : Heap} {a n : Nat} {f f' : Nat → Int64} (F : LA Z h a n f) (q : ∀ i, i < n → f i = f' i) : LA Z h a n f' := by obtain ⟨q', c, A, r, s⟩ := F; exact ⟨q', c, A, r, fun i hi => by rw [← q i hi]; exact s i hi⟩
theorem g_laload (X : Stand p l e R s m args below meth c T locs cells slots) (hx : p.tables.exec = Jvm.exec) (hZ : Z.Warmed39 s.vm) (eT : T.heap = h) {a n k : Nat} {f : Nat → Int64} {j : Int32} (F : LA Z h a n f) (hj : j.toInt = (k : Int)) (hk : k < n) (hd : decode c.code pc = .ok (.laload, 1)) (hp : pc + 1 = pc')
    (kk : OGoes p e s below Q n0 C N T (mkF m pc' Ls (.long (f k) :: st))) : OGoes p e s below Q n0 C N T (mkF m pc Ls (.int j :: .ref a :: st)) := by
  subst hp; obtain ⟨-, cl, A, S, H⟩ := F
  exact kk.go fun t q => X.laload hx (by rw [eT]; exact A.1) (State.isArrayOf_alike hZ.alike A.2.1) A.2.2 (by rw [S]; exact nin hj hk) (by rw [(nclamp hj).1]; exact H k hk) (g := mkF m pc Ls (.int j :: .ref a :: st)) rfl rfl hd t q
theorem g_lenLA (X : Stand p l e R s m args below meth c T locs cells slots) (hx : p.tables.exec = Jvm.exec) (hZ : Z.Warmed39 s.vm) (eT : T.heap = h) {a n : Nat} {f : Nat → Int64} {z : Int32} (F : LA Z h a n f) (hz : z.toInt = (n : Int)) (hd : decode c.code pc = .ok (.arraylength, 1)) (hp : pc + 1 = pc')
    (kk : OGoes p e s below Q n0 C N T (mkF m pc' Ls (.int z :: st))) : OGoes p e s below Q n0 C N T (mkF m pc Ls (.ref a :: st)) := by
  subst hp; obtain ⟨hn, cl, A, S, H⟩ := F
  have hzz : z = cl.slots.size.toInt32 := Int32.toInt_inj.mp (by rw [S, hz, len32 hn])
  subst hzz
  exact kk.go fun t q => X.arraylength hx (by rw [eT]; exact A.1) (State.isArrayOf_alike hZ.alike A.2.1) (g := mkF m pc Ls (.ref a :: st)) rfl rfl hd t q
theorem g_lastore (X : Stand p l e R s m args below meth c T locs cells slots) (hx : p.tables.exec = Jvm.exec) (hZ : Z.Warmed39 s.vm) (eT : T.heap = h) {a n k : Nat} {f : Nat → Int64} {j : Int32} {x : Int64} (F : LA Z h a n f) (hj : j.toInt = (k : Int)) (hk : k < n) (hN : Fr n0 locs) (ha : n0 ≤ a) (hd : decode c.code pc = .ok (.lastore, 1)) (hp : pc + 1 = pc')
    (kk : ∀ T' h' locs', Stand p l e R s m args below meth c T' locs' cells slots → T'.heap = h' → Wr h h' a k (.long x) → Fr n0 locs' → LA Z h' a n (oupd f k x) → OGoes p e s below Q n0 C N T' (mkF m pc' Ls st)) : OGoes p e s below Q n0 C N T (mkF m pc Ls (.long x :: .int j :: .ref a :: st)) := by
  subst hp; obtain ⟨hn, cl, A, S, H⟩ := F
  obtain ⟨T', h', X', e', W', st'⟩ := stJ X hx hZ eT A (j := j) (x := x) (by rw [S]; exact nin hj hk) (g := mkF m pc Ls (.long x :: .int j :: .ref a :: st)) rfl rfl hd
  rw [(nclamp hj).1] at W' X'
  refine (kk T' h' _ X' e' W' (Fr.snoc X' hN ha) ⟨hn, _, A.same W', by rw [sz_set]; exact S, fun i hi => ?_⟩).go st'
  by_cases q : i = k
  · subst q; simp [Cell.setSlot, oupd, S, hi]
  · have := H i hi
    simp only [Cell.setSlot, oupd, q, if_false]
    rw [Array.getElem?_setIfInBounds_ne (fun z => q z.symm)]; exact this
theorem g_newLA (X : Stand p l e R s m args below meth c T locs cells slots) (hx : p.tables.exec = Jvm.exec) (hZ : Z.Warmed39 s.vm) (w : (Cond.arrayClass .long).before a0 Z = true) (eT : T.heap = h) {z : Int32} {n : Nat} (hz : z.toInt = (n : Int)) {cap : Nat} (hcap : n ≤ cap) (hb : cap * 8 ≤ 536870912) (hd : decode c.code pc = .ok (.newarray .long, 2)) (hc : cells + 1 ≤ R.cells) (hl : slots + cap ≤ R.slots) (hp : pc + 2 = pc')
    (kk : ∀ T' h' a, a = h.size → Stand p l e R s m args below meth c T' locs (cells + 1) (slots + cap) → T'.heap = h' → Ext h h' → a < h'.size → LA Z h' a n zeroL → OGoes p e s below Q n0 C N T' (mkF m pc' Ls (.ref a :: st))) : OGoes p e s below Q n0 C N T (mkF m pc Ls (.int z :: st)) := by
  subst hp
  obtain ⟨q1, q2⟩ := nclamp hz
  obtain ⟨T', h', cA, X', e', E', A', st'⟩ := newP X hx hZ (aty := .long) w eT (g := mkF m pc Ls (.int z :: st)) rfl hd (n := z) rfl q2 (cap := cap) (by rw [q1]; exact hcap) hb hc hl
  refine (kk T' h' h.size rfl X' e' E' A'.lt ⟨?_, _, A', by rw [sz_new, q1], fun i hi => ?_⟩).go st'
  · have := z.toInt_lt; omega
  · simp only [newA, q1]; simp [hi]; rfl
theorem g_newIAE (X : Stand p l e R s m args below meth c T locs cells slots) (hx : p.tables.exec = Jvm.exec) (hZ : Z.Warmed39 s.vm) (w : (Cond.arrayClass .int).before a0 Z = true) (eT : T.heap = h) {z : Int32} {n : Nat} (hz : z.toInt = (n : Int)) {cap : Nat} (hcap : n ≤ cap) (hb : cap * 8 ≤ 536870912) (hd : decode c.code pc = .ok (.newarray .int, 2)) (hc : cells + 1 ≤ R.cells) (hl : slots + cap ≤ R.slots) (hp : pc + 2 = pc')
    (kk : ∀ T' h' a, a = h.size → Stand p l e R s m args below meth c T' locs (cells + 1) (slots + cap) → T'.heap = h' → Ext h h' → a < h'.size → IA Z h' a n zeroI → Exa Z h' a "[I" → OGoes p e s below Q n0 C N T' (mkF m pc' Ls (.ref a :: st))) : OGoes p e s below Q n0 C N T (mkF m pc Ls (.int z :: st)) := by
  subst hp
  obtain ⟨q1, q2⟩ := nclamp hz
  obtain ⟨T', h', cA, X', e', E', A', EE, st'⟩ := newPE X hx hZ (aty := .int) w eT (g := mkF m pc Ls (.int z :: st)) rfl hd (n := z) rfl q2 (cap := cap) (by rw [q1]; exact hcap) hb hc hl (ad := "[I") (by decide)
  refine (kk T' h' h.size rfl X' e' E' A'.lt ⟨?_, _, A', by rw [sz_new, q1], fun i hi => ?_⟩ EE).go st'
  · have := z.toInt_lt; omega
  · simp only [newA, q1]; simp [hi]; rfl
theorem g_cloneIA (X : Stand p l e R s m args below meth c T locs cells slots) (hx : p.tables.exec = Jvm.exec) (hZ : Z.Warmed39 s.vm) {own : String} {i : Nat} (hown : s.vm.findClass own = some m.cls) (w1 : (Cond.methodLink own i ⟨"[I", "clone", "()Ljava/lang/Object;"⟩).before a0 Z = true) (w2 : (Cond.sameMethod "[I" "java/lang/Object" "clone" "()Ljava/lang/Object;").before a0 Z = true) (w3 : (Cond.native ⟨"java/lang/Object", "clone", "()Ljava/lang/Object;"⟩).before a0 Z = true)
    (w4 : (Cond.instanceMethod ⟨"java/lang/Object", "clone", "()Ljava/lang/Object;"⟩).before a0 Z = true) (w5 : (Cond.selects "[I" ⟨"[I", "clone", "()Ljava/lang/Object;"⟩ ⟨"java/lang/Object", "clone", "()Ljava/lang/Object;"⟩).before a0 Z = true) (w6 : (Cond.castable "[I" "java/lang/Cloneable").before a0 Z = true)
    (eT : T.heap = h) {a n : Nat} {f : Nat → Int32} (F : IA Z h a n f) (E : Exa Z h a "[I") (hsz : Ls.size = c.maxLocals) (hd : decode c.code pc = .ok (.invokevirtual i, 3)) (hf : 1 ≤ R.frames) {W cap : Nat} (hW : (st.map fun v => v.category).sum ≤ W) (hl : W + 14 ≤ R.locals) (hcap : n ≤ cap) (hc : cells + 1 ≤ R.cells) (hsl : slots + cap ≤ R.slots) (hp : pc + 3 = pc')
    (kk : ∀ T' h' b, b = h.size → Stand p l e R s m args below meth c T' locs (cells + 1) (slots + cap) → T'.heap = h' → Ext h h' → b < h'.size → IA Z h' b n f → Exa Z h' b "[I" → OGoes p e s below Q n0 C N T' (mkF m pc' Ls (.ref b :: st))) : OGoes p e s below Q n0 C N T (mkF m pc Ls (.ref a :: st)) := by
  subst hp
  obtain ⟨hn, cl, A, S, H⟩ := F
  have FC : FitC Z cl := fitC_of A fun i hi v hv => by rw [H i (by rw [← S]; exact hi)] at hv; cases hv; rfl
  obtain ⟨T', h', X', e', ex, A', E', st'⟩ := cloneA X hx hZ hown w1 w2 w3 w4 w5 w6 eT A E FC (g := mkF m pc Ls (.ref a :: st)) rfl hsz rfl hd hf (W := W) (cap := cap) (by show 2 * 0 + _ ≤ _; omega) hl (by rw [S]; exact hcap) hc hsl
  exact (kk T' h' h.size rfl X' e' ex A'.lt ⟨hn, _, A', S, H⟩ E').go st'
theorem g_cast (X : Stand p l e R s m args below meth c T locs cells slots) (hx : p.tables.exec = Jvm.exec) (hZ : Z.Warmed39 s.vm) {own K : String} {i : Nat} (hown : s.vm.findClass own = some m.cls) (w : (Cond.classLink own i K).before a0 Z = true) (eT : T.heap = h) {a : Addr} (F : Exa Z h a K) (hd : decode c.code pc = .ok (.checkcast i, 3)) (hp : pc + 3 = pc')
    (k : ∀ T', Stand p l e R s m args below meth c T' locs cells slots → T'.heap = h → OGoes p e s below Q n0 C N T' (mkF m pc' Ls (.ref a :: st))) : OGoes p e s below Q n0 C N T (mkF m pc Ls (.ref a :: st)) := by
  subst hp
  obtain ⟨T', X', e', st'⟩ := castY X hx hZ hown w eT (Ins.self F) (g := mkF m pc Ls (.ref a :: st)) rfl rfl hd
  exact (k T' X' e').go st'
theorem g_lswHit (X : Stand p l e R s m args below meth c T locs cells slots) (hx : p.tables.exec = Jvm.exec) {x : Int32} {dflt : Int} {prs : Array (Int × Int)} {len : Nat} (hd : decode c.code pc = .ok (.lookupswitch dflt prs, len)) (hsorted : (prs.toList.zip (prs.toList.drop 1)).all (fun (a, next) => a.1 < next.1) = true) {a off : Int} (hfind : prs.find? (·.1 == x.toInt) = some (a, off)) (ho : 0 ≤ (pc : Int) + off) (hp : ((pc : Int) + off).toNat = pc')
    (k : OGoes p e s below Q n0 C N T (mkF m pc' Ls st)) : OGoes p e s below Q n0 C N T (mkF m pc Ls (.int x :: st)) := by
  subst hp; exact k.go fun t q => X.lookupswitchHit hx (g := mkF m pc Ls (.int x :: st)) rfl rfl hd hsorted hfind ho t q
theorem g_lswMiss (X : Stand p l e R s m args below meth c T locs cells slots) (hx : p.tables.exec = Jvm.exec) {x : Int32} {dflt : Int} {prs : Array (Int × Int)} {len : Nat} (hd : decode c.code pc = .ok (.lookupswitch dflt prs, len)) (hsorted : (prs.toList.zip (prs.toList.drop 1)).all (fun (a, next) => a.1 < next.1) = true) (hfind : prs.find? (·.1 == x.toInt) = none) (ho : 0 ≤ (pc : Int) + dflt) (hp : ((pc : Int) + dflt).toNat = pc')
    (k : OGoes p e s below Q n0 C N T (mkF m pc' Ls st)) : OGoes p e s below Q n0 C N T (mkF m pc Ls (.int x :: st)) := by
  subst hp; exact k.go fun t q => X.lookupswitchMiss hx (g := mkF m pc Ls (.int x :: st)) rfl rfl hd hsorted hfind ho t q
theorem g_tsw (X : Stand p l e R s m args below meth c T locs cells slots) (hx : p.tables.exec = Jvm.exec) {x : Int32} {dflt low high : Int} {offs : Array Int} {len : Nat} {o : Int} (hd : decode c.code pc = .ok (.tableswitch dflt low high offs, len)) (hin : ¬ (x.toInt < low ∨ x.toInt > high)) (hoff : offs[(x.toInt - low).toNat]? = some o) (ho : 0 ≤ (pc : Int) + o) (hp : ((pc : Int) + o).toNat = pc')
    (k : OGoes p e s below Q n0 C N T (mkF m pc' Ls st)) : OGoes p e s below Q n0 C N T (mkF m pc Ls (.int x :: st)) := k.go fun _ q => XS.tswIn X.here hx rfl rfl hd rfl hin hoff ho hp q

/-! numbers -/
theorem all_succ {P : Nat → Prop} {i : Nat} (h : ∀ y, y < i → P y) (hi : P i) : ∀ y, y < i + 1 → P y := fun y hy => by
  by_cases q : y = i
  · exact q ▸ hi
  · exact h y (by omega)
theorem oupd_at {A : Type} (f : Nat → A) (j : Nat) (v : A) : oupd f j v j = v := by simp [oupd]
theorem oupd_ne {A : Type} (f : Nat → A) {i j : Nat} (v : A) (q : ¬ i = j) : oupd f j v i = f i := by simp [oupd, q]
theorem i32_of_nat (n : Nat) (hn : n < 2147483648) : (Int32.ofNat n).toInt = (n : Int) := by
  rw [Int32.toInt_ofNat']; have hsz : (Int32.size : Int) = 4294967296 := rfl; exact Int.bmod_eq_of_le (by omega) (by omega)
theorem i32_get {x : Int32} (h : 0 ≤ x.toInt) : ∃ n : Nat, x.toInt = (n : Int) ∧ n < 2147483648 := ⟨x.toInt.toNat, (Int.toNat_of_nonneg h).symm, by have := x.toInt_lt; omega⟩
theorem oupdI (f : Nat → Int32) (j i : Nat) (v : Int32) : i = j ∧ (oupd f j v i).toInt = v.toInt ∨ ¬ i = j ∧ (oupd f j v i).toInt = (f i).toInt := by
  by_cases q : i = j
  · exact Or.inl ⟨q, by simp [oupd, q]⟩
  · exact Or.inr ⟨q, by simp [oupd, q]⟩
theorem oupdL (f : Nat → Int64) (j i : Nat) (v : Int64) : i = j ∧ (oupd f j v i).toInt = v.toInt ∨ ¬ i = j ∧ (oupd f j v i).toInt = (f i).toInt := by
  by_cases q : i = j
  · exact Or.inl ⟨q, by simp [oupd, q]⟩
  · exact Or.inr ⟨q, by simp [oupd, q]⟩
end Laws
end Jvm.OwnKit

namespace Jvm.Pilot.@@N@@
open Jvm Jvm.ClassFile Sem Op Lib Jvm.Free Jvm.Stand Jvm.LawKit Jvm.RoadKit Bundle Jvm.OwnKit Jvm.Pilot.@@N@@.Jvm.D
theorem pd_0 : parseMethodDescriptor "(I)I" = some ⟨[.int], some .int⟩ := by decide +kernel
theorem pd_1 : parseMethodDescriptor "(IIII)[I" = some ⟨[.int, .int, .int, .int], some (.array .int)⟩ := by decide +kernel
theorem pd_2 : parseMethodDescriptor "()V" = some ⟨[], none⟩ := by decide +kernel
theorem pd_3 : parseMethodDescriptor "([I)V" = some ⟨[(.array .int)], none⟩ := by decide +kernel
theorem pd_4 : parseMethodDescriptor "(I[III)I" = some ⟨[.int, (.array .int), .int, .int], some .int⟩ := by decide +kernel
theorem pd_5 : parseMethodDescriptor "(Ljava/lang/Object;IIII)I" = some ⟨[(.object "java/lang/Object"), .int, .int, .int, .int], some .int⟩ := by decide +kernel
theorem pd_6 : parseMethodDescriptor "([I)I" = some ⟨[(.array .int)], some .int⟩ := by decide +kernel
theorem pd_7 : parseMethodDescriptor "(II)I" = some ⟨[.int, .int], some .int⟩ := by decide +kernel
theorem pd_8 : parseMethodDescriptor "(II)Z" = some ⟨[.int, .int], some .boolean⟩ := by decide +kernel
theorem pd_9 : parseMethodDescriptor "(Lcom/example/vetter/vetter/space/Pattern;)Z" = some ⟨[(.object "com/example/vetter/vetter/space/Pattern")], some .boolean⟩ := by decide +kernel
theorem pd_10 : parseMethodDescriptor "(Lcom/example/vetter/vetter/space/Tuple;)Z" = some ⟨[(.object "com/example/vetter/vetter/space/Tuple")], some .boolean⟩ := by decide +kernel
def own_tk (x y z : Int32) : Nat → Int32 := fun i => if i = 0 then x else if i = 1 then y else z
theorem own_tkc0 (x y z : Int32) : ∀ i, i < 0 → zeroI i = own_tk x y z i := fun i hi => absurd hi (by omega)
theorem own_tkc1 (x y z : Int32) : ∀ i, i < 1 → oupd zeroI 0 x i = own_tk x y z i := fun i hi => by
  have h : i = 0 := by omega
  subst h; rfl
theorem own_tkc2 (x y z : Int32) : ∀ i, i < 2 → oupd (oupd zeroI 0 x) 1 y i = own_tk x y z i := fun i hi => by
  have h : i = 0 ∨ i = 1 := by omega
  rcases h with rfl | rfl <;> rfl
theorem own_tkc3 (x y z : Int32) : ∀ i, i < 3 → oupd (oupd (oupd zeroI 0 x) 1 y) 2 z i = own_tk x y z i := fun i hi => by
  have h : i = 0 ∨ i = 1 ∨ i = 2 := by omega
  rcases h with rfl | rfl | rfl <;> rfl
theorem own_agree (a b w : Int) (hm : ¬ a = -1 ∧ w = a ∨ a = -1 ∧ ¬ b = -1 ∧ w = b ∨ a = -1 ∧ b = -1 ∧ w = 0) : (a = -1 ∨ b = -1 ∨ a = b) ↔ ((a = -1 ∨ a = w) ∧ (b = -1 ∨ b = w)) := by omega
theorem d1_0 : decode method_2_code 0 = .ok (.iload_n 0, 1) := by decide +kernel
theorem d1_1 : decode method_2_code 1 = .ok (.iconst 3, 1) := by decide +kernel
theorem d1_2 : decode method_2_code 2 = .ok (.iand, 1) := by decide +kernel
theorem d1_3 : decode method_2_code 3 = .ok (.istore_n 1, 1) := by decide +kernel
theorem d1_4 : decode method_2_code 4 = .ok (.iload_n 1, 1) := by decide +kernel
theorem d1_5 : decode method_2_code 5 = .ok (.ifCond .ne 5, 3) := by decide +kernel
theorem d1_8 : decode method_2_code 8 = .ok (.iconst (-1), 1) := by decide +kernel
theorem d1_9 : decode method_2_code 9 = .ok (.ireturn, 1) := by decide +kernel
theorem d1_10 : decode method_2_code 10 = .ok (.iload_n 1, 1) := by decide +kernel
theorem d1_11 : decode method_2_code 11 = .ok (.iconst 1, 1) := by decide +kernel
theorem d1_12 : decode method_2_code 12 = .ok (.if_icmp .ne 9, 3) := by decide +kernel
theorem d1_15 : decode method_2_code 15 = .ok (.iload_n 0, 1) := by decide +kernel
theorem d1_16 : decode method_2_code 16 = .ok (.iconst 2, 1) := by decide +kernel
theorem d1_17 : decode method_2_code 17 = .ok (.iushr, 1) := by decide +kernel
theorem d1_18 : decode method_2_code 18 = .ok (.iconst 3, 1) := by decide +kernel
theorem d1_19 : decode method_2_code 19 = .ok (.iand, 1) := by decide +kernel
theorem d1_20 : decode method_2_code 20 = .ok (.ireturn, 1) := by decide +kernel
theorem d1_21 : decode method_2_code 21 = .ok (.iload_n 0, 1) := by decide +kernel
theorem d1_22 : decode method_2_code 22 = .ok (.iconst 1, 1) := by decide +kernel
theorem d1_23 : decode method_2_code 23 = .ok (.iushr, 1) := by decide +kernel
theorem d1_24 : decode method_2_code 24 = .ok (.ireturn, 1) := by decide +kernel
theorem pn_0 : plainFor (⟨"com/example/vetter/vetter/space/PatternOverlapsPinLaw", "field", "(I)I"⟩ : MethodName) = true := by first | exact plainFor_of_name (by first | (simp [plainName, overriddenIn]; done) | decide +kernel) | decide +kernel
def Q1 (Z : State) (p1 : Int32) (h0 : Heap) (n0 : Nat) (v : Option Value) (h : Heap) : Prop := ∃ b : Int32, v = some (.int b) ∧ h = h0
abbrev R1 : Room := { frames := 0, cells := 0, slots := 0, locals := 0 }
set_option maxRecDepth 65536 in
set_option maxHeartbeats 40000000 in
theorem rm1 (l : Launch) (Z : State) (a0 : Array Value) (hw : ∀ d ∈ tables_1, d.before a0 Z = true)  (p1 : Int32) (h0 : Heap) (n0 : Nat) (Z0 : NLe n0 h0.size)  :
    Con l (⟨"com/example/vetter/vetter/space/PatternOverlapsPinLaw", "field", "(I)I"⟩ : MethodName) method_2_code 2 (some .int) [] R1 Z #[(.int p1)] h0 n0 (Q1 Z p1 h0 n0) := by
  refine con_of (Ls0 := #[.val (.int p1), .unset]) pn_0 (fun m => by first | (simp [entryFrame, mkF, argsToLocals, Value.category, maxLocals]; done) | rfl) ?_
  intro p e s m below meth c s₁ X0 hx hby hml hZ hown hnm hret hlk e0 N0
  show OGoes p e s below (Q1 Z p1 h0 n0) n0 R1.cells R1.slots s₁ (mkF m 0 #[.val (.int p1), .unset] [])
  refine g_iloadN X0 hx (hb hby d1_0) (v := p1) rfl (pc' := 1) rfl ?_
  refine g_iconst X0 hx (hb hby d1_1) (v := 3) (by decide) (pc' := 2) rfl ?_
  refine g_iand X0 hx (hb hby d1_2) (pc' := 3) rfl ?_
  refine g_istoreN X0 hx (hb hby d1_3) (Ls' := #[.val (.int p1), .val (.int (p1 &&& (3 : Int32)))]) rfl (pc' := 4) rfl ?_
  refine g_iloadN X0 hx (hb hby d1_4) (v := (p1 &&& (3 : Int32))) rfl (pc' := 5) rfl ?_
  refine g_i0_ne X0 hx (a := (p1 &&& (3 : Int32)).toInt) rfl (hb hby d1_5) (by decide) (pc' := 10) (by decide) (pc2 := 8) rfl (fun c1 => ?_) (fun c1 => ?_)
  · refine g_iloadN X0 hx (hb hby d1_10) (v := (p1 &&& (3 : Int32))) rfl (pc' := 11) rfl ?_
    refine g_iconst X0 hx (hb hby d1_11) (v := 1) (by decide) (pc' := 12) rfl ?_
    refine g_ii_ne X0 hx (a := (p1 &&& (3 : Int32)).toInt) (b := 1) rfl rfl (hb hby d1_12) (by decide) (pc' := 21) (by decide) (pc2 := 15) rfl (fun c2 => ?_) (fun c2 => ?_)
    · refine g_iloadN X0 hx (hb hby d1_21) (v := p1) rfl (pc' := 22) rfl ?_
      refine g_iconst X0 hx (hb hby d1_22) (v := 1) (by decide) (pc' := 23) rfl ?_
      refine g_iushr X0 hx (hb hby d1_23) (pc' := 24) rfl ?_
      refine g_retI X0 hx hlk hret (hb hby d1_24) N0 (by decide) (by decide) ?_
      exact ⟨_, rfl, e0⟩
    · refine g_iloadN X0 hx (hb hby d1_15) (v := p1) rfl (pc' := 16) rfl ?_
      refine g_iconst X0 hx (hb hby d1_16) (v := 2) (by decide) (pc' := 17) rfl ?_
      refine g_iushr X0 hx (hb hby d1_17) (pc' := 18) rfl ?_
      refine g_iconst X0 hx (hb hby d1_18) (v := 3) (by decide) (pc' := 19) rfl ?_
      refine g_iand X0 hx (hb hby d1_19) (pc' := 20) rfl ?_
      refine g_retI X0 hx hlk hret (hb hby d1_20) N0 (by decide) (by decide) ?_
      exact ⟨_, rfl, e0⟩
  · refine g_iconst X0 hx (hb hby d1_8) (v := -1) (by decide) (pc' := 9) rfl ?_
    refine g_retI X0 hx hlk hret (hb hby d1_9) N0 (by decide) (by decide) ?_
    exact ⟨_, rfl, e0⟩
theorem d2_0 : decode method_3_code 0 = .ok (.iload_n 0, 1) := by decide +kernel
theorem d2_1 : decode method_3_code 1 = .ok (.ifCond .ne 7, 3) := by decide +kernel
theorem d2_4 : decode method_3_code 4 = .ok (.iconst 0, 1) := by decide +kernel
theorem d2_5 : decode method_3_code 5 = .ok (.newarray .int, 2) := by decide +kernel
theorem d2_7 : decode method_3_code 7 = .ok (.areturn, 1) := by decide +kernel
theorem d2_8 : decode method_3_code 8 = .ok (.iload_n 0, 1) := by decide +kernel
theorem d2_9 : decode method_3_code 9 = .ok (.iconst 1, 1) := by decide +kernel
theorem d2_10 : decode method_3_code 10 = .ok (.if_icmp .ne 11, 3) := by decide +kernel
theorem d2_13 : decode method_3_code 13 = .ok (.iconst 1, 1) := by decide +kernel
theorem d2_14 : decode method_3_code 14 = .ok (.newarray .int, 2) := by decide +kernel
theorem d2_16 : decode method_3_code 16 = .ok (.dup, 1) := by decide +kernel
theorem d2_17 : decode method_3_code 17 = .ok (.iconst 0, 1) := by decide +kernel
theorem d2_18 : decode method_3_code 18 = .ok (.iload_n 1, 1) := by decide +kernel
theorem d2_19 : decode method_3_code 19 = .ok (.iastore, 1) := by decide +kernel
theorem d2_20 : decode method_3_code 20 = .ok (.areturn, 1) := by decide +kernel
theorem d2_21 : decode method_3_code 21 = .ok (.iload_n 0, 1) := by decide +kernel
theorem d2_22 : decode method_3_code 22 = .ok (.iconst 2, 1) := by decide +kernel
theorem d2_23 : decode method_3_code 23 = .ok (.if_icmp .ne 15, 3) := by decide +kernel
theorem d2_26 : decode method_3_code 26 = .ok (.iconst 2, 1) := by decide +kernel
theorem d2_27 : decode method_3_code 27 = .ok (.newarray .int, 2) := by decide +kernel
theorem d2_29 : decode method_3_code 29 = .ok (.dup, 1) := by decide +kernel
theorem d2_30 : decode method_3_code 30 = .ok (.iconst 0, 1) := by decide +kernel
theorem d2_31 : decode method_3_code 31 = .ok (.iload_n 1, 1) := by decide +kernel
theorem d2_32 : decode method_3_code 32 = .ok (.iastore, 1) := by decide +kernel
theorem d2_33 : decode method_3_code 33 = .ok (.dup, 1) := by decide +kernel
theorem d2_34 : decode method_3_code 34 = .ok (.iconst 1, 1) := by decide +kernel
theorem d2_35 : decode method_3_code 35 = .ok (.iload_n 2, 1) := by decide +kernel
theorem d2_36 : decode method_3_code 36 = .ok (.iastore, 1) := by decide +kernel
theorem d2_37 : decode method_3_code 37 = .ok (.areturn, 1) := by decide +kernel
theorem d2_38 : decode method_3_code 38 = .ok (.iconst 3, 1) := by decide +kernel
theorem d2_39 : decode method_3_code 39 = .ok (.newarray .int, 2) := by decide +kernel
theorem d2_41 : decode method_3_code 41 = .ok (.dup, 1) := by decide +kernel
theorem d2_42 : decode method_3_code 42 = .ok (.iconst 0, 1) := by decide +kernel
theorem d2_43 : decode method_3_code 43 = .ok (.iload_n 1, 1) := by decide +kernel
theorem d2_44 : decode method_3_code 44 = .ok (.iastore, 1) := by decide +kernel
theorem d2_45 : decode method_3_code 45 = .ok (.dup, 1) := by decide +kernel
theorem d2_46 : decode method_3_code 46 = .ok (.iconst 1, 1) := by decide +kernel
theorem d2_47 : decode method_3_code 47 = .ok (.iload_n 2, 1) := by decide +kernel
theorem d2_48 : decode method_3_code 48 = .ok (.iastore, 1) := by decide +kernel
theorem d2_49 : decode method_3_code 49 = .ok (.dup, 1) := by decide +kernel
theorem d2_50 : decode method_3_code 50 = .ok (.iconst 2, 1) := by decide +kernel
theorem d2_51 : decode method_3_code 51 = .ok (.iload_n 3, 1) := by decide +kernel
theorem d2_52 : decode method_3_code 52 = .ok (.iastore, 1) := by decide +kernel
theorem d2_53 : decode method_3_code 53 = .ok (.areturn, 1) := by decide +kernel
theorem pn_1 : plainFor (⟨"com/example/vetter/vetter/space/PatternOverlapsPinLaw", "take", "(IIII)[I"⟩ : MethodName) = true := by first | exact plainFor_of_name (by first | (simp [plainName, overriddenIn]; done) | decide +kernel) | decide +kernel
def Q2 (Z : State) (p0 : Int32) (p1 : Int32) (p2 : Int32) (p3 : Int32) (n : Nat) (h0 : Heap) (n0 : Nat) (v : Option Value) (h : Heap) : Prop := ∃ t : Addr, v = some (.ref t) ∧ NLe h0.size t ∧ Keep h0 h [] ∧ IA Z h t n (own_tk p1 p2 p3) ∧ Exa Z h t "[I"
abbrev R2 : Room := { frames := 0, cells := 1, slots := 3, locals := 0 }
set_option maxRecDepth 65536 in
set_option maxHeartbeats 40000000 in
theorem rm2 (l : Launch) (Z : State) (a0 : Array Value) (hw : ∀ d ∈ tables_1, d.before a0 Z = true)  (p0 : Int32) (p1 : Int32) (p2 : Int32) (p3 : Int32) (n : Nat) (h0 : Heap) (n0 : Nat) (Z0 : NLe n0 h0.size) (hn : p0.toInt = (n : Int)) (hn3 : n ≤ 3) :
    Con l (⟨"com/example/vetter/vetter/space/PatternOverlapsPinLaw", "take", "(IIII)[I"⟩ : MethodName) method_3_code 4 (some (.array .int)) [] R2 Z #[(.int p0), (.int p1), (.int p2), (.int p3)] h0 n0 (Q2 Z p0 p1 p2 p3 n h0 n0) := by
  refine con_of (Ls0 := #[.val (.int p0), .val (.int p1), .val (.int p2), .val (.int p3)]) pn_1 (fun m => by first | (simp [entryFrame, mkF, argsToLocals, Value.category, maxLocals]; done) | rfl) ?_
  intro p e s m below meth c s₁ X0 hx hby hml hZ hown hnm hret hlk e0 N0
  show OGoes p e s below (Q2 Z p0 p1 p2 p3 n h0 n0) n0 R2.cells R2.slots s₁ (mkF m 0 #[.val (.int p0), .val (.int p1), .val (.int p2), .val (.int p3)] [])
  have K0 : Keep h0 h0 [] := Keep.refl _ _
  refine g_iloadN X0 hx (hb hby d2_0) (v := p0) rfl (pc' := 1) rfl ?_
  refine g_i0_ne X0 hx (a := (n : Int)) hn (hb hby d2_1) (by decide) (pc' := 8) (by decide) (pc2 := 4) rfl (fun c1 => ?_) (fun c1 => ?_)
  · refine g_iloadN X0 hx (hb hby d2_8) (v := p0) rfl (pc' := 9) rfl ?_
    refine g_iconst X0 hx (hb hby d2_9) (v := 1) (by decide) (pc' := 10) rfl ?_
    refine g_ii_ne X0 hx (a := (n : Int)) (b := 1) hn rfl (hb hby d2_10) (by decide) (pc' := 21) (by decide) (pc2 := 13) rfl (fun c2 => ?_) (fun c2 => ?_)
    · refine g_iloadN X0 hx (hb hby d2_21) (v := p0) rfl (pc' := 22) rfl ?_
      refine g_iconst X0 hx (hb hby d2_22) (v := 2) (by decide) (pc' := 23) rfl ?_
      refine g_ii_ne X0 hx (a := (n : Int)) (b := 2) hn rfl (hb hby d2_23) (by decide) (pc' := 38) (by decide) (pc2 := 26) rfl (fun c3 => ?_) (fun c3 => ?_)
      · refine g_iconst X0 hx (hb hby d2_38) (v := 3) (by decide) (pc' := 39) rfl ?_
        refine g_newIAE X0 hx hZ (hw _ (List.mem_of_getElem? (i := 10) rfl)) e0 (n := 3) rfl (cap := 3) (by decide) (by decide) (hb hby d2_39) (by decide) (by decide) (pc' := 41) rfl (fun T4 h5 a6 g7 X8 e9 E10 l11 A12 E13 => ?_)
        have Z14 : NLe n0 h5.size := Z0.tr E10.1
        have nl15 : NLe n0 a6 := NLe.at g7 Z0
        have kf16 : NLe h0.size a6 := NLe.at g7 K0.1
        have K17 := K0.ext E10
        clear g7 l11
        refine g_dup X8 hx (hb hby d2_41) rfl (pc' := 42) rfl ?_
        refine g_iconst X8 hx (hb hby d2_42) (v := 0) (by decide) (pc' := 43) rfl ?_
        refine g_iloadN X8 hx (hb hby d2_43) (v := p1) rfl (pc' := 44) rfl ?_
        refine g_iastore X8 hx hZ e9 (k := 0) (x := p1) A12 rfl (by decide) N0 nl15 (hb hby d2_44) (pc' := 45) rfl (fun T18 h19 L20 X21 e22 W23 N24 A25 => ?_)
        have K26 := K17.wr W23 (Or.inr kf16)
        have Z27 : NLe n0 h19.size := Z14.wr W23
        have F28 := Exa.wr W23 E13
        refine g_dup X21 hx (hb hby d2_45) rfl (pc' := 46) rfl ?_
        refine g_iconst X21 hx (hb hby d2_46) (v := 1) (by decide) (pc' := 47) rfl ?_
        refine g_iloadN X21 hx (hb hby d2_47) (v := p2) rfl (pc' := 48) rfl ?_
        refine g_iastore X21 hx hZ e22 (k := 1) (x := p2) A25 rfl (by decide) N24 nl15 (hb hby d2_48) (pc' := 49) rfl (fun T30 h31 L32 X33 e34 W35 N36 A37 => ?_)
        have K38 := K26.wr W35 (Or.inr kf16)
        have Z39 : NLe n0 h31.size := Z27.wr W35
        have F40 := Exa.wr W35 F28
        refine g_dup X33 hx (hb hby d2_49) rfl (pc' := 50) rfl ?_
        refine g_iconst X33 hx (hb hby d2_50) (v := 2) (by decide) (pc' := 51) rfl ?_
        refine g_iloadN X33 hx (hb hby d2_51) (v := p3) rfl (pc' := 52) rfl ?_
        refine g_iastore X33 hx hZ e34 (k := 2) (x := p3) A37 rfl (by decide) N36 nl15 (hb hby d2_52) (pc' := 53) rfl (fun T42 h43 L44 X45 e46 W47 N48 A49 => ?_)
        have K50 := K38.wr W47 (Or.inr kf16)
        have Z51 : NLe n0 h43.size := Z39.wr W47
        have F52 := Exa.wr W47 F40
        refine g_retA X45 hx hlk hret rfl rfl rfl (hb hby d2_53) N48 (by decide) (by decide) ?_
        have hk : n = 3 := by omega
        subst hk
        rw [e46]
        exact ⟨a6, rfl, kf16, K50, (A49.congr (own_tkc3 p1 p2 p3)), F52⟩
      · refine g_iconst X0 hx (hb hby d2_26) (v := 2) (by decide) (pc' := 27) rfl ?_
        refine g_newIAE X0 hx hZ (hw _ (List.mem_of_getElem? (i := 10) rfl)) e0 (n := 2) rfl (cap := 2) (by decide) (by decide) (hb hby d2_27) (by decide) (by decide) (pc' := 29) rfl (fun T54 h55 a56 g57 X58 e59 E60 l61 A62 E63 => ?_)
        have Z64 : NLe n0 h55.size := Z0.tr E60.1
        have nl65 : NLe n0 a56 := NLe.at g57 Z0
        have kf66 : NLe h0.size a56 := NLe.at g57 K0.1
        have K67 := K0.ext E60
        clear g57 l61
        refine g_dup X58 hx (hb hby d2_29) rfl (pc' := 30) rfl ?_
        refine g_iconst X58 hx (hb hby d2_30) (v := 0) (by decide) (pc' := 31) rfl ?_
        refine g_iloadN X58 hx (hb hby d2_31) (v := p1) rfl (pc' := 32) rfl ?_
        refine g_iastore X58 hx hZ e59 (k := 0) (x := p1) A62 rfl (by decide) N0 nl65 (hb hby d2_32) (pc' := 33) rfl (fun T68 h69 L70 X71 e72 W73 N74 A75 => ?_)
        have K76 := K67.wr W73 (Or.inr kf66)
        have Z77 : NLe n0 h69.size := Z64.wr W73
        have F78 := Exa.wr W73 E63
        refine g_dup X71 hx (hb hby d2_33) rfl (pc' := 34) rfl ?_
        refine g_iconst X71 hx (hb hby d2_34) (v := 1) (by decide) (pc' := 35) rfl ?_
        refine g_iloadN X71 hx (hb hby d2_35) (v := p2) rfl (pc' := 36) rfl ?_
        refine g_iastore X71 hx hZ e72 (k := 1) (x := p2) A75 rfl (by decide) N74 nl65 (hb hby d2_36) (pc' := 37) rfl (fun T80 h81 L82 X83 e84 W85 N86 A87 => ?_)
        have K88 := K76.wr W85 (Or.inr kf66)
        have Z89 : NLe n0 h81.size := Z77.wr W85
        have F90 := Exa.wr W85 F78
        refine g_retA X83 hx hlk hret rfl rfl rfl (hb hby d2_37) N86 (by decide) (by decide) ?_
        have hk : n = 2 := by omega
        subst hk
        rw [e84]
        exact ⟨a56, rfl, kf66, K88, (A87.congr (own_tkc2 p1 p2 p3)), F90⟩
    · refine g_iconst X0 hx (hb hby d2_13) (v := 1) (by decide) (pc' := 14) rfl ?_
      refine g_newIAE X0 hx hZ (hw _ (List.mem_of_getElem? (i := 10) rfl)) e0 (n := 1) rfl (cap := 1) (by decide) (by decide) (hb hby d2_14) (by decide) (by decide) (pc' := 16) rfl (fun T92 h93 a94 g95 X96 e97 E98 l99 A100 E101 => ?_)
      have Z102 : NLe n0 h93.size := Z0.tr E98.1
      have nl103 : NLe n0 a94 := NLe.at g95 Z0
      have kf104 : NLe h0.size a94 := NLe.at g95 K0.1
      have K105 := K0.ext E98
      clear g95 l99
      refine g_dup X96 hx (hb hby d2_16) rfl (pc' := 17) rfl ?_
      refine g_iconst X96 hx (hb hby d2_17) (v := 0) (by decide) (pc' := 18) rfl ?_
      refine g_iloadN X96 hx (hb hby d2_18) (v := p1) rfl (pc' := 19) rfl ?_
      refine g_iastore X96 hx hZ e97 (k := 0) (x := p1) A100 rfl (by decide) N0 nl103 (hb hby d2_19) (pc' := 20) rfl (fun T106 h107 L108 X109 e110 W111 N112 A113 => ?_)
      have K114 := K105.wr W111 (Or.inr kf104)
      have Z115 : NLe n0 h107.size := Z102.wr W111
      have F116 := Exa.wr W111 E101
      refine g_retA X109 hx hlk hret rfl rfl rfl (hb hby d2_20) N112 (by decide) (by decide) ?_
      have hk : n = 1 := by omega
      subst hk
      rw [e110]
      exact ⟨a94, rfl, kf104, K114, (A113.congr (own_tkc1 p1 p2 p3)), F116⟩
  · refine g_iconst X0 hx (hb hby d2_4) (v := 0) (by decide) (pc' := 5) rfl ?_
    refine g_newIAE X0 hx hZ (hw _ (List.mem_of_getElem? (i := 10) rfl)) e0 (n := 0) rfl (cap := 0) (by decide) (by decide) (hb hby d2_5) (by decide) (by decide) (pc' := 7) rfl (fun T118 h119 a120 g121 X122 e123 E124 l125 A126 E127 => ?_)
    have Z128 : NLe n0 h119.size := Z0.tr E124.1
    have nl129 : NLe n0 a120 := NLe.at g121 Z0
    have kf130 : NLe h0.size a120 := NLe.at g121 K0.1
    have K131 := K0.ext E124
    clear g121 l125
    refine g_retA X122 hx hlk hret rfl rfl rfl (hb hby d2_7) N0 (by decide) (by decide) ?_
    have hk : n = 0 := by omega
    subst hk
    rw [e123]
    exact ⟨a120, rfl, kf130, K131, (A126.congr (own_tkc0 p1 p2 p3)), E127⟩
theorem d11_0 : decode jdk_48_method_9_code 0 = .ok (.iload_n 2, 1) := by decide +kernel
theorem d11_1 : decode jdk_48_method_9_code 1 = .ok (.iload_n 3, 1) := by decide +kernel
theorem d11_2 : decode jdk_48_method_9_code 2 = .ok (.iadd, 1) := by decide +kernel
theorem d11_3 : decode jdk_48_method_9_code 3 = .ok (.istore 4, 2) := by decide +kernel
theorem d11_5 : decode jdk_48_method_9_code 5 = .ok (.iload_n 2, 1) := by decide +kernel
theorem d11_6 : decode jdk_48_method_9_code 6 = .ok (.istore 5, 2) := by decide +kernel
theorem d11_8 : decode jdk_48_method_9_code 8 = .ok (.iload 5, 2) := by decide +kernel
theorem d11_10 : decode jdk_48_method_9_code 10 = .ok (.iload 4, 2) := by decide +kernel
theorem d11_12 : decode jdk_48_method_9_code 12 = .ok (.if_icmp .ge 19, 3) := by decide +kernel
theorem d11_15 : decode jdk_48_method_9_code 15 = .ok (.bipush 31, 2) := by decide +kernel
theorem d11_17 : decode jdk_48_method_9_code 17 = .ok (.iload_n 0, 1) := by decide +kernel
theorem d11_18 : decode jdk_48_method_9_code 18 = .ok (.imul, 1) := by decide +kernel
theorem d11_19 : decode jdk_48_method_9_code 19 = .ok (.aload_n 1, 1) := by decide +kernel
theorem d11_20 : decode jdk_48_method_9_code 20 = .ok (.iload 5, 2) := by decide +kernel
theorem d11_22 : decode jdk_48_method_9_code 22 = .ok (.iaload, 1) := by decide +kernel
theorem d11_23 : decode jdk_48_method_9_code 23 = .ok (.iadd, 1) := by decide +kernel
theorem d11_24 : decode jdk_48_method_9_code 24 = .ok (.istore_n 0, 1) := by decide +kernel
theorem d11_25 : decode jdk_48_method_9_code 25 = .ok (.iinc 5 1, 3) := by decide +kernel
theorem d11_28 : decode jdk_48_method_9_code 28 = .ok (.goto (-20), 3) := by decide +kernel
theorem d11_31 : decode jdk_48_method_9_code 31 = .ok (.iload_n 0, 1) := by decide +kernel
theorem d11_32 : decode jdk_48_method_9_code 32 = .ok (.ireturn, 1) := by decide +kernel
theorem pn_2 : plainFor (⟨"jdk/internal/util/ArraysSupport", "hashCode", "(I[III)I"⟩ : MethodName) = true := by first | exact plainFor_of_name (by first | (simp [plainName, overriddenIn]; done) | decide +kernel) | decide +kernel
def Q3 (Z : State) (p0 : Int32) (t : Addr) (p3 : Int32) (n : Nat) (f : Nat → Int32) (h0 : Heap) (n0 : Nat) (v : Option Value) (h : Heap) : Prop := ∃ b : Int32, v = some (.int b) ∧ h = h0
abbrev R3 : Room := { frames := 0, cells := 0, slots := 0, locals := 0 }
set_option maxRecDepth 65536 in
set_option maxHeartbeats 40000000 in
theorem rm3 (l : Launch) (Z : State) (a0 : Array Value) (hw : ∀ d ∈ tables_1, d.before a0 Z = true)  (p0 : Int32) (t : Addr) (p3 : Int32) (n : Nat) (f : Nat → Int32) (h0 : Heap) (n0 : Nat) (Z0 : NLe n0 h0.size) (Fp0 : IA Z h0 t n f) (hn : p3.toInt = (n : Int)) :
    Con l (⟨"jdk/internal/util/ArraysSupport", "hashCode", "(I[III)I"⟩ : MethodName) jdk_48_method_9_code 6 (some .int) [] R3 Z #[(.int p0), (.ref t), (.int (0 : Int32)), (.int p3)] h0 n0 (Q3 Z p0 t p3 n f h0 n0) := by
  refine con_of (Ls0 := #[.val (.int p0), .val (.ref t), .val (.int (0 : Int32)), .val (.int p3), .unset, .unset]) pn_2 (fun m => by first | (simp [entryFrame, mkF, argsToLocals, Value.category, maxLocals]; done) | rfl) ?_
  intro p e s m below meth c s₁ X0 hx hby hml hZ hown hnm hret hlk e0 N0
  show OGoes p e s below (Q3 Z p0 t p3 n f h0 n0) n0 R3.cells R3.slots s₁ (mkF m 0 #[.val (.int p0), .val (.ref t), .val (.int (0 : Int32)), .val (.int p3), .unset, .unset] [])
  have ad := c_iadd 0 p3; have l0 : (0 : Int32).toInt = 0 := rfl; have t1 := ((0 : Int32) + p3).toInt_lt; have t2 := ((0 : Int32) + p3).le_toInt; have t3 := p3.toInt_lt
  have hend : ((0 : Int32) + p3).toInt = (n : Int) := by omega
  refine g_iloadN X0 hx (hb hby d11_0) (v := (0 : Int32)) rfl (pc' := 1) rfl ?_
  refine g_iloadN X0 hx (hb hby d11_1) (v := p3) rfl (pc' := 2) rfl ?_
  refine g_iadd X0 hx (hb hby d11_2) (pc' := 3) rfl ?_
  refine g_istore X0 hx (hb hby d11_3) (Ls' := #[.val (.int p0), .val (.ref t), .val (.int (0 : Int32)), .val (.int p3), .val (.int ((0 : Int32) + p3)), .unset]) rfl (pc' := 5) rfl ?_
  refine g_iloadN X0 hx (hb hby d11_5) (v := (0 : Int32)) rfl (pc' := 6) rfl ?_
  refine g_istore X0 hx (hb hby d11_6) (Ls' := #[.val (.int p0), .val (.ref t), .val (.int (0 : Int32)), .val (.int p3), .val (.int ((0 : Int32) + p3)), .val (.int (0 : Int32))]) rfl (pc' := 8) rfl ?_
  have loop : ∀ (k : Nat) (i : Nat) (j : Int32) (ac : Int32) (Tl : State) (Ll : List Loc) , i + k = n → j.toInt = (i : Int) → Stand p l e R3 s m #[(.int p0), (.ref t), (.int (0 : Int32)), (.int p3)] below meth c Tl Ll 0 0 → Tl.heap = h0 → Fr n0 Ll → IA Z h0 t n f → OGoes p e s below (Q3 Z p0 t p3 n f h0 n0) n0 R3.cells R3.slots Tl (mkF m 8 #[.val (.int ac), .val (.ref t), .val (.int (0 : Int32)), .val (.int p3), .val (.int ((0 : Int32) + p3)), .val (.int j)] []) := by
    intro k; induction k with
    | zero =>
      intro i j ac Tl Ll hik hj Xl El Nl Fl0
      refine g_iload Xl hx (hb hby d11_8) (v := j) rfl (pc' := 10) rfl ?_
      refine g_iload Xl hx (hb hby d11_10) (v := ((0 : Int32) + p3)) rfl (pc' := 12) rfl ?_
      refine g_ii_ge Xl hx (a := (i : Int)) (b := (n : Int)) hj hend (hb hby d11_12) (by decide) (pc' := 31) (by decide) (pc2 := 15) rfl (fun c1 => ?_) (fun c1 => False.elim (by omega))
      refine g_iloadN Xl hx (hb hby d11_31) (v := ac) rfl (pc' := 32) rfl ?_
      refine g_retI Xl hx hlk hret (hb hby d11_32) Nl (by decide) (by decide) ?_
      exact ⟨_, rfl, El⟩
    | succ k ih =>
      intro i j ac Tl Ll hik hj Xl El Nl Fl0
      refine g_iload Xl hx (hb hby d11_8) (v := j) rfl (pc' := 10) rfl ?_
      refine g_iload Xl hx (hb hby d11_10) (v := ((0 : Int32) + p3)) rfl (pc' := 12) rfl ?_
      refine g_ii_ge Xl hx (a := (i : Int)) (b := (n : Int)) hj hend (hb hby d11_12) (by decide) (pc' := 31) (by decide) (pc2 := 15) rfl (fun c2 => False.elim (by omega)) (fun c2 => ?_)
      refine g_bipush Xl hx (hb hby d11_15) (v := 31) (by decide) (pc' := 17) rfl ?_
      refine g_iloadN Xl hx (hb hby d11_17) (v := ac) rfl (pc' := 18) rfl ?_
      refine g_imul Xl hx (hb hby d11_18) (pc' := 19) rfl ?_
      refine g_aloadN Xl hx (hb hby d11_19) (v := (.ref t)) rfl rfl (pc' := 20) rfl ?_
      refine g_iload Xl hx (hb hby d11_20) (v := j) rfl (pc' := 22) rfl ?_
      refine g_iaload Xl hx hZ El (k := i) Fl0 hj (by omega) (hb hby d11_22) (pc' := 23) rfl ?_
      refine g_iadd Xl hx (hb hby d11_23) (pc' := 24) rfl ?_
      refine g_istoreN Xl hx (hb hby d11_24) (Ls' := #[.val (.int (((31 : Int32) * ac) + (f i))), .val (.ref t), .val (.int (0 : Int32)), .val (.int p3), .val (.int ((0 : Int32) + p3)), .val (.int j)]) rfl (pc' := 25) rfl ?_
      have ad := c_iadd j 1; have l1 : (1 : Int32).toInt = 1 := rfl; have t1 := (j + 1).toInt_lt; have t2 := (j + 1).le_toInt
      refine g_iinc Xl hx (hb hby d11_25) (v := 1) (by decide) (x := j) rfl (Ls' := #[.val (.int (((31 : Int32) * ac) + (f i))), .val (.ref t), .val (.int (0 : Int32)), .val (.int p3), .val (.int ((0 : Int32) + p3)), .val (.int (j + (1 : Int32)))]) rfl (pc' := 28) rfl ?_
      refine g_goto Xl hx (hb hby d11_28) (by decide) (pc' := 8) (by decide) ?_
      exact ih (i + 1) (j + (1 : Int32)) (((31 : Int32) * ac) + (f i)) _ _ (by omega) (by omega) Xl El Nl Fl0
  exact loop n 0 (0 : Int32) p0 _ _ (by omega) rfl X0 e0 N0 Fp0
theorem d10_0 : decode jdk_48_method_4_code 0 = .ok (.iload 4, 2) := by decide +kernel
theorem d10_2 : decode jdk_48_method_4_code 2 = .ok (.tableswitch 127 4 10 #[42, 55, 127, 127, 88, 101, 114], 42) := by decide +kernel
theorem d10_44 : decode jdk_48_method_4_code 44 = .ok (.iload_n 3, 1) := by decide +kernel
theorem d10_45 : decode jdk_48_method_4_code 45 = .ok (.aload_n 0, 1) := by decide +kernel
theorem d10_46 : decode jdk_48_method_4_code 46 = .ok (.checkcast 60, 3) := by decide +kernel
theorem d10_49 : decode jdk_48_method_4_code 49 = .ok (.iload_n 1, 1) := by decide +kernel
theorem d10_50 : decode jdk_48_method_4_code 50 = .ok (.iload_n 2, 1) := by decide +kernel
theorem d10_51 : decode jdk_48_method_4_code 51 = .ok (.invokestatic 62, 3) := by decide +kernel
theorem d10_54 : decode jdk_48_method_4_code 54 = .ok (.goto 103, 3) := by decide +kernel
theorem d10_57 : decode jdk_48_method_4_code 57 = .ok (.aload_n 0, 1) := by decide +kernel
theorem d10_58 : decode jdk_48_method_4_code 58 = .ok (.instanceof 60, 3) := by decide +kernel
theorem d10_61 : decode jdk_48_method_4_code 61 = .ok (.ifCond .eq 16, 3) := by decide +kernel
theorem d10_64 : decode jdk_48_method_4_code 64 = .ok (.iload_n 3, 1) := by decide +kernel
theorem d10_65 : decode jdk_48_method_4_code 65 = .ok (.aload_n 0, 1) := by decide +kernel
theorem d10_66 : decode jdk_48_method_4_code 66 = .ok (.checkcast 60, 3) := by decide +kernel
theorem d10_69 : decode jdk_48_method_4_code 69 = .ok (.iload_n 1, 1) := by decide +kernel
theorem d10_70 : decode jdk_48_method_4_code 70 = .ok (.iload_n 2, 1) := by decide +kernel
theorem d10_71 : decode jdk_48_method_4_code 71 = .ok (.invokestatic 66, 3) := by decide +kernel
theorem d10_74 : decode jdk_48_method_4_code 74 = .ok (.goto 83, 3) := by decide +kernel
theorem d10_77 : decode jdk_48_method_4_code 77 = .ok (.iload_n 3, 1) := by decide +kernel
theorem d10_78 : decode jdk_48_method_4_code 78 = .ok (.aload_n 0, 1) := by decide +kernel
theorem d10_79 : decode jdk_48_method_4_code 79 = .ok (.checkcast 69, 3) := by decide +kernel
theorem d10_82 : decode jdk_48_method_4_code 82 = .ok (.iload_n 1, 1) := by decide +kernel
theorem d10_83 : decode jdk_48_method_4_code 83 = .ok (.iload_n 2, 1) := by decide +kernel
theorem d10_84 : decode jdk_48_method_4_code 84 = .ok (.invokestatic 71, 3) := by decide +kernel
theorem d10_87 : decode jdk_48_method_4_code 87 = .ok (.goto 70, 3) := by decide +kernel
theorem d10_90 : decode jdk_48_method_4_code 90 = .ok (.iload_n 3, 1) := by decide +kernel
theorem d10_91 : decode jdk_48_method_4_code 91 = .ok (.aload_n 0, 1) := by decide +kernel
theorem d10_92 : decode jdk_48_method_4_code 92 = .ok (.checkcast 60, 3) := by decide +kernel
theorem d10_95 : decode jdk_48_method_4_code 95 = .ok (.iload_n 1, 1) := by decide +kernel
theorem d10_96 : decode jdk_48_method_4_code 96 = .ok (.iload_n 2, 1) := by decide +kernel
theorem d10_97 : decode jdk_48_method_4_code 97 = .ok (.invokestatic 75, 3) := by decide +kernel
theorem d10_100 : decode jdk_48_method_4_code 100 = .ok (.goto 57, 3) := by decide +kernel
theorem d10_103 : decode jdk_48_method_4_code 103 = .ok (.iload_n 3, 1) := by decide +kernel
theorem d10_104 : decode jdk_48_method_4_code 104 = .ok (.aload_n 0, 1) := by decide +kernel
theorem d10_105 : decode jdk_48_method_4_code 105 = .ok (.checkcast 77, 3) := by decide +kernel
theorem d10_108 : decode jdk_48_method_4_code 108 = .ok (.iload_n 1, 1) := by decide +kernel
theorem d10_109 : decode jdk_48_method_4_code 109 = .ok (.iload_n 2, 1) := by decide +kernel
theorem d10_110 : decode jdk_48_method_4_code 110 = .ok (.invokestatic 79, 3) := by decide +kernel
theorem d10_113 : decode jdk_48_method_4_code 113 = .ok (.goto 44, 3) := by decide +kernel
theorem d10_116 : decode jdk_48_method_4_code 116 = .ok (.iload_n 3, 1) := by decide +kernel
theorem d10_117 : decode jdk_48_method_4_code 117 = .ok (.aload_n 0, 1) := by decide +kernel
theorem d10_118 : decode jdk_48_method_4_code 118 = .ok (.checkcast 82, 3) := by decide +kernel
theorem d10_121 : decode jdk_48_method_4_code 121 = .ok (.iload_n 1, 1) := by decide +kernel
theorem d10_122 : decode jdk_48_method_4_code 122 = .ok (.iload_n 2, 1) := by decide +kernel
theorem d10_123 : decode jdk_48_method_4_code 123 = .ok (.invokestatic 84, 3) := by decide +kernel
theorem d10_126 : decode jdk_48_method_4_code 126 = .ok (.goto 31, 3) := by decide +kernel
theorem d10_129 : decode jdk_48_method_4_code 129 = .ok (.new 87, 3) := by decide +kernel
theorem d10_132 : decode jdk_48_method_4_code 132 = .ok (.dup, 1) := by decide +kernel
theorem d10_133 : decode jdk_48_method_4_code 133 = .ok (.new 89, 3) := by decide +kernel
theorem d10_136 : decode jdk_48_method_4_code 136 = .ok (.dup, 1) := by decide +kernel
theorem d10_137 : decode jdk_48_method_4_code 137 = .ok (.invokespecial 91, 3) := by decide +kernel
theorem d10_140 : decode jdk_48_method_4_code 140 = .ok (.ldc 92, 2) := by decide +kernel
theorem d10_142 : decode jdk_48_method_4_code 142 = .ok (.invokevirtual 94, 3) := by decide +kernel
theorem d10_145 : decode jdk_48_method_4_code 145 = .ok (.iload 4, 2) := by decide +kernel
theorem d10_147 : decode jdk_48_method_4_code 147 = .ok (.invokevirtual 98, 3) := by decide +kernel
theorem d10_150 : decode jdk_48_method_4_code 150 = .ok (.invokevirtual 101, 3) := by decide +kernel
theorem d10_153 : decode jdk_48_method_4_code 153 = .ok (.invokespecial 105, 3) := by decide +kernel
theorem d10_156 : decode jdk_48_method_4_code 156 = .ok (.athrow, 1) := by decide +kernel
theorem d10_157 : decode jdk_48_method_4_code 157 = .ok (.ireturn, 1) := by decide +kernel
theorem pn_3 : plainFor (⟨"jdk/internal/util/ArraysSupport", "vectorizedHashCode", "(Ljava/lang/Object;IIII)I"⟩ : MethodName) = true := by first | exact plainFor_of_name (by first | (simp [plainName, overriddenIn]; done) | decide +kernel) | decide +kernel
def Q4 (Z : State) (t : Addr) (p2 : Int32) (n : Nat) (f : Nat → Int32) (h0 : Heap) (n0 : Nat) (v : Option Value) (h : Heap) : Prop := ∃ b : Int32, v = some (.int b) ∧ h = h0
abbrev R4 : Room := { frames := 1, cells := 0, slots := 0, locals := 18 }
set_option maxRecDepth 65536 in
set_option maxHeartbeats 40000000 in
theorem rm4 (l : Launch) (Z : State) (a0 : Array Value) (hw : ∀ d ∈ tables_1, d.before a0 Z = true)  (t : Addr) (p2 : Int32) (n : Nat) (f : Nat → Int32) (h0 : Heap) (n0 : Nat) (Z0 : NLe n0 h0.size) (Fp0 : IA Z h0 t n f) (Fp1 : Exa Z h0 t "[I") (hn : p2.toInt = (n : Int)) :
    Con l (⟨"jdk/internal/util/ArraysSupport", "vectorizedHashCode", "(Ljava/lang/Object;IIII)I"⟩ : MethodName) jdk_48_method_4_code 5 (some .int) [] R4 Z #[(.ref t), (.int (0 : Int32)), (.int p2), (.int (1 : Int32)), (.int (10 : Int32))] h0 n0 (Q4 Z t p2 n f h0 n0) := by
  refine con_of (Ls0 := #[.val (.ref t), .val (.int (0 : Int32)), .val (.int p2), .val (.int (1 : Int32)), .val (.int (10 : Int32))]) pn_3 (fun m => by first | (simp [entryFrame, mkF, argsToLocals, Value.category, maxLocals]; done) | rfl) ?_
  intro p e s m below meth c s₁ X0 hx hby hml hZ hown hnm hret hlk e0 N0
  show OGoes p e s below (Q4 Z t p2 n f h0 n0) n0 R4.cells R4.slots s₁ (mkF m 0 #[.val (.ref t), .val (.int (0 : Int32)), .val (.int p2), .val (.int (1 : Int32)), .val (.int (10 : Int32))] [])
  refine g_iload X0 hx (hb hby d10_0) (v := (10 : Int32)) rfl (pc' := 2) rfl ?_
  refine g_tsw X0 hx (hb hby d10_2) (by decide) (o := 114) (by decide) (by decide) (pc' := 116) (by decide) ?_
  refine g_iloadN X0 hx (hb hby d10_116) (v := (1 : Int32)) rfl (pc' := 117) rfl ?_
  refine g_aloadN X0 hx (hb hby d10_117) (v := (.ref t)) rfl rfl (pc' := 118) rfl ?_
  refine g_cast X0 hx hZ hown (hw _ (List.mem_of_getElem? (i := 65) rfl)) e0 Fp1 (hb hby d10_118) (pc' := 121) rfl (fun T1 X2 e3 => ?_)
  refine g_iloadN X2 hx (hb hby d10_121) (v := (0 : Int32)) rfl (pc' := 122) rfl ?_
  refine g_iloadN X2 hx (hb hby d10_122) (v := p2) rfl (pc' := 123) rfl ?_
  refine g_static X2 hx hZ hown (hw _ (List.mem_of_getElem? (i := 66) rfl)) (hw _ (List.mem_of_getElem? (i := 67) rfl)) (hw _ (List.mem_of_getElem? (i := 63) rfl)) (hw _ (List.mem_of_getElem? (i := 68) rfl)) (by decide) (argsL := [(.int (1 : Int32)), (.ref t), (.int (0 : Int32)), (.int p2)]) (rm3 l Z a0 hw (1 : Int32) t p2 n f h0 n0 Z0 Fp0 hn) rfl e3 (by rw [hml]; rfl) pd_4 rfl (rest := []) rfl (W := 0) (Nat.le_of_eq rfl) (by decide) (by decide) (by decide) (by decide) N0 (hb hby d10_123) (pc' := 126) rfl (fun v4 T5 L6 X7 N8 q9 => ?_)
  obtain ⟨b10, rfl, K11⟩ := q9
  have lt12 : (1 : Int32).toInt = 1 := rfl
  have lt13 : (0 : Int32).toInt = 0 := rfl
  show OGoes p e s below (Q4 Z t p2 n f h0 n0) n0 R4.cells R4.slots T5 (mkF m 126 #[.val (.ref t), .val (.int (0 : Int32)), .val (.int p2), .val (.int (1 : Int32)), .val (.int (10 : Int32))] [(.int b10)])
  refine g_goto X7 hx (hb hby d10_126) (by decide) (pc' := 157) (by decide) ?_
  refine g_retI X7 hx hlk hret (hb hby d10_157) N8 (by decide) (by decide) ?_
  exact ⟨_, rfl, K11⟩
theorem d5_0 : decode jdk_65_method_150_code 0 = .ok (.aload_n 0, 1) := by decide +kernel
theorem d5_1 : decode jdk_65_method_150_code 1 = .ok (.ifnonnull 5, 3) := by decide +kernel
theorem d5_4 : decode jdk_65_method_150_code 4 = .ok (.iconst 0, 1) := by decide +kernel
theorem d5_5 : decode jdk_65_method_150_code 5 = .ok (.ireturn, 1) := by decide +kernel
theorem d5_6 : decode jdk_65_method_150_code 6 = .ok (.aload_n 0, 1) := by decide +kernel
theorem d5_7 : decode jdk_65_method_150_code 7 = .ok (.arraylength, 1) := by decide +kernel
theorem d5_8 : decode jdk_65_method_150_code 8 = .ok (.lookupswitch 41 #[(0, 28), (1, 32)], 28) := by decide +kernel
theorem d5_36 : decode jdk_65_method_150_code 36 = .ok (.iconst 1, 1) := by decide +kernel
theorem d5_37 : decode jdk_65_method_150_code 37 = .ok (.goto 22, 3) := by decide +kernel
theorem d5_40 : decode jdk_65_method_150_code 40 = .ok (.bipush 31, 2) := by decide +kernel
theorem d5_42 : decode jdk_65_method_150_code 42 = .ok (.aload_n 0, 1) := by decide +kernel
theorem d5_43 : decode jdk_65_method_150_code 43 = .ok (.iconst 0, 1) := by decide +kernel
theorem d5_44 : decode jdk_65_method_150_code 44 = .ok (.iaload, 1) := by decide +kernel
theorem d5_45 : decode jdk_65_method_150_code 45 = .ok (.iadd, 1) := by decide +kernel
theorem d5_46 : decode jdk_65_method_150_code 46 = .ok (.goto 13, 3) := by decide +kernel
theorem d5_49 : decode jdk_65_method_150_code 49 = .ok (.aload_n 0, 1) := by decide +kernel
theorem d5_50 : decode jdk_65_method_150_code 50 = .ok (.iconst 0, 1) := by decide +kernel
theorem d5_51 : decode jdk_65_method_150_code 51 = .ok (.aload_n 0, 1) := by decide +kernel
theorem d5_52 : decode jdk_65_method_150_code 52 = .ok (.arraylength, 1) := by decide +kernel
theorem d5_53 : decode jdk_65_method_150_code 53 = .ok (.iconst 1, 1) := by decide +kernel
theorem d5_54 : decode jdk_65_method_150_code 54 = .ok (.bipush 10, 2) := by decide +kernel
theorem d5_56 : decode jdk_65_method_150_code 56 = .ok (.invokestatic 379, 3) := by decide +kernel
theorem d5_59 : decode jdk_65_method_150_code 59 = .ok (.ireturn, 1) := by decide +kernel
theorem pn_4 : plainFor (⟨"java/util/Arrays", "hashCode", "([I)I"⟩ : MethodName) = true := by first | exact plainFor_of_name (by first | (simp [plainName, overriddenIn]; done) | decide +kernel) | decide +kernel
def Q5 (Z : State) (t : Addr) (n : Nat) (f : Nat → Int32) (z : Int32) (h0 : Heap) (n0 : Nat) (v : Option Value) (h : Heap) : Prop := ∃ b : Int32, v = some (.int b) ∧ h = h0
abbrev R5 : Room := { frames := 2, cells := 0, slots := 0, locals := 36 }
set_option maxRecDepth 65536 in
set_option maxHeartbeats 40000000 in
theorem rm5 (l : Launch) (Z : State) (a0 : Array Value) (hw : ∀ d ∈ tables_1, d.before a0 Z = true)  (t : Addr) (n : Nat) (f : Nat → Int32) (z : Int32) (h0 : Heap) (n0 : Nat) (Z0 : NLe n0 h0.size) (Fp0 : IA Z h0 t n f) (Fp1 : Exa Z h0 t "[I") (hz : z.toInt = (n : Int)) :
    Con l (⟨"java/util/Arrays", "hashCode", "([I)I"⟩ : MethodName) jdk_65_method_150_code 1 (some .int) [] R5 Z #[(.ref t)] h0 n0 (Q5 Z t n f z h0 n0) := by
  refine con_of (Ls0 := #[.val (.ref t)]) pn_4 (fun m => by first | (simp [entryFrame, mkF, argsToLocals, Value.category, maxLocals]; done) | rfl) ?_
  intro p e s m below meth c s₁ X0 hx hby hml hZ hown hnm hret hlk e0 N0
  show OGoes p e s below (Q5 Z t n f z h0 n0) n0 R5.cells R5.slots s₁ (mkF m 0 #[.val (.ref t)] [])
  refine g_aloadN X0 hx (hb hby d5_0) (v := (.ref t)) rfl rfl (pc' := 1) rfl ?_
  refine g_ifnonnullYes X0 hx (hb hby d5_1) (by decide) (pc' := 6) (by decide) ?_
  refine g_aloadN X0 hx (hb hby d5_6) (v := (.ref t)) rfl rfl (pc' := 7) rfl ?_
  refine g_lenIA X0 hx hZ e0 (z := z) Fp0 hz (hb hby d5_7) (pc' := 8) rfl ?_
  rcases (show n = 0 ∨ n = 1 ∨ 2 ≤ n by omega) with hk | hk | hk
  · refine g_lswHit X0 hx (hb hby d5_8) (by decide) (a := 0) (off := 28) (by rw [hz, hk]; decide) (by decide) (pc' := 36) (by decide) ?_
    refine g_iconst X0 hx (hb hby d5_36) (v := 1) (by decide) (pc' := 37) rfl ?_
    refine g_goto X0 hx (hb hby d5_37) (by decide) (pc' := 59) (by decide) ?_
    refine g_retI X0 hx hlk hret (hb hby d5_59) N0 (by decide) (by decide) ?_
    exact ⟨_, rfl, e0⟩
  · refine g_lswHit X0 hx (hb hby d5_8) (by decide) (a := 1) (off := 32) (by rw [hz, hk]; decide) (by decide) (pc' := 40) (by decide) ?_
    refine g_bipush X0 hx (hb hby d5_40) (v := 31) (by decide) (pc' := 42) rfl ?_
    refine g_aloadN X0 hx (hb hby d5_42) (v := (.ref t)) rfl rfl (pc' := 43) rfl ?_
    refine g_iconst X0 hx (hb hby d5_43) (v := 0) (by decide) (pc' := 44) rfl ?_
    refine g_iaload X0 hx hZ e0 (k := 0) Fp0 rfl (by omega) (hb hby d5_44) (pc' := 45) rfl ?_
    refine g_iadd X0 hx (hb hby d5_45) (pc' := 46) rfl ?_
    refine g_goto X0 hx (hb hby d5_46) (by decide) (pc' := 59) (by decide) ?_
    refine g_retI X0 hx hlk hret (hb hby d5_59) N0 (by decide) (by decide) ?_
    exact ⟨_, rfl, e0⟩
  · refine g_lswMiss X0 hx (hb hby d5_8) (by decide) (by rw [hz]; simp [Array.find?_eq_none]; omega) (by decide) (pc' := 49) (by decide) ?_
    refine g_aloadN X0 hx (hb hby d5_49) (v := (.ref t)) rfl rfl (pc' := 50) rfl ?_
    refine g_iconst X0 hx (hb hby d5_50) (v := 0) (by decide) (pc' := 51) rfl ?_
    refine g_aloadN X0 hx (hb hby d5_51) (v := (.ref t)) rfl rfl (pc' := 52) rfl ?_
    refine g_lenIA X0 hx hZ e0 (z := z) Fp0 hz (hb hby d5_52) (pc' := 53) rfl ?_
    refine g_iconst X0 hx (hb hby d5_53) (v := 1) (by decide) (pc' := 54) rfl ?_
    refine g_bipush X0 hx (hb hby d5_54) (v := 10) (by decide) (pc' := 56) rfl ?_
    refine g_static X0 hx hZ hown (hw _ (List.mem_of_getElem? (i := 61) rfl)) (hw _ (List.mem_of_getElem? (i := 62) rfl)) (hw _ (List.mem_of_getElem? (i := 63) rfl)) (hw _ (List.mem_of_getElem? (i := 64) rfl)) (by decide) (argsL := [(.ref t), (.int (0 : Int32)), (.int z), (.int (1 : Int32)), (.int (10 : Int32))]) (rm4 l Z a0 hw t z n f h0 n0 Z0 Fp0 Fp1 hz) rfl e0 (by rw [hml]; rfl) pd_5 rfl (rest := []) rfl (W := 0) (Nat.le_of_eq rfl) (by decide) (by decide) (by decide) (by decide) N0 (hb hby d5_56) (pc' := 59) rfl (fun v1 T2 L3 X4 N5 q6 => ?_)
    obtain ⟨b7, rfl, K8⟩ := q6
    have lt9 : (0 : Int32).toInt = 0 := rfl
    have lt10 : (1 : Int32).toInt = 1 := rfl
    have lt11 : (10 : Int32).toInt = 10 := rfl
    show OGoes p e s below (Q5 Z t n f z h0 n0) n0 R5.cells R5.slots T2 (mkF m 59 #[.val (.ref t)] [(.int b7)])
    refine g_retI X4 hx hlk hret (hb hby d5_59) N5 (by decide) (by decide) ?_
    exact ⟨_, rfl, K8⟩
theorem d3_0 : decode prog_325_method_1_code 0 = .ok (.aload_n 0, 1) := by decide +kernel
theorem d3_1 : decode prog_325_method_1_code 1 = .ok (.invokespecial 1, 3) := by decide +kernel
theorem d3_4 : decode prog_325_method_1_code 4 = .ok (.aload_n 0, 1) := by decide +kernel
theorem d3_5 : decode prog_325_method_1_code 5 = .ok (.aload_n 1, 1) := by decide +kernel
theorem d3_6 : decode prog_325_method_1_code 6 = .ok (.invokevirtual 7, 3) := by decide +kernel
theorem d3_9 : decode prog_325_method_1_code 9 = .ok (.checkcast 8, 3) := by decide +kernel
theorem d3_12 : decode prog_325_method_1_code 12 = .ok (.putfield 13, 3) := by decide +kernel
theorem d3_15 : decode prog_325_method_1_code 15 = .ok (.aload_n 0, 1) := by decide +kernel
theorem d3_16 : decode prog_325_method_1_code 16 = .ok (.aload_n 1, 1) := by decide +kernel
theorem d3_17 : decode prog_325_method_1_code 17 = .ok (.invokestatic 18, 3) := by decide +kernel
theorem d3_20 : decode prog_325_method_1_code 20 = .ok (.putfield 24, 3) := by decide +kernel
theorem d3_23 : decode prog_325_method_1_code 23 = .ok (.return_, 1) := by decide +kernel
theorem pn_5 : plainFor (⟨"com/example/vetter/vetter/space/Pattern", "<init>", "([I)V"⟩ : MethodName) = true := by first | exact plainFor_of_name (by first | (simp [plainName, overriddenIn]; done) | decide +kernel) | decide +kernel
def Q6 (Z : State) (a : Addr) (sa : Addr) (n : Nat) (f : Nat → Int32) (z : Int32) (h0 : Heap) (n0 : Nat) (v : Option Value) (h : Heap) : Prop := ∃ t : Addr, v = none ∧ NLe h0.size t ∧ Keep h0 h [a] ∧ Exa Z h a "com/example/vetter/vetter/space/Pattern" ∧ Fld Z h a "com/example/vetter/vetter/space/Pattern" "fields" "[I" (.ref t) ∧ IA Z h t n f
abbrev R6 : Room := { frames := 3, cells := 1, slots := 3, locals := 50 }
set_option maxRecDepth 65536 in
set_option maxHeartbeats 40000000 in
theorem rm6 (l : Launch) (Z : State) (a0 : Array Value) (hw : ∀ d ∈ tables_1, d.before a0 Z = true)  (a : Addr) (sa : Addr) (n : Nat) (f : Nat → Int32) (z : Int32) (h0 : Heap) (n0 : Nat) (Z0 : NLe n0 h0.size) (Fp0 : Fld Z h0 a "com/example/vetter/vetter/space/Pattern" "fields" "[I" .null) (Fp1 : Fld Z h0 a "com/example/vetter/vetter/space/Pattern" "hash" "I" (.int (0 : Int32))) (Fp2 : Exa Z h0 a "com/example/vetter/vetter/space/Pattern") (Fp3 : IA Z h0 sa n f) (Fp4 : Exa Z h0 sa "[I") (hz : z.toInt = (n : Int)) (hn3 : n ≤ 3) (gn_a : NLe n0 a) (ne_a_sa : Apart a sa) :
    Con l (⟨"com/example/vetter/vetter/space/Pattern", "<init>", "([I)V"⟩ : MethodName) prog_325_method_1_code 2 none [] R6 Z #[(.ref a), (.ref sa)] h0 n0 (Q6 Z a sa n f z h0 n0) := by
  refine con_of (Ls0 := #[.val (.ref a), .val (.ref sa)]) pn_5 (fun m => by first | (simp [entryFrame, mkF, argsToLocals, Value.category, maxLocals]; done) | rfl) ?_
  intro p e s m below meth c s₁ X0 hx hby hml hZ hown hnm hret hlk e0 N0
  show OGoes p e s below (Q6 Z a sa n f z h0 n0) n0 R6.cells R6.slots s₁ (mkF m 0 #[.val (.ref a), .val (.ref sa)] [])
  have K0 : Keep h0 h0 [a] := Keep.refl _ _
  refine g_aloadN X0 hx (hb hby d3_0) (v := (.ref a)) rfl rfl (pc' := 1) rfl ?_
  refine g_initO X0 hx hZ hown (hw _ (List.mem_of_getElem? (i := 14) rfl)) (hw _ (List.mem_of_getElem? (i := 15) rfl)) (hw _ (List.mem_of_getElem? (i := 16) rfl)) e0 (by rw [hml]; rfl) (hb hby d3_1) (by decide) (W := 0) (Nat.le_of_eq rfl) (by decide) (pc' := 4) rfl (fun T1 X2 e3 => ?_)
  refine g_aloadN X2 hx (hb hby d3_4) (v := (.ref a)) rfl rfl (pc' := 5) rfl ?_
  refine g_aloadN X2 hx (hb hby d3_5) (v := (.ref sa)) rfl rfl (pc' := 6) rfl ?_
  refine g_cloneIA X2 hx hZ hown (hw _ (List.mem_of_getElem? (i := 17) rfl)) (hw _ (List.mem_of_getElem? (i := 18) rfl)) (hw _ (List.mem_of_getElem? (i := 22) rfl)) (hw _ (List.mem_of_getElem? (i := 20) rfl)) (hw _ (List.mem_of_getElem? (i := 21) rfl)) (hw _ (List.mem_of_getElem? (i := 23) rfl)) e3 Fp3 Fp4 (by rw [hml]; rfl) (hb hby d3_6) (by decide) (W := 1) (cap := 3) (Nat.le_of_eq rfl) (by decide) hn3 (by decide) (by decide) (pc' := 9) rfl (fun T4 h5 a6 g7 X8 e9 E10 l11 A12 E13 => ?_)
  have Z14 : NLe n0 h5.size := Z0.tr E10.1
  have nl15 : NLe n0 a6 := NLe.at g7 Z0
  have ne16 : Apart a a6 := Apart.new g7 Fp0.lt
  have ne17 : Apart sa a6 := Apart.new g7 Fp3.lt
  have F18 := Fld.ext E10 Fp0
  have F19 := Fld.ext E10 Fp1
  have F20 := Exa.ext E10 Fp2
  have F21 := Fp3.ext E10
  have F22 := Exa.ext E10 Fp4
  have kf23 : NLe h0.size a6 := NLe.at g7 K0.1
  have K24 := K0.ext E10
  clear g7 l11
  refine g_cast X8 hx hZ hown (hw _ (List.mem_of_getElem? (i := 24) rfl)) e9 E13 (hb hby d3_9) (pc' := 12) rfl (fun T25 X26 e27 => ?_)
  refine g_putF X26 hx hZ hown (hw _ (List.mem_of_getElem? (i := 26) rfl)) e27 (v := (.ref a6)) F18 F20 (Or.inr ⟨(hw _ (List.mem_of_getElem? (i := 27) rfl)), rfl, hnm⟩) (hw _ (List.mem_of_getElem? (i := 5) rfl)) (ty := (.array .int)) (by decide) rfl rfl N0 gn_a (hb hby d3_12) (pc' := 15) rfl (fun T28 h29 L30 X31 e32 W33 N34 => ?_)
  have K35 := K24.wr W33 (Or.inl (by simp))
  have Z36 : NLe n0 h29.size := Z14.wr W33
  have F37 := Fld.same W33 F18
  have F38 := Fld.other W33 F19 (Or.inr (slot_ne (Or.inr (hw _ (List.mem_of_getElem? (i := 33) rfl))) (Or.inr (hw _ (List.mem_of_getElem? (i := 27) rfl))) (by decide) (t := .int) (t' := (.array .int)) (by decide) (by decide)))
  have F39 := Exa.wr W33 F20
  have F40 := F21.other W33 ne_a_sa.symm
  have F41 := Exa.wr W33 F22
  have F42 := Exa.wr W33 E13
  have F43 := A12.other W33 ne16.symm
  refine g_aloadN X31 hx (hb hby d3_15) (v := (.ref a)) rfl rfl (pc' := 16) rfl ?_
  refine g_aloadN X31 hx (hb hby d3_16) (v := (.ref sa)) rfl rfl (pc' := 17) rfl ?_
  refine g_static X31 hx hZ hown (hw _ (List.mem_of_getElem? (i := 28) rfl)) (hw _ (List.mem_of_getElem? (i := 29) rfl)) (hw _ (List.mem_of_getElem? (i := 30) rfl)) (hw _ (List.mem_of_getElem? (i := 31) rfl)) (by decide) (argsL := [(.ref sa)]) (rm5 l Z a0 hw sa n f z h29 n0 Z36 F40 F41 hz) rfl e32 (by rw [hml]; rfl) pd_6 rfl (rest := [(.ref a)]) rfl (W := 1) (Nat.le_of_eq rfl) (by decide) (by decide) (by decide) (by decide) N34 (hb hby d3_17) (pc' := 20) rfl (fun v44 T45 L46 X47 N48 q49 => ?_)
  obtain ⟨b50, rfl, K51⟩ := q49
  show OGoes p e s below (Q6 Z a sa n f z h0 n0) n0 R6.cells R6.slots T45 (mkF m 20 #[.val (.ref a), .val (.ref sa)] [(.int b50), (.ref a)])
  refine g_putF X47 hx hZ hown (hw _ (List.mem_of_getElem? (i := 32) rfl)) K51 (v := (.int b50)) F38 F39 (Or.inr ⟨(hw _ (List.mem_of_getElem? (i := 33) rfl)), rfl, hnm⟩) (hw _ (List.mem_of_getElem? (i := 5) rfl)) (ty := .int) (by decide) rfl rfl N48 gn_a (hb hby d3_20) (pc' := 23) rfl (fun T52 h53 L54 X55 e56 W57 N58 => ?_)
  have K59 := K35.wr W57 (Or.inl (by simp))
  have Z60 : NLe n0 h53.size := Z36.wr W57
  have F61 := Fld.other W57 F37 (Or.inr (slot_ne (Or.inr (hw _ (List.mem_of_getElem? (i := 27) rfl))) (Or.inr (hw _ (List.mem_of_getElem? (i := 33) rfl))) (by decide) (t := (.array .int)) (t' := .int) (by decide) (by decide)))
  have F63 := Exa.wr W57 F39
  have F64 := F40.other W57 ne_a_sa.symm
  have F65 := Exa.wr W57 F41
  have F66 := Exa.wr W57 F42
  have F67 := F43.other W57 ne16.symm
  refine g_retV X55 hx hlk hret (hb hby d3_23) N58 (by decide) (by decide) ?_
  rw [e56]
  exact ⟨a6, rfl, kf23, K59, F63, F61, F67⟩
theorem d7_0 : decode prog_353_method_1_code 0 = .ok (.aload_n 0, 1) := by decide +kernel
theorem d7_1 : decode prog_353_method_1_code 1 = .ok (.invokespecial 1, 3) := by decide +kernel
theorem d7_4 : decode prog_353_method_1_code 4 = .ok (.aload_n 0, 1) := by decide +kernel
theorem d7_5 : decode prog_353_method_1_code 5 = .ok (.aload_n 1, 1) := by decide +kernel
theorem d7_6 : decode prog_353_method_1_code 6 = .ok (.invokevirtual 7, 3) := by decide +kernel
theorem d7_9 : decode prog_353_method_1_code 9 = .ok (.checkcast 8, 3) := by decide +kernel
theorem d7_12 : decode prog_353_method_1_code 12 = .ok (.putfield 13, 3) := by decide +kernel
theorem d7_15 : decode prog_353_method_1_code 15 = .ok (.aload_n 0, 1) := by decide +kernel
theorem d7_16 : decode prog_353_method_1_code 16 = .ok (.aload_n 1, 1) := by decide +kernel
theorem d7_17 : decode prog_353_method_1_code 17 = .ok (.invokestatic 18, 3) := by decide +kernel
theorem d7_20 : decode prog_353_method_1_code 20 = .ok (.putfield 24, 3) := by decide +kernel
theorem d7_23 : decode prog_353_method_1_code 23 = .ok (.return_, 1) := by decide +kernel
theorem pn_6 : plainFor (⟨"com/example/vetter/vetter/space/Tuple", "<init>", "([I)V"⟩ : MethodName) = true := by first | exact plainFor_of_name (by first | (simp [plainName, overriddenIn]; done) | decide +kernel) | decide +kernel
def Q7 (Z : State) (a : Addr) (sa : Addr) (n : Nat) (f : Nat → Int32) (z : Int32) (h0 : Heap) (n0 : Nat) (v : Option Value) (h : Heap) : Prop := ∃ t : Addr, v = none ∧ NLe h0.size t ∧ Keep h0 h [a] ∧ Exa Z h a "com/example/vetter/vetter/space/Tuple" ∧ Fld Z h a "com/example/vetter/vetter/space/Tuple" "fields" "[I" (.ref t) ∧ IA Z h t n f
abbrev R7 : Room := { frames := 3, cells := 1, slots := 3, locals := 50 }
set_option maxRecDepth 65536 in
set_option maxHeartbeats 40000000 in
theorem rm7 (l : Launch) (Z : State) (a0 : Array Value) (hw : ∀ d ∈ tables_1, d.before a0 Z = true)  (a : Addr) (sa : Addr) (n : Nat) (f : Nat → Int32) (z : Int32) (h0 : Heap) (n0 : Nat) (Z0 : NLe n0 h0.size) (Fp0 : Fld Z h0 a "com/example/vetter/vetter/space/Tuple" "fields" "[I" .null) (Fp1 : Fld Z h0 a "com/example/vetter/vetter/space/Tuple" "hash" "I" (.int (0 : Int32))) (Fp2 : Exa Z h0 a "com/example/vetter/vetter/space/Tuple") (Fp3 : IA Z h0 sa n f) (Fp4 : Exa Z h0 sa "[I") (hz : z.toInt = (n : Int)) (hn3 : n ≤ 3) (gn_a : NLe n0 a) (ne_a_sa : Apart a sa) :
    Con l (⟨"com/example/vetter/vetter/space/Tuple", "<init>", "([I)V"⟩ : MethodName) prog_353_method_1_code 2 none [] R7 Z #[(.ref a), (.ref sa)] h0 n0 (Q7 Z a sa n f z h0 n0) := by
  refine con_of (Ls0 := #[.val (.ref a), .val (.ref sa)]) pn_6 (fun m => by first | (simp [entryFrame, mkF, argsToLocals, Value.category, maxLocals]; done) | rfl) ?_
  intro p e s m below meth c s₁ X0 hx hby hml hZ hown hnm hret hlk e0 N0
  show OGoes p e s below (Q7 Z a sa n f z h0 n0) n0 R7.cells R7.slots s₁ (mkF m 0 #[.val (.ref a), .val (.ref sa)] [])
  have K0 : Keep h0 h0 [a] := Keep.refl _ _
  refine g_aloadN X0 hx (hb hby d7_0) (v := (.ref a)) rfl rfl (pc' := 1) rfl ?_
  refine g_initO X0 hx hZ hown (hw _ (List.mem_of_getElem? (i := 43) rfl)) (hw _ (List.mem_of_getElem? (i := 15) rfl)) (hw _ (List.mem_of_getElem? (i := 16) rfl)) e0 (by rw [hml]; rfl) (hb hby d7_1) (by decide) (W := 0) (Nat.le_of_eq rfl) (by decide) (pc' := 4) rfl (fun T1 X2 e3 => ?_)
  refine g_aloadN X2 hx (hb hby d7_4) (v := (.ref a)) rfl rfl (pc' := 5) rfl ?_
  refine g_aloadN X2 hx (hb hby d7_5) (v := (.ref sa)) rfl rfl (pc' := 6) rfl ?_
  refine g_cloneIA X2 hx hZ hown (hw _ (List.mem_of_getElem? (i := 44) rfl)) (hw _ (List.mem_of_getElem? (i := 18) rfl)) (hw _ (List.mem_of_getElem? (i := 22) rfl)) (hw _ (List.mem_of_getElem? (i := 20) rfl)) (hw _ (List.mem_of_getElem? (i := 21) rfl)) (hw _ (List.mem_of_getElem? (i := 23) rfl)) e3 Fp3 Fp4 (by rw [hml]; rfl) (hb hby d7_6) (by decide) (W := 1) (cap := 3) (Nat.le_of_eq rfl) (by decide) hn3 (by decide) (by decide) (pc' := 9) rfl (fun T4 h5 a6 g7 X8 e9 E10 l11 A12 E13 => ?_)
  have Z14 : NLe n0 h5.size := Z0.tr E10.1
  have nl15 : NLe n0 a6 := NLe.at g7 Z0
  have ne16 : Apart a a6 := Apart.new g7 Fp0.lt
  have ne17 : Apart sa a6 := Apart.new g7 Fp3.lt
  have F18 := Fld.ext E10 Fp0
  have F19 := Fld.ext E10 Fp1
  have F20 := Exa.ext E10 Fp2
  have F21 := Fp3.ext E10
  have F22 := Exa.ext E10 Fp4
  have kf23 : NLe h0.size a6 := NLe.at g7 K0.1
  have K24 := K0.ext E10
  clear g7 l11
  refine g_cast X8 hx hZ hown (hw _ (List.mem_of_getElem? (i := 45) rfl)) e9 E13 (hb hby d7_9) (pc' := 12) rfl (fun T25 X26 e27 => ?_)
  refine g_putF X26 hx hZ hown (hw _ (List.mem_of_getElem? (i := 46) rfl)) e27 (v := (.ref a6)) F18 F20 (Or.inr ⟨(hw _ (List.mem_of_getElem? (i := 47) rfl)), rfl, hnm⟩) (hw _ (List.mem_of_getElem? (i := 35) rfl)) (ty := (.array .int)) (by decide) rfl rfl N0 gn_a (hb hby d7_12) (pc' := 15) rfl (fun T28 h29 L30 X31 e32 W33 N34 => ?_)
  have K35 := K24.wr W33 (Or.inl (by simp))
  have Z36 : NLe n0 h29.size := Z14.wr W33
  have F37 := Fld.same W33 F18
  have F38 := Fld.other W33 F19 (Or.inr (slot_ne (Or.inr (hw _ (List.mem_of_getElem? (i := 50) rfl))) (Or.inr (hw _ (List.mem_of_getElem? (i := 47) rfl))) (by decide) (t := .int) (t' := (.array .int)) (by decide) (by decide)))
  have F39 := Exa.wr W33 F20
  have F40 := F21.other W33 ne_a_sa.symm
  have F41 := Exa.wr W33 F22
  have F42 := Exa.wr W33 E13
  have F43 := A12.other W33 ne16.symm
  refine g_aloadN X31 hx (hb hby d7_15) (v := (.ref a)) rfl rfl (pc' := 16) rfl ?_
  refine g_aloadN X31 hx (hb hby d7_16) (v := (.ref sa)) rfl rfl (pc' := 17) rfl ?_
  refine g_static X31 hx hZ hown (hw _ (List.mem_of_getElem? (i := 48) rfl)) (hw _ (List.mem_of_getElem? (i := 29) rfl)) (hw _ (List.mem_of_getElem? (i := 30) rfl)) (hw _ (List.mem_of_getElem? (i := 31) rfl)) (by decide) (argsL := [(.ref sa)]) (rm5 l Z a0 hw sa n f z h29 n0 Z36 F40 F41 hz) rfl e32 (by rw [hml]; rfl) pd_6 rfl (rest := [(.ref a)]) rfl (W := 1) (Nat.le_of_eq rfl) (by decide) (by decide) (by decide) (by decide) N34 (hb hby d7_17) (pc' := 20) rfl (fun v44 T45 L46 X47 N48 q49 => ?_)
  obtain ⟨b50, rfl, K51⟩ := q49
  show OGoes p e s below (Q7 Z a sa n f z h0 n0) n0 R7.cells R7.slots T45 (mkF m 20 #[.val (.ref a), .val (.ref sa)] [(.int b50), (.ref a)])
  refine g_putF X47 hx hZ hown (hw _ (List.mem_of_getElem? (i := 49) rfl)) K51 (v := (.int b50)) F38 F39 (Or.inr ⟨(hw _ (List.mem_of_getElem? (i := 50) rfl)), rfl, hnm⟩) (hw _ (List.mem_of_getElem? (i := 35) rfl)) (ty := .int) (by decide) rfl rfl N48 gn_a (hb hby d7_20) (pc' := 23) rfl (fun T52 h53 L54 X55 e56 W57 N58 => ?_)
  have K59 := K35.wr W57 (Or.inl (by simp))
  have Z60 : NLe n0 h53.size := Z36.wr W57
  have F61 := Fld.other W57 F37 (Or.inr (slot_ne (Or.inr (hw _ (List.mem_of_getElem? (i := 47) rfl))) (Or.inr (hw _ (List.mem_of_getElem? (i := 50) rfl))) (by decide) (t := (.array .int)) (t' := .int) (by decide) (by decide)))
  have F63 := Exa.wr W57 F39
  have F64 := F40.other W57 ne_a_sa.symm
  have F65 := Exa.wr W57 F41
  have F66 := Exa.wr W57 F42
  have F67 := F43.other W57 ne16.symm
  refine g_retV X55 hx hlk hret (hb hby d7_23) N58 (by decide) (by decide) ?_
  rw [e56]
  exact ⟨a6, rfl, kf23, K59, F63, F61, F67⟩
def own_meet (x y : Int32) : Int32 := if x = -1 then (if y = -1 then 0 else y) else x
theorem d6_0 : decode method_5_code 0 = .ok (.iload_n 0, 1) := by decide +kernel
theorem d6_1 : decode method_5_code 1 = .ok (.iconst (-1), 1) := by decide +kernel
theorem d6_2 : decode method_5_code 2 = .ok (.if_icmp .eq 5, 3) := by decide +kernel
theorem d6_5 : decode method_5_code 5 = .ok (.iload_n 0, 1) := by decide +kernel
theorem d6_6 : decode method_5_code 6 = .ok (.ireturn, 1) := by decide +kernel
theorem d6_7 : decode method_5_code 7 = .ok (.iload_n 1, 1) := by decide +kernel
theorem d6_8 : decode method_5_code 8 = .ok (.iconst (-1), 1) := by decide +kernel
theorem d6_9 : decode method_5_code 9 = .ok (.if_icmp .eq 5, 3) := by decide +kernel
theorem d6_12 : decode method_5_code 12 = .ok (.iload_n 1, 1) := by decide +kernel
theorem d6_13 : decode method_5_code 13 = .ok (.ireturn, 1) := by decide +kernel
theorem d6_14 : decode method_5_code 14 = .ok (.iconst 0, 1) := by decide +kernel
theorem d6_15 : decode method_5_code 15 = .ok (.ireturn, 1) := by decide +kernel
theorem pn_7 : plainFor (⟨"com/example/vetter/vetter/space/PatternOverlapsPinLaw", "meet", "(II)I"⟩ : MethodName) = true := by first | exact plainFor_of_name (by first | (simp [plainName, overriddenIn]; done) | decide +kernel) | decide +kernel
def Q8 (Z : State) (p1 : Int32) (p2 : Int32) (h0 : Heap) (n0 : Nat) (v : Option Value) (h : Heap) : Prop := ∃ b : Int32, v = some (.int b) ∧ (¬ p1.toInt = -1 ∧ b.toInt = p1.toInt ∨ p1.toInt = -1 ∧ ¬ p2.toInt = -1 ∧ b.toInt = p2.toInt ∨ p1.toInt = -1 ∧ p2.toInt = -1 ∧ b.toInt = 0) ∧ h = h0
abbrev R8 : Room := { frames := 0, cells := 0, slots := 0, locals := 0 }
set_option maxRecDepth 65536 in
set_option maxHeartbeats 40000000 in
theorem rm8 (l : Launch) (Z : State) (a0 : Array Value) (hw : ∀ d ∈ tables_1, d.before a0 Z = true)  (p1 : Int32) (p2 : Int32) (h0 : Heap) (n0 : Nat) (Z0 : NLe n0 h0.size)  :
    Con l (⟨"com/example/vetter/vetter/space/PatternOverlapsPinLaw", "meet", "(II)I"⟩ : MethodName) method_5_code 2 (some .int) [] R8 Z #[(.int p1), (.int p2)] h0 n0 (Q8 Z p1 p2 h0 n0) := by
  refine con_of (Ls0 := #[.val (.int p1), .val (.int p2)]) pn_7 (fun m => by first | (simp [entryFrame, mkF, argsToLocals, Value.category, maxLocals]; done) | rfl) ?_
  intro p e s m below meth c s₁ X0 hx hby hml hZ hown hnm hret hlk e0 N0
  show OGoes p e s below (Q8 Z p1 p2 h0 n0) n0 R8.cells R8.slots s₁ (mkF m 0 #[.val (.int p1), .val (.int p2)] [])
  have l0 : (0 : Int32).toInt = 0 := rfl
  refine g_iloadN X0 hx (hb hby d6_0) (v := p1) rfl (pc' := 1) rfl ?_
  refine g_iconst X0 hx (hb hby d6_1) (v := -1) (by decide) (pc' := 2) rfl ?_
  refine g_ii_eq X0 hx (a := p1.toInt) (b := (-1)) rfl rfl (hb hby d6_2) (by decide) (pc' := 7) (by decide) (pc2 := 5) rfl (fun c1 => ?_) (fun c1 => ?_)
  · refine g_iloadN X0 hx (hb hby d6_7) (v := p2) rfl (pc' := 8) rfl ?_
    refine g_iconst X0 hx (hb hby d6_8) (v := -1) (by decide) (pc' := 9) rfl ?_
    refine g_ii_eq X0 hx (a := p2.toInt) (b := (-1)) rfl rfl (hb hby d6_9) (by decide) (pc' := 14) (by decide) (pc2 := 12) rfl (fun c2 => ?_) (fun c2 => ?_)
    · refine g_iconst X0 hx (hb hby d6_14) (v := 0) (by decide) (pc' := 15) rfl ?_
      refine g_retI X0 hx hlk hret (hb hby d6_15) N0 (by decide) (by decide) ?_
      exact ⟨_, rfl, by omega, e0⟩
    · refine g_iloadN X0 hx (hb hby d6_12) (v := p2) rfl (pc' := 13) rfl ?_
      refine g_retI X0 hx hlk hret (hb hby d6_13) N0 (by decide) (by decide) ?_
      exact ⟨_, rfl, by omega, e0⟩
  · refine g_iloadN X0 hx (hb hby d6_5) (v := p1) rfl (pc' := 6) rfl ?_
    refine g_retI X0 hx hlk hret (hb hby d6_6) N0 (by decide) (by decide) ?_
    exact ⟨_, rfl, by omega, e0⟩
theorem d12_0 : decode method_4_code 0 = .ok (.iload_n 0, 1) := by decide +kernel
theorem d12_1 : decode method_4_code 1 = .ok (.iconst (-1), 1) := by decide +kernel
theorem d12_2 : decode method_4_code 2 = .ok (.if_icmp .eq 13, 3) := by decide +kernel
theorem d12_5 : decode method_4_code 5 = .ok (.iload_n 1, 1) := by decide +kernel
theorem d12_6 : decode method_4_code 6 = .ok (.iconst (-1), 1) := by decide +kernel
theorem d12_7 : decode method_4_code 7 = .ok (.if_icmp .eq 8, 3) := by decide +kernel
theorem d12_10 : decode method_4_code 10 = .ok (.iload_n 0, 1) := by decide +kernel
theorem d12_11 : decode method_4_code 11 = .ok (.iload_n 1, 1) := by decide +kernel
theorem d12_12 : decode method_4_code 12 = .ok (.if_icmp .ne 7, 3) := by decide +kernel
theorem d12_15 : decode method_4_code 15 = .ok (.iconst 1, 1) := by decide +kernel
theorem d12_16 : decode method_4_code 16 = .ok (.goto 4, 3) := by decide +kernel
theorem d12_19 : decode method_4_code 19 = .ok (.iconst 0, 1) := by decide +kernel
theorem d12_20 : decode method_4_code 20 = .ok (.ireturn, 1) := by decide +kernel
theorem pn_8 : plainFor (⟨"com/example/vetter/vetter/space/PatternOverlapsPinLaw", "agree", "(II)Z"⟩ : MethodName) = true := by first | exact plainFor_of_name (by first | (simp [plainName, overriddenIn]; done) | decide +kernel) | decide +kernel
def Q9 (Z : State) (p1 : Int32) (p2 : Int32) (h0 : Heap) (n0 : Nat) (v : Option Value) (h : Heap) : Prop := ∃ b : Int32, v = some (.int b) ∧ ((p1.toInt = -1 ∨ p2.toInt = -1 ∨ p1.toInt = p2.toInt) ∧ b.toInt = 1 ∨ ¬ (p1.toInt = -1 ∨ p2.toInt = -1 ∨ p1.toInt = p2.toInt) ∧ b.toInt = 0) ∧ h = h0
abbrev R9 : Room := { frames := 0, cells := 0, slots := 0, locals := 0 }
set_option maxRecDepth 65536 in
set_option maxHeartbeats 40000000 in
theorem rm9 (l : Launch) (Z : State) (a0 : Array Value) (hw : ∀ d ∈ tables_1, d.before a0 Z = true)  (p1 : Int32) (p2 : Int32) (h0 : Heap) (n0 : Nat) (Z0 : NLe n0 h0.size)  :
    Con l (⟨"com/example/vetter/vetter/space/PatternOverlapsPinLaw", "agree", "(II)Z"⟩ : MethodName) method_4_code 2 (some .boolean) [] R9 Z #[(.int p1), (.int p2)] h0 n0 (Q9 Z p1 p2 h0 n0) := by
  refine con_of (Ls0 := #[.val (.int p1), .val (.int p2)]) pn_8 (fun m => by first | (simp [entryFrame, mkF, argsToLocals, Value.category, maxLocals]; done) | rfl) ?_
  intro p e s m below meth c s₁ X0 hx hby hml hZ hown hnm hret hlk e0 N0
  show OGoes p e s below (Q9 Z p1 p2 h0 n0) n0 R9.cells R9.slots s₁ (mkF m 0 #[.val (.int p1), .val (.int p2)] [])
  refine g_iloadN X0 hx (hb hby d12_0) (v := p1) rfl (pc' := 1) rfl ?_
  refine g_iconst X0 hx (hb hby d12_1) (v := -1) (by decide) (pc' := 2) rfl ?_
  refine g_ii_eq X0 hx (a := p1.toInt) (b := (-1)) rfl rfl (hb hby d12_2) (by decide) (pc' := 15) (by decide) (pc2 := 5) rfl (fun c1 => ?_) (fun c1 => ?_)
  · refine g_iconst X0 hx (hb hby d12_15) (v := 1) (by decide) (pc' := 16) rfl ?_
    refine g_goto X0 hx (hb hby d12_16) (by decide) (pc' := 20) (by decide) ?_
    refine g_retZ X0 hx hlk (by decide) hret (hb hby d12_20) N0 (by decide) (by decide) ?_
    exact ⟨_, rfl, by first | exact Or.inl ⟨by omega, rfl⟩ | exact Or.inr ⟨by omega, rfl⟩, e0⟩
  · refine g_iloadN X0 hx (hb hby d12_5) (v := p2) rfl (pc' := 6) rfl ?_
    refine g_iconst X0 hx (hb hby d12_6) (v := -1) (by decide) (pc' := 7) rfl ?_
    refine g_ii_eq X0 hx (a := p2.toInt) (b := (-1)) rfl rfl (hb hby d12_7) (by decide) (pc' := 15) (by decide) (pc2 := 10) rfl (fun c2 => ?_) (fun c2 => ?_)
    · refine g_iconst X0 hx (hb hby d12_15) (v := 1) (by decide) (pc' := 16) rfl ?_
      refine g_goto X0 hx (hb hby d12_16) (by decide) (pc' := 20) (by decide) ?_
      refine g_retZ X0 hx hlk (by decide) hret (hb hby d12_20) N0 (by decide) (by decide) ?_
      exact ⟨_, rfl, by first | exact Or.inl ⟨by omega, rfl⟩ | exact Or.inr ⟨by omega, rfl⟩, e0⟩
    · refine g_iloadN X0 hx (hb hby d12_10) (v := p1) rfl (pc' := 11) rfl ?_
      refine g_iloadN X0 hx (hb hby d12_11) (v := p2) rfl (pc' := 12) rfl ?_
      refine g_ii_ne X0 hx (a := p1.toInt) (b := p2.toInt) rfl rfl (hb hby d12_12) (by decide) (pc' := 19) (by decide) (pc2 := 15) rfl (fun c3 => ?_) (fun c3 => ?_)
      · refine g_iconst X0 hx (hb hby d12_19) (v := 0) (by decide) (pc' := 20) rfl ?_
        refine g_retZ X0 hx hlk (by decide) hret (hb hby d12_20) N0 (by decide) (by decide) ?_
        exact ⟨_, rfl, by first | exact Or.inl ⟨by omega, rfl⟩ | exact Or.inr ⟨by omega, rfl⟩, e0⟩
      · refine g_iconst X0 hx (hb hby d12_15) (v := 1) (by decide) (pc' := 16) rfl ?_
        refine g_goto X0 hx (hb hby d12_16) (by decide) (pc' := 20) (by decide) ?_
        refine g_retZ X0 hx hlk (by decide) hret (hb hby d12_20) N0 (by decide) (by decide) ?_
        exact ⟨_, rfl, by first | exact Or.inl ⟨by omega, rfl⟩ | exact Or.inr ⟨by omega, rfl⟩, e0⟩
theorem d13_0 : decode prog_353_method_3_code 0 = .ok (.aload_n 0, 1) := by decide +kernel
theorem d13_1 : decode prog_353_method_3_code 1 = .ok (.getfield 13, 3) := by decide +kernel
theorem d13_4 : decode prog_353_method_3_code 4 = .ok (.iload_n 1, 1) := by decide +kernel
theorem d13_5 : decode prog_353_method_3_code 5 = .ok (.iaload, 1) := by decide +kernel
theorem d13_6 : decode prog_353_method_3_code 6 = .ok (.ireturn, 1) := by decide +kernel
theorem pn_9 : plainFor (⟨"com/example/vetter/vetter/space/Tuple", "field", "(I)I"⟩ : MethodName) = true := by first | exact plainFor_of_name (by first | (simp [plainName, overriddenIn]; done) | decide +kernel) | decide +kernel
def Q10 (Z : State) (a : Addr) (p1 : Int32) (t : Addr) (n : Nat) (f : Nat → Int32) (k : Nat) (z : Int32) (h0 : Heap) (n0 : Nat) (v : Option Value) (h : Heap) : Prop := v = some (.int (f k)) ∧ h = h0
abbrev R10 : Room := { frames := 0, cells := 0, slots := 0, locals := 0 }
set_option maxRecDepth 65536 in
set_option maxHeartbeats 40000000 in
theorem rm10 (l : Launch) (Z : State) (a0 : Array Value) (hw : ∀ d ∈ tables_1, d.before a0 Z = true)  (a : Addr) (p1 : Int32) (t : Addr) (n : Nat) (f : Nat → Int32) (k : Nat) (z : Int32) (h0 : Heap) (n0 : Nat) (Z0 : NLe n0 h0.size) (Fp0 : Fld Z h0 a "com/example/vetter/vetter/space/Tuple" "fields" "[I" (.ref t)) (Fp1 : IA Z h0 t n f) (hk : p1.toInt = (k : Int)) (hkn : k < n) :
    Con l (⟨"com/example/vetter/vetter/space/Tuple", "field", "(I)I"⟩ : MethodName) prog_353_method_3_code 2 (some .int) [] R10 Z #[(.ref a), (.int p1)] h0 n0 (Q10 Z a p1 t n f k z h0 n0) := by
  refine con_of (Ls0 := #[.val (.ref a), .val (.int p1)]) pn_9 (fun m => by first | (simp [entryFrame, mkF, argsToLocals, Value.category, maxLocals]; done) | rfl) ?_
  intro p e s m below meth c s₁ X0 hx hby hml hZ hown hnm hret hlk e0 N0
  show OGoes p e s below (Q10 Z a p1 t n f k z h0 n0) n0 R10.cells R10.slots s₁ (mkF m 0 #[.val (.ref a), .val (.int p1)] [])
  refine g_aloadN X0 hx (hb hby d13_0) (v := (.ref a)) rfl rfl (pc' := 1) rfl ?_
  refine g_getF X0 hx hZ hown (hw _ (List.mem_of_getElem? (i := 46) rfl)) e0 Fp0 (hb hby d13_1) (pc' := 4) rfl (fun T1 X2 e3 => ?_)
  refine g_iloadN X2 hx (hb hby d13_4) (v := p1) rfl (pc' := 5) rfl ?_
  refine g_iaload X2 hx hZ e3 (k := k) Fp1 hk (by omega) (hb hby d13_5) (pc' := 6) rfl ?_
  refine g_retI X2 hx hlk hret (hb hby d13_6) N0 (by decide) (by decide) ?_
  exact ⟨rfl, e3⟩
theorem d8_0 : decode prog_325_method_4_code 0 = .ok (.iconst 0, 1) := by decide +kernel
theorem d8_1 : decode prog_325_method_4_code 1 = .ok (.istore_n 2, 1) := by decide +kernel
theorem d8_2 : decode prog_325_method_4_code 2 = .ok (.iload_n 2, 1) := by decide +kernel
theorem d8_3 : decode prog_325_method_4_code 3 = .ok (.aload_n 0, 1) := by decide +kernel
theorem d8_4 : decode prog_325_method_4_code 4 = .ok (.getfield 13, 3) := by decide +kernel
theorem d8_7 : decode prog_325_method_4_code 7 = .ok (.arraylength, 1) := by decide +kernel
theorem d8_8 : decode prog_325_method_4_code 8 = .ok (.if_icmp .ge 43, 3) := by decide +kernel
theorem d8_11 : decode prog_325_method_4_code 11 = .ok (.aload_n 0, 1) := by decide +kernel
theorem d8_12 : decode prog_325_method_4_code 12 = .ok (.getfield 13, 3) := by decide +kernel
theorem d8_15 : decode prog_325_method_4_code 15 = .ok (.iload_n 2, 1) := by decide +kernel
theorem d8_16 : decode prog_325_method_4_code 16 = .ok (.iaload, 1) := by decide +kernel
theorem d8_17 : decode prog_325_method_4_code 17 = .ok (.istore_n 3, 1) := by decide +kernel
theorem d8_18 : decode prog_325_method_4_code 18 = .ok (.aload_n 1, 1) := by decide +kernel
theorem d8_19 : decode prog_325_method_4_code 19 = .ok (.getfield 13, 3) := by decide +kernel
theorem d8_22 : decode prog_325_method_4_code 22 = .ok (.iload_n 2, 1) := by decide +kernel
theorem d8_23 : decode prog_325_method_4_code 23 = .ok (.iaload, 1) := by decide +kernel
theorem d8_24 : decode prog_325_method_4_code 24 = .ok (.istore 4, 2) := by decide +kernel
theorem d8_26 : decode prog_325_method_4_code 26 = .ok (.iload_n 3, 1) := by decide +kernel
theorem d8_27 : decode prog_325_method_4_code 27 = .ok (.iconst (-1), 1) := by decide +kernel
theorem d8_28 : decode prog_325_method_4_code 28 = .ok (.if_icmp .eq 17, 3) := by decide +kernel
theorem d8_31 : decode prog_325_method_4_code 31 = .ok (.iload 4, 2) := by decide +kernel
theorem d8_33 : decode prog_325_method_4_code 33 = .ok (.iconst (-1), 1) := by decide +kernel
theorem d8_34 : decode prog_325_method_4_code 34 = .ok (.if_icmp .eq 11, 3) := by decide +kernel
theorem d8_37 : decode prog_325_method_4_code 37 = .ok (.iload_n 3, 1) := by decide +kernel
theorem d8_38 : decode prog_325_method_4_code 38 = .ok (.iload 4, 2) := by decide +kernel
theorem d8_40 : decode prog_325_method_4_code 40 = .ok (.if_icmp .eq 5, 3) := by decide +kernel
theorem d8_43 : decode prog_325_method_4_code 43 = .ok (.iconst 0, 1) := by decide +kernel
theorem d8_44 : decode prog_325_method_4_code 44 = .ok (.ireturn, 1) := by decide +kernel
theorem d8_45 : decode prog_325_method_4_code 45 = .ok (.iinc 2 1, 3) := by decide +kernel
theorem d8_48 : decode prog_325_method_4_code 48 = .ok (.goto (-46), 3) := by decide +kernel
theorem d8_51 : decode prog_325_method_4_code 51 = .ok (.iconst 1, 1) := by decide +kernel
theorem d8_52 : decode prog_325_method_4_code 52 = .ok (.ireturn, 1) := by decide +kernel
theorem pn_10 : plainFor (⟨"com/example/vetter/vetter/space/Pattern", "overlaps", "(Lcom/example/vetter/vetter/space/Pattern;)Z"⟩ : MethodName) = true := by first | exact plainFor_of_name (by first | (simp [plainName, overriddenIn]; done) | decide +kernel) | decide +kernel
def Q11 (Z : State) (a : Addr) (o : Addr) (t1 : Addr) (t2 : Addr) (n : Nat) (f : Nat → Int32) (g : Nat → Int32) (z : Int32) (h0 : Heap) (n0 : Nat) (v : Option Value) (h : Heap) : Prop := ∃ b : Int32, v = some (.int b) ∧ ((∀ i, i < n → ((f i).toInt = -1 ∨ (g i).toInt = -1 ∨ (f i).toInt = (g i).toInt)) ∧ b.toInt = 1 ∨ (∃ i, i < n ∧ ¬ (((f i).toInt = -1 ∨ (g i).toInt = -1 ∨ (f i).toInt = (g i).toInt))) ∧ b.toInt = 0) ∧ h = h0
abbrev R11 : Room := { frames := 0, cells := 0, slots := 0, locals := 0 }
set_option maxRecDepth 65536 in
set_option maxHeartbeats 40000000 in
theorem rm11 (l : Launch) (Z : State) (a0 : Array Value) (hw : ∀ d ∈ tables_1, d.before a0 Z = true)  (a : Addr) (o : Addr) (t1 : Addr) (t2 : Addr) (n : Nat) (f : Nat → Int32) (g : Nat → Int32) (z : Int32) (h0 : Heap) (n0 : Nat) (Z0 : NLe n0 h0.size) (Fp0 : Exa Z h0 a "com/example/vetter/vetter/space/Pattern") (Fp1 : Exa Z h0 o "com/example/vetter/vetter/space/Pattern") (Fp2 : Fld Z h0 a "com/example/vetter/vetter/space/Pattern" "fields" "[I" (.ref t1)) (Fp3 : IA Z h0 t1 n f) (Fp4 : Fld Z h0 o "com/example/vetter/vetter/space/Pattern" "fields" "[I" (.ref t2)) (Fp5 : IA Z h0 t2 n g) (hz : z.toInt = (n : Int)) :
    Con l (⟨"com/example/vetter/vetter/space/Pattern", "overlaps", "(Lcom/example/vetter/vetter/space/Pattern;)Z"⟩ : MethodName) prog_325_method_4_code 5 (some .boolean) [] R11 Z #[(.ref a), (.ref o)] h0 n0 (Q11 Z a o t1 t2 n f g z h0 n0) := by
  refine con_of (Ls0 := #[.val (.ref a), .val (.ref o), .unset, .unset, .unset]) pn_10 (fun m => by first | (simp [entryFrame, mkF, argsToLocals, Value.category, maxLocals]; done) | rfl) ?_
  intro p e s m below meth c s₁ X0 hx hby hml hZ hown hnm hret hlk e0 N0
  show OGoes p e s below (Q11 Z a o t1 t2 n f g z h0 n0) n0 R11.cells R11.slots s₁ (mkF m 0 #[.val (.ref a), .val (.ref o), .unset, .unset, .unset] [])
  refine g_iconst X0 hx (hb hby d8_0) (v := 0) (by decide) (pc' := 1) rfl ?_
  refine g_istoreN X0 hx (hb hby d8_1) (Ls' := #[.val (.ref a), .val (.ref o), .val (.int (0 : Int32)), .unset, .unset]) rfl (pc' := 2) rfl ?_
  have loop : ∀ (k : Nat) (i : Nat) (j : Int32) (x3 : Int32) (x4 : Int32) (Tl : State) (Ll : List Loc) , i + k = n → j.toInt = (i : Int) → (∀ y, y < i → ((f y).toInt = -1 ∨ (g y).toInt = -1 ∨ (f y).toInt = (g y).toInt)) → Stand p l e R11 s m #[(.ref a), (.ref o)] below meth c Tl Ll 0 0 → Tl.heap = h0 → Fr n0 Ll → Exa Z h0 a "com/example/vetter/vetter/space/Pattern" → Exa Z h0 o "com/example/vetter/vetter/space/Pattern" → Fld Z h0 a "com/example/vetter/vetter/space/Pattern" "fields" "[I" (.ref t1) → IA Z h0 t1 n f → Fld Z h0 o "com/example/vetter/vetter/space/Pattern" "fields" "[I" (.ref t2) → IA Z h0 t2 n g → OGoes p e s below (Q11 Z a o t1 t2 n f g z h0 n0) n0 R11.cells R11.slots Tl (mkF m 2 #[.val (.ref a), .val (.ref o), .val (.int j), .val (.int x3), .val (.int x4)] []) := by
    intro k; induction k with
    | zero =>
      intro i j x3 x4 Tl Ll hik hj hf Xl El Nl Fl0 Fl1 Fl2 Fl3 Fl4 Fl5
      refine g_iloadN Xl hx (hb hby d8_2) (v := j) rfl (pc' := 3) rfl ?_
      refine g_aloadN Xl hx (hb hby d8_3) (v := (.ref a)) rfl rfl (pc' := 4) rfl ?_
      refine g_getF Xl hx hZ hown (hw _ (List.mem_of_getElem? (i := 26) rfl)) El Fl2 (hb hby d8_4) (pc' := 7) rfl (fun T1 X2 e3 => ?_)
      refine g_lenIA X2 hx hZ e3 (z := z) Fl3 hz (hb hby d8_7) (pc' := 8) rfl ?_
      refine g_ii_ge X2 hx (a := (i : Int)) (b := (n : Int)) hj hz (hb hby d8_8) (by decide) (pc' := 51) (by decide) (pc2 := 11) rfl (fun c4 => ?_) (fun c4 => False.elim (by omega))
      refine g_iconst X2 hx (hb hby d8_51) (v := 1) (by decide) (pc' := 52) rfl ?_
      refine g_retZ X2 hx hlk (by decide) hret (hb hby d8_52) Nl (by decide) (by decide) ?_
      exact ⟨_, rfl, Or.inl ⟨fun y hy => hf y (by omega), rfl⟩, e3⟩
    | succ k ih =>
      intro i j x3 x4 Tl Ll hik hj hf Xl El Nl Fl0 Fl1 Fl2 Fl3 Fl4 Fl5
      refine g_iloadN Xl hx (hb hby d8_2) (v := j) rfl (pc' := 3) rfl ?_
      refine g_aloadN Xl hx (hb hby d8_3) (v := (.ref a)) rfl rfl (pc' := 4) rfl ?_
      refine g_getF Xl hx hZ hown (hw _ (List.mem_of_getElem? (i := 26) rfl)) El Fl2 (hb hby d8_4) (pc' := 7) rfl (fun T5 X6 e7 => ?_)
      refine g_lenIA X6 hx hZ e7 (z := z) Fl3 hz (hb hby d8_7) (pc' := 8) rfl ?_
      refine g_ii_ge X6 hx (a := (i : Int)) (b := (n : Int)) hj hz (hb hby d8_8) (by decide) (pc' := 51) (by decide) (pc2 := 11) rfl (fun c8 => False.elim (by omega)) (fun c8 => ?_)
      refine g_aloadN X6 hx (hb hby d8_11) (v := (.ref a)) rfl rfl (pc' := 12) rfl ?_
      refine g_getF X6 hx hZ hown (hw _ (List.mem_of_getElem? (i := 26) rfl)) e7 Fl2 (hb hby d8_12) (pc' := 15) rfl (fun T9 X10 e11 => ?_)
      refine g_iloadN X10 hx (hb hby d8_15) (v := j) rfl (pc' := 16) rfl ?_
      refine g_iaload X10 hx hZ e11 (k := i) Fl3 hj (by omega) (hb hby d8_16) (pc' := 17) rfl ?_
      refine g_istoreN X10 hx (hb hby d8_17) (Ls' := #[.val (.ref a), .val (.ref o), .val (.int j), .val (.int (f i)), .val (.int x4)]) rfl (pc' := 18) rfl ?_
      refine g_aloadN X10 hx (hb hby d8_18) (v := (.ref o)) rfl rfl (pc' := 19) rfl ?_
      refine g_getF X10 hx hZ hown (hw _ (List.mem_of_getElem? (i := 26) rfl)) e11 Fl4 (hb hby d8_19) (pc' := 22) rfl (fun T12 X13 e14 => ?_)
      refine g_iloadN X13 hx (hb hby d8_22) (v := j) rfl (pc' := 23) rfl ?_
      refine g_iaload X13 hx hZ e14 (k := i) Fl5 hj (by omega) (hb hby d8_23) (pc' := 24) rfl ?_
      refine g_istore X13 hx (hb hby d8_24) (Ls' := #[.val (.ref a), .val (.ref o), .val (.int j), .val (.int (f i)), .val (.int (g i))]) rfl (pc' := 26) rfl ?_
      refine g_iloadN X13 hx (hb hby d8_26) (v := (f i)) rfl (pc' := 27) rfl ?_
      refine g_iconst X13 hx (hb hby d8_27) (v := -1) (by decide) (pc' := 28) rfl ?_
      refine g_ii_eq X13 hx (a := (f i).toInt) (b := (-1)) rfl rfl (hb hby d8_28) (by decide) (pc' := 45) (by decide) (pc2 := 31) rfl (fun c15 => ?_) (fun c15 => ?_)
      · have ad := c_iadd j 1; have l1 : (1 : Int32).toInt = 1 := rfl; have t1 := (j + 1).toInt_lt; have t2 := (j + 1).le_toInt; have t3 := z.toInt_lt
        have hP : ((f i).toInt = -1 ∨ (g i).toInt = -1 ∨ (f i).toInt = (g i).toInt) := by omega
        refine g_iinc X13 hx (hb hby d8_45) (v := 1) (by decide) (x := j) rfl (Ls' := #[.val (.ref a), .val (.ref o), .val (.int (j + (1 : Int32))), .val (.int (f i)), .val (.int (g i))]) rfl (pc' := 48) rfl ?_
        refine g_goto X13 hx (hb hby d8_48) (by decide) (pc' := 2) (by decide) ?_
        exact ih (i + 1) (j + (1 : Int32)) (f i) (g i) _ _ (by omega) (by omega) (all_succ (P := fun y => ((f y).toInt = -1 ∨ (g y).toInt = -1 ∨ (f y).toInt = (g y).toInt)) hf hP) X13 e14 Nl Fl0 Fl1 Fl2 Fl3 Fl4 Fl5
      · refine g_iload X13 hx (hb hby d8_31) (v := (g i)) rfl (pc' := 33) rfl ?_
        refine g_iconst X13 hx (hb hby d8_33) (v := -1) (by decide) (pc' := 34) rfl ?_
        refine g_ii_eq X13 hx (a := (g i).toInt) (b := (-1)) rfl rfl (hb hby d8_34) (by decide) (pc' := 45) (by decide) (pc2 := 37) rfl (fun c16 => ?_) (fun c16 => ?_)
        · have ad := c_iadd j 1; have l1 : (1 : Int32).toInt = 1 := rfl; have t1 := (j + 1).toInt_lt; have t2 := (j + 1).le_toInt; have t3 := z.toInt_lt
          have hP : ((f i).toInt = -1 ∨ (g i).toInt = -1 ∨ (f i).toInt = (g i).toInt) := by omega
          refine g_iinc X13 hx (hb hby d8_45) (v := 1) (by decide) (x := j) rfl (Ls' := #[.val (.ref a), .val (.ref o), .val (.int (j + (1 : Int32))), .val (.int (f i)), .val (.int (g i))]) rfl (pc' := 48) rfl ?_
          refine g_goto X13 hx (hb hby d8_48) (by decide) (pc' := 2) (by decide) ?_
          exact ih (i + 1) (j + (1 : Int32)) (f i) (g i) _ _ (by omega) (by omega) (all_succ (P := fun y => ((f y).toInt = -1 ∨ (g y).toInt = -1 ∨ (f y).toInt = (g y).toInt)) hf hP) X13 e14 Nl Fl0 Fl1 Fl2 Fl3 Fl4 Fl5
        · refine g_iloadN X13 hx (hb hby d8_37) (v := (f i)) rfl (pc' := 38) rfl ?_
          refine g_iload X13 hx (hb hby d8_38) (v := (g i)) rfl (pc' := 40) rfl ?_
          refine g_ii_eq X13 hx (a := (f i).toInt) (b := (g i).toInt) rfl rfl (hb hby d8_40) (by decide) (pc' := 45) (by decide) (pc2 := 43) rfl (fun c17 => ?_) (fun c17 => ?_)
          · have ad := c_iadd j 1; have l1 : (1 : Int32).toInt = 1 := rfl; have t1 := (j + 1).toInt_lt; have t2 := (j + 1).le_toInt; have t3 := z.toInt_lt
            have hP : ((f i).toInt = -1 ∨ (g i).toInt = -1 ∨ (f i).toInt = (g i).toInt) := by omega
            refine g_iinc X13 hx (hb hby d8_45) (v := 1) (by decide) (x := j) rfl (Ls' := #[.val (.ref a), .val (.ref o), .val (.int (j + (1 : Int32))), .val (.int (f i)), .val (.int (g i))]) rfl (pc' := 48) rfl ?_
            refine g_goto X13 hx (hb hby d8_48) (by decide) (pc' := 2) (by decide) ?_
            exact ih (i + 1) (j + (1 : Int32)) (f i) (g i) _ _ (by omega) (by omega) (all_succ (P := fun y => ((f y).toInt = -1 ∨ (g y).toInt = -1 ∨ (f y).toInt = (g y).toInt)) hf hP) X13 e14 Nl Fl0 Fl1 Fl2 Fl3 Fl4 Fl5
          · refine g_iconst X13 hx (hb hby d8_43) (v := 0) (by decide) (pc' := 44) rfl ?_
            refine g_retZ X13 hx hlk (by decide) hret (hb hby d8_44) Nl (by decide) (by decide) ?_
            exact ⟨_, rfl, Or.inr ⟨⟨i, by omega, by omega⟩, rfl⟩, e14⟩
  refine g_iloadN X0 hx (hb hby d8_2) (v := (0 : Int32)) rfl (pc' := 3) rfl ?_
  refine g_aloadN X0 hx (hb hby d8_3) (v := (.ref a)) rfl rfl (pc' := 4) rfl ?_
  refine g_getF X0 hx hZ hown (hw _ (List.mem_of_getElem? (i := 26) rfl)) e0 Fp2 (hb hby d8_4) (pc' := 7) rfl (fun T18 X19 e20 => ?_)
  refine g_lenIA X19 hx hZ e20 (z := z) Fp3 hz (hb hby d8_7) (pc' := 8) rfl ?_
  refine g_ii_ge X19 hx (a := 0) (b := (n : Int)) rfl hz (hb hby d8_8) (by decide) (pc' := 51) (by decide) (pc2 := 11) rfl (fun c21 => ?_) (fun c21 => ?_)
  · refine g_iconst X19 hx (hb hby d8_51) (v := 1) (by decide) (pc' := 52) rfl ?_
    refine g_retZ X19 hx hlk (by decide) hret (hb hby d8_52) N0 (by decide) (by decide) ?_
    exact ⟨_, rfl, Or.inl ⟨fun y hy => absurd hy (by omega), rfl⟩, e20⟩
  · refine g_aloadN X19 hx (hb hby d8_11) (v := (.ref a)) rfl rfl (pc' := 12) rfl ?_
    refine g_getF X19 hx hZ hown (hw _ (List.mem_of_getElem? (i := 26) rfl)) e20 Fp2 (hb hby d8_12) (pc' := 15) rfl (fun T22 X23 e24 => ?_)
    refine g_iloadN X23 hx (hb hby d8_15) (v := (0 : Int32)) rfl (pc' := 16) rfl ?_
    refine g_iaload X23 hx hZ e24 (k := 0) Fp3 rfl (by omega) (hb hby d8_16) (pc' := 17) rfl ?_
    refine g_istoreN X23 hx (hb hby d8_17) (Ls' := #[.val (.ref a), .val (.ref o), .val (.int (0 : Int32)), .val (.int (f 0)), .unset]) rfl (pc' := 18) rfl ?_
    refine g_aloadN X23 hx (hb hby d8_18) (v := (.ref o)) rfl rfl (pc' := 19) rfl ?_
    refine g_getF X23 hx hZ hown (hw _ (List.mem_of_getElem? (i := 26) rfl)) e24 Fp4 (hb hby d8_19) (pc' := 22) rfl (fun T25 X26 e27 => ?_)
    refine g_iloadN X26 hx (hb hby d8_22) (v := (0 : Int32)) rfl (pc' := 23) rfl ?_
    refine g_iaload X26 hx hZ e27 (k := 0) Fp5 rfl (by omega) (hb hby d8_23) (pc' := 24) rfl ?_
    refine g_istore X26 hx (hb hby d8_24) (Ls' := #[.val (.ref a), .val (.ref o), .val (.int (0 : Int32)), .val (.int (f 0)), .val (.int (g 0))]) rfl (pc' := 26) rfl ?_
    refine g_iloadN X26 hx (hb hby d8_26) (v := (f 0)) rfl (pc' := 27) rfl ?_
    refine g_iconst X26 hx (hb hby d8_27) (v := -1) (by decide) (pc' := 28) rfl ?_
    refine g_ii_eq X26 hx (a := (f 0).toInt) (b := (-1)) rfl rfl (hb hby d8_28) (by decide) (pc' := 45) (by decide) (pc2 := 31) rfl (fun c28 => ?_) (fun c28 => ?_)
    · have hP : ((f 0).toInt = -1 ∨ (g 0).toInt = -1 ∨ (f 0).toInt = (g 0).toInt) := by omega
      refine g_iinc X26 hx (hb hby d8_45) (v := 1) (by decide) (x := (0 : Int32)) rfl (Ls' := #[.val (.ref a), .val (.ref o), .val (.int (1 : Int32)), .val (.int (f 0)), .val (.int (g 0))]) rfl (pc' := 48) rfl ?_
      refine g_goto X26 hx (hb hby d8_48) (by decide) (pc' := 2) (by decide) ?_
      exact loop (n - 1) 1 (1 : Int32) (f 0) (g 0) _ _ (by omega) rfl (all_succ (P := fun y => ((f y).toInt = -1 ∨ (g y).toInt = -1 ∨ (f y).toInt = (g y).toInt)) (fun y hy => absurd hy (by omega)) hP) X26 e27 N0 Fp0 Fp1 Fp2 Fp3 Fp4 Fp5
    · refine g_iload X26 hx (hb hby d8_31) (v := (g 0)) rfl (pc' := 33) rfl ?_
      refine g_iconst X26 hx (hb hby d8_33) (v := -1) (by decide) (pc' := 34) rfl ?_
      refine g_ii_eq X26 hx (a := (g 0).toInt) (b := (-1)) rfl rfl (hb hby d8_34) (by decide) (pc' := 45) (by decide) (pc2 := 37) rfl (fun c29 => ?_) (fun c29 => ?_)
      · have hP : ((f 0).toInt = -1 ∨ (g 0).toInt = -1 ∨ (f 0).toInt = (g 0).toInt) := by omega
        refine g_iinc X26 hx (hb hby d8_45) (v := 1) (by decide) (x := (0 : Int32)) rfl (Ls' := #[.val (.ref a), .val (.ref o), .val (.int (1 : Int32)), .val (.int (f 0)), .val (.int (g 0))]) rfl (pc' := 48) rfl ?_
        refine g_goto X26 hx (hb hby d8_48) (by decide) (pc' := 2) (by decide) ?_
        exact loop (n - 1) 1 (1 : Int32) (f 0) (g 0) _ _ (by omega) rfl (all_succ (P := fun y => ((f y).toInt = -1 ∨ (g y).toInt = -1 ∨ (f y).toInt = (g y).toInt)) (fun y hy => absurd hy (by omega)) hP) X26 e27 N0 Fp0 Fp1 Fp2 Fp3 Fp4 Fp5
      · refine g_iloadN X26 hx (hb hby d8_37) (v := (f 0)) rfl (pc' := 38) rfl ?_
        refine g_iload X26 hx (hb hby d8_38) (v := (g 0)) rfl (pc' := 40) rfl ?_
        refine g_ii_eq X26 hx (a := (f 0).toInt) (b := (g 0).toInt) rfl rfl (hb hby d8_40) (by decide) (pc' := 45) (by decide) (pc2 := 43) rfl (fun c30 => ?_) (fun c30 => ?_)
        · have hP : ((f 0).toInt = -1 ∨ (g 0).toInt = -1 ∨ (f 0).toInt = (g 0).toInt) := by omega
          refine g_iinc X26 hx (hb hby d8_45) (v := 1) (by decide) (x := (0 : Int32)) rfl (Ls' := #[.val (.ref a), .val (.ref o), .val (.int (1 : Int32)), .val (.int (f 0)), .val (.int (g 0))]) rfl (pc' := 48) rfl ?_
          refine g_goto X26 hx (hb hby d8_48) (by decide) (pc' := 2) (by decide) ?_
          exact loop (n - 1) 1 (1 : Int32) (f 0) (g 0) _ _ (by omega) rfl (all_succ (P := fun y => ((f y).toInt = -1 ∨ (g y).toInt = -1 ∨ (f y).toInt = (g y).toInt)) (fun y hy => absurd hy (by omega)) hP) X26 e27 N0 Fp0 Fp1 Fp2 Fp3 Fp4 Fp5
        · refine g_iconst X26 hx (hb hby d8_43) (v := 0) (by decide) (pc' := 44) rfl ?_
          refine g_retZ X26 hx hlk (by decide) hret (hb hby d8_44) N0 (by decide) (by decide) ?_
          exact ⟨_, rfl, Or.inr ⟨⟨0, by omega, by omega⟩, rfl⟩, e27⟩
theorem d9_0 : decode prog_325_method_2_code 0 = .ok (.iconst 0, 1) := by decide +kernel
theorem d9_1 : decode prog_325_method_2_code 1 = .ok (.istore_n 2, 1) := by decide +kernel
theorem d9_2 : decode prog_325_method_2_code 2 = .ok (.iload_n 2, 1) := by decide +kernel
theorem d9_3 : decode prog_325_method_2_code 3 = .ok (.aload_n 0, 1) := by decide +kernel
theorem d9_4 : decode prog_325_method_2_code 4 = .ok (.getfield 13, 3) := by decide +kernel
theorem d9_7 : decode prog_325_method_2_code 7 = .ok (.arraylength, 1) := by decide +kernel
theorem d9_8 : decode prog_325_method_2_code 8 = .ok (.if_icmp .ge 35, 3) := by decide +kernel
theorem d9_11 : decode prog_325_method_2_code 11 = .ok (.aload_n 0, 1) := by decide +kernel
theorem d9_12 : decode prog_325_method_2_code 12 = .ok (.getfield 13, 3) := by decide +kernel
theorem d9_15 : decode prog_325_method_2_code 15 = .ok (.iload_n 2, 1) := by decide +kernel
theorem d9_16 : decode prog_325_method_2_code 16 = .ok (.iaload, 1) := by decide +kernel
theorem d9_17 : decode prog_325_method_2_code 17 = .ok (.iconst (-1), 1) := by decide +kernel
theorem d9_18 : decode prog_325_method_2_code 18 = .ok (.if_icmp .eq 19, 3) := by decide +kernel
theorem d9_21 : decode prog_325_method_2_code 21 = .ok (.aload_n 0, 1) := by decide +kernel
theorem d9_22 : decode prog_325_method_2_code 22 = .ok (.getfield 13, 3) := by decide +kernel
theorem d9_25 : decode prog_325_method_2_code 25 = .ok (.iload_n 2, 1) := by decide +kernel
theorem d9_26 : decode prog_325_method_2_code 26 = .ok (.iaload, 1) := by decide +kernel
theorem d9_27 : decode prog_325_method_2_code 27 = .ok (.aload_n 1, 1) := by decide +kernel
theorem d9_28 : decode prog_325_method_2_code 28 = .ok (.iload_n 2, 1) := by decide +kernel
theorem d9_29 : decode prog_325_method_2_code 29 = .ok (.invokevirtual 28, 3) := by decide +kernel
theorem d9_32 : decode prog_325_method_2_code 32 = .ok (.if_icmp .eq 5, 3) := by decide +kernel
theorem d9_35 : decode prog_325_method_2_code 35 = .ok (.iconst 0, 1) := by decide +kernel
theorem d9_36 : decode prog_325_method_2_code 36 = .ok (.ireturn, 1) := by decide +kernel
theorem d9_37 : decode prog_325_method_2_code 37 = .ok (.iinc 2 1, 3) := by decide +kernel
theorem d9_40 : decode prog_325_method_2_code 40 = .ok (.goto (-38), 3) := by decide +kernel
theorem d9_43 : decode prog_325_method_2_code 43 = .ok (.iconst 1, 1) := by decide +kernel
theorem d9_44 : decode prog_325_method_2_code 44 = .ok (.ireturn, 1) := by decide +kernel
theorem pn_11 : plainFor (⟨"com/example/vetter/vetter/space/Pattern", "matches", "(Lcom/example/vetter/vetter/space/Tuple;)Z"⟩ : MethodName) = true := by first | exact plainFor_of_name (by first | (simp [plainName, overriddenIn]; done) | decide +kernel) | decide +kernel
def Q12 (Z : State) (a : Addr) (o : Addr) (t1 : Addr) (t2 : Addr) (n : Nat) (f : Nat → Int32) (g : Nat → Int32) (z : Int32) (h0 : Heap) (n0 : Nat) (v : Option Value) (h : Heap) : Prop := ∃ b : Int32, v = some (.int b) ∧ ((∀ i, i < n → ((f i).toInt = -1 ∨ (f i).toInt = (g i).toInt)) ∧ b.toInt = 1 ∨ (∃ i, i < n ∧ ¬ (((f i).toInt = -1 ∨ (f i).toInt = (g i).toInt))) ∧ b.toInt = 0) ∧ h = h0
abbrev R12 : Room := { frames := 1, cells := 0, slots := 0, locals := 16 }
set_option maxRecDepth 65536 in
set_option maxHeartbeats 40000000 in
theorem rm12 (l : Launch) (Z : State) (a0 : Array Value) (hw : ∀ d ∈ tables_1, d.before a0 Z = true)  (a : Addr) (o : Addr) (t1 : Addr) (t2 : Addr) (n : Nat) (f : Nat → Int32) (g : Nat → Int32) (z : Int32) (h0 : Heap) (n0 : Nat) (Z0 : NLe n0 h0.size) (Fp0 : Exa Z h0 a "com/example/vetter/vetter/space/Pattern") (Fp1 : Exa Z h0 o "com/example/vetter/vetter/space/Tuple") (Fp2 : Fld Z h0 a "com/example/vetter/vetter/space/Pattern" "fields" "[I" (.ref t1)) (Fp3 : IA Z h0 t1 n f) (Fp4 : Fld Z h0 o "com/example/vetter/vetter/space/Tuple" "fields" "[I" (.ref t2)) (Fp5 : IA Z h0 t2 n g) (hz : z.toInt = (n : Int)) :
    Con l (⟨"com/example/vetter/vetter/space/Pattern", "matches", "(Lcom/example/vetter/vetter/space/Tuple;)Z"⟩ : MethodName) prog_325_method_2_code 3 (some .boolean) [] R12 Z #[(.ref a), (.ref o)] h0 n0 (Q12 Z a o t1 t2 n f g z h0 n0) := by
  refine con_of (Ls0 := #[.val (.ref a), .val (.ref o), .unset]) pn_11 (fun m => by first | (simp [entryFrame, mkF, argsToLocals, Value.category, maxLocals]; done) | rfl) ?_
  intro p e s m below meth c s₁ X0 hx hby hml hZ hown hnm hret hlk e0 N0
  show OGoes p e s below (Q12 Z a o t1 t2 n f g z h0 n0) n0 R12.cells R12.slots s₁ (mkF m 0 #[.val (.ref a), .val (.ref o), .unset] [])
  refine g_iconst X0 hx (hb hby d9_0) (v := 0) (by decide) (pc' := 1) rfl ?_
  refine g_istoreN X0 hx (hb hby d9_1) (Ls' := #[.val (.ref a), .val (.ref o), .val (.int (0 : Int32))]) rfl (pc' := 2) rfl ?_
  have loop : ∀ (k : Nat) (i : Nat) (j : Int32) (Tl : State) (Ll : List Loc) , i + k = n → j.toInt = (i : Int) → (∀ y, y < i → ((f y).toInt = -1 ∨ (f y).toInt = (g y).toInt)) → Stand p l e R12 s m #[(.ref a), (.ref o)] below meth c Tl Ll 0 0 → Tl.heap = h0 → Fr n0 Ll → Exa Z h0 a "com/example/vetter/vetter/space/Pattern" → Exa Z h0 o "com/example/vetter/vetter/space/Tuple" → Fld Z h0 a "com/example/vetter/vetter/space/Pattern" "fields" "[I" (.ref t1) → IA Z h0 t1 n f → Fld Z h0 o "com/example/vetter/vetter/space/Tuple" "fields" "[I" (.ref t2) → IA Z h0 t2 n g → OGoes p e s below (Q12 Z a o t1 t2 n f g z h0 n0) n0 R12.cells R12.slots Tl (mkF m 2 #[.val (.ref a), .val (.ref o), .val (.int j)] []) := by
    intro k; induction k with
    | zero =>
      intro i j Tl Ll hik hj hf Xl El Nl Fl0 Fl1 Fl2 Fl3 Fl4 Fl5
      refine g_iloadN Xl hx (hb hby d9_2) (v := j) rfl (pc' := 3) rfl ?_
      refine g_aloadN Xl hx (hb hby d9_3) (v := (.ref a)) rfl rfl (pc' := 4) rfl ?_
      refine g_getF Xl hx hZ hown (hw _ (List.mem_of_getElem? (i := 26) rfl)) El Fl2 (hb hby d9_4) (pc' := 7) rfl (fun T1 X2 e3 => ?_)
      refine g_lenIA X2 hx hZ e3 (z := z) Fl3 hz (hb hby d9_7) (pc' := 8) rfl ?_
      refine g_ii_ge X2 hx (a := (i : Int)) (b := (n : Int)) hj hz (hb hby d9_8) (by decide) (pc' := 43) (by decide) (pc2 := 11) rfl (fun c4 => ?_) (fun c4 => False.elim (by omega))
      refine g_iconst X2 hx (hb hby d9_43) (v := 1) (by decide) (pc' := 44) rfl ?_
      refine g_retZ X2 hx hlk (by decide) hret (hb hby d9_44) Nl (by decide) (by decide) ?_
      exact ⟨_, rfl, Or.inl ⟨fun y hy => hf y (by omega), rfl⟩, e3⟩
    | succ k ih =>
      intro i j Tl Ll hik hj hf Xl El Nl Fl0 Fl1 Fl2 Fl3 Fl4 Fl5
      refine g_iloadN Xl hx (hb hby d9_2) (v := j) rfl (pc' := 3) rfl ?_
      refine g_aloadN Xl hx (hb hby d9_3) (v := (.ref a)) rfl rfl (pc' := 4) rfl ?_
      refine g_getF Xl hx hZ hown (hw _ (List.mem_of_getElem? (i := 26) rfl)) El Fl2 (hb hby d9_4) (pc' := 7) rfl (fun T5 X6 e7 => ?_)
      refine g_lenIA X6 hx hZ e7 (z := z) Fl3 hz (hb hby d9_7) (pc' := 8) rfl ?_
      refine g_ii_ge X6 hx (a := (i : Int)) (b := (n : Int)) hj hz (hb hby d9_8) (by decide) (pc' := 43) (by decide) (pc2 := 11) rfl (fun c8 => False.elim (by omega)) (fun c8 => ?_)
      refine g_aloadN X6 hx (hb hby d9_11) (v := (.ref a)) rfl rfl (pc' := 12) rfl ?_
      refine g_getF X6 hx hZ hown (hw _ (List.mem_of_getElem? (i := 26) rfl)) e7 Fl2 (hb hby d9_12) (pc' := 15) rfl (fun T9 X10 e11 => ?_)
      refine g_iloadN X10 hx (hb hby d9_15) (v := j) rfl (pc' := 16) rfl ?_
      refine g_iaload X10 hx hZ e11 (k := i) Fl3 hj (by omega) (hb hby d9_16) (pc' := 17) rfl ?_
      refine g_iconst X10 hx (hb hby d9_17) (v := -1) (by decide) (pc' := 18) rfl ?_
      refine g_ii_eq X10 hx (a := (f i).toInt) (b := (-1)) rfl rfl (hb hby d9_18) (by decide) (pc' := 37) (by decide) (pc2 := 21) rfl (fun c12 => ?_) (fun c12 => ?_)
      · have ad := c_iadd j 1; have l1 : (1 : Int32).toInt = 1 := rfl; have t1 := (j + 1).toInt_lt; have t2 := (j + 1).le_toInt; have t3 := z.toInt_lt
        have hP : ((f i).toInt = -1 ∨ (f i).toInt = (g i).toInt) := by omega
        refine g_iinc X10 hx (hb hby d9_37) (v := 1) (by decide) (x := j) rfl (Ls' := #[.val (.ref a), .val (.ref o), .val (.int (j + (1 : Int32)))]) rfl (pc' := 40) rfl ?_
        refine g_goto X10 hx (hb hby d9_40) (by decide) (pc' := 2) (by decide) ?_
        exact ih (i + 1) (j + (1 : Int32)) _ _ (by omega) (by omega) (all_succ (P := fun y => ((f y).toInt = -1 ∨ (f y).toInt = (g y).toInt)) hf hP) X10 e11 Nl Fl0 Fl1 Fl2 Fl3 Fl4 Fl5
      · refine g_aloadN X10 hx (hb hby d9_21) (v := (.ref a)) rfl rfl (pc' := 22) rfl ?_
        refine g_getF X10 hx hZ hown (hw _ (List.mem_of_getElem? (i := 26) rfl)) e11 Fl2 (hb hby d9_22) (pc' := 25) rfl (fun T13 X14 e15 => ?_)
        refine g_iloadN X14 hx (hb hby d9_25) (v := j) rfl (pc' := 26) rfl ?_
        refine g_iaload X14 hx hZ e15 (k := i) Fl3 hj (by omega) (hb hby d9_26) (pc' := 27) rfl ?_
        refine g_aloadN X14 hx (hb hby d9_27) (v := (.ref o)) rfl rfl (pc' := 28) rfl ?_
        refine g_iloadN X14 hx (hb hby d9_28) (v := j) rfl (pc' := 29) rfl ?_
        refine g_virtual X14 hx hZ hown (hw _ (List.mem_of_getElem? (i := 72) rfl)) (hw _ (List.mem_of_getElem? (i := 73) rfl)) (hw _ (List.mem_of_getElem? (i := 75) rfl)) (hw _ (List.mem_of_getElem? (i := 74) rfl)) (hw _ (List.mem_of_getElem? (i := 36) rfl)) (hw _ (List.mem_of_getElem? (i := 76) rfl)) (by decide) (a := o) (argsL := [(.int j)]) (rm10 l Z a0 hw o j t2 n g i z h0 n0 Z0 Fl4 Fl5 hj (by omega)) rfl e15 Fl1 (by rw [hml]; rfl) pd_0 rfl (rest := [(.int (f i))]) rfl (W := 1) (Nat.le_of_eq rfl) (by decide) (by decide) (by decide) (by decide) Nl (hb hby d9_29) (pc' := 32) rfl (fun v16 T17 L18 X19 N20 q21 => ?_)
        obtain ⟨rfl, K22⟩ := q21
        show OGoes p e s below (Q12 Z a o t1 t2 n f g z h0 n0) n0 R12.cells R12.slots T17 (mkF m 32 #[.val (.ref a), .val (.ref o), .val (.int j)] [(.int (g i)), (.int (f i))])
        refine g_ii_eq X19 hx (a := (f i).toInt) (b := (g i).toInt) rfl rfl (hb hby d9_32) (by decide) (pc' := 37) (by decide) (pc2 := 35) rfl (fun c23 => ?_) (fun c23 => ?_)
        · have ad := c_iadd j 1; have l1 : (1 : Int32).toInt = 1 := rfl; have t1 := (j + 1).toInt_lt; have t2 := (j + 1).le_toInt; have t3 := z.toInt_lt
          have hP : ((f i).toInt = -1 ∨ (f i).toInt = (g i).toInt) := by omega
          refine g_iinc X19 hx (hb hby d9_37) (v := 1) (by decide) (x := j) rfl (Ls' := #[.val (.ref a), .val (.ref o), .val (.int (j + (1 : Int32)))]) rfl (pc' := 40) rfl ?_
          refine g_goto X19 hx (hb hby d9_40) (by decide) (pc' := 2) (by decide) ?_
          exact ih (i + 1) (j + (1 : Int32)) _ _ (by omega) (by omega) (all_succ (P := fun y => ((f y).toInt = -1 ∨ (f y).toInt = (g y).toInt)) hf hP) X19 K22 N20 Fl0 Fl1 Fl2 Fl3 Fl4 Fl5
        · refine g_iconst X19 hx (hb hby d9_35) (v := 0) (by decide) (pc' := 36) rfl ?_
          refine g_retZ X19 hx hlk (by decide) hret (hb hby d9_36) N20 (by decide) (by decide) ?_
          exact ⟨_, rfl, Or.inr ⟨⟨i, by omega, by omega⟩, rfl⟩, K22⟩
  exact loop n 0 (0 : Int32) _ _ (by omega) rfl (fun y hy => absurd hy (by omega)) X0 e0 N0 Fp0 Fp1 Fp2 Fp3 Fp4 Fp5
theorem pn_12 : plainFor (⟨"com/example/vetter/vetter/space/PatternOverlapsPinLaw", "law", "(IJJJ)Z"⟩ : MethodName) = true := by first | exact plainFor_of_name (by first | (simp [plainName, overriddenIn]; done) | decide +kernel) | decide +kernel
def Q0 (Z : State) (p0 : Int32) (p1 : Int64) (p2 : Int64) (p3 : Int64) (h0 : Heap) (n0 : Nat) (v : Option Value) (h : Heap) : Prop := v = some (.int 1)
set_option maxRecDepth 65536 in
set_option maxHeartbeats 40000000 in
theorem rm0 (l : Launch) (Z : State) (a0 : Array Value) (hw : ∀ d ∈ tables_1, d.before a0 Z = true) (ws : List Jvm.Cond) (p0 : Int32) (p1 : Int64) (p2 : Int64) (p3 : Int64) (h0 : Heap) (n0 : Nat) (Z0 : NLe n0 h0.size)  :
    Con l x code maxLocals ret ws room_1 Z #[(.int p0), (.long p1), (.long p2), (.long p3)] h0 n0 (Q0 Z p0 p1 p2 p3 h0 n0) := by
  refine con_of (Ls0 := #[.val (.int p0), .val (.long p1), .second, .val (.long p2), .second, .val (.long p3), .second, .unset, .unset, .unset, .unset, .unset, .unset, .unset, .unset, .unset, .unset, .unset, .unset, .unset, .unset]) pn_12 (fun m => by first | (simp [entryFrame, mkF, argsToLocals, Value.category, maxLocals]; done) | rfl) ?_
  intro p e s m below meth c s₁ X0 hx hby hml hZ hown hnm hret hlk e0 N0
  refine g_iloadN X0 hx (hb hby at_0) (v := p0) rfl (pc' := 1) rfl ?_
  refine g_iconst X0 hx (hb hby at_1) (v := 3) (by decide) (pc' := 2) rfl ?_
  refine g_iand X0 hx (hb hby at_2) (pc' := 3) rfl ?_
  refine g_istore X0 hx (hb hby at_3) (Ls' := #[.val (.int p0), .val (.long p1), .second, .val (.long p2), .second, .val (.long p3), .second, .val (.int (p0 &&& (3 : Int32))), .unset, .unset, .unset, .unset, .unset, .unset, .unset, .unset, .unset, .unset, .unset, .unset, .unset]) rfl (pc' := 5) rfl ?_
  refine g_lloadN X0 hx (hb hby at_5) (v := p1) rfl (pc' := 6) rfl ?_
  refine g_l2i X0 hx (hb hby at_6) (pc' := 7) rfl ?_
  refine g_static X0 hx hZ hown (hw _ (List.mem_of_getElem? (i := 0) rfl)) (hw _ (List.mem_of_getElem? (i := 1) rfl)) (hw _ (List.mem_of_getElem? (i := 2) rfl)) (hw _ (List.mem_of_getElem? (i := 3) rfl)) (by decide) (argsL := [(.int p1.toInt32)]) (rm1 l Z a0 hw p1.toInt32 h0 n0 Z0 ) rfl e0 (by rw [hml]; rfl) pd_0 rfl (rest := []) rfl (W := 0) (Nat.le_of_eq rfl) (by decide) (by decide) (by decide) (by decide) N0 (hb hby at_7) (pc' := 10) rfl (fun v1 T2 L3 X4 N5 q6 => ?_)
  obtain ⟨b7, rfl, K8⟩ := q6
  show OGoes p e s below (Q0 Z p0 p1 p2 p3 h0 n0) n0 room_1.cells room_1.slots T2 (mkF m 10 #[.val (.int p0), .val (.long p1), .second, .val (.long p2), .second, .val (.long p3), .second, .val (.int (p0 &&& (3 : Int32))), .unset, .unset, .unset, .unset, .unset, .unset, .unset, .unset, .unset, .unset, .unset, .unset, .unset] [(.int b7)])
  refine g_istore X4 hx (hb hby at_10) (Ls' := #[.val (.int p0), .val (.long p1), .second, .val (.long p2), .second, .val (.long p3), .second, .val (.int (p0 &&& (3 : Int32))), .val (.int b7), .unset, .unset, .unset, .unset, .unset, .unset, .unset, .unset, .unset, .unset, .unset, .unset]) rfl (pc' := 12) rfl ?_
  refine g_lloadN X4 hx (hb hby at_12) (v := p1) rfl (pc' := 13) rfl ?_
  refine g_bipush X4 hx (hb hby at_13) (v := 32) (by decide) (pc' := 15) rfl ?_
  refine g_lushr X4 hx (hb hby at_15) (pc' := 16) rfl ?_
  refine g_l2i X4 hx (hb hby at_16) (pc' := 17) rfl ?_
  refine g_static X4 hx hZ hown (hw _ (List.mem_of_getElem? (i := 0) rfl)) (hw _ (List.mem_of_getElem? (i := 1) rfl)) (hw _ (List.mem_of_getElem? (i := 2) rfl)) (hw _ (List.mem_of_getElem? (i := 3) rfl)) (by decide) (argsL := [(.int (XT.ushrL p1 (32 : Int32)).toInt32)]) (rm1 l Z a0 hw ((XT.ushrL p1 (32 : Int32)).toInt32) h0 n0 Z0 ) rfl K8 (by rw [hml]; rfl) pd_0 rfl (rest := []) rfl (W := 0) (Nat.le_of_eq rfl) (by decide) (by decide) (by decide) (by decide) N5 (hb hby at_17) (pc' := 20) rfl (fun v9 T10 L11 X12 N13 q14 => ?_)
  obtain ⟨b15, rfl, K16⟩ := q14
  show OGoes p e s below (Q0 Z p0 p1 p2 p3 h0 n0) n0 room_1.cells room_1.slots T10 (mkF m 20 #[.val (.int p0), .val (.long p1), .second, .val (.long p2), .second, .val (.long p3), .second, .val (.int (p0 &&& (3 : Int32))), .val (.int b7), .unset, .unset, .unset, .unset, .unset, .unset, .unset, .unset, .unset, .unset, .unset, .unset] [(.int b15)])
  refine g_istore X12 hx (hb hby at_20) (Ls' := #[.val (.int p0), .val (.long p1), .second, .val (.long p2), .second, .val (.long p3), .second, .val (.int (p0 &&& (3 : Int32))), .val (.int b7), .val (.int b15), .unset, .unset, .unset, .unset, .unset, .unset, .unset, .unset, .unset, .unset, .unset]) rfl (pc' := 22) rfl ?_
  refine g_lloadN X12 hx (hb hby at_22) (v := p2) rfl (pc' := 23) rfl ?_
  refine g_l2i X12 hx (hb hby at_23) (pc' := 24) rfl ?_
  refine g_static X12 hx hZ hown (hw _ (List.mem_of_getElem? (i := 0) rfl)) (hw _ (List.mem_of_getElem? (i := 1) rfl)) (hw _ (List.mem_of_getElem? (i := 2) rfl)) (hw _ (List.mem_of_getElem? (i := 3) rfl)) (by decide) (argsL := [(.int p2.toInt32)]) (rm1 l Z a0 hw p2.toInt32 h0 n0 Z0 ) rfl K16 (by rw [hml]; rfl) pd_0 rfl (rest := []) rfl (W := 0) (Nat.le_of_eq rfl) (by decide) (by decide) (by decide) (by decide) N13 (hb hby at_24) (pc' := 27) rfl (fun v17 T18 L19 X20 N21 q22 => ?_)
  obtain ⟨b23, rfl, K24⟩ := q22
  show OGoes p e s below (Q0 Z p0 p1 p2 p3 h0 n0) n0 room_1.cells room_1.slots T18 (mkF m 27 #[.val (.int p0), .val (.long p1), .second, .val (.long p2), .second, .val (.long p3), .second, .val (.int (p0 &&& (3 : Int32))), .val (.int b7), .val (.int b15), .unset, .unset, .unset, .unset, .unset, .unset, .unset, .unset, .unset, .unset, .unset] [(.int b23)])
  refine g_istore X20 hx (hb hby at_27) (Ls' := #[.val (.int p0), .val (.long p1), .second, .val (.long p2), .second, .val (.long p3), .second, .val (.int (p0 &&& (3 : Int32))), .val (.int b7), .val (.int b15), .val (.int b23), .unset, .unset, .unset, .unset, .unset, .unset, .unset, .unset, .unset, .unset]) rfl (pc' := 29) rfl ?_
  refine g_lloadN X20 hx (hb hby at_29) (v := p2) rfl (pc' := 30) rfl ?_
  refine g_bipush X20 hx (hb hby at_30) (v := 32) (by decide) (pc' := 32) rfl ?_
  refine g_lushr X20 hx (hb hby at_32) (pc' := 33) rfl ?_
  refine g_l2i X20 hx (hb hby at_33) (pc' := 34) rfl ?_
  refine g_static X20 hx hZ hown (hw _ (List.mem_of_getElem? (i := 0) rfl)) (hw _ (List.mem_of_getElem? (i := 1) rfl)) (hw _ (List.mem_of_getElem? (i := 2) rfl)) (hw _ (List.mem_of_getElem? (i := 3) rfl)) (by decide) (argsL := [(.int (XT.ushrL p2 (32 : Int32)).toInt32)]) (rm1 l Z a0 hw ((XT.ushrL p2 (32 : Int32)).toInt32) h0 n0 Z0 ) rfl K24 (by rw [hml]; rfl) pd_0 rfl (rest := []) rfl (W := 0) (Nat.le_of_eq rfl) (by decide) (by decide) (by decide) (by decide) N21 (hb hby at_34) (pc' := 37) rfl (fun v25 T26 L27 X28 N29 q30 => ?_)
  obtain ⟨b31, rfl, K32⟩ := q30
  show OGoes p e s below (Q0 Z p0 p1 p2 p3 h0 n0) n0 room_1.cells room_1.slots T26 (mkF m 37 #[.val (.int p0), .val (.long p1), .second, .val (.long p2), .second, .val (.long p3), .second, .val (.int (p0 &&& (3 : Int32))), .val (.int b7), .val (.int b15), .val (.int b23), .unset, .unset, .unset, .unset, .unset, .unset, .unset, .unset, .unset, .unset] [(.int b31)])
  refine g_istore X28 hx (hb hby at_37) (Ls' := #[.val (.int p0), .val (.long p1), .second, .val (.long p2), .second, .val (.long p3), .second, .val (.int (p0 &&& (3 : Int32))), .val (.int b7), .val (.int b15), .val (.int b23), .val (.int b31), .unset, .unset, .unset, .unset, .unset, .unset, .unset, .unset, .unset]) rfl (pc' := 39) rfl ?_
  refine g_lload X28 hx (hb hby at_39) (v := p3) rfl (pc' := 41) rfl ?_
  refine g_l2i X28 hx (hb hby at_41) (pc' := 42) rfl ?_
  refine g_static X28 hx hZ hown (hw _ (List.mem_of_getElem? (i := 0) rfl)) (hw _ (List.mem_of_getElem? (i := 1) rfl)) (hw _ (List.mem_of_getElem? (i := 2) rfl)) (hw _ (List.mem_of_getElem? (i := 3) rfl)) (by decide) (argsL := [(.int p3.toInt32)]) (rm1 l Z a0 hw p3.toInt32 h0 n0 Z0 ) rfl K32 (by rw [hml]; rfl) pd_0 rfl (rest := []) rfl (W := 0) (Nat.le_of_eq rfl) (by decide) (by decide) (by decide) (by decide) N29 (hb hby at_42) (pc' := 45) rfl (fun v33 T34 L35 X36 N37 q38 => ?_)
  obtain ⟨b39, rfl, K40⟩ := q38
  show OGoes p e s below (Q0 Z p0 p1 p2 p3 h0 n0) n0 room_1.cells room_1.slots T34 (mkF m 45 #[.val (.int p0), .val (.long p1), .second, .val (.long p2), .second, .val (.long p3), .second, .val (.int (p0 &&& (3 : Int32))), .val (.int b7), .val (.int b15), .val (.int b23), .val (.int b31), .unset, .unset, .unset, .unset, .unset, .unset, .unset, .unset, .unset] [(.int b39)])
  refine g_istore X36 hx (hb hby at_45) (Ls' := #[.val (.int p0), .val (.long p1), .second, .val (.long p2), .second, .val (.long p3), .second, .val (.int (p0 &&& (3 : Int32))), .val (.int b7), .val (.int b15), .val (.int b23), .val (.int b31), .val (.int b39), .unset, .unset, .unset, .unset, .unset, .unset, .unset, .unset]) rfl (pc' := 47) rfl ?_
  refine g_lload X36 hx (hb hby at_47) (v := p3) rfl (pc' := 49) rfl ?_
  refine g_bipush X36 hx (hb hby at_49) (v := 32) (by decide) (pc' := 51) rfl ?_
  refine g_lushr X36 hx (hb hby at_51) (pc' := 52) rfl ?_
  refine g_l2i X36 hx (hb hby at_52) (pc' := 53) rfl ?_
  refine g_static X36 hx hZ hown (hw _ (List.mem_of_getElem? (i := 0) rfl)) (hw _ (List.mem_of_getElem? (i := 1) rfl)) (hw _ (List.mem_of_getElem? (i := 2) rfl)) (hw _ (List.mem_of_getElem? (i := 3) rfl)) (by decide) (argsL := [(.int (XT.ushrL p3 (32 : Int32)).toInt32)]) (rm1 l Z a0 hw ((XT.ushrL p3 (32 : Int32)).toInt32) h0 n0 Z0 ) rfl K40 (by rw [hml]; rfl) pd_0 rfl (rest := []) rfl (W := 0) (Nat.le_of_eq rfl) (by decide) (by decide) (by decide) (by decide) N37 (hb hby at_53) (pc' := 56) rfl (fun v41 T42 L43 X44 N45 q46 => ?_)
  obtain ⟨b47, rfl, K48⟩ := q46
  show OGoes p e s below (Q0 Z p0 p1 p2 p3 h0 n0) n0 room_1.cells room_1.slots T42 (mkF m 56 #[.val (.int p0), .val (.long p1), .second, .val (.long p2), .second, .val (.long p3), .second, .val (.int (p0 &&& (3 : Int32))), .val (.int b7), .val (.int b15), .val (.int b23), .val (.int b31), .val (.int b39), .unset, .unset, .unset, .unset, .unset, .unset, .unset, .unset] [(.int b47)])
  refine g_istore X44 hx (hb hby at_56) (Ls' := #[.val (.int p0), .val (.long p1), .second, .val (.long p2), .second, .val (.long p3), .second, .val (.int (p0 &&& (3 : Int32))), .val (.int b7), .val (.int b15), .val (.int b23), .val (.int b31), .val (.int b39), .val (.int b47), .unset, .unset, .unset, .unset, .unset, .unset, .unset]) rfl (pc' := 58) rfl ?_
  have m0 := c_mask p0 3 2 (by decide) (by decide)
  have B0 : 0 ≤ ((p0 &&& (3 : Int32))).toInt ∧ ((p0 &&& (3 : Int32))).toInt ≤ 3 := by omega
  generalize hg49 : (p0 &&& (3 : Int32)) = cnt
  rw [hg49] at B0; clear hg49 m0
  obtain ⟨n, hn, hn2⟩ := i32_get (x := cnt) B0.1
  have hn3 : n ≤ 3 := by omega
  refine g_new X44 hx hZ hown (hw _ (List.mem_of_getElem? (i := 4) rfl)) (hw _ (List.mem_of_getElem? (i := 5) rfl)) (hw _ (List.mem_of_getElem? (i := 6) rfl)) K48 (hb hby at_58) (by decide) (by decide) (pc' := 61) rfl (fun T50 h51 a52 g53 X54 e55 E56 l57 A58 D59 => ?_)
  have Z60 : NLe n0 h51.size := Z0.tr E56.1
  have nl61 : NLe n0 a52 := NLe.at g53 Z0
  clear g53 l57
  have F62 : Fld Z h51 a52 "com/example/vetter/vetter/space/Pattern" "fields" "[I" .null := D59 (Or.inr (hw _ (List.mem_of_getElem? (i := 27) rfl))) (ty := (.array .int)) (by decide)
  have F63 : Fld Z h51 a52 "com/example/vetter/vetter/space/Pattern" "hash" "I" (.int (0 : Int32)) := D59 (Or.inr (hw _ (List.mem_of_getElem? (i := 33) rfl))) (ty := .int) (by decide)
  refine g_dup X54 hx (hb hby at_61) rfl (pc' := 62) rfl ?_
  refine g_iload X54 hx (hb hby at_62) (v := cnt) rfl (pc' := 64) rfl ?_
  refine g_iload X54 hx (hb hby at_64) (v := b7) rfl (pc' := 66) rfl ?_
  refine g_iload X54 hx (hb hby at_66) (v := b23) rfl (pc' := 68) rfl ?_
  refine g_iload X54 hx (hb hby at_68) (v := b39) rfl (pc' := 70) rfl ?_
  refine g_static X54 hx hZ hown (hw _ (List.mem_of_getElem? (i := 7) rfl)) (hw _ (List.mem_of_getElem? (i := 8) rfl)) (hw _ (List.mem_of_getElem? (i := 2) rfl)) (hw _ (List.mem_of_getElem? (i := 9) rfl)) (by decide) (argsL := [(.int cnt), (.int b7), (.int b23), (.int b39)]) (rm2 l Z a0 hw cnt b7 b23 b39 n h51 n0 Z60 hn hn3) rfl e55 (by rw [hml]; rfl) pd_1 rfl (rest := [(.ref a52), (.ref a52)]) rfl (W := 2) (Nat.le_of_eq rfl) (by decide) (by decide) (by decide) (by decide) N45 (hb hby at_70) (pc' := 73) rfl (fun v64 T65 L66 X67 N68 q69 => ?_)
  obtain ⟨t70, rfl, z71, K72, F73, F74⟩ := q69
  have Z75 : NLe n0 T65.heap.size := Z60.tr K72.1
  have nl76 : NLe n0 t70 := Z60.tr z71
  have ne77 : Apart a52 t70 := Apart.fr A58.lt z71
  have F78 := A58.keep K72
  have F79 := F62.keep K72 nin0
  have F80 := F63.keep K72 nin0
  show OGoes p e s below (Q0 Z p0 p1 p2 p3 h0 n0) n0 room_1.cells room_1.slots T65 (mkF m 73 #[.val (.int p0), .val (.long p1), .second, .val (.long p2), .second, .val (.long p3), .second, .val (.int cnt), .val (.int b7), .val (.int b15), .val (.int b23), .val (.int b31), .val (.int b39), .val (.int b47), .unset, .unset, .unset, .unset, .unset, .unset, .unset] [(.ref t70), (.ref a52), (.ref a52)])
  refine g_special X67 hx hZ rfl hown (hw _ (List.mem_of_getElem? (i := 11) rfl)) (hw _ (List.mem_of_getElem? (i := 12) rfl)) (hw _ (List.mem_of_getElem? (i := 6) rfl)) (hw _ (List.mem_of_getElem? (i := 13) rfl)) (by decide) (a := a52) (argsL := [(.ref t70)]) (rm6 l Z a0 hw a52 t70 n (own_tk b7 b23 b39) cnt T65.heap n0 Z75 F79 F80 F78 F73 F74 hn hn3 nl61 ne77) rfl rfl (by rw [hml]; rfl) pd_3 rfl (rest := [(.ref a52)]) rfl (W := 1) (Nat.le_of_eq rfl) (by decide) (by decide) (by decide) (by decide) N68 (hb hby at_73) (pc' := 76) rfl (fun v81 T82 L83 X84 N85 q86 => ?_)
  obtain ⟨t87, rfl, z88, K89, F90, F91, F92⟩ := q86
  have Z93 : NLe n0 T82.heap.size := Z75.tr K89.1
  have nl94 : NLe n0 t87 := Z75.tr z88
  have ne95 : Apart a52 t87 := Apart.fr F78.lt z88
  have ne96 : Apart t70 t87 := Apart.fr F73.lt z88
  have F98 := F73.keep K89 (ninS ne77.symm nin0)
  have F99 := F74.keep K89
  show OGoes p e s below (Q0 Z p0 p1 p2 p3 h0 n0) n0 room_1.cells room_1.slots T82 (mkF m 76 #[.val (.int p0), .val (.long p1), .second, .val (.long p2), .second, .val (.long p3), .second, .val (.int cnt), .val (.int b7), .val (.int b15), .val (.int b23), .val (.int b31), .val (.int b39), .val (.int b47), .unset, .unset, .unset, .unset, .unset, .unset, .unset] [(.ref a52)])
  refine g_astore X84 hx (hb hby at_76) rfl (Ls' := #[.val (.int p0), .val (.long p1), .second, .val (.long p2), .second, .val (.long p3), .second, .val (.int cnt), .val (.int b7), .val (.int b15), .val (.int b23), .val (.int b31), .val (.int b39), .val (.int b47), .val (.ref a52), .unset, .unset, .unset, .unset, .unset, .unset]) rfl (pc' := 78) rfl ?_
  refine g_new X84 hx hZ hown (hw _ (List.mem_of_getElem? (i := 4) rfl)) (hw _ (List.mem_of_getElem? (i := 5) rfl)) (hw _ (List.mem_of_getElem? (i := 6) rfl)) rfl (hb hby at_78) (by decide) (by decide) (pc' := 81) rfl (fun T100 h101 a102 g103 X104 e105 E106 l107 A108 D109 => ?_)
  have Z110 : NLe n0 h101.size := Z93.tr E106.1
  have nl111 : NLe n0 a102 := NLe.at g103 Z93
  have ne112 : Apart t70 a102 := Apart.new g103 F98.lt
  have ne113 : Apart a52 a102 := Apart.new g103 F90.lt
  have ne114 : Apart t87 a102 := Apart.new g103 F92.lt
  have F115 := F98.ext E106
  have F116 := Exa.ext E106 F99
  have F117 := Exa.ext E106 F90
  have F118 := Fld.ext E106 F91
  have F119 := F92.ext E106
  clear g103 l107
  have F120 : Fld Z h101 a102 "com/example/vetter/vetter/space/Pattern" "fields" "[I" .null := D109 (Or.inr (hw _ (List.mem_of_getElem? (i := 27) rfl))) (ty := (.array .int)) (by decide)
  have F121 : Fld Z h101 a102 "com/example/vetter/vetter/space/Pattern" "hash" "I" (.int (0 : Int32)) := D109 (Or.inr (hw _ (List.mem_of_getElem? (i := 33) rfl))) (ty := .int) (by decide)
  refine g_dup X104 hx (hb hby at_81) rfl (pc' := 82) rfl ?_
  refine g_iload X104 hx (hb hby at_82) (v := cnt) rfl (pc' := 84) rfl ?_
  refine g_iload X104 hx (hb hby at_84) (v := b15) rfl (pc' := 86) rfl ?_
  refine g_iload X104 hx (hb hby at_86) (v := b31) rfl (pc' := 88) rfl ?_
  refine g_iload X104 hx (hb hby at_88) (v := b47) rfl (pc' := 90) rfl ?_
  refine g_static X104 hx hZ hown (hw _ (List.mem_of_getElem? (i := 7) rfl)) (hw _ (List.mem_of_getElem? (i := 8) rfl)) (hw _ (List.mem_of_getElem? (i := 2) rfl)) (hw _ (List.mem_of_getElem? (i := 9) rfl)) (by decide) (argsL := [(.int cnt), (.int b15), (.int b31), (.int b47)]) (rm2 l Z a0 hw cnt b15 b31 b47 n h101 n0 Z110 hn hn3) rfl e105 (by rw [hml]; rfl) pd_1 rfl (rest := [(.ref a102), (.ref a102)]) rfl (W := 2) (Nat.le_of_eq rfl) (by decide) (by decide) (by decide) (by decide) N85 (hb hby at_90) (pc' := 93) rfl (fun v122 T123 L124 X125 N126 q127 => ?_)
  obtain ⟨t128, rfl, z129, K130, F131, F132⟩ := q127
  have Z133 : NLe n0 T123.heap.size := Z110.tr K130.1
  have nl134 : NLe n0 t128 := Z110.tr z129
  have ne135 : Apart t70 t128 := Apart.fr F115.lt z129
  have ne136 : Apart a52 t128 := Apart.fr F117.lt z129
  have ne137 : Apart t87 t128 := Apart.fr F119.lt z129
  have ne138 : Apart a102 t128 := Apart.fr A108.lt z129
  have F139 := F115.keep K130 nin0
  have F140 := F116.keep K130
  have F141 := F117.keep K130
  have F142 := F118.keep K130 nin0
  have F143 := F119.keep K130 nin0
  have F144 := A108.keep K130
  have F145 := F120.keep K130 nin0
  have F146 := F121.keep K130 nin0
  show OGoes p e s below (Q0 Z p0 p1 p2 p3 h0 n0) n0 room_1.cells room_1.slots T123 (mkF m 93 #[.val (.int p0), .val (.long p1), .second, .val (.long p2), .second, .val (.long p3), .second, .val (.int cnt), .val (.int b7), .val (.int b15), .val (.int b23), .val (.int b31), .val (.int b39), .val (.int b47), .val (.ref a52), .unset, .unset, .unset, .unset, .unset, .unset] [(.ref t128), (.ref a102), (.ref a102)])
  refine g_special X125 hx hZ rfl hown (hw _ (List.mem_of_getElem? (i := 11) rfl)) (hw _ (List.mem_of_getElem? (i := 12) rfl)) (hw _ (List.mem_of_getElem? (i := 6) rfl)) (hw _ (List.mem_of_getElem? (i := 13) rfl)) (by decide) (a := a102) (argsL := [(.ref t128)]) (rm6 l Z a0 hw a102 t128 n (own_tk b15 b31 b47) cnt T123.heap n0 Z133 F145 F146 F144 F131 F132 hn hn3 nl111 ne138) rfl rfl (by rw [hml]; rfl) pd_3 rfl (rest := [(.ref a102)]) rfl (W := 1) (Nat.le_of_eq rfl) (by decide) (by decide) (by decide) (by decide) N126 (hb hby at_93) (pc' := 96) rfl (fun v147 T148 L149 X150 N151 q152 => ?_)
  obtain ⟨t153, rfl, z154, K155, F156, F157, F158⟩ := q152
  have Z159 : NLe n0 T148.heap.size := Z133.tr K155.1
  have nl160 : NLe n0 t153 := Z133.tr z154
  have ne161 : Apart t70 t153 := Apart.fr F139.lt z154
  have ne162 : Apart a52 t153 := Apart.fr F141.lt z154
  have ne163 : Apart t87 t153 := Apart.fr F143.lt z154
  have ne164 : Apart a102 t153 := Apart.fr F144.lt z154
  have ne165 : Apart t128 t153 := Apart.fr F131.lt z154
  have F166 := F139.keep K155 (ninS ne112 nin0)
  have F167 := F140.keep K155
  have F168 := F141.keep K155
  have F169 := F142.keep K155 (ninS ne113 nin0)
  have F170 := F143.keep K155 (ninS ne114 nin0)
  have F172 := F131.keep K155 (ninS ne138.symm nin0)
  have F173 := F132.keep K155
  show OGoes p e s below (Q0 Z p0 p1 p2 p3 h0 n0) n0 room_1.cells room_1.slots T148 (mkF m 96 #[.val (.int p0), .val (.long p1), .second, .val (.long p2), .second, .val (.long p3), .second, .val (.int cnt), .val (.int b7), .val (.int b15), .val (.int b23), .val (.int b31), .val (.int b39), .val (.int b47), .val (.ref a52), .unset, .unset, .unset, .unset, .unset, .unset] [(.ref a102)])
  refine g_astore X150 hx (hb hby at_96) rfl (Ls' := #[.val (.int p0), .val (.long p1), .second, .val (.long p2), .second, .val (.long p3), .second, .val (.int cnt), .val (.int b7), .val (.int b15), .val (.int b23), .val (.int b31), .val (.int b39), .val (.int b47), .val (.ref a52), .val (.ref a102), .unset, .unset, .unset, .unset, .unset]) rfl (pc' := 98) rfl ?_
  refine g_new X150 hx hZ hown (hw _ (List.mem_of_getElem? (i := 34) rfl)) (hw _ (List.mem_of_getElem? (i := 35) rfl)) (hw _ (List.mem_of_getElem? (i := 36) rfl)) rfl (hb hby at_98) (by decide) (by decide) (pc' := 101) rfl (fun T174 h175 a176 g177 X178 e179 E180 l181 A182 D183 => ?_)
  have Z184 : NLe n0 h175.size := Z159.tr E180.1
  have nl185 : NLe n0 a176 := NLe.at g177 Z159
  have ne186 : Apart t70 a176 := Apart.new g177 F166.lt
  have ne187 : Apart a52 a176 := Apart.new g177 F168.lt
  have ne188 : Apart t87 a176 := Apart.new g177 F170.lt
  have ne189 : Apart t128 a176 := Apart.new g177 F172.lt
  have ne190 : Apart a102 a176 := Apart.new g177 F156.lt
  have ne191 : Apart t153 a176 := Apart.new g177 F158.lt
  have F192 := F166.ext E180
  have F193 := Exa.ext E180 F167
  have F194 := Exa.ext E180 F168
  have F195 := Fld.ext E180 F169
  have F196 := F170.ext E180
  have F197 := F172.ext E180
  have F198 := Exa.ext E180 F173
  have F199 := Exa.ext E180 F156
  have F200 := Fld.ext E180 F157
  have F201 := F158.ext E180
  clear g177 l181
  have F202 : Fld Z h175 a176 "com/example/vetter/vetter/space/Tuple" "fields" "[I" .null := D183 (Or.inr (hw _ (List.mem_of_getElem? (i := 47) rfl))) (ty := (.array .int)) (by decide)
  have F203 : Fld Z h175 a176 "com/example/vetter/vetter/space/Tuple" "hash" "I" (.int (0 : Int32)) := D183 (Or.inr (hw _ (List.mem_of_getElem? (i := 50) rfl))) (ty := .int) (by decide)
  refine g_dup X178 hx (hb hby at_101) rfl (pc' := 102) rfl ?_
  refine g_iload X178 hx (hb hby at_102) (v := cnt) rfl (pc' := 104) rfl ?_
  refine g_iload X178 hx (hb hby at_104) (v := b7) rfl (pc' := 106) rfl ?_
  refine g_iload X178 hx (hb hby at_106) (v := b15) rfl (pc' := 108) rfl ?_
  refine g_static X178 hx hZ hown (hw _ (List.mem_of_getElem? (i := 37) rfl)) (hw _ (List.mem_of_getElem? (i := 38) rfl)) (hw _ (List.mem_of_getElem? (i := 2) rfl)) (hw _ (List.mem_of_getElem? (i := 39) rfl)) (by decide) (argsL := [(.int b7), (.int b15)]) (rm8 l Z a0 hw b7 b15 h175 n0 Z184 ) rfl e179 (by rw [hml]; rfl) pd_7 rfl (rest := [(.int cnt), (.ref a176), (.ref a176)]) rfl (W := 3) (Nat.le_of_eq rfl) (by decide) (by decide) (by decide) (by decide) N151 (hb hby at_108) (pc' := 111) rfl (fun v204 T205 L206 X207 N208 q209 => ?_)
  obtain ⟨b210, rfl, f211, K212⟩ := q209
  show OGoes p e s below (Q0 Z p0 p1 p2 p3 h0 n0) n0 room_1.cells room_1.slots T205 (mkF m 111 #[.val (.int p0), .val (.long p1), .second, .val (.long p2), .second, .val (.long p3), .second, .val (.int cnt), .val (.int b7), .val (.int b15), .val (.int b23), .val (.int b31), .val (.int b39), .val (.int b47), .val (.ref a52), .val (.ref a102), .unset, .unset, .unset, .unset, .unset] [(.int b210), (.int cnt), (.ref a176), (.ref a176)])
  refine g_iload X207 hx (hb hby at_111) (v := b23) rfl (pc' := 113) rfl ?_
  refine g_iload X207 hx (hb hby at_113) (v := b31) rfl (pc' := 115) rfl ?_
  refine g_static X207 hx hZ hown (hw _ (List.mem_of_getElem? (i := 37) rfl)) (hw _ (List.mem_of_getElem? (i := 38) rfl)) (hw _ (List.mem_of_getElem? (i := 2) rfl)) (hw _ (List.mem_of_getElem? (i := 39) rfl)) (by decide) (argsL := [(.int b23), (.int b31)]) (rm8 l Z a0 hw b23 b31 h175 n0 Z184 ) rfl K212 (by rw [hml]; rfl) pd_7 rfl (rest := [(.int b210), (.int cnt), (.ref a176), (.ref a176)]) rfl (W := 4) (Nat.le_of_eq rfl) (by decide) (by decide) (by decide) (by decide) N208 (hb hby at_115) (pc' := 118) rfl (fun v213 T214 L215 X216 N217 q218 => ?_)
  obtain ⟨b219, rfl, f220, K221⟩ := q218
  show OGoes p e s below (Q0 Z p0 p1 p2 p3 h0 n0) n0 room_1.cells room_1.slots T214 (mkF m 118 #[.val (.int p0), .val (.long p1), .second, .val (.long p2), .second, .val (.long p3), .second, .val (.int cnt), .val (.int b7), .val (.int b15), .val (.int b23), .val (.int b31), .val (.int b39), .val (.int b47), .val (.ref a52), .val (.ref a102), .unset, .unset, .unset, .unset, .unset] [(.int b219), (.int b210), (.int cnt), (.ref a176), (.ref a176)])
  refine g_iload X216 hx (hb hby at_118) (v := b39) rfl (pc' := 120) rfl ?_
  refine g_iload X216 hx (hb hby at_120) (v := b47) rfl (pc' := 122) rfl ?_
  refine g_static X216 hx hZ hown (hw _ (List.mem_of_getElem? (i := 37) rfl)) (hw _ (List.mem_of_getElem? (i := 38) rfl)) (hw _ (List.mem_of_getElem? (i := 2) rfl)) (hw _ (List.mem_of_getElem? (i := 39) rfl)) (by decide) (argsL := [(.int b39), (.int b47)]) (rm8 l Z a0 hw b39 b47 h175 n0 Z184 ) rfl K221 (by rw [hml]; rfl) pd_7 rfl (rest := [(.int b219), (.int b210), (.int cnt), (.ref a176), (.ref a176)]) rfl (W := 5) (Nat.le_of_eq rfl) (by decide) (by decide) (by decide) (by decide) N217 (hb hby at_122) (pc' := 125) rfl (fun v222 T223 L224 X225 N226 q227 => ?_)
  obtain ⟨b228, rfl, f229, K230⟩ := q227
  show OGoes p e s below (Q0 Z p0 p1 p2 p3 h0 n0) n0 room_1.cells room_1.slots T223 (mkF m 125 #[.val (.int p0), .val (.long p1), .second, .val (.long p2), .second, .val (.long p3), .second, .val (.int cnt), .val (.int b7), .val (.int b15), .val (.int b23), .val (.int b31), .val (.int b39), .val (.int b47), .val (.ref a52), .val (.ref a102), .unset, .unset, .unset, .unset, .unset] [(.int b228), (.int b219), (.int b210), (.int cnt), (.ref a176), (.ref a176)])
  refine g_static X225 hx hZ hown (hw _ (List.mem_of_getElem? (i := 7) rfl)) (hw _ (List.mem_of_getElem? (i := 8) rfl)) (hw _ (List.mem_of_getElem? (i := 2) rfl)) (hw _ (List.mem_of_getElem? (i := 9) rfl)) (by decide) (argsL := [(.int cnt), (.int b210), (.int b219), (.int b228)]) (rm2 l Z a0 hw cnt b210 b219 b228 n h175 n0 Z184 hn hn3) rfl K230 (by rw [hml]; rfl) pd_1 rfl (rest := [(.ref a176), (.ref a176)]) rfl (W := 2) (Nat.le_of_eq rfl) (by decide) (by decide) (by decide) (by decide) N226 (hb hby at_125) (pc' := 128) rfl (fun v231 T232 L233 X234 N235 q236 => ?_)
  obtain ⟨t237, rfl, z238, K239, F240, F241⟩ := q236
  have Z242 : NLe n0 T232.heap.size := Z184.tr K239.1
  have nl243 : NLe n0 t237 := Z184.tr z238
  have ne244 : Apart t70 t237 := Apart.fr F192.lt z238
  have ne245 : Apart a52 t237 := Apart.fr F194.lt z238
  have ne246 : Apart t87 t237 := Apart.fr F196.lt z238
  have ne247 : Apart t128 t237 := Apart.fr F197.lt z238
  have ne248 : Apart a102 t237 := Apart.fr F199.lt z238
  have ne249 : Apart t153 t237 := Apart.fr F201.lt z238
  have ne250 : Apart a176 t237 := Apart.fr A182.lt z238
  have F251 := F192.keep K239 nin0
  have F252 := F193.keep K239
  have F253 := F194.keep K239
  have F254 := F195.keep K239 nin0
  have F255 := F196.keep K239 nin0
  have F256 := F197.keep K239 nin0
  have F257 := F198.keep K239
  have F258 := F199.keep K239
  have F259 := F200.keep K239 nin0
  have F260 := F201.keep K239 nin0
  have F261 := A182.keep K239
  have F262 := F202.keep K239 nin0
  have F263 := F203.keep K239 nin0
  show OGoes p e s below (Q0 Z p0 p1 p2 p3 h0 n0) n0 room_1.cells room_1.slots T232 (mkF m 128 #[.val (.int p0), .val (.long p1), .second, .val (.long p2), .second, .val (.long p3), .second, .val (.int cnt), .val (.int b7), .val (.int b15), .val (.int b23), .val (.int b31), .val (.int b39), .val (.int b47), .val (.ref a52), .val (.ref a102), .unset, .unset, .unset, .unset, .unset] [(.ref t237), (.ref a176), (.ref a176)])
  refine g_special X234 hx hZ rfl hown (hw _ (List.mem_of_getElem? (i := 40) rfl)) (hw _ (List.mem_of_getElem? (i := 41) rfl)) (hw _ (List.mem_of_getElem? (i := 36) rfl)) (hw _ (List.mem_of_getElem? (i := 42) rfl)) (by decide) (a := a176) (argsL := [(.ref t237)]) (rm7 l Z a0 hw a176 t237 n (own_tk b210 b219 b228) cnt T232.heap n0 Z242 F262 F263 F261 F240 F241 hn hn3 nl185 ne250) rfl rfl (by rw [hml]; rfl) pd_3 rfl (rest := [(.ref a176)]) rfl (W := 1) (Nat.le_of_eq rfl) (by decide) (by decide) (by decide) (by decide) N235 (hb hby at_128) (pc' := 131) rfl (fun v264 T265 L266 X267 N268 q269 => ?_)
  obtain ⟨t270, rfl, z271, K272, F273, F274, F275⟩ := q269
  have Z276 : NLe n0 T265.heap.size := Z242.tr K272.1
  have nl277 : NLe n0 t270 := Z242.tr z271
  have ne278 : Apart t70 t270 := Apart.fr F251.lt z271
  have ne279 : Apart a52 t270 := Apart.fr F253.lt z271
  have ne280 : Apart t87 t270 := Apart.fr F255.lt z271
  have ne281 : Apart t128 t270 := Apart.fr F256.lt z271
  have ne282 : Apart a102 t270 := Apart.fr F258.lt z271
  have ne283 : Apart t153 t270 := Apart.fr F260.lt z271
  have ne284 : Apart a176 t270 := Apart.fr F261.lt z271
  have ne285 : Apart t237 t270 := Apart.fr F240.lt z271
  have F286 := F251.keep K272 (ninS ne186 nin0)
  have F287 := F252.keep K272
  have F288 := F253.keep K272
  have F289 := F254.keep K272 (ninS ne187 nin0)
  have F290 := F255.keep K272 (ninS ne188 nin0)
  have F291 := F256.keep K272 (ninS ne189 nin0)
  have F292 := F257.keep K272
  have F293 := F258.keep K272
  have F294 := F259.keep K272 (ninS ne190 nin0)
  have F295 := F260.keep K272 (ninS ne191 nin0)
  have F297 := F240.keep K272 (ninS ne250.symm nin0)
  have F298 := F241.keep K272
  show OGoes p e s below (Q0 Z p0 p1 p2 p3 h0 n0) n0 room_1.cells room_1.slots T265 (mkF m 131 #[.val (.int p0), .val (.long p1), .second, .val (.long p2), .second, .val (.long p3), .second, .val (.int cnt), .val (.int b7), .val (.int b15), .val (.int b23), .val (.int b31), .val (.int b39), .val (.int b47), .val (.ref a52), .val (.ref a102), .unset, .unset, .unset, .unset, .unset] [(.ref a176)])
  refine g_astore X267 hx (hb hby at_131) rfl (Ls' := #[.val (.int p0), .val (.long p1), .second, .val (.long p2), .second, .val (.long p3), .second, .val (.int cnt), .val (.int b7), .val (.int b15), .val (.int b23), .val (.int b31), .val (.int b39), .val (.int b47), .val (.ref a52), .val (.ref a102), .val (.ref a176), .unset, .unset, .unset, .unset]) rfl (pc' := 133) rfl ?_
  clear B0
  refine g_iload X267 hx (hb hby at_133) (v := cnt) rfl (pc' := 135) rfl ?_
  refine g_iconst X267 hx (hb hby at_135) (v := 1) (by decide) (pc' := 136) rfl ?_
  refine g_ii_lt X267 hx (a := (n : Int)) (b := 1) hn rfl (hb hby at_136) (by decide) (pc' := 149) (by decide) (pc2 := 139) rfl (fun c299 => ?_) (fun c299 => ?_)
  · refine g_iload X267 hx (hb hby at_149) (v := cnt) rfl (pc' := 151) rfl ?_
    refine g_iconst X267 hx (hb hby at_151) (v := 2) (by decide) (pc' := 152) rfl ?_
    refine g_ii_lt X267 hx (a := (n : Int)) (b := 2) hn rfl (hb hby at_152) (by decide) (pc' := 165) (by decide) (pc2 := 155) rfl (fun c300 => ?_) (fun c300 => False.elim (by omega))
    refine g_iload X267 hx (hb hby at_165) (v := cnt) rfl (pc' := 167) rfl ?_
    refine g_iconst X267 hx (hb hby at_167) (v := 3) (by decide) (pc' := 168) rfl ?_
    refine g_ii_lt X267 hx (a := (n : Int)) (b := 3) hn rfl (hb hby at_168) (by decide) (pc' := 181) (by decide) (pc2 := 171) rfl (fun c301 => ?_) (fun c301 => False.elim (by omega))
    refine g_iconst X267 hx (hb hby at_181) (v := 1) (by decide) (pc' := 182) rfl ?_
    refine g_goto X267 hx (hb hby at_182) (by decide) (pc' := 186) (by decide) ?_
    have hA : ∀ i, i < n → (((own_tk b7 b23 b39) i).toInt = -1 ∨ ((own_tk b15 b31 b47) i).toInt = -1 ∨ ((own_tk b7 b23 b39) i).toInt = ((own_tk b15 b31 b47) i).toInt) := by
      intro i hi
      have hi3 : i = 0 ∨ i = 1 ∨ i = 2 := by omega
      rcases hi3 with rfl | rfl | rfl
      · exact absurd hi (by omega)
      · exact absurd hi (by omega)
      · exact absurd hi (by omega)
    have hM1 : ∀ i, i < n → (((own_tk b7 b23 b39) i).toInt = -1 ∨ ((own_tk b7 b23 b39) i).toInt = ((own_tk b210 b219 b228) i).toInt) := by
      intro i hi
      have hi3 : i = 0 ∨ i = 1 ∨ i = 2 := by omega
      rcases hi3 with rfl | rfl | rfl
      · exact ((own_agree b7.toInt b15.toInt b210.toInt f211).mp (hA 0 hi)).1
      · exact ((own_agree b23.toInt b31.toInt b219.toInt f220).mp (hA 1 hi)).1
      · exact ((own_agree b39.toInt b47.toInt b228.toInt f229).mp (hA 2 hi)).1
    have hM2 : ∀ i, i < n → (((own_tk b15 b31 b47) i).toInt = -1 ∨ ((own_tk b15 b31 b47) i).toInt = ((own_tk b210 b219 b228) i).toInt) := by
      intro i hi
      have hi3 : i = 0 ∨ i = 1 ∨ i = 2 := by omega
      rcases hi3 with rfl | rfl | rfl
      · exact ((own_agree b7.toInt b15.toInt b210.toInt f211).mp (hA 0 hi)).2
      · exact ((own_agree b23.toInt b31.toInt b219.toInt f220).mp (hA 1 hi)).2
      · exact ((own_agree b39.toInt b47.toInt b228.toInt f229).mp (hA 2 hi)).2
    have hA2 : ∀ i, i < n → (((own_tk b15 b31 b47) i).toInt = -1 ∨ ((own_tk b7 b23 b39) i).toInt = -1 ∨ ((own_tk b15 b31 b47) i).toInt = ((own_tk b7 b23 b39) i).toInt) := fun i hi => (hA i hi).elim (fun h => Or.inr (Or.inl h)) (fun h => h.elim Or.inl (fun h => Or.inr (Or.inr h.symm)))
    clear f211 f220 f229
    refine g_istore X267 hx (hb hby at_186) (Ls' := #[.val (.int p0), .val (.long p1), .second, .val (.long p2), .second, .val (.long p3), .second, .val (.int cnt), .val (.int b7), .val (.int b15), .val (.int b23), .val (.int b31), .val (.int b39), .val (.int b47), .val (.ref a52), .val (.ref a102), .val (.ref a176), .val (.int (1 : Int32)), .unset, .unset, .unset]) rfl (pc' := 188) rfl ?_
    refine g_aload X267 hx (hb hby at_188) (v := (.ref a52)) rfl rfl (pc' := 190) rfl ?_
    refine g_aload X267 hx (hb hby at_190) (v := (.ref a102)) rfl rfl (pc' := 192) rfl ?_
    refine g_virtual X267 hx hZ hown (hw _ (List.mem_of_getElem? (i := 51) rfl)) (hw _ (List.mem_of_getElem? (i := 52) rfl)) (hw _ (List.mem_of_getElem? (i := 54) rfl)) (hw _ (List.mem_of_getElem? (i := 53) rfl)) (hw _ (List.mem_of_getElem? (i := 6) rfl)) (hw _ (List.mem_of_getElem? (i := 55) rfl)) (by decide) (a := a52) (argsL := [(.ref a102)]) (rm11 l Z a0 hw a52 a102 t87 t153 n (own_tk b7 b23 b39) (own_tk b15 b31 b47) cnt T265.heap n0 Z276 F288 F293 F289 F290 F294 F295 hn) rfl rfl F288 (by rw [hml]; rfl) pd_9 rfl (rest := []) rfl (W := 0) (Nat.le_of_eq rfl) (by decide) (by decide) (by decide) (by decide) N268 (hb hby at_192) (pc' := 195) rfl (fun v302 T303 L304 X305 N306 q307 => ?_)
    obtain ⟨b308, rfl, f309, K310⟩ := q307
    show OGoes p e s below (Q0 Z p0 p1 p2 p3 h0 n0) n0 room_1.cells room_1.slots T303 (mkF m 195 #[.val (.int p0), .val (.long p1), .second, .val (.long p2), .second, .val (.long p3), .second, .val (.int cnt), .val (.int b7), .val (.int b15), .val (.int b23), .val (.int b31), .val (.int b39), .val (.int b47), .val (.ref a52), .val (.ref a102), .val (.ref a176), .val (.int (1 : Int32)), .unset, .unset, .unset] [(.int b308)])
    have G1 : b308.toInt = 1 := f309.elim (fun z => z.2) (fun z => z.1.elim fun i q => absurd (hA i q.1) q.2)
    clear f309
    refine g_istore X305 hx (hb hby at_195) (Ls' := #[.val (.int p0), .val (.long p1), .second, .val (.long p2), .second, .val (.long p3), .second, .val (.int cnt), .val (.int b7), .val (.int b15), .val (.int b23), .val (.int b31), .val (.int b39), .val (.int b47), .val (.ref a52), .val (.ref a102), .val (.ref a176), .val (.int (1 : Int32)), .val (.int b308), .unset, .unset]) rfl (pc' := 197) rfl ?_
    refine g_aload X305 hx (hb hby at_197) (v := (.ref a102)) rfl rfl (pc' := 199) rfl ?_
    refine g_aload X305 hx (hb hby at_199) (v := (.ref a52)) rfl rfl (pc' := 201) rfl ?_
    refine g_virtual X305 hx hZ hown (hw _ (List.mem_of_getElem? (i := 51) rfl)) (hw _ (List.mem_of_getElem? (i := 52) rfl)) (hw _ (List.mem_of_getElem? (i := 54) rfl)) (hw _ (List.mem_of_getElem? (i := 53) rfl)) (hw _ (List.mem_of_getElem? (i := 6) rfl)) (hw _ (List.mem_of_getElem? (i := 55) rfl)) (by decide) (a := a102) (argsL := [(.ref a52)]) (rm11 l Z a0 hw a102 a52 t153 t87 n (own_tk b15 b31 b47) (own_tk b7 b23 b39) cnt T265.heap n0 Z276 F293 F288 F294 F295 F289 F290 hn) rfl K310 F293 (by rw [hml]; rfl) pd_9 rfl (rest := []) rfl (W := 0) (Nat.le_of_eq rfl) (by decide) (by decide) (by decide) (by decide) N306 (hb hby at_201) (pc' := 204) rfl (fun v311 T312 L313 X314 N315 q316 => ?_)
    obtain ⟨b317, rfl, f318, K319⟩ := q316
    show OGoes p e s below (Q0 Z p0 p1 p2 p3 h0 n0) n0 room_1.cells room_1.slots T312 (mkF m 204 #[.val (.int p0), .val (.long p1), .second, .val (.long p2), .second, .val (.long p3), .second, .val (.int cnt), .val (.int b7), .val (.int b15), .val (.int b23), .val (.int b31), .val (.int b39), .val (.int b47), .val (.ref a52), .val (.ref a102), .val (.ref a176), .val (.int (1 : Int32)), .val (.int b308), .unset, .unset] [(.int b317)])
    have G2 : b317.toInt = 1 := f318.elim (fun z => z.2) (fun z => z.1.elim fun i q => absurd (hA2 i q.1) q.2)
    clear f318
    refine g_istore X314 hx (hb hby at_204) (Ls' := #[.val (.int p0), .val (.long p1), .second, .val (.long p2), .second, .val (.long p3), .second, .val (.int cnt), .val (.int b7), .val (.int b15), .val (.int b23), .val (.int b31), .val (.int b39), .val (.int b47), .val (.ref a52), .val (.ref a102), .val (.ref a176), .val (.int (1 : Int32)), .val (.int b308), .val (.int b317), .unset]) rfl (pc' := 206) rfl ?_
    refine g_aload X314 hx (hb hby at_206) (v := (.ref a52)) rfl rfl (pc' := 208) rfl ?_
    refine g_aload X314 hx (hb hby at_208) (v := (.ref a176)) rfl rfl (pc' := 210) rfl ?_
    refine g_virtual X314 hx hZ hown (hw _ (List.mem_of_getElem? (i := 56) rfl)) (hw _ (List.mem_of_getElem? (i := 57) rfl)) (hw _ (List.mem_of_getElem? (i := 59) rfl)) (hw _ (List.mem_of_getElem? (i := 58) rfl)) (hw _ (List.mem_of_getElem? (i := 6) rfl)) (hw _ (List.mem_of_getElem? (i := 60) rfl)) (by decide) (a := a52) (argsL := [(.ref a176)]) (rm12 l Z a0 hw a52 a176 t87 t270 n (own_tk b7 b23 b39) (own_tk b210 b219 b228) cnt T265.heap n0 Z276 F288 F273 F289 F290 F274 F275 hn) rfl K319 F288 (by rw [hml]; rfl) pd_10 rfl (rest := []) rfl (W := 0) (Nat.le_of_eq rfl) (by decide) (by decide) (by decide) (by decide) N315 (hb hby at_210) (pc' := 213) rfl (fun v320 T321 L322 X323 N324 q325 => ?_)
    obtain ⟨b326, rfl, f327, K328⟩ := q325
    show OGoes p e s below (Q0 Z p0 p1 p2 p3 h0 n0) n0 room_1.cells room_1.slots T321 (mkF m 213 #[.val (.int p0), .val (.long p1), .second, .val (.long p2), .second, .val (.long p3), .second, .val (.int cnt), .val (.int b7), .val (.int b15), .val (.int b23), .val (.int b31), .val (.int b39), .val (.int b47), .val (.ref a52), .val (.ref a102), .val (.ref a176), .val (.int (1 : Int32)), .val (.int b308), .val (.int b317), .unset] [(.int b326)])
    have G3 : b326.toInt = 1 := f327.elim (fun z => z.2) (fun z => z.1.elim fun i q => absurd (hM1 i q.1) q.2)
    clear f327
    refine g_i0_eq X323 hx (a := b326.toInt) rfl (hb hby at_213) (by decide) (pc' := 230) (by decide) (pc2 := 216) rfl (fun c329 => False.elim (by omega)) (fun c329 => ?_)
    refine g_aload X323 hx (hb hby at_216) (v := (.ref a102)) rfl rfl (pc' := 218) rfl ?_
    refine g_aload X323 hx (hb hby at_218) (v := (.ref a176)) rfl rfl (pc' := 220) rfl ?_
    refine g_virtual X323 hx hZ hown (hw _ (List.mem_of_getElem? (i := 56) rfl)) (hw _ (List.mem_of_getElem? (i := 57) rfl)) (hw _ (List.mem_of_getElem? (i := 59) rfl)) (hw _ (List.mem_of_getElem? (i := 58) rfl)) (hw _ (List.mem_of_getElem? (i := 6) rfl)) (hw _ (List.mem_of_getElem? (i := 60) rfl)) (by decide) (a := a102) (argsL := [(.ref a176)]) (rm12 l Z a0 hw a102 a176 t153 t270 n (own_tk b15 b31 b47) (own_tk b210 b219 b228) cnt T265.heap n0 Z276 F293 F273 F294 F295 F274 F275 hn) rfl K328 F293 (by rw [hml]; rfl) pd_10 rfl (rest := []) rfl (W := 0) (Nat.le_of_eq rfl) (by decide) (by decide) (by decide) (by decide) N324 (hb hby at_220) (pc' := 223) rfl (fun v330 T331 L332 X333 N334 q335 => ?_)
    obtain ⟨b336, rfl, f337, K338⟩ := q335
    show OGoes p e s below (Q0 Z p0 p1 p2 p3 h0 n0) n0 room_1.cells room_1.slots T331 (mkF m 223 #[.val (.int p0), .val (.long p1), .second, .val (.long p2), .second, .val (.long p3), .second, .val (.int cnt), .val (.int b7), .val (.int b15), .val (.int b23), .val (.int b31), .val (.int b39), .val (.int b47), .val (.ref a52), .val (.ref a102), .val (.ref a176), .val (.int (1 : Int32)), .val (.int b308), .val (.int b317), .unset] [(.int b336)])
    have G4 : b336.toInt = 1 := f337.elim (fun z => z.2) (fun z => z.1.elim fun i q => absurd (hM2 i q.1) q.2)
    clear f337
    refine g_i0_eq X333 hx (a := b336.toInt) rfl (hb hby at_223) (by decide) (pc' := 230) (by decide) (pc2 := 226) rfl (fun c339 => False.elim (by omega)) (fun c339 => ?_)
    refine g_iconst X333 hx (hb hby at_226) (v := 1) (by decide) (pc' := 227) rfl ?_
    refine g_goto X333 hx (hb hby at_227) (by decide) (pc' := 231) (by decide) ?_
    refine g_istore X333 hx (hb hby at_231) (Ls' := #[.val (.int p0), .val (.long p1), .second, .val (.long p2), .second, .val (.long p3), .second, .val (.int cnt), .val (.int b7), .val (.int b15), .val (.int b23), .val (.int b31), .val (.int b39), .val (.int b47), .val (.ref a52), .val (.ref a102), .val (.ref a176), .val (.int (1 : Int32)), .val (.int b308), .val (.int b317), .val (.int (1 : Int32))]) rfl (pc' := 233) rfl ?_
    refine g_iload X333 hx (hb hby at_233) (v := b308) rfl (pc' := 235) rfl ?_
    refine g_iload X333 hx (hb hby at_235) (v := (1 : Int32)) rfl (pc' := 237) rfl ?_
    refine g_ii_ne X333 hx (a := b308.toInt) (b := 1) rfl rfl (hb hby at_237) (by decide) (pc' := 258) (by decide) (pc2 := 240) rfl (fun c340 => False.elim (by omega)) (fun c340 => ?_)
    refine g_iload X333 hx (hb hby at_240) (v := b308) rfl (pc' := 242) rfl ?_
    refine g_iload X333 hx (hb hby at_242) (v := (1 : Int32)) rfl (pc' := 244) rfl ?_
    refine g_ii_ne X333 hx (a := b308.toInt) (b := 1) rfl rfl (hb hby at_244) (by decide) (pc' := 258) (by decide) (pc2 := 247) rfl (fun c341 => False.elim (by omega)) (fun c341 => ?_)
    refine g_iload X333 hx (hb hby at_247) (v := b317) rfl (pc' := 249) rfl ?_
    refine g_iload X333 hx (hb hby at_249) (v := b308) rfl (pc' := 251) rfl ?_
    refine g_ii_ne X333 hx (a := b317.toInt) (b := b308.toInt) rfl rfl (hb hby at_251) (by decide) (pc' := 258) (by decide) (pc2 := 254) rfl (fun c342 => False.elim (by omega)) (fun c342 => ?_)
    refine g_iconst X333 hx (hb hby at_254) (v := 1) (by decide) (pc' := 255) rfl ?_
    refine g_goto X333 hx (hb hby at_255) (by decide) (pc' := 259) (by decide) ?_
    refine g_retZ X333 hx hlk (by decide) hret (hb hby at_259) N334 (by decide) (by decide) ?_
    exact rfl
  · refine g_iload X267 hx (hb hby at_139) (v := b7) rfl (pc' := 141) rfl ?_
    refine g_iload X267 hx (hb hby at_141) (v := b15) rfl (pc' := 143) rfl ?_
    refine g_static X267 hx hZ hown (hw _ (List.mem_of_getElem? (i := 69) rfl)) (hw _ (List.mem_of_getElem? (i := 70) rfl)) (hw _ (List.mem_of_getElem? (i := 2) rfl)) (hw _ (List.mem_of_getElem? (i := 71) rfl)) (by decide) (argsL := [(.int b7), (.int b15)]) (rm9 l Z a0 hw b7 b15 T265.heap n0 Z276 ) rfl rfl (by rw [hml]; rfl) pd_8 rfl (rest := []) rfl (W := 0) (Nat.le_of_eq rfl) (by decide) (by decide) (by decide) (by decide) N268 (hb hby at_143) (pc' := 146) rfl (fun v343 T344 L345 X346 N347 q348 => ?_)
    obtain ⟨b349, rfl, f350, K351⟩ := q348
    show OGoes p e s below (Q0 Z p0 p1 p2 p3 h0 n0) n0 room_1.cells room_1.slots T344 (mkF m 146 #[.val (.int p0), .val (.long p1), .second, .val (.long p2), .second, .val (.long p3), .second, .val (.int cnt), .val (.int b7), .val (.int b15), .val (.int b23), .val (.int b31), .val (.int b39), .val (.int b47), .val (.ref a52), .val (.ref a102), .val (.ref a176), .unset, .unset, .unset, .unset] [(.int b349)])
    refine g_i0_eq X346 hx (a := b349.toInt) rfl (hb hby at_146) (by decide) (pc' := 185) (by decide) (pc2 := 149) rfl (fun c352 => ?_) (fun c352 => ?_)
    · refine g_iconst X346 hx (hb hby at_185) (v := 0) (by decide) (pc' := 186) rfl ?_
      have hkn : 0 < n := by omega
      have hF : ¬ (b7.toInt = -1 ∨ b15.toInt = -1 ∨ b7.toInt = b15.toInt) := by omega
      have hN : ∃ i, i < n ∧ ¬ (((own_tk b7 b23 b39) i).toInt = -1 ∨ ((own_tk b15 b31 b47) i).toInt = -1 ∨ ((own_tk b7 b23 b39) i).toInt = ((own_tk b15 b31 b47) i).toInt) := ⟨0, hkn, hF⟩
      have hN2 : ∃ i, i < n ∧ ¬ (((own_tk b15 b31 b47) i).toInt = -1 ∨ ((own_tk b7 b23 b39) i).toInt = -1 ∨ ((own_tk b15 b31 b47) i).toInt = ((own_tk b7 b23 b39) i).toInt) := ⟨0, hkn, fun (z : (b15.toInt = -1 ∨ b7.toInt = -1 ∨ b15.toInt = b7.toInt)) => hF (z.elim (fun h => Or.inr (Or.inl h)) (fun h => h.elim Or.inl (fun h => Or.inr (Or.inr h.symm))))⟩
      have hX : (b7.toInt = -1 ∨ b7.toInt = b210.toInt) → ¬ (b15.toInt = -1 ∨ b15.toInt = b210.toInt) := fun z y => hF ((own_agree b7.toInt b15.toInt b210.toInt f211).mpr ⟨z, y⟩)
      clear f350 f211 f220 f229
      refine g_istore X346 hx (hb hby at_186) (Ls' := #[.val (.int p0), .val (.long p1), .second, .val (.long p2), .second, .val (.long p3), .second, .val (.int cnt), .val (.int b7), .val (.int b15), .val (.int b23), .val (.int b31), .val (.int b39), .val (.int b47), .val (.ref a52), .val (.ref a102), .val (.ref a176), .val (.int (0 : Int32)), .unset, .unset, .unset]) rfl (pc' := 188) rfl ?_
      refine g_aload X346 hx (hb hby at_188) (v := (.ref a52)) rfl rfl (pc' := 190) rfl ?_
      refine g_aload X346 hx (hb hby at_190) (v := (.ref a102)) rfl rfl (pc' := 192) rfl ?_
      refine g_virtual X346 hx hZ hown (hw _ (List.mem_of_getElem? (i := 51) rfl)) (hw _ (List.mem_of_getElem? (i := 52) rfl)) (hw _ (List.mem_of_getElem? (i := 54) rfl)) (hw _ (List.mem_of_getElem? (i := 53) rfl)) (hw _ (List.mem_of_getElem? (i := 6) rfl)) (hw _ (List.mem_of_getElem? (i := 55) rfl)) (by decide) (a := a52) (argsL := [(.ref a102)]) (rm11 l Z a0 hw a52 a102 t87 t153 n (own_tk b7 b23 b39) (own_tk b15 b31 b47) cnt T265.heap n0 Z276 F288 F293 F289 F290 F294 F295 hn) rfl K351 F288 (by rw [hml]; rfl) pd_9 rfl (rest := []) rfl (W := 0) (Nat.le_of_eq rfl) (by decide) (by decide) (by decide) (by decide) N347 (hb hby at_192) (pc' := 195) rfl (fun v353 T354 L355 X356 N357 q358 => ?_)
      obtain ⟨b359, rfl, f360, K361⟩ := q358
      show OGoes p e s below (Q0 Z p0 p1 p2 p3 h0 n0) n0 room_1.cells room_1.slots T354 (mkF m 195 #[.val (.int p0), .val (.long p1), .second, .val (.long p2), .second, .val (.long p3), .second, .val (.int cnt), .val (.int b7), .val (.int b15), .val (.int b23), .val (.int b31), .val (.int b39), .val (.int b47), .val (.ref a52), .val (.ref a102), .val (.ref a176), .val (.int (0 : Int32)), .unset, .unset, .unset] [(.int b359)])
      have G1 : b359.toInt = 0 := f360.elim (fun z => hN.elim fun i q => absurd (z.1 i q.1) q.2) (fun z => z.2)
      clear f360
      refine g_istore X356 hx (hb hby at_195) (Ls' := #[.val (.int p0), .val (.long p1), .second, .val (.long p2), .second, .val (.long p3), .second, .val (.int cnt), .val (.int b7), .val (.int b15), .val (.int b23), .val (.int b31), .val (.int b39), .val (.int b47), .val (.ref a52), .val (.ref a102), .val (.ref a176), .val (.int (0 : Int32)), .val (.int b359), .unset, .unset]) rfl (pc' := 197) rfl ?_
      refine g_aload X356 hx (hb hby at_197) (v := (.ref a102)) rfl rfl (pc' := 199) rfl ?_
      refine g_aload X356 hx (hb hby at_199) (v := (.ref a52)) rfl rfl (pc' := 201) rfl ?_
      refine g_virtual X356 hx hZ hown (hw _ (List.mem_of_getElem? (i := 51) rfl)) (hw _ (List.mem_of_getElem? (i := 52) rfl)) (hw _ (List.mem_of_getElem? (i := 54) rfl)) (hw _ (List.mem_of_getElem? (i := 53) rfl)) (hw _ (List.mem_of_getElem? (i := 6) rfl)) (hw _ (List.mem_of_getElem? (i := 55) rfl)) (by decide) (a := a102) (argsL := [(.ref a52)]) (rm11 l Z a0 hw a102 a52 t153 t87 n (own_tk b15 b31 b47) (own_tk b7 b23 b39) cnt T265.heap n0 Z276 F293 F288 F294 F295 F289 F290 hn) rfl K361 F293 (by rw [hml]; rfl) pd_9 rfl (rest := []) rfl (W := 0) (Nat.le_of_eq rfl) (by decide) (by decide) (by decide) (by decide) N357 (hb hby at_201) (pc' := 204) rfl (fun v362 T363 L364 X365 N366 q367 => ?_)
      obtain ⟨b368, rfl, f369, K370⟩ := q367
      show OGoes p e s below (Q0 Z p0 p1 p2 p3 h0 n0) n0 room_1.cells room_1.slots T363 (mkF m 204 #[.val (.int p0), .val (.long p1), .second, .val (.long p2), .second, .val (.long p3), .second, .val (.int cnt), .val (.int b7), .val (.int b15), .val (.int b23), .val (.int b31), .val (.int b39), .val (.int b47), .val (.ref a52), .val (.ref a102), .val (.ref a176), .val (.int (0 : Int32)), .val (.int b359), .unset, .unset] [(.int b368)])
      have G2 : b368.toInt = 0 := f369.elim (fun z => hN2.elim fun i q => absurd (z.1 i q.1) q.2) (fun z => z.2)
      clear f369
      refine g_istore X365 hx (hb hby at_204) (Ls' := #[.val (.int p0), .val (.long p1), .second, .val (.long p2), .second, .val (.long p3), .second, .val (.int cnt), .val (.int b7), .val (.int b15), .val (.int b23), .val (.int b31), .val (.int b39), .val (.int b47), .val (.ref a52), .val (.ref a102), .val (.ref a176), .val (.int (0 : Int32)), .val (.int b359), .val (.int b368), .unset]) rfl (pc' := 206) rfl ?_
      refine g_aload X365 hx (hb hby at_206) (v := (.ref a52)) rfl rfl (pc' := 208) rfl ?_
      refine g_aload X365 hx (hb hby at_208) (v := (.ref a176)) rfl rfl (pc' := 210) rfl ?_
      refine g_virtual X365 hx hZ hown (hw _ (List.mem_of_getElem? (i := 56) rfl)) (hw _ (List.mem_of_getElem? (i := 57) rfl)) (hw _ (List.mem_of_getElem? (i := 59) rfl)) (hw _ (List.mem_of_getElem? (i := 58) rfl)) (hw _ (List.mem_of_getElem? (i := 6) rfl)) (hw _ (List.mem_of_getElem? (i := 60) rfl)) (by decide) (a := a52) (argsL := [(.ref a176)]) (rm12 l Z a0 hw a52 a176 t87 t270 n (own_tk b7 b23 b39) (own_tk b210 b219 b228) cnt T265.heap n0 Z276 F288 F273 F289 F290 F274 F275 hn) rfl K370 F288 (by rw [hml]; rfl) pd_10 rfl (rest := []) rfl (W := 0) (Nat.le_of_eq rfl) (by decide) (by decide) (by decide) (by decide) N366 (hb hby at_210) (pc' := 213) rfl (fun v371 T372 L373 X374 N375 q376 => ?_)
      obtain ⟨b377, rfl, f378, K379⟩ := q376
      show OGoes p e s below (Q0 Z p0 p1 p2 p3 h0 n0) n0 room_1.cells room_1.slots T372 (mkF m 213 #[.val (.int p0), .val (.long p1), .second, .val (.long p2), .second, .val (.long p3), .second, .val (.int cnt), .val (.int b7), .val (.int b15), .val (.int b23), .val (.int b31), .val (.int b39), .val (.int b47), .val (.ref a52), .val (.ref a102), .val (.ref a176), .val (.int (0 : Int32)), .val (.int b359), .val (.int b368), .unset] [(.int b377)])
      refine g_i0_eq X374 hx (a := b377.toInt) rfl (hb hby at_213) (by decide) (pc' := 230) (by decide) (pc2 := 216) rfl (fun cm => ?_) (fun cm => ?_)
      · clear f378
        refine g_iconst X374 hx (hb hby at_230) (v := 0) (by decide) (pc' := 231) rfl ?_
        refine g_istore X374 hx (hb hby at_231) (Ls' := #[.val (.int p0), .val (.long p1), .second, .val (.long p2), .second, .val (.long p3), .second, .val (.int cnt), .val (.int b7), .val (.int b15), .val (.int b23), .val (.int b31), .val (.int b39), .val (.int b47), .val (.ref a52), .val (.ref a102), .val (.ref a176), .val (.int (0 : Int32)), .val (.int b359), .val (.int b368), .val (.int (0 : Int32))]) rfl (pc' := 233) rfl ?_
        refine g_iload X374 hx (hb hby at_233) (v := b359) rfl (pc' := 235) rfl ?_
        refine g_iload X374 hx (hb hby at_235) (v := (0 : Int32)) rfl (pc' := 237) rfl ?_
        refine g_ii_ne X374 hx (a := b359.toInt) (b := 0) rfl rfl (hb hby at_237) (by decide) (pc' := 258) (by decide) (pc2 := 240) rfl (fun c380 => False.elim (by omega)) (fun c380 => ?_)
        refine g_iload X374 hx (hb hby at_240) (v := b359) rfl (pc' := 242) rfl ?_
        refine g_iload X374 hx (hb hby at_242) (v := (0 : Int32)) rfl (pc' := 244) rfl ?_
        refine g_ii_ne X374 hx (a := b359.toInt) (b := 0) rfl rfl (hb hby at_244) (by decide) (pc' := 258) (by decide) (pc2 := 247) rfl (fun c381 => False.elim (by omega)) (fun c381 => ?_)
        refine g_iload X374 hx (hb hby at_247) (v := b368) rfl (pc' := 249) rfl ?_
        refine g_iload X374 hx (hb hby at_249) (v := b359) rfl (pc' := 251) rfl ?_
        refine g_ii_ne X374 hx (a := b368.toInt) (b := b359.toInt) rfl rfl (hb hby at_251) (by decide) (pc' := 258) (by decide) (pc2 := 254) rfl (fun c382 => False.elim (by omega)) (fun c382 => ?_)
        refine g_iconst X374 hx (hb hby at_254) (v := 1) (by decide) (pc' := 255) rfl ?_
        refine g_goto X374 hx (hb hby at_255) (by decide) (pc' := 259) (by decide) ?_
        refine g_retZ X374 hx hlk (by decide) hret (hb hby at_259) N375 (by decide) (by decide) ?_
        exact rfl
      · have H1 : (b7.toInt = -1 ∨ b7.toInt = b210.toInt) := f378.elim (fun z => z.1 0 hkn) (fun z => absurd z.2 cm)
        clear f378
        refine g_aload X374 hx (hb hby at_216) (v := (.ref a102)) rfl rfl (pc' := 218) rfl ?_
        refine g_aload X374 hx (hb hby at_218) (v := (.ref a176)) rfl rfl (pc' := 220) rfl ?_
        refine g_virtual X374 hx hZ hown (hw _ (List.mem_of_getElem? (i := 56) rfl)) (hw _ (List.mem_of_getElem? (i := 57) rfl)) (hw _ (List.mem_of_getElem? (i := 59) rfl)) (hw _ (List.mem_of_getElem? (i := 58) rfl)) (hw _ (List.mem_of_getElem? (i := 6) rfl)) (hw _ (List.mem_of_getElem? (i := 60) rfl)) (by decide) (a := a102) (argsL := [(.ref a176)]) (rm12 l Z a0 hw a102 a176 t153 t270 n (own_tk b15 b31 b47) (own_tk b210 b219 b228) cnt T265.heap n0 Z276 F293 F273 F294 F295 F274 F275 hn) rfl K379 F293 (by rw [hml]; rfl) pd_10 rfl (rest := []) rfl (W := 0) (Nat.le_of_eq rfl) (by decide) (by decide) (by decide) (by decide) N375 (hb hby at_220) (pc' := 223) rfl (fun v383 T384 L385 X386 N387 q388 => ?_)
        obtain ⟨b389, rfl, f390, K391⟩ := q388
        show OGoes p e s below (Q0 Z p0 p1 p2 p3 h0 n0) n0 room_1.cells room_1.slots T384 (mkF m 223 #[.val (.int p0), .val (.long p1), .second, .val (.long p2), .second, .val (.long p3), .second, .val (.int cnt), .val (.int b7), .val (.int b15), .val (.int b23), .val (.int b31), .val (.int b39), .val (.int b47), .val (.ref a52), .val (.ref a102), .val (.ref a176), .val (.int (0 : Int32)), .val (.int b359), .val (.int b368), .unset] [(.int b389)])
        have G4 : b389.toInt = 0 := f390.elim (fun z => absurd (z.1 0 hkn) (hX H1)) (fun z => z.2)
        clear f390 H1 hX hF
        refine g_i0_eq X386 hx (a := b389.toInt) rfl (hb hby at_223) (by decide) (pc' := 230) (by decide) (pc2 := 226) rfl (fun c392 => ?_) (fun c392 => False.elim (by omega))
        refine g_iconst X386 hx (hb hby at_230) (v := 0) (by decide) (pc' := 231) rfl ?_
        refine g_istore X386 hx (hb hby at_231) (Ls' := #[.val (.int p0), .val (.long p1), .second, .val (.long p2), .second, .val (.long p3), .second, .val (.int cnt), .val (.int b7), .val (.int b15), .val (.int b23), .val (.int b31), .val (.int b39), .val (.int b47), .val (.ref a52), .val (.ref a102), .val (.ref a176), .val (.int (0 : Int32)), .val (.int b359), .val (.int b368), .val (.int (0 : Int32))]) rfl (pc' := 233) rfl ?_
        refine g_iload X386 hx (hb hby at_233) (v := b359) rfl (pc' := 235) rfl ?_
        refine g_iload X386 hx (hb hby at_235) (v := (0 : Int32)) rfl (pc' := 237) rfl ?_
        refine g_ii_ne X386 hx (a := b359.toInt) (b := 0) rfl rfl (hb hby at_237) (by decide) (pc' := 258) (by decide) (pc2 := 240) rfl (fun c393 => False.elim (by omega)) (fun c393 => ?_)
        refine g_iload X386 hx (hb hby at_240) (v := b359) rfl (pc' := 242) rfl ?_
        refine g_iload X386 hx (hb hby at_242) (v := (0 : Int32)) rfl (pc' := 244) rfl ?_
        refine g_ii_ne X386 hx (a := b359.toInt) (b := 0) rfl rfl (hb hby at_244) (by decide) (pc' := 258) (by decide) (pc2 := 247) rfl (fun c394 => False.elim (by omega)) (fun c394 => ?_)
        refine g_iload X386 hx (hb hby at_247) (v := b368) rfl (pc' := 249) rfl ?_
        refine g_iload X386 hx (hb hby at_249) (v := b359) rfl (pc' := 251) rfl ?_
        refine g_ii_ne X386 hx (a := b368.toInt) (b := b359.toInt) rfl rfl (hb hby at_251) (by decide) (pc' := 258) (by decide) (pc2 := 254) rfl (fun c395 => False.elim (by omega)) (fun c395 => ?_)
        refine g_iconst X386 hx (hb hby at_254) (v := 1) (by decide) (pc' := 255) rfl ?_
        refine g_goto X386 hx (hb hby at_255) (by decide) (pc' := 259) (by decide) ?_
        refine g_retZ X386 hx hlk (by decide) hret (hb hby at_259) N387 (by decide) (by decide) ?_
        exact rfl
    · refine g_iload X346 hx (hb hby at_149) (v := cnt) rfl (pc' := 151) rfl ?_
      refine g_iconst X346 hx (hb hby at_151) (v := 2) (by decide) (pc' := 152) rfl ?_
      refine g_ii_lt X346 hx (a := (n : Int)) (b := 2) hn rfl (hb hby at_152) (by decide) (pc' := 165) (by decide) (pc2 := 155) rfl (fun c396 => ?_) (fun c396 => ?_)
      · refine g_iload X346 hx (hb hby at_165) (v := cnt) rfl (pc' := 167) rfl ?_
        refine g_iconst X346 hx (hb hby at_167) (v := 3) (by decide) (pc' := 168) rfl ?_
        refine g_ii_lt X346 hx (a := (n : Int)) (b := 3) hn rfl (hb hby at_168) (by decide) (pc' := 181) (by decide) (pc2 := 171) rfl (fun c397 => ?_) (fun c397 => False.elim (by omega))
        refine g_iconst X346 hx (hb hby at_181) (v := 1) (by decide) (pc' := 182) rfl ?_
        refine g_goto X346 hx (hb hby at_182) (by decide) (pc' := 186) (by decide) ?_
        have hA : ∀ i, i < n → (((own_tk b7 b23 b39) i).toInt = -1 ∨ ((own_tk b15 b31 b47) i).toInt = -1 ∨ ((own_tk b7 b23 b39) i).toInt = ((own_tk b15 b31 b47) i).toInt) := by
          intro i hi
          have hi3 : i = 0 ∨ i = 1 ∨ i = 2 := by omega
          rcases hi3 with rfl | rfl | rfl
          · exact (show (b7.toInt = -1 ∨ b15.toInt = -1 ∨ b7.toInt = b15.toInt) from by omega)
          · exact absurd hi (by omega)
          · exact absurd hi (by omega)
        have hM1 : ∀ i, i < n → (((own_tk b7 b23 b39) i).toInt = -1 ∨ ((own_tk b7 b23 b39) i).toInt = ((own_tk b210 b219 b228) i).toInt) := by
          intro i hi
          have hi3 : i = 0 ∨ i = 1 ∨ i = 2 := by omega
          rcases hi3 with rfl | rfl | rfl
          · exact ((own_agree b7.toInt b15.toInt b210.toInt f211).mp (hA 0 hi)).1
          · exact ((own_agree b23.toInt b31.toInt b219.toInt f220).mp (hA 1 hi)).1
          · exact ((own_agree b39.toInt b47.toInt b228.toInt f229).mp (hA 2 hi)).1
        have hM2 : ∀ i, i < n → (((own_tk b15 b31 b47) i).toInt = -1 ∨ ((own_tk b15 b31 b47) i).toInt = ((own_tk b210 b219 b228) i).toInt) := by
          intro i hi
          have hi3 : i = 0 ∨ i = 1 ∨ i = 2 := by omega
          rcases hi3 with rfl | rfl | rfl
          · exact ((own_agree b7.toInt b15.toInt b210.toInt f211).mp (hA 0 hi)).2
          · exact ((own_agree b23.toInt b31.toInt b219.toInt f220).mp (hA 1 hi)).2
          · exact ((own_agree b39.toInt b47.toInt b228.toInt f229).mp (hA 2 hi)).2
        have hA2 : ∀ i, i < n → (((own_tk b15 b31 b47) i).toInt = -1 ∨ ((own_tk b7 b23 b39) i).toInt = -1 ∨ ((own_tk b15 b31 b47) i).toInt = ((own_tk b7 b23 b39) i).toInt) := fun i hi => (hA i hi).elim (fun h => Or.inr (Or.inl h)) (fun h => h.elim Or.inl (fun h => Or.inr (Or.inr h.symm)))
        clear f350 f211 f220 f229
        refine g_istore X346 hx (hb hby at_186) (Ls' := #[.val (.int p0), .val (.long p1), .second, .val (.long p2), .second, .val (.long p3), .second, .val (.int cnt), .val (.int b7), .val (.int b15), .val (.int b23), .val (.int b31), .val (.int b39), .val (.int b47), .val (.ref a52), .val (.ref a102), .val (.ref a176), .val (.int (1 : Int32)), .unset, .unset, .unset]) rfl (pc' := 188) rfl ?_
        refine g_aload X346 hx (hb hby at_188) (v := (.ref a52)) rfl rfl (pc' := 190) rfl ?_
        refine g_aload X346 hx (hb hby at_190) (v := (.ref a102)) rfl rfl (pc' := 192) rfl ?_
        refine g_virtual X346 hx hZ hown (hw _ (List.mem_of_getElem? (i := 51) rfl)) (hw _ (List.mem_of_getElem? (i := 52) rfl)) (hw _ (List.mem_of_getElem? (i := 54) rfl)) (hw _ (List.mem_of_getElem? (i := 53) rfl)) (hw _ (List.mem_of_getElem? (i := 6) rfl)) (hw _ (List.mem_of_getElem? (i := 55) rfl)) (by decide) (a := a52) (argsL := [(.ref a102)]) (rm11 l Z a0 hw a52 a102 t87 t153 n (own_tk b7 b23 b39) (own_tk b15 b31 b47) cnt T265.heap n0 Z276 F288 F293 F289 F290 F294 F295 hn) rfl K351 F288 (by rw [hml]; rfl) pd_9 rfl (rest := []) rfl (W := 0) (Nat.le_of_eq rfl) (by decide) (by decide) (by decide) (by decide) N347 (hb hby at_192) (pc' := 195) rfl (fun v398 T399 L400 X401 N402 q403 => ?_)
        obtain ⟨b404, rfl, f405, K406⟩ := q403
        show OGoes p e s below (Q0 Z p0 p1 p2 p3 h0 n0) n0 room_1.cells room_1.slots T399 (mkF m 195 #[.val (.int p0), .val (.long p1), .second, .val (.long p2), .second, .val (.long p3), .second, .val (.int cnt), .val (.int b7), .val (.int b15), .val (.int b23), .val (.int b31), .val (.int b39), .val (.int b47), .val (.ref a52), .val (.ref a102), .val (.ref a176), .val (.int (1 : Int32)), .unset, .unset, .unset] [(.int b404)])
        have G1 : b404.toInt = 1 := f405.elim (fun z => z.2) (fun z => z.1.elim fun i q => absurd (hA i q.1) q.2)
        clear f405
        refine g_istore X401 hx (hb hby at_195) (Ls' := #[.val (.int p0), .val (.long p1), .second, .val (.long p2), .second, .val (.long p3), .second, .val (.int cnt), .val (.int b7), .val (.int b15), .val (.int b23), .val (.int b31), .val (.int b39), .val (.int b47), .val (.ref a52), .val (.ref a102), .val (.ref a176), .val (.int (1 : Int32)), .val (.int b404), .unset, .unset]) rfl (pc' := 197) rfl ?_
        refine g_aload X401 hx (hb hby at_197) (v := (.ref a102)) rfl rfl (pc' := 199) rfl ?_
        refine g_aload X401 hx (hb hby at_199) (v := (.ref a52)) rfl rfl (pc' := 201) rfl ?_
        refine g_virtual X401 hx hZ hown (hw _ (List.mem_of_getElem? (i := 51) rfl)) (hw _ (List.mem_of_getElem? (i := 52) rfl)) (hw _ (List.mem_of_getElem? (i := 54) rfl)) (hw _ (List.mem_of_getElem? (i := 53) rfl)) (hw _ (List.mem_of_getElem? (i := 6) rfl)) (hw _ (List.mem_of_getElem? (i := 55) rfl)) (by decide) (a := a102) (argsL := [(.ref a52)]) (rm11 l Z a0 hw a102 a52 t153 t87 n (own_tk b15 b31 b47) (own_tk b7 b23 b39) cnt T265.heap n0 Z276 F293 F288 F294 F295 F289 F290 hn) rfl K406 F293 (by rw [hml]; rfl) pd_9 rfl (rest := []) rfl (W := 0) (Nat.le_of_eq rfl) (by decide) (by decide) (by decide) (by decide) N402 (hb hby at_201) (pc' := 204) rfl (fun v407 T408 L409 X410 N411 q412 => ?_)
        obtain ⟨b413, rfl, f414, K415⟩ := q412
        show OGoes p e s below (Q0 Z p0 p1 p2 p3 h0 n0) n0 room_1.cells room_1.slots T408 (mkF m 204 #[.val (.int p0), .val (.long p1), .second, .val (.long p2), .second, .val (.long p3), .second, .val (.int cnt), .val (.int b7), .val (.int b15), .val (.int b23), .val (.int b31), .val (.int b39), .val (.int b47), .val (.ref a52), .val (.ref a102), .val (.ref a176), .val (.int (1 : Int32)), .val (.int b404), .unset, .unset] [(.int b413)])
        have G2 : b413.toInt = 1 := f414.elim (fun z => z.2) (fun z => z.1.elim fun i q => absurd (hA2 i q.1) q.2)
        clear f414
        refine g_istore X410 hx (hb hby at_204) (Ls' := #[.val (.int p0), .val (.long p1), .second, .val (.long p2), .second, .val (.long p3), .second, .val (.int cnt), .val (.int b7), .val (.int b15), .val (.int b23), .val (.int b31), .val (.int b39), .val (.int b47), .val (.ref a52), .val (.ref a102), .val (.ref a176), .val (.int (1 : Int32)), .val (.int b404), .val (.int b413), .unset]) rfl (pc' := 206) rfl ?_
        refine g_aload X410 hx (hb hby at_206) (v := (.ref a52)) rfl rfl (pc' := 208) rfl ?_
        refine g_aload X410 hx (hb hby at_208) (v := (.ref a176)) rfl rfl (pc' := 210) rfl ?_
        refine g_virtual X410 hx hZ hown (hw _ (List.mem_of_getElem? (i := 56) rfl)) (hw _ (List.mem_of_getElem? (i := 57) rfl)) (hw _ (List.mem_of_getElem? (i := 59) rfl)) (hw _ (List.mem_of_getElem? (i := 58) rfl)) (hw _ (List.mem_of_getElem? (i := 6) rfl)) (hw _ (List.mem_of_getElem? (i := 60) rfl)) (by decide) (a := a52) (argsL := [(.ref a176)]) (rm12 l Z a0 hw a52 a176 t87 t270 n (own_tk b7 b23 b39) (own_tk b210 b219 b228) cnt T265.heap n0 Z276 F288 F273 F289 F290 F274 F275 hn) rfl K415 F288 (by rw [hml]; rfl) pd_10 rfl (rest := []) rfl (W := 0) (Nat.le_of_eq rfl) (by decide) (by decide) (by decide) (by decide) N411 (hb hby at_210) (pc' := 213) rfl (fun v416 T417 L418 X419 N420 q421 => ?_)
        obtain ⟨b422, rfl, f423, K424⟩ := q421
        show OGoes p e s below (Q0 Z p0 p1 p2 p3 h0 n0) n0 room_1.cells room_1.slots T417 (mkF m 213 #[.val (.int p0), .val (.long p1), .second, .val (.long p2), .second, .val (.long p3), .second, .val (.int cnt), .val (.int b7), .val (.int b15), .val (.int b23), .val (.int b31), .val (.int b39), .val (.int b47), .val (.ref a52), .val (.ref a102), .val (.ref a176), .val (.int (1 : Int32)), .val (.int b404), .val (.int b413), .unset] [(.int b422)])
        have G3 : b422.toInt = 1 := f423.elim (fun z => z.2) (fun z => z.1.elim fun i q => absurd (hM1 i q.1) q.2)
        clear f423
        refine g_i0_eq X419 hx (a := b422.toInt) rfl (hb hby at_213) (by decide) (pc' := 230) (by decide) (pc2 := 216) rfl (fun c425 => False.elim (by omega)) (fun c425 => ?_)
        refine g_aload X419 hx (hb hby at_216) (v := (.ref a102)) rfl rfl (pc' := 218) rfl ?_
        refine g_aload X419 hx (hb hby at_218) (v := (.ref a176)) rfl rfl (pc' := 220) rfl ?_
        refine g_virtual X419 hx hZ hown (hw _ (List.mem_of_getElem? (i := 56) rfl)) (hw _ (List.mem_of_getElem? (i := 57) rfl)) (hw _ (List.mem_of_getElem? (i := 59) rfl)) (hw _ (List.mem_of_getElem? (i := 58) rfl)) (hw _ (List.mem_of_getElem? (i := 6) rfl)) (hw _ (List.mem_of_getElem? (i := 60) rfl)) (by decide) (a := a102) (argsL := [(.ref a176)]) (rm12 l Z a0 hw a102 a176 t153 t270 n (own_tk b15 b31 b47) (own_tk b210 b219 b228) cnt T265.heap n0 Z276 F293 F273 F294 F295 F274 F275 hn) rfl K424 F293 (by rw [hml]; rfl) pd_10 rfl (rest := []) rfl (W := 0) (Nat.le_of_eq rfl) (by decide) (by decide) (by decide) (by decide) N420 (hb hby at_220) (pc' := 223) rfl (fun v426 T427 L428 X429 N430 q431 => ?_)
        obtain ⟨b432, rfl, f433, K434⟩ := q431
        show OGoes p e s below (Q0 Z p0 p1 p2 p3 h0 n0) n0 room_1.cells room_1.slots T427 (mkF m 223 #[.val (.int p0), .val (.long p1), .second, .val (.long p2), .second, .val (.long p3), .second, .val (.int cnt), .val (.int b7), .val (.int b15), .val (.int b23), .val (.int b31), .val (.int b39), .val (.int b47), .val (.ref a52), .val (.ref a102), .val (.ref a176), .val (.int (1 : Int32)), .val (.int b404), .val (.int b413), .unset] [(.int b432)])
        have G4 : b432.toInt = 1 := f433.elim (fun z => z.2) (fun z => z.1.elim fun i q => absurd (hM2 i q.1) q.2)
        clear f433
        refine g_i0_eq X429 hx (a := b432.toInt) rfl (hb hby at_223) (by decide) (pc' := 230) (by decide) (pc2 := 226) rfl (fun c435 => False.elim (by omega)) (fun c435 => ?_)
        refine g_iconst X429 hx (hb hby at_226) (v := 1) (by decide) (pc' := 227) rfl ?_
        refine g_goto X429 hx (hb hby at_227) (by decide) (pc' := 231) (by decide) ?_
        refine g_istore X429 hx (hb hby at_231) (Ls' := #[.val (.int p0), .val (.long p1), .second, .val (.long p2), .second, .val (.long p3), .second, .val (.int cnt), .val (.int b7), .val (.int b15), .val (.int b23), .val (.int b31), .val (.int b39), .val (.int b47), .val (.ref a52), .val (.ref a102), .val (.ref a176), .val (.int (1 : Int32)), .val (.int b404), .val (.int b413), .val (.int (1 : Int32))]) rfl (pc' := 233) rfl ?_
        refine g_iload X429 hx (hb hby at_233) (v := b404) rfl (pc' := 235) rfl ?_
        refine g_iload X429 hx (hb hby at_235) (v := (1 : Int32)) rfl (pc' := 237) rfl ?_
        refine g_ii_ne X429 hx (a := b404.toInt) (b := 1) rfl rfl (hb hby at_237) (by decide) (pc' := 258) (by decide) (pc2 := 240) rfl (fun c436 => False.elim (by omega)) (fun c436 => ?_)
        refine g_iload X429 hx (hb hby at_240) (v := b404) rfl (pc' := 242) rfl ?_
        refine g_iload X429 hx (hb hby at_242) (v := (1 : Int32)) rfl (pc' := 244) rfl ?_
        refine g_ii_ne X429 hx (a := b404.toInt) (b := 1) rfl rfl (hb hby at_244) (by decide) (pc' := 258) (by decide) (pc2 := 247) rfl (fun c437 => False.elim (by omega)) (fun c437 => ?_)
        refine g_iload X429 hx (hb hby at_247) (v := b413) rfl (pc' := 249) rfl ?_
        refine g_iload X429 hx (hb hby at_249) (v := b404) rfl (pc' := 251) rfl ?_
        refine g_ii_ne X429 hx (a := b413.toInt) (b := b404.toInt) rfl rfl (hb hby at_251) (by decide) (pc' := 258) (by decide) (pc2 := 254) rfl (fun c438 => False.elim (by omega)) (fun c438 => ?_)
        refine g_iconst X429 hx (hb hby at_254) (v := 1) (by decide) (pc' := 255) rfl ?_
        refine g_goto X429 hx (hb hby at_255) (by decide) (pc' := 259) (by decide) ?_
        refine g_retZ X429 hx hlk (by decide) hret (hb hby at_259) N430 (by decide) (by decide) ?_
        exact rfl
      · refine g_iload X346 hx (hb hby at_155) (v := b23) rfl (pc' := 157) rfl ?_
        refine g_iload X346 hx (hb hby at_157) (v := b31) rfl (pc' := 159) rfl ?_
        refine g_static X346 hx hZ hown (hw _ (List.mem_of_getElem? (i := 69) rfl)) (hw _ (List.mem_of_getElem? (i := 70) rfl)) (hw _ (List.mem_of_getElem? (i := 2) rfl)) (hw _ (List.mem_of_getElem? (i := 71) rfl)) (by decide) (argsL := [(.int b23), (.int b31)]) (rm9 l Z a0 hw b23 b31 T265.heap n0 Z276 ) rfl K351 (by rw [hml]; rfl) pd_8 rfl (rest := []) rfl (W := 0) (Nat.le_of_eq rfl) (by decide) (by decide) (by decide) (by decide) N347 (hb hby at_159) (pc' := 162) rfl (fun v439 T440 L441 X442 N443 q444 => ?_)
        obtain ⟨b445, rfl, f446, K447⟩ := q444
        show OGoes p e s below (Q0 Z p0 p1 p2 p3 h0 n0) n0 room_1.cells room_1.slots T440 (mkF m 162 #[.val (.int p0), .val (.long p1), .second, .val (.long p2), .second, .val (.long p3), .second, .val (.int cnt), .val (.int b7), .val (.int b15), .val (.int b23), .val (.int b31), .val (.int b39), .val (.int b47), .val (.ref a52), .val (.ref a102), .val (.ref a176), .unset, .unset, .unset, .unset] [(.int b445)])
        refine g_i0_eq X442 hx (a := b445.toInt) rfl (hb hby at_162) (by decide) (pc' := 185) (by decide) (pc2 := 165) rfl (fun c448 => ?_) (fun c448 => ?_)
        · refine g_iconst X442 hx (hb hby at_185) (v := 0) (by decide) (pc' := 186) rfl ?_
          have hkn : 1 < n := by omega
          have hF : ¬ (b23.toInt = -1 ∨ b31.toInt = -1 ∨ b23.toInt = b31.toInt) := by omega
          have hN : ∃ i, i < n ∧ ¬ (((own_tk b7 b23 b39) i).toInt = -1 ∨ ((own_tk b15 b31 b47) i).toInt = -1 ∨ ((own_tk b7 b23 b39) i).toInt = ((own_tk b15 b31 b47) i).toInt) := ⟨1, hkn, hF⟩
          have hN2 : ∃ i, i < n ∧ ¬ (((own_tk b15 b31 b47) i).toInt = -1 ∨ ((own_tk b7 b23 b39) i).toInt = -1 ∨ ((own_tk b15 b31 b47) i).toInt = ((own_tk b7 b23 b39) i).toInt) := ⟨1, hkn, fun (z : (b31.toInt = -1 ∨ b23.toInt = -1 ∨ b31.toInt = b23.toInt)) => hF (z.elim (fun h => Or.inr (Or.inl h)) (fun h => h.elim Or.inl (fun h => Or.inr (Or.inr h.symm))))⟩
          have hX : (b23.toInt = -1 ∨ b23.toInt = b219.toInt) → ¬ (b31.toInt = -1 ∨ b31.toInt = b219.toInt) := fun z y => hF ((own_agree b23.toInt b31.toInt b219.toInt f220).mpr ⟨z, y⟩)
          clear f350 f446 f211 f220 f229
          refine g_istore X442 hx (hb hby at_186) (Ls' := #[.val (.int p0), .val (.long p1), .second, .val (.long p2), .second, .val (.long p3), .second, .val (.int cnt), .val (.int b7), .val (.int b15), .val (.int b23), .val (.int b31), .val (.int b39), .val (.int b47), .val (.ref a52), .val (.ref a102), .val (.ref a176), .val (.int (0 : Int32)), .unset, .unset, .unset]) rfl (pc' := 188) rfl ?_
          refine g_aload X442 hx (hb hby at_188) (v := (.ref a52)) rfl rfl (pc' := 190) rfl ?_
          refine g_aload X442 hx (hb hby at_190) (v := (.ref a102)) rfl rfl (pc' := 192) rfl ?_
          refine g_virtual X442 hx hZ hown (hw _ (List.mem_of_getElem? (i := 51) rfl)) (hw _ (List.mem_of_getElem? (i := 52) rfl)) (hw _ (List.mem_of_getElem? (i := 54) rfl)) (hw _ (List.mem_of_getElem? (i := 53) rfl)) (hw _ (List.mem_of_getElem? (i := 6) rfl)) (hw _ (List.mem_of_getElem? (i := 55) rfl)) (by decide) (a := a52) (argsL := [(.ref a102)]) (rm11 l Z a0 hw a52 a102 t87 t153 n (own_tk b7 b23 b39) (own_tk b15 b31 b47) cnt T265.heap n0 Z276 F288 F293 F289 F290 F294 F295 hn) rfl K447 F288 (by rw [hml]; rfl) pd_9 rfl (rest := []) rfl (W := 0) (Nat.le_of_eq rfl) (by decide) (by decide) (by decide) (by decide) N443 (hb hby at_192) (pc' := 195) rfl (fun v449 T450 L451 X452 N453 q454 => ?_)
          obtain ⟨b455, rfl, f456, K457⟩ := q454
          show OGoes p e s below (Q0 Z p0 p1 p2 p3 h0 n0) n0 room_1.cells room_1.slots T450 (mkF m 195 #[.val (.int p0), .val (.long p1), .second, .val (.long p2), .second, .val (.long p3), .second, .val (.int cnt), .val (.int b7), .val (.int b15), .val (.int b23), .val (.int b31), .val (.int b39), .val (.int b47), .val (.ref a52), .val (.ref a102), .val (.ref a176), .val (.int (0 : Int32)), .unset, .unset, .unset] [(.int b455)])
          have G1 : b455.toInt = 0 := f456.elim (fun z => hN.elim fun i q => absurd (z.1 i q.1) q.2) (fun z => z.2)
          clear f456
          refine g_istore X452 hx (hb hby at_195) (Ls' := #[.val (.int p0), .val (.long p1), .second, .val (.long p2), .second, .val (.long p3), .second, .val (.int cnt), .val (.int b7), .val (.int b15), .val (.int b23), .val (.int b31), .val (.int b39), .val (.int b47), .val (.ref a52), .val (.ref a102), .val (.ref a176), .val (.int (0 : Int32)), .val (.int b455), .unset, .unset]) rfl (pc' := 197) rfl ?_
          refine g_aload X452 hx (hb hby at_197) (v := (.ref a102)) rfl rfl (pc' := 199) rfl ?_
          refine g_aload X452 hx (hb hby at_199) (v := (.ref a52)) rfl rfl (pc' := 201) rfl ?_
          refine g_virtual X452 hx hZ hown (hw _ (List.mem_of_getElem? (i := 51) rfl)) (hw _ (List.mem_of_getElem? (i := 52) rfl)) (hw _ (List.mem_of_getElem? (i := 54) rfl)) (hw _ (List.mem_of_getElem? (i := 53) rfl)) (hw _ (List.mem_of_getElem? (i := 6) rfl)) (hw _ (List.mem_of_getElem? (i := 55) rfl)) (by decide) (a := a102) (argsL := [(.ref a52)]) (rm11 l Z a0 hw a102 a52 t153 t87 n (own_tk b15 b31 b47) (own_tk b7 b23 b39) cnt T265.heap n0 Z276 F293 F288 F294 F295 F289 F290 hn) rfl K457 F293 (by rw [hml]; rfl) pd_9 rfl (rest := []) rfl (W := 0) (Nat.le_of_eq rfl) (by decide) (by decide) (by decide) (by decide) N453 (hb hby at_201) (pc' := 204) rfl (fun v458 T459 L460 X461 N462 q463 => ?_)
          obtain ⟨b464, rfl, f465, K466⟩ := q463
          show OGoes p e s below (Q0 Z p0 p1 p2 p3 h0 n0) n0 room_1.cells room_1.slots T459 (mkF m 204 #[.val (.int p0), .val (.long p1), .second, .val (.long p2), .second, .val (.long p3), .second, .val (.int cnt), .val (.int b7), .val (.int b15), .val (.int b23), .val (.int b31), .val (.int b39), .val (.int b47), .val (.ref a52), .val (.ref a102), .val (.ref a176), .val (.int (0 : Int32)), .val (.int b455), .unset, .unset] [(.int b464)])
          have G2 : b464.toInt = 0 := f465.elim (fun z => hN2.elim fun i q => absurd (z.1 i q.1) q.2) (fun z => z.2)
          clear f465
          refine g_istore X461 hx (hb hby at_204) (Ls' := #[.val (.int p0), .val (.long p1), .second, .val (.long p2), .second, .val (.long p3), .second, .val (.int cnt), .val (.int b7), .val (.int b15), .val (.int b23), .val (.int b31), .val (.int b39), .val (.int b47), .val (.ref a52), .val (.ref a102), .val (.ref a176), .val (.int (0 : Int32)), .val (.int b455), .val (.int b464), .unset]) rfl (pc' := 206) rfl ?_
          refine g_aload X461 hx (hb hby at_206) (v := (.ref a52)) rfl rfl (pc' := 208) rfl ?_
          refine g_aload X461 hx (hb hby at_208) (v := (.ref a176)) rfl rfl (pc' := 210) rfl ?_
          refine g_virtual X461 hx hZ hown (hw _ (List.mem_of_getElem? (i := 56) rfl)) (hw _ (List.mem_of_getElem? (i := 57) rfl)) (hw _ (List.mem_of_getElem? (i := 59) rfl)) (hw _ (List.mem_of_getElem? (i := 58) rfl)) (hw _ (List.mem_of_getElem? (i := 6) rfl)) (hw _ (List.mem_of_getElem? (i := 60) rfl)) (by decide) (a := a52) (argsL := [(.ref a176)]) (rm12 l Z a0 hw a52 a176 t87 t270 n (own_tk b7 b23 b39) (own_tk b210 b219 b228) cnt T265.heap n0 Z276 F288 F273 F289 F290 F274 F275 hn) rfl K466 F288 (by rw [hml]; rfl) pd_10 rfl (rest := []) rfl (W := 0) (Nat.le_of_eq rfl) (by decide) (by decide) (by decide) (by decide) N462 (hb hby at_210) (pc' := 213) rfl (fun v467 T468 L469 X470 N471 q472 => ?_)
          obtain ⟨b473, rfl, f474, K475⟩ := q472
          show OGoes p e s below (Q0 Z p0 p1 p2 p3 h0 n0) n0 room_1.cells room_1.slots T468 (mkF m 213 #[.val (.int p0), .val (.long p1), .second, .val (.long p2), .second, .val (.long p3), .second, .val (.int cnt), .val (.int b7), .val (.int b15), .val (.int b23), .val (.int b31), .val (.int b39), .val (.int b47), .val (.ref a52), .val (.ref a102), .val (.ref a176), .val (.int (0 : Int32)), .val (.int b455), .val (.int b464), .unset] [(.int b473)])
          refine g_i0_eq X470 hx (a := b473.toInt) rfl (hb hby at_213) (by decide) (pc' := 230) (by decide) (pc2 := 216) rfl (fun cm => ?_) (fun cm => ?_)
          · clear f474
            refine g_iconst X470 hx (hb hby at_230) (v := 0) (by decide) (pc' := 231) rfl ?_
            refine g_istore X470 hx (hb hby at_231) (Ls' := #[.val (.int p0), .val (.long p1), .second, .val (.long p2), .second, .val (.long p3), .second, .val (.int cnt), .val (.int b7), .val (.int b15), .val (.int b23), .val (.int b31), .val (.int b39), .val (.int b47), .val (.ref a52), .val (.ref a102), .val (.ref a176), .val (.int (0 : Int32)), .val (.int b455), .val (.int b464), .val (.int (0 : Int32))]) rfl (pc' := 233) rfl ?_
            refine g_iload X470 hx (hb hby at_233) (v := b455) rfl (pc' := 235) rfl ?_
            refine g_iload X470 hx (hb hby at_235) (v := (0 : Int32)) rfl (pc' := 237) rfl ?_
            refine g_ii_ne X470 hx (a := b455.toInt) (b := 0) rfl rfl (hb hby at_237) (by decide) (pc' := 258) (by decide) (pc2 := 240) rfl (fun c476 => False.elim (by omega)) (fun c476 => ?_)
            refine g_iload X470 hx (hb hby at_240) (v := b455) rfl (pc' := 242) rfl ?_
            refine g_iload X470 hx (hb hby at_242) (v := (0 : Int32)) rfl (pc' := 244) rfl ?_
            refine g_ii_ne X470 hx (a := b455.toInt) (b := 0) rfl rfl (hb hby at_244) (by decide) (pc' := 258) (by decide) (pc2 := 247) rfl (fun c477 => False.elim (by omega)) (fun c477 => ?_)
            refine g_iload X470 hx (hb hby at_247) (v := b464) rfl (pc' := 249) rfl ?_
            refine g_iload X470 hx (hb hby at_249) (v := b455) rfl (pc' := 251) rfl ?_
            refine g_ii_ne X470 hx (a := b464.toInt) (b := b455.toInt) rfl rfl (hb hby at_251) (by decide) (pc' := 258) (by decide) (pc2 := 254) rfl (fun c478 => False.elim (by omega)) (fun c478 => ?_)
            refine g_iconst X470 hx (hb hby at_254) (v := 1) (by decide) (pc' := 255) rfl ?_
            refine g_goto X470 hx (hb hby at_255) (by decide) (pc' := 259) (by decide) ?_
            refine g_retZ X470 hx hlk (by decide) hret (hb hby at_259) N471 (by decide) (by decide) ?_
            exact rfl
          · have H1 : (b23.toInt = -1 ∨ b23.toInt = b219.toInt) := f474.elim (fun z => z.1 1 hkn) (fun z => absurd z.2 cm)
            clear f474
            refine g_aload X470 hx (hb hby at_216) (v := (.ref a102)) rfl rfl (pc' := 218) rfl ?_
            refine g_aload X470 hx (hb hby at_218) (v := (.ref a176)) rfl rfl (pc' := 220) rfl ?_
            refine g_virtual X470 hx hZ hown (hw _ (List.mem_of_getElem? (i := 56) rfl)) (hw _ (List.mem_of_getElem? (i := 57) rfl)) (hw _ (List.mem_of_getElem? (i := 59) rfl)) (hw _ (List.mem_of_getElem? (i := 58) rfl)) (hw _ (List.mem_of_getElem? (i := 6) rfl)) (hw _ (List.mem_of_getElem? (i := 60) rfl)) (by decide) (a := a102) (argsL := [(.ref a176)]) (rm12 l Z a0 hw a102 a176 t153 t270 n (own_tk b15 b31 b47) (own_tk b210 b219 b228) cnt T265.heap n0 Z276 F293 F273 F294 F295 F274 F275 hn) rfl K475 F293 (by rw [hml]; rfl) pd_10 rfl (rest := []) rfl (W := 0) (Nat.le_of_eq rfl) (by decide) (by decide) (by decide) (by decide) N471 (hb hby at_220) (pc' := 223) rfl (fun v479 T480 L481 X482 N483 q484 => ?_)
            obtain ⟨b485, rfl, f486, K487⟩ := q484
            show OGoes p e s below (Q0 Z p0 p1 p2 p3 h0 n0) n0 room_1.cells room_1.slots T480 (mkF m 223 #[.val (.int p0), .val (.long p1), .second, .val (.long p2), .second, .val (.long p3), .second, .val (.int cnt), .val (.int b7), .val (.int b15), .val (.int b23), .val (.int b31), .val (.int b39), .val (.int b47), .val (.ref a52), .val (.ref a102), .val (.ref a176), .val (.int (0 : Int32)), .val (.int b455), .val (.int b464), .unset] [(.int b485)])
            have G4 : b485.toInt = 0 := f486.elim (fun z => absurd (z.1 1 hkn) (hX H1)) (fun z => z.2)
            clear f486 H1 hX hF
            refine g_i0_eq X482 hx (a := b485.toInt) rfl (hb hby at_223) (by decide) (pc' := 230) (by decide) (pc2 := 226) rfl (fun c488 => ?_) (fun c488 => False.elim (by omega))
            refine g_iconst X482 hx (hb hby at_230) (v := 0) (by decide) (pc' := 231) rfl ?_
            refine g_istore X482 hx (hb hby at_231) (Ls' := #[.val (.int p0), .val (.long p1), .second, .val (.long p2), .second, .val (.long p3), .second, .val (.int cnt), .val (.int b7), .val (.int b15), .val (.int b23), .val (.int b31), .val (.int b39), .val (.int b47), .val (.ref a52), .val (.ref a102), .val (.ref a176), .val (.int (0 : Int32)), .val (.int b455), .val (.int b464), .val (.int (0 : Int32))]) rfl (pc' := 233) rfl ?_
            refine g_iload X482 hx (hb hby at_233) (v := b455) rfl (pc' := 235) rfl ?_
            refine g_iload X482 hx (hb hby at_235) (v := (0 : Int32)) rfl (pc' := 237) rfl ?_
            refine g_ii_ne X482 hx (a := b455.toInt) (b := 0) rfl rfl (hb hby at_237) (by decide) (pc' := 258) (by decide) (pc2 := 240) rfl (fun c489 => False.elim (by omega)) (fun c489 => ?_)
            refine g_iload X482 hx (hb hby at_240) (v := b455) rfl (pc' := 242) rfl ?_
            refine g_iload X482 hx (hb hby at_242) (v := (0 : Int32)) rfl (pc' := 244) rfl ?_
            refine g_ii_ne X482 hx (a := b455.toInt) (b := 0) rfl rfl (hb hby at_244) (by decide) (pc' := 258) (by decide) (pc2 := 247) rfl (fun c490 => False.elim (by omega)) (fun c490 => ?_)
            refine g_iload X482 hx (hb hby at_247) (v := b464) rfl (pc' := 249) rfl ?_
            refine g_iload X482 hx (hb hby at_249) (v := b455) rfl (pc' := 251) rfl ?_
            refine g_ii_ne X482 hx (a := b464.toInt) (b := b455.toInt) rfl rfl (hb hby at_251) (by decide) (pc' := 258) (by decide) (pc2 := 254) rfl (fun c491 => False.elim (by omega)) (fun c491 => ?_)
            refine g_iconst X482 hx (hb hby at_254) (v := 1) (by decide) (pc' := 255) rfl ?_
            refine g_goto X482 hx (hb hby at_255) (by decide) (pc' := 259) (by decide) ?_
            refine g_retZ X482 hx hlk (by decide) hret (hb hby at_259) N483 (by decide) (by decide) ?_
            exact rfl
        · refine g_iload X442 hx (hb hby at_165) (v := cnt) rfl (pc' := 167) rfl ?_
          refine g_iconst X442 hx (hb hby at_167) (v := 3) (by decide) (pc' := 168) rfl ?_
          refine g_ii_lt X442 hx (a := (n : Int)) (b := 3) hn rfl (hb hby at_168) (by decide) (pc' := 181) (by decide) (pc2 := 171) rfl (fun c492 => ?_) (fun c492 => ?_)
          · refine g_iconst X442 hx (hb hby at_181) (v := 1) (by decide) (pc' := 182) rfl ?_
            refine g_goto X442 hx (hb hby at_182) (by decide) (pc' := 186) (by decide) ?_
            have hA : ∀ i, i < n → (((own_tk b7 b23 b39) i).toInt = -1 ∨ ((own_tk b15 b31 b47) i).toInt = -1 ∨ ((own_tk b7 b23 b39) i).toInt = ((own_tk b15 b31 b47) i).toInt) := by
              intro i hi
              have hi3 : i = 0 ∨ i = 1 ∨ i = 2 := by omega
              rcases hi3 with rfl | rfl | rfl
              · exact (show (b7.toInt = -1 ∨ b15.toInt = -1 ∨ b7.toInt = b15.toInt) from by omega)
              · exact (show (b23.toInt = -1 ∨ b31.toInt = -1 ∨ b23.toInt = b31.toInt) from by omega)
              · exact absurd hi (by omega)
            have hM1 : ∀ i, i < n → (((own_tk b7 b23 b39) i).toInt = -1 ∨ ((own_tk b7 b23 b39) i).toInt = ((own_tk b210 b219 b228) i).toInt) := by
              intro i hi
              have hi3 : i = 0 ∨ i = 1 ∨ i = 2 := by omega
              rcases hi3 with rfl | rfl | rfl
              · exact ((own_agree b7.toInt b15.toInt b210.toInt f211).mp (hA 0 hi)).1
              · exact ((own_agree b23.toInt b31.toInt b219.toInt f220).mp (hA 1 hi)).1
              · exact ((own_agree b39.toInt b47.toInt b228.toInt f229).mp (hA 2 hi)).1
            have hM2 : ∀ i, i < n → (((own_tk b15 b31 b47) i).toInt = -1 ∨ ((own_tk b15 b31 b47) i).toInt = ((own_tk b210 b219 b228) i).toInt) := by
              intro i hi
              have hi3 : i = 0 ∨ i = 1 ∨ i = 2 := by omega
              rcases hi3 with rfl | rfl | rfl
              · exact ((own_agree b7.toInt b15.toInt b210.toInt f211).mp (hA 0 hi)).2
              · exact ((own_agree b23.toInt b31.toInt b219.toInt f220).mp (hA 1 hi)).2
              · exact ((own_agree b39.toInt b47.toInt b228.toInt f229).mp (hA 2 hi)).2
            have hA2 : ∀ i, i < n → (((own_tk b15 b31 b47) i).toInt = -1 ∨ ((own_tk b7 b23 b39) i).toInt = -1 ∨ ((own_tk b15 b31 b47) i).toInt = ((own_tk b7 b23 b39) i).toInt) := fun i hi => (hA i hi).elim (fun h => Or.inr (Or.inl h)) (fun h => h.elim Or.inl (fun h => Or.inr (Or.inr h.symm)))
            clear f350 f446 f211 f220 f229
            refine g_istore X442 hx (hb hby at_186) (Ls' := #[.val (.int p0), .val (.long p1), .second, .val (.long p2), .second, .val (.long p3), .second, .val (.int cnt), .val (.int b7), .val (.int b15), .val (.int b23), .val (.int b31), .val (.int b39), .val (.int b47), .val (.ref a52), .val (.ref a102), .val (.ref a176), .val (.int (1 : Int32)), .unset, .unset, .unset]) rfl (pc' := 188) rfl ?_
            refine g_aload X442 hx (hb hby at_188) (v := (.ref a52)) rfl rfl (pc' := 190) rfl ?_
            refine g_aload X442 hx (hb hby at_190) (v := (.ref a102)) rfl rfl (pc' := 192) rfl ?_
            refine g_virtual X442 hx hZ hown (hw _ (List.mem_of_getElem? (i := 51) rfl)) (hw _ (List.mem_of_getElem? (i := 52) rfl)) (hw _ (List.mem_of_getElem? (i := 54) rfl)) (hw _ (List.mem_of_getElem? (i := 53) rfl)) (hw _ (List.mem_of_getElem? (i := 6) rfl)) (hw _ (List.mem_of_getElem? (i := 55) rfl)) (by decide) (a := a52) (argsL := [(.ref a102)]) (rm11 l Z a0 hw a52 a102 t87 t153 n (own_tk b7 b23 b39) (own_tk b15 b31 b47) cnt T265.heap n0 Z276 F288 F293 F289 F290 F294 F295 hn) rfl K447 F288 (by rw [hml]; rfl) pd_9 rfl (rest := []) rfl (W := 0) (Nat.le_of_eq rfl) (by decide) (by decide) (by decide) (by decide) N443 (hb hby at_192) (pc' := 195) rfl (fun v493 T494 L495 X496 N497 q498 => ?_)
            obtain ⟨b499, rfl, f500, K501⟩ := q498
            show OGoes p e s below (Q0 Z p0 p1 p2 p3 h0 n0) n0 room_1.cells room_1.slots T494 (mkF m 195 #[.val (.int p0), .val (.long p1), .second, .val (.long p2), .second, .val (.long p3), .second, .val (.int cnt), .val (.int b7), .val (.int b15), .val (.int b23), .val (.int b31), .val (.int b39), .val (.int b47), .val (.ref a52), .val (.ref a102), .val (.ref a176), .val (.int (1 : Int32)), .unset, .unset, .unset] [(.int b499)])
            have G1 : b499.toInt = 1 := f500.elim (fun z => z.2) (fun z => z.1.elim fun i q => absurd (hA i q.1) q.2)
            clear f500
            refine g_istore X496 hx (hb hby at_195) (Ls' := #[.val (.int p0), .val (.long p1), .second, .val (.long p2), .second, .val (.long p3), .second, .val (.int cnt), .val (.int b7), .val (.int b15), .val (.int b23), .val (.int b31), .val (.int b39), .val (.int b47), .val (.ref a52), .val (.ref a102), .val (.ref a176), .val (.int (1 : Int32)), .val (.int b499), .unset, .unset]) rfl (pc' := 197) rfl ?_
            refine g_aload X496 hx (hb hby at_197) (v := (.ref a102)) rfl rfl (pc' := 199) rfl ?_
            refine g_aload X496 hx (hb hby at_199) (v := (.ref a52)) rfl rfl (pc' := 201) rfl ?_
            refine g_virtual X496 hx hZ hown (hw _ (List.mem_of_getElem? (i := 51) rfl)) (hw _ (List.mem_of_getElem? (i := 52) rfl)) (hw _ (List.mem_of_getElem? (i := 54) rfl)) (hw _ (List.mem_of_getElem? (i := 53) rfl)) (hw _ (List.mem_of_getElem? (i := 6) rfl)) (hw _ (List.mem_of_getElem? (i := 55) rfl)) (by decide) (a := a102) (argsL := [(.ref a52)]) (rm11 l Z a0 hw a102 a52 t153 t87 n (own_tk b15 b31 b47) (own_tk b7 b23 b39) cnt T265.heap n0 Z276 F293 F288 F294 F295 F289 F290 hn) rfl K501 F293 (by rw [hml]; rfl) pd_9 rfl (rest := []) rfl (W := 0) (Nat.le_of_eq rfl) (by decide) (by decide) (by decide) (by decide) N497 (hb hby at_201) (pc' := 204) rfl (fun v502 T503 L504 X505 N506 q507 => ?_)
            obtain ⟨b508, rfl, f509, K510⟩ := q507
            show OGoes p e s below (Q0 Z p0 p1 p2 p3 h0 n0) n0 room_1.cells room_1.slots T503 (mkF m 204 #[.val (.int p0), .val (.long p1), .second, .val (.long p2), .second, .val (.long p3), .second, .val (.int cnt), .val (.int b7), .val (.int b15), .val (.int b23), .val (.int b31), .val (.int b39), .val (.int b47), .val (.ref a52), .val (.ref a102), .val (.ref a176), .val (.int (1 : Int32)), .val (.int b499), .unset, .unset] [(.int b508)])
            have G2 : b508.toInt = 1 := f509.elim (fun z => z.2) (fun z => z.1.elim fun i q => absurd (hA2 i q.1) q.2)
            clear f509
            refine g_istore X505 hx (hb hby at_204) (Ls' := #[.val (.int p0), .val (.long p1), .second, .val (.long p2), .second, .val (.long p3), .second, .val (.int cnt), .val (.int b7), .val (.int b15), .val (.int b23), .val (.int b31), .val (.int b39), .val (.int b47), .val (.ref a52), .val (.ref a102), .val (.ref a176), .val (.int (1 : Int32)), .val (.int b499), .val (.int b508), .unset]) rfl (pc' := 206) rfl ?_
            refine g_aload X505 hx (hb hby at_206) (v := (.ref a52)) rfl rfl (pc' := 208) rfl ?_
            refine g_aload X505 hx (hb hby at_208) (v := (.ref a176)) rfl rfl (pc' := 210) rfl ?_
            refine g_virtual X505 hx hZ hown (hw _ (List.mem_of_getElem? (i := 56) rfl)) (hw _ (List.mem_of_getElem? (i := 57) rfl)) (hw _ (List.mem_of_getElem? (i := 59) rfl)) (hw _ (List.mem_of_getElem? (i := 58) rfl)) (hw _ (List.mem_of_getElem? (i := 6) rfl)) (hw _ (List.mem_of_getElem? (i := 60) rfl)) (by decide) (a := a52) (argsL := [(.ref a176)]) (rm12 l Z a0 hw a52 a176 t87 t270 n (own_tk b7 b23 b39) (own_tk b210 b219 b228) cnt T265.heap n0 Z276 F288 F273 F289 F290 F274 F275 hn) rfl K510 F288 (by rw [hml]; rfl) pd_10 rfl (rest := []) rfl (W := 0) (Nat.le_of_eq rfl) (by decide) (by decide) (by decide) (by decide) N506 (hb hby at_210) (pc' := 213) rfl (fun v511 T512 L513 X514 N515 q516 => ?_)
            obtain ⟨b517, rfl, f518, K519⟩ := q516
            show OGoes p e s below (Q0 Z p0 p1 p2 p3 h0 n0) n0 room_1.cells room_1.slots T512 (mkF m 213 #[.val (.int p0), .val (.long p1), .second, .val (.long p2), .second, .val (.long p3), .second, .val (.int cnt), .val (.int b7), .val (.int b15), .val (.int b23), .val (.int b31), .val (.int b39), .val (.int b47), .val (.ref a52), .val (.ref a102), .val (.ref a176), .val (.int (1 : Int32)), .val (.int b499), .val (.int b508), .unset] [(.int b517)])
            have G3 : b517.toInt = 1 := f518.elim (fun z => z.2) (fun z => z.1.elim fun i q => absurd (hM1 i q.1) q.2)
            clear f518
            refine g_i0_eq X514 hx (a := b517.toInt) rfl (hb hby at_213) (by decide) (pc' := 230) (by decide) (pc2 := 216) rfl (fun c520 => False.elim (by omega)) (fun c520 => ?_)
            refine g_aload X514 hx (hb hby at_216) (v := (.ref a102)) rfl rfl (pc' := 218) rfl ?_
            refine g_aload X514 hx (hb hby at_218) (v := (.ref a176)) rfl rfl (pc' := 220) rfl ?_
            refine g_virtual X514 hx hZ hown (hw _ (List.mem_of_getElem? (i := 56) rfl)) (hw _ (List.mem_of_getElem? (i := 57) rfl)) (hw _ (List.mem_of_getElem? (i := 59) rfl)) (hw _ (List.mem_of_getElem? (i := 58) rfl)) (hw _ (List.mem_of_getElem? (i := 6) rfl)) (hw _ (List.mem_of_getElem? (i := 60) rfl)) (by decide) (a := a102) (argsL := [(.ref a176)]) (rm12 l Z a0 hw a102 a176 t153 t270 n (own_tk b15 b31 b47) (own_tk b210 b219 b228) cnt T265.heap n0 Z276 F293 F273 F294 F295 F274 F275 hn) rfl K519 F293 (by rw [hml]; rfl) pd_10 rfl (rest := []) rfl (W := 0) (Nat.le_of_eq rfl) (by decide) (by decide) (by decide) (by decide) N515 (hb hby at_220) (pc' := 223) rfl (fun v521 T522 L523 X524 N525 q526 => ?_)
            obtain ⟨b527, rfl, f528, K529⟩ := q526
            show OGoes p e s below (Q0 Z p0 p1 p2 p3 h0 n0) n0 room_1.cells room_1.slots T522 (mkF m 223 #[.val (.int p0), .val (.long p1), .second, .val (.long p2), .second, .val (.long p3), .second, .val (.int cnt), .val (.int b7), .val (.int b15), .val (.int b23), .val (.int b31), .val (.int b39), .val (.int b47), .val (.ref a52), .val (.ref a102), .val (.ref a176), .val (.int (1 : Int32)), .val (.int b499), .val (.int b508), .unset] [(.int b527)])
            have G4 : b527.toInt = 1 := f528.elim (fun z => z.2) (fun z => z.1.elim fun i q => absurd (hM2 i q.1) q.2)
            clear f528
            refine g_i0_eq X524 hx (a := b527.toInt) rfl (hb hby at_223) (by decide) (pc' := 230) (by decide) (pc2 := 226) rfl (fun c530 => False.elim (by omega)) (fun c530 => ?_)
            refine g_iconst X524 hx (hb hby at_226) (v := 1) (by decide) (pc' := 227) rfl ?_
            refine g_goto X524 hx (hb hby at_227) (by decide) (pc' := 231) (by decide) ?_
            refine g_istore X524 hx (hb hby at_231) (Ls' := #[.val (.int p0), .val (.long p1), .second, .val (.long p2), .second, .val (.long p3), .second, .val (.int cnt), .val (.int b7), .val (.int b15), .val (.int b23), .val (.int b31), .val (.int b39), .val (.int b47), .val (.ref a52), .val (.ref a102), .val (.ref a176), .val (.int (1 : Int32)), .val (.int b499), .val (.int b508), .val (.int (1 : Int32))]) rfl (pc' := 233) rfl ?_
            refine g_iload X524 hx (hb hby at_233) (v := b499) rfl (pc' := 235) rfl ?_
            refine g_iload X524 hx (hb hby at_235) (v := (1 : Int32)) rfl (pc' := 237) rfl ?_
            refine g_ii_ne X524 hx (a := b499.toInt) (b := 1) rfl rfl (hb hby at_237) (by decide) (pc' := 258) (by decide) (pc2 := 240) rfl (fun c531 => False.elim (by omega)) (fun c531 => ?_)
            refine g_iload X524 hx (hb hby at_240) (v := b499) rfl (pc' := 242) rfl ?_
            refine g_iload X524 hx (hb hby at_242) (v := (1 : Int32)) rfl (pc' := 244) rfl ?_
            refine g_ii_ne X524 hx (a := b499.toInt) (b := 1) rfl rfl (hb hby at_244) (by decide) (pc' := 258) (by decide) (pc2 := 247) rfl (fun c532 => False.elim (by omega)) (fun c532 => ?_)
            refine g_iload X524 hx (hb hby at_247) (v := b508) rfl (pc' := 249) rfl ?_
            refine g_iload X524 hx (hb hby at_249) (v := b499) rfl (pc' := 251) rfl ?_
            refine g_ii_ne X524 hx (a := b508.toInt) (b := b499.toInt) rfl rfl (hb hby at_251) (by decide) (pc' := 258) (by decide) (pc2 := 254) rfl (fun c533 => False.elim (by omega)) (fun c533 => ?_)
            refine g_iconst X524 hx (hb hby at_254) (v := 1) (by decide) (pc' := 255) rfl ?_
            refine g_goto X524 hx (hb hby at_255) (by decide) (pc' := 259) (by decide) ?_
            refine g_retZ X524 hx hlk (by decide) hret (hb hby at_259) N525 (by decide) (by decide) ?_
            exact rfl
          · refine g_iload X442 hx (hb hby at_171) (v := b39) rfl (pc' := 173) rfl ?_
            refine g_iload X442 hx (hb hby at_173) (v := b47) rfl (pc' := 175) rfl ?_
            refine g_static X442 hx hZ hown (hw _ (List.mem_of_getElem? (i := 69) rfl)) (hw _ (List.mem_of_getElem? (i := 70) rfl)) (hw _ (List.mem_of_getElem? (i := 2) rfl)) (hw _ (List.mem_of_getElem? (i := 71) rfl)) (by decide) (argsL := [(.int b39), (.int b47)]) (rm9 l Z a0 hw b39 b47 T265.heap n0 Z276 ) rfl K447 (by rw [hml]; rfl) pd_8 rfl (rest := []) rfl (W := 0) (Nat.le_of_eq rfl) (by decide) (by decide) (by decide) (by decide) N443 (hb hby at_175) (pc' := 178) rfl (fun v534 T535 L536 X537 N538 q539 => ?_)
            obtain ⟨b540, rfl, f541, K542⟩ := q539
            show OGoes p e s below (Q0 Z p0 p1 p2 p3 h0 n0) n0 room_1.cells room_1.slots T535 (mkF m 178 #[.val (.int p0), .val (.long p1), .second, .val (.long p2), .second, .val (.long p3), .second, .val (.int cnt), .val (.int b7), .val (.int b15), .val (.int b23), .val (.int b31), .val (.int b39), .val (.int b47), .val (.ref a52), .val (.ref a102), .val (.ref a176), .unset, .unset, .unset, .unset] [(.int b540)])
            refine g_i0_eq X537 hx (a := b540.toInt) rfl (hb hby at_178) (by decide) (pc' := 185) (by decide) (pc2 := 181) rfl (fun c543 => ?_) (fun c543 => ?_)
            · refine g_iconst X537 hx (hb hby at_185) (v := 0) (by decide) (pc' := 186) rfl ?_
              have hkn : 2 < n := by omega
              have hF : ¬ (b39.toInt = -1 ∨ b47.toInt = -1 ∨ b39.toInt = b47.toInt) := by omega
              have hN : ∃ i, i < n ∧ ¬ (((own_tk b7 b23 b39) i).toInt = -1 ∨ ((own_tk b15 b31 b47) i).toInt = -1 ∨ ((own_tk b7 b23 b39) i).toInt = ((own_tk b15 b31 b47) i).toInt) := ⟨2, hkn, hF⟩
              have hN2 : ∃ i, i < n ∧ ¬ (((own_tk b15 b31 b47) i).toInt = -1 ∨ ((own_tk b7 b23 b39) i).toInt = -1 ∨ ((own_tk b15 b31 b47) i).toInt = ((own_tk b7 b23 b39) i).toInt) := ⟨2, hkn, fun (z : (b47.toInt = -1 ∨ b39.toInt = -1 ∨ b47.toInt = b39.toInt)) => hF (z.elim (fun h => Or.inr (Or.inl h)) (fun h => h.elim Or.inl (fun h => Or.inr (Or.inr h.symm))))⟩
              have hX : (b39.toInt = -1 ∨ b39.toInt = b228.toInt) → ¬ (b47.toInt = -1 ∨ b47.toInt = b228.toInt) := fun z y => hF ((own_agree b39.toInt b47.toInt b228.toInt f229).mpr ⟨z, y⟩)
              clear f350 f446 f541 f211 f220 f229
              refine g_istore X537 hx (hb hby at_186) (Ls' := #[.val (.int p0), .val (.long p1), .second, .val (.long p2), .second, .val (.long p3), .second, .val (.int cnt), .val (.int b7), .val (.int b15), .val (.int b23), .val (.int b31), .val (.int b39), .val (.int b47), .val (.ref a52), .val (.ref a102), .val (.ref a176), .val (.int (0 : Int32)), .unset, .unset, .unset]) rfl (pc' := 188) rfl ?_
              refine g_aload X537 hx (hb hby at_188) (v := (.ref a52)) rfl rfl (pc' := 190) rfl ?_
              refine g_aload X537 hx (hb hby at_190) (v := (.ref a102)) rfl rfl (pc' := 192) rfl ?_
              refine g_virtual X537 hx hZ hown (hw _ (List.mem_of_getElem? (i := 51) rfl)) (hw _ (List.mem_of_getElem? (i := 52) rfl)) (hw _ (List.mem_of_getElem? (i := 54) rfl)) (hw _ (List.mem_of_getElem? (i := 53) rfl)) (hw _ (List.mem_of_getElem? (i := 6) rfl)) (hw _ (List.mem_of_getElem? (i := 55) rfl)) (by decide) (a := a52) (argsL := [(.ref a102)]) (rm11 l Z a0 hw a52 a102 t87 t153 n (own_tk b7 b23 b39) (own_tk b15 b31 b47) cnt T265.heap n0 Z276 F288 F293 F289 F290 F294 F295 hn) rfl K542 F288 (by rw [hml]; rfl) pd_9 rfl (rest := []) rfl (W := 0) (Nat.le_of_eq rfl) (by decide) (by decide) (by decide) (by decide) N538 (hb hby at_192) (pc' := 195) rfl (fun v544 T545 L546 X547 N548 q549 => ?_)
              obtain ⟨b550, rfl, f551, K552⟩ := q549
              show OGoes p e s below (Q0 Z p0 p1 p2 p3 h0 n0) n0 room_1.cells room_1.slots T545 (mkF m 195 #[.val (.int p0), .val (.long p1), .second, .val (.long p2), .second, .val (.long p3), .second, .val (.int cnt), .val (.int b7), .val (.int b15), .val (.int b23), .val (.int b31), .val (.int b39), .val (.int b47), .val (.ref a52), .val (.ref a102), .val (.ref a176), .val (.int (0 : Int32)), .unset, .unset, .unset] [(.int b550)])
              have G1 : b550.toInt = 0 := f551.elim (fun z => hN.elim fun i q => absurd (z.1 i q.1) q.2) (fun z => z.2)
              clear f551
              refine g_istore X547 hx (hb hby at_195) (Ls' := #[.val (.int p0), .val (.long p1), .second, .val (.long p2), .second, .val (.long p3), .second, .val (.int cnt), .val (.int b7), .val (.int b15), .val (.int b23), .val (.int b31), .val (.int b39), .val (.int b47), .val (.ref a52), .val (.ref a102), .val (.ref a176), .val (.int (0 : Int32)), .val (.int b550), .unset, .unset]) rfl (pc' := 197) rfl ?_
              refine g_aload X547 hx (hb hby at_197) (v := (.ref a102)) rfl rfl (pc' := 199) rfl ?_
              refine g_aload X547 hx (hb hby at_199) (v := (.ref a52)) rfl rfl (pc' := 201) rfl ?_
              refine g_virtual X547 hx hZ hown (hw _ (List.mem_of_getElem? (i := 51) rfl)) (hw _ (List.mem_of_getElem? (i := 52) rfl)) (hw _ (List.mem_of_getElem? (i := 54) rfl)) (hw _ (List.mem_of_getElem? (i := 53) rfl)) (hw _ (List.mem_of_getElem? (i := 6) rfl)) (hw _ (List.mem_of_getElem? (i := 55) rfl)) (by decide) (a := a102) (argsL := [(.ref a52)]) (rm11 l Z a0 hw a102 a52 t153 t87 n (own_tk b15 b31 b47) (own_tk b7 b23 b39) cnt T265.heap n0 Z276 F293 F288 F294 F295 F289 F290 hn) rfl K552 F293 (by rw [hml]; rfl) pd_9 rfl (rest := []) rfl (W := 0) (Nat.le_of_eq rfl) (by decide) (by decide) (by decide) (by decide) N548 (hb hby at_201) (pc' := 204) rfl (fun v553 T554 L555 X556 N557 q558 => ?_)
              obtain ⟨b559, rfl, f560, K561⟩ := q558
              show OGoes p e s below (Q0 Z p0 p1 p2 p3 h0 n0) n0 room_1.cells room_1.slots T554 (mkF m 204 #[.val (.int p0), .val (.long p1), .second, .val (.long p2), .second, .val (.long p3), .second, .val (.int cnt), .val (.int b7), .val (.int b15), .val (.int b23), .val (.int b31), .val (.int b39), .val (.int b47), .val (.ref a52), .val (.ref a102), .val (.ref a176), .val (.int (0 : Int32)), .val (.int b550), .unset, .unset] [(.int b559)])
              have G2 : b559.toInt = 0 := f560.elim (fun z => hN2.elim fun i q => absurd (z.1 i q.1) q.2) (fun z => z.2)
              clear f560
              refine g_istore X556 hx (hb hby at_204) (Ls' := #[.val (.int p0), .val (.long p1), .second, .val (.long p2), .second, .val (.long p3), .second, .val (.int cnt), .val (.int b7), .val (.int b15), .val (.int b23), .val (.int b31), .val (.int b39), .val (.int b47), .val (.ref a52), .val (.ref a102), .val (.ref a176), .val (.int (0 : Int32)), .val (.int b550), .val (.int b559), .unset]) rfl (pc' := 206) rfl ?_
              refine g_aload X556 hx (hb hby at_206) (v := (.ref a52)) rfl rfl (pc' := 208) rfl ?_
              refine g_aload X556 hx (hb hby at_208) (v := (.ref a176)) rfl rfl (pc' := 210) rfl ?_
              refine g_virtual X556 hx hZ hown (hw _ (List.mem_of_getElem? (i := 56) rfl)) (hw _ (List.mem_of_getElem? (i := 57) rfl)) (hw _ (List.mem_of_getElem? (i := 59) rfl)) (hw _ (List.mem_of_getElem? (i := 58) rfl)) (hw _ (List.mem_of_getElem? (i := 6) rfl)) (hw _ (List.mem_of_getElem? (i := 60) rfl)) (by decide) (a := a52) (argsL := [(.ref a176)]) (rm12 l Z a0 hw a52 a176 t87 t270 n (own_tk b7 b23 b39) (own_tk b210 b219 b228) cnt T265.heap n0 Z276 F288 F273 F289 F290 F274 F275 hn) rfl K561 F288 (by rw [hml]; rfl) pd_10 rfl (rest := []) rfl (W := 0) (Nat.le_of_eq rfl) (by decide) (by decide) (by decide) (by decide) N557 (hb hby at_210) (pc' := 213) rfl (fun v562 T563 L564 X565 N566 q567 => ?_)
              obtain ⟨b568, rfl, f569, K570⟩ := q567
              show OGoes p e s below (Q0 Z p0 p1 p2 p3 h0 n0) n0 room_1.cells room_1.slots T563 (mkF m 213 #[.val (.int p0), .val (.long p1), .second, .val (.long p2), .second, .val (.long p3), .second, .val (.int cnt), .val (.int b7), .val (.int b15), .val (.int b23), .val (.int b31), .val (.int b39), .val (.int b47), .val (.ref a52), .val (.ref a102), .val (.ref a176), .val (.int (0 : Int32)), .val (.int b550), .val (.int b559), .unset] [(.int b568)])
              refine g_i0_eq X565 hx (a := b568.toInt) rfl (hb hby at_213) (by decide) (pc' := 230) (by decide) (pc2 := 216) rfl (fun cm => ?_) (fun cm => ?_)
              · clear f569
                refine g_iconst X565 hx (hb hby at_230) (v := 0) (by decide) (pc' := 231) rfl ?_
                refine g_istore X565 hx (hb hby at_231) (Ls' := #[.val (.int p0), .val (.long p1), .second, .val (.long p2), .second, .val (.long p3), .second, .val (.int cnt), .val (.int b7), .val (.int b15), .val (.int b23), .val (.int b31), .val (.int b39), .val (.int b47), .val (.ref a52), .val (.ref a102), .val (.ref a176), .val (.int (0 : Int32)), .val (.int b550), .val (.int b559), .val (.int (0 : Int32))]) rfl (pc' := 233) rfl ?_
                refine g_iload X565 hx (hb hby at_233) (v := b550) rfl (pc' := 235) rfl ?_
                refine g_iload X565 hx (hb hby at_235) (v := (0 : Int32)) rfl (pc' := 237) rfl ?_
                refine g_ii_ne X565 hx (a := b550.toInt) (b := 0) rfl rfl (hb hby at_237) (by decide) (pc' := 258) (by decide) (pc2 := 240) rfl (fun c571 => False.elim (by omega)) (fun c571 => ?_)
                refine g_iload X565 hx (hb hby at_240) (v := b550) rfl (pc' := 242) rfl ?_
                refine g_iload X565 hx (hb hby at_242) (v := (0 : Int32)) rfl (pc' := 244) rfl ?_
                refine g_ii_ne X565 hx (a := b550.toInt) (b := 0) rfl rfl (hb hby at_244) (by decide) (pc' := 258) (by decide) (pc2 := 247) rfl (fun c572 => False.elim (by omega)) (fun c572 => ?_)
                refine g_iload X565 hx (hb hby at_247) (v := b559) rfl (pc' := 249) rfl ?_
                refine g_iload X565 hx (hb hby at_249) (v := b550) rfl (pc' := 251) rfl ?_
                refine g_ii_ne X565 hx (a := b559.toInt) (b := b550.toInt) rfl rfl (hb hby at_251) (by decide) (pc' := 258) (by decide) (pc2 := 254) rfl (fun c573 => False.elim (by omega)) (fun c573 => ?_)
                refine g_iconst X565 hx (hb hby at_254) (v := 1) (by decide) (pc' := 255) rfl ?_
                refine g_goto X565 hx (hb hby at_255) (by decide) (pc' := 259) (by decide) ?_
                refine g_retZ X565 hx hlk (by decide) hret (hb hby at_259) N566 (by decide) (by decide) ?_
                exact rfl
              · have H1 : (b39.toInt = -1 ∨ b39.toInt = b228.toInt) := f569.elim (fun z => z.1 2 hkn) (fun z => absurd z.2 cm)
                clear f569
                refine g_aload X565 hx (hb hby at_216) (v := (.ref a102)) rfl rfl (pc' := 218) rfl ?_
                refine g_aload X565 hx (hb hby at_218) (v := (.ref a176)) rfl rfl (pc' := 220) rfl ?_
                refine g_virtual X565 hx hZ hown (hw _ (List.mem_of_getElem? (i := 56) rfl)) (hw _ (List.mem_of_getElem? (i := 57) rfl)) (hw _ (List.mem_of_getElem? (i := 59) rfl)) (hw _ (List.mem_of_getElem? (i := 58) rfl)) (hw _ (List.mem_of_getElem? (i := 6) rfl)) (hw _ (List.mem_of_getElem? (i := 60) rfl)) (by decide) (a := a102) (argsL := [(.ref a176)]) (rm12 l Z a0 hw a102 a176 t153 t270 n (own_tk b15 b31 b47) (own_tk b210 b219 b228) cnt T265.heap n0 Z276 F293 F273 F294 F295 F274 F275 hn) rfl K570 F293 (by rw [hml]; rfl) pd_10 rfl (rest := []) rfl (W := 0) (Nat.le_of_eq rfl) (by decide) (by decide) (by decide) (by decide) N566 (hb hby at_220) (pc' := 223) rfl (fun v574 T575 L576 X577 N578 q579 => ?_)
                obtain ⟨b580, rfl, f581, K582⟩ := q579
                show OGoes p e s below (Q0 Z p0 p1 p2 p3 h0 n0) n0 room_1.cells room_1.slots T575 (mkF m 223 #[.val (.int p0), .val (.long p1), .second, .val (.long p2), .second, .val (.long p3), .second, .val (.int cnt), .val (.int b7), .val (.int b15), .val (.int b23), .val (.int b31), .val (.int b39), .val (.int b47), .val (.ref a52), .val (.ref a102), .val (.ref a176), .val (.int (0 : Int32)), .val (.int b550), .val (.int b559), .unset] [(.int b580)])
                have G4 : b580.toInt = 0 := f581.elim (fun z => absurd (z.1 2 hkn) (hX H1)) (fun z => z.2)
                clear f581 H1 hX hF
                refine g_i0_eq X577 hx (a := b580.toInt) rfl (hb hby at_223) (by decide) (pc' := 230) (by decide) (pc2 := 226) rfl (fun c583 => ?_) (fun c583 => False.elim (by omega))
                refine g_iconst X577 hx (hb hby at_230) (v := 0) (by decide) (pc' := 231) rfl ?_
                refine g_istore X577 hx (hb hby at_231) (Ls' := #[.val (.int p0), .val (.long p1), .second, .val (.long p2), .second, .val (.long p3), .second, .val (.int cnt), .val (.int b7), .val (.int b15), .val (.int b23), .val (.int b31), .val (.int b39), .val (.int b47), .val (.ref a52), .val (.ref a102), .val (.ref a176), .val (.int (0 : Int32)), .val (.int b550), .val (.int b559), .val (.int (0 : Int32))]) rfl (pc' := 233) rfl ?_
                refine g_iload X577 hx (hb hby at_233) (v := b550) rfl (pc' := 235) rfl ?_
                refine g_iload X577 hx (hb hby at_235) (v := (0 : Int32)) rfl (pc' := 237) rfl ?_
                refine g_ii_ne X577 hx (a := b550.toInt) (b := 0) rfl rfl (hb hby at_237) (by decide) (pc' := 258) (by decide) (pc2 := 240) rfl (fun c584 => False.elim (by omega)) (fun c584 => ?_)
                refine g_iload X577 hx (hb hby at_240) (v := b550) rfl (pc' := 242) rfl ?_
                refine g_iload X577 hx (hb hby at_242) (v := (0 : Int32)) rfl (pc' := 244) rfl ?_
                refine g_ii_ne X577 hx (a := b550.toInt) (b := 0) rfl rfl (hb hby at_244) (by decide) (pc' := 258) (by decide) (pc2 := 247) rfl (fun c585 => False.elim (by omega)) (fun c585 => ?_)
                refine g_iload X577 hx (hb hby at_247) (v := b559) rfl (pc' := 249) rfl ?_
                refine g_iload X577 hx (hb hby at_249) (v := b550) rfl (pc' := 251) rfl ?_
                refine g_ii_ne X577 hx (a := b559.toInt) (b := b550.toInt) rfl rfl (hb hby at_251) (by decide) (pc' := 258) (by decide) (pc2 := 254) rfl (fun c586 => False.elim (by omega)) (fun c586 => ?_)
                refine g_iconst X577 hx (hb hby at_254) (v := 1) (by decide) (pc' := 255) rfl ?_
                refine g_goto X577 hx (hb hby at_255) (by decide) (pc' := 259) (by decide) ?_
                refine g_retZ X577 hx hlk (by decide) hret (hb hby at_259) N578 (by decide) (by decide) ?_
                exact rfl
            · refine g_iconst X537 hx (hb hby at_181) (v := 1) (by decide) (pc' := 182) rfl ?_
              refine g_goto X537 hx (hb hby at_182) (by decide) (pc' := 186) (by decide) ?_
              have hA : ∀ i, i < n → (((own_tk b7 b23 b39) i).toInt = -1 ∨ ((own_tk b15 b31 b47) i).toInt = -1 ∨ ((own_tk b7 b23 b39) i).toInt = ((own_tk b15 b31 b47) i).toInt) := by
                intro i hi
                have hi3 : i = 0 ∨ i = 1 ∨ i = 2 := by omega
                rcases hi3 with rfl | rfl | rfl
                · exact (show (b7.toInt = -1 ∨ b15.toInt = -1 ∨ b7.toInt = b15.toInt) from by omega)
                · exact (show (b23.toInt = -1 ∨ b31.toInt = -1 ∨ b23.toInt = b31.toInt) from by omega)
                · exact (show (b39.toInt = -1 ∨ b47.toInt = -1 ∨ b39.toInt = b47.toInt) from by omega)
              have hM1 : ∀ i, i < n → (((own_tk b7 b23 b39) i).toInt = -1 ∨ ((own_tk b7 b23 b39) i).toInt = ((own_tk b210 b219 b228) i).toInt) := by
                intro i hi
                have hi3 : i = 0 ∨ i = 1 ∨ i = 2 := by omega
                rcases hi3 with rfl | rfl | rfl
                · exact ((own_agree b7.toInt b15.toInt b210.toInt f211).mp (hA 0 hi)).1
                · exact ((own_agree b23.toInt b31.toInt b219.toInt f220).mp (hA 1 hi)).1
                · exact ((own_agree b39.toInt b47.toInt b228.toInt f229).mp (hA 2 hi)).1
              have hM2 : ∀ i, i < n → (((own_tk b15 b31 b47) i).toInt = -1 ∨ ((own_tk b15 b31 b47) i).toInt = ((own_tk b210 b219 b228) i).toInt) := by
                intro i hi
                have hi3 : i = 0 ∨ i = 1 ∨ i = 2 := by omega
                rcases hi3 with rfl | rfl | rfl
                · exact ((own_agree b7.toInt b15.toInt b210.toInt f211).mp (hA 0 hi)).2
                · exact ((own_agree b23.toInt b31.toInt b219.toInt f220).mp (hA 1 hi)).2
                · exact ((own_agree b39.toInt b47.toInt b228.toInt f229).mp (hA 2 hi)).2
              have hA2 : ∀ i, i < n → (((own_tk b15 b31 b47) i).toInt = -1 ∨ ((own_tk b7 b23 b39) i).toInt = -1 ∨ ((own_tk b15 b31 b47) i).toInt = ((own_tk b7 b23 b39) i).toInt) := fun i hi => (hA i hi).elim (fun h => Or.inr (Or.inl h)) (fun h => h.elim Or.inl (fun h => Or.inr (Or.inr h.symm)))
              clear f350 f446 f541 f211 f220 f229
              refine g_istore X537 hx (hb hby at_186) (Ls' := #[.val (.int p0), .val (.long p1), .second, .val (.long p2), .second, .val (.long p3), .second, .val (.int cnt), .val (.int b7), .val (.int b15), .val (.int b23), .val (.int b31), .val (.int b39), .val (.int b47), .val (.ref a52), .val (.ref a102), .val (.ref a176), .val (.int (1 : Int32)), .unset, .unset, .unset]) rfl (pc' := 188) rfl ?_
              refine g_aload X537 hx (hb hby at_188) (v := (.ref a52)) rfl rfl (pc' := 190) rfl ?_
              refine g_aload X537 hx (hb hby at_190) (v := (.ref a102)) rfl rfl (pc' := 192) rfl ?_
              refine g_virtual X537 hx hZ hown (hw _ (List.mem_of_getElem? (i := 51) rfl)) (hw _ (List.mem_of_getElem? (i := 52) rfl)) (hw _ (List.mem_of_getElem? (i := 54) rfl)) (hw _ (List.mem_of_getElem? (i := 53) rfl)) (hw _ (List.mem_of_getElem? (i := 6) rfl)) (hw _ (List.mem_of_getElem? (i := 55) rfl)) (by decide) (a := a52) (argsL := [(.ref a102)]) (rm11 l Z a0 hw a52 a102 t87 t153 n (own_tk b7 b23 b39) (own_tk b15 b31 b47) cnt T265.heap n0 Z276 F288 F293 F289 F290 F294 F295 hn) rfl K542 F288 (by rw [hml]; rfl) pd_9 rfl (rest := []) rfl (W := 0) (Nat.le_of_eq rfl) (by decide) (by decide) (by decide) (by decide) N538 (hb hby at_192) (pc' := 195) rfl (fun v587 T588 L589 X590 N591 q592 => ?_)
              obtain ⟨b593, rfl, f594, K595⟩ := q592
              show OGoes p e s below (Q0 Z p0 p1 p2 p3 h0 n0) n0 room_1.cells room_1.slots T588 (mkF m 195 #[.val (.int p0), .val (.long p1), .second, .val (.long p2), .second, .val (.long p3), .second, .val (.int cnt), .val (.int b7), .val (.int b15), .val (.int b23), .val (.int b31), .val (.int b39), .val (.int b47), .val (.ref a52), .val (.ref a102), .val (.ref a176), .val (.int (1 : Int32)), .unset, .unset, .unset] [(.int b593)])
              have G1 : b593.toInt = 1 := f594.elim (fun z => z.2) (fun z => z.1.elim fun i q => absurd (hA i q.1) q.2)
              clear f594
              refine g_istore X590 hx (hb hby at_195) (Ls' := #[.val (.int p0), .val (.long p1), .second, .val (.long p2), .second, .val (.long p3), .second, .val (.int cnt), .val (.int b7), .val (.int b15), .val (.int b23), .val (.int b31), .val (.int b39), .val (.int b47), .val (.ref a52), .val (.ref a102), .val (.ref a176), .val (.int (1 : Int32)), .val (.int b593), .unset, .unset]) rfl (pc' := 197) rfl ?_
              refine g_aload X590 hx (hb hby at_197) (v := (.ref a102)) rfl rfl (pc' := 199) rfl ?_
              refine g_aload X590 hx (hb hby at_199) (v := (.ref a52)) rfl rfl (pc' := 201) rfl ?_
              refine g_virtual X590 hx hZ hown (hw _ (List.mem_of_getElem? (i := 51) rfl)) (hw _ (List.mem_of_getElem? (i := 52) rfl)) (hw _ (List.mem_of_getElem? (i := 54) rfl)) (hw _ (List.mem_of_getElem? (i := 53) rfl)) (hw _ (List.mem_of_getElem? (i := 6) rfl)) (hw _ (List.mem_of_getElem? (i := 55) rfl)) (by decide) (a := a102) (argsL := [(.ref a52)]) (rm11 l Z a0 hw a102 a52 t153 t87 n (own_tk b15 b31 b47) (own_tk b7 b23 b39) cnt T265.heap n0 Z276 F293 F288 F294 F295 F289 F290 hn) rfl K595 F293 (by rw [hml]; rfl) pd_9 rfl (rest := []) rfl (W := 0) (Nat.le_of_eq rfl) (by decide) (by decide) (by decide) (by decide) N591 (hb hby at_201) (pc' := 204) rfl (fun v596 T597 L598 X599 N600 q601 => ?_)
              obtain ⟨b602, rfl, f603, K604⟩ := q601
              show OGoes p e s below (Q0 Z p0 p1 p2 p3 h0 n0) n0 room_1.cells room_1.slots T597 (mkF m 204 #[.val (.int p0), .val (.long p1), .second, .val (.long p2), .second, .val (.long p3), .second, .val (.int cnt), .val (.int b7), .val (.int b15), .val (.int b23), .val (.int b31), .val (.int b39), .val (.int b47), .val (.ref a52), .val (.ref a102), .val (.ref a176), .val (.int (1 : Int32)), .val (.int b593), .unset, .unset] [(.int b602)])
              have G2 : b602.toInt = 1 := f603.elim (fun z => z.2) (fun z => z.1.elim fun i q => absurd (hA2 i q.1) q.2)
              clear f603
              refine g_istore X599 hx (hb hby at_204) (Ls' := #[.val (.int p0), .val (.long p1), .second, .val (.long p2), .second, .val (.long p3), .second, .val (.int cnt), .val (.int b7), .val (.int b15), .val (.int b23), .val (.int b31), .val (.int b39), .val (.int b47), .val (.ref a52), .val (.ref a102), .val (.ref a176), .val (.int (1 : Int32)), .val (.int b593), .val (.int b602), .unset]) rfl (pc' := 206) rfl ?_
              refine g_aload X599 hx (hb hby at_206) (v := (.ref a52)) rfl rfl (pc' := 208) rfl ?_
              refine g_aload X599 hx (hb hby at_208) (v := (.ref a176)) rfl rfl (pc' := 210) rfl ?_
              refine g_virtual X599 hx hZ hown (hw _ (List.mem_of_getElem? (i := 56) rfl)) (hw _ (List.mem_of_getElem? (i := 57) rfl)) (hw _ (List.mem_of_getElem? (i := 59) rfl)) (hw _ (List.mem_of_getElem? (i := 58) rfl)) (hw _ (List.mem_of_getElem? (i := 6) rfl)) (hw _ (List.mem_of_getElem? (i := 60) rfl)) (by decide) (a := a52) (argsL := [(.ref a176)]) (rm12 l Z a0 hw a52 a176 t87 t270 n (own_tk b7 b23 b39) (own_tk b210 b219 b228) cnt T265.heap n0 Z276 F288 F273 F289 F290 F274 F275 hn) rfl K604 F288 (by rw [hml]; rfl) pd_10 rfl (rest := []) rfl (W := 0) (Nat.le_of_eq rfl) (by decide) (by decide) (by decide) (by decide) N600 (hb hby at_210) (pc' := 213) rfl (fun v605 T606 L607 X608 N609 q610 => ?_)
              obtain ⟨b611, rfl, f612, K613⟩ := q610
              show OGoes p e s below (Q0 Z p0 p1 p2 p3 h0 n0) n0 room_1.cells room_1.slots T606 (mkF m 213 #[.val (.int p0), .val (.long p1), .second, .val (.long p2), .second, .val (.long p3), .second, .val (.int cnt), .val (.int b7), .val (.int b15), .val (.int b23), .val (.int b31), .val (.int b39), .val (.int b47), .val (.ref a52), .val (.ref a102), .val (.ref a176), .val (.int (1 : Int32)), .val (.int b593), .val (.int b602), .unset] [(.int b611)])
              have G3 : b611.toInt = 1 := f612.elim (fun z => z.2) (fun z => z.1.elim fun i q => absurd (hM1 i q.1) q.2)
              clear f612
              refine g_i0_eq X608 hx (a := b611.toInt) rfl (hb hby at_213) (by decide) (pc' := 230) (by decide) (pc2 := 216) rfl (fun c614 => False.elim (by omega)) (fun c614 => ?_)
              refine g_aload X608 hx (hb hby at_216) (v := (.ref a102)) rfl rfl (pc' := 218) rfl ?_
              refine g_aload X608 hx (hb hby at_218) (v := (.ref a176)) rfl rfl (pc' := 220) rfl ?_
              refine g_virtual X608 hx hZ hown (hw _ (List.mem_of_getElem? (i := 56) rfl)) (hw _ (List.mem_of_getElem? (i := 57) rfl)) (hw _ (List.mem_of_getElem? (i := 59) rfl)) (hw _ (List.mem_of_getElem? (i := 58) rfl)) (hw _ (List.mem_of_getElem? (i := 6) rfl)) (hw _ (List.mem_of_getElem? (i := 60) rfl)) (by decide) (a := a102) (argsL := [(.ref a176)]) (rm12 l Z a0 hw a102 a176 t153 t270 n (own_tk b15 b31 b47) (own_tk b210 b219 b228) cnt T265.heap n0 Z276 F293 F273 F294 F295 F274 F275 hn) rfl K613 F293 (by rw [hml]; rfl) pd_10 rfl (rest := []) rfl (W := 0) (Nat.le_of_eq rfl) (by decide) (by decide) (by decide) (by decide) N609 (hb hby at_220) (pc' := 223) rfl (fun v615 T616 L617 X618 N619 q620 => ?_)
              obtain ⟨b621, rfl, f622, K623⟩ := q620
              show OGoes p e s below (Q0 Z p0 p1 p2 p3 h0 n0) n0 room_1.cells room_1.slots T616 (mkF m 223 #[.val (.int p0), .val (.long p1), .second, .val (.long p2), .second, .val (.long p3), .second, .val (.int cnt), .val (.int b7), .val (.int b15), .val (.int b23), .val (.int b31), .val (.int b39), .val (.int b47), .val (.ref a52), .val (.ref a102), .val (.ref a176), .val (.int (1 : Int32)), .val (.int b593), .val (.int b602), .unset] [(.int b621)])
              have G4 : b621.toInt = 1 := f622.elim (fun z => z.2) (fun z => z.1.elim fun i q => absurd (hM2 i q.1) q.2)
              clear f622
              refine g_i0_eq X618 hx (a := b621.toInt) rfl (hb hby at_223) (by decide) (pc' := 230) (by decide) (pc2 := 226) rfl (fun c624 => False.elim (by omega)) (fun c624 => ?_)
              refine g_iconst X618 hx (hb hby at_226) (v := 1) (by decide) (pc' := 227) rfl ?_
              refine g_goto X618 hx (hb hby at_227) (by decide) (pc' := 231) (by decide) ?_
              refine g_istore X618 hx (hb hby at_231) (Ls' := #[.val (.int p0), .val (.long p1), .second, .val (.long p2), .second, .val (.long p3), .second, .val (.int cnt), .val (.int b7), .val (.int b15), .val (.int b23), .val (.int b31), .val (.int b39), .val (.int b47), .val (.ref a52), .val (.ref a102), .val (.ref a176), .val (.int (1 : Int32)), .val (.int b593), .val (.int b602), .val (.int (1 : Int32))]) rfl (pc' := 233) rfl ?_
              refine g_iload X618 hx (hb hby at_233) (v := b593) rfl (pc' := 235) rfl ?_
              refine g_iload X618 hx (hb hby at_235) (v := (1 : Int32)) rfl (pc' := 237) rfl ?_
              refine g_ii_ne X618 hx (a := b593.toInt) (b := 1) rfl rfl (hb hby at_237) (by decide) (pc' := 258) (by decide) (pc2 := 240) rfl (fun c625 => False.elim (by omega)) (fun c625 => ?_)
              refine g_iload X618 hx (hb hby at_240) (v := b593) rfl (pc' := 242) rfl ?_
              refine g_iload X618 hx (hb hby at_242) (v := (1 : Int32)) rfl (pc' := 244) rfl ?_
              refine g_ii_ne X618 hx (a := b593.toInt) (b := 1) rfl rfl (hb hby at_244) (by decide) (pc' := 258) (by decide) (pc2 := 247) rfl (fun c626 => False.elim (by omega)) (fun c626 => ?_)
              refine g_iload X618 hx (hb hby at_247) (v := b602) rfl (pc' := 249) rfl ?_
              refine g_iload X618 hx (hb hby at_249) (v := b593) rfl (pc' := 251) rfl ?_
              refine g_ii_ne X618 hx (a := b602.toInt) (b := b593.toInt) rfl rfl (hb hby at_251) (by decide) (pc' := 258) (by decide) (pc2 := 254) rfl (fun c627 => False.elim (by omega)) (fun c627 => ?_)
              refine g_iconst X618 hx (hb hby at_254) (v := 1) (by decide) (pc' := 255) rfl ?_
              refine g_goto X618 hx (hb hby at_255) (by decide) (pc' := 259) (by decide) ?_
              refine g_retZ X618 hx hlk (by decide) hret (hb hby at_259) N619 (by decide) (by decide) ?_
              exact rfl
set_option maxRecDepth 65536 in
set_option maxHeartbeats 40000000 in
theorem comes_1 {Post : Tables → Env → Array Value → State → Outcome → State → Prop} (hpost : ∀ tb e args s v u, (limb_1_1.after args s (.returned v) u = true ∧ limb_1_2.after args s (.returned v) u = true ∧ True) → FrameEnd s (.returned v) u (Jvm.fieldLocs frame_1_writes args s ++ Jvm.arrayLocs frame_1_arrays args s ++ Jvm.staticLocs frame_1_statics s) 32 128 → Post tb e args s (.returned v) u) :
    ArmFor flags0 classFile x code maxLocals ret World_1 tables_1 room_1 Calls_1 rest_1 Pre_1 Post := by
  intro l hfl _ _ p e ha hc hk s m args below hf hA hF happ hP
  obtain ⟨hcalls, hrest, hpre⟩ := hP
  obtain ⟨-, -, -, hnamed, -, -, -, hat⟩ := (Spec.applies_iff hf).mp happ
  obtain ⟨hg, hn⟩ := and_e (Cond.before_iff.mp (show (Jvm.Cond.and given_1 narrow_1).before args s = true from hpre))
  obtain ⟨hcount, k0⟩ := and_e hg
  obtain ⟨g0, k1⟩ := and_e k0
  obtain ⟨g1, k2⟩ := and_e k1
  obtain ⟨g2, k3⟩ := and_e k2
  have g3 := k3
  obtain ⟨w0, w1, w2, w3, rfl⟩ : ∃ w0 w1 w2 w3 : Value, args = #[w0, w1, w2, w3] := by
    have hs : args.size = 4 := by simpa [Cond.value, given_1] using hcount
    obtain ⟨L⟩ := args
    match L, hs with
    | [w0, w1, w2, w3], _ => exact ⟨w0, w1, w2, w3, rfl⟩
  have hw := fun d (hd : d ∈ tables_1) => atoms_spec (ws := Jvm.Cond.code x code maxLocals ret :: tables_1) hat d (List.mem_cons_of_mem _ hd)
  obtain ⟨i0, z0⟩ := is_v g0
  obtain rfl : w0 = (.int i0) := Option.some.inj z0
  obtain ⟨i1, z1⟩ := isL_v g1
  obtain rfl : w1 = (.long i1) := Option.some.inj z1
  obtain ⟨i2, z2⟩ := isL_v g2
  obtain rfl : w2 = (.long i2) := Option.some.inj z2
  obtain ⟨i3, z3⟩ := isL_v g3
  obtain rfl : w3 = (.long i3) := Option.some.inj z3
  obtain ⟨n, o, h1, h2, h3, _, L, rfl, ⟨N, rfl⟩, hq⟩ := rm0 l s _ hw tables_1 i0 i1 i2 i3  s.heap s.heap.size (Nat.le_refl _)  p e ha hc hk s m _ below hf ((Spec.applies_iff_loose hf).mp happ).1 ⟨rfl, State.Warmed39.refl s, rfl⟩ trivial
  exact ⟨n, _, h1, h2, h3, hpost _ _ _ _ _ _ ⟨Cond.after_iff.mpr rfl, Cond.after_iff.mpr (eq_i res_at (Term.int_eval (1)) rfl), trivial⟩ ⟨hq.1, hq.2.1, (hq.2.2.sift fun y hy => Or.inr (N y hy)).mono (by decide) (by decide)⟩⟩
theorem main_1_1 : Claimed_1_1 := comes_1 fun _ _ _ _ _ _ h hF => ⟨h.1, hF⟩
theorem main_1_2 : Claimed_1_2 := comes_1 fun _ _ _ _ _ _ h hF => ⟨h.2.1, hF⟩
end Jvm.Pilot.@@N@@
namespace Jvm.Pilot.@@N@@
open Jvm Jvm.ClassFile Sem Op Lib Jvm.Free Jvm.Stand Jvm.Pilot.@@N@@.Jvm.D
/-! MADE BY PROGRAM (witnessworld.py) out of the Statement's table words and the real class files: 13 classes; the members and pool entries that the words name. The judged class is class 1, her method 5. -/
namespace start1
open Jvm.ClassFile
def u (s : String) : CpInfo := .utf8 (stringToUtf16 s)
/-- a pool by its gaps: so many unusable entries, then the entry; so many at the end -/
def gap : Nat → List CpInfo → List CpInfo
  | 0, r => r
  | n + 1, r => .unusable :: gap n r
def poolList (es : List (Nat × CpInfo)) (last : Nat) : List CpInfo := es.foldr (fun e r => gap e.1 (e.2 :: r)) (gap last [])
def pool (es : List (Nat × CpInfo)) (last : Nat) : Array CpInfo := ⟨poolList es last⟩
def fileOf (pool : Array CpInfo) (this : Nat) (attrs : Array Attribute := #[]) (ms : Array MethodInfo := #[]) (fl : Nat := 33) (sup : Nat := 0) (ifs : Array Nat := #[]) (fds : Array FieldInfo := #[]) : ClassFile where
  minorVersion := 0
  majorVersion := 65
  constantPool := pool
  accessFlags := fl
  thisClass := this
  superClass := sup
  interfaces := ifs
  fields := fds
  methods := ms
  attributes := attrs
def plain (name : String) (sup : Option ClassId) : Class where
  name := name
  kind := .ordinary
  loader := none
  accessFlags := 33
  super := sup
  interfaces := #[]
  cf := none
  fields := #[]
  methods := #[]
  instanceTypes := #[]
  staticTypes := #[]
  resolved := #[]
  callSites := []
  init := .initialized
  statics := none
  mirror := none

def pool0 : Array CpInfo := pool [(5, u "<init>"), (0, u "()V"), (1, .class_ 10), (1, u "java/lang/Object"), (85, u "clone"), (0, u "()Ljava/lang/Object;")] 26

def k0c0 : Code := { maxStack := 0, maxLocals := 1, code := object_method_1_code, exceptionTable := #[], attributes := #[] }
def k0m0 : Method := { name := "<init>", desc := "()V", sig := { parameters := [], returnType := none }, accessFlags := 1, code := some k0c0 }
def k0m1 : Method := { name := "clone", desc := "()Ljava/lang/Object;", sig := { parameters := [], returnType := some (.object "java/lang/Object") }, accessFlags := 260, code := none }
/-- java/lang/Object -/
def k0 : Class := { plain "java/lang/Object" none with
  accessFlags := 33
  interfaces := #[]
  cf := some (fileOf pool0 8 #[] #[{ accessFlags := 1, nameIndex := 5, descriptorIndex := 6, attributes := #[] }, { accessFlags := 260, nameIndex := 96, descriptorIndex := 97, attributes := #[] }] 33 0 #[] #[])
  fields := #[]
  methods := #[k0m0, k0m1]
  instanceTypes := #[]
  staticTypes := #[]
  resolved := Array.replicate 124 none
  statics := none }

def pool1 : Array CpInfo := pool [(2, .class_ 4), (1, u "java/lang/Object"), (0, u "<init>"), (0, u "()V"), (0, .class_ 8), (0, u "com/example/vetter/vetter/space/Pattern"), (0, .methodref 10 11), (0, .class_ 12), (0, .nameAndType 13 14), (0, u "com/example/vetter/vetter/space/PatternOverlapsPinLaw"), (0, u "field"), (0, u "(I)I"), (0, .methodref 10 16), (0, .nameAndType 17 18), (0, u "take"), (0, u "(IIII)[I"), (0, .methodref 7 20), (0, .nameAndType 5 21), (0, u "([I)V"), (0, .class_ 23), (0, u "com/example/vetter/vetter/space/Tuple"), (0, .methodref 10 25), (0, .nameAndType 26 27), (0, u "meet"), (0, u "(II)I"), (0, .methodref 22 20), (0, .methodref 10 30), (0, .nameAndType 31 32), (0, u "agree"), (0, u "(II)Z"), (0, .methodref 7 34), (0, .nameAndType 35 36), (0, u "overlaps"), (0, u "(Lcom/example/vetter/vetter/space/Pattern;)Z"), (0, .methodref 7 38), (0, .nameAndType 39 40), (0, u "matches"), (0, u "(Lcom/example/vetter/vetter/space/Tuple;)Z"), (3, u "law"), (0, u "(IJJJ)Z")] 2

def k1m0 : Method := { name := "<init>", desc := "()V", sig := { parameters := [], returnType := none }, accessFlags := 1, code := none }
def k1c1 : Code := { maxStack := 2, maxLocals := 2, code := method_2_code, exceptionTable := #[], attributes := #[] }
def k1m1 : Method := { name := "field", desc := "(I)I", sig := { parameters := [.int], returnType := some .int }, accessFlags := 10, code := some k1c1 }
def k1c2 : Code := { maxStack := 4, maxLocals := 4, code := method_3_code, exceptionTable := #[], attributes := #[] }
def k1m2 : Method := { name := "take", desc := "(IIII)[I", sig := { parameters := [.int, .int, .int, .int], returnType := some (.array .int) }, accessFlags := 10, code := some k1c2 }
def k1c3 : Code := { maxStack := 2, maxLocals := 2, code := method_4_code, exceptionTable := #[], attributes := #[] }
def k1m3 : Method := { name := "agree", desc := "(II)Z", sig := { parameters := [.int, .int], returnType := some .boolean }, accessFlags := 10, code := some k1c3 }
def k1c4 : Code := { maxStack := 2, maxLocals := 2, code := method_5_code, exceptionTable := #[], attributes := #[] }
def k1m4 : Method := { name := "meet", desc := "(II)I", sig := { parameters := [.int, .int], returnType := some .int }, accessFlags := 10, code := some k1c4 }
def k1c5 : Code := { maxStack := 7, maxLocals := 21, code := code, exceptionTable := #[], attributes := #[] }
def k1m5 : Method := { name := "law", desc := "(IJJJ)Z", sig := { parameters := [.int, .long, .long, .long], returnType := some .boolean }, accessFlags := 9, code := some k1c5 }
/-- com/example/vetter/vetter/space/PatternOverlapsPinLaw -/
def k1 : Class := { plain "com/example/vetter/vetter/space/PatternOverlapsPinLaw" (some 0) with
  accessFlags := 49
  interfaces := #[]
  cf := some (fileOf pool1 10 #[] #[{ accessFlags := 1, nameIndex := 5, descriptorIndex := 6, attributes := #[] }, { accessFlags := 10, nameIndex := 13, descriptorIndex := 14, attributes := #[] }, { accessFlags := 10, nameIndex := 17, descriptorIndex := 18, attributes := #[] }, { accessFlags := 10, nameIndex := 31, descriptorIndex := 32, attributes := #[] }, { accessFlags := 10, nameIndex := 26, descriptorIndex := 27, attributes := #[] }, { accessFlags := 9, nameIndex := 44, descriptorIndex := 45, attributes := #[] }] 49 2 #[] #[])
  fields := #[]
  methods := #[k1m0, k1m1, k1m2, k1m3, k1m4, k1m5]
  instanceTypes := #[]
  staticTypes := #[]
  resolved := Array.replicate 48 none
  statics := none }

def pool2 : Array CpInfo := pool [(1, .methodref 2 3), (0, .class_ 4), (0, .nameAndType 5 6), (0, u "java/lang/Object"), (0, u "<init>"), (0, u "()V"), (0, .methodref 8 9), (0, .class_ 10), (0, .nameAndType 11 12), (0, u "[I"), (0, u "clone"), (0, u "()Ljava/lang/Object;"), (0, .fieldref 14 15), (0, .class_ 16), (0, .nameAndType 17 10), (0, u "com/example/vetter/vetter/space/Pattern"), (0, u "fields"), (0, .methodref 19 20), (0, .class_ 21), (0, .nameAndType 22 23), (0, u "java/util/Arrays"), (0, u "hashCode"), (0, u "([I)I"), (0, .fieldref 14 25), (0, .nameAndType 26 27), (0, u "hash"), (0, u "I"), (0, .methodref 29 30), (0, .class_ 31), (0, .nameAndType 32 33), (0, u "com/example/vetter/vetter/space/Tuple"), (0, u "field"), (0, u "(I)I"), (14, u "text"), (0, u "Ljava/lang/String;"), (28, u "WILDCARD"), (2, u "([I)V"), (2, u "matches"), (0, u "(Lcom/example/vetter/vetter/space/Tuple;)Z"), (3, u "overlaps"), (0, u "(Lcom/example/vetter/vetter/space/Pattern;)Z")] 6

def k2c0 : Code := { maxStack := 2, maxLocals := 2, code := prog_325_method_1_code, exceptionTable := #[], attributes := #[] }
def k2m0 : Method := { name := "<init>", desc := "([I)V", sig := { parameters := [(.array .int)], returnType := none }, accessFlags := 0, code := some k2c0 }
def k2c1 : Code := { maxStack := 3, maxLocals := 3, code := prog_325_method_2_code, exceptionTable := #[], attributes := #[] }
def k2m1 : Method := { name := "matches", desc := "(Lcom/example/vetter/vetter/space/Tuple;)Z", sig := { parameters := [(.object "com/example/vetter/vetter/space/Tuple")], returnType := some .boolean }, accessFlags := 0, code := some k2c1 }
def k2c2 : Code := { maxStack := 2, maxLocals := 5, code := prog_325_method_4_code, exceptionTable := #[], attributes := #[] }
def k2m2 : Method := { name := "overlaps", desc := "(Lcom/example/vetter/vetter/space/Pattern;)Z", sig := { parameters := [(.object "com/example/vetter/vetter/space/Pattern")], returnType := some .boolean }, accessFlags := 0, code := some k2c2 }
/-- com/example/vetter/vetter/space/Pattern -/
def k2 : Class := { plain "com/example/vetter/vetter/space/Pattern" (some 0) with
  accessFlags := 32
  interfaces := #[]
  cf := some (fileOf pool2 14 #[] #[{ accessFlags := 0, nameIndex := 5, descriptorIndex := 81, attributes := #[] }, { accessFlags := 0, nameIndex := 84, descriptorIndex := 85, attributes := #[] }, { accessFlags := 0, nameIndex := 89, descriptorIndex := 90, attributes := #[] }] 32 2 #[] #[{ accessFlags := 24, nameIndex := 78, descriptorIndex := 27, attributes := #[] }, { accessFlags := 18, nameIndex := 17, descriptorIndex := 10, attributes := #[] }, { accessFlags := 18, nameIndex := 26, descriptorIndex := 27, attributes := #[] }, { accessFlags := 2, nameIndex := 48, descriptorIndex := 49, attributes := #[] }])
  fields := #[{ name := "WILDCARD", type := .int, accessFlags := 24, slot := 0, constantValue := 0 }, { name := "fields", type := (.array .int), accessFlags := 18, slot := 0, constantValue := 0 }, { name := "hash", type := .int, accessFlags := 18, slot := 1, constantValue := 0 }, { name := "text", type := (.object "java/lang/String"), accessFlags := 2, slot := 2, constantValue := 0 }]
  methods := #[k2m0, k2m1, k2m2]
  instanceTypes := #[(.array .int), .int, (.object "java/lang/String")]
  staticTypes := #[.int]
  resolved := Array.replicate 97 none
  statics := none }

def pool3 : Array CpInfo := pool [(1, .class_ 2), (0, u "java/lang/Cloneable"), (0, .class_ 4), (0, u "java/lang/Object")] 2

/-- java/lang/Cloneable -/
def k3 : Class := { plain "java/lang/Cloneable" (some 0) with
  accessFlags := 1537
  interfaces := #[]
  cf := some (fileOf pool3 1 #[] #[] 1537 3 #[] #[])
  fields := #[]
  methods := #[]
  instanceTypes := #[]
  staticTypes := #[]
  resolved := Array.replicate 7 none
  statics := none }

def pool4 : Array CpInfo := pool [(2, .class_ 4), (1, u "java/lang/Object"), (0, u "<init>"), (0, u "()V"), (7, .class_ 16), (1, u "java/util/Arrays"), (57, .class_ 76), (1, u "java/util/Arrays$NaturalOrder"), (36, .class_ 115), (1, u "java/util/Arrays$LegacyMergeSort"), (1, u "Z"), (128, .class_ 248), (1, u "jdk/internal/util/ArraysSupport"), (126, .class_ 376), (0, u "java/util/Arrays$ArrayList"), (2, .methodref 246 380), (0, .nameAndType 381 382), (0, u "vectorizedHashCode"), (0, u "(Ljava/lang/Object;IIII)I"), (2, u "hashCode"), (22, u "([I)I"), (36, u "$assertionsDisabled"), (269, u "MIN_ARRAY_SORT_GRAN"), (0, u "I"), (2, u "INSERTIONSORT_THRESHOLD"), (255, .class_ 976), (0, u "java/util/Arrays$ArrayItr")] 52

def k4m0 : Method := { name := "<init>", desc := "()V", sig := { parameters := [], returnType := none }, accessFlags := 2, code := none }
def k4c1 : Code := { maxStack := 5, maxLocals := 1, code := jdk_65_method_150_code, exceptionTable := #[], attributes := #[] }
def k4m1 : Method := { name := "hashCode", desc := "([I)I", sig := { parameters := [(.array .int)], returnType := some .int }, accessFlags := 9, code := some k4c1 }
/-- java/util/Arrays -/
def k4 : Class := { plain "java/util/Arrays" (some 0) with
  accessFlags := 49
  interfaces := #[]
  cf := some (fileOf pool4 14 #[.nestMembers #[975, 375, 113, 74]] #[{ accessFlags := 2, nameIndex := 5, descriptorIndex := 6, attributes := #[] }, { accessFlags := 9, nameIndex := 385, descriptorIndex := 408, attributes := #[] }] 49 2 #[] #[{ accessFlags := 26, nameIndex := 715, descriptorIndex := 716, attributes := #[] }, { accessFlags := 26, nameIndex := 719, descriptorIndex := 716, attributes := #[] }, { accessFlags := 4120, nameIndex := 445, descriptorIndex := 117, attributes := #[] }])
  fields := #[{ name := "MIN_ARRAY_SORT_GRAN", type := .int, accessFlags := 26, slot := 0, constantValue := 0 }, { name := "INSERTIONSORT_THRESHOLD", type := .int, accessFlags := 26, slot := 1, constantValue := 0 }, { name := "$assertionsDisabled", type := .boolean, accessFlags := 4120, slot := 2, constantValue := 0 }]
  methods := #[k4m0, k4m1]
  instanceTypes := #[]
  staticTypes := #[.int, .int, .boolean]
  resolved := Array.replicate 1029 none
  statics := none }

def pool5 : Array CpInfo := pool [(1, .class_ 2), (0, u "java/lang/Comparable"), (0, .class_ 4), (0, u "java/lang/Object")] 7

/-- java/lang/Comparable -/
def k5 : Class := { plain "java/lang/Comparable" (some 0) with
  accessFlags := 1537
  interfaces := #[]
  cf := some (fileOf pool5 1 #[] #[] 1537 3 #[] #[])
  fields := #[]
  methods := #[]
  instanceTypes := #[]
  staticTypes := #[]
  resolved := Array.replicate 12 none
  statics := none }

def pool6 : Array CpInfo := pool [(1, .methodref 2 3), (0, .class_ 4), (0, .nameAndType 5 6), (0, u "java/lang/Object"), (0, u "<init>"), (0, u "()V"), (0, .methodref 8 9), (0, .class_ 10), (0, .nameAndType 11 12), (0, u "[I"), (0, u "clone"), (0, u "()Ljava/lang/Object;"), (0, .fieldref 14 15), (0, .class_ 16), (0, .nameAndType 17 10), (0, u "com/example/vetter/vetter/space/Tuple"), (0, u "fields"), (0, .methodref 19 20), (0, .class_ 21), (0, .nameAndType 22 23), (0, u "java/util/Arrays"), (0, u "hashCode"), (0, u "([I)I"), (0, .fieldref 14 25), (0, .nameAndType 26 27), (0, u "hash"), (0, u "I"), (4, u "([I)V"), (10, u "text"), (0, u "Ljava/lang/String;"), (7, .class_ 53), (0, u "java/lang/Comparable"), (4, u "field"), (0, u "(I)I")] 12

def k6c0 : Code := { maxStack := 2, maxLocals := 2, code := prog_353_method_1_code, exceptionTable := #[], attributes := #[] }
def k6m0 : Method := { name := "<init>", desc := "([I)V", sig := { parameters := [(.array .int)], returnType := none }, accessFlags := 0, code := some k6c0 }
def k6c1 : Code := { maxStack := 2, maxLocals := 2, code := prog_353_method_3_code, exceptionTable := #[], attributes := #[] }
def k6m1 : Method := { name := "field", desc := "(I)I", sig := { parameters := [.int], returnType := some .int }, accessFlags := 0, code := some k6c1 }
/-- com/example/vetter/vetter/space/Tuple -/
def k6 : Class := { plain "com/example/vetter/vetter/space/Tuple" (some 0) with
  accessFlags := 32
  interfaces := #[5]
  cf := some (fileOf pool6 14 #[] #[{ accessFlags := 0, nameIndex := 5, descriptorIndex := 32, attributes := #[] }, { accessFlags := 0, nameIndex := 58, descriptorIndex := 59, attributes := #[] }] 32 2 #[52] #[{ accessFlags := 18, nameIndex := 17, descriptorIndex := 10, attributes := #[] }, { accessFlags := 18, nameIndex := 26, descriptorIndex := 27, attributes := #[] }, { accessFlags := 2, nameIndex := 43, descriptorIndex := 44, attributes := #[] }])
  fields := #[{ name := "fields", type := (.array .int), accessFlags := 18, slot := 0, constantValue := 0 }, { name := "hash", type := .int, accessFlags := 18, slot := 1, constantValue := 0 }, { name := "text", type := (.object "java/lang/String"), accessFlags := 2, slot := 2, constantValue := 0 }]
  methods := #[k6m0, k6m1]
  instanceTypes := #[(.array .int), .int, (.object "java/lang/String")]
  staticTypes := #[]
  resolved := Array.replicate 72 none
  statics := none }

def pool7 : Array CpInfo := pool [(9, u "<init>"), (6, .class_ 18), (1, u "java/lang/Object"), (0, u "()V"), (1, .class_ 23), (1, u "jdk/internal/util/ArraysSupport"), (0, u "LOG2_ARRAY_LONG_INDEX_SCALE"), (0, u "I"), (2, u "U"), (0, u "Ljdk/internal/misc/Unsafe;"), (8, u "BIG_ENDIAN"), (0, u "Z"), (8, u "LOG2_BYTE_BIT_SIZE"), (4, u "LOG2_ARRAY_INT_INDEX_SCALE"), (19, u "hashCode"), (8, .class_ 83), (0, u "[I"), (0, .methodref 21 85), (0, .nameAndType 73 86), (0, u "(I[III)I"), (21, u "JLA"), (0, u "Ljdk/internal/access/JavaLangAccess;"), (11, u "LOG2_ARRAY_BOOLEAN_INDEX_SCALE"), (9, u "LOG2_ARRAY_BYTE_INDEX_SCALE"), (5, u "LOG2_ARRAY_CHAR_INDEX_SCALE"), (5, u "LOG2_ARRAY_SHORT_INDEX_SCALE"), (18, u "LOG2_ARRAY_FLOAT_INDEX_SCALE"), (24, u "LOG2_ARRAY_DOUBLE_INDEX_SCALE"), (89, u "T_BOOLEAN"), (2, u "T_CHAR"), (1, u "T_FLOAT"), (1, u "T_DOUBLE"), (1, u "T_BYTE"), (1, u "T_SHORT"), (1, u "T_INT"), (1, u "T_LONG"), (1, u "SOFT_MAX_ARRAY_LENGTH"), (26, u "vectorizedHashCode"), (0, u "(Ljava/lang/Object;IIII)I")] 55

def k7m0 : Method := { name := "<init>", desc := "()V", sig := { parameters := [], returnType := none }, accessFlags := 2, code := none }
def k7c1 : Code := { maxStack := 4, maxLocals := 5, code := jdk_48_method_4_code, exceptionTable := #[], attributes := #[] }
def k7m1 : Method := { name := "vectorizedHashCode", desc := "(Ljava/lang/Object;IIII)I", sig := { parameters := [(.object "java/lang/Object"), .int, .int, .int, .int], returnType := some .int }, accessFlags := 9, code := some k7c1 }
def k7c2 : Code := { maxStack := 3, maxLocals := 6, code := jdk_48_method_9_code, exceptionTable := #[], attributes := #[] }
def k7m2 : Method := { name := "hashCode", desc := "(I[III)I", sig := { parameters := [.int, (.array .int), .int, .int], returnType := some .int }, accessFlags := 10, code := some k7c2 }
/-- jdk/internal/util/ArraysSupport -/
def k7 : Class := { plain "jdk/internal/util/ArraysSupport" (some 0) with
  accessFlags := 33
  interfaces := #[]
  cf := some (fileOf pool7 21 #[] #[{ accessFlags := 2, nameIndex := 9, descriptorIndex := 19, attributes := #[] }, { accessFlags := 9, nameIndex := 321, descriptorIndex := 322, attributes := #[] }, { accessFlags := 10, nameIndex := 73, descriptorIndex := 86, attributes := #[] }] 33 16 #[] #[{ accessFlags := 24, nameIndex := 28, descriptorIndex := 29, attributes := #[] }, { accessFlags := 26, nameIndex := 38, descriptorIndex := 39, attributes := #[] }, { accessFlags := 25, nameIndex := 121, descriptorIndex := 25, attributes := #[] }, { accessFlags := 25, nameIndex := 131, descriptorIndex := 25, attributes := #[] }, { accessFlags := 25, nameIndex := 137, descriptorIndex := 25, attributes := #[] }, { accessFlags := 25, nameIndex := 143, descriptorIndex := 25, attributes := #[] }, { accessFlags := 25, nameIndex := 53, descriptorIndex := 25, attributes := #[] }, { accessFlags := 25, nameIndex := 24, descriptorIndex := 25, attributes := #[] }, { accessFlags := 25, nameIndex := 162, descriptorIndex := 25, attributes := #[] }, { accessFlags := 25, nameIndex := 187, descriptorIndex := 25, attributes := #[] }, { accessFlags := 26, nameIndex := 48, descriptorIndex := 25, attributes := #[] }, { accessFlags := 25, nameIndex := 277, descriptorIndex := 25, attributes := #[] }, { accessFlags := 25, nameIndex := 280, descriptorIndex := 25, attributes := #[] }, { accessFlags := 25, nameIndex := 282, descriptorIndex := 25, attributes := #[] }, { accessFlags := 25, nameIndex := 284, descriptorIndex := 25, attributes := #[] }, { accessFlags := 25, nameIndex := 286, descriptorIndex := 25, attributes := #[] }, { accessFlags := 25, nameIndex := 288, descriptorIndex := 25, attributes := #[] }, { accessFlags := 25, nameIndex := 290, descriptorIndex := 25, attributes := #[] }, { accessFlags := 25, nameIndex := 292, descriptorIndex := 25, attributes := #[] }, { accessFlags := 26, nameIndex := 108, descriptorIndex := 109, attributes := #[] }, { accessFlags := 25, nameIndex := 294, descriptorIndex := 25, attributes := #[] }])
  fields := #[{ name := "U", type := (.object "jdk/internal/misc/Unsafe"), accessFlags := 24, slot := 0, constantValue := 0 }, { name := "BIG_ENDIAN", type := .boolean, accessFlags := 26, slot := 1, constantValue := 0 }, { name := "LOG2_ARRAY_BOOLEAN_INDEX_SCALE", type := .int, accessFlags := 25, slot := 2, constantValue := 0 }, { name := "LOG2_ARRAY_BYTE_INDEX_SCALE", type := .int, accessFlags := 25, slot := 3, constantValue := 0 }, { name := "LOG2_ARRAY_CHAR_INDEX_SCALE", type := .int, accessFlags := 25, slot := 4, constantValue := 0 }, { name := "LOG2_ARRAY_SHORT_INDEX_SCALE", type := .int, accessFlags := 25, slot := 5, constantValue := 0 }, { name := "LOG2_ARRAY_INT_INDEX_SCALE", type := .int, accessFlags := 25, slot := 6, constantValue := 0 }, { name := "LOG2_ARRAY_LONG_INDEX_SCALE", type := .int, accessFlags := 25, slot := 7, constantValue := 0 }, { name := "LOG2_ARRAY_FLOAT_INDEX_SCALE", type := .int, accessFlags := 25, slot := 8, constantValue := 0 }, { name := "LOG2_ARRAY_DOUBLE_INDEX_SCALE", type := .int, accessFlags := 25, slot := 9, constantValue := 0 }, { name := "LOG2_BYTE_BIT_SIZE", type := .int, accessFlags := 26, slot := 10, constantValue := 0 }, { name := "T_BOOLEAN", type := .int, accessFlags := 25, slot := 11, constantValue := 0 }, { name := "T_CHAR", type := .int, accessFlags := 25, slot := 12, constantValue := 0 }, { name := "T_FLOAT", type := .int, accessFlags := 25, slot := 13, constantValue := 0 }, { name := "T_DOUBLE", type := .int, accessFlags := 25, slot := 14, constantValue := 0 }, { name := "T_BYTE", type := .int, accessFlags := 25, slot := 15, constantValue := 0 }, { name := "T_SHORT", type := .int, accessFlags := 25, slot := 16, constantValue := 0 }, { name := "T_INT", type := .int, accessFlags := 25, slot := 17, constantValue := 0 }, { name := "T_LONG", type := .int, accessFlags := 25, slot := 18, constantValue := 0 }, { name := "JLA", type := (.object "jdk/internal/access/JavaLangAccess"), accessFlags := 26, slot := 19, constantValue := 0 }, { name := "SOFT_MAX_ARRAY_LENGTH", type := .int, accessFlags := 25, slot := 20, constantValue := 0 }]
  methods := #[k7m0, k7m1, k7m2]
  instanceTypes := #[]
  staticTypes := #[(.object "jdk/internal/misc/Unsafe"), .boolean, .int, .int, .int, .int, .int, .int, .int, .int, .int, .int, .int, .int, .int, .int, .int, .int, .int, (.object "jdk/internal/access/JavaLangAccess"), .int]
  resolved := Array.replicate 378 none
  statics := none }

def pool8 : Array CpInfo := pool [(1, u "java/io/Serializable"), (0, .class_ 1), (0, u "java/lang/Object"), (0, .class_ 3)] 3

/-- java/io/Serializable -/
def k8 : Class := { plain "java/io/Serializable" (some 0) with
  accessFlags := 1537
  interfaces := #[]
  cf := some (fileOf pool8 2 #[] #[] 1537 4 #[] #[])
  fields := #[]
  methods := #[]
  instanceTypes := #[]
  staticTypes := #[]
  resolved := Array.replicate 8 none
  statics := none }

/-- the primitive byte -/
def k9 : Class := { plain "byte" none with kind := .primitive 'B', accessFlags := 0x411 }
/-- [B -/
def k10 : Class := { plain "[B" (some 0) with kind := .array 9 .byte, interfaces := #[3, 8], accessFlags := 1041 }

/-- the primitive int -/
def k11 : Class := { plain "int" none with kind := .primitive 'I', accessFlags := 0x411 }
/-- [I -/
def k12 : Class := { plain "[I" (some 0) with kind := .array 11 .int, interfaces := #[3, 8], accessFlags := 1041 }

def heap : Heap := #[]
def classes : Array Class := #[k0, k1, k2, k3, k4, k5, k6, k7, k8, k9, k10, k11, k12]
def interned : List (Array UInt16 × Addr) := []
def slotsUsed : Nat := 0
def theMethod : MethodId := ⟨1, 5⟩
def args0 : Array Value := #[.int 5, .long 300, .long 7, .long 2]
def aboutOver (below : List Frame) : State where
  vm := { classes := classes, interned := interned.toArray }
  heap := heap
  slotsUsed := slotsUsed
  threads := #[{ frames := .invoking theMethod args0 :: below }]
def below0 : List Frame := [.native { method := ⟨0, 0⟩, args := #[] }]
def about1 : State := aboutOver below0
def p0 : Program := .bare "" "" ""
def e0 : Env := launch0.env 0 0 0
theorem w_frames : about1.frames = Frame.invoking theMethod args0 :: below0 := rfl
set_option maxRecDepth 65536 in
theorem w_args : argsFit about1.vm theMethod args0 = true := by decide +kernel
set_option maxRecDepth 65536 in
theorem w_heap : heapFits about1 = true := by decide +kernel
set_option maxRecDepth 65536 in
theorem w_runnable : about1.curStatus? = some .runnable := by decide +kernel
set_option maxRecDepth 65536 in
theorem w_alone : about1.alone = true := by decide +kernel
set_option maxRecDepth 65536 in
theorem w_named : about1.methodNamed? x = some theMethod := by decide +kernel
set_option maxRecDepth 65536 in
theorem w_hears : about1.hears theMethod below0 = true := by decide +kernel
set_option maxRecDepth 65536 in
theorem w_ripe : about1.ripe theMethod args0 below0 = true := by decide +kernel
theorem w_running : about1.status = .running := rfl
set_option maxRecDepth 65536 in
theorem w_room : about1.hasRoom e0.platform room_1 = true :=
  launch0.hasRoom_least _ room_1 (by decide +kernel) (by decide +kernel) (by decide +kernel) (by decide +kernel) (by decide +kernel) (by decide +kernel)
theorem allAtoms_all (ts : List Jvm.Cond) (a : Array Jvm.Value) (st : Jvm.State) : (allAtoms ts).before a st = ts.all (fun c => c.before a st) := by
  induction ts with
  | nil => rfl
  | cons c t ih =>
    show (Jvm.Cond.and c (allAtoms t)).before a st = _
    rw [Jvm.Cond.before_and, ih, List.all_cons]
def words1 : List Jvm.Cond := Jvm.Cond.code x code maxLocals ret :: tables_1
/-- a 'code' word, met by the world's own term for the bytes: nothing is compared byte by byte -/
theorem code_word {y : MethodName} {bytes : ByteArray} {mx : Nat} {rt : Option FieldType} {a : Array Value} {s : State} {m : MethodId} {meth : Method} {c : Code} (h1 : s.methodNamed? y = some m) (h2 : s.vm.method? m = some meth) (h3 : meth.code = some c) (h4 : c.code = bytes)
    (h5 : (c.maxLocals == mx && c.exceptionTable.isEmpty && decide (c.maxStack ≤ mostOperands) && decide (meth.sig.returnType = rt) && !meth.locks && decide (parseMethodDescriptor y.desc = some meth.sig)) = true) : (Jvm.Cond.code y bytes mx rt).before a s = true := by
  simp only [Bool.and_eq_true, beq_iff_eq, Bool.not_eq_true', decide_eq_true_eq] at h5
  obtain ⟨⟨⟨⟨⟨g1, g2⟩, g3⟩, g4⟩, g5⟩, g6⟩ := h5
  simp [Cond.before, Cond.holds, Cond.value, h1, h2, h3, h4, g1, g2, g3, g4, g5, g6]
def isCode : Jvm.Cond → Bool
  | .code _ _ _ _ => true
  | _ => false
theorem all_split {L : List Jvm.Cond} {P : Jvm.Cond → Bool} (h1 : L.all (fun c => isCode c || P c) = true) (h2 : ∀ c ∈ L.filter isCode, P c = true) : L.all P = true := by
  refine List.all_eq_true.mpr fun c hc => ?_
  have h := List.all_eq_true.mp h1 c hc
  rcases Bool.eq_false_or_eq_true (isCode c) with hi | hi
  · exact h2 c (List.mem_filter.mpr ⟨hc, hi⟩)
  · simpa [hi] using h
set_option maxRecDepth 65536 in
theorem w_c0 : (Jvm.Cond.code x code maxLocals ret).before args0 about1 = true := code_word (m := ⟨1, 5⟩) (meth := k1m5) (c := k1c5) (by decide +kernel) rfl rfl rfl (by decide +kernel)
set_option maxRecDepth 65536 in
theorem w_c1 : (Jvm.Cond.code ({ cls := "com/example/vetter/vetter/space/PatternOverlapsPinLaw", name := "field", desc := "(I)I" } : Jvm.MethodName) method_2_code (2 : Nat) (Option.some Jvm.ClassFile.FieldType.int)).before args0 about1 = true := code_word (m := ⟨1, 1⟩) (meth := k1m1) (c := k1c1) (by decide +kernel) rfl rfl rfl (by decide +kernel)
set_option maxRecDepth 65536 in
theorem w_c2 : (Jvm.Cond.code ({ cls := "com/example/vetter/vetter/space/PatternOverlapsPinLaw", name := "take", desc := "(IIII)[I" } : Jvm.MethodName) method_3_code (4 : Nat) (Option.some (Jvm.ClassFile.FieldType.array Jvm.ClassFile.FieldType.int))).before args0 about1 = true := code_word (m := ⟨1, 2⟩) (meth := k1m2) (c := k1c2) (by decide +kernel) rfl rfl rfl (by decide +kernel)
set_option maxRecDepth 65536 in
theorem w_c3 : (Jvm.Cond.code ({ cls := "com/example/vetter/vetter/space/Pattern", name := "<init>", desc := "([I)V" } : Jvm.MethodName) prog_325_method_1_code (2 : Nat) (Option.none : Option Jvm.ClassFile.FieldType)).before args0 about1 = true := code_word (m := ⟨2, 0⟩) (meth := k2m0) (c := k2c0) (by decide +kernel) rfl rfl rfl (by decide +kernel)
set_option maxRecDepth 65536 in
theorem w_c4 : (Jvm.Cond.code ({ cls := "java/lang/Object", name := "<init>", desc := "()V" } : Jvm.MethodName) object_method_1_code (1 : Nat) (Option.none : Option Jvm.ClassFile.FieldType)).before args0 about1 = true := code_word (m := ⟨0, 0⟩) (meth := k0m0) (c := k0c0) (by decide +kernel) rfl rfl rfl (by decide +kernel)
set_option maxRecDepth 65536 in
theorem w_c5 : (Jvm.Cond.code ({ cls := "java/util/Arrays", name := "hashCode", desc := "([I)I" } : Jvm.MethodName) jdk_65_method_150_code (1 : Nat) (Option.some Jvm.ClassFile.FieldType.int)).before args0 about1 = true := code_word (m := ⟨4, 1⟩) (meth := k4m1) (c := k4c1) (by decide +kernel) rfl rfl rfl (by decide +kernel)
set_option maxRecDepth 65536 in
theorem w_c6 : (Jvm.Cond.code ({ cls := "com/example/vetter/vetter/space/PatternOverlapsPinLaw", name := "meet", desc := "(II)I" } : Jvm.MethodName) method_5_code (2 : Nat) (Option.some Jvm.ClassFile.FieldType.int)).before args0 about1 = true := code_word (m := ⟨1, 4⟩) (meth := k1m4) (c := k1c4) (by decide +kernel) rfl rfl rfl (by decide +kernel)
set_option maxRecDepth 65536 in
theorem w_c7 : (Jvm.Cond.code ({ cls := "com/example/vetter/vetter/space/Tuple", name := "<init>", desc := "([I)V" } : Jvm.MethodName) prog_353_method_1_code (2 : Nat) (Option.none : Option Jvm.ClassFile.FieldType)).before args0 about1 = true := code_word (m := ⟨6, 0⟩) (meth := k6m0) (c := k6c0) (by decide +kernel) rfl rfl rfl (by decide +kernel)
set_option maxRecDepth 65536 in
theorem w_c8 : (Jvm.Cond.code ({ cls := "com/example/vetter/vetter/space/Pattern", name := "overlaps", desc := "(Lcom/example/vetter/vetter/space/Pattern;)Z" } : Jvm.MethodName) prog_325_method_4_code (5 : Nat) (Option.some Jvm.ClassFile.FieldType.boolean)).before args0 about1 = true := code_word (m := ⟨2, 2⟩) (meth := k2m2) (c := k2c2) (by decide +kernel) rfl rfl rfl (by decide +kernel)
set_option maxRecDepth 65536 in
theorem w_c9 : (Jvm.Cond.code ({ cls := "com/example/vetter/vetter/space/Pattern", name := "matches", desc := "(Lcom/example/vetter/vetter/space/Tuple;)Z" } : Jvm.MethodName) prog_325_method_2_code (3 : Nat) (Option.some Jvm.ClassFile.FieldType.boolean)).before args0 about1 = true := code_word (m := ⟨2, 1⟩) (meth := k2m1) (c := k2c1) (by decide +kernel) rfl rfl rfl (by decide +kernel)
set_option maxRecDepth 65536 in
theorem w_c10 : (Jvm.Cond.code ({ cls := "jdk/internal/util/ArraysSupport", name := "vectorizedHashCode", desc := "(Ljava/lang/Object;IIII)I" } : Jvm.MethodName) jdk_48_method_4_code (5 : Nat) (Option.some Jvm.ClassFile.FieldType.int)).before args0 about1 = true := code_word (m := ⟨7, 1⟩) (meth := k7m1) (c := k7c1) (by decide +kernel) rfl rfl rfl (by decide +kernel)
set_option maxRecDepth 65536 in
theorem w_c11 : (Jvm.Cond.code ({ cls := "jdk/internal/util/ArraysSupport", name := "hashCode", desc := "(I[III)I" } : Jvm.MethodName) jdk_48_method_9_code (6 : Nat) (Option.some Jvm.ClassFile.FieldType.int)).before args0 about1 = true := code_word (m := ⟨7, 2⟩) (meth := k7m2) (c := k7c2) (by decide +kernel) rfl rfl rfl (by decide +kernel)
set_option maxRecDepth 65536 in
theorem w_c12 : (Jvm.Cond.code ({ cls := "com/example/vetter/vetter/space/PatternOverlapsPinLaw", name := "agree", desc := "(II)Z" } : Jvm.MethodName) method_4_code (2 : Nat) (Option.some Jvm.ClassFile.FieldType.boolean)).before args0 about1 = true := code_word (m := ⟨1, 3⟩) (meth := k1m3) (c := k1c3) (by decide +kernel) rfl rfl rfl (by decide +kernel)
set_option maxRecDepth 65536 in
theorem w_c13 : (Jvm.Cond.code ({ cls := "com/example/vetter/vetter/space/Tuple", name := "field", desc := "(I)I" } : Jvm.MethodName) prog_353_method_3_code (2 : Nat) (Option.some Jvm.ClassFile.FieldType.int)).before args0 about1 = true := code_word (m := ⟨6, 1⟩) (meth := k6m1) (c := k6c1) (by decide +kernel) rfl rfl rfl (by decide +kernel)
def codes1 : List Jvm.Cond := [Jvm.Cond.code x code maxLocals ret, Jvm.Cond.code ({ cls := "com/example/vetter/vetter/space/PatternOverlapsPinLaw", name := "field", desc := "(I)I" } : Jvm.MethodName) method_2_code (2 : Nat) (Option.some Jvm.ClassFile.FieldType.int), Jvm.Cond.code ({ cls := "com/example/vetter/vetter/space/PatternOverlapsPinLaw", name := "take", desc := "(IIII)[I" } : Jvm.MethodName) method_3_code (4 : Nat) (Option.some (Jvm.ClassFile.FieldType.array Jvm.ClassFile.FieldType.int)), Jvm.Cond.code ({ cls := "com/example/vetter/vetter/space/Pattern", name := "<init>", desc := "([I)V" } : Jvm.MethodName) prog_325_method_1_code (2 : Nat) (Option.none : Option Jvm.ClassFile.FieldType), Jvm.Cond.code ({ cls := "java/lang/Object", name := "<init>", desc := "()V" } : Jvm.MethodName) object_method_1_code (1 : Nat) (Option.none : Option Jvm.ClassFile.FieldType), Jvm.Cond.code ({ cls := "java/util/Arrays", name := "hashCode", desc := "([I)I" } : Jvm.MethodName) jdk_65_method_150_code (1 : Nat) (Option.some Jvm.ClassFile.FieldType.int), Jvm.Cond.code ({ cls := "com/example/vetter/vetter/space/PatternOverlapsPinLaw", name := "meet", desc := "(II)I" } : Jvm.MethodName) method_5_code (2 : Nat) (Option.some Jvm.ClassFile.FieldType.int), Jvm.Cond.code ({ cls := "com/example/vetter/vetter/space/Tuple", name := "<init>", desc := "([I)V" } : Jvm.MethodName) prog_353_method_1_code (2 : Nat) (Option.none : Option Jvm.ClassFile.FieldType), Jvm.Cond.code ({ cls := "com/example/vetter/vetter/space/Pattern", name := "overlaps", desc := "(Lcom/example/vetter/vetter/space/Pattern;)Z" } : Jvm.MethodName) prog_325_method_4_code (5 : Nat) (Option.some Jvm.ClassFile.FieldType.boolean), Jvm.Cond.code ({ cls := "com/example/vetter/vetter/space/Pattern", name := "matches", desc := "(Lcom/example/vetter/vetter/space/Tuple;)Z" } : Jvm.MethodName) prog_325_method_2_code (3 : Nat) (Option.some Jvm.ClassFile.FieldType.boolean), Jvm.Cond.code ({ cls := "jdk/internal/util/ArraysSupport", name := "vectorizedHashCode", desc := "(Ljava/lang/Object;IIII)I" } : Jvm.MethodName) jdk_48_method_4_code (5 : Nat) (Option.some Jvm.ClassFile.FieldType.int), Jvm.Cond.code ({ cls := "jdk/internal/util/ArraysSupport", name := "hashCode", desc := "(I[III)I" } : Jvm.MethodName) jdk_48_method_9_code (6 : Nat) (Option.some Jvm.ClassFile.FieldType.int), Jvm.Cond.code ({ cls := "com/example/vetter/vetter/space/PatternOverlapsPinLaw", name := "agree", desc := "(II)Z" } : Jvm.MethodName) method_4_code (2 : Nat) (Option.some Jvm.ClassFile.FieldType.boolean), Jvm.Cond.code ({ cls := "com/example/vetter/vetter/space/Tuple", name := "field", desc := "(I)I" } : Jvm.MethodName) prog_353_method_3_code (2 : Nat) (Option.some Jvm.ClassFile.FieldType.int)]
set_option maxRecDepth 65536 in
theorem codes_eq : words1.filter isCode = codes1 := rfl
theorem w_codes : ∀ c ∈ words1.filter isCode, c.before args0 about1 = true := by
  rw [codes_eq]
  intro c hc
  simp only [codes1, List.mem_cons, List.not_mem_nil, or_false] at hc
  rcases hc with rfl | rfl | rfl | rfl | rfl | rfl | rfl | rfl | rfl | rfl | rfl | rfl | rfl | rfl
  · exact w_c0
  · exact w_c1
  · exact w_c2
  · exact w_c3
  · exact w_c4
  · exact w_c5
  · exact w_c6
  · exact w_c7
  · exact w_c8
  · exact w_c9
  · exact w_c10
  · exact w_c11
  · exact w_c12
  · exact w_c13
set_option maxRecDepth 65536 in
theorem w_t1 : (words1.take 24).all (fun c => isCode c || c.before args0 about1) = true := by decide +kernel
set_option maxRecDepth 65536 in
theorem w_t2 : ((words1.drop 24).take 24).all (fun c => isCode c || c.before args0 about1) = true := by decide +kernel
set_option maxRecDepth 65536 in
theorem w_t3 : (((words1.drop 24).drop 24).take 24).all (fun c => isCode c || c.before args0 about1) = true := by decide +kernel
set_option maxRecDepth 65536 in
theorem w_t4 : (((words1.drop 24).drop 24).drop 24).all (fun c => isCode c || c.before args0 about1) = true := by decide +kernel
theorem w_tables : (allAtoms (Jvm.Cond.code x code maxLocals ret :: tables_1)).before args0 about1 = true := by
  rw [allAtoms_all]
  show words1.all (fun c => c.before args0 about1) = true
  refine all_split ?_ w_codes
  rw [← List.take_append_drop 24 words1, List.all_append, w_t1, ← List.take_append_drop 24 (words1.drop 24), List.all_append, w_t2, ← List.take_append_drop 24 ((words1.drop 24).drop 24), List.all_append, w_t3, w_t4]
  rfl
set_option maxRecDepth 65536 in
theorem w_case : (Jvm.Cond.and given_1 narrow_1).before args0 about1 = true := by decide +kernel
theorem w_applies : (headSpec (Jvm.Cond.code x code maxLocals ret :: tables_1) room_1).applies x e0.platform about1 = true :=
  (Spec.applies_iff w_frames).mpr ⟨w_running, w_runnable, w_alone, w_named, w_hears, w_ripe, w_room, w_tables⟩
theorem atStart : AtStart classFile x code maxLocals ret World_1 tables_1 room_1 Calls_1 rest_1 Pre_1 launch0 p0 e0 about1 theMethod args0 below0 :=
  ⟨lists_1, trivial, launch0.admits_env _ _ _, launch0.least_env, fairChoices_fair.cas, fairChoices_fair.clock, w_frames, w_args, w_heap, w_applies, trivial, trivial, w_case⟩
end start1
theorem witness_1 : WitnessClaimed_1 := ⟨start1.p0, start1.e0, start1.about1, start1.theMethod, start1.args0, start1.below0, start1.atStart⟩
end Jvm.Pilot.@@N@@
