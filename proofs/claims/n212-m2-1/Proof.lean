import JvmDerived
import JvmDerived.Pilot.@@N@@Statement
import JvmDerived.Pilot.@@N@@Code
set_option linter.unusedVariables false
set_option linter.unusedSimpArgs false
namespace Jvm.OwnKit
open Sem ClassFile Op Lib Jvm.Stand Jvm.Free Jvm.LawKit Jvm.RoadKit
/-- from here the run returns; it wrote new cells alone, and what it leaves is as Q says -/
def OGoes (p : Program) (e : Env) (s : State) (below : List Frame) (Q : Option Value → Heap → Prop) (n0 C N : Nat) (T : State) (g : JFrame) : Prop :=
  ∃ s₂ o, Steps p.tables e below (T.setTop g) s₂ ∧ s₂.status = .running ∧ Ended s₂ below o ∧ ∃ v L, o = .returned v ∧ (Fr n0 L ∧ Q v s₂.heap) ∧ FrameEnd s o s₂ L C N
/-- two addresses apart, one number up to another: kept from omega's sight -/
def Apart (a b : Nat) : Prop := a ≠ b
theorem Apart.symm {a b : Nat} (h : Apart a b) : Apart b a := Ne.symm h
def NLe (a b : Nat) : Prop := a ≤ b
theorem NLe.tr {a b c : Nat} (h : NLe a b) (k : b ≤ c) : NLe a c := Nat.le_trans h k
theorem NLe.wr {a : Nat} {h h' : Heap} {b sl : Nat} {v : Value} (q : NLe a h.size) (W : Wr h h' b sl v) : NLe a h'.size := by show a ≤ h'.size; rw [W.size]; exact q
theorem NLe.at {n a b : Nat} (g : a = b) (q : NLe n b) : NLe n a := g ▸ q
theorem Apart.new {a b n : Nat} (g : a = n) (q : b < n) : Apart b a := g ▸ Nat.ne_of_lt q
theorem Apart.fr {a b n : Nat} (q : b < n) (r : n ≤ a) : Apart b a := Nat.ne_of_lt (Nat.lt_of_lt_of_le q r)
/-- a method's contract: entered with these arguments over the heap h it returns as Q says -/
abbrev Con (l : Launch) (y : MethodName) (bytes : ByteArray) (maxL : Nat) (ret : Option FieldType) (ws : List Jvm.Cond) (rm : Room) (Z : State) (as' : Array Value) (h : Heap) (n0 : Nat) (Q : Option Value → Heap → Prop) : Prop :=
  MetFree l y (head1 (Jvm.Cond.code y bytes maxL ret :: ws) rm) (fun a U => a = as' ∧ Z.Warmed39 U.vm ∧ U.heap = h) (fun _ _ _ _ _ => True) (fun _ U o U' => ∃ v L, o = .returned v ∧ (Fr n0 L ∧ Q v U'.heap) ∧ FrameEnd U o U' L rm.cells rm.slots)
section Laws
variable {p : Program} {l : Launch} {e : Env} {R : Room} {s : State} {m : MethodId} {args : Array Value} {below : List Frame} {meth : Method} {c : Code} {T T' : State} {locs : List Loc} {cells slots : Nat} {Z : State} {h : Heap} {a0 : Array Value} {Q : Option Value → Heap → Prop} {n0 C N pc pc' : Nat} {Ls Ls' : Array Slot} {st : List Value} {g g' : JFrame}
theorem OGoes.go (k : ∀ t, Steps p.tables e below (T'.setTop g') t → Steps p.tables e below (T.setTop g) t) (h : OGoes p e s below Q n0 C N T' g') : OGoes p e s below Q n0 C N T g := by
  obtain ⟨s₂, o, h1, h2⟩ := h; exact ⟨s₂, o, k _ h1, h2⟩
/-- what opens every body's walk -/
theorem con_of {y : MethodName} {bytes : ByteArray} {maxL : Nat} {ret : Option FieldType} {ws : List Jvm.Cond} {rm : Room} {as' : Array Value} {Ls0 : Array Slot} (hn : plainFor y = true) (hef : ∀ m, entryFrame m as' maxL = mkF m 0 Ls0 [])
    (body : ∀ (p : Program) (e : Env) (s : State) (m : MethodId) (below : List Frame) (meth : Method) (c : Code) (s₁ : State), Stand p l e rm s m as' below meth c s₁ [] 0 0 → p.tables.exec = Jvm.exec → c.code = bytes → c.maxLocals = maxL → Z.Warmed39 s.vm → s.vm.findClass y.cls = some m.cls → meth.name = y.name → meth.sig.returnType = ret → meth.locks = false → s₁.heap = h → Fr n0 [] →
      OGoes p e s below Q n0 rm.cells rm.slots s₁ (mkF m 0 Ls0 [])) : Con l y bytes maxL ret ws rm Z as' h n0 Q := by
  refine MetFree.of_bodySF hn hisR ?_
  intro p e s m args below meth c s₁ Bd hml0 hP hK
  obtain ⟨rfl, hZ, hh⟩ := hP
  have e0 : s₁.heap = h := by rw [← hh, Bd.state]; rfl
  have q := body p e s m below meth c s₁ (Stand.of_body Bd) Bd.exec Bd.bytes hml0 hZ (findClass_of_methodNamed Bd.named) (name_of_methodNamed Bd.named Bd.method).1 Bd.returns Bd.notSynchronized e0 (Fr.nil n0)
  rw [hef m]
  exact q
/-- a return -/
theorem g_ret (X : Stand p l e R s m args below meth c T locs cells slots) (hx : p.tables.exec = Jvm.exec) (hlk : meth.locks = false) {w : Value} {t : FieldType} {i : Instr} (hret : meth.sig.returnType = some t) (hn : narrow t w = w)
    (hi : (i = .ireturn ∧ (t = .int ∨ t = .boolean ∨ t = .byte ∨ t = .char ∨ t = .short) ∧ ∃ z, w = .int z) ∨ (i = .lreturn ∧ t = .long ∧ ∃ z, w = .long z) ∨ (i = .dreturn ∧ t = .double ∧ ∃ z, w = .double z) ∨ (i = .freturn ∧ t = .float ∧ ∃ z, w = .float z) ∨ (i = .areturn ∧ t.isReference = true ∧ w.isRef = true))
    (hd : decode c.code pc = .ok (i, 1)) (hN : Fr n0 locs) (hc : cells ≤ C) (hs : slots ≤ N) (hQ : Q (some w) T.heap) : OGoes p e s below Q n0 C N T (mkF m pc Ls (w :: st)) := by
  obtain ⟨fs, hr, hrun, hended, hW, hsame⟩ := X.leave (v := some w) (fun z => by rw [hret] at z; cases z)
  exact ⟨_, _, retOut X hx hret hn hi hd hr, hrun, hended, _, _, rfl, ⟨hN, hQ⟩, ⟨_, rfl⟩, hW, hsame.mono hc hs⟩
theorem g_retI (X : Stand p l e R s m args below meth c T locs cells slots) (hx : p.tables.exec = Jvm.exec) (hlk : meth.locks = false) {z : Int32} (hret : meth.sig.returnType = some .int) (hd : decode c.code pc = .ok (.ireturn, 1)) (hN : Fr n0 locs) (hc : cells ≤ C) (hs : slots ≤ N) (hQ : Q (some (.int z)) T.heap) : OGoes p e s below Q n0 C N T (mkF m pc Ls (.int z :: st)) :=
  g_ret X hx hlk hret rfl (Or.inl ⟨rfl, Or.inl rfl, _, rfl⟩) hd hN hc hs hQ
theorem g_retZ (X : Stand p l e R s m args below meth c T locs cells slots) (hx : p.tables.exec = Jvm.exec) (hlk : meth.locks = false) {z : Int32} (hz : z &&& 1 = z) (hret : meth.sig.returnType = some .boolean) (hd : decode c.code pc = .ok (.ireturn, 1)) (hN : Fr n0 locs) (hc : cells ≤ C) (hs : slots ≤ N) (hQ : Q (some (.int z)) T.heap) : OGoes p e s below Q n0 C N T (mkF m pc Ls (.int z :: st)) :=
  g_ret X hx hlk hret (congrArg Value.int hz) (Or.inl ⟨rfl, Or.inr (Or.inl rfl), _, rfl⟩) hd hN hc hs hQ
theorem g_retJ (X : Stand p l e R s m args below meth c T locs cells slots) (hx : p.tables.exec = Jvm.exec) (hlk : meth.locks = false) {z : Int64} (hret : meth.sig.returnType = some .long) (hd : decode c.code pc = .ok (.lreturn, 1)) (hN : Fr n0 locs) (hc : cells ≤ C) (hs : slots ≤ N) (hQ : Q (some (.long z)) T.heap) : OGoes p e s below Q n0 C N T (mkF m pc Ls (.long z :: st)) :=
  g_ret X hx hlk hret rfl (Or.inr (Or.inl ⟨rfl, rfl, _, rfl⟩)) hd hN hc hs hQ
theorem g_retA (X : Stand p l e R s m args below meth c T locs cells slots) (hx : p.tables.exec = Jvm.exec) (hlk : meth.locks = false) {v : Value} {t : FieldType} (hret : meth.sig.returnType = some t) (ht : t.isReference = true) (hn : narrow t v = v) (hv : v.isRef = true) (hd : decode c.code pc = .ok (.areturn, 1)) (hN : Fr n0 locs) (hc : cells ≤ C) (hs : slots ≤ N) (hQ : Q (some v) T.heap) : OGoes p e s below Q n0 C N T (mkF m pc Ls (v :: st)) :=
  g_ret X hx hlk hret hn (Or.inr (Or.inr (Or.inr (Or.inr ⟨rfl, ht, hv⟩)))) hd hN hc hs hQ
theorem g_retV (X : Stand p l e R s m args below meth c T locs cells slots) (hx : p.tables.exec = Jvm.exec) (hlk : meth.locks = false) (hret : meth.sig.returnType = none) (hd : decode c.code pc = .ok (.return_, 1)) (hN : Fr n0 locs) (hc : cells ≤ C) (hs : slots ≤ N) (hQ : Q none T.heap) : OGoes p e s below Q n0 C N T (mkF m pc Ls []) := by
  obtain ⟨fs, hr, hrun, hended, hW, hsame⟩ := X.leave (v := none) (fun _ => rfl)
  exact ⟨_, _, X.returnOut hx hret hd hr, hrun, hended, _, _, rfl, ⟨hN, hQ⟩, ⟨_, rfl⟩, hW, hsame.mono hc hs⟩
/-! fields and objects -/
theorem g_getF (X : Stand p l e R s m args below meth c T locs cells slots) (hx : p.tables.exec = Jvm.exec) (hZ : Z.Warmed39 s.vm) {own O n d : String} {i : Nat} (hown : s.vm.findClass own = some m.cls) (w : (Cond.fieldLink own i O n d).before a0 Z = true) (eT : T.heap = h) {a : Addr} {v : Value} (F : Fld Z h a O n d v) (hd : decode c.code pc = .ok (.getfield i, 3)) (hp : pc + 3 = pc')
    (k : ∀ T', Stand p l e R s m args below meth c T' locs cells slots → T'.heap = h → OGoes p e s below Q n0 C N T' (mkF m pc' Ls (v :: st))) : OGoes p e s below Q n0 C N T (mkF m pc Ls (.ref a :: st)) := by
  subst hp
  obtain ⟨T', X', e', st'⟩ := getF X hx hZ hown (host := "") (Or.inl w) Via.refl eT F (g := mkF m pc Ls (.ref a :: st)) rfl rfl hd
  exact (k T' X' e').go st'
theorem g_putF (X : Stand p l e R s m args below meth c T locs cells slots) (hx : p.tables.exec = Jvm.exec) (hZ : Z.Warmed39 s.vm) {own O n d K : String} {i kk : Nat} {ty : FieldType} (hown : s.vm.findClass own = some m.cls) (w : (Cond.fieldLink own i O n d).before a0 Z = true) (eT : T.heap = h) {a : Addr} {v old : Value} (F : Fld Z h a O n d old) (E : Exa Z h a K) (L : (Cond.lays K O n d).before a0 Z = true ∨ ((Cond.laysFinal K O n d).before a0 Z = true ∧ own = O ∧ meth.name = "<init>")) (wi : (Cond.instantiable K kk).before a0 Z = true)
    (hty : parseFieldDescriptor d = some ty) (hn : narrow ty v = v) (hf : fits ty v = true) (hN : Fr n0 locs) (ha : n0 ≤ a) (hd : decode c.code pc = .ok (.putfield i, 3)) (hp : pc + 3 = pc')
    (k : ∀ T' h' locs', Stand p l e R s m args below meth c T' locs' cells slots → T'.heap = h' → Wr h h' a (RoadKit.slotOf Z O n d) v → Fr n0 locs' → OGoes p e s below Q n0 C N T' (mkF m pc' Ls st)) : OGoes p e s below Q n0 C N T (mkF m pc Ls (v :: .ref a :: st)) := by
  subst hp
  obtain ⟨T', h', X', e', W', st'⟩ := putF X hx hZ hown (host := "") (Or.inl w) Via.refl eT F E L wi hty hn hf (g := mkF m pc Ls (v :: .ref a :: st)) rfl rfl hd
  exact (k T' h' _ X' e' W' (Fr.snoc X' hN ha)).go st'
theorem g_new (X : Stand p l e R s m args below meth c T locs cells slots) (hx : p.tables.exec = Jvm.exec) (hZ : Z.Warmed39 s.vm) {own K : String} {i n : Nat} (hown : s.vm.findClass own = some m.cls) (w : (Cond.classLink own i K).before a0 Z = true) (wi : (Cond.instantiable K n).before a0 Z = true) (wz : (Cond.initialized K).before a0 Z = true) (eT : T.heap = h) (hd : decode c.code pc = .ok (.new i, 3)) (hc : cells + 1 ≤ R.cells) (hl : slots + n ≤ R.slots) (hp : pc + 3 = pc')
    (k : ∀ T' h' a, a = h.size → Stand p l e R s m args below meth c T' locs (cells + 1) (slots + n) → T'.heap = h' → Ext h h' → a < h'.size → Exa Z h' a K → (∀ {O nm d : String} {ty : FieldType}, Laid Z a0 K O nm d → parseFieldDescriptor d = some ty → Fld Z h' a O nm d (defaultValue ty)) → OGoes p e s below Q n0 C N T' (mkF m pc' Ls (.ref a :: st))) : OGoes p e s below Q n0 C N T (mkF m pc Ls st) := by
  subst hp
  obtain ⟨T', h', X', e', E', A', D', -, st'⟩ := newO X hx hZ hown w wi wz eT (g := mkF m pc Ls st) rfl hd hc hl
  exact (k T' h' h.size rfl X' e' E' A'.lt A' D').go st'
theorem g_initO (X : Stand p l e R s m args below meth c T locs cells slots) (hx : p.tables.exec = Jvm.exec) (hZ : Z.Warmed39 s.vm) {own : String} {i : Nat} (hown : s.vm.findClass own = some m.cls) (w1 : (Cond.methodLink own i Lib.objectInit).before a0 Z = true) (w2 : (Cond.instanceMethod Lib.objectInit).before a0 Z = true) (w3 : (Cond.code Lib.objectInit ⟨#[0xb1]⟩ 1 none).before a0 Z = true) (eT : T.heap = h) (hsz : Ls.size = c.maxLocals) {a : Addr} (hd : decode c.code pc = .ok (.invokespecial i, 3))
    (hf : 1 ≤ R.frames) {W : Nat} (hW : (st.map fun v => v.category).sum ≤ W) (hl : W + 12 ≤ R.locals) (hp : pc + 3 = pc')
    (k : ∀ T', Stand p l e R s m args below meth c T' locs cells slots → T'.heap = h → OGoes p e s below Q n0 C N T' (mkF m pc' Ls st)) : OGoes p e s below Q n0 C N T (mkF m pc Ls (.ref a :: st)) := by
  subst hp
  obtain ⟨T', X', e', st'⟩ := initO X hx hZ hown w1 w2 w3 eT (g := mkF m pc Ls (.ref a :: st)) rfl hsz rfl hd hf (W := W) (by show 2 * 0 + _ ≤ _; omega) hl
  exact (k T' X' e').go st'
theorem g_getS (X : Stand p l e R s m args below meth c T locs cells slots) (hx : p.tables.exec = Jvm.exec) (hZ : Z.Warmed39 s.vm) {own O n d : String} {i : Nat} (hown : s.vm.findClass own = some m.cls) (w : (Cond.fieldLink own i O n d).before a0 Z = true) (eT : T.heap = h) {v : Value} (F : Sta Z h O n d v) (hd : decode c.code pc = .ok (.getstatic i, 3)) (hp : pc + 3 = pc')
    (k : ∀ T', Stand p l e R s m args below meth c T' locs cells slots → T'.heap = h → OGoes p e s below Q n0 C N T' (mkF m pc' Ls (v :: st))) : OGoes p e s below Q n0 C N T (mkF m pc Ls st) := by
  subst hp
  obtain ⟨T', X', e', st'⟩ := getS X hx hZ hown (host := "") w Via.refl eT F (g := mkF m pc Ls st) rfl hd
  exact (k T' X' e').go st'
theorem g_ldcF (X : Stand p l e R s m args below meth c T locs cells slots) (hx : p.tables.exec = Jvm.exec) (hZ : Z.Warmed39 s.vm) {own : String} {i : Nat} {b : UInt32} (hown : s.vm.findClass own = some m.cls) (w : (Cond.constantFloat own i b).before a0 Z = true) (hd : decode c.code pc = .ok (.ldc i, 2)) (hp : pc + 2 = pc')
    (k : OGoes p e s below Q n0 C N T (mkF m pc' Ls (.float b :: st))) : OGoes p e s below Q n0 C N T (mkF m pc Ls st) := by
  subst hp
  exact k.go fun t q => X.ldcFloatC hx hown (mvT hZ w) (g := mkF m pc Ls st) rfl hd t q
/-! calls: the callee's contract pays -/
theorem g_static (X : Stand p l e R s m args below meth c T locs cells slots) (hx : p.tables.exec = Jvm.exec) (hZ : Z.Warmed39 s.vm) {own : String} {i : Nat} {y : MethodName} {bytes : ByteArray} {maxL : Nat} {ret : Option FieldType} (hown : s.vm.findClass own = some m.cls) (w1 : (Cond.methodLink own i y).before a0 Z = true) (w2 : (Cond.static y).before a0 Z = true) (w3 : (Cond.initialized y.cls).before a0 Z = true) (w4 : (Cond.code y bytes maxL ret).before a0 Z = true) (hy : y.cls ≠ "java/lang/invoke/MethodHandle" ∧ y.cls ≠ "java/lang/invoke/VarHandle")
    {rm : Room} {argsL : List Value} {as' : Array Value} {Qy : Option Value → Heap → Prop} (hM : Con l y bytes maxL ret [] rm Z as' h n0 Qy) (has : argsL.toArray = as') (eT : T.heap = h) (hsz : Ls.size = c.maxLocals) {ps : List FieldType} {rt : Option FieldType} (pd : parseMethodDescriptor y.desc = some ⟨ps, rt⟩) (hlen : argsL.length = ps.length) {rest : List Value} (hst : st = argsL.reverse ++ rest) {W : Nat} (hW : (rest.map fun v => v.category).sum ≤ W)
    (hf : rm.frames + 1 ≤ R.frames) (hl : W + (maxL + 11) + rm.locals ≤ R.locals) (hc : cells + rm.cells ≤ R.cells) (hs : slots + rm.slots ≤ R.slots) (hN : Fr n0 locs) (hd : decode c.code pc = .ok (.invokestatic i, 3)) (hp : pc + 3 = pc')
    (k : ∀ v T' locs', Stand p l e R s m args below meth c T' locs' (cells + rm.cells) (slots + rm.slots) → Fr n0 locs' → Qy v T'.heap → OGoes p e s below Q n0 C N T' (mkF m pc' Ls (v.toList ++ rest))) : OGoes p e s below Q n0 C N T (mkF m pc Ls st) := by
  subst hp has
  obtain ⟨v, _, ⟨T', L', k', n'⟩, -, X', ⟨L, ⟨hNL, hQ⟩, q1, q2, q3⟩, st'⟩ := Jvm.LawKit.callS X hx (y := y) hown (mvT hZ w1) (mvT hZ w2) (mvT hZ w3) (mvT hZ w4) hy (backOf (W := W) (Q := fun v h L => Fr n0 L ∧ Qy v h) hM hZ w4 w3 hf hl) (g := mkF m pc Ls st) rfl hsz (argsL := argsL) (rest := rest) (lenOf pd hlen) hst (by show 2 * 0 + _ ≤ _; omega) hd (fun _ _ => ⟨rfl, eT, hc, hs⟩)
  dsimp only [Pt.U, Pt.locs, Pt.cells, Pt.slots] at X' q1 q2 q3 st' hQ
  subst q1 q2 q3
  exact (k v T' _ X' (Fr.app hN hNL) hQ).go st'
theorem g_special (X : Stand p l e R s m args below meth c T locs cells slots) (hx : p.tables.exec = Jvm.exec) (hZ : Z.Warmed39 s.vm) {own : String} {i : Nat} {y : MethodName} {bytes : ByteArray} {maxL : Nat} (hy1 : y.name = "<init>") (hown : s.vm.findClass own = some m.cls) (w1 : (Cond.methodLink own i y).before a0 Z = true) (w2 : (Cond.instanceMethod y).before a0 Z = true) (w3 : (Cond.initialized y.cls).before a0 Z = true) (w4 : (Cond.code y bytes maxL none).before a0 Z = true) (hy : y.cls ≠ "java/lang/invoke/MethodHandle" ∧ y.cls ≠ "java/lang/invoke/VarHandle")
    {rm : Room} {a : Addr} {argsL : List Value} {as' : Array Value} {Qy : Option Value → Heap → Prop} (hM : Con l y bytes maxL none [] rm Z as' h n0 Qy) (has : (.ref a :: argsL).toArray = as') (eT : T.heap = h) (hsz : Ls.size = c.maxLocals) {ps : List FieldType} {rt : Option FieldType} (pd : parseMethodDescriptor y.desc = some ⟨ps, rt⟩) (hlen : argsL.length = ps.length) {rest : List Value} (hst : st = argsL.reverse ++ .ref a :: rest) {W : Nat} (hW : (rest.map fun v => v.category).sum ≤ W)
    (hf : rm.frames + 1 ≤ R.frames) (hl : W + (maxL + 11) + rm.locals ≤ R.locals) (hc : cells + rm.cells ≤ R.cells) (hs : slots + rm.slots ≤ R.slots) (hN : Fr n0 locs) (hd : decode c.code pc = .ok (.invokespecial i, 3)) (hp : pc + 3 = pc')
    (k : ∀ v T' locs', Stand p l e R s m args below meth c T' locs' (cells + rm.cells) (slots + rm.slots) → Fr n0 locs' → Qy v T'.heap → OGoes p e s below Q n0 C N T' (mkF m pc' Ls (v.toList ++ rest))) : OGoes p e s below Q n0 C N T (mkF m pc Ls st) := by
  subst hp has
  obtain ⟨v, _, ⟨T', L', k', n'⟩, -, X', ⟨L, ⟨hNL, hQ⟩, q1, q2, q3⟩, st'⟩ := X.specialBack hx (y := y) hy1 hown (mvT hZ w1) (mvT hZ w2) (mvT hZ w4) hy (backOf (W := W) (Q := fun v h L => Fr n0 L ∧ Qy v h) hM hZ w4 w3 hf hl) (g := mkF m pc Ls st) rfl hsz (Steps.refl _) (a := a) (argsL := argsL) (rest := rest) (lenOf pd hlen) hst (by show 2 * 0 + _ ≤ _; omega) hd (fun _ _ => ⟨rfl, eT, hc, hs⟩)
  dsimp only [Pt.U, Pt.locs, Pt.cells, Pt.slots] at X' q1 q2 q3 st' hQ
  subst q1 q2 q3
  exact (k v T' _ X' (Fr.app hN hNL) hQ).go fun _ z => st'.trans z
theorem g_virtual (X : Stand p l e R s m args below meth c T locs cells slots) (hx : p.tables.exec = Jvm.exec) (hZ : Z.Warmed39 s.vm) {own K : String} {i : Nat} {y : MethodName} {bytes : ByteArray} {maxL : Nat} {ret : Option FieldType} (hown : s.vm.findClass own = some m.cls) (w1 : (Cond.methodLink own i y).before a0 Z = true) (w2 : (Cond.declares y).before a0 Z = true) (w5 : (Cond.selects K y y).before a0 Z = true) (w6 : (Cond.instanceMethod y).before a0 Z = true) (w3 : (Cond.initialized y.cls).before a0 Z = true) (w4 : (Cond.code y bytes maxL ret).before a0 Z = true) (hy : y.cls ≠ "java/lang/invoke/MethodHandle" ∧ y.cls ≠ "java/lang/invoke/VarHandle")
    {rm : Room} {a : Addr} {argsL : List Value} {as' : Array Value} {Qy : Option Value → Heap → Prop} (hM : Con l y bytes maxL ret [] rm Z as' h n0 Qy) (has : (.ref a :: argsL).toArray = as') (eT : T.heap = h) (E : Exa Z h a K) (hsz : Ls.size = c.maxLocals) {ps : List FieldType} {rt : Option FieldType} (pd : parseMethodDescriptor y.desc = some ⟨ps, rt⟩) (hlen : argsL.length = ps.length) {rest : List Value} (hst : st = argsL.reverse ++ .ref a :: rest) {W : Nat} (hW : (rest.map fun v => v.category).sum ≤ W)
    (hf : rm.frames + 1 ≤ R.frames) (hl : W + (maxL + 11) + rm.locals ≤ R.locals) (hc : cells + rm.cells ≤ R.cells) (hs : slots + rm.slots ≤ R.slots) (hN : Fr n0 locs) (hd : decode c.code pc = .ok (.invokevirtual i, 3)) (hp : pc + 3 = pc')
    (k : ∀ v T' locs', Stand p l e R s m args below meth c T' locs' (cells + rm.cells) (slots + rm.slots) → Fr n0 locs' → Qy v T'.heap → OGoes p e s below Q n0 C N T' (mkF m pc' Ls (v.toList ++ rest))) : OGoes p e s below Q n0 C N T (mkF m pc Ls st) := by
  subst hp has
  obtain ⟨cq, kq, qa, qb, qc⟩ := isOf hZ eT E
  obtain ⟨v, _, ⟨T', L', k', n'⟩, -, X', ⟨L, ⟨hNL, hQ⟩, q1, q2, q3⟩, st'⟩ := X.virtualBack hx (y := y) (z := y) hown (mvT hZ w1) (mvT hZ w2) (notFace_of_selects (args := #[]) (mvT hZ w5)) (mvT hZ w5) (mvT hZ w6) hy (backOf (W := W) (Q := fun v h L => Fr n0 L ∧ Qy v h) hM hZ w4 w3 hf hl) qa qc (g := mkF m pc Ls st) rfl hsz (Steps.refl _) (argsL := argsL) (rest := rest) (lenOf pd hlen) hst (by show 2 * 0 + _ ≤ _; omega) hd (fun _ _ => ⟨rfl, eT, hc, hs⟩)
  dsimp only [Pt.U, Pt.locs, Pt.cells, Pt.slots] at X' q1 q2 q3 st' hQ
  subst q1 q2 q3
  exact (k v T' _ X' (Fr.app hN hNL) hQ).go fun _ z => st'.trans z
/-! int arrays and long arrays, by their values -/
def IA (Z : State) (h : Heap) (a : Addr) (n : Nat) (f : Nat → Int32) : Prop := n < 2147483648 ∧ ∃ c : Cell, Arr Z h a c .int ∧ c.slots.size = n ∧ ∀ i, i < n → c.slots[i]? = some (.int (f i))
def LA (Z : State) (h : Heap) (a : Addr) (n : Nat) (f : Nat → Int64) : Prop := n < 2147483648 ∧ ∃ c : Cell, Arr Z h a c .long ∧ c.slots.size = n ∧ ∀ i, i < n → c.slots[i]? = some (.long (f i))
def zeroI : Nat → Int32 := fun _ => 0
def zeroL : Nat → Int64 := fun _ => 0
def oupd {A : Type} (f : Nat → A) (j : Nat) (v : A) : Nat → A := fun i => if i = j then v else f i
theorem nclamp {j : Int32} {k : Nat} (hj : j.toInt = (k : Int)) : j.toNatClampNeg = k ∧ ¬ j < 0 := by
  refine ⟨by simp only [Int32.toNatClampNeg, hj]; rfl, fun z => ?_⟩
  rw [Int32.lt_iff_toInt_lt, hj] at z; have : (0 : Int32).toInt = 0 := rfl; omega
theorem nin {j : Int32} {k n : Nat} (hj : j.toInt = (k : Int)) (hk : k < n) : ¬ (j < 0 ∨ n ≤ j.toNatClampNeg) := by
  obtain ⟨q1, q2⟩ := nclamp hj; rw [q1]; rintro (z | z)
  · exact q2 z
  · omega
theorem len32 {n : Nat} (hn : n < 2147483648) : (n.toInt32).toInt = (n : Int) := len_toInt hn
theorem g_iloadN (X : Stand p l e R s m args below meth c T locs cells slots) (hx : p.tables.exec = Jvm.exec) {k : Fin 4} {v : Int32} (hd : decode c.code pc = .ok (.iload_n k, 1)) (hl : Ls[k.val]? = some (.val (.int v))) (hp : pc + 1 = pc')
    (k : OGoes p e s below Q n0 C N T (mkF m pc' Ls (.int v :: st))) : OGoes p e s below Q n0 C N T (mkF m pc Ls (st)) := by
  subst hp; exact k.go fun _ q => XS.iloadN X.here hx rfl hd hl q
theorem g_iload (X : Stand p l e R s m args below meth c T locs cells slots) (hx : p.tables.exec = Jvm.exec) {k : Nat} {v : Int32} (hd : decode c.code pc = .ok (.iload k, 2)) (hl : Ls[k]? = some (.val (.int v))) (hp : pc + 2 = pc')
    (k : OGoes p e s below Q n0 C N T (mkF m pc' Ls (.int v :: st))) : OGoes p e s below Q n0 C N T (mkF m pc Ls (st)) := by
  subst hp; exact k.go fun _ q => XS.iload X.here hx rfl hd hl q
theorem g_lloadN (X : Stand p l e R s m args below meth c T locs cells slots) (hx : p.tables.exec = Jvm.exec) {k : Fin 4} {v : Int64} (hd : decode c.code pc = .ok (.lload_n k, 1)) (hl : Ls[k.val]? = some (.val (.long v))) (hp : pc + 1 = pc')
    (k : OGoes p e s below Q n0 C N T (mkF m pc' Ls (.long v :: st))) : OGoes p e s below Q n0 C N T (mkF m pc Ls (st)) := by
  subst hp; exact k.go fun _ q => XT.lloadN X.here hx rfl hd hl q
theorem g_lload (X : Stand p l e R s m args below meth c T locs cells slots) (hx : p.tables.exec = Jvm.exec) {k : Nat} {v : Int64} (hd : decode c.code pc = .ok (.lload k, 2)) (hl : Ls[k]? = some (.val (.long v))) (hp : pc + 2 = pc')
    (k : OGoes p e s below Q n0 C N T (mkF m pc' Ls (.long v :: st))) : OGoes p e s below Q n0 C N T (mkF m pc Ls (st)) := by
  subst hp; exact k.go fun _ q => XT.lload X.here hx rfl hd hl q
theorem g_aloadN (X : Stand p l e R s m args below meth c T locs cells slots) (hx : p.tables.exec = Jvm.exec) {k : Fin 4} {v : Value} (hd : decode c.code pc = .ok (.aload_n k, 1)) (hl : Ls[k.val]? = some (.val v)) (hv : v.isRef = true) (hp : pc + 1 = pc')
    (k : OGoes p e s below Q n0 C N T (mkF m pc' Ls (v :: st))) : OGoes p e s below Q n0 C N T (mkF m pc Ls (st)) := by
  subst hp; exact k.go fun _ q => XS.aloadN X.here hx rfl hd hl hv q
theorem g_aload (X : Stand p l e R s m args below meth c T locs cells slots) (hx : p.tables.exec = Jvm.exec) {k : Nat} {v : Value} (hd : decode c.code pc = .ok (.aload k, 2)) (hl : Ls[k]? = some (.val v)) (hv : v.isRef = true) (hp : pc + 2 = pc')
    (k : OGoes p e s below Q n0 C N T (mkF m pc' Ls (v :: st))) : OGoes p e s below Q n0 C N T (mkF m pc Ls (st)) := by
  subst hp; exact k.go fun _ q => XS.aload X.here hx rfl hd hl hv q
theorem g_istoreN (X : Stand p l e R s m args below meth c T locs cells slots) (hx : p.tables.exec = Jvm.exec) {k : Fin 4} {x : Int32} (hd : decode c.code pc = .ok (.istore_n k, 1)) (hl : storeLocals Ls k.val (.int x) = some Ls') (hp : pc + 1 = pc')
    (k : OGoes p e s below Q n0 C N T (mkF m pc' Ls' (st))) : OGoes p e s below Q n0 C N T (mkF m pc Ls (.int x :: st)) := by
  subst hp; exact k.go fun _ q => XS.istoreN X.here hx rfl hd rfl hl q
theorem g_istore (X : Stand p l e R s m args below meth c T locs cells slots) (hx : p.tables.exec = Jvm.exec) {k : Nat} {x : Int32} (hd : decode c.code pc = .ok (.istore k, 2)) (hl : storeLocals Ls k (.int x) = some Ls') (hp : pc + 2 = pc')
    (k : OGoes p e s below Q n0 C N T (mkF m pc' Ls' (st))) : OGoes p e s below Q n0 C N T (mkF m pc Ls (.int x :: st)) := by
  subst hp; exact k.go fun _ q => XS.istore X.here hx rfl hd rfl hl q
theorem g_lstoreN (X : Stand p l e R s m args below meth c T locs cells slots) (hx : p.tables.exec = Jvm.exec) {k : Fin 4} {x : Int64} (hd : decode c.code pc = .ok (.lstore_n k, 1)) (hl : storeLocals Ls k.val (.long x) = some Ls') (hp : pc + 1 = pc')
    (k : OGoes p e s below Q n0 C N T (mkF m pc' Ls' (st))) : OGoes p e s below Q n0 C N T (mkF m pc Ls (.long x :: st)) := by
  subst hp; exact k.go fun _ q => XT.lstoreN X.here hx rfl hd rfl hl q
theorem g_lstore (X : Stand p l e R s m args below meth c T locs cells slots) (hx : p.tables.exec = Jvm.exec) {k : Nat} {x : Int64} (hd : decode c.code pc = .ok (.lstore k, 2)) (hl : storeLocals Ls k (.long x) = some Ls') (hp : pc + 2 = pc')
    (k : OGoes p e s below Q n0 C N T (mkF m pc' Ls' (st))) : OGoes p e s below Q n0 C N T (mkF m pc Ls (.long x :: st)) := by
  subst hp; exact k.go fun _ q => XT.lstore X.here hx rfl hd rfl hl q
theorem g_astoreN (X : Stand p l e R s m args below meth c T locs cells slots) (hx : p.tables.exec = Jvm.exec) {k : Fin 4} {x : Value} (hd : decode c.code pc = .ok (.astore_n k, 1)) (hv : x.isRef = true) (hl : storeLocals Ls k.val x = some Ls') (hp : pc + 1 = pc')
    (k : OGoes p e s below Q n0 C N T (mkF m pc' Ls' (st))) : OGoes p e s below Q n0 C N T (mkF m pc Ls (x :: st)) := by
  subst hp; exact k.go fun _ q => XS.astoreN X.here hx rfl hd rfl hv hl q
theorem g_astore (X : Stand p l e R s m args below meth c T locs cells slots) (hx : p.tables.exec = Jvm.exec) {k : Nat} {x : Value} (hd : decode c.code pc = .ok (.astore k, 2)) (hv : x.isRef = true) (hl : storeLocals Ls k x = some Ls') (hp : pc + 2 = pc')
    (k : OGoes p e s below Q n0 C N T (mkF m pc' Ls' (st))) : OGoes p e s below Q n0 C N T (mkF m pc Ls (x :: st)) := by
  subst hp; exact k.go fun _ q => XS.astore X.here hx rfl hd rfl hv hl q
theorem g_iinc (X : Stand p l e R s m args below meth c T locs cells slots) (hx : p.tables.exec = Jvm.exec) {k : Nat} {cst : Int} {x v : Int32} (hd : decode c.code pc = .ok (.iinc k cst, 3)) (hv : Int32.ofInt cst = v) (hl : Ls[k]? = some (.val (.int x))) (hl' : storeLocals Ls k (.int (x + v)) = some Ls') (hp : pc + 3 = pc')
    (k : OGoes p e s below Q n0 C N T (mkF m pc' Ls' (st))) : OGoes p e s below Q n0 C N T (mkF m pc Ls (st)) := by
  subst hp; exact k.go fun _ q => XT.iincV X.here hx rfl v hd hv hl hl' q
theorem g_iconst (X : Stand p l e R s m args below meth c T locs cells slots) (hx : p.tables.exec = Jvm.exec) {i : Int} {v : Int32} (hd : decode c.code pc = .ok (.iconst i, 1)) (hv : Int32.ofInt i = v) (hp : pc + 1 = pc')
    (k : OGoes p e s below Q n0 C N T (mkF m pc' Ls (.int v :: st))) : OGoes p e s below Q n0 C N T (mkF m pc Ls (st)) := by
  subst hp; exact k.go fun _ q => XT.iconstV X.here hx rfl v hd hv q
theorem g_bipush (X : Stand p l e R s m args below meth c T locs cells slots) (hx : p.tables.exec = Jvm.exec) {i : Int} {v : Int32} (hd : decode c.code pc = .ok (.bipush i, 2)) (hv : (Int8.ofInt i).toInt32 = v) (hp : pc + 2 = pc')
    (k : OGoes p e s below Q n0 C N T (mkF m pc' Ls (.int v :: st))) : OGoes p e s below Q n0 C N T (mkF m pc Ls (st)) := by
  subst hp; exact k.go fun _ q => XT.bipushV X.here hx rfl v hd hv q
theorem g_sipush (X : Stand p l e R s m args below meth c T locs cells slots) (hx : p.tables.exec = Jvm.exec) {i : Int} {v : Int32} (hd : decode c.code pc = .ok (.sipush i, 3)) (hv : (Int16.ofInt i).toInt32 = v) (hp : pc + 3 = pc')
    (k : OGoes p e s below Q n0 C N T (mkF m pc' Ls (.int v :: st))) : OGoes p e s below Q n0 C N T (mkF m pc Ls (st)) := by
  subst hp; exact k.go fun _ q => XT.sipushV X.here hx rfl v hd hv q
theorem g_lconst (X : Stand p l e R s m args below meth c T locs cells slots) (hx : p.tables.exec = Jvm.exec) {k : Fin 2} {v : Int64} (hd : decode c.code pc = .ok (.lconst k, 1)) (hv : Int64.ofNat k = v) (hp : pc + 1 = pc')
    (k : OGoes p e s below Q n0 C N T (mkF m pc' Ls (.long v :: st))) : OGoes p e s below Q n0 C N T (mkF m pc Ls (st)) := by
  subst hp; exact k.go fun _ q => XT.lconstV X.here hx rfl v hd hv q
theorem g_null (X : Stand p l e R s m args below meth c T locs cells slots) (hx : p.tables.exec = Jvm.exec)  (hd : decode c.code pc = .ok (.aconst_null, 1))  (hp : pc + 1 = pc')
    (k : OGoes p e s below Q n0 C N T (mkF m pc' Ls (.null :: st))) : OGoes p e s below Q n0 C N T (mkF m pc Ls (st)) := by
  subst hp; exact k.go fun _ q => XS.aconstNull X.here hx rfl hd q
theorem g_ldc (X : Stand p l e R s m args below meth c T locs cells slots) (hx : p.tables.exec = Jvm.exec) (hZ : Z.Warmed39 s.vm) {own : String} {i : Nat} (hown : s.vm.findClass own = some m.cls) {v : Int32} (hd : decode c.code pc = .ok (.ldc i, 2)) (w : (Cond.constant own i v).before a0 Z = true) (hp : pc + 2 = pc')
    (k : OGoes p e s below Q n0 C N T (mkF m pc' Ls (.int v :: st))) : OGoes p e s below Q n0 C N T (mkF m pc Ls (st)) := by
  subst hp; exact k.go fun _ q => X.ldcI hx hown (mvT hZ w) rfl hd q
theorem g_ldcW (X : Stand p l e R s m args below meth c T locs cells slots) (hx : p.tables.exec = Jvm.exec) (hZ : Z.Warmed39 s.vm) {own : String} {i : Nat} (hown : s.vm.findClass own = some m.cls) {v : Int32} (hd : decode c.code pc = .ok (.ldc_w i, 3)) (w : (Cond.constant own i v).before a0 Z = true) (hp : pc + 3 = pc')
    (k : OGoes p e s below Q n0 C N T (mkF m pc' Ls (.int v :: st))) : OGoes p e s below Q n0 C N T (mkF m pc Ls (st)) := by
  subst hp; exact k.go fun _ q => X.ldcWI hx hown (mvT hZ w) rfl hd q
theorem g_ldc2 (X : Stand p l e R s m args below meth c T locs cells slots) (hx : p.tables.exec = Jvm.exec) (hZ : Z.Warmed39 s.vm) {own : String} {i : Nat} (hown : s.vm.findClass own = some m.cls) {v : Int64} (hd : decode c.code pc = .ok (.ldc2_w i, 3)) (w : (Cond.constantLong own i v).before a0 Z = true) (hp : pc + 3 = pc')
    (k : OGoes p e s below Q n0 C N T (mkF m pc' Ls (.long v :: st))) : OGoes p e s below Q n0 C N T (mkF m pc Ls (st)) := by
  subst hp; exact k.go fun _ q => X.ldc2J hx hown (mvT hZ w) rfl hd q
theorem g_iadd (X : Stand p l e R s m args below meth c T locs cells slots) (hx : p.tables.exec = Jvm.exec) {x y : Int32} (hd : decode c.code pc = .ok (.iadd, 1))  (hp : pc + 1 = pc')
    (k : OGoes p e s below Q n0 C N T (mkF m pc' Ls (.int (x + y) :: st))) : OGoes p e s below Q n0 C N T (mkF m pc Ls (.int y :: .int x :: st)) := by
  subst hp; exact k.go fun _ q => XS.iadd X.here hx rfl hd rfl q
theorem g_isub (X : Stand p l e R s m args below meth c T locs cells slots) (hx : p.tables.exec = Jvm.exec) {x y : Int32} (hd : decode c.code pc = .ok (.isub, 1))  (hp : pc + 1 = pc')
    (k : OGoes p e s below Q n0 C N T (mkF m pc' Ls (.int (x - y) :: st))) : OGoes p e s below Q n0 C N T (mkF m pc Ls (.int y :: .int x :: st)) := by
  subst hp; exact k.go fun _ q => XS.isub X.here hx rfl hd rfl q
theorem g_iand (X : Stand p l e R s m args below meth c T locs cells slots) (hx : p.tables.exec = Jvm.exec) {x y : Int32} (hd : decode c.code pc = .ok (.iand, 1))  (hp : pc + 1 = pc')
    (k : OGoes p e s below Q n0 C N T (mkF m pc' Ls (.int (x &&& y) :: st))) : OGoes p e s below Q n0 C N T (mkF m pc Ls (.int y :: .int x :: st)) := by
  subst hp; exact k.go fun _ q => XS.iand X.here hx rfl hd rfl q
theorem g_imul (X : Stand p l e R s m args below meth c T locs cells slots) (hx : p.tables.exec = Jvm.exec) {x y : Int32} (hd : decode c.code pc = .ok (.imul, 1))  (hp : pc + 1 = pc')
    (k : OGoes p e s below Q n0 C N T (mkF m pc' Ls (.int (x * y) :: st))) : OGoes p e s below Q n0 C N T (mkF m pc Ls (.int y :: .int x :: st)) := by
  subst hp; exact k.go fun _ q => XS.imul X.here hx rfl hd rfl q
theorem g_ior (X : Stand p l e R s m args below meth c T locs cells slots) (hx : p.tables.exec = Jvm.exec) {x y : Int32} (hd : decode c.code pc = .ok (.ior, 1))  (hp : pc + 1 = pc')
    (k : OGoes p e s below Q n0 C N T (mkF m pc' Ls (.int (x ||| y) :: st))) : OGoes p e s below Q n0 C N T (mkF m pc Ls (.int y :: .int x :: st)) := by
  subst hp; exact k.go fun _ q => XT.ior X.here hx rfl hd rfl q
theorem g_ixor (X : Stand p l e R s m args below meth c T locs cells slots) (hx : p.tables.exec = Jvm.exec) {x y : Int32} (hd : decode c.code pc = .ok (.ixor, 1))  (hp : pc + 1 = pc')
    (k : OGoes p e s below Q n0 C N T (mkF m pc' Ls (.int (x ^^^ y) :: st))) : OGoes p e s below Q n0 C N T (mkF m pc Ls (.int y :: .int x :: st)) := by
  subst hp; exact k.go fun _ q => XT.ixor X.here hx rfl hd rfl q
theorem g_ishl (X : Stand p l e R s m args below meth c T locs cells slots) (hx : p.tables.exec = Jvm.exec) {x y : Int32} (hd : decode c.code pc = .ok (.ishl, 1))  (hp : pc + 1 = pc')
    (k : OGoes p e s below Q n0 C N T (mkF m pc' Ls (.int (x <<< (y &&& 31)) :: st))) : OGoes p e s below Q n0 C N T (mkF m pc Ls (.int y :: .int x :: st)) := by
  subst hp; exact k.go fun _ q => XT.ishl X.here hx rfl hd rfl q
theorem g_ishr (X : Stand p l e R s m args below meth c T locs cells slots) (hx : p.tables.exec = Jvm.exec) {x y : Int32} (hd : decode c.code pc = .ok (.ishr, 1))  (hp : pc + 1 = pc')
    (k : OGoes p e s below Q n0 C N T (mkF m pc' Ls (.int (x >>> (y &&& 31)) :: st))) : OGoes p e s below Q n0 C N T (mkF m pc Ls (.int y :: .int x :: st)) := by
  subst hp; exact k.go fun _ q => XT.ishr X.here hx rfl hd rfl q
theorem g_iushr (X : Stand p l e R s m args below meth c T locs cells slots) (hx : p.tables.exec = Jvm.exec) {x y : Int32} (hd : decode c.code pc = .ok (.iushr, 1))  (hp : pc + 1 = pc')
    (k : OGoes p e s below Q n0 C N T (mkF m pc' Ls (.int (XT.ushr x y) :: st))) : OGoes p e s below Q n0 C N T (mkF m pc Ls (.int y :: .int x :: st)) := by
  subst hp; exact k.go fun _ q => XT.iushr X.here hx rfl hd rfl q
theorem g_ineg (X : Stand p l e R s m args below meth c T locs cells slots) (hx : p.tables.exec = Jvm.exec) {x : Int32} (hd : decode c.code pc = .ok (.ineg, 1))  (hp : pc + 1 = pc')
    (k : OGoes p e s below Q n0 C N T (mkF m pc' Ls (.int (-x) :: st))) : OGoes p e s below Q n0 C N T (mkF m pc Ls (.int x :: st)) := by
  subst hp; exact k.go fun _ q => XS.ineg X.here hx rfl hd rfl q
theorem g_idiv (X : Stand p l e R s m args below meth c T locs cells slots) (hx : p.tables.exec = Jvm.exec) {x y : Int32} (hd : decode c.code pc = .ok (.idiv, 1)) (hy : y ≠ 0) (hp : pc + 1 = pc')
    (k : OGoes p e s below Q n0 C N T (mkF m pc' Ls (.int (x / y) :: st))) : OGoes p e s below Q n0 C N T (mkF m pc Ls (.int y :: .int x :: st)) := by
  subst hp; exact k.go fun _ q => XS.idiv X.here hx rfl hd rfl hy q
theorem g_irem (X : Stand p l e R s m args below meth c T locs cells slots) (hx : p.tables.exec = Jvm.exec) {x y : Int32} (hd : decode c.code pc = .ok (.irem, 1)) (hy : y ≠ 0) (hp : pc + 1 = pc')
    (k : OGoes p e s below Q n0 C N T (mkF m pc' Ls (.int (x % y) :: st))) : OGoes p e s below Q n0 C N T (mkF m pc Ls (.int y :: .int x :: st)) := by
  subst hp; exact k.go fun _ q => iremM X hx rfl hd rfl hy q
theorem g_ladd (X : Stand p l e R s m args below meth c T locs cells slots) (hx : p.tables.exec = Jvm.exec) {x y : Int64} (hd : decode c.code pc = .ok (.ladd, 1))  (hp : pc + 1 = pc')
    (k : OGoes p e s below Q n0 C N T (mkF m pc' Ls (.long (x + y) :: st))) : OGoes p e s below Q n0 C N T (mkF m pc Ls (.long y :: .long x :: st)) := by
  subst hp; exact k.go fun _ q => XT.ladd X.here hx rfl hd rfl q
theorem g_lsub (X : Stand p l e R s m args below meth c T locs cells slots) (hx : p.tables.exec = Jvm.exec) {x y : Int64} (hd : decode c.code pc = .ok (.lsub, 1))  (hp : pc + 1 = pc')
    (k : OGoes p e s below Q n0 C N T (mkF m pc' Ls (.long (x - y) :: st))) : OGoes p e s below Q n0 C N T (mkF m pc Ls (.long y :: .long x :: st)) := by
  subst hp; exact k.go fun _ q => XT.lsub X.here hx rfl hd rfl q
theorem g_lmul (X : Stand p l e R s m args below meth c T locs cells slots) (hx : p.tables.exec = Jvm.exec) {x y : Int64} (hd : decode c.code pc = .ok (.lmul, 1))  (hp : pc + 1 = pc')
    (k : OGoes p e s below Q n0 C N T (mkF m pc' Ls (.long (x * y) :: st))) : OGoes p e s below Q n0 C N T (mkF m pc Ls (.long y :: .long x :: st)) := by
  subst hp; exact k.go fun _ q => XT.lmul X.here hx rfl hd rfl q
theorem g_land (X : Stand p l e R s m args below meth c T locs cells slots) (hx : p.tables.exec = Jvm.exec) {x y : Int64} (hd : decode c.code pc = .ok (.land, 1))  (hp : pc + 1 = pc')
    (k : OGoes p e s below Q n0 C N T (mkF m pc' Ls (.long (x &&& y) :: st))) : OGoes p e s below Q n0 C N T (mkF m pc Ls (.long y :: .long x :: st)) := by
  subst hp; exact k.go fun _ q => XT.land X.here hx rfl hd rfl q
theorem g_lor (X : Stand p l e R s m args below meth c T locs cells slots) (hx : p.tables.exec = Jvm.exec) {x y : Int64} (hd : decode c.code pc = .ok (.lor, 1))  (hp : pc + 1 = pc')
    (k : OGoes p e s below Q n0 C N T (mkF m pc' Ls (.long (x ||| y) :: st))) : OGoes p e s below Q n0 C N T (mkF m pc Ls (.long y :: .long x :: st)) := by
  subst hp; exact k.go fun _ q => XT.lor X.here hx rfl hd rfl q
theorem g_lxor (X : Stand p l e R s m args below meth c T locs cells slots) (hx : p.tables.exec = Jvm.exec) {x y : Int64} (hd : decode c.code pc = .ok (.lxor, 1))  (hp : pc + 1 = pc')
    (k : OGoes p e s below Q n0 C N T (mkF m pc' Ls (.long (x ^^^ y) :: st))) : OGoes p e s below Q n0 C N T (mkF m pc Ls (.long y :: .long x :: st)) := by
  subst hp; exact k.go fun _ q => XT.lxor X.here hx rfl hd rfl q
theorem g_lshl (X : Stand p l e R s m args below meth c T locs cells slots) (hx : p.tables.exec = Jvm.exec) {x : Int64} {y : Int32} (hd : decode c.code pc = .ok (.lshl, 1))  (hp : pc + 1 = pc')
    (k : OGoes p e s below Q n0 C N T (mkF m pc' Ls (.long (x <<< (y.toInt64 &&& 63)) :: st))) : OGoes p e s below Q n0 C N T (mkF m pc Ls (.int y :: .long x :: st)) := by
  subst hp; exact k.go fun _ q => XT.lshl X.here hx rfl hd rfl q
theorem g_lshr (X : Stand p l e R s m args below meth c T locs cells slots) (hx : p.tables.exec = Jvm.exec) {x : Int64} {y : Int32} (hd : decode c.code pc = .ok (.lshr, 1))  (hp : pc + 1 = pc')
    (k : OGoes p e s below Q n0 C N T (mkF m pc' Ls (.long (x >>> (y.toInt64 &&& 63)) :: st))) : OGoes p e s below Q n0 C N T (mkF m pc Ls (.int y :: .long x :: st)) := by
  subst hp; exact k.go fun _ q => XT.lshr X.here hx rfl hd rfl q
theorem g_lushr (X : Stand p l e R s m args below meth c T locs cells slots) (hx : p.tables.exec = Jvm.exec) {x : Int64} {y : Int32} (hd : decode c.code pc = .ok (.lushr, 1))  (hp : pc + 1 = pc')
    (k : OGoes p e s below Q n0 C N T (mkF m pc' Ls (.long (XT.ushrL x y) :: st))) : OGoes p e s below Q n0 C N T (mkF m pc Ls (.int y :: .long x :: st)) := by
  subst hp; exact k.go fun _ q => XT.lushr X.here hx rfl hd rfl q
theorem g_ldiv (X : Stand p l e R s m args below meth c T locs cells slots) (hx : p.tables.exec = Jvm.exec) {x y : Int64} (hd : decode c.code pc = .ok (.ldiv, 1)) (hy : y ≠ 0) (hp : pc + 1 = pc')
    (k : OGoes p e s below Q n0 C N T (mkF m pc' Ls (.long (x / y) :: st))) : OGoes p e s below Q n0 C N T (mkF m pc Ls (.long y :: .long x :: st)) := by
  subst hp; exact k.go fun _ q => XT.ldiv X.here hx rfl hd rfl hy q
theorem g_lrem (X : Stand p l e R s m args below meth c T locs cells slots) (hx : p.tables.exec = Jvm.exec) {x y : Int64} (hd : decode c.code pc = .ok (.lrem, 1)) (hy : y ≠ 0) (hp : pc + 1 = pc')
    (k : OGoes p e s below Q n0 C N T (mkF m pc' Ls (.long (x - (x / y) * y) :: st))) : OGoes p e s below Q n0 C N T (mkF m pc Ls (.long y :: .long x :: st)) := by
  subst hp; exact k.go fun _ q => XT.lrem X.here hx rfl hd rfl hy q
theorem g_lneg (X : Stand p l e R s m args below meth c T locs cells slots) (hx : p.tables.exec = Jvm.exec) {x : Int64} (hd : decode c.code pc = .ok (.lneg, 1))  (hp : pc + 1 = pc')
    (k : OGoes p e s below Q n0 C N T (mkF m pc' Ls (.long (-x) :: st))) : OGoes p e s below Q n0 C N T (mkF m pc Ls (.long x :: st)) := by
  subst hp; exact k.go fun _ q => XT.lneg X.here hx rfl hd rfl q
theorem g_i2l (X : Stand p l e R s m args below meth c T locs cells slots) (hx : p.tables.exec = Jvm.exec) {x : Int32} (hd : decode c.code pc = .ok (.i2l, 1))  (hp : pc + 1 = pc')
    (k : OGoes p e s below Q n0 C N T (mkF m pc' Ls (.long x.toInt64 :: st))) : OGoes p e s below Q n0 C N T (mkF m pc Ls (.int x :: st)) := by
  subst hp; exact k.go fun _ q => XT.i2l X.here hx rfl hd rfl q
theorem g_l2i (X : Stand p l e R s m args below meth c T locs cells slots) (hx : p.tables.exec = Jvm.exec) {x : Int64} (hd : decode c.code pc = .ok (.l2i, 1))  (hp : pc + 1 = pc')
    (k : OGoes p e s below Q n0 C N T (mkF m pc' Ls (.int x.toInt32 :: st))) : OGoes p e s below Q n0 C N T (mkF m pc Ls (.long x :: st)) := by
  subst hp; exact k.go fun _ q => XT.l2i X.here hx rfl hd rfl q
theorem g_i2b (X : Stand p l e R s m args below meth c T locs cells slots) (hx : p.tables.exec = Jvm.exec) {x : Int32} (hd : decode c.code pc = .ok (.i2b, 1))  (hp : pc + 1 = pc')
    (k : OGoes p e s below Q n0 C N T (mkF m pc' Ls (.int x.toInt8.toInt32 :: st))) : OGoes p e s below Q n0 C N T (mkF m pc Ls (.int x :: st)) := by
  subst hp; exact k.go fun _ q => XT.i2b X.here hx rfl hd rfl q
theorem g_dup (X : Stand p l e R s m args below meth c T locs cells slots) (hx : p.tables.exec = Jvm.exec) {v : Value} (hd : decode c.code pc = .ok (.dup, 1)) (hc : v.category = 1) (hp : pc + 1 = pc')
    (k : OGoes p e s below Q n0 C N T (mkF m pc' Ls (v :: v :: st))) : OGoes p e s below Q n0 C N T (mkF m pc Ls (v :: st)) := by
  subst hp; exact k.go fun _ q => XS.dup X.here hx rfl hd rfl hc q
theorem g_pop (X : Stand p l e R s m args below meth c T locs cells slots) (hx : p.tables.exec = Jvm.exec) {v : Value} (hd : decode c.code pc = .ok (.pop, 1)) (hc : v.category = 1) (hp : pc + 1 = pc')
    (k : OGoes p e s below Q n0 C N T (mkF m pc' Ls (st))) : OGoes p e s below Q n0 C N T (mkF m pc Ls (v :: st)) := by
  subst hp; exact k.go fun _ q => XT.pop X.here hx rfl hd rfl hc q
theorem g_dupX1 (X : Stand p l e R s m args below meth c T locs cells slots) (hx : p.tables.exec = Jvm.exec) {v w : Value} (hd : decode c.code pc = .ok (.dup_x1, 1)) (hc : v.category = 1) (hc' : w.category = 1) (hp : pc + 1 = pc')
    (k : OGoes p e s below Q n0 C N T (mkF m pc' Ls (v :: w :: v :: st))) : OGoes p e s below Q n0 C N T (mkF m pc Ls (v :: w :: st)) := by
  subst hp; exact k.go fun _ q => XT.dupX1 X.here hx rfl hd rfl hc hc' q
theorem g_dup2 (X : Stand p l e R s m args below meth c T locs cells slots) (hx : p.tables.exec = Jvm.exec) {v w : Value} (hd : decode c.code pc = .ok (.dup2, 1)) (hc : v.category = 1) (hc' : w.category = 1) (hp : pc + 1 = pc')
    (k : OGoes p e s below Q n0 C N T (mkF m pc' Ls (v :: w :: v :: w :: st))) : OGoes p e s below Q n0 C N T (mkF m pc Ls (v :: w :: st)) := by
  subst hp; exact k.go fun _ q => XT.dup2 X.here hx rfl hd rfl hc hc' q
theorem g_dup2L (X : Stand p l e R s m args below meth c T locs cells slots) (hx : p.tables.exec = Jvm.exec) {x : Int64} (hd : decode c.code pc = .ok (.dup2, 1))  (hp : pc + 1 = pc')
    (k : OGoes p e s below Q n0 C N T (mkF m pc' Ls (.long x :: .long x :: st))) : OGoes p e s below Q n0 C N T (mkF m pc Ls (.long x :: st)) := by
  subst hp; exact k.go fun _ q => XT.dup2L X.here hx rfl hd rfl q
theorem g_goto (X : Stand p l e R s m args below meth c T locs cells slots) (hx : p.tables.exec = Jvm.exec) {o : Int} (hd : decode c.code pc = .ok (.goto o, 3)) (ho : 0 ≤ (pc : Int) + o) (hp : ((pc : Int) + o).toNat = pc')
    (k : OGoes p e s below Q n0 C N T (mkF m pc' Ls st)) : OGoes p e s below Q n0 C N T (mkF m pc Ls st) := k.go fun _ q => XS.goto X.here hx rfl rfl hd ho hp q
theorem g_ii_eq (X : Stand p l e R s m args below meth c T locs cells slots) (hx : p.tables.exec = Jvm.exec) {o : Int} {x y : Int32} {a b : Int} (ha : x.toInt = a) (hb : y.toInt = b) (hd : decode c.code pc = .ok (.if_icmp .eq o, 3)) (ho : 0 ≤ (pc : Int) + o) (hp : ((pc : Int) + o).toNat = pc') {pc2 : Nat} (hp2 : pc + 3 = pc2)
    (kt : a = b → OGoes p e s below Q n0 C N T (mkF m pc' Ls st)) (kf : ¬ a = b → OGoes p e s below Q n0 C N T (mkF m pc2 Ls st)) : OGoes p e s below Q n0 C N T (mkF m pc Ls (.int y :: .int x :: st)) := by
  subst ha hb hp2
  have hw : x = y ↔ x.toInt = y.toInt := Int32.toInt_inj.symm
  by_cases hq : x = y
  · exact (kt (hw.mp hq)).go fun _ q => XS.icmpYes X.here hx rfl rfl hd rfl (XT.ii_eq_t hq) ho hp q
  · exact (kf fun z => hq (hw.mpr z)).go fun _ q => XS.icmpNo X.here hx rfl hd rfl (XT.ii_eq_f hq) q
theorem g_ll_eq (X : Stand p l e R s m args below meth c T locs cells slots) (hx : p.tables.exec = Jvm.exec) {o : Int} {x y : Int64} {a b : Int} (ha : x.toInt = a) (hb : y.toInt = b) (hd1 : decode c.code pc = .ok (.lcmp, 1)) {pc1 : Nat} (hp1 : pc + 1 = pc1) (hd : decode c.code pc1 = .ok (.ifCond .eq o, 3)) (ho : 0 ≤ (pc1 : Int) + o) (hp : ((pc1 : Int) + o).toNat = pc') {pc2 : Nat} (hp2 : pc1 + 3 = pc2)
    (kt : a = b → OGoes p e s below Q n0 C N T (mkF m pc' Ls st)) (kf : ¬ a = b → OGoes p e s below Q n0 C N T (mkF m pc2 Ls st)) : OGoes p e s below Q n0 C N T (mkF m pc Ls (.long y :: .long x :: st)) := by
  subst ha hb hp1 hp2
  refine OGoes.go (g' := mkF m (pc + 1) Ls (.int (XT.cmpL x y) :: st)) (fun _ q => XT.lcmp X.here hx rfl hd1 rfl q) ?_
  have hw : x = y ↔ x.toInt = y.toInt := Int64.toInt_inj.symm
  by_cases hq : x = y
  · exact (kt (hw.mp hq)).go fun _ q => XS.ifYes X.here hx rfl rfl hd rfl (XT.ll_eq_t hq) ho hp q
  · exact (kf fun z => hq (hw.mpr z)).go fun _ q => XS.ifNo X.here hx rfl hd rfl (XT.ll_eq_f hq) q
theorem g_i0_eq (X : Stand p l e R s m args below meth c T locs cells slots) (hx : p.tables.exec = Jvm.exec) {o : Int} {x : Int32} {a : Int} (ha : x.toInt = a) (hd : decode c.code pc = .ok (.ifCond .eq o, 3)) (ho : 0 ≤ (pc : Int) + o) (hp : ((pc : Int) + o).toNat = pc') {pc2 : Nat} (hp2 : pc + 3 = pc2)
    (kt : a = 0 → OGoes p e s below Q n0 C N T (mkF m pc' Ls st)) (kf : ¬ a = 0 → OGoes p e s below Q n0 C N T (mkF m pc2 Ls st)) : OGoes p e s below Q n0 C N T (mkF m pc Ls (.int x :: st)) := by
  subst ha hp2
  have hw : x = 0 ↔ x.toInt = 0 := ⟨fun z => by rw [z]; rfl, fun z => Int32.toInt_inj.mp (z.trans rfl)⟩
  by_cases hq : x = 0
  · exact (kt (hw.mp hq)).go fun _ q => XS.ifYes X.here hx rfl rfl hd rfl (XT.i0_eq_t hq) ho hp q
  · exact (kf fun z => hq (hw.mpr z)).go fun _ q => XS.ifNo X.here hx rfl hd rfl (XT.i0_eq_f hq) q
theorem g_ii_ne (X : Stand p l e R s m args below meth c T locs cells slots) (hx : p.tables.exec = Jvm.exec) {o : Int} {x y : Int32} {a b : Int} (ha : x.toInt = a) (hb : y.toInt = b) (hd : decode c.code pc = .ok (.if_icmp .ne o, 3)) (ho : 0 ≤ (pc : Int) + o) (hp : ((pc : Int) + o).toNat = pc') {pc2 : Nat} (hp2 : pc + 3 = pc2)
    (kt : ¬ a = b → OGoes p e s below Q n0 C N T (mkF m pc' Ls st)) (kf : a = b → OGoes p e s below Q n0 C N T (mkF m pc2 Ls st)) : OGoes p e s below Q n0 C N T (mkF m pc Ls (.int y :: .int x :: st)) := by
  subst ha hb hp2
  have hw : x = y ↔ x.toInt = y.toInt := Int32.toInt_inj.symm
  by_cases hq : x = y
  · exact (kf (hw.mp hq)).go fun _ q => XS.icmpNo X.here hx rfl hd rfl (XT.ii_ne_f hq) q
  · exact (kt fun z => hq (hw.mpr z)).go fun _ q => XS.icmpYes X.here hx rfl rfl hd rfl (XT.ii_ne_t hq) ho hp q
theorem g_ll_ne (X : Stand p l e R s m args below meth c T locs cells slots) (hx : p.tables.exec = Jvm.exec) {o : Int} {x y : Int64} {a b : Int} (ha : x.toInt = a) (hb : y.toInt = b) (hd1 : decode c.code pc = .ok (.lcmp, 1)) {pc1 : Nat} (hp1 : pc + 1 = pc1) (hd : decode c.code pc1 = .ok (.ifCond .ne o, 3)) (ho : 0 ≤ (pc1 : Int) + o) (hp : ((pc1 : Int) + o).toNat = pc') {pc2 : Nat} (hp2 : pc1 + 3 = pc2)
    (kt : ¬ a = b → OGoes p e s below Q n0 C N T (mkF m pc' Ls st)) (kf : a = b → OGoes p e s below Q n0 C N T (mkF m pc2 Ls st)) : OGoes p e s below Q n0 C N T (mkF m pc Ls (.long y :: .long x :: st)) := by
  subst ha hb hp1 hp2
  refine OGoes.go (g' := mkF m (pc + 1) Ls (.int (XT.cmpL x y) :: st)) (fun _ q => XT.lcmp X.here hx rfl hd1 rfl q) ?_
  have hw : x = y ↔ x.toInt = y.toInt := Int64.toInt_inj.symm
  by_cases hq : x = y
  · exact (kf (hw.mp hq)).go fun _ q => XS.ifNo X.here hx rfl hd rfl (XT.ll_ne_f hq) q
  · exact (kt fun z => hq (hw.mpr z)).go fun _ q => XS.ifYes X.here hx rfl rfl hd rfl (XT.ll_ne_t hq) ho hp q
theorem g_i0_ne (X : Stand p l e R s m args below meth c T locs cells slots) (hx : p.tables.exec = Jvm.exec) {o : Int} {x : Int32} {a : Int} (ha : x.toInt = a) (hd : decode c.code pc = .ok (.ifCond .ne o, 3)) (ho : 0 ≤ (pc : Int) + o) (hp : ((pc : Int) + o).toNat = pc') {pc2 : Nat} (hp2 : pc + 3 = pc2)
    (kt : ¬ a = 0 → OGoes p e s below Q n0 C N T (mkF m pc' Ls st)) (kf : a = 0 → OGoes p e s below Q n0 C N T (mkF m pc2 Ls st)) : OGoes p e s below Q n0 C N T (mkF m pc Ls (.int x :: st)) := by
  subst ha hp2
  have hw : x = 0 ↔ x.toInt = 0 := ⟨fun z => by rw [z]; rfl, fun z => Int32.toInt_inj.mp (z.trans rfl)⟩
  by_cases hq : x = 0
  · exact (kf (hw.mp hq)).go fun _ q => XS.ifNo X.here hx rfl hd rfl (XT.i0_ne_f hq) q
  · exact (kt fun z => hq (hw.mpr z)).go fun _ q => XS.ifYes X.here hx rfl rfl hd rfl (XT.i0_ne_t hq) ho hp q
theorem g_ii_lt (X : Stand p l e R s m args below meth c T locs cells slots) (hx : p.tables.exec = Jvm.exec) {o : Int} {x y : Int32} {a b : Int} (ha : x.toInt = a) (hb : y.toInt = b) (hd : decode c.code pc = .ok (.if_icmp .lt o, 3)) (ho : 0 ≤ (pc : Int) + o) (hp : ((pc : Int) + o).toNat = pc') {pc2 : Nat} (hp2 : pc + 3 = pc2)
    (kt : a < b → OGoes p e s below Q n0 C N T (mkF m pc' Ls st)) (kf : ¬ a < b → OGoes p e s below Q n0 C N T (mkF m pc2 Ls st)) : OGoes p e s below Q n0 C N T (mkF m pc Ls (.int y :: .int x :: st)) := by
  subst ha hb hp2
  have hw : x < y ↔ x.toInt < y.toInt := Int32.lt_iff_toInt_lt
  by_cases hq : x < y
  · exact (kt (hw.mp hq)).go fun _ q => XS.icmpYes X.here hx rfl rfl hd rfl (XT.ii_lt_t hq) ho hp q
  · exact (kf fun z => hq (hw.mpr z)).go fun _ q => XS.icmpNo X.here hx rfl hd rfl (XT.ii_lt_f hq) q
theorem g_ll_lt (X : Stand p l e R s m args below meth c T locs cells slots) (hx : p.tables.exec = Jvm.exec) {o : Int} {x y : Int64} {a b : Int} (ha : x.toInt = a) (hb : y.toInt = b) (hd1 : decode c.code pc = .ok (.lcmp, 1)) {pc1 : Nat} (hp1 : pc + 1 = pc1) (hd : decode c.code pc1 = .ok (.ifCond .lt o, 3)) (ho : 0 ≤ (pc1 : Int) + o) (hp : ((pc1 : Int) + o).toNat = pc') {pc2 : Nat} (hp2 : pc1 + 3 = pc2)
    (kt : a < b → OGoes p e s below Q n0 C N T (mkF m pc' Ls st)) (kf : ¬ a < b → OGoes p e s below Q n0 C N T (mkF m pc2 Ls st)) : OGoes p e s below Q n0 C N T (mkF m pc Ls (.long y :: .long x :: st)) := by
  subst ha hb hp1 hp2
  refine OGoes.go (g' := mkF m (pc + 1) Ls (.int (XT.cmpL x y) :: st)) (fun _ q => XT.lcmp X.here hx rfl hd1 rfl q) ?_
  have hw : x < y ↔ x.toInt < y.toInt := Int64.lt_iff_toInt_lt
  by_cases hq : x < y
  · exact (kt (hw.mp hq)).go fun _ q => XS.ifYes X.here hx rfl rfl hd rfl (XT.ll_lt_t hq) ho hp q
  · exact (kf fun z => hq (hw.mpr z)).go fun _ q => XS.ifNo X.here hx rfl hd rfl (XT.ll_lt_f hq) q
theorem g_i0_lt (X : Stand p l e R s m args below meth c T locs cells slots) (hx : p.tables.exec = Jvm.exec) {o : Int} {x : Int32} {a : Int} (ha : x.toInt = a) (hd : decode c.code pc = .ok (.ifCond .lt o, 3)) (ho : 0 ≤ (pc : Int) + o) (hp : ((pc : Int) + o).toNat = pc') {pc2 : Nat} (hp2 : pc + 3 = pc2)
    (kt : a < 0 → OGoes p e s below Q n0 C N T (mkF m pc' Ls st)) (kf : ¬ a < 0 → OGoes p e s below Q n0 C N T (mkF m pc2 Ls st)) : OGoes p e s below Q n0 C N T (mkF m pc Ls (.int x :: st)) := by
  subst ha hp2
  have hw : x < 0 ↔ x.toInt < 0 := Int32.lt_iff_toInt_lt
  by_cases hq : x < 0
  · exact (kt (hw.mp hq)).go fun _ q => XS.ifYes X.here hx rfl rfl hd rfl (XT.i0_lt_t hq) ho hp q
  · exact (kf fun z => hq (hw.mpr z)).go fun _ q => XS.ifNo X.here hx rfl hd rfl (XT.i0_lt_f hq) q
theorem g_ii_ge (X : Stand p l e R s m args below meth c T locs cells slots) (hx : p.tables.exec = Jvm.exec) {o : Int} {x y : Int32} {a b : Int} (ha : x.toInt = a) (hb : y.toInt = b) (hd : decode c.code pc = .ok (.if_icmp .ge o, 3)) (ho : 0 ≤ (pc : Int) + o) (hp : ((pc : Int) + o).toNat = pc') {pc2 : Nat} (hp2 : pc + 3 = pc2)
    (kt : ¬ a < b → OGoes p e s below Q n0 C N T (mkF m pc' Ls st)) (kf : a < b → OGoes p e s below Q n0 C N T (mkF m pc2 Ls st)) : OGoes p e s below Q n0 C N T (mkF m pc Ls (.int y :: .int x :: st)) := by
  subst ha hb hp2
  have hw : x < y ↔ x.toInt < y.toInt := Int32.lt_iff_toInt_lt
  by_cases hq : x < y
  · exact (kf (hw.mp hq)).go fun _ q => XS.icmpNo X.here hx rfl hd rfl (XT.ii_ge_f hq) q
  · exact (kt fun z => hq (hw.mpr z)).go fun _ q => XS.icmpYes X.here hx rfl rfl hd rfl (XT.ii_ge_t hq) ho hp q
theorem g_ll_ge (X : Stand p l e R s m args below meth c T locs cells slots) (hx : p.tables.exec = Jvm.exec) {o : Int} {x y : Int64} {a b : Int} (ha : x.toInt = a) (hb : y.toInt = b) (hd1 : decode c.code pc = .ok (.lcmp, 1)) {pc1 : Nat} (hp1 : pc + 1 = pc1) (hd : decode c.code pc1 = .ok (.ifCond .ge o, 3)) (ho : 0 ≤ (pc1 : Int) + o) (hp : ((pc1 : Int) + o).toNat = pc') {pc2 : Nat} (hp2 : pc1 + 3 = pc2)
    (kt : ¬ a < b → OGoes p e s below Q n0 C N T (mkF m pc' Ls st)) (kf : a < b → OGoes p e s below Q n0 C N T (mkF m pc2 Ls st)) : OGoes p e s below Q n0 C N T (mkF m pc Ls (.long y :: .long x :: st)) := by
  subst ha hb hp1 hp2
  refine OGoes.go (g' := mkF m (pc + 1) Ls (.int (XT.cmpL x y) :: st)) (fun _ q => XT.lcmp X.here hx rfl hd1 rfl q) ?_
  have hw : x < y ↔ x.toInt < y.toInt := Int64.lt_iff_toInt_lt
  by_cases hq : x < y
  · exact (kf (hw.mp hq)).go fun _ q => XS.ifNo X.here hx rfl hd rfl (XT.ll_ge_f hq) q
  · exact (kt fun z => hq (hw.mpr z)).go fun _ q => XS.ifYes X.here hx rfl rfl hd rfl (XT.ll_ge_t hq) ho hp q
theorem g_i0_ge (X : Stand p l e R s m args below meth c T locs cells slots) (hx : p.tables.exec = Jvm.exec) {o : Int} {x : Int32} {a : Int} (ha : x.toInt = a) (hd : decode c.code pc = .ok (.ifCond .ge o, 3)) (ho : 0 ≤ (pc : Int) + o) (hp : ((pc : Int) + o).toNat = pc') {pc2 : Nat} (hp2 : pc + 3 = pc2)
    (kt : ¬ a < 0 → OGoes p e s below Q n0 C N T (mkF m pc' Ls st)) (kf : a < 0 → OGoes p e s below Q n0 C N T (mkF m pc2 Ls st)) : OGoes p e s below Q n0 C N T (mkF m pc Ls (.int x :: st)) := by
  subst ha hp2
  have hw : x < 0 ↔ x.toInt < 0 := Int32.lt_iff_toInt_lt
  by_cases hq : x < 0
  · exact (kf (hw.mp hq)).go fun _ q => XS.ifNo X.here hx rfl hd rfl (XT.i0_ge_f hq) q
  · exact (kt fun z => hq (hw.mpr z)).go fun _ q => XS.ifYes X.here hx rfl rfl hd rfl (XT.i0_ge_t hq) ho hp q
theorem g_ii_gt (X : Stand p l e R s m args below meth c T locs cells slots) (hx : p.tables.exec = Jvm.exec) {o : Int} {x y : Int32} {a b : Int} (ha : x.toInt = a) (hb : y.toInt = b) (hd : decode c.code pc = .ok (.if_icmp .gt o, 3)) (ho : 0 ≤ (pc : Int) + o) (hp : ((pc : Int) + o).toNat = pc') {pc2 : Nat} (hp2 : pc + 3 = pc2)
    (kt : b < a → OGoes p e s below Q n0 C N T (mkF m pc' Ls st)) (kf : ¬ b < a → OGoes p e s below Q n0 C N T (mkF m pc2 Ls st)) : OGoes p e s below Q n0 C N T (mkF m pc Ls (.int y :: .int x :: st)) := by
  subst ha hb hp2
  have hw : y < x ↔ y.toInt < x.toInt := Int32.lt_iff_toInt_lt
  by_cases hq : y < x
  · exact (kt (hw.mp hq)).go fun _ q => XS.icmpYes X.here hx rfl rfl hd rfl (XT.ii_gt_t hq) ho hp q
  · exact (kf fun z => hq (hw.mpr z)).go fun _ q => XS.icmpNo X.here hx rfl hd rfl (XT.ii_gt_f hq) q
theorem g_ll_gt (X : Stand p l e R s m args below meth c T locs cells slots) (hx : p.tables.exec = Jvm.exec) {o : Int} {x y : Int64} {a b : Int} (ha : x.toInt = a) (hb : y.toInt = b) (hd1 : decode c.code pc = .ok (.lcmp, 1)) {pc1 : Nat} (hp1 : pc + 1 = pc1) (hd : decode c.code pc1 = .ok (.ifCond .gt o, 3)) (ho : 0 ≤ (pc1 : Int) + o) (hp : ((pc1 : Int) + o).toNat = pc') {pc2 : Nat} (hp2 : pc1 + 3 = pc2)
    (kt : b < a → OGoes p e s below Q n0 C N T (mkF m pc' Ls st)) (kf : ¬ b < a → OGoes p e s below Q n0 C N T (mkF m pc2 Ls st)) : OGoes p e s below Q n0 C N T (mkF m pc Ls (.long y :: .long x :: st)) := by
  subst ha hb hp1 hp2
  refine OGoes.go (g' := mkF m (pc + 1) Ls (.int (XT.cmpL x y) :: st)) (fun _ q => XT.lcmp X.here hx rfl hd1 rfl q) ?_
  have hw : y < x ↔ y.toInt < x.toInt := Int64.lt_iff_toInt_lt
  by_cases hq : y < x
  · exact (kt (hw.mp hq)).go fun _ q => XS.ifYes X.here hx rfl rfl hd rfl (XT.ll_gt_t hq) ho hp q
  · exact (kf fun z => hq (hw.mpr z)).go fun _ q => XS.ifNo X.here hx rfl hd rfl (XT.ll_gt_f hq) q
theorem g_i0_gt (X : Stand p l e R s m args below meth c T locs cells slots) (hx : p.tables.exec = Jvm.exec) {o : Int} {x : Int32} {a : Int} (ha : x.toInt = a) (hd : decode c.code pc = .ok (.ifCond .gt o, 3)) (ho : 0 ≤ (pc : Int) + o) (hp : ((pc : Int) + o).toNat = pc') {pc2 : Nat} (hp2 : pc + 3 = pc2)
    (kt : 0 < a → OGoes p e s below Q n0 C N T (mkF m pc' Ls st)) (kf : ¬ 0 < a → OGoes p e s below Q n0 C N T (mkF m pc2 Ls st)) : OGoes p e s below Q n0 C N T (mkF m pc Ls (.int x :: st)) := by
  subst ha hp2
  have hw : 0 < x ↔ 0 < x.toInt := Int32.lt_iff_toInt_lt
  by_cases hq : 0 < x
  · exact (kt (hw.mp hq)).go fun _ q => XS.ifYes X.here hx rfl rfl hd rfl (XT.i0_gt_t hq) ho hp q
  · exact (kf fun z => hq (hw.mpr z)).go fun _ q => XS.ifNo X.here hx rfl hd rfl (XT.i0_gt_f hq) q
theorem g_ii_le (X : Stand p l e R s m args below meth c T locs cells slots) (hx : p.tables.exec = Jvm.exec) {o : Int} {x y : Int32} {a b : Int} (ha : x.toInt = a) (hb : y.toInt = b) (hd : decode c.code pc = .ok (.if_icmp .le o, 3)) (ho : 0 ≤ (pc : Int) + o) (hp : ((pc : Int) + o).toNat = pc') {pc2 : Nat} (hp2 : pc + 3 = pc2)
    (kt : ¬ b < a → OGoes p e s below Q n0 C N T (mkF m pc' Ls st)) (kf : b < a → OGoes p e s below Q n0 C N T (mkF m pc2 Ls st)) : OGoes p e s below Q n0 C N T (mkF m pc Ls (.int y :: .int x :: st)) := by
  subst ha hb hp2
  have hw : y < x ↔ y.toInt < x.toInt := Int32.lt_iff_toInt_lt
  by_cases hq : y < x
  · exact (kf (hw.mp hq)).go fun _ q => XS.icmpNo X.here hx rfl hd rfl (XT.ii_le_f hq) q
  · exact (kt fun z => hq (hw.mpr z)).go fun _ q => XS.icmpYes X.here hx rfl rfl hd rfl (XT.ii_le_t hq) ho hp q
theorem g_ll_le (X : Stand p l e R s m args below meth c T locs cells slots) (hx : p.tables.exec = Jvm.exec) {o : Int} {x y : Int64} {a b : Int} (ha : x.toInt = a) (hb : y.toInt = b) (hd1 : decode c.code pc = .ok (.lcmp, 1)) {pc1 : Nat} (hp1 : pc + 1 = pc1) (hd : decode c.code pc1 = .ok (.ifCond .le o, 3)) (ho : 0 ≤ (pc1 : Int) + o) (hp : ((pc1 : Int) + o).toNat = pc') {pc2 : Nat} (hp2 : pc1 + 3 = pc2)
    (kt : ¬ b < a → OGoes p e s below Q n0 C N T (mkF m pc' Ls st)) (kf : b < a → OGoes p e s below Q n0 C N T (mkF m pc2 Ls st)) : OGoes p e s below Q n0 C N T (mkF m pc Ls (.long y :: .long x :: st)) := by
  subst ha hb hp1 hp2
  refine OGoes.go (g' := mkF m (pc + 1) Ls (.int (XT.cmpL x y) :: st)) (fun _ q => XT.lcmp X.here hx rfl hd1 rfl q) ?_
  have hw : y < x ↔ y.toInt < x.toInt := Int64.lt_iff_toInt_lt
  by_cases hq : y < x
  · exact (kf (hw.mp hq)).go fun _ q => XS.ifNo X.here hx rfl hd rfl (XT.ll_le_f hq) q
  · exact (kt fun z => hq (hw.mpr z)).go fun _ q => XS.ifYes X.here hx rfl rfl hd rfl (XT.ll_le_t hq) ho hp q
theorem g_i0_le (X : Stand p l e R s m args below meth c T locs cells slots) (hx : p.tables.exec = Jvm.exec) {o : Int} {x : Int32} {a : Int} (ha : x.toInt = a) (hd : decode c.code pc = .ok (.ifCond .le o, 3)) (ho : 0 ≤ (pc : Int) + o) (hp : ((pc : Int) + o).toNat = pc') {pc2 : Nat} (hp2 : pc + 3 = pc2)
    (kt : ¬ 0 < a → OGoes p e s below Q n0 C N T (mkF m pc' Ls st)) (kf : 0 < a → OGoes p e s below Q n0 C N T (mkF m pc2 Ls st)) : OGoes p e s below Q n0 C N T (mkF m pc Ls (.int x :: st)) := by
  subst ha hp2
  have hw : 0 < x ↔ 0 < x.toInt := Int32.lt_iff_toInt_lt
  by_cases hq : 0 < x
  · exact (kf (hw.mp hq)).go fun _ q => XS.ifNo X.here hx rfl hd rfl (XT.i0_le_f hq) q
  · exact (kt fun z => hq (hw.mpr z)).go fun _ q => XS.ifYes X.here hx rfl rfl hd rfl (XT.i0_le_t hq) ho hp q
theorem g_ifnullYes (X : Stand p l e R s m args below meth c T locs cells slots) (hx : p.tables.exec = Jvm.exec) {o : Int} (hd : decode c.code pc = .ok (.ifnull o, 3)) (ho : 0 ≤ (pc : Int) + o) (hp : ((pc : Int) + o).toNat = pc')
    (k : OGoes p e s below Q n0 C N T (mkF m pc' Ls st)) : OGoes p e s below Q n0 C N T (mkF m pc Ls (.null :: st)) := k.go fun _ q => XS.ifnullYes X.here hx rfl rfl hd rfl ho hp q
theorem g_ifnullNo (X : Stand p l e R s m args below meth c T locs cells slots) (hx : p.tables.exec = Jvm.exec) {o : Int} {b : Addr} (hd : decode c.code pc = .ok (.ifnull o, 3)) (hp : pc + 3 = pc')
    (k : OGoes p e s below Q n0 C N T (mkF m pc' Ls st)) : OGoes p e s below Q n0 C N T (mkF m pc Ls (.ref b :: st)) := by
  subst hp; exact k.go fun _ q => XS.ifnullNo X.here hx rfl hd rfl q
theorem g_ifnonnullYes (X : Stand p l e R s m args below meth c T locs cells slots) (hx : p.tables.exec = Jvm.exec) {o : Int} {b : Addr} (hd : decode c.code pc = .ok (.ifnonnull o, 3)) (ho : 0 ≤ (pc : Int) + o) (hp : ((pc : Int) + o).toNat = pc')
    (k : OGoes p e s below Q n0 C N T (mkF m pc' Ls st)) : OGoes p e s below Q n0 C N T (mkF m pc Ls (.ref b :: st)) := k.go fun _ q => XT.ifnonnullYes X.here hx rfl rfl hd rfl ho hp q
theorem IA.lt {h : Heap} {a n : Nat} {f : Nat → Int32} (F : IA Z h a n f) : a < h.size := by obtain ⟨_, c, A, -⟩ := F; exact A.lt
theorem IA.ext {h h' : Heap} {a n : Nat} {f : Nat → Int32} (F : IA Z h a n f) (E : Ext h h') : IA Z h' a n f := by obtain ⟨q, c, A, r⟩ := F; exact ⟨q, c, A.ext E, r⟩
theorem IA.keep {h h' : Heap} {a n : Nat} {f : Nat → Int32} {ws : List Addr} (F : IA Z h a n f) (K : Keep h h' ws) (q : a ∉ ws) : IA Z h' a n f := by obtain ⟨q', c, A, r⟩ := F; exact ⟨q', c, ⟨K.2.1 a c A.1 q, A.2⟩, r⟩
theorem IA.other {h h' : Heap} {a b n sl : Nat} {f : Nat → Int32} {v : Value} (F : IA Z h b n f) (W : Wr h h' a sl v) (q : b ≠ a) : IA Z h' b n f := by obtain ⟨q', c, A, r⟩ := F; exact ⟨q', c, A.other W q, r⟩
theorem IA.congr {h : Heap} {a n : Nat} {f f' : Nat → Int32} (F : IA Z h a n f) (q : ∀ i, i < n → f i = f' i) : IA Z h a n f' := by obtain ⟨q', c, A, r, s⟩ := F; exact ⟨q', c, A, r, fun i hi => by rw [← q i hi]; exact s i hi⟩
theorem g_iaload (X : Stand p l e R s m args below meth c T locs cells slots) (hx : p.tables.exec = Jvm.exec) (hZ : Z.Warmed39 s.vm) (eT : T.heap = h) {a n k : Nat} {f : Nat → Int32} {j : Int32} (F : IA Z h a n f) (hj : j.toInt = (k : Int)) (hk : k < n) (hd : decode c.code pc = .ok (.iaload, 1)) (hp : pc + 1 = pc')
    (kk : OGoes p e s below Q n0 C N T (mkF m pc' Ls (.int (f k) :: st))) : OGoes p e s below Q n0 C N T (mkF m pc Ls (.int j :: .ref a :: st)) := by
  subst hp; obtain ⟨-, cl, A, S, H⟩ := F
  exact kk.go fun t q => X.iaload hx (by rw [eT]; exact A.1) (State.isArrayOf_alike hZ.alike A.2.1) A.2.2 (by rw [S]; exact nin hj hk) (by rw [(nclamp hj).1]; exact H k hk) (g := mkF m pc Ls (.int j :: .ref a :: st)) rfl rfl hd t q
theorem g_lenIA (X : Stand p l e R s m args below meth c T locs cells slots) (hx : p.tables.exec = Jvm.exec) (hZ : Z.Warmed39 s.vm) (eT : T.heap = h) {a n : Nat} {f : Nat → Int32} {z : Int32} (F : IA Z h a n f) (hz : z.toInt = (n : Int)) (hd : decode c.code pc = .ok (.arraylength, 1)) (hp : pc + 1 = pc')
    (kk : OGoes p e s below Q n0 C N T (mkF m pc' Ls (.int z :: st))) : OGoes p e s below Q n0 C N T (mkF m pc Ls (.ref a :: st)) := by
  subst hp; obtain ⟨hn, cl, A, S, H⟩ := F
  have hzz : z = cl.slots.size.toInt32 := Int32.toInt_inj.mp (by rw [S, hz, len32 hn])
  subst hzz
  exact kk.go fun t q => X.arraylength hx (by rw [eT]; exact A.1) (State.isArrayOf_alike hZ.alike A.2.1) (g := mkF m pc Ls (.ref a :: st)) rfl rfl hd t q
theorem g_iastore (X : Stand p l e R s m args below meth c T locs cells slots) (hx : p.tables.exec = Jvm.exec) (hZ : Z.Warmed39 s.vm) (eT : T.heap = h) {a n k : Nat} {f : Nat → Int32} {j : Int32} {x : Int32} (F : IA Z h a n f) (hj : j.toInt = (k : Int)) (hk : k < n) (hN : Fr n0 locs) (ha : n0 ≤ a) (hd : decode c.code pc = .ok (.iastore, 1)) (hp : pc + 1 = pc')
    (kk : ∀ T' h' locs', Stand p l e R s m args below meth c T' locs' cells slots → T'.heap = h' → Wr h h' a k (.int x) → Fr n0 locs' → IA Z h' a n (oupd f k x) → OGoes p e s below Q n0 C N T' (mkF m pc' Ls st)) : OGoes p e s below Q n0 C N T (mkF m pc Ls (.int x :: .int j :: .ref a :: st)) := by
  subst hp; obtain ⟨hn, cl, A, S, H⟩ := F
  obtain ⟨T', h', X', e', W', st'⟩ := stI X hx hZ eT A (j := j) (x := x) (by rw [S]; exact nin hj hk) (g := mkF m pc Ls (.int x :: .int j :: .ref a :: st)) rfl rfl hd
  rw [(nclamp hj).1] at W' X'
  refine (kk T' h' _ X' e' W' (Fr.snoc X' hN ha) ⟨hn, _, A.same W', by rw [sz_set]; exact S, fun i hi => ?_⟩).go st'
  by_cases q : i = k
  · subst q; simp [Cell.setSlot, oupd, S, hi]
  · have := H i hi
    simp only [Cell.setSlot, oupd, q, if_false]
    rw [Array.getElem?_setIfInBounds_ne (fun z => q z.symm)]; exact this
theorem g_newIA (X : Stand p l e R s m args below meth c T locs cells slots) (hx : p.tables.exec = Jvm.exec) (hZ : Z.Warmed39 s.vm) (w : (Cond.arrayClass .int).before a0 Z = true) (eT : T.heap = h) {z : Int32} {n : Nat} (hz : z.toInt = (n : Int)) {cap : Nat} (hcap : n ≤ cap) (hb : cap * 8 ≤ 536870912) (hd : decode c.code pc = .ok (.newarray .int, 2)) (hc : cells + 1 ≤ R.cells) (hl : slots + cap ≤ R.slots) (hp : pc + 2 = pc')
    (kk : ∀ T' h' a, a = h.size → Stand p l e R s m args below meth c T' locs (cells + 1) (slots + cap) → T'.heap = h' → Ext h h' → a < h'.size → IA Z h' a n zeroI → OGoes p e s below Q n0 C N T' (mkF m pc' Ls (.ref a :: st))) : OGoes p e s below Q n0 C N T (mkF m pc Ls (.int z :: st)) := by
  subst hp
  obtain ⟨q1, q2⟩ := nclamp hz
  obtain ⟨T', h', cA, X', e', E', A', st'⟩ := newP X hx hZ (aty := .int) w eT (g := mkF m pc Ls (.int z :: st)) rfl hd (n := z) rfl q2 (cap := cap) (by rw [q1]; exact hcap) hb hc hl
  refine (kk T' h' h.size rfl X' e' E' A'.lt ⟨?_, _, A', by rw [sz_new, q1], fun i hi => ?_⟩).go st'
  · have := z.toInt_lt; omega
  · simp only [newA, q1]; simp [hi]; rfl
theorem LA.lt {h : Heap} {a n : Nat} {f : Nat → Int64} (F : LA Z h a n f) : a < h.size := by obtain ⟨_, c, A, -⟩ := F; exact A.lt
theorem LA.ext {h h' : Heap} {a n : Nat} {f : Nat → Int64} (F : LA Z h a n f) (E : Ext h h') : LA Z h' a n f := by obtain ⟨q, c, A, r⟩ := F; exact ⟨q, c, A.ext E, r⟩
theorem LA.keep {h h' : Heap} {a n : Nat} {f : Nat → Int64} {ws : List Addr} (F : LA Z h a n f) (K : Keep h h' ws) (q : a ∉ ws) : LA Z h' a n f := by obtain ⟨q', c, A, r⟩ := F; exact ⟨q', c, ⟨K.2.1 a c A.1 q, A.2⟩, r⟩
theorem LA.other {h h' : Heap} {a b n sl : Nat} {f : Nat → Int64} {v : Value} (F : LA Z h b n f) (W : Wr h h' a sl v) (q : b ≠ a) : LA Z h' b n f := by obtain ⟨q', c, A, r⟩ := F; exact ⟨q', c, A.other W q, r⟩
theorem LA.congr {h : Heap} {a n : Nat} {f f' : Nat → Int64} (F : LA Z h a n f) (q : ∀ i, i < n → f i = f' i) : LA Z h a n f' := by obtain ⟨q', c, A, r, s⟩ := F; exact ⟨q', c, A, r, fun i hi => by rw [← q i hi]; exact s i hi⟩
theorem g_laload (X : Stand p l e R s m args below meth c T locs cells slots) (hx : p.tables.exec = Jvm.exec) (hZ : Z.Warmed39 s.vm) (eT : T.heap = h) {a n k : Nat} {f : Nat → Int64} {j : Int32} (F : LA Z h a n f) (hj : j.toInt = (k : Int)) (hk : k < n) (hd : decode c.code pc = .ok (.laload, 1)) (hp : pc + 1 = pc')
    (kk : OGoes p e s below Q n0 C N T (mkF m pc' Ls (.long (f k) :: st))) : OGoes p e s below Q n0 C N T (mkF m pc Ls (.int j :: .ref a :: st)) := by
  subst hp; obtain ⟨-, cl, A, S, H⟩ := F
  exact kk.go fun t q => X.laload hx (by rw [eT]; exact A.1) (State.isArrayOf_alike hZ.alike A.2.1) A.2.2 (by rw [S]; exact nin hj hk) (by rw [(nclamp hj).1]; exact H k hk) (g := mkF m pc Ls (.int j :: .ref a :: st)) rfl rfl hd t q
theorem g_lenLA (X : Stand p l e R s m args below meth c T locs cells slots) (hx : p.tables.exec = Jvm.exec) (hZ : Z.Warmed39 s.vm) (eT : T.heap = h) {a n : Nat} {f : Nat → Int64} {z : Int32} (F : LA Z h a n f) (hz : z.toInt = (n : Int)) (hd : decode c.code pc = .ok (.arraylength, 1)) (hp : pc + 1 = pc')
    (kk : OGoes p e s below Q n0 C N T (mkF m pc' Ls (.int z :: st))) : OGoes p e s below Q n0 C N T (mkF m pc Ls (.ref a :: st)) := by
  subst hp; obtain ⟨hn, cl, A, S, H⟩ := F
  have hzz : z = cl.slots.size.toInt32 := Int32.toInt_inj.mp (by rw [S, hz, len32 hn])
  subst hzz
  exact kk.go fun t q => X.arraylength hx (by rw [eT]; exact A.1) (State.isArrayOf_alike hZ.alike A.2.1) (g := mkF m pc Ls (.ref a :: st)) rfl rfl hd t q
theorem g_lastore (X : Stand p l e R s m args below meth c T locs cells slots) (hx : p.tables.exec = Jvm.exec) (hZ : Z.Warmed39 s.vm) (eT : T.heap = h) {a n k : Nat} {f : Nat → Int64} {j : Int32} {x : Int64} (F : LA Z h a n f) (hj : j.toInt = (k : Int)) (hk : k < n) (hN : Fr n0 locs) (ha : n0 ≤ a) (hd : decode c.code pc = .ok (.lastore, 1)) (hp : pc + 1 = pc')
    (kk : ∀ T' h' locs', Stand p l e R s m args below meth c T' locs' cells slots → T'.heap = h' → Wr h h' a k (.long x) → Fr n0 locs' → LA Z h' a n (oupd f k x) → OGoes p e s below Q n0 C N T' (mkF m pc' Ls st)) : OGoes p e s below Q n0 C N T (mkF m pc Ls (.long x :: .int j :: .ref a :: st)) := by
  subst hp; obtain ⟨hn, cl, A, S, H⟩ := F
  obtain ⟨T', h', X', e', W', st'⟩ := stJ X hx hZ eT A (j := j) (x := x) (by rw [S]; exact nin hj hk) (g := mkF m pc Ls (.long x :: .int j :: .ref a :: st)) rfl rfl hd
  rw [(nclamp hj).1] at W' X'
  refine (kk T' h' _ X' e' W' (Fr.snoc X' hN ha) ⟨hn, _, A.same W', by rw [sz_set]; exact S, fun i hi => ?_⟩).go st'
  by_cases q : i = k
  · subst q; simp [Cell.setSlot, oupd, S, hi]
  · have := H i hi
    simp only [Cell.setSlot, oupd, q, if_false]
    rw [Array.getElem?_setIfInBounds_ne (fun z => q z.symm)]; exact this
theorem g_newLA (X : Stand p l e R s m args below meth c T locs cells slots) (hx : p.tables.exec = Jvm.exec) (hZ : Z.Warmed39 s.vm) (w : (Cond.arrayClass .long).before a0 Z = true) (eT : T.heap = h) {z : Int32} {n : Nat} (hz : z.toInt = (n : Int)) {cap : Nat} (hcap : n ≤ cap) (hb : cap * 8 ≤ 536870912) (hd : decode c.code pc = .ok (.newarray .long, 2)) (hc : cells + 1 ≤ R.cells) (hl : slots + cap ≤ R.slots) (hp : pc + 2 = pc')
    (kk : ∀ T' h' a, a = h.size → Stand p l e R s m args below meth c T' locs (cells + 1) (slots + cap) → T'.heap = h' → Ext h h' → a < h'.size → LA Z h' a n zeroL → OGoes p e s below Q n0 C N T' (mkF m pc' Ls (.ref a :: st))) : OGoes p e s below Q n0 C N T (mkF m pc Ls (.int z :: st)) := by
  subst hp
  obtain ⟨q1, q2⟩ := nclamp hz
  obtain ⟨T', h', cA, X', e', E', A', st'⟩ := newP X hx hZ (aty := .long) w eT (g := mkF m pc Ls (.int z :: st)) rfl hd (n := z) rfl q2 (cap := cap) (by rw [q1]; exact hcap) hb hc hl
  refine (kk T' h' h.size rfl X' e' E' A'.lt ⟨?_, _, A', by rw [sz_new, q1], fun i hi => ?_⟩).go st'
  · have := z.toInt_lt; omega
  · simp only [newA, q1]; simp [hi]; rfl
/-! numbers -/
theorem all_succ {P : Nat → Prop} {i : Nat} (h : ∀ y, y < i → P y) (hi : P i) : ∀ y, y < i + 1 → P y := fun y hy => by
  by_cases q : y = i
  · exact q ▸ hi
  · exact h y (by omega)
theorem oupd_at {A : Type} (f : Nat → A) (j : Nat) (v : A) : oupd f j v j = v := by simp [oupd]
theorem oupd_ne {A : Type} (f : Nat → A) {i j : Nat} (v : A) (q : ¬ i = j) : oupd f j v i = f i := by simp [oupd, q]
theorem i32_of_nat (n : Nat) (hn : n < 2147483648) : (Int32.ofNat n).toInt = (n : Int) := by
  rw [Int32.toInt_ofNat']; have hsz : (Int32.size : Int) = 4294967296 := rfl; exact Int.bmod_eq_of_le (by omega) (by omega)
theorem i32_get {x : Int32} (h : 0 ≤ x.toInt) : ∃ n : Nat, x.toInt = (n : Int) ∧ n < 2147483648 := ⟨x.toInt.toNat, (Int.toNat_of_nonneg h).symm, by have := x.toInt_lt; omega⟩
theorem oupdI (f : Nat → Int32) (j i : Nat) (v : Int32) : i = j ∧ (oupd f j v i).toInt = v.toInt ∨ ¬ i = j ∧ (oupd f j v i).toInt = (f i).toInt := by
  by_cases q : i = j
  · exact Or.inl ⟨q, by simp [oupd, q]⟩
  · exact Or.inr ⟨q, by simp [oupd, q]⟩
theorem oupdL (f : Nat → Int64) (j i : Nat) (v : Int64) : i = j ∧ (oupd f j v i).toInt = v.toInt ∨ ¬ i = j ∧ (oupd f j v i).toInt = (f i).toInt := by
  by_cases q : i = j
  · exact Or.inl ⟨q, by simp [oupd, q]⟩
  · exact Or.inr ⟨q, by simp [oupd, q]⟩
end Laws
end Jvm.OwnKit

namespace Jvm.Pilot.@@N@@
open Jvm Jvm.ClassFile Sem Op Lib Jvm.Free Jvm.Stand Jvm.LawKit Jvm.RoadKit Bundle Jvm.OwnKit Jvm.Pilot.@@N@@.Jvm.D
theorem pd_0 : parseMethodDescriptor "(JII)J" = some ⟨[.long, .int, .int], some .long⟩ := by decide +kernel
theorem pd_1 : parseMethodDescriptor "([JI)V" = some ⟨[(.array .long), .int], none⟩ := by decide +kernel
theorem pd_2 : parseMethodDescriptor "([JJI)J" = some ⟨[(.array .long), .long, .int], some .long⟩ := by decide +kernel

def own_bit (x : Int64) (i : Nat) : Bool := x.toBitVec.getLsbD i
/-- bit s of the words f -/
def own_B (f : Nat → Int64) (s : Nat) : Bool := own_bit (f (s / 64)) (s % 64)
theorem own_amt (k : Nat) (hk : k < 64) : (((Int32.ofNat k).toInt64 &&& 63).toBitVec.smod 64).toNat = k := by
  have h : ∀ k : Fin 64, (((Int32.ofNat k.1).toInt64 &&& 63).toBitVec.smod 64).toNat = k.1 := by decide +kernel
  exact h ⟨k, hk⟩
theorem own_amtU (k : Nat) (hk : k < 64) : ((Int32.ofNat k).toInt64.toUInt64 &&& Int64.toUInt64 63).toBitVec.toNat = k := by
  have h : ∀ k : Fin 64, ((Int32.ofNat k.1).toInt64.toUInt64 &&& Int64.toUInt64 63).toBitVec.toNat = k.1 := by decide +kernel
  exact h ⟨k, hk⟩
theorem own_i32 {z : Int32} {k : Nat} (h : z.toInt = (k : Int)) (hk : k < 2147483648) : z = Int32.ofNat k := by
  apply Int32.toInt_inj.mp
  rw [h, Int32.toInt_ofNat']; have hsz : (Int32.size : Int) = 4294967296 := rfl
  exact (Int.bmod_eq_of_le (by omega) (by omega)).symm
theorem own_shl (x : Int64) {z : Int32} {k : Nat} (h : z.toInt = (k : Int)) (hk : k < 64) : (x <<< (z.toInt64 &&& 63)).toBitVec = x.toBitVec <<< k := by
  have e := own_i32 h (by omega)
  subst e
  rw [Int64.toBitVec_shiftLeft, BitVec.shiftLeft_eq', own_amt k hk]
theorem own_shr (x : Int64) {z : Int32} {k : Nat} (h : z.toInt = (k : Int)) (hk : k < 64) : (XT.ushrL x z).toBitVec = x.toBitVec >>> k := by
  have e := own_i32 h (by omega)
  subst e
  show (x.toUInt64 >>> ((Int32.ofNat k).toInt64.toUInt64 &&& Int64.toUInt64 63)).toBitVec = _
  rw [UInt64.toBitVec_shiftRight]
  have hm : (((Int32.ofNat k).toInt64.toUInt64 &&& Int64.toUInt64 63).toBitVec % 64).toNat = k := by
    rw [BitVec.toNat_umod, own_amtU k hk]; exact Nat.mod_eq_of_lt hk
  rw [BitVec.ushiftRight_eq', hm]; rfl
theorem own_test (x : Int64) {z : Int32} {k : Nat} (h : z.toInt = (k : Int)) (hk : k < 64) : (x &&& ((1 : Int64) <<< (z.toInt64 &&& 63))).toInt = 0 ↔ own_bit x k = false := by
  have e0 : (x &&& ((1 : Int64) <<< (z.toInt64 &&& 63))).toInt = 0 ↔ (x &&& ((1 : Int64) <<< (z.toInt64 &&& 63))).toBitVec = 0#64 := by
    constructor
    · intro q
      have : (x &&& ((1 : Int64) <<< (z.toInt64 &&& 63))) = 0 := Int64.toInt_inj.mp (q.trans rfl)
      rw [this]; rfl
    · intro q
      have : (x &&& ((1 : Int64) <<< (z.toInt64 &&& 63))) = 0 := Int64.toBitVec_inj.mp (q.trans rfl)
      rw [this]; rfl
  rw [e0, Int64.toBitVec_and, own_shl 1 h hk]
  constructor
  · intro q
    have := congrArg (fun v => v.getLsbD k) q
    simp [hk] at this
    show x.toBitVec.getLsbD k = false
    rw [BitVec.getLsbD_eq_getElem hk]; exact this
  · intro q
    have q' : x.toBitVec.getLsbD k = false := q
    apply BitVec.eq_of_getLsbD_eq
    intro i hi
    by_cases c : i = k
    · subst c; simp [q']
    · have one : (1 : Int64).toBitVec = 1#64 := rfl
      simp only [BitVec.getLsbD_and, BitVec.getLsbD_shiftLeft, one, BitVec.getLsbD_zero]
      by_cases d : i < k
      · simp [d]
      · have e1 : i - k ≠ 0 := by omega
        simp [e1]
/-- the word that orShifted leaves at place y -/
def own_N (f : Nat → Int64) (ws bs : Nat) (y : Nat) : BitVec 64 :=
  if y < ws then (f y).toBitVec else (f y).toBitVec ||| ((f (y - ws)).toBitVec <<< bs ||| (if bs ≠ 0 ∧ 0 < y - ws then (f (y - ws - 1)).toBitVec >>> (64 - bs) else 0#64))
theorem own_or (f g : Nat → Int64) (ws bs n : Nat) (hb : bs < 64) (hg : ∀ y, y < n → (g y).toBitVec = own_N f ws bs y) (s : Nat) (hs : s < 64 * n) :
    own_B g s = (own_B f s || (decide (64 * ws + bs ≤ s) && own_B f (s - (64 * ws + bs)))) := by
  obtain ⟨y, i, hi, rfl⟩ : ∃ y i, i < 64 ∧ s = 64 * y + i := ⟨s / 64, s % 64, by omega, by omega⟩
  have e1 : (64 * y + i) / 64 = y := by omega
  have e2 : (64 * y + i) % 64 = i := by omega
  unfold own_B own_bit
  rw [e1, e2, hg y (by omega)]
  unfold own_N
  by_cases c : y < ws
  · have : ¬ 64 * ws + bs ≤ 64 * y + i := by omega
    simp [c, this]
  · simp only [c, if_false, BitVec.getLsbD_or, BitVec.getLsbD_shiftLeft]
    by_cases d : i < bs
    · by_cases e : 0 < y - ws
      · have h1 : 64 * ws + bs ≤ 64 * y + i := by omega
        have h2 : (64 * y + i - (64 * ws + bs)) / 64 = y - ws - 1 := by omega
        have h3 : (64 * y + i - (64 * ws + bs)) % 64 = 64 - bs + i := by omega
        have h4 : bs ≠ 0 := by omega
        simp [d, e, h1, h2, h3, h4]
      · have h1 : ¬ 64 * ws + bs ≤ 64 * y + i := by omega
        simp [d, e, h1]
    · have h1 : 64 * ws + bs ≤ 64 * y + i := by omega
      have h2 : (64 * y + i - (64 * ws + bs)) / 64 = y - ws := by omega
      have h3 : (64 * y + i - (64 * ws + bs)) % 64 = i - bs := by omega
      by_cases e : bs ≠ 0 ∧ 0 < y - ws
      · have h5 : 64 ≤ 64 - bs + i := by omega
        simp [d, e, h1, h2, h3, hi, BitVec.getLsbD_of_ge _ _ h5]
      · simp [d, e, h1, h2, h3, hi]
theorem own_NA (f g : Nat → Int64) {ws bs k : Nat} {z : Int32} (hz : z.toInt = (bs : Int)) (hb : bs < 64) (hk : ws ≤ k) (hc : bs = 0 ∨ k - ws = 0) {sx : Nat} (hsx : sx = k - ws) (e1 : g k = f k) (e2 : g sx = f sx) : (g k ||| (g sx <<< (z.toInt64 &&& 63))).toBitVec = own_N f ws bs k := by
  subst hsx
  have n1 : ¬ k < ws := by omega
  have n2 : ¬ (bs ≠ 0 ∧ 0 < k - ws) := by omega
  rw [Int64.toBitVec_or, own_shl _ hz hb, e1, e2]
  unfold own_N
  rw [if_neg n1, if_neg n2]; simp
theorem own_NB (f g : Nat → Int64) {ws bs k : Nat} {z y : Int32} (hz : z.toInt = (bs : Int)) (hb : bs < 64) (hy : y.toInt = ((64 - bs : Nat) : Int)) (hk : ws ≤ k) (hc : bs ≠ 0 ∧ 0 < k - ws) {sx sy : Nat} (hsx : sx = k - ws) (hsy : sy = k - ws - 1) (e1 : g k = f k) (e2 : g sx = f sx) (e3 : g sy = f sy) : (g k ||| ((g sx <<< (z.toInt64 &&& 63)) ||| XT.ushrL (g sy) y)).toBitVec = own_N f ws bs k := by
  subst hsx hsy
  have n1 : ¬ k < ws := by omega
  rw [Int64.toBitVec_or, Int64.toBitVec_or, own_shl _ hz hb, own_shr _ hy (by omega), e1, e2, e3]
  unfold own_N
  rw [if_neg n1, if_pos hc]
theorem own_NL (f : Nat → Int64) {ws bs y : Nat} (h : y < ws) : (f y).toBitVec = own_N f ws bs y := by unfold own_N; rw [if_pos h]
/-- the words from k on are done, those below stand as they stood -/
def own_D (f g : Nat → Int64) (ws bs n k : Nat) : Prop := ∀ y, y < n → (y < k → g y = f y) ∧ (k ≤ y → (g y).toBitVec = own_N f ws bs y)
theorem own_D_end {f g : Nat → Int64} {ws bs n k : Nat} (h : own_D f g ws bs n k) (hk : k ≤ ws) : ∀ y, y < n → (g y).toBitVec = own_N f ws bs y := fun y hy => by
  by_cases c : k ≤ y
  · exact (h y hy).2 c
  · rw [(h y hy).1 (by omega)]; exact own_NL f (by omega)
theorem own_D_step {f g : Nat → Int64} {ws bs n k : Nat} {x : Int64} (h : own_D f g ws bs n (k + 1)) (hx : x.toBitVec = own_N f ws bs k) : own_D f (oupd g k x) ws bs n k := fun y hy => by
  by_cases c : y = k
  · subst c; exact ⟨fun z => absurd z (by omega), fun _ => by simp only [oupd, if_true]; exact hx⟩
  · simp only [oupd, c, if_false]
    exact ⟨fun z => (h y hy).1 (by omega), fun z => (h y hy).2 (by omega)⟩
/-- s is a sum of some of the first k -/
def own_S (av : Nat → Nat) : Nat → Nat → Prop
  | 0, s => s = 0
  | k + 1, s => own_S av k s ∨ (av k ≤ s ∧ own_S av k (s - av k))
theorem own_S_zero (av : Nat → Nat) : ∀ k, own_S av k 0
  | 0 => rfl
  | k + 1 => Or.inl (own_S_zero av k)
theorem own_S_mono {av : Nat → Nat} {k s : Nat} (h : own_S av k s) : ∀ d, own_S av (k + d) s
  | 0 => h
  | d + 1 => Or.inl (own_S_mono h d)
theorem own_S_step {g g' : Nat → Int64} {av : Nat → Nat} {i M a : Nat} (hB : ∀ s, s < M → (own_B g s = true ↔ own_S av i s)) (hg : ∀ s, s < M → own_B g' s = (own_B g s || (decide (a ≤ s) && own_B g (s - a)))) (ha : a = av i) : ∀ s, s < M → (own_B g' s = true ↔ own_S av (i + 1) s) := fun s hs => by
  subst ha
  rw [hg s hs, Bool.or_eq_true, Bool.and_eq_true, decide_eq_true_iff, hB s hs, hB (s - av i) (by omega)]
  exact Iff.rfl
theorem own_B0 (z : Nat → Int64) (hz : ∀ y, z y = 0) (av : Nat → Nat) (s : Nat) : own_B (oupd z 0 1) s = true ↔ own_S av 0 s := by
  unfold own_B own_bit
  show _ ↔ s = 0
  by_cases c : s / 64 = 0
  · simp only [oupd, c, if_true]
    have e : (1 : Int64).toBitVec = 1#64 := rfl
    rw [e]
    have e2 : s % 64 = s := by omega
    rw [e2]
    have h : ∀ k : Fin 64, (1#64).getLsbD k.1 = true ↔ k.1 = 0 := by decide
    exact h ⟨s, by omega⟩
  · simp only [oupd, c, if_false, hz]
    have e : (0 : Int64).toBitVec = 0#64 := rfl
    rw [e]
    constructor
    · intro q; simp at q
    · intro q; omega
theorem own_mul {x q : Int64} {a b : Int} (hx : x.toInt = a) (hq : q.toInt = b) (h1 : 0 ≤ a ∧ a ≤ 1536) (h2 : 0 < b ∧ b ≤ 1125899906842624) : (x * q).toInt = a * b := by
  have m := mc h1.1 h1.2 (show (0 : Int) ≤ b by omega) h2.2
  have c := c_lmul x q
  have q1 := (x * q).toInt_lt
  have q2 := (x * q).le_toInt
  rw [hx, hq] at c
  obtain ⟨m1, m2, m3, m4⟩ := m
  generalize a * b = ab at *
  omega
theorem own_divmul {x : Int32} {q : Int64} {a : Nat} (hx : x.toInt = (a : Int)) (ha : a ≤ 512) (hq : 0 < q.toInt ∧ q.toInt ≤ 1125899906842624) : ((x.toInt64 * q) / q).toInt32.toInt = (a : Int) := by
  have hx64 : x.toInt64.toInt = (a : Int) := (c_i2l x).trans hx
  have p := own_mul hx64 rfl ⟨by omega, by omega⟩ hq
  have hne : q ≠ -1 := fun z => by rw [z] at hq; exact absurd hq.1 (by decide)
  have d := c_ldiv (x.toInt64 * q) q q.toInt rfl hne
  have nn : 0 ≤ (a : Int) * q.toInt := Int.mul_nonneg (by omega) (by omega)
  rw [p] at d
  have e1 : ((x.toInt64 * q) / q).toInt = (a : Int) := by rw [d.1 nn, Int.mul_ediv_cancel _ (by omega)]
  have l := c_l2i ((x.toInt64 * q) / q)
  have b1 := ((x.toInt64 * q) / q).toInt32.toInt_lt
  have b2 := ((x.toInt64 * q) / q).toInt32.le_toInt
  rw [e1] at l; omega

theorem own_div64 {p : Int32} {ws bs : Nat} (h : p.toInt = ((64 * ws + bs : Nat) : Int)) (hb : bs < 64) : (p / 64).toInt = (ws : Int) ∧ (p % 64).toInt = (bs : Int) := by
  have q := c_idiv p 64 64 rfl (by decide)
  have r := c_irem p 64 64 rfl
  rw [q.1 (by omega), r.1 (by omega), h]; omega
theorem own_sub {x y : Int32} {a b : Nat} (hx : x.toInt = (a : Int)) (hy : y.toInt = (b : Int)) (h : b ≤ a) : (x - y).toInt = ((a - b : Nat) : Int) := by
  have q := c_isub x y
  have q1 := (x - y).toInt_lt
  have q2 := (x - y).le_toInt
  have q3 := x.toInt_lt
  rw [hx, hy] at q; omega
def own_is (z : Int32) (k : Nat) : Prop := z.toInt = (k : Int)
theorem own_decN {x : Int32} {k : Nat} (hx : x.toInt = ((k + 1 : Nat) : Int)) (hk : k < 2147483647) : own_is (x + (-1 : Int32)) k := by
  have q := c_iadd x (-1)
  have l : (-1 : Int32).toInt = -1 := rfl
  have q1 := (x + (-1 : Int32)).toInt_lt
  have q2 := (x + (-1 : Int32)).le_toInt
  show (x + (-1 : Int32)).toInt = (k : Int)
  rw [hx, l] at q; omega
theorem own_div64N {p : Int32} {ws bs n : Nat} (h : p.toInt = (n : Int)) (h1 : ws = n / 64) (h2 : bs = n % 64) : own_is (p / 64) ws ∧ own_is (p % 64) bs := by
  obtain ⟨q1, q2⟩ := own_div64 (p := p) (ws := ws) (bs := bs) (by rw [h]; omega) (by omega)
  exact ⟨q1, q2⟩
theorem own_S_to {av : Nat → Nat} {k s N : Nat} (h : own_S av k s) (d : Nat) (e : k + d = N) : own_S av N s := e ▸ own_S_mono h d
theorem own_dec {x : Int32} {k : Nat} (hx : x.toInt = (k : Int)) (hk : k < 2147483648) : (x + (-1 : Int32)).toInt = (k : Int) - 1 := by
  have q := c_iadd x (-1)
  have l : (-1 : Int32).toInt = -1 := rfl
  have q1 := (x + (-1 : Int32)).toInt_lt
  have q2 := (x + (-1 : Int32)).le_toInt
  rw [hx, l] at q; omega
theorem own_inc {x : Int32} {k : Nat} (hx : x.toInt = (k : Int)) (hk : k < 1000000) : own_is (x + (1 : Int32)) (k + 1) := by
  show (x + (1 : Int32)).toInt = ((k + 1 : Nat) : Int)
  have q := c_iadd x 1
  have l : (1 : Int32).toInt = 1 := rfl
  have q1 := (x + (1 : Int32)).toInt_lt
  have q2 := (x + (1 : Int32)).le_toInt
  rw [hx, l] at q; omega
theorem d1_0 : decode method_2_code 0 = .ok (.iload_n 2, 1) := by decide +kernel
theorem d1_1 : decode method_2_code 1 = .ok (.iload_n 3, 1) := by decide +kernel
theorem d1_2 : decode method_2_code 2 = .ok (.if_icmp .gt 13, 3) := by decide +kernel
theorem d1_5 : decode method_2_code 5 = .ok (.iload_n 2, 1) := by decide +kernel
theorem d1_6 : decode method_2_code 6 = .ok (.i2l, 1) := by decide +kernel
theorem d1_7 : decode method_2_code 7 = .ok (.lload_n 0, 1) := by decide +kernel
theorem d1_8 : decode method_2_code 8 = .ok (.lcmp, 1) := by decide +kernel
theorem d1_9 : decode method_2_code 9 = .ok (.ifCond .le 6, 3) := by decide +kernel
theorem d1_12 : decode method_2_code 12 = .ok (.iload_n 2, 1) := by decide +kernel
theorem d1_13 : decode method_2_code 13 = .ok (.i2l, 1) := by decide +kernel
theorem d1_14 : decode method_2_code 14 = .ok (.lreturn, 1) := by decide +kernel
theorem d1_15 : decode method_2_code 15 = .ok (.lload_n 0, 1) := by decide +kernel
theorem d1_16 : decode method_2_code 16 = .ok (.lreturn, 1) := by decide +kernel
theorem pn_0 : plainFor (⟨"com/example/stagecue/stagecue/engine/SubsetSumByBitsetPinLaw", "fit", "(JII)J"⟩ : MethodName) = true := by first | exact plainFor_of_name (by first | (simp [plainName, overriddenIn]; done) | decide +kernel) | decide +kernel
def Q1 (Z : State) (q1 : Int64) (p2 : Int32) (p3 : Int32) (h0 : Heap) (n0 : Nat) (v : Option Value) (h : Heap) : Prop := ∃ r : Int64, v = some (.long r) ∧ ((p2.toInt ≤ p3.toInt ∧ q1.toInt < p2.toInt) ∧ r.toInt = p2.toInt ∨ ¬ (p2.toInt ≤ p3.toInt ∧ q1.toInt < p2.toInt) ∧ r.toInt = q1.toInt) ∧ h = h0
abbrev R1 : Room := { frames := 0, cells := 0, slots := 0, locals := 0 }
set_option maxRecDepth 65536 in
set_option maxHeartbeats 40000000 in
theorem rm1 (l : Launch) (Z : State) (a0 : Array Value) (hw : ∀ d ∈ tables_1, d.before a0 Z = true)  (q1 : Int64) (p2 : Int32) (p3 : Int32) (h0 : Heap) (n0 : Nat) (Z0 : NLe n0 h0.size)  :
    Con l (⟨"com/example/stagecue/stagecue/engine/SubsetSumByBitsetPinLaw", "fit", "(JII)J"⟩ : MethodName) method_2_code 4 (some .long) [] R1 Z #[(.long q1), (.int p2), (.int p3)] h0 n0 (Q1 Z q1 p2 p3 h0 n0) := by
  refine con_of (Ls0 := #[.val (.long q1), .second, .val (.int p2), .val (.int p3)]) pn_0 (fun m => by first | (simp [entryFrame, mkF, argsToLocals, Value.category, maxLocals]; done) | rfl) ?_
  intro p e s m below meth c s₁ X0 hx hby hml hZ hown hnm hret hlk e0 N0
  show OGoes p e s below (Q1 Z q1 p2 p3 h0 n0) n0 R1.cells R1.slots s₁ (mkF m 0 #[.val (.long q1), .second, .val (.int p2), .val (.int p3)] [])
  have hl := c_i2l p2
  refine g_iloadN X0 hx (hb hby d1_0) (v := p2) rfl (pc' := 1) rfl ?_
  refine g_iloadN X0 hx (hb hby d1_1) (v := p3) rfl (pc' := 2) rfl ?_
  refine g_ii_gt X0 hx (a := p2.toInt) (b := p3.toInt) rfl rfl (hb hby d1_2) (by decide) (pc' := 15) (by decide) (pc2 := 5) rfl (fun c1 => ?_) (fun c1 => ?_)
  · refine g_lloadN X0 hx (hb hby d1_15) (v := q1) rfl (pc' := 16) rfl ?_
    refine g_retJ X0 hx hlk hret (hb hby d1_16) N0 (by decide) (by decide) ?_
    exact ⟨_, rfl, by first | exact Or.inl ⟨by omega, by omega⟩ | exact Or.inr ⟨by omega, by omega⟩, e0⟩
  · refine g_iloadN X0 hx (hb hby d1_5) (v := p2) rfl (pc' := 6) rfl ?_
    refine g_i2l X0 hx (hb hby d1_6) (pc' := 7) rfl ?_
    refine g_lloadN X0 hx (hb hby d1_7) (v := q1) rfl (pc' := 8) rfl ?_
    refine g_ll_le X0 hx (a := p2.toInt) (b := q1.toInt) hl rfl (hb hby d1_8) (pc1 := 9) rfl (hb hby d1_9) (by decide) (pc' := 15) (by decide) (pc2 := 12) rfl (fun c2 => ?_) (fun c2 => ?_)
    · refine g_lloadN X0 hx (hb hby d1_15) (v := q1) rfl (pc' := 16) rfl ?_
      refine g_retJ X0 hx hlk hret (hb hby d1_16) N0 (by decide) (by decide) ?_
      exact ⟨_, rfl, by first | exact Or.inl ⟨by omega, by omega⟩ | exact Or.inr ⟨by omega, by omega⟩, e0⟩
    · refine g_iloadN X0 hx (hb hby d1_12) (v := p2) rfl (pc' := 13) rfl ?_
      refine g_i2l X0 hx (hb hby d1_13) (pc' := 14) rfl ?_
      refine g_retJ X0 hx hlk hret (hb hby d1_14) N0 (by decide) (by decide) ?_
      exact ⟨_, rfl, by first | exact Or.inl ⟨by omega, by omega⟩ | exact Or.inr ⟨by omega, by omega⟩, e0⟩
theorem d3_0 : decode prog_26_method_5_code 0 = .ok (.iload_n 1, 1) := by decide +kernel
theorem d3_1 : decode prog_26_method_5_code 1 = .ok (.bipush 64, 2) := by decide +kernel
theorem d3_3 : decode prog_26_method_5_code 3 = .ok (.idiv, 1) := by decide +kernel
theorem d3_4 : decode prog_26_method_5_code 4 = .ok (.istore_n 2, 1) := by decide +kernel
theorem d3_5 : decode prog_26_method_5_code 5 = .ok (.iload_n 1, 1) := by decide +kernel
theorem d3_6 : decode prog_26_method_5_code 6 = .ok (.bipush 64, 2) := by decide +kernel
theorem d3_8 : decode prog_26_method_5_code 8 = .ok (.irem, 1) := by decide +kernel
theorem d3_9 : decode prog_26_method_5_code 9 = .ok (.istore_n 3, 1) := by decide +kernel
theorem d3_10 : decode prog_26_method_5_code 10 = .ok (.aload_n 0, 1) := by decide +kernel
theorem d3_11 : decode prog_26_method_5_code 11 = .ok (.arraylength, 1) := by decide +kernel
theorem d3_12 : decode prog_26_method_5_code 12 = .ok (.iconst 1, 1) := by decide +kernel
theorem d3_13 : decode prog_26_method_5_code 13 = .ok (.isub, 1) := by decide +kernel
theorem d3_14 : decode prog_26_method_5_code 14 = .ok (.istore 4, 2) := by decide +kernel
theorem d3_16 : decode prog_26_method_5_code 16 = .ok (.iload 4, 2) := by decide +kernel
theorem d3_18 : decode prog_26_method_5_code 18 = .ok (.iload_n 2, 1) := by decide +kernel
theorem d3_19 : decode prog_26_method_5_code 19 = .ok (.if_icmp .lt 57, 3) := by decide +kernel
theorem d3_22 : decode prog_26_method_5_code 22 = .ok (.iload 4, 2) := by decide +kernel
theorem d3_24 : decode prog_26_method_5_code 24 = .ok (.iload_n 2, 1) := by decide +kernel
theorem d3_25 : decode prog_26_method_5_code 25 = .ok (.isub, 1) := by decide +kernel
theorem d3_26 : decode prog_26_method_5_code 26 = .ok (.istore 5, 2) := by decide +kernel
theorem d3_28 : decode prog_26_method_5_code 28 = .ok (.aload_n 0, 1) := by decide +kernel
theorem d3_29 : decode prog_26_method_5_code 29 = .ok (.iload 5, 2) := by decide +kernel
theorem d3_31 : decode prog_26_method_5_code 31 = .ok (.laload, 1) := by decide +kernel
theorem d3_32 : decode prog_26_method_5_code 32 = .ok (.iload_n 3, 1) := by decide +kernel
theorem d3_33 : decode prog_26_method_5_code 33 = .ok (.lshl, 1) := by decide +kernel
theorem d3_34 : decode prog_26_method_5_code 34 = .ok (.lstore 6, 2) := by decide +kernel
theorem d3_36 : decode prog_26_method_5_code 36 = .ok (.iload_n 3, 1) := by decide +kernel
theorem d3_37 : decode prog_26_method_5_code 37 = .ok (.ifCond .eq 24, 3) := by decide +kernel
theorem d3_40 : decode prog_26_method_5_code 40 = .ok (.iload 5, 2) := by decide +kernel
theorem d3_42 : decode prog_26_method_5_code 42 = .ok (.ifCond .le 19, 3) := by decide +kernel
theorem d3_45 : decode prog_26_method_5_code 45 = .ok (.lload 6, 2) := by decide +kernel
theorem d3_47 : decode prog_26_method_5_code 47 = .ok (.aload_n 0, 1) := by decide +kernel
theorem d3_48 : decode prog_26_method_5_code 48 = .ok (.iload 5, 2) := by decide +kernel
theorem d3_50 : decode prog_26_method_5_code 50 = .ok (.iconst 1, 1) := by decide +kernel
theorem d3_51 : decode prog_26_method_5_code 51 = .ok (.isub, 1) := by decide +kernel
theorem d3_52 : decode prog_26_method_5_code 52 = .ok (.laload, 1) := by decide +kernel
theorem d3_53 : decode prog_26_method_5_code 53 = .ok (.bipush 64, 2) := by decide +kernel
theorem d3_55 : decode prog_26_method_5_code 55 = .ok (.iload_n 3, 1) := by decide +kernel
theorem d3_56 : decode prog_26_method_5_code 56 = .ok (.isub, 1) := by decide +kernel
theorem d3_57 : decode prog_26_method_5_code 57 = .ok (.lushr, 1) := by decide +kernel
theorem d3_58 : decode prog_26_method_5_code 58 = .ok (.lor, 1) := by decide +kernel
theorem d3_59 : decode prog_26_method_5_code 59 = .ok (.lstore 6, 2) := by decide +kernel
theorem d3_61 : decode prog_26_method_5_code 61 = .ok (.aload_n 0, 1) := by decide +kernel
theorem d3_62 : decode prog_26_method_5_code 62 = .ok (.iload 4, 2) := by decide +kernel
theorem d3_64 : decode prog_26_method_5_code 64 = .ok (.dup2, 1) := by decide +kernel
theorem d3_65 : decode prog_26_method_5_code 65 = .ok (.laload, 1) := by decide +kernel
theorem d3_66 : decode prog_26_method_5_code 66 = .ok (.lload 6, 2) := by decide +kernel
theorem d3_68 : decode prog_26_method_5_code 68 = .ok (.lor, 1) := by decide +kernel
theorem d3_69 : decode prog_26_method_5_code 69 = .ok (.lastore, 1) := by decide +kernel
theorem d3_70 : decode prog_26_method_5_code 70 = .ok (.iinc 4 (-1), 3) := by decide +kernel
theorem d3_73 : decode prog_26_method_5_code 73 = .ok (.goto (-57), 3) := by decide +kernel
theorem d3_76 : decode prog_26_method_5_code 76 = .ok (.return_, 1) := by decide +kernel
theorem pn_1 : plainFor (⟨"com/example/stagecue/stagecue/engine/SubsetSum", "orShifted", "([JI)V"⟩ : MethodName) = true := by first | exact plainFor_of_name (by first | (simp [plainName, overriddenIn]; done) | decide +kernel) | decide +kernel
def Q2 (Z : State) (t : Addr) (p1 : Int32) (n : Nat) (f : Nat → Int64) (ws1 : Nat) (bs : Nat) (h0 : Heap) (n0 : Nat) (v : Option Value) (h : Heap) : Prop := ∃ g : Nat → Int64, v = none ∧ (∀ y, y < n → (g y).toBitVec = own_N f ws1 bs y) ∧ Keep h0 h [t] ∧ LA Z h t n g
abbrev R2 : Room := { frames := 0, cells := 0, slots := 0, locals := 0 }
set_option maxRecDepth 65536 in
set_option maxHeartbeats 40000000 in
theorem rm2 (l : Launch) (Z : State) (a0 : Array Value) (hw : ∀ d ∈ tables_1, d.before a0 Z = true)  (t : Addr) (p1 : Int32) (n : Nat) (f : Nat → Int64) (ws1 : Nat) (bs : Nat) (h0 : Heap) (n0 : Nat) (Z0 : NLe n0 h0.size) (Fp0 : LA Z h0 t n f) (hsh : p1.toInt = ((64 * ws1 + bs : Nat) : Int)) (hbs : bs < 64) (hn4 : 0 < n ∧ n ≤ 4) (gn_t : NLe n0 t) :
    Con l (⟨"com/example/stagecue/stagecue/engine/SubsetSum", "orShifted", "([JI)V"⟩ : MethodName) prog_26_method_5_code 8 none [] R2 Z #[(.ref t), (.int p1)] h0 n0 (Q2 Z t p1 n f ws1 bs h0 n0) := by
  refine con_of (Ls0 := #[.val (.ref t), .val (.int p1), .unset, .unset, .unset, .unset, .unset, .unset]) pn_1 (fun m => by first | (simp [entryFrame, mkF, argsToLocals, Value.category, maxLocals]; done) | rfl) ?_
  intro p e s m below meth c s₁ X0 hx hby hml hZ hown hnm hret hlk e0 N0
  show OGoes p e s below (Q2 Z t p1 n f ws1 bs h0 n0) n0 R2.cells R2.slots s₁ (mkF m 0 #[.val (.ref t), .val (.int p1), .unset, .unset, .unset, .unset, .unset, .unset] [])
  have K0 : Keep h0 h0 [t] := Keep.refl _ _
  have hn := i32_of_nat n Fp0.1
  obtain ⟨hw1, hb1⟩ := own_div64 hsh hbs
  refine g_iloadN X0 hx (hb hby d3_0) (v := p1) rfl (pc' := 1) rfl ?_
  refine g_bipush X0 hx (hb hby d3_1) (v := 64) (by decide) (pc' := 3) rfl ?_
  refine g_idiv X0 hx (hb hby d3_3) (by decide) (pc' := 4) rfl ?_
  refine g_istoreN X0 hx (hb hby d3_4) (Ls' := #[.val (.ref t), .val (.int p1), .val (.int (p1 / (64 : Int32))), .unset, .unset, .unset, .unset, .unset]) rfl (pc' := 5) rfl ?_
  refine g_iloadN X0 hx (hb hby d3_5) (v := p1) rfl (pc' := 6) rfl ?_
  refine g_bipush X0 hx (hb hby d3_6) (v := 64) (by decide) (pc' := 8) rfl ?_
  refine g_irem X0 hx (hb hby d3_8) (by decide) (pc' := 9) rfl ?_
  refine g_istoreN X0 hx (hb hby d3_9) (Ls' := #[.val (.ref t), .val (.int p1), .val (.int (p1 / (64 : Int32))), .val (.int (p1 % (64 : Int32))), .unset, .unset, .unset, .unset]) rfl (pc' := 10) rfl ?_
  refine g_aloadN X0 hx (hb hby d3_10) (v := (.ref t)) rfl rfl (pc' := 11) rfl ?_
  refine g_lenLA X0 hx hZ e0 (z := (Int32.ofNat n)) Fp0 hn (hb hby d3_11) (pc' := 12) rfl ?_
  refine g_iconst X0 hx (hb hby d3_12) (v := 1) (by decide) (pc' := 13) rfl ?_
  refine g_isub X0 hx (hb hby d3_13) (pc' := 14) rfl ?_
  refine g_istore X0 hx (hb hby d3_14) (Ls' := #[.val (.ref t), .val (.int p1), .val (.int (p1 / (64 : Int32))), .val (.int (p1 % (64 : Int32))), .val (.int ((Int32.ofNat n) - (1 : Int32))), .unset, .unset, .unset]) rfl (pc' := 16) rfl ?_
  have hj0 : (((Int32.ofNat n) - (1 : Int32))).toInt = (n : Int) - 1 := by have q := own_sub hn (y := 1) (b := 1) rfl hn4.1; omega
  have loop : ∀ (k : Nat) (j : Int32) (g : Nat → Int64) (s5 : Slot) (s6 : Slot) (s7 : Slot) (Tl : State) (Ll : List Loc) (hl : Heap) , j.toInt = (k : Int) - 1 → k ≤ n → own_D f g ws1 bs n k → ((s5 = .unset ∧ s6 = .unset ∧ s7 = .unset) ∨ ∃ (a5 : Int32) (a6 : Int64), s5 = .val (.int a5) ∧ s6 = .val (.long a6) ∧ s7 = .second) → Stand p l e R2 s m #[(.ref t), (.int p1)] below meth c Tl Ll 0 0 → Tl.heap = hl → Fr n0 Ll → NLe n0 hl.size → LA Z hl t n g → Keep h0 hl [t] → OGoes p e s below (Q2 Z t p1 n f ws1 bs h0 n0) n0 R2.cells R2.slots Tl (mkF m 16 #[.val (.ref t), .val (.int p1), .val (.int (p1 / (64 : Int32))), .val (.int (p1 % (64 : Int32))), .val (.int j), s5, s6, s7] []) := by
    intro k; induction k with
    | zero =>
      intro j g s5 s6 s7 Tl Ll hl hj hkn hD hsl Xl El Nl Zl Fl0 Kl
      refine g_iload Xl hx (hb hby d3_16) (v := j) rfl (pc' := 18) rfl ?_
      refine g_iloadN Xl hx (hb hby d3_18) (v := (p1 / (64 : Int32))) rfl (pc' := 19) rfl ?_
      refine g_ii_lt Xl hx (a := j.toInt) (b := (ws1 : Int)) rfl hw1 (hb hby d3_19) (by decide) (pc' := 76) (by decide) (pc2 := 22) rfl (fun c1 => ?_) (fun c1 => False.elim (by omega))
      refine g_retV Xl hx hlk hret (hb hby d3_76) Nl (by decide) (by decide) ?_
      rw [El]
      exact ⟨g, rfl, own_D_end hD (by omega), Kl, Fl0⟩
    | succ k ih =>
      intro j g s5 s6 s7 Tl Ll hl hj hkn hD hsl Xl El Nl Zl Fl0 Kl
      have hjk : j.toInt = (k : Int) := by omega
      refine g_iload Xl hx (hb hby d3_16) (v := j) rfl (pc' := 18) rfl ?_
      refine g_iloadN Xl hx (hb hby d3_18) (v := (p1 / (64 : Int32))) rfl (pc' := 19) rfl ?_
      refine g_ii_lt Xl hx (a := (k : Int)) (b := (ws1 : Int)) hjk hw1 (hb hby d3_19) (by decide) (pc' := 76) (by decide) (pc2 := 22) rfl (fun c2 => ?_) (fun c2 => ?_)
      · refine g_retV Xl hx hlk hret (hb hby d3_76) Nl (by decide) (by decide) ?_
        rw [El]
        exact ⟨g, rfl, own_D_end hD (by omega), Kl, Fl0⟩
      · have hwk : ws1 ≤ k := by omega
        obtain ⟨sx, hsx⟩ : ∃ sx, sx = k - ws1 := ⟨_, rfl⟩
        have hsrc : (j - (p1 / (64 : Int32))).toInt = (sx : Int) := by rw [hsx]; exact own_sub hjk hw1 hwk
        have e1 := (hD k (by omega)).1 (by omega); have e2 := (hD sx (by omega)).1 (by omega)
        rcases hsl with ⟨rfl, rfl, rfl⟩ | ⟨a5, a6, rfl, rfl, rfl⟩
        · show OGoes p e s below (Q2 Z t p1 n f ws1 bs h0 n0) n0 R2.cells R2.slots Tl (mkF m 22 #[.val (.ref t), .val (.int p1), .val (.int (p1 / (64 : Int32))), .val (.int (p1 % (64 : Int32))), .val (.int j), .unset, .unset, .unset] [])
          refine g_iload Xl hx (hb hby d3_22) (v := j) rfl (pc' := 24) rfl ?_
          refine g_iloadN Xl hx (hb hby d3_24) (v := (p1 / (64 : Int32))) rfl (pc' := 25) rfl ?_
          refine g_isub Xl hx (hb hby d3_25) (pc' := 26) rfl ?_
          refine g_istore Xl hx (hb hby d3_26) (Ls' := #[.val (.ref t), .val (.int p1), .val (.int (p1 / (64 : Int32))), .val (.int (p1 % (64 : Int32))), .val (.int j), .val (.int (j - (p1 / (64 : Int32)))), .unset, .unset]) rfl (pc' := 28) rfl ?_
          refine g_aloadN Xl hx (hb hby d3_28) (v := (.ref t)) rfl rfl (pc' := 29) rfl ?_
          refine g_iload Xl hx (hb hby d3_29) (v := (j - (p1 / (64 : Int32)))) rfl (pc' := 31) rfl ?_
          refine g_laload Xl hx hZ El (k := sx) Fl0 hsrc (by omega) (hb hby d3_31) (pc' := 32) rfl ?_
          refine g_iloadN Xl hx (hb hby d3_32) (v := (p1 % (64 : Int32))) rfl (pc' := 33) rfl ?_
          refine g_lshl Xl hx (hb hby d3_33) (pc' := 34) rfl ?_
          refine g_lstore Xl hx (hb hby d3_34) (Ls' := #[.val (.ref t), .val (.int p1), .val (.int (p1 / (64 : Int32))), .val (.int (p1 % (64 : Int32))), .val (.int j), .val (.int (j - (p1 / (64 : Int32)))), .val (.long ((g sx) <<< ((p1 % (64 : Int32)).toInt64 &&& 63))), .second]) rfl (pc' := 36) rfl ?_
          refine g_iloadN Xl hx (hb hby d3_36) (v := (p1 % (64 : Int32))) rfl (pc' := 37) rfl ?_
          refine g_i0_eq Xl hx (a := (bs : Int)) hb1 (hb hby d3_37) (by decide) (pc' := 61) (by decide) (pc2 := 40) rfl (fun c3 => ?_) (fun c3 => ?_)
          · refine g_aloadN Xl hx (hb hby d3_61) (v := (.ref t)) rfl rfl (pc' := 62) rfl ?_
            refine g_iload Xl hx (hb hby d3_62) (v := j) rfl (pc' := 64) rfl ?_
            refine g_dup2 Xl hx (hb hby d3_64) rfl rfl (pc' := 65) rfl ?_
            refine g_laload Xl hx hZ El (k := k) Fl0 hjk (by omega) (hb hby d3_65) (pc' := 66) rfl ?_
            refine g_lload Xl hx (hb hby d3_66) (v := ((g sx) <<< ((p1 % (64 : Int32)).toInt64 &&& 63))) rfl (pc' := 68) rfl ?_
            refine g_lor Xl hx (hb hby d3_68) (pc' := 69) rfl ?_
            refine g_lastore Xl hx hZ El (k := k) (x := ((g k) ||| ((g sx) <<< ((p1 % (64 : Int32)).toInt64 &&& 63)))) Fl0 hjk (by omega) Nl gn_t (hb hby d3_69) (pc' := 70) rfl (fun T4 h5 L6 X7 e8 W9 N10 A11 => ?_)
            have K12 := Kl.wr W9 (Or.inl (by simp))
            have Z13 : NLe n0 h5.size := Zl.wr W9
            have hx1 : (((g k) ||| ((g sx) <<< ((p1 % (64 : Int32)).toInt64 &&& 63)))).toBitVec = own_N f ws1 bs k := own_NA f g hb1 hbs hwk (Or.inl (by omega)) hsx e1 e2
            refine g_iinc X7 hx (hb hby d3_70) (v := -1) (by decide) (x := j) rfl (Ls' := #[.val (.ref t), .val (.int p1), .val (.int (p1 / (64 : Int32))), .val (.int (p1 % (64 : Int32))), .val (.int (j + (-1 : Int32))), .val (.int (j - (p1 / (64 : Int32)))), .val (.long ((g sx) <<< ((p1 % (64 : Int32)).toInt64 &&& 63))), .second]) rfl (pc' := 73) rfl ?_
            refine g_goto X7 hx (hb hby d3_73) (by decide) (pc' := 16) (by decide) ?_
            exact ih (j + (-1 : Int32)) (oupd g k ((g k) ||| ((g sx) <<< ((p1 % (64 : Int32)).toInt64 &&& 63)))) (.val (.int (j - (p1 / (64 : Int32))))) (.val (.long ((g sx) <<< ((p1 % (64 : Int32)).toInt64 &&& 63)))) .second _ _ _ (own_dec hjk (by omega)) (by omega) (own_D_step hD hx1) (Or.inr ⟨_, _, rfl, rfl, rfl⟩) X7 e8 N10 Z13 A11 K12
          · refine g_iload Xl hx (hb hby d3_40) (v := (j - (p1 / (64 : Int32)))) rfl (pc' := 42) rfl ?_
            refine g_i0_le Xl hx (a := (sx : Int)) hsrc (hb hby d3_42) (by decide) (pc' := 61) (by decide) (pc2 := 45) rfl (fun c15 => ?_) (fun c15 => ?_)
            · refine g_aloadN Xl hx (hb hby d3_61) (v := (.ref t)) rfl rfl (pc' := 62) rfl ?_
              refine g_iload Xl hx (hb hby d3_62) (v := j) rfl (pc' := 64) rfl ?_
              refine g_dup2 Xl hx (hb hby d3_64) rfl rfl (pc' := 65) rfl ?_
              refine g_laload Xl hx hZ El (k := k) Fl0 hjk (by omega) (hb hby d3_65) (pc' := 66) rfl ?_
              refine g_lload Xl hx (hb hby d3_66) (v := ((g sx) <<< ((p1 % (64 : Int32)).toInt64 &&& 63))) rfl (pc' := 68) rfl ?_
              refine g_lor Xl hx (hb hby d3_68) (pc' := 69) rfl ?_
              refine g_lastore Xl hx hZ El (k := k) (x := ((g k) ||| ((g sx) <<< ((p1 % (64 : Int32)).toInt64 &&& 63)))) Fl0 hjk (by omega) Nl gn_t (hb hby d3_69) (pc' := 70) rfl (fun T16 h17 L18 X19 e20 W21 N22 A23 => ?_)
              have K24 := Kl.wr W21 (Or.inl (by simp))
              have Z25 : NLe n0 h17.size := Zl.wr W21
              have hx1 : (((g k) ||| ((g sx) <<< ((p1 % (64 : Int32)).toInt64 &&& 63)))).toBitVec = own_N f ws1 bs k := own_NA f g hb1 hbs hwk (Or.inr (by omega)) hsx e1 e2
              refine g_iinc X19 hx (hb hby d3_70) (v := -1) (by decide) (x := j) rfl (Ls' := #[.val (.ref t), .val (.int p1), .val (.int (p1 / (64 : Int32))), .val (.int (p1 % (64 : Int32))), .val (.int (j + (-1 : Int32))), .val (.int (j - (p1 / (64 : Int32)))), .val (.long ((g sx) <<< ((p1 % (64 : Int32)).toInt64 &&& 63))), .second]) rfl (pc' := 73) rfl ?_
              refine g_goto X19 hx (hb hby d3_73) (by decide) (pc' := 16) (by decide) ?_
              exact ih (j + (-1 : Int32)) (oupd g k ((g k) ||| ((g sx) <<< ((p1 % (64 : Int32)).toInt64 &&& 63)))) (.val (.int (j - (p1 / (64 : Int32))))) (.val (.long ((g sx) <<< ((p1 % (64 : Int32)).toInt64 &&& 63)))) .second _ _ _ (own_dec hjk (by omega)) (by omega) (own_D_step hD hx1) (Or.inr ⟨_, _, rfl, rfl, rfl⟩) X19 e20 N22 Z25 A23 K24
            · obtain ⟨sy, hsy⟩ : ∃ sy, sy = sx - 1 := ⟨_, rfl⟩
              have hs1 : ((j - (p1 / (64 : Int32))) - (1 : Int32)).toInt = (sy : Int) := by rw [hsy]; exact own_sub hsrc (b := 1) rfl (by omega)
              have hsh2 : ((64 : Int32) - (p1 % (64 : Int32))).toInt = ((64 - bs : Nat) : Int) := own_sub (a := 64) rfl hb1 (by omega)
              have e3 := (hD sy (by omega)).1 (by omega)
              refine g_lload Xl hx (hb hby d3_45) (v := ((g sx) <<< ((p1 % (64 : Int32)).toInt64 &&& 63))) rfl (pc' := 47) rfl ?_
              refine g_aloadN Xl hx (hb hby d3_47) (v := (.ref t)) rfl rfl (pc' := 48) rfl ?_
              refine g_iload Xl hx (hb hby d3_48) (v := (j - (p1 / (64 : Int32)))) rfl (pc' := 50) rfl ?_
              refine g_iconst Xl hx (hb hby d3_50) (v := 1) (by decide) (pc' := 51) rfl ?_
              refine g_isub Xl hx (hb hby d3_51) (pc' := 52) rfl ?_
              refine g_laload Xl hx hZ El (k := sy) Fl0 hs1 (by omega) (hb hby d3_52) (pc' := 53) rfl ?_
              refine g_bipush Xl hx (hb hby d3_53) (v := 64) (by decide) (pc' := 55) rfl ?_
              refine g_iloadN Xl hx (hb hby d3_55) (v := (p1 % (64 : Int32))) rfl (pc' := 56) rfl ?_
              refine g_isub Xl hx (hb hby d3_56) (pc' := 57) rfl ?_
              refine g_lushr Xl hx (hb hby d3_57) (pc' := 58) rfl ?_
              refine g_lor Xl hx (hb hby d3_58) (pc' := 59) rfl ?_
              refine g_lstore Xl hx (hb hby d3_59) (Ls' := #[.val (.ref t), .val (.int p1), .val (.int (p1 / (64 : Int32))), .val (.int (p1 % (64 : Int32))), .val (.int j), .val (.int (j - (p1 / (64 : Int32)))), .val (.long (((g sx) <<< ((p1 % (64 : Int32)).toInt64 &&& 63)) ||| (XT.ushrL (g sy) ((64 : Int32) - (p1 % (64 : Int32)))))), .second]) rfl (pc' := 61) rfl ?_
              refine g_aloadN Xl hx (hb hby d3_61) (v := (.ref t)) rfl rfl (pc' := 62) rfl ?_
              refine g_iload Xl hx (hb hby d3_62) (v := j) rfl (pc' := 64) rfl ?_
              refine g_dup2 Xl hx (hb hby d3_64) rfl rfl (pc' := 65) rfl ?_
              refine g_laload Xl hx hZ El (k := k) Fl0 hjk (by omega) (hb hby d3_65) (pc' := 66) rfl ?_
              refine g_lload Xl hx (hb hby d3_66) (v := (((g sx) <<< ((p1 % (64 : Int32)).toInt64 &&& 63)) ||| (XT.ushrL (g sy) ((64 : Int32) - (p1 % (64 : Int32)))))) rfl (pc' := 68) rfl ?_
              refine g_lor Xl hx (hb hby d3_68) (pc' := 69) rfl ?_
              refine g_lastore Xl hx hZ El (k := k) (x := ((g k) ||| (((g sx) <<< ((p1 % (64 : Int32)).toInt64 &&& 63)) ||| (XT.ushrL (g sy) ((64 : Int32) - (p1 % (64 : Int32))))))) Fl0 hjk (by omega) Nl gn_t (hb hby d3_69) (pc' := 70) rfl (fun T27 h28 L29 X30 e31 W32 N33 A34 => ?_)
              have K35 := Kl.wr W32 (Or.inl (by simp))
              have Z36 : NLe n0 h28.size := Zl.wr W32
              have hx1 : (((g k) ||| (((g sx) <<< ((p1 % (64 : Int32)).toInt64 &&& 63)) ||| (XT.ushrL (g sy) ((64 : Int32) - (p1 % (64 : Int32))))))).toBitVec = own_N f ws1 bs k := own_NB f g hb1 hbs hsh2 hwk ⟨by omega, by omega⟩ hsx (by omega) e1 e2 e3
              refine g_iinc X30 hx (hb hby d3_70) (v := -1) (by decide) (x := j) rfl (Ls' := #[.val (.ref t), .val (.int p1), .val (.int (p1 / (64 : Int32))), .val (.int (p1 % (64 : Int32))), .val (.int (j + (-1 : Int32))), .val (.int (j - (p1 / (64 : Int32)))), .val (.long (((g sx) <<< ((p1 % (64 : Int32)).toInt64 &&& 63)) ||| (XT.ushrL (g sy) ((64 : Int32) - (p1 % (64 : Int32)))))), .second]) rfl (pc' := 73) rfl ?_
              refine g_goto X30 hx (hb hby d3_73) (by decide) (pc' := 16) (by decide) ?_
              exact ih (j + (-1 : Int32)) (oupd g k ((g k) ||| (((g sx) <<< ((p1 % (64 : Int32)).toInt64 &&& 63)) ||| (XT.ushrL (g sy) ((64 : Int32) - (p1 % (64 : Int32))))))) (.val (.int (j - (p1 / (64 : Int32))))) (.val (.long (((g sx) <<< ((p1 % (64 : Int32)).toInt64 &&& 63)) ||| (XT.ushrL (g sy) ((64 : Int32) - (p1 % (64 : Int32))))))) .second _ _ _ (own_dec hjk (by omega)) (by omega) (own_D_step hD hx1) (Or.inr ⟨_, _, rfl, rfl, rfl⟩) X30 e31 N33 Z36 A34 K35
        · show OGoes p e s below (Q2 Z t p1 n f ws1 bs h0 n0) n0 R2.cells R2.slots Tl (mkF m 22 #[.val (.ref t), .val (.int p1), .val (.int (p1 / (64 : Int32))), .val (.int (p1 % (64 : Int32))), .val (.int j), .val (.int a5), .val (.long a6), .second] [])
          refine g_iload Xl hx (hb hby d3_22) (v := j) rfl (pc' := 24) rfl ?_
          refine g_iloadN Xl hx (hb hby d3_24) (v := (p1 / (64 : Int32))) rfl (pc' := 25) rfl ?_
          refine g_isub Xl hx (hb hby d3_25) (pc' := 26) rfl ?_
          refine g_istore Xl hx (hb hby d3_26) (Ls' := #[.val (.ref t), .val (.int p1), .val (.int (p1 / (64 : Int32))), .val (.int (p1 % (64 : Int32))), .val (.int j), .val (.int (j - (p1 / (64 : Int32)))), .val (.long a6), .second]) rfl (pc' := 28) rfl ?_
          refine g_aloadN Xl hx (hb hby d3_28) (v := (.ref t)) rfl rfl (pc' := 29) rfl ?_
          refine g_iload Xl hx (hb hby d3_29) (v := (j - (p1 / (64 : Int32)))) rfl (pc' := 31) rfl ?_
          refine g_laload Xl hx hZ El (k := sx) Fl0 hsrc (by omega) (hb hby d3_31) (pc' := 32) rfl ?_
          refine g_iloadN Xl hx (hb hby d3_32) (v := (p1 % (64 : Int32))) rfl (pc' := 33) rfl ?_
          refine g_lshl Xl hx (hb hby d3_33) (pc' := 34) rfl ?_
          refine g_lstore Xl hx (hb hby d3_34) (Ls' := #[.val (.ref t), .val (.int p1), .val (.int (p1 / (64 : Int32))), .val (.int (p1 % (64 : Int32))), .val (.int j), .val (.int (j - (p1 / (64 : Int32)))), .val (.long ((g sx) <<< ((p1 % (64 : Int32)).toInt64 &&& 63))), .second]) rfl (pc' := 36) rfl ?_
          refine g_iloadN Xl hx (hb hby d3_36) (v := (p1 % (64 : Int32))) rfl (pc' := 37) rfl ?_
          refine g_i0_eq Xl hx (a := (bs : Int)) hb1 (hb hby d3_37) (by decide) (pc' := 61) (by decide) (pc2 := 40) rfl (fun c38 => ?_) (fun c38 => ?_)
          · refine g_aloadN Xl hx (hb hby d3_61) (v := (.ref t)) rfl rfl (pc' := 62) rfl ?_
            refine g_iload Xl hx (hb hby d3_62) (v := j) rfl (pc' := 64) rfl ?_
            refine g_dup2 Xl hx (hb hby d3_64) rfl rfl (pc' := 65) rfl ?_
            refine g_laload Xl hx hZ El (k := k) Fl0 hjk (by omega) (hb hby d3_65) (pc' := 66) rfl ?_
            refine g_lload Xl hx (hb hby d3_66) (v := ((g sx) <<< ((p1 % (64 : Int32)).toInt64 &&& 63))) rfl (pc' := 68) rfl ?_
            refine g_lor Xl hx (hb hby d3_68) (pc' := 69) rfl ?_
            refine g_lastore Xl hx hZ El (k := k) (x := ((g k) ||| ((g sx) <<< ((p1 % (64 : Int32)).toInt64 &&& 63)))) Fl0 hjk (by omega) Nl gn_t (hb hby d3_69) (pc' := 70) rfl (fun T39 h40 L41 X42 e43 W44 N45 A46 => ?_)
            have K47 := Kl.wr W44 (Or.inl (by simp))
            have Z48 : NLe n0 h40.size := Zl.wr W44
            have hx1 : (((g k) ||| ((g sx) <<< ((p1 % (64 : Int32)).toInt64 &&& 63)))).toBitVec = own_N f ws1 bs k := own_NA f g hb1 hbs hwk (Or.inl (by omega)) hsx e1 e2
            refine g_iinc X42 hx (hb hby d3_70) (v := -1) (by decide) (x := j) rfl (Ls' := #[.val (.ref t), .val (.int p1), .val (.int (p1 / (64 : Int32))), .val (.int (p1 % (64 : Int32))), .val (.int (j + (-1 : Int32))), .val (.int (j - (p1 / (64 : Int32)))), .val (.long ((g sx) <<< ((p1 % (64 : Int32)).toInt64 &&& 63))), .second]) rfl (pc' := 73) rfl ?_
            refine g_goto X42 hx (hb hby d3_73) (by decide) (pc' := 16) (by decide) ?_
            exact ih (j + (-1 : Int32)) (oupd g k ((g k) ||| ((g sx) <<< ((p1 % (64 : Int32)).toInt64 &&& 63)))) (.val (.int (j - (p1 / (64 : Int32))))) (.val (.long ((g sx) <<< ((p1 % (64 : Int32)).toInt64 &&& 63)))) .second _ _ _ (own_dec hjk (by omega)) (by omega) (own_D_step hD hx1) (Or.inr ⟨_, _, rfl, rfl, rfl⟩) X42 e43 N45 Z48 A46 K47
          · refine g_iload Xl hx (hb hby d3_40) (v := (j - (p1 / (64 : Int32)))) rfl (pc' := 42) rfl ?_
            refine g_i0_le Xl hx (a := (sx : Int)) hsrc (hb hby d3_42) (by decide) (pc' := 61) (by decide) (pc2 := 45) rfl (fun c50 => ?_) (fun c50 => ?_)
            · refine g_aloadN Xl hx (hb hby d3_61) (v := (.ref t)) rfl rfl (pc' := 62) rfl ?_
              refine g_iload Xl hx (hb hby d3_62) (v := j) rfl (pc' := 64) rfl ?_
              refine g_dup2 Xl hx (hb hby d3_64) rfl rfl (pc' := 65) rfl ?_
              refine g_laload Xl hx hZ El (k := k) Fl0 hjk (by omega) (hb hby d3_65) (pc' := 66) rfl ?_
              refine g_lload Xl hx (hb hby d3_66) (v := ((g sx) <<< ((p1 % (64 : Int32)).toInt64 &&& 63))) rfl (pc' := 68) rfl ?_
              refine g_lor Xl hx (hb hby d3_68) (pc' := 69) rfl ?_
              refine g_lastore Xl hx hZ El (k := k) (x := ((g k) ||| ((g sx) <<< ((p1 % (64 : Int32)).toInt64 &&& 63)))) Fl0 hjk (by omega) Nl gn_t (hb hby d3_69) (pc' := 70) rfl (fun T51 h52 L53 X54 e55 W56 N57 A58 => ?_)
              have K59 := Kl.wr W56 (Or.inl (by simp))
              have Z60 : NLe n0 h52.size := Zl.wr W56
              have hx1 : (((g k) ||| ((g sx) <<< ((p1 % (64 : Int32)).toInt64 &&& 63)))).toBitVec = own_N f ws1 bs k := own_NA f g hb1 hbs hwk (Or.inr (by omega)) hsx e1 e2
              refine g_iinc X54 hx (hb hby d3_70) (v := -1) (by decide) (x := j) rfl (Ls' := #[.val (.ref t), .val (.int p1), .val (.int (p1 / (64 : Int32))), .val (.int (p1 % (64 : Int32))), .val (.int (j + (-1 : Int32))), .val (.int (j - (p1 / (64 : Int32)))), .val (.long ((g sx) <<< ((p1 % (64 : Int32)).toInt64 &&& 63))), .second]) rfl (pc' := 73) rfl ?_
              refine g_goto X54 hx (hb hby d3_73) (by decide) (pc' := 16) (by decide) ?_
              exact ih (j + (-1 : Int32)) (oupd g k ((g k) ||| ((g sx) <<< ((p1 % (64 : Int32)).toInt64 &&& 63)))) (.val (.int (j - (p1 / (64 : Int32))))) (.val (.long ((g sx) <<< ((p1 % (64 : Int32)).toInt64 &&& 63)))) .second _ _ _ (own_dec hjk (by omega)) (by omega) (own_D_step hD hx1) (Or.inr ⟨_, _, rfl, rfl, rfl⟩) X54 e55 N57 Z60 A58 K59
            · obtain ⟨sy, hsy⟩ : ∃ sy, sy = sx - 1 := ⟨_, rfl⟩
              have hs1 : ((j - (p1 / (64 : Int32))) - (1 : Int32)).toInt = (sy : Int) := by rw [hsy]; exact own_sub hsrc (b := 1) rfl (by omega)
              have hsh2 : ((64 : Int32) - (p1 % (64 : Int32))).toInt = ((64 - bs : Nat) : Int) := own_sub (a := 64) rfl hb1 (by omega)
              have e3 := (hD sy (by omega)).1 (by omega)
              refine g_lload Xl hx (hb hby d3_45) (v := ((g sx) <<< ((p1 % (64 : Int32)).toInt64 &&& 63))) rfl (pc' := 47) rfl ?_
              refine g_aloadN Xl hx (hb hby d3_47) (v := (.ref t)) rfl rfl (pc' := 48) rfl ?_
              refine g_iload Xl hx (hb hby d3_48) (v := (j - (p1 / (64 : Int32)))) rfl (pc' := 50) rfl ?_
              refine g_iconst Xl hx (hb hby d3_50) (v := 1) (by decide) (pc' := 51) rfl ?_
              refine g_isub Xl hx (hb hby d3_51) (pc' := 52) rfl ?_
              refine g_laload Xl hx hZ El (k := sy) Fl0 hs1 (by omega) (hb hby d3_52) (pc' := 53) rfl ?_
              refine g_bipush Xl hx (hb hby d3_53) (v := 64) (by decide) (pc' := 55) rfl ?_
              refine g_iloadN Xl hx (hb hby d3_55) (v := (p1 % (64 : Int32))) rfl (pc' := 56) rfl ?_
              refine g_isub Xl hx (hb hby d3_56) (pc' := 57) rfl ?_
              refine g_lushr Xl hx (hb hby d3_57) (pc' := 58) rfl ?_
              refine g_lor Xl hx (hb hby d3_58) (pc' := 59) rfl ?_
              refine g_lstore Xl hx (hb hby d3_59) (Ls' := #[.val (.ref t), .val (.int p1), .val (.int (p1 / (64 : Int32))), .val (.int (p1 % (64 : Int32))), .val (.int j), .val (.int (j - (p1 / (64 : Int32)))), .val (.long (((g sx) <<< ((p1 % (64 : Int32)).toInt64 &&& 63)) ||| (XT.ushrL (g sy) ((64 : Int32) - (p1 % (64 : Int32)))))), .second]) rfl (pc' := 61) rfl ?_
              refine g_aloadN Xl hx (hb hby d3_61) (v := (.ref t)) rfl rfl (pc' := 62) rfl ?_
              refine g_iload Xl hx (hb hby d3_62) (v := j) rfl (pc' := 64) rfl ?_
              refine g_dup2 Xl hx (hb hby d3_64) rfl rfl (pc' := 65) rfl ?_
              refine g_laload Xl hx hZ El (k := k) Fl0 hjk (by omega) (hb hby d3_65) (pc' := 66) rfl ?_
              refine g_lload Xl hx (hb hby d3_66) (v := (((g sx) <<< ((p1 % (64 : Int32)).toInt64 &&& 63)) ||| (XT.ushrL (g sy) ((64 : Int32) - (p1 % (64 : Int32)))))) rfl (pc' := 68) rfl ?_
              refine g_lor Xl hx (hb hby d3_68) (pc' := 69) rfl ?_
              refine g_lastore Xl hx hZ El (k := k) (x := ((g k) ||| (((g sx) <<< ((p1 % (64 : Int32)).toInt64 &&& 63)) ||| (XT.ushrL (g sy) ((64 : Int32) - (p1 % (64 : Int32))))))) Fl0 hjk (by omega) Nl gn_t (hb hby d3_69) (pc' := 70) rfl (fun T62 h63 L64 X65 e66 W67 N68 A69 => ?_)
              have K70 := Kl.wr W67 (Or.inl (by simp))
              have Z71 : NLe n0 h63.size := Zl.wr W67
              have hx1 : (((g k) ||| (((g sx) <<< ((p1 % (64 : Int32)).toInt64 &&& 63)) ||| (XT.ushrL (g sy) ((64 : Int32) - (p1 % (64 : Int32))))))).toBitVec = own_N f ws1 bs k := own_NB f g hb1 hbs hsh2 hwk ⟨by omega, by omega⟩ hsx (by omega) e1 e2 e3
              refine g_iinc X65 hx (hb hby d3_70) (v := -1) (by decide) (x := j) rfl (Ls' := #[.val (.ref t), .val (.int p1), .val (.int (p1 / (64 : Int32))), .val (.int (p1 % (64 : Int32))), .val (.int (j + (-1 : Int32))), .val (.int (j - (p1 / (64 : Int32)))), .val (.long (((g sx) <<< ((p1 % (64 : Int32)).toInt64 &&& 63)) ||| (XT.ushrL (g sy) ((64 : Int32) - (p1 % (64 : Int32)))))), .second]) rfl (pc' := 73) rfl ?_
              refine g_goto X65 hx (hb hby d3_73) (by decide) (pc' := 16) (by decide) ?_
              exact ih (j + (-1 : Int32)) (oupd g k ((g k) ||| (((g sx) <<< ((p1 % (64 : Int32)).toInt64 &&& 63)) ||| (XT.ushrL (g sy) ((64 : Int32) - (p1 % (64 : Int32))))))) (.val (.int (j - (p1 / (64 : Int32))))) (.val (.long (((g sx) <<< ((p1 % (64 : Int32)).toInt64 &&& 63)) ||| (XT.ushrL (g sy) ((64 : Int32) - (p1 % (64 : Int32))))))) .second _ _ _ (own_dec hjk (by omega)) (by omega) (own_D_step hD hx1) (Or.inr ⟨_, _, rfl, rfl, rfl⟩) X65 e66 N68 Z71 A69 K70
  exact loop n ((Int32.ofNat n) - (1 : Int32)) f .unset .unset .unset _ _ _ hj0 (Nat.le_refl _) (fun y hy => ⟨fun _ => rfl, fun z => absurd z (by omega)⟩) (Or.inl ⟨rfl, rfl, rfl⟩) X0 e0 N0 Z0 Fp0 K0
theorem d2_0 : decode prog_26_method_4_code 0 = .ok (.iload_n 3, 1) := by decide +kernel
theorem d2_1 : decode prog_26_method_4_code 1 = .ok (.bipush 64, 2) := by decide +kernel
theorem d2_3 : decode prog_26_method_4_code 3 = .ok (.idiv, 1) := by decide +kernel
theorem d2_4 : decode prog_26_method_4_code 4 = .ok (.iconst 1, 1) := by decide +kernel
theorem d2_5 : decode prog_26_method_4_code 5 = .ok (.iadd, 1) := by decide +kernel
theorem d2_6 : decode prog_26_method_4_code 6 = .ok (.newarray .long, 2) := by decide +kernel
theorem d2_8 : decode prog_26_method_4_code 8 = .ok (.astore 4, 2) := by decide +kernel
theorem d2_10 : decode prog_26_method_4_code 10 = .ok (.aload 4, 2) := by decide +kernel
theorem d2_12 : decode prog_26_method_4_code 12 = .ok (.iconst 0, 1) := by decide +kernel
theorem d2_13 : decode prog_26_method_4_code 13 = .ok (.lconst 1, 1) := by decide +kernel
theorem d2_14 : decode prog_26_method_4_code 14 = .ok (.lastore, 1) := by decide +kernel
theorem d2_15 : decode prog_26_method_4_code 15 = .ok (.aload_n 0, 1) := by decide +kernel
theorem d2_16 : decode prog_26_method_4_code 16 = .ok (.astore 5, 2) := by decide +kernel
theorem d2_18 : decode prog_26_method_4_code 18 = .ok (.aload 5, 2) := by decide +kernel
theorem d2_20 : decode prog_26_method_4_code 20 = .ok (.arraylength, 1) := by decide +kernel
theorem d2_21 : decode prog_26_method_4_code 21 = .ok (.istore 6, 2) := by decide +kernel
theorem d2_23 : decode prog_26_method_4_code 23 = .ok (.iconst 0, 1) := by decide +kernel
theorem d2_24 : decode prog_26_method_4_code 24 = .ok (.istore 7, 2) := by decide +kernel
theorem d2_26 : decode prog_26_method_4_code 26 = .ok (.iload 7, 2) := by decide +kernel
theorem d2_28 : decode prog_26_method_4_code 28 = .ok (.iload 6, 2) := by decide +kernel
theorem d2_30 : decode prog_26_method_4_code 30 = .ok (.if_icmp .ge 50, 3) := by decide +kernel
theorem d2_33 : decode prog_26_method_4_code 33 = .ok (.aload 5, 2) := by decide +kernel
theorem d2_35 : decode prog_26_method_4_code 35 = .ok (.iload 7, 2) := by decide +kernel
theorem d2_37 : decode prog_26_method_4_code 37 = .ok (.laload, 1) := by decide +kernel
theorem d2_38 : decode prog_26_method_4_code 38 = .ok (.lstore 8, 2) := by decide +kernel
theorem d2_40 : decode prog_26_method_4_code 40 = .ok (.aload 4, 2) := by decide +kernel
theorem d2_42 : decode prog_26_method_4_code 42 = .ok (.lload 8, 2) := by decide +kernel
theorem d2_44 : decode prog_26_method_4_code 44 = .ok (.lload_n 1, 1) := by decide +kernel
theorem d2_45 : decode prog_26_method_4_code 45 = .ok (.ldiv, 1) := by decide +kernel
theorem d2_46 : decode prog_26_method_4_code 46 = .ok (.l2i, 1) := by decide +kernel
theorem d2_47 : decode prog_26_method_4_code 47 = .ok (.invokestatic 75, 3) := by decide +kernel
theorem d2_50 : decode prog_26_method_4_code 50 = .ok (.aload 4, 2) := by decide +kernel
theorem d2_52 : decode prog_26_method_4_code 52 = .ok (.iload_n 3, 1) := by decide +kernel
theorem d2_53 : decode prog_26_method_4_code 53 = .ok (.bipush 64, 2) := by decide +kernel
theorem d2_55 : decode prog_26_method_4_code 55 = .ok (.idiv, 1) := by decide +kernel
theorem d2_56 : decode prog_26_method_4_code 56 = .ok (.laload, 1) := by decide +kernel
theorem d2_57 : decode prog_26_method_4_code 57 = .ok (.lconst 1, 1) := by decide +kernel
theorem d2_58 : decode prog_26_method_4_code 58 = .ok (.iload_n 3, 1) := by decide +kernel
theorem d2_59 : decode prog_26_method_4_code 59 = .ok (.bipush 64, 2) := by decide +kernel
theorem d2_61 : decode prog_26_method_4_code 61 = .ok (.irem, 1) := by decide +kernel
theorem d2_62 : decode prog_26_method_4_code 62 = .ok (.lshl, 1) := by decide +kernel
theorem d2_63 : decode prog_26_method_4_code 63 = .ok (.land, 1) := by decide +kernel
theorem d2_64 : decode prog_26_method_4_code 64 = .ok (.lconst 0, 1) := by decide +kernel
theorem d2_65 : decode prog_26_method_4_code 65 = .ok (.lcmp, 1) := by decide +kernel
theorem d2_66 : decode prog_26_method_4_code 66 = .ok (.ifCond .eq 8, 3) := by decide +kernel
theorem d2_69 : decode prog_26_method_4_code 69 = .ok (.iload_n 3, 1) := by decide +kernel
theorem d2_70 : decode prog_26_method_4_code 70 = .ok (.i2l, 1) := by decide +kernel
theorem d2_71 : decode prog_26_method_4_code 71 = .ok (.lload_n 1, 1) := by decide +kernel
theorem d2_72 : decode prog_26_method_4_code 72 = .ok (.lmul, 1) := by decide +kernel
theorem d2_73 : decode prog_26_method_4_code 73 = .ok (.lreturn, 1) := by decide +kernel
theorem d2_74 : decode prog_26_method_4_code 74 = .ok (.iinc 7 1, 3) := by decide +kernel
theorem d2_77 : decode prog_26_method_4_code 77 = .ok (.goto (-51), 3) := by decide +kernel
theorem d2_80 : decode prog_26_method_4_code 80 = .ok (.iload_n 3, 1) := by decide +kernel
theorem d2_81 : decode prog_26_method_4_code 81 = .ok (.istore 5, 2) := by decide +kernel
theorem d2_83 : decode prog_26_method_4_code 83 = .ok (.iload 5, 2) := by decide +kernel
theorem d2_85 : decode prog_26_method_4_code 85 = .ok (.ifCond .le 36, 3) := by decide +kernel
theorem d2_88 : decode prog_26_method_4_code 88 = .ok (.aload 4, 2) := by decide +kernel
theorem d2_90 : decode prog_26_method_4_code 90 = .ok (.iload 5, 2) := by decide +kernel
theorem d2_92 : decode prog_26_method_4_code 92 = .ok (.bipush 64, 2) := by decide +kernel
theorem d2_94 : decode prog_26_method_4_code 94 = .ok (.idiv, 1) := by decide +kernel
theorem d2_95 : decode prog_26_method_4_code 95 = .ok (.laload, 1) := by decide +kernel
theorem d2_96 : decode prog_26_method_4_code 96 = .ok (.lconst 1, 1) := by decide +kernel
theorem d2_97 : decode prog_26_method_4_code 97 = .ok (.iload 5, 2) := by decide +kernel
theorem d2_99 : decode prog_26_method_4_code 99 = .ok (.bipush 64, 2) := by decide +kernel
theorem d2_101 : decode prog_26_method_4_code 101 = .ok (.irem, 1) := by decide +kernel
theorem d2_102 : decode prog_26_method_4_code 102 = .ok (.lshl, 1) := by decide +kernel
theorem d2_103 : decode prog_26_method_4_code 103 = .ok (.land, 1) := by decide +kernel
theorem d2_104 : decode prog_26_method_4_code 104 = .ok (.lconst 0, 1) := by decide +kernel
theorem d2_105 : decode prog_26_method_4_code 105 = .ok (.lcmp, 1) := by decide +kernel
theorem d2_106 : decode prog_26_method_4_code 106 = .ok (.ifCond .eq 9, 3) := by decide +kernel
theorem d2_109 : decode prog_26_method_4_code 109 = .ok (.iload 5, 2) := by decide +kernel
theorem d2_111 : decode prog_26_method_4_code 111 = .ok (.i2l, 1) := by decide +kernel
theorem d2_112 : decode prog_26_method_4_code 112 = .ok (.lload_n 1, 1) := by decide +kernel
theorem d2_113 : decode prog_26_method_4_code 113 = .ok (.lmul, 1) := by decide +kernel
theorem d2_114 : decode prog_26_method_4_code 114 = .ok (.lreturn, 1) := by decide +kernel
theorem d2_115 : decode prog_26_method_4_code 115 = .ok (.iinc 5 (-1), 3) := by decide +kernel
theorem d2_118 : decode prog_26_method_4_code 118 = .ok (.goto (-35), 3) := by decide +kernel
theorem d2_121 : decode prog_26_method_4_code 121 = .ok (.lconst 0, 1) := by decide +kernel
theorem d2_122 : decode prog_26_method_4_code 122 = .ok (.lreturn, 1) := by decide +kernel
theorem pn_2 : plainFor (⟨"com/example/stagecue/stagecue/engine/SubsetSum", "byBitset", "([JJI)J"⟩ : MethodName) = true := by first | exact plainFor_of_name (by first | (simp [plainName, overriddenIn]; done) | decide +kernel) | decide +kernel
def Q3 (Z : State) (t : Addr) (q : Int64) (p3 : Int32) (N : Nat) (fs : Nat → Int64) (u : Nat) (av : Nat → Nat) (h0 : Heap) (n0 : Nat) (v : Option Value) (h : Heap) : Prop := ∃ r : Int64, ∃ s2 : Nat, v = some (.long r) ∧ (r.toInt = (s2 : Int) * q.toInt ∧ s2 ≤ u ∧ own_S av N s2 ∧ ∀ x, x ≤ u → own_S av N x → x ≤ s2) ∧ Keep h0 h []
abbrev R3 : Room := { frames := 1, cells := 1, slots := 4, locals := 21 }
set_option maxRecDepth 65536 in
set_option maxHeartbeats 40000000 in
theorem rm3 (l : Launch) (Z : State) (a0 : Array Value) (hw : ∀ d ∈ tables_1, d.before a0 Z = true)  (t : Addr) (q : Int64) (p3 : Int32) (N : Nat) (fs : Nat → Int64) (u : Nat) (av : Nat → Nat) (h0 : Heap) (n0 : Nat) (Z0 : NLe n0 h0.size) (Fp0 : LA Z h0 t N fs) (hu : p3.toInt = (u : Int)) (hu2 : u ≤ 255) (hN : N ≤ 3) (hq : 0 < q.toInt ∧ q.toInt ≤ 1125899906842624) (hav : ∀ i, i < N → (0 < av i ∧ av i ≤ 512) ∧ ((fs i / q).toInt32).toInt = (av i : Int)) :
    Con l (⟨"com/example/stagecue/stagecue/engine/SubsetSum", "byBitset", "([JJI)J"⟩ : MethodName) prog_26_method_4_code 10 (some .long) [] R3 Z #[(.ref t), (.long q), (.int p3)] h0 n0 (Q3 Z t q p3 N fs u av h0 n0) := by
  refine con_of (Ls0 := #[.val (.ref t), .val (.long q), .second, .val (.int p3), .unset, .unset, .unset, .unset, .unset, .unset]) pn_2 (fun m => by first | (simp [entryFrame, mkF, argsToLocals, Value.category, maxLocals]; done) | rfl) ?_
  intro p e s m below meth c s₁ X0 hx hby hml hZ hown hnm hret hlk e0 N0
  show OGoes p e s below (Q3 Z t q p3 N fs u av h0 n0) n0 R3.cells R3.slots s₁ (mkF m 0 #[.val (.ref t), .val (.long q), .second, .val (.int p3), .unset, .unset, .unset, .unset, .unset, .unset] [])
  have K0 : Keep h0 h0 [] := Keep.refl _ _
  have hNz := i32_of_nat N (by omega)
  obtain ⟨ud, hud⟩ : ∃ ud, ud = u / 64 := ⟨_, rfl⟩
  obtain ⟨um, hum⟩ : ∃ um, um = u % 64 := ⟨_, rfl⟩
  obtain ⟨hd, hm⟩ := own_div64N hu hud hum
  have hwn := own_inc hd (by omega)
  have hqne : q ≠ 0 := fun z => by rw [z] at hq; exact absurd hq.1 (by decide)
  refine g_iloadN X0 hx (hb hby d2_0) (v := p3) rfl (pc' := 1) rfl ?_
  refine g_bipush X0 hx (hb hby d2_1) (v := 64) (by decide) (pc' := 3) rfl ?_
  refine g_idiv X0 hx (hb hby d2_3) (by decide) (pc' := 4) rfl ?_
  refine g_iconst X0 hx (hb hby d2_4) (v := 1) (by decide) (pc' := 5) rfl ?_
  refine g_iadd X0 hx (hb hby d2_5) (pc' := 6) rfl ?_
  refine g_newLA X0 hx hZ (hw _ (List.mem_of_getElem? (i := 1) rfl)) e0 (n := (ud + 1)) hwn (cap := 4) (by omega) (by decide) (hb hby d2_6) (by decide) (by decide) (pc' := 8) rfl (fun T1 h2 a3 g4 X5 e6 E7 l8 A9  => ?_)
  have Z10 : NLe n0 h2.size := Z0.tr E7.1
  have nl11 : NLe n0 a3 := NLe.at g4 Z0
  have ne12 : Apart t a3 := Apart.new g4 Fp0.lt
  have F13 := Fp0.ext E7
  have kf14 : NLe h0.size a3 := NLe.at g4 K0.1
  have K15 := K0.ext E7
  clear g4 l8
  refine g_astore X5 hx (hb hby d2_8) rfl (Ls' := #[.val (.ref t), .val (.long q), .second, .val (.int p3), .val (.ref a3), .unset, .unset, .unset, .unset, .unset]) rfl (pc' := 10) rfl ?_
  refine g_aload X5 hx (hb hby d2_10) (v := (.ref a3)) rfl rfl (pc' := 12) rfl ?_
  refine g_iconst X5 hx (hb hby d2_12) (v := 0) (by decide) (pc' := 13) rfl ?_
  refine g_lconst X5 hx (hb hby d2_13) (v := 1) (by decide) (pc' := 14) rfl ?_
  refine g_lastore X5 hx hZ e6 (k := 0) (x := (1 : Int64)) A9 rfl (by omega) N0 nl11 (hb hby d2_14) (pc' := 15) rfl (fun T16 h17 L18 X19 e20 W21 N22 A23 => ?_)
  have K24 := K15.wr W21 (Or.inr kf14)
  have Z25 : NLe n0 h17.size := Z10.wr W21
  have F26 := F13.other W21 ne12
  refine g_aloadN X19 hx (hb hby d2_15) (v := (.ref t)) rfl rfl (pc' := 16) rfl ?_
  refine g_astore X19 hx (hb hby d2_16) rfl (Ls' := #[.val (.ref t), .val (.long q), .second, .val (.int p3), .val (.ref a3), .val (.ref t), .unset, .unset, .unset, .unset]) rfl (pc' := 18) rfl ?_
  refine g_aload X19 hx (hb hby d2_18) (v := (.ref t)) rfl rfl (pc' := 20) rfl ?_
  refine g_lenLA X19 hx hZ e20 (z := (Int32.ofNat N)) F26 hNz (hb hby d2_20) (pc' := 21) rfl ?_
  refine g_istore X19 hx (hb hby d2_21) (Ls' := #[.val (.ref t), .val (.long q), .second, .val (.int p3), .val (.ref a3), .val (.ref t), .val (.int (Int32.ofNat N)), .unset, .unset, .unset]) rfl (pc' := 23) rfl ?_
  refine g_iconst X19 hx (hb hby d2_23) (v := 0) (by decide) (pc' := 24) rfl ?_
  refine g_istore X19 hx (hb hby d2_24) (Ls' := #[.val (.ref t), .val (.long q), .second, .val (.int p3), .val (.ref a3), .val (.ref t), .val (.int (Int32.ofNat N)), .val (.int (0 : Int32)), .unset, .unset]) rfl (pc' := 26) rfl ?_
  have loop : ∀ (k : Nat) (i : Nat) (j : Int32) (g : Nat → Int64) (s8 : Slot) (s9 : Slot) (Tl : State) (Ll : List Loc) (hl : Heap) , i + k = N → j.toInt = (i : Int) → (∀ x, x < 64 * (ud + 1) → (own_B g x = true ↔ own_S av i x)) → ((s8 = .unset ∧ s9 = .unset) ∨ ∃ (a8 : Int64), s8 = .val (.long a8) ∧ s9 = .second) → Stand p l e R3 s m #[(.ref t), (.long q), (.int p3)] below meth c Tl Ll 1 4 → Tl.heap = hl → Fr n0 Ll → NLe n0 hl.size → LA Z hl a3 (ud + 1) g → LA Z hl t N fs → Keep h0 hl [] → OGoes p e s below (Q3 Z t q p3 N fs u av h0 n0) n0 R3.cells R3.slots Tl (mkF m 26 #[.val (.ref t), .val (.long q), .second, .val (.int p3), .val (.ref a3), .val (.ref t), .val (.int (Int32.ofNat N)), .val (.int j), s8, s9] []) := by
    intro k; induction k with
    | zero =>
      intro i j g s8 s9 Tl Ll hl hik hj hB hsl Xl El Nl Zl Fl0 Fl1 Kl
      refine g_iload Xl hx (hb hby d2_26) (v := j) rfl (pc' := 28) rfl ?_
      refine g_iload Xl hx (hb hby d2_28) (v := (Int32.ofNat N)) rfl (pc' := 30) rfl ?_
      refine g_ii_ge Xl hx (a := (i : Int)) (b := (N : Int)) hj hNz (hb hby d2_30) (by decide) (pc' := 80) (by decide) (pc2 := 33) rfl (fun c28 => ?_) (fun c28 => False.elim (by omega))
      refine g_iloadN Xl hx (hb hby d2_80) (v := p3) rfl (pc' := 81) rfl ?_
      refine g_istore Xl hx (hb hby d2_81) (Ls' := #[.val (.ref t), .val (.long q), .second, .val (.int p3), .val (.ref a3), .val (.int p3), .val (.int (Int32.ofNat N)), .val (.int j), s8, s9]) rfl (pc' := 83) rfl ?_
      have hi : i = N := by omega
      rw [hi] at hB
      have loop2 : ∀ (k : Nat) (y : Int32) (Tl : State) (Ll : List Loc) , y.toInt = ((k : Nat) : Int) → k ≤ u → (∀ x, x ≤ u → own_S av N x → x ≤ k) → Stand p l e R3 s m #[(.ref t), (.long q), (.int p3)] below meth c Tl Ll 1 4 → Tl.heap = hl → Fr n0 Ll → LA Z hl a3 (ud + 1) g → OGoes p e s below (Q3 Z t q p3 N fs u av h0 n0) n0 R3.cells R3.slots Tl (mkF m 83 #[.val (.ref t), .val (.long q), .second, .val (.int p3), .val (.ref a3), .val (.int y), .val (.int (Int32.ofNat N)), .val (.int j), s8, s9] []) := by
        intro k; induction k with
        | zero =>
          intro y Tl Ll hy hku hmax Xl El Nl Fl0
          refine g_iload Xl hx (hb hby d2_83) (v := y) rfl (pc' := 85) rfl ?_
          refine g_i0_le Xl hx (a := ((0 : Nat) : Int)) hy (hb hby d2_85) (by decide) (pc' := 121) (by decide) (pc2 := 88) rfl (fun c29 => ?_) (fun c29 => False.elim (by omega))
          refine g_lconst Xl hx (hb hby d2_121) (v := 0) (by decide) (pc' := 122) rfl ?_
          refine g_retJ Xl hx hlk hret (hb hby d2_122) Nl (by decide) (by decide) ?_
          rw [El]
          exact ⟨_, 0, rfl, ⟨by show (0 : Int64).toInt = ((0 : Nat) : Int) * q.toInt; rw [show (0 : Int64).toInt = 0 from rfl]; simp, by omega, own_S_zero av N, hmax⟩, Kl⟩
        | succ k ih =>
          intro y Tl Ll hy hku hmax Xl El Nl Fl0
          obtain ⟨yd, hyd⟩ : ∃ yd, yd = (k + 1) / 64 := ⟨_, rfl⟩
          obtain ⟨ym, hym⟩ : ∃ ym, ym = (k + 1) % 64 := ⟨_, rfl⟩
          obtain ⟨hy1, hy2⟩ := own_div64N hy hyd hym
          refine g_iload Xl hx (hb hby d2_83) (v := y) rfl (pc' := 85) rfl ?_
          refine g_i0_le Xl hx (a := ((k + 1 : Nat) : Int)) hy (hb hby d2_85) (by decide) (pc' := 121) (by decide) (pc2 := 88) rfl (fun c30 => False.elim (by omega)) (fun c30 => ?_)
          refine g_aload Xl hx (hb hby d2_88) (v := (.ref a3)) rfl rfl (pc' := 90) rfl ?_
          refine g_iload Xl hx (hb hby d2_90) (v := y) rfl (pc' := 92) rfl ?_
          refine g_bipush Xl hx (hb hby d2_92) (v := 64) (by decide) (pc' := 94) rfl ?_
          refine g_idiv Xl hx (hb hby d2_94) (by decide) (pc' := 95) rfl ?_
          refine g_laload Xl hx hZ El (k := yd) Fl0 hy1 (by omega) (hb hby d2_95) (pc' := 96) rfl ?_
          refine g_lconst Xl hx (hb hby d2_96) (v := 1) (by decide) (pc' := 97) rfl ?_
          refine g_iload Xl hx (hb hby d2_97) (v := y) rfl (pc' := 99) rfl ?_
          refine g_bipush Xl hx (hb hby d2_99) (v := 64) (by decide) (pc' := 101) rfl ?_
          refine g_irem Xl hx (hb hby d2_101) (by decide) (pc' := 102) rfl ?_
          refine g_lshl Xl hx (hb hby d2_102) (pc' := 103) rfl ?_
          refine g_land Xl hx (hb hby d2_103) (pc' := 104) rfl ?_
          refine g_lconst Xl hx (hb hby d2_104) (v := 0) (by decide) (pc' := 105) rfl ?_
          have hbit : own_B g (k + 1) = own_bit (g yd) ym := by unfold own_B; rw [← hyd, ← hym]
          have hS1 := hB (k + 1) (by omega)
          have hym64 : ym < 64 := by omega
          have htest := own_test (g yd) hy2 hym64
          refine g_ll_eq Xl hx (a := ((g yd) &&& ((1 : Int64) <<< ((y % (64 : Int32)).toInt64 &&& 63))).toInt) (b := 0) rfl rfl (hb hby d2_105) (pc1 := 106) rfl (hb hby d2_106) (by decide) (pc' := 115) (by decide) (pc2 := 109) rfl (fun cz => ?_) (fun cz => ?_)
          · have hno : ¬ own_S av N (k + 1) := fun q1 => by have q2 := hS1.mpr q1; rw [hbit, htest.mp cz] at q2; cases q2
            clear cz htest hbit hS1
            have hy' := own_decN hy (by omega)
            refine g_iinc Xl hx (hb hby d2_115) (v := -1) (by decide) (x := y) rfl (Ls' := #[.val (.ref t), .val (.long q), .second, .val (.int p3), .val (.ref a3), .val (.int (y + (-1 : Int32))), .val (.int (Int32.ofNat N)), .val (.int j), s8, s9]) rfl (pc' := 118) rfl ?_
            refine g_goto Xl hx (hb hby d2_118) (by decide) (pc' := 83) (by decide) ?_
            exact ih (y + (-1 : Int32)) _ _ hy' (by omega) (fun x1 h1 h2 => by have h3 := hmax x1 h1 h2; have h4 : x1 ≠ k + 1 := fun q1 => hno (q1 ▸ h2); omega) Xl El Nl Fl0
          · have hyes : own_S av N (k + 1) := hS1.mp (by rw [hbit]; cases hbb : own_bit (g yd) ym; exact absurd (htest.mpr hbb) cz; rfl)
            clear cz htest hbit hS1
            have hml2 := own_mul ((c_i2l y).trans hy) rfl ⟨by omega, by omega⟩ hq
            refine g_iload Xl hx (hb hby d2_109) (v := y) rfl (pc' := 111) rfl ?_
            refine g_i2l Xl hx (hb hby d2_111) (pc' := 112) rfl ?_
            refine g_lloadN Xl hx (hb hby d2_112) (v := q) rfl (pc' := 113) rfl ?_
            refine g_lmul Xl hx (hb hby d2_113) (pc' := 114) rfl ?_
            refine g_retJ Xl hx hlk hret (hb hby d2_114) Nl (by decide) (by decide) ?_
            rw [El]
            exact ⟨_, (k + 1), rfl, ⟨hml2, by omega, hyes, hmax⟩, Kl⟩
      exact loop2 u p3 _ _ hu (Nat.le_refl _) (fun x1 h1 _ => h1) Xl El Nl Fl0
    | succ k ih =>
      intro i j g s8 s9 Tl Ll hl hik hj hB hsl Xl El Nl Zl Fl0 Fl1 Kl
      refine g_iload Xl hx (hb hby d2_26) (v := j) rfl (pc' := 28) rfl ?_
      refine g_iload Xl hx (hb hby d2_28) (v := (Int32.ofNat N)) rfl (pc' := 30) rfl ?_
      refine g_ii_ge Xl hx (a := (i : Int)) (b := (N : Int)) hj hNz (hb hby d2_30) (by decide) (pc' := 80) (by decide) (pc2 := 33) rfl (fun c31 => False.elim (by omega)) (fun c31 => ?_)
      rcases hsl with ⟨rfl, rfl⟩ | ⟨a8, rfl, rfl⟩
      · show OGoes p e s below (Q3 Z t q p3 N fs u av h0 n0) n0 R3.cells R3.slots Tl (mkF m 33 #[.val (.ref t), .val (.long q), .second, .val (.int p3), .val (.ref a3), .val (.ref t), .val (.int (Int32.ofNat N)), .val (.int j), .unset, .unset] [])
        have hav1 := hav i (by omega)
        refine g_aload Xl hx (hb hby d2_33) (v := (.ref t)) rfl rfl (pc' := 35) rfl ?_
        refine g_iload Xl hx (hb hby d2_35) (v := j) rfl (pc' := 37) rfl ?_
        refine g_laload Xl hx hZ El (k := i) Fl1 hj (by omega) (hb hby d2_37) (pc' := 38) rfl ?_
        refine g_lstore Xl hx (hb hby d2_38) (Ls' := #[.val (.ref t), .val (.long q), .second, .val (.int p3), .val (.ref a3), .val (.ref t), .val (.int (Int32.ofNat N)), .val (.int j), .val (.long (fs i)), .second]) rfl (pc' := 40) rfl ?_
        refine g_aload Xl hx (hb hby d2_40) (v := (.ref a3)) rfl rfl (pc' := 42) rfl ?_
        refine g_lload Xl hx (hb hby d2_42) (v := (fs i)) rfl (pc' := 44) rfl ?_
        refine g_lloadN Xl hx (hb hby d2_44) (v := q) rfl (pc' := 45) rfl ?_
        refine g_ldiv Xl hx (hb hby d2_45) hqne (pc' := 46) rfl ?_
        refine g_l2i Xl hx (hb hby d2_46) (pc' := 47) rfl ?_
        refine g_static Xl hx hZ hown (hw _ (List.mem_of_getElem? (i := 10) rfl)) (hw _ (List.mem_of_getElem? (i := 11) rfl)) (hw _ (List.mem_of_getElem? (i := 8) rfl)) (hw _ (List.mem_of_getElem? (i := 12) rfl)) (by decide) (argsL := [(.ref a3), (.int ((fs i) / q).toInt32)]) (rm2 l Z a0 hw a3 (((fs i) / q).toInt32) (ud + 1) g (av i / 64) (av i % 64) hl n0 Zl Fl0 (by rw [hav1.2]; omega) (by omega) ⟨by omega, by omega⟩ nl11) rfl El (by rw [hml]; rfl) pd_1 rfl (rest := []) rfl (W := 0) (Nat.le_of_eq rfl) (by decide) (by decide) (by decide) (by decide) Nl (hb hby d2_47) (pc' := 50) rfl (fun v32 T33 L34 X35 N36 q37 => ?_)
        obtain ⟨g38, rfl, f39, K40, F41⟩ := q37
        have Z42 : NLe n0 T33.heap.size := Zl.tr K40.1
        have F43 := Fl1.keep K40 (ninS ne12 nin0)
        have K44 := Kl.trans K40 (allS (Or.inr kf14) all0)
        show OGoes p e s below (Q3 Z t q p3 N fs u av h0 n0) n0 R3.cells R3.slots T33 (mkF m 50 #[.val (.ref t), .val (.long q), .second, .val (.int p3), .val (.ref a3), .val (.ref t), .val (.int (Int32.ofNat N)), .val (.int j), .val (.long (fs i)), .second] [])
        have hB2 : (∀ x, x < 64 * (ud + 1) → (own_B g38 x = true ↔ own_S av (i + 1) x)) := own_S_step hB (fun x hx1 => own_or g g38 (av i / 64) (av i % 64) (ud + 1) (by omega) f39 x hx1) (by omega)
        refine g_aload X35 hx (hb hby d2_50) (v := (.ref a3)) rfl rfl (pc' := 52) rfl ?_
        refine g_iloadN X35 hx (hb hby d2_52) (v := p3) rfl (pc' := 53) rfl ?_
        refine g_bipush X35 hx (hb hby d2_53) (v := 64) (by decide) (pc' := 55) rfl ?_
        refine g_idiv X35 hx (hb hby d2_55) (by decide) (pc' := 56) rfl ?_
        refine g_laload X35 hx hZ rfl (k := ud) F41 hd (by omega) (hb hby d2_56) (pc' := 57) rfl ?_
        refine g_lconst X35 hx (hb hby d2_57) (v := 1) (by decide) (pc' := 58) rfl ?_
        refine g_iloadN X35 hx (hb hby d2_58) (v := p3) rfl (pc' := 59) rfl ?_
        refine g_bipush X35 hx (hb hby d2_59) (v := 64) (by decide) (pc' := 61) rfl ?_
        refine g_irem X35 hx (hb hby d2_61) (by decide) (pc' := 62) rfl ?_
        refine g_lshl X35 hx (hb hby d2_62) (pc' := 63) rfl ?_
        refine g_land X35 hx (hb hby d2_63) (pc' := 64) rfl ?_
        refine g_lconst X35 hx (hb hby d2_64) (v := 0) (by decide) (pc' := 65) rfl ?_
        have hbit : own_B g38 u = own_bit (g38 ud) um := by unfold own_B; rw [← hud, ← hum]
        have hS1 := hB2 u (by omega)
        have hum64 : um < 64 := by omega
        have htest := own_test (g38 ud) hm hum64
        refine g_ll_eq X35 hx (a := ((g38 ud) &&& ((1 : Int64) <<< ((p3 % (64 : Int32)).toInt64 &&& 63))).toInt) (b := 0) rfl rfl (hb hby d2_65) (pc1 := 66) rfl (hb hby d2_66) (by decide) (pc' := 74) (by decide) (pc2 := 69) rfl (fun cz => ?_) (fun cz => ?_)
        · clear cz htest hbit hS1 hav1
          have hj' := own_inc hj (by omega)
          refine g_iinc X35 hx (hb hby d2_74) (v := 1) (by decide) (x := j) rfl (Ls' := #[.val (.ref t), .val (.long q), .second, .val (.int p3), .val (.ref a3), .val (.ref t), .val (.int (Int32.ofNat N)), .val (.int (j + (1 : Int32))), .val (.long (fs i)), .second]) rfl (pc' := 77) rfl ?_
          refine g_goto X35 hx (hb hby d2_77) (by decide) (pc' := 26) (by decide) ?_
          exact ih (i + 1) (j + (1 : Int32)) g38 (.val (.long (fs i))) .second _ _ _ (by omega) hj' hB2 (Or.inr ⟨_, rfl, rfl⟩) X35 rfl N36 Z42 F41 F43 K44
        · have hyes : own_S av (i + 1) u := hS1.mp (by rw [hbit]; cases hbb : own_bit (g38 ud) um; exact absurd (htest.mpr hbb) cz; rfl)
          clear cz htest hbit hS1 hav1
          have hyesN : own_S av N u := own_S_to hyes k (by omega)
          have hml2 := own_mul ((c_i2l p3).trans hu) rfl ⟨by omega, by omega⟩ hq
          refine g_iloadN X35 hx (hb hby d2_69) (v := p3) rfl (pc' := 70) rfl ?_
          refine g_i2l X35 hx (hb hby d2_70) (pc' := 71) rfl ?_
          refine g_lloadN X35 hx (hb hby d2_71) (v := q) rfl (pc' := 72) rfl ?_
          refine g_lmul X35 hx (hb hby d2_72) (pc' := 73) rfl ?_
          refine g_retJ X35 hx hlk hret (hb hby d2_73) N36 (by decide) (by decide) ?_
          exact ⟨_, u, rfl, ⟨hml2, Nat.le_refl _, hyesN, fun x1 h1 _ => h1⟩, K44⟩
      · show OGoes p e s below (Q3 Z t q p3 N fs u av h0 n0) n0 R3.cells R3.slots Tl (mkF m 33 #[.val (.ref t), .val (.long q), .second, .val (.int p3), .val (.ref a3), .val (.ref t), .val (.int (Int32.ofNat N)), .val (.int j), .val (.long a8), .second] [])
        have hav1 := hav i (by omega)
        refine g_aload Xl hx (hb hby d2_33) (v := (.ref t)) rfl rfl (pc' := 35) rfl ?_
        refine g_iload Xl hx (hb hby d2_35) (v := j) rfl (pc' := 37) rfl ?_
        refine g_laload Xl hx hZ El (k := i) Fl1 hj (by omega) (hb hby d2_37) (pc' := 38) rfl ?_
        refine g_lstore Xl hx (hb hby d2_38) (Ls' := #[.val (.ref t), .val (.long q), .second, .val (.int p3), .val (.ref a3), .val (.ref t), .val (.int (Int32.ofNat N)), .val (.int j), .val (.long (fs i)), .second]) rfl (pc' := 40) rfl ?_
        refine g_aload Xl hx (hb hby d2_40) (v := (.ref a3)) rfl rfl (pc' := 42) rfl ?_
        refine g_lload Xl hx (hb hby d2_42) (v := (fs i)) rfl (pc' := 44) rfl ?_
        refine g_lloadN Xl hx (hb hby d2_44) (v := q) rfl (pc' := 45) rfl ?_
        refine g_ldiv Xl hx (hb hby d2_45) hqne (pc' := 46) rfl ?_
        refine g_l2i Xl hx (hb hby d2_46) (pc' := 47) rfl ?_
        refine g_static Xl hx hZ hown (hw _ (List.mem_of_getElem? (i := 10) rfl)) (hw _ (List.mem_of_getElem? (i := 11) rfl)) (hw _ (List.mem_of_getElem? (i := 8) rfl)) (hw _ (List.mem_of_getElem? (i := 12) rfl)) (by decide) (argsL := [(.ref a3), (.int ((fs i) / q).toInt32)]) (rm2 l Z a0 hw a3 (((fs i) / q).toInt32) (ud + 1) g (av i / 64) (av i % 64) hl n0 Zl Fl0 (by rw [hav1.2]; omega) (by omega) ⟨by omega, by omega⟩ nl11) rfl El (by rw [hml]; rfl) pd_1 rfl (rest := []) rfl (W := 0) (Nat.le_of_eq rfl) (by decide) (by decide) (by decide) (by decide) Nl (hb hby d2_47) (pc' := 50) rfl (fun v45 T46 L47 X48 N49 q50 => ?_)
        obtain ⟨g51, rfl, f52, K53, F54⟩ := q50
        have Z55 : NLe n0 T46.heap.size := Zl.tr K53.1
        have F56 := Fl1.keep K53 (ninS ne12 nin0)
        have K57 := Kl.trans K53 (allS (Or.inr kf14) all0)
        show OGoes p e s below (Q3 Z t q p3 N fs u av h0 n0) n0 R3.cells R3.slots T46 (mkF m 50 #[.val (.ref t), .val (.long q), .second, .val (.int p3), .val (.ref a3), .val (.ref t), .val (.int (Int32.ofNat N)), .val (.int j), .val (.long (fs i)), .second] [])
        have hB2 : (∀ x, x < 64 * (ud + 1) → (own_B g51 x = true ↔ own_S av (i + 1) x)) := own_S_step hB (fun x hx1 => own_or g g51 (av i / 64) (av i % 64) (ud + 1) (by omega) f52 x hx1) (by omega)
        refine g_aload X48 hx (hb hby d2_50) (v := (.ref a3)) rfl rfl (pc' := 52) rfl ?_
        refine g_iloadN X48 hx (hb hby d2_52) (v := p3) rfl (pc' := 53) rfl ?_
        refine g_bipush X48 hx (hb hby d2_53) (v := 64) (by decide) (pc' := 55) rfl ?_
        refine g_idiv X48 hx (hb hby d2_55) (by decide) (pc' := 56) rfl ?_
        refine g_laload X48 hx hZ rfl (k := ud) F54 hd (by omega) (hb hby d2_56) (pc' := 57) rfl ?_
        refine g_lconst X48 hx (hb hby d2_57) (v := 1) (by decide) (pc' := 58) rfl ?_
        refine g_iloadN X48 hx (hb hby d2_58) (v := p3) rfl (pc' := 59) rfl ?_
        refine g_bipush X48 hx (hb hby d2_59) (v := 64) (by decide) (pc' := 61) rfl ?_
        refine g_irem X48 hx (hb hby d2_61) (by decide) (pc' := 62) rfl ?_
        refine g_lshl X48 hx (hb hby d2_62) (pc' := 63) rfl ?_
        refine g_land X48 hx (hb hby d2_63) (pc' := 64) rfl ?_
        refine g_lconst X48 hx (hb hby d2_64) (v := 0) (by decide) (pc' := 65) rfl ?_
        have hbit : own_B g51 u = own_bit (g51 ud) um := by unfold own_B; rw [← hud, ← hum]
        have hS1 := hB2 u (by omega)
        have hum64 : um < 64 := by omega
        have htest := own_test (g51 ud) hm hum64
        refine g_ll_eq X48 hx (a := ((g51 ud) &&& ((1 : Int64) <<< ((p3 % (64 : Int32)).toInt64 &&& 63))).toInt) (b := 0) rfl rfl (hb hby d2_65) (pc1 := 66) rfl (hb hby d2_66) (by decide) (pc' := 74) (by decide) (pc2 := 69) rfl (fun cz => ?_) (fun cz => ?_)
        · clear cz htest hbit hS1 hav1
          have hj' := own_inc hj (by omega)
          refine g_iinc X48 hx (hb hby d2_74) (v := 1) (by decide) (x := j) rfl (Ls' := #[.val (.ref t), .val (.long q), .second, .val (.int p3), .val (.ref a3), .val (.ref t), .val (.int (Int32.ofNat N)), .val (.int (j + (1 : Int32))), .val (.long (fs i)), .second]) rfl (pc' := 77) rfl ?_
          refine g_goto X48 hx (hb hby d2_77) (by decide) (pc' := 26) (by decide) ?_
          exact ih (i + 1) (j + (1 : Int32)) g51 (.val (.long (fs i))) .second _ _ _ (by omega) hj' hB2 (Or.inr ⟨_, rfl, rfl⟩) X48 rfl N49 Z55 F54 F56 K57
        · have hyes : own_S av (i + 1) u := hS1.mp (by rw [hbit]; cases hbb : own_bit (g51 ud) um; exact absurd (htest.mpr hbb) cz; rfl)
          clear cz htest hbit hS1 hav1
          have hyesN : own_S av N u := own_S_to hyes k (by omega)
          have hml2 := own_mul ((c_i2l p3).trans hu) rfl ⟨by omega, by omega⟩ hq
          refine g_iloadN X48 hx (hb hby d2_69) (v := p3) rfl (pc' := 70) rfl ?_
          refine g_i2l X48 hx (hb hby d2_70) (pc' := 71) rfl ?_
          refine g_lloadN X48 hx (hb hby d2_71) (v := q) rfl (pc' := 72) rfl ?_
          refine g_lmul X48 hx (hb hby d2_72) (pc' := 73) rfl ?_
          refine g_retJ X48 hx hlk hret (hb hby d2_73) N49 (by decide) (by decide) ?_
          exact ⟨_, u, rfl, ⟨hml2, Nat.le_refl _, hyesN, fun x1 h1 _ => h1⟩, K57⟩
  exact loop N 0 (0 : Int32) (oupd zeroL 0 (1 : Int64)) .unset .unset _ _ _ (by omega) rfl (fun x hx1 => own_B0 zeroL (fun _ => rfl) av x) (Or.inl ⟨rfl, rfl⟩) X19 e20 N22 Z25 A23 F26 K24

def own_av (A B D : Nat) : Nat → Nat := fun i => if i = 0 then A else if i = 1 then B else D
def own_G (U r : Int) (L : List Int) : Prop := (r = 0 ∨ r ∈ L) ∧ r ≤ U ∧ 0 ≤ r ∧ ∀ x ∈ L, x ≤ U → x ≤ r
theorem own_G0 {U r : Int} (h : 0 ≤ U) (hr : r = 0) : own_G U r [] := by subst hr; exact ⟨Or.inl rfl, h, Int.le_refl _, fun _ q => nomatch q⟩
theorem own_Gs {U r r' x : Int} {L : List Int} (h : own_G U r L) (f : (x ≤ U ∧ r < x) ∧ r' = x ∨ ¬ (x ≤ U ∧ r < x) ∧ r' = r) : own_G U r' (x :: L) := by
  obtain ⟨h1, h2, h3, h4⟩ := h
  rcases f with ⟨c, rfl⟩ | ⟨c, rfl⟩
  · refine ⟨Or.inr (List.mem_cons_self ..), c.1, by omega, fun y hy hyU => ?_⟩
    rcases List.mem_cons.mp hy with rfl | q
    · exact Int.le_refl _
    · have := h4 y q hyU; omega
  · refine ⟨h1.imp id (List.mem_cons_of_mem _), h2, h3, fun y hy hyU => ?_⟩
    rcases List.mem_cons.mp hy with rfl | q
    · omega
    · exact h4 y q hyU
theorem own_fin {N : Nat} {av : Nat → Nat} {U s : Nat} {r : Int} {L : List Int} (hG : own_G U r L) (h1 : s ≤ U) (h2 : own_S av N s) (h3 : ∀ x, x ≤ U → own_S av N x → x ≤ s)
    (hin : ∀ x, own_S av N x → (x : Int) = 0 ∨ (x : Int) ∈ L) (hout : ∀ y ∈ L, ∃ x : Nat, (x : Int) = y ∧ own_S av N x) (h0 : own_S av N 0) : r = (s : Int) := by
  obtain ⟨g1, g2, g3, g4⟩ := hG
  have a1 : (s : Int) ≤ r := by
    rcases hin s h2 with q | q
    · omega
    · exact g4 _ q (by omega)
  have a2 : r ≤ (s : Int) := by
    rcases g1 with q | q
    · omega
    · obtain ⟨x, e, hx⟩ := hout r q
      have := h3 x (by omega) hx
      omega
  omega
theorem own_in0 (A B D x : Nat) (h : own_S (own_av A B D) 0 x) : (x : Int) = 0 ∨ (x : Int) ∈ [((0 + 0 + 0 : Nat) : Int), ((0 + 0 : Nat) : Int), ((0 + 0 : Nat) : Int), ((0 + 0 : Nat) : Int), ((0 : Nat) : Int), ((0 : Nat) : Int), ((0 : Nat) : Int)] := by
  simp only [own_S] at h; left; omega
theorem own_in1 (A B D x : Nat) (h : own_S (own_av A B D) 1 x) : (x : Int) = 0 ∨ (x : Int) ∈ [((A + 0 + 0 : Nat) : Int), ((0 + 0 : Nat) : Int), ((A + 0 : Nat) : Int), ((A + 0 : Nat) : Int), ((0 : Nat) : Int), ((0 : Nat) : Int), ((A : Nat) : Int)] := by
  simp only [own_S, own_av, if_true, if_false] at h
  simp only [List.mem_cons, List.not_mem_nil, or_false]; omega
theorem own_in2 (A B D x : Nat) (h : own_S (own_av A B D) 2 x) : (x : Int) = 0 ∨ (x : Int) ∈ [((A + B + 0 : Nat) : Int), ((B + 0 : Nat) : Int), ((A + 0 : Nat) : Int), ((A + B : Nat) : Int), ((0 : Nat) : Int), ((B : Nat) : Int), ((A : Nat) : Int)] := by
  simp only [own_S, own_av, if_true, if_false, Nat.one_ne_zero] at h
  simp only [List.mem_cons, List.not_mem_nil, or_false]; omega
theorem own_in3 (A B D x : Nat) (h : own_S (own_av A B D) 3 x) : (x : Int) = 0 ∨ (x : Int) ∈ [((A + B + D : Nat) : Int), ((B + D : Nat) : Int), ((A + D : Nat) : Int), ((A + B : Nat) : Int), ((D : Nat) : Int), ((B : Nat) : Int), ((A : Nat) : Int)] := by
  have e1 : own_av A B D 1 = B := rfl
  have e2 : own_av A B D 2 = D := rfl
  have e0 : own_av A B D 0 = A := rfl
  simp only [own_S, e0, e1, e2] at h
  simp only [List.mem_cons, List.not_mem_nil, or_false]; omega
theorem own_out {P : Nat → Prop} {x1 x2 x3 x4 x5 x6 x7 : Nat} (h1 : P x1) (h2 : P x2) (h3 : P x3) (h4 : P x4) (h5 : P x5) (h6 : P x6) (h7 : P x7) : ∀ y ∈ [(x1 : Int), (x2 : Int), (x3 : Int), (x4 : Int), (x5 : Int), (x6 : Int), (x7 : Int)], ∃ x : Nat, (x : Int) = y ∧ P x := by
  intro y hy
  simp only [List.mem_cons, List.not_mem_nil, or_false] at hy
  rcases hy with rfl | rfl | rfl | rfl | rfl | rfl | rfl
  · exact ⟨_, rfl, h1⟩
  · exact ⟨_, rfl, h2⟩
  · exact ⟨_, rfl, h3⟩
  · exact ⟨_, rfl, h4⟩
  · exact ⟨_, rfl, h5⟩
  · exact ⟨_, rfl, h6⟩
  · exact ⟨_, rfl, h7⟩
theorem own_best0 {A B D U s : Nat} {r : Int} (hG : own_G U r [((0 + 0 + 0 : Nat) : Int), ((0 + 0 : Nat) : Int), ((0 + 0 : Nat) : Int), ((0 + 0 : Nat) : Int), ((0 : Nat) : Int), ((0 : Nat) : Int), ((0 : Nat) : Int)]) (h1 : s ≤ U) (h2 : own_S (own_av A B D) 0 s) (h3 : ∀ x, x ≤ U → own_S (own_av A B D) 0 x → x ≤ s) : r = (s : Int) :=
  own_fin hG h1 h2 h3 (own_in0 A B D) (own_out (P := own_S (own_av A B D) 0) rfl rfl rfl rfl rfl rfl rfl) rfl
theorem own_best1 {A B D U s : Nat} {r : Int} (hG : own_G U r [((A + 0 + 0 : Nat) : Int), ((0 + 0 : Nat) : Int), ((A + 0 : Nat) : Int), ((A + 0 : Nat) : Int), ((0 : Nat) : Int), ((0 : Nat) : Int), ((A : Nat) : Int)]) (h1 : s ≤ U) (h2 : own_S (own_av A B D) 1 s) (h3 : ∀ x, x ≤ U → own_S (own_av A B D) 1 x → x ≤ s) : r = (s : Int) := by
  have e0 : own_av A B D 0 = A := rfl
  have z : own_S (own_av A B D) 1 0 := Or.inl rfl
  have a : own_S (own_av A B D) 1 A := Or.inr ⟨Nat.le_refl _, Nat.sub_self _⟩
  exact own_fin hG h1 h2 h3 (own_in1 A B D) (own_out (P := own_S (own_av A B D) 1) a z a a z z a) z
theorem own_best2 {A B D U s : Nat} {r : Int} (hG : own_G U r [((A + B + 0 : Nat) : Int), ((B + 0 : Nat) : Int), ((A + 0 : Nat) : Int), ((A + B : Nat) : Int), ((0 : Nat) : Int), ((B : Nat) : Int), ((A : Nat) : Int)]) (h1 : s ≤ U) (h2 : own_S (own_av A B D) 2 s) (h3 : ∀ x, x ≤ U → own_S (own_av A B D) 2 x → x ≤ s) : r = (s : Int) := by
  have e0 : own_av A B D 0 = A := rfl
  have e1 : own_av A B D 1 = B := rfl
  have w : ∀ x, (x = 0 ∨ x = A ∨ x = B ∨ x = A + B) → own_S (own_av A B D) 2 x := fun x h => by simp only [own_S, e0, e1]; omega
  exact own_fin hG h1 h2 h3 (own_in2 A B D) (own_out (P := own_S (own_av A B D) 2) (w _ (by omega)) (w _ (by omega)) (w _ (by omega)) (w _ (by omega)) (w _ (by omega)) (w _ (by omega)) (w _ (by omega))) (w _ (by omega))
theorem own_best3 {A B D U s : Nat} {r : Int} (hG : own_G U r [((A + B + D : Nat) : Int), ((B + D : Nat) : Int), ((A + D : Nat) : Int), ((A + B : Nat) : Int), ((D : Nat) : Int), ((B : Nat) : Int), ((A : Nat) : Int)]) (h1 : s ≤ U) (h2 : own_S (own_av A B D) 3 s) (h3 : ∀ x, x ≤ U → own_S (own_av A B D) 3 x → x ≤ s) : r = (s : Int) := by
  have e0 : own_av A B D 0 = A := rfl
  have e1 : own_av A B D 1 = B := rfl
  have e2 : own_av A B D 2 = D := rfl
  have w : ∀ x, (x = 0 ∨ x = A ∨ x = B ∨ x = D ∨ x = A + B ∨ x = A + D ∨ x = B + D ∨ x = A + B + D) → own_S (own_av A B D) 3 x := fun x h => by simp only [own_S, e0, e1, e2]; omega
  exact own_fin hG h1 h2 h3 (own_in3 A B D) (own_out (P := own_S (own_av A B D) 3) (w _ (by omega)) (w _ (by omega)) (w _ (by omega)) (w _ (by omega)) (w _ (by omega)) (w _ (by omega)) (w _ (by omega))) (w _ (by omega))
theorem own_hav {a b d : Int32} {q : Int64} {A B D : Nat} (ha : a.toInt = (A : Int)) (hb : b.toInt = (B : Int)) (hd : d.toInt = (D : Int)) (hA : 0 < A ∧ A ≤ 512) (hB : 0 < B ∧ B ≤ 512) (hD : 0 < D ∧ D ≤ 512) (hq : 0 < q.toInt ∧ q.toInt ≤ 1125899906842624) :
    (∀ i, i < 0 → (0 < own_av A B D i ∧ own_av A B D i ≤ 512) ∧ ((zeroL i / q).toInt32).toInt = (own_av A B D i : Int)) ∧
    (∀ i, i < 1 → (0 < own_av A B D i ∧ own_av A B D i ≤ 512) ∧ ((oupd zeroL 0 (a.toInt64 * q) i / q).toInt32).toInt = (own_av A B D i : Int)) ∧
    (∀ i, i < 2 → (0 < own_av A B D i ∧ own_av A B D i ≤ 512) ∧ ((oupd (oupd zeroL 0 (a.toInt64 * q)) 1 (b.toInt64 * q) i / q).toInt32).toInt = (own_av A B D i : Int)) ∧
    (∀ i, i < 3 → (0 < own_av A B D i ∧ own_av A B D i ≤ 512) ∧ ((oupd (oupd (oupd zeroL 0 (a.toInt64 * q)) 1 (b.toInt64 * q)) 2 (d.toInt64 * q) i / q).toInt32).toInt = (own_av A B D i : Int)) := by
  have pa := own_divmul ha hA.2 hq
  have pb := own_divmul hb hB.2 hq
  have pd := own_divmul hd hD.2 hq
  refine ⟨fun i hi => absurd hi (by omega), fun i hi => ?_, fun i hi => ?_, fun i hi => ?_⟩
  · have h : i = 0 := by omega
    subst h; exact ⟨hA, pa⟩
  · have h : i = 0 ∨ i = 1 := by omega
    rcases h with rfl | rfl
    · exact ⟨hA, pa⟩
    · exact ⟨hB, pb⟩
  · have h : i = 0 ∨ i = 1 ∨ i = 2 := by omega
    rcases h with rfl | rfl | rfl
    · exact ⟨hA, pa⟩
    · exact ⟨hB, pb⟩
    · exact ⟨hD, pd⟩

theorem own_add {x y : Int32} {a b : Nat} (hx : x.toInt = (a : Int)) (hy : y.toInt = (b : Int)) (h : a + b ≤ 10000) : own_is (x + y) (a + b) := by
  have q := c_iadd x y
  have q1 := (x + y).toInt_lt
  have q2 := (x + y).le_toInt
  show (x + y).toInt = ((a + b : Nat) : Int)
  rw [hx, hy] at q; omega
theorem own_nine (p : Int32) : ∃ a : Nat, ((p &&& 511) + 1).toInt = (a : Int) ∧ 0 < a ∧ a ≤ 512 := by
  have m := c_mask p 511 9 (by decide) (by decide)
  obtain ⟨k, hk, -⟩ := i32_get (x := p &&& 511) (by omega)
  exact ⟨k + 1, own_inc hk (by omega), by omega, by omega⟩
theorem own_div (p : Int64) : 0 < ((p &&& 1125899906842623) + 1).toInt ∧ ((p &&& 1125899906842623) + 1).toInt ≤ 1125899906842624 := by
  have m := c_maskL p 1125899906842623 50 (by decide) (by decide)
  have a := c_ladd (p &&& 1125899906842623) 1
  have l : (1 : Int64).toInt = 1 := rfl
  have q1 := ((p &&& 1125899906842623) + 1).toInt_lt
  have q2 := ((p &&& 1125899906842623) + 1).le_toInt
  rw [l] at a; omega
theorem own_fitN {x z : Int32} {X : Nat} {r r' U : Int} (hx : x.toInt = (X : Int)) (hz : z.toInt = U) (f : (x.toInt ≤ z.toInt ∧ r < x.toInt) ∧ r' = x.toInt ∨ ¬ (x.toInt ≤ z.toInt ∧ r < x.toInt) ∧ r' = r) : ((X : Int) ≤ U ∧ r < (X : Int)) ∧ r' = (X : Int) ∨ ¬ ((X : Int) ≤ U ∧ r < (X : Int)) ∧ r' = r := by
  rw [hx, hz] at f; exact f
theorem pn_3 : plainFor (⟨"com/example/stagecue/stagecue/engine/SubsetSumByBitsetPinLaw", "law", "(IJIIII)Z"⟩ : MethodName) = true := by first | exact plainFor_of_name (by first | (simp [plainName, overriddenIn]; done) | decide +kernel) | decide +kernel
def Q0 (Z : State) (p0 : Int32) (p1 : Int64) (p2 : Int32) (p3 : Int32) (p4 : Int32) (p5 : Int32) (h0 : Heap) (n0 : Nat) (v : Option Value) (h : Heap) : Prop := v = some (.int 1)
set_option maxRecDepth 65536 in
set_option maxHeartbeats 40000000 in
theorem rm0 (l : Launch) (Z : State) (a0 : Array Value) (hw : ∀ d ∈ tables_1, d.before a0 Z = true) (ws : List Jvm.Cond) (p0 : Int32) (p1 : Int64) (p2 : Int32) (p3 : Int32) (p4 : Int32) (p5 : Int32) (h0 : Heap) (n0 : Nat) (Z0 : NLe n0 h0.size)  :
    Con l x code maxLocals ret ws room_1 Z #[(.int p0), (.long p1), (.int p2), (.int p3), (.int p4), (.int p5)] h0 n0 (Q0 Z p0 p1 p2 p3 p4 p5 h0 n0) := by
  refine con_of (Ls0 := #[.val (.int p0), .val (.long p1), .second, .val (.int p2), .val (.int p3), .val (.int p4), .val (.int p5), .unset, .unset, .unset, .unset, .unset, .unset, .unset, .unset, .unset, .unset, .unset, .unset, .unset, .unset, .unset, .unset, .unset]) pn_3 (fun m => by first | (simp [entryFrame, mkF, argsToLocals, Value.category, maxLocals]; done) | rfl) ?_
  intro p e s m below meth c s₁ X0 hx hby hml hZ hown hnm hret hlk e0 N0
  refine g_iloadN X0 hx (hb hby at_0) (v := p0) rfl (pc' := 1) rfl ?_
  refine g_sipush X0 hx (hb hby at_1) (v := 255) (by decide) (pc' := 4) rfl ?_
  refine g_iand X0 hx (hb hby at_4) (pc' := 5) rfl ?_
  refine g_istore X0 hx (hb hby at_5) (Ls' := #[.val (.int p0), .val (.long p1), .second, .val (.int p2), .val (.int p3), .val (.int p4), .val (.int p5), .val (.int (p0 &&& (255 : Int32))), .unset, .unset, .unset, .unset, .unset, .unset, .unset, .unset, .unset, .unset, .unset, .unset, .unset, .unset, .unset, .unset]) rfl (pc' := 7) rfl ?_
  refine g_lloadN X0 hx (hb hby at_7) (v := p1) rfl (pc' := 8) rfl ?_
  refine g_ldc2 X0 hx hZ hown (hb hby at_8) (v := 1125899906842623) (hw _ (List.mem_of_getElem? (i := 0) rfl)) (pc' := 11) rfl ?_
  refine g_land X0 hx (hb hby at_11) (pc' := 12) rfl ?_
  refine g_lconst X0 hx (hb hby at_12) (v := 1) (by decide) (pc' := 13) rfl ?_
  refine g_ladd X0 hx (hb hby at_13) (pc' := 14) rfl ?_
  refine g_lstore X0 hx (hb hby at_14) (Ls' := #[.val (.int p0), .val (.long p1), .second, .val (.int p2), .val (.int p3), .val (.int p4), .val (.int p5), .val (.int (p0 &&& (255 : Int32))), .val (.long ((p1 &&& (1125899906842623 : Int64)) + (1 : Int64))), .second, .unset, .unset, .unset, .unset, .unset, .unset, .unset, .unset, .unset, .unset, .unset, .unset, .unset, .unset]) rfl (pc' := 16) rfl ?_
  refine g_iloadN X0 hx (hb hby at_16) (v := p2) rfl (pc' := 17) rfl ?_
  refine g_sipush X0 hx (hb hby at_17) (v := 511) (by decide) (pc' := 20) rfl ?_
  refine g_iand X0 hx (hb hby at_20) (pc' := 21) rfl ?_
  refine g_iconst X0 hx (hb hby at_21) (v := 1) (by decide) (pc' := 22) rfl ?_
  refine g_iadd X0 hx (hb hby at_22) (pc' := 23) rfl ?_
  refine g_istore X0 hx (hb hby at_23) (Ls' := #[.val (.int p0), .val (.long p1), .second, .val (.int p2), .val (.int p3), .val (.int p4), .val (.int p5), .val (.int (p0 &&& (255 : Int32))), .val (.long ((p1 &&& (1125899906842623 : Int64)) + (1 : Int64))), .second, .val (.int ((p2 &&& (511 : Int32)) + (1 : Int32))), .unset, .unset, .unset, .unset, .unset, .unset, .unset, .unset, .unset, .unset, .unset, .unset, .unset]) rfl (pc' := 25) rfl ?_
  refine g_iload X0 hx (hb hby at_25) (v := p3) rfl (pc' := 27) rfl ?_
  refine g_sipush X0 hx (hb hby at_27) (v := 511) (by decide) (pc' := 30) rfl ?_
  refine g_iand X0 hx (hb hby at_30) (pc' := 31) rfl ?_
  refine g_iconst X0 hx (hb hby at_31) (v := 1) (by decide) (pc' := 32) rfl ?_
  refine g_iadd X0 hx (hb hby at_32) (pc' := 33) rfl ?_
  refine g_istore X0 hx (hb hby at_33) (Ls' := #[.val (.int p0), .val (.long p1), .second, .val (.int p2), .val (.int p3), .val (.int p4), .val (.int p5), .val (.int (p0 &&& (255 : Int32))), .val (.long ((p1 &&& (1125899906842623 : Int64)) + (1 : Int64))), .second, .val (.int ((p2 &&& (511 : Int32)) + (1 : Int32))), .val (.int ((p3 &&& (511 : Int32)) + (1 : Int32))), .unset, .unset, .unset, .unset, .unset, .unset, .unset, .unset, .unset, .unset, .unset, .unset]) rfl (pc' := 35) rfl ?_
  refine g_iload X0 hx (hb hby at_35) (v := p4) rfl (pc' := 37) rfl ?_
  refine g_sipush X0 hx (hb hby at_37) (v := 511) (by decide) (pc' := 40) rfl ?_
  refine g_iand X0 hx (hb hby at_40) (pc' := 41) rfl ?_
  refine g_iconst X0 hx (hb hby at_41) (v := 1) (by decide) (pc' := 42) rfl ?_
  refine g_iadd X0 hx (hb hby at_42) (pc' := 43) rfl ?_
  refine g_istore X0 hx (hb hby at_43) (Ls' := #[.val (.int p0), .val (.long p1), .second, .val (.int p2), .val (.int p3), .val (.int p4), .val (.int p5), .val (.int (p0 &&& (255 : Int32))), .val (.long ((p1 &&& (1125899906842623 : Int64)) + (1 : Int64))), .second, .val (.int ((p2 &&& (511 : Int32)) + (1 : Int32))), .val (.int ((p3 &&& (511 : Int32)) + (1 : Int32))), .val (.int ((p4 &&& (511 : Int32)) + (1 : Int32))), .unset, .unset, .unset, .unset, .unset, .unset, .unset, .unset, .unset, .unset, .unset]) rfl (pc' := 45) rfl ?_
  refine g_iload X0 hx (hb hby at_45) (v := p5) rfl (pc' := 47) rfl ?_
  refine g_iconst X0 hx (hb hby at_47) (v := 3) (by decide) (pc' := 48) rfl ?_
  refine g_iand X0 hx (hb hby at_48) (pc' := 49) rfl ?_
  refine g_istore X0 hx (hb hby at_49) (Ls' := #[.val (.int p0), .val (.long p1), .second, .val (.int p2), .val (.int p3), .val (.int p4), .val (.int p5), .val (.int (p0 &&& (255 : Int32))), .val (.long ((p1 &&& (1125899906842623 : Int64)) + (1 : Int64))), .second, .val (.int ((p2 &&& (511 : Int32)) + (1 : Int32))), .val (.int ((p3 &&& (511 : Int32)) + (1 : Int32))), .val (.int ((p4 &&& (511 : Int32)) + (1 : Int32))), .val (.int (p5 &&& (3 : Int32))), .unset, .unset, .unset, .unset, .unset, .unset, .unset, .unset, .unset, .unset]) rfl (pc' := 51) rfl ?_
  have mu := c_mask p0 255 8 (by decide) (by decide)
  have mn := c_mask p5 3 2 (by decide) (by decide)
  obtain ⟨U, hU, hU2⟩ : ∃ U : Nat, (p0 &&& 255).toInt = (U : Int) ∧ U ≤ 255 := by obtain ⟨k, hk, -⟩ := i32_get (x := p0 &&& 255) (by omega); exact ⟨k, hk, by omega⟩
  have hcn : 0 ≤ (p5 &&& 3).toInt ∧ (p5 &&& 3).toInt ≤ 3 := by omega
  have hq := own_div p1
  obtain ⟨A, hA, hA2⟩ := own_nine p2
  obtain ⟨B, hB, hB2⟩ := own_nine p3
  obtain ⟨D, hD, hD2⟩ := own_nine p4
  clear mu mn
  generalize hg1 : (p0 &&& (255 : Int32)) = ui
  rw [hg1] at hU; clear hg1
  generalize hg2 : ((p1 &&& (1125899906842623 : Int64)) + (1 : Int64)) = dv
  rw [hg2] at hq; clear hg2
  generalize hg3 : ((p2 &&& (511 : Int32)) + (1 : Int32)) = ia
  rw [hg3] at hA; clear hg3
  generalize hg4 : ((p3 &&& (511 : Int32)) + (1 : Int32)) = ib
  rw [hg4] at hB; clear hg4
  generalize hg5 : ((p4 &&& (511 : Int32)) + (1 : Int32)) = ic
  rw [hg5] at hD; clear hg5
  generalize hg6 : (p5 &&& (3 : Int32)) = cn
  rw [hg6] at hcn; clear hg6
  obtain ⟨hv0, hv1, hv2, hv3⟩ := own_hav hA hB hD hA2 hB2 hD2 hq
  have hcase : cn = 0 ∨ cn = 1 ∨ cn = 2 ∨ cn = 3 := by
    have e0 : (0 : Int32).toInt = 0 := rfl; have e1 : (1 : Int32).toInt = 1 := rfl; have e2 : (2 : Int32).toInt = 2 := rfl; have e3 : (3 : Int32).toInt = 3 := rfl
    simp only [← Int32.toInt_inj]; omega
  rcases hcase with rfl | rfl | rfl | rfl
  · clear hcn
    show OGoes p e s below (Q0 Z p0 p1 p2 p3 p4 p5 h0 n0) n0 room_1.cells room_1.slots s₁ (mkF m 51 #[.val (.int p0), .val (.long p1), .second, .val (.int p2), .val (.int p3), .val (.int p4), .val (.int p5), .val (.int ui), .val (.long dv), .second, .val (.int ia), .val (.int ib), .val (.int ic), .val (.int (0 : Int32)), .unset, .unset, .unset, .unset, .unset, .unset, .unset, .unset, .unset, .unset] [])
    have sab : own_is ((0 : Int32) + (0 : Int32)) (0 + 0) := own_add (rfl : (0 : Int32).toInt = ((0 : Nat) : Int)) (rfl : (0 : Int32).toInt = ((0 : Nat) : Int)) (by omega)
    have sac : own_is ((0 : Int32) + (0 : Int32)) (0 + 0) := own_add (rfl : (0 : Int32).toInt = ((0 : Nat) : Int)) (rfl : (0 : Int32).toInt = ((0 : Nat) : Int)) (by omega)
    have sbc : own_is ((0 : Int32) + (0 : Int32)) (0 + 0) := own_add (rfl : (0 : Int32).toInt = ((0 : Nat) : Int)) (rfl : (0 : Int32).toInt = ((0 : Nat) : Int)) (by omega)
    have sabc : own_is (((0 : Int32) + (0 : Int32)) + (0 : Int32)) (0 + 0 + 0) := own_add sab (rfl : (0 : Int32).toInt = ((0 : Nat) : Int)) (by omega)
    refine g_iload X0 hx (hb hby at_51) (v := (0 : Int32)) rfl (pc' := 53) rfl ?_
    refine g_i0_ne X0 hx (a := 0) rfl (hb hby at_53) (by decide) (pc' := 64) (by decide) (pc2 := 56) rfl (fun c7 => False.elim (by omega)) (fun c7 => ?_)
    refine g_iconst X0 hx (hb hby at_56) (v := 0) (by decide) (pc' := 57) rfl ?_
    refine g_newLA X0 hx hZ (hw _ (List.mem_of_getElem? (i := 1) rfl)) e0 (n := 0) rfl (cap := 0) (by decide) (by decide) (hb hby at_57) (by decide) (by decide) (pc' := 59) rfl (fun T8 h9 a10 g11 X12 e13 E14 l15 A16  => ?_)
    have Z17 : NLe n0 h9.size := Z0.tr E14.1
    have nl18 : NLe n0 a10 := NLe.at g11 Z0
    clear g11 l15
    refine g_astore X12 hx (hb hby at_59) rfl (Ls' := #[.val (.int p0), .val (.long p1), .second, .val (.int p2), .val (.int p3), .val (.int p4), .val (.int p5), .val (.int ui), .val (.long dv), .second, .val (.int ia), .val (.int ib), .val (.int ic), .val (.int (0 : Int32)), .val (.ref a10), .unset, .unset, .unset, .unset, .unset, .unset, .unset, .unset, .unset]) rfl (pc' := 61) rfl ?_
    refine g_goto X12 hx (hb hby at_61) (by decide) (pc' := 151) (by decide) ?_
    refine g_iload X12 hx (hb hby at_151) (v := (0 : Int32)) rfl (pc' := 153) rfl ?_
    refine g_iconst X12 hx (hb hby at_153) (v := 1) (by decide) (pc' := 154) rfl ?_
    refine g_ii_lt X12 hx (a := 0) (b := 1) rfl rfl (hb hby at_154) (by decide) (pc' := 162) (by decide) (pc2 := 157) rfl (fun c19 => ?_) (fun c19 => False.elim (by omega))
    refine g_iconst X12 hx (hb hby at_162) (v := 0) (by decide) (pc' := 163) rfl ?_
    refine g_istore X12 hx (hb hby at_163) (Ls' := #[.val (.int p0), .val (.long p1), .second, .val (.int p2), .val (.int p3), .val (.int p4), .val (.int p5), .val (.int ui), .val (.long dv), .second, .val (.int ia), .val (.int ib), .val (.int ic), .val (.int (0 : Int32)), .val (.ref a10), .val (.int (0 : Int32)), .unset, .unset, .unset, .unset, .unset, .unset, .unset, .unset]) rfl (pc' := 165) rfl ?_
    refine g_iload X12 hx (hb hby at_165) (v := (0 : Int32)) rfl (pc' := 167) rfl ?_
    refine g_iconst X12 hx (hb hby at_167) (v := 2) (by decide) (pc' := 168) rfl ?_
    refine g_ii_lt X12 hx (a := 0) (b := 2) rfl rfl (hb hby at_168) (by decide) (pc' := 176) (by decide) (pc2 := 171) rfl (fun c20 => ?_) (fun c20 => False.elim (by omega))
    refine g_iconst X12 hx (hb hby at_176) (v := 0) (by decide) (pc' := 177) rfl ?_
    refine g_istore X12 hx (hb hby at_177) (Ls' := #[.val (.int p0), .val (.long p1), .second, .val (.int p2), .val (.int p3), .val (.int p4), .val (.int p5), .val (.int ui), .val (.long dv), .second, .val (.int ia), .val (.int ib), .val (.int ic), .val (.int (0 : Int32)), .val (.ref a10), .val (.int (0 : Int32)), .val (.int (0 : Int32)), .unset, .unset, .unset, .unset, .unset, .unset, .unset]) rfl (pc' := 179) rfl ?_
    refine g_iload X12 hx (hb hby at_179) (v := (0 : Int32)) rfl (pc' := 181) rfl ?_
    refine g_iconst X12 hx (hb hby at_181) (v := 3) (by decide) (pc' := 182) rfl ?_
    refine g_ii_lt X12 hx (a := 0) (b := 3) rfl rfl (hb hby at_182) (by decide) (pc' := 190) (by decide) (pc2 := 185) rfl (fun c21 => ?_) (fun c21 => False.elim (by omega))
    refine g_iconst X12 hx (hb hby at_190) (v := 0) (by decide) (pc' := 191) rfl ?_
    refine g_istore X12 hx (hb hby at_191) (Ls' := #[.val (.int p0), .val (.long p1), .second, .val (.int p2), .val (.int p3), .val (.int p4), .val (.int p5), .val (.int ui), .val (.long dv), .second, .val (.int ia), .val (.int ib), .val (.int ic), .val (.int (0 : Int32)), .val (.ref a10), .val (.int (0 : Int32)), .val (.int (0 : Int32)), .val (.int (0 : Int32)), .unset, .unset, .unset, .unset, .unset, .unset]) rfl (pc' := 193) rfl ?_
    refine g_lconst X12 hx (hb hby at_193) (v := 0) (by decide) (pc' := 194) rfl ?_
    refine g_lstore X12 hx (hb hby at_194) (Ls' := #[.val (.int p0), .val (.long p1), .second, .val (.int p2), .val (.int p3), .val (.int p4), .val (.int p5), .val (.int ui), .val (.long dv), .second, .val (.int ia), .val (.int ib), .val (.int ic), .val (.int (0 : Int32)), .val (.ref a10), .val (.int (0 : Int32)), .val (.int (0 : Int32)), .val (.int (0 : Int32)), .val (.long (0 : Int64)), .second, .unset, .unset, .unset, .unset]) rfl (pc' := 196) rfl ?_
    refine g_lload X12 hx (hb hby at_196) (v := (0 : Int64)) rfl (pc' := 198) rfl ?_
    refine g_iload X12 hx (hb hby at_198) (v := (0 : Int32)) rfl (pc' := 200) rfl ?_
    refine g_iload X12 hx (hb hby at_200) (v := ui) rfl (pc' := 202) rfl ?_
    refine g_static X12 hx hZ hown (hw _ (List.mem_of_getElem? (i := 2) rfl)) (hw _ (List.mem_of_getElem? (i := 3) rfl)) (hw _ (List.mem_of_getElem? (i := 4) rfl)) (hw _ (List.mem_of_getElem? (i := 5) rfl)) (by decide) (argsL := [(.long (0 : Int64)), (.int (0 : Int32)), (.int ui)]) (rm1 l Z a0 hw (0 : Int64) (0 : Int32) ui h9 n0 Z17 ) rfl e13 (by rw [hml]; rfl) pd_0 rfl (rest := []) rfl (W := 0) (Nat.le_of_eq rfl) (by decide) (by decide) (by decide) (by decide) N0 (hb hby at_202) (pc' := 205) rfl (fun v22 T23 L24 X25 N26 q27 => ?_)
    obtain ⟨r28, rfl, f29, K30⟩ := q27
    have lt31 : (0 : Int64).toInt = 0 := rfl
    have lt32 : (0 : Int32).toInt = 0 := rfl
    show OGoes p e s below (Q0 Z p0 p1 p2 p3 p4 p5 h0 n0) n0 room_1.cells room_1.slots T23 (mkF m 205 #[.val (.int p0), .val (.long p1), .second, .val (.int p2), .val (.int p3), .val (.int p4), .val (.int p5), .val (.int ui), .val (.long dv), .second, .val (.int ia), .val (.int ib), .val (.int ic), .val (.int (0 : Int32)), .val (.ref a10), .val (.int (0 : Int32)), .val (.int (0 : Int32)), .val (.int (0 : Int32)), .val (.long (0 : Int64)), .second, .unset, .unset, .unset, .unset] [(.long r28)])
    have G1 := own_Gs (own_G0 (Int.natCast_nonneg U) (rfl : (0 : Int64).toInt = 0)) (own_fitN (rfl : (0 : Int32).toInt = ((0 : Nat) : Int)) hU f29)
    clear f29
    refine g_lstore X25 hx (hb hby at_205) (Ls' := #[.val (.int p0), .val (.long p1), .second, .val (.int p2), .val (.int p3), .val (.int p4), .val (.int p5), .val (.int ui), .val (.long dv), .second, .val (.int ia), .val (.int ib), .val (.int ic), .val (.int (0 : Int32)), .val (.ref a10), .val (.int (0 : Int32)), .val (.int (0 : Int32)), .val (.int (0 : Int32)), .val (.long r28), .second, .unset, .unset, .unset, .unset]) rfl (pc' := 207) rfl ?_
    refine g_lload X25 hx (hb hby at_207) (v := r28) rfl (pc' := 209) rfl ?_
    refine g_iload X25 hx (hb hby at_209) (v := (0 : Int32)) rfl (pc' := 211) rfl ?_
    refine g_iload X25 hx (hb hby at_211) (v := ui) rfl (pc' := 213) rfl ?_
    refine g_static X25 hx hZ hown (hw _ (List.mem_of_getElem? (i := 2) rfl)) (hw _ (List.mem_of_getElem? (i := 3) rfl)) (hw _ (List.mem_of_getElem? (i := 4) rfl)) (hw _ (List.mem_of_getElem? (i := 5) rfl)) (by decide) (argsL := [(.long r28), (.int (0 : Int32)), (.int ui)]) (rm1 l Z a0 hw r28 (0 : Int32) ui h9 n0 Z17 ) rfl K30 (by rw [hml]; rfl) pd_0 rfl (rest := []) rfl (W := 0) (Nat.le_of_eq rfl) (by decide) (by decide) (by decide) (by decide) N26 (hb hby at_213) (pc' := 216) rfl (fun v33 T34 L35 X36 N37 q38 => ?_)
    obtain ⟨r39, rfl, f40, K41⟩ := q38
    show OGoes p e s below (Q0 Z p0 p1 p2 p3 p4 p5 h0 n0) n0 room_1.cells room_1.slots T34 (mkF m 216 #[.val (.int p0), .val (.long p1), .second, .val (.int p2), .val (.int p3), .val (.int p4), .val (.int p5), .val (.int ui), .val (.long dv), .second, .val (.int ia), .val (.int ib), .val (.int ic), .val (.int (0 : Int32)), .val (.ref a10), .val (.int (0 : Int32)), .val (.int (0 : Int32)), .val (.int (0 : Int32)), .val (.long r28), .second, .unset, .unset, .unset, .unset] [(.long r39)])
    have G2 := own_Gs G1 (own_fitN (rfl : (0 : Int32).toInt = ((0 : Nat) : Int)) hU f40)
    clear f40 G1
    refine g_lstore X36 hx (hb hby at_216) (Ls' := #[.val (.int p0), .val (.long p1), .second, .val (.int p2), .val (.int p3), .val (.int p4), .val (.int p5), .val (.int ui), .val (.long dv), .second, .val (.int ia), .val (.int ib), .val (.int ic), .val (.int (0 : Int32)), .val (.ref a10), .val (.int (0 : Int32)), .val (.int (0 : Int32)), .val (.int (0 : Int32)), .val (.long r39), .second, .unset, .unset, .unset, .unset]) rfl (pc' := 218) rfl ?_
    refine g_lload X36 hx (hb hby at_218) (v := r39) rfl (pc' := 220) rfl ?_
    refine g_iload X36 hx (hb hby at_220) (v := (0 : Int32)) rfl (pc' := 222) rfl ?_
    refine g_iload X36 hx (hb hby at_222) (v := ui) rfl (pc' := 224) rfl ?_
    refine g_static X36 hx hZ hown (hw _ (List.mem_of_getElem? (i := 2) rfl)) (hw _ (List.mem_of_getElem? (i := 3) rfl)) (hw _ (List.mem_of_getElem? (i := 4) rfl)) (hw _ (List.mem_of_getElem? (i := 5) rfl)) (by decide) (argsL := [(.long r39), (.int (0 : Int32)), (.int ui)]) (rm1 l Z a0 hw r39 (0 : Int32) ui h9 n0 Z17 ) rfl K41 (by rw [hml]; rfl) pd_0 rfl (rest := []) rfl (W := 0) (Nat.le_of_eq rfl) (by decide) (by decide) (by decide) (by decide) N37 (hb hby at_224) (pc' := 227) rfl (fun v42 T43 L44 X45 N46 q47 => ?_)
    obtain ⟨r48, rfl, f49, K50⟩ := q47
    show OGoes p e s below (Q0 Z p0 p1 p2 p3 p4 p5 h0 n0) n0 room_1.cells room_1.slots T43 (mkF m 227 #[.val (.int p0), .val (.long p1), .second, .val (.int p2), .val (.int p3), .val (.int p4), .val (.int p5), .val (.int ui), .val (.long dv), .second, .val (.int ia), .val (.int ib), .val (.int ic), .val (.int (0 : Int32)), .val (.ref a10), .val (.int (0 : Int32)), .val (.int (0 : Int32)), .val (.int (0 : Int32)), .val (.long r39), .second, .unset, .unset, .unset, .unset] [(.long r48)])
    have G3 := own_Gs G2 (own_fitN (rfl : (0 : Int32).toInt = ((0 : Nat) : Int)) hU f49)
    clear f49 G2
    refine g_lstore X45 hx (hb hby at_227) (Ls' := #[.val (.int p0), .val (.long p1), .second, .val (.int p2), .val (.int p3), .val (.int p4), .val (.int p5), .val (.int ui), .val (.long dv), .second, .val (.int ia), .val (.int ib), .val (.int ic), .val (.int (0 : Int32)), .val (.ref a10), .val (.int (0 : Int32)), .val (.int (0 : Int32)), .val (.int (0 : Int32)), .val (.long r48), .second, .unset, .unset, .unset, .unset]) rfl (pc' := 229) rfl ?_
    refine g_lload X45 hx (hb hby at_229) (v := r48) rfl (pc' := 231) rfl ?_
    refine g_iload X45 hx (hb hby at_231) (v := (0 : Int32)) rfl (pc' := 233) rfl ?_
    refine g_iload X45 hx (hb hby at_233) (v := (0 : Int32)) rfl (pc' := 235) rfl ?_
    refine g_iadd X45 hx (hb hby at_235) (pc' := 236) rfl ?_
    refine g_iload X45 hx (hb hby at_236) (v := ui) rfl (pc' := 238) rfl ?_
    refine g_static X45 hx hZ hown (hw _ (List.mem_of_getElem? (i := 2) rfl)) (hw _ (List.mem_of_getElem? (i := 3) rfl)) (hw _ (List.mem_of_getElem? (i := 4) rfl)) (hw _ (List.mem_of_getElem? (i := 5) rfl)) (by decide) (argsL := [(.long r48), (.int ((0 : Int32) + (0 : Int32))), (.int ui)]) (rm1 l Z a0 hw r48 ((0 : Int32) + (0 : Int32)) ui h9 n0 Z17 ) rfl K50 (by rw [hml]; rfl) pd_0 rfl (rest := []) rfl (W := 0) (Nat.le_of_eq rfl) (by decide) (by decide) (by decide) (by decide) N46 (hb hby at_238) (pc' := 241) rfl (fun v51 T52 L53 X54 N55 q56 => ?_)
    obtain ⟨r57, rfl, f58, K59⟩ := q56
    show OGoes p e s below (Q0 Z p0 p1 p2 p3 p4 p5 h0 n0) n0 room_1.cells room_1.slots T52 (mkF m 241 #[.val (.int p0), .val (.long p1), .second, .val (.int p2), .val (.int p3), .val (.int p4), .val (.int p5), .val (.int ui), .val (.long dv), .second, .val (.int ia), .val (.int ib), .val (.int ic), .val (.int (0 : Int32)), .val (.ref a10), .val (.int (0 : Int32)), .val (.int (0 : Int32)), .val (.int (0 : Int32)), .val (.long r48), .second, .unset, .unset, .unset, .unset] [(.long r57)])
    have G4 := own_Gs G3 (own_fitN sab hU f58)
    clear f58 G3
    refine g_lstore X54 hx (hb hby at_241) (Ls' := #[.val (.int p0), .val (.long p1), .second, .val (.int p2), .val (.int p3), .val (.int p4), .val (.int p5), .val (.int ui), .val (.long dv), .second, .val (.int ia), .val (.int ib), .val (.int ic), .val (.int (0 : Int32)), .val (.ref a10), .val (.int (0 : Int32)), .val (.int (0 : Int32)), .val (.int (0 : Int32)), .val (.long r57), .second, .unset, .unset, .unset, .unset]) rfl (pc' := 243) rfl ?_
    refine g_lload X54 hx (hb hby at_243) (v := r57) rfl (pc' := 245) rfl ?_
    refine g_iload X54 hx (hb hby at_245) (v := (0 : Int32)) rfl (pc' := 247) rfl ?_
    refine g_iload X54 hx (hb hby at_247) (v := (0 : Int32)) rfl (pc' := 249) rfl ?_
    refine g_iadd X54 hx (hb hby at_249) (pc' := 250) rfl ?_
    refine g_iload X54 hx (hb hby at_250) (v := ui) rfl (pc' := 252) rfl ?_
    refine g_static X54 hx hZ hown (hw _ (List.mem_of_getElem? (i := 2) rfl)) (hw _ (List.mem_of_getElem? (i := 3) rfl)) (hw _ (List.mem_of_getElem? (i := 4) rfl)) (hw _ (List.mem_of_getElem? (i := 5) rfl)) (by decide) (argsL := [(.long r57), (.int ((0 : Int32) + (0 : Int32))), (.int ui)]) (rm1 l Z a0 hw r57 ((0 : Int32) + (0 : Int32)) ui h9 n0 Z17 ) rfl K59 (by rw [hml]; rfl) pd_0 rfl (rest := []) rfl (W := 0) (Nat.le_of_eq rfl) (by decide) (by decide) (by decide) (by decide) N55 (hb hby at_252) (pc' := 255) rfl (fun v60 T61 L62 X63 N64 q65 => ?_)
    obtain ⟨r66, rfl, f67, K68⟩ := q65
    show OGoes p e s below (Q0 Z p0 p1 p2 p3 p4 p5 h0 n0) n0 room_1.cells room_1.slots T61 (mkF m 255 #[.val (.int p0), .val (.long p1), .second, .val (.int p2), .val (.int p3), .val (.int p4), .val (.int p5), .val (.int ui), .val (.long dv), .second, .val (.int ia), .val (.int ib), .val (.int ic), .val (.int (0 : Int32)), .val (.ref a10), .val (.int (0 : Int32)), .val (.int (0 : Int32)), .val (.int (0 : Int32)), .val (.long r57), .second, .unset, .unset, .unset, .unset] [(.long r66)])
    have G5 := own_Gs G4 (own_fitN sac hU f67)
    clear f67 G4
    refine g_lstore X63 hx (hb hby at_255) (Ls' := #[.val (.int p0), .val (.long p1), .second, .val (.int p2), .val (.int p3), .val (.int p4), .val (.int p5), .val (.int ui), .val (.long dv), .second, .val (.int ia), .val (.int ib), .val (.int ic), .val (.int (0 : Int32)), .val (.ref a10), .val (.int (0 : Int32)), .val (.int (0 : Int32)), .val (.int (0 : Int32)), .val (.long r66), .second, .unset, .unset, .unset, .unset]) rfl (pc' := 257) rfl ?_
    refine g_lload X63 hx (hb hby at_257) (v := r66) rfl (pc' := 259) rfl ?_
    refine g_iload X63 hx (hb hby at_259) (v := (0 : Int32)) rfl (pc' := 261) rfl ?_
    refine g_iload X63 hx (hb hby at_261) (v := (0 : Int32)) rfl (pc' := 263) rfl ?_
    refine g_iadd X63 hx (hb hby at_263) (pc' := 264) rfl ?_
    refine g_iload X63 hx (hb hby at_264) (v := ui) rfl (pc' := 266) rfl ?_
    refine g_static X63 hx hZ hown (hw _ (List.mem_of_getElem? (i := 2) rfl)) (hw _ (List.mem_of_getElem? (i := 3) rfl)) (hw _ (List.mem_of_getElem? (i := 4) rfl)) (hw _ (List.mem_of_getElem? (i := 5) rfl)) (by decide) (argsL := [(.long r66), (.int ((0 : Int32) + (0 : Int32))), (.int ui)]) (rm1 l Z a0 hw r66 ((0 : Int32) + (0 : Int32)) ui h9 n0 Z17 ) rfl K68 (by rw [hml]; rfl) pd_0 rfl (rest := []) rfl (W := 0) (Nat.le_of_eq rfl) (by decide) (by decide) (by decide) (by decide) N64 (hb hby at_266) (pc' := 269) rfl (fun v69 T70 L71 X72 N73 q74 => ?_)
    obtain ⟨r75, rfl, f76, K77⟩ := q74
    show OGoes p e s below (Q0 Z p0 p1 p2 p3 p4 p5 h0 n0) n0 room_1.cells room_1.slots T70 (mkF m 269 #[.val (.int p0), .val (.long p1), .second, .val (.int p2), .val (.int p3), .val (.int p4), .val (.int p5), .val (.int ui), .val (.long dv), .second, .val (.int ia), .val (.int ib), .val (.int ic), .val (.int (0 : Int32)), .val (.ref a10), .val (.int (0 : Int32)), .val (.int (0 : Int32)), .val (.int (0 : Int32)), .val (.long r66), .second, .unset, .unset, .unset, .unset] [(.long r75)])
    have G6 := own_Gs G5 (own_fitN sbc hU f76)
    clear f76 G5
    refine g_lstore X72 hx (hb hby at_269) (Ls' := #[.val (.int p0), .val (.long p1), .second, .val (.int p2), .val (.int p3), .val (.int p4), .val (.int p5), .val (.int ui), .val (.long dv), .second, .val (.int ia), .val (.int ib), .val (.int ic), .val (.int (0 : Int32)), .val (.ref a10), .val (.int (0 : Int32)), .val (.int (0 : Int32)), .val (.int (0 : Int32)), .val (.long r75), .second, .unset, .unset, .unset, .unset]) rfl (pc' := 271) rfl ?_
    refine g_lload X72 hx (hb hby at_271) (v := r75) rfl (pc' := 273) rfl ?_
    refine g_iload X72 hx (hb hby at_273) (v := (0 : Int32)) rfl (pc' := 275) rfl ?_
    refine g_iload X72 hx (hb hby at_275) (v := (0 : Int32)) rfl (pc' := 277) rfl ?_
    refine g_iadd X72 hx (hb hby at_277) (pc' := 278) rfl ?_
    refine g_iload X72 hx (hb hby at_278) (v := (0 : Int32)) rfl (pc' := 280) rfl ?_
    refine g_iadd X72 hx (hb hby at_280) (pc' := 281) rfl ?_
    refine g_iload X72 hx (hb hby at_281) (v := ui) rfl (pc' := 283) rfl ?_
    refine g_static X72 hx hZ hown (hw _ (List.mem_of_getElem? (i := 2) rfl)) (hw _ (List.mem_of_getElem? (i := 3) rfl)) (hw _ (List.mem_of_getElem? (i := 4) rfl)) (hw _ (List.mem_of_getElem? (i := 5) rfl)) (by decide) (argsL := [(.long r75), (.int (((0 : Int32) + (0 : Int32)) + (0 : Int32))), (.int ui)]) (rm1 l Z a0 hw r75 (((0 : Int32) + (0 : Int32)) + (0 : Int32)) ui h9 n0 Z17 ) rfl K77 (by rw [hml]; rfl) pd_0 rfl (rest := []) rfl (W := 0) (Nat.le_of_eq rfl) (by decide) (by decide) (by decide) (by decide) N73 (hb hby at_283) (pc' := 286) rfl (fun v78 T79 L80 X81 N82 q83 => ?_)
    obtain ⟨r84, rfl, f85, K86⟩ := q83
    show OGoes p e s below (Q0 Z p0 p1 p2 p3 p4 p5 h0 n0) n0 room_1.cells room_1.slots T79 (mkF m 286 #[.val (.int p0), .val (.long p1), .second, .val (.int p2), .val (.int p3), .val (.int p4), .val (.int p5), .val (.int ui), .val (.long dv), .second, .val (.int ia), .val (.int ib), .val (.int ic), .val (.int (0 : Int32)), .val (.ref a10), .val (.int (0 : Int32)), .val (.int (0 : Int32)), .val (.int (0 : Int32)), .val (.long r75), .second, .unset, .unset, .unset, .unset] [(.long r84)])
    have G7 := own_Gs G6 (own_fitN sabc hU f85)
    clear f85 G6
    refine g_lstore X81 hx (hb hby at_286) (Ls' := #[.val (.int p0), .val (.long p1), .second, .val (.int p2), .val (.int p3), .val (.int p4), .val (.int p5), .val (.int ui), .val (.long dv), .second, .val (.int ia), .val (.int ib), .val (.int ic), .val (.int (0 : Int32)), .val (.ref a10), .val (.int (0 : Int32)), .val (.int (0 : Int32)), .val (.int (0 : Int32)), .val (.long r84), .second, .unset, .unset, .unset, .unset]) rfl (pc' := 288) rfl ?_
    refine g_lload X81 hx (hb hby at_288) (v := r84) rfl (pc' := 290) rfl ?_
    refine g_lload X81 hx (hb hby at_290) (v := dv) rfl (pc' := 292) rfl ?_
    refine g_lmul X81 hx (hb hby at_292) (pc' := 293) rfl ?_
    refine g_lstore X81 hx (hb hby at_293) (Ls' := #[.val (.int p0), .val (.long p1), .second, .val (.int p2), .val (.int p3), .val (.int p4), .val (.int p5), .val (.int ui), .val (.long dv), .second, .val (.int ia), .val (.int ib), .val (.int ic), .val (.int (0 : Int32)), .val (.ref a10), .val (.int (0 : Int32)), .val (.int (0 : Int32)), .val (.int (0 : Int32)), .val (.long r84), .second, .val (.long (r84 * dv)), .second, .unset, .unset]) rfl (pc' := 295) rfl ?_
    refine g_aload X81 hx (hb hby at_295) (v := (.ref a10)) rfl rfl (pc' := 297) rfl ?_
    refine g_lload X81 hx (hb hby at_297) (v := dv) rfl (pc' := 299) rfl ?_
    refine g_iload X81 hx (hb hby at_299) (v := ui) rfl (pc' := 301) rfl ?_
    refine g_static X81 hx hZ hown (hw _ (List.mem_of_getElem? (i := 6) rfl)) (hw _ (List.mem_of_getElem? (i := 7) rfl)) (hw _ (List.mem_of_getElem? (i := 8) rfl)) (hw _ (List.mem_of_getElem? (i := 9) rfl)) (by decide) (argsL := [(.ref a10), (.long dv), (.int ui)]) (rm3 l Z a0 hw a10 dv ui 0 zeroL U (own_av A B D) h9 n0 Z17 A16 hU hU2 (by decide) hq hv0) rfl K86 (by rw [hml]; rfl) pd_2 rfl (rest := []) rfl (W := 0) (Nat.le_of_eq rfl) (by decide) (by decide) (by decide) (by decide) N82 (hb hby at_301) (pc' := 304) rfl (fun v87 T88 L89 X90 N91 q92 => ?_)
    obtain ⟨r93, s294, rfl, f95, K96⟩ := q92
    have Z97 : NLe n0 T88.heap.size := Z17.tr K96.1
    have F98 := A16.keep K96 nin0
    show OGoes p e s below (Q0 Z p0 p1 p2 p3 p4 p5 h0 n0) n0 room_1.cells room_1.slots T88 (mkF m 304 #[.val (.int p0), .val (.long p1), .second, .val (.int p2), .val (.int p3), .val (.int p4), .val (.int p5), .val (.int ui), .val (.long dv), .second, .val (.int ia), .val (.int ib), .val (.int ic), .val (.int (0 : Int32)), .val (.ref a10), .val (.int (0 : Int32)), .val (.int (0 : Int32)), .val (.int (0 : Int32)), .val (.long r84), .second, .val (.long (r84 * dv)), .second, .unset, .unset] [(.long r93)])
    have hbest : r84.toInt = (s294 : Int) := own_best0 G7 f95.2.1 f95.2.2.1 f95.2.2.2
    have hs2 := f95.2.1
    have hmul : (r84 * dv).toInt = (s294 : Int) * dv.toInt := own_mul hbest rfl ⟨by omega, by omega⟩ hq
    refine g_lstore X90 hx (hb hby at_304) (Ls' := #[.val (.int p0), .val (.long p1), .second, .val (.int p2), .val (.int p3), .val (.int p4), .val (.int p5), .val (.int ui), .val (.long dv), .second, .val (.int ia), .val (.int ib), .val (.int ic), .val (.int (0 : Int32)), .val (.ref a10), .val (.int (0 : Int32)), .val (.int (0 : Int32)), .val (.int (0 : Int32)), .val (.long r84), .second, .val (.long (r84 * dv)), .second, .val (.long r93), .second]) rfl (pc' := 306) rfl ?_
    refine g_lload X90 hx (hb hby at_306) (v := r93) rfl (pc' := 308) rfl ?_
    refine g_lload X90 hx (hb hby at_308) (v := (r84 * dv)) rfl (pc' := 310) rfl ?_
    refine g_ll_ne X90 hx (a := r93.toInt) (b := (r84 * dv).toInt) rfl rfl (hb hby at_310) (pc1 := 311) rfl (hb hby at_311) (by decide) (pc' := 318) (by decide) (pc2 := 314) rfl (fun cc => False.elim (by exact cc (f95.1.trans hmul.symm))) (fun cc => ?_)
    refine g_iconst X90 hx (hb hby at_314) (v := 1) (by decide) (pc' := 315) rfl ?_
    refine g_goto X90 hx (hb hby at_315) (by decide) (pc' := 319) (by decide) ?_
    refine g_retZ X90 hx hlk (by decide) hret (hb hby at_319) N91 (by decide) (by decide) ?_
    exact rfl
  · clear hcn
    show OGoes p e s below (Q0 Z p0 p1 p2 p3 p4 p5 h0 n0) n0 room_1.cells room_1.slots s₁ (mkF m 51 #[.val (.int p0), .val (.long p1), .second, .val (.int p2), .val (.int p3), .val (.int p4), .val (.int p5), .val (.int ui), .val (.long dv), .second, .val (.int ia), .val (.int ib), .val (.int ic), .val (.int (1 : Int32)), .unset, .unset, .unset, .unset, .unset, .unset, .unset, .unset, .unset, .unset] [])
    have sab : own_is (ia + (0 : Int32)) (A + 0) := own_add hA (rfl : (0 : Int32).toInt = ((0 : Nat) : Int)) (by omega)
    have sac : own_is (ia + (0 : Int32)) (A + 0) := own_add hA (rfl : (0 : Int32).toInt = ((0 : Nat) : Int)) (by omega)
    have sbc : own_is ((0 : Int32) + (0 : Int32)) (0 + 0) := own_add (rfl : (0 : Int32).toInt = ((0 : Nat) : Int)) (rfl : (0 : Int32).toInt = ((0 : Nat) : Int)) (by omega)
    have sabc : own_is ((ia + (0 : Int32)) + (0 : Int32)) (A + 0 + 0) := own_add sab (rfl : (0 : Int32).toInt = ((0 : Nat) : Int)) (by omega)
    refine g_iload X0 hx (hb hby at_51) (v := (1 : Int32)) rfl (pc' := 53) rfl ?_
    refine g_i0_ne X0 hx (a := 1) rfl (hb hby at_53) (by decide) (pc' := 64) (by decide) (pc2 := 56) rfl (fun c99 => ?_) (fun c99 => False.elim (by omega))
    refine g_iload X0 hx (hb hby at_64) (v := (1 : Int32)) rfl (pc' := 66) rfl ?_
    refine g_iconst X0 hx (hb hby at_66) (v := 1) (by decide) (pc' := 67) rfl ?_
    refine g_ii_ne X0 hx (a := 1) (b := 1) rfl rfl (hb hby at_67) (by decide) (pc' := 87) (by decide) (pc2 := 70) rfl (fun c100 => False.elim (by omega)) (fun c100 => ?_)
    refine g_iconst X0 hx (hb hby at_70) (v := 1) (by decide) (pc' := 71) rfl ?_
    refine g_newLA X0 hx hZ (hw _ (List.mem_of_getElem? (i := 1) rfl)) e0 (n := 1) rfl (cap := 1) (by decide) (by decide) (hb hby at_71) (by decide) (by decide) (pc' := 73) rfl (fun T101 h102 a103 g104 X105 e106 E107 l108 A109  => ?_)
    have Z110 : NLe n0 h102.size := Z0.tr E107.1
    have nl111 : NLe n0 a103 := NLe.at g104 Z0
    clear g104 l108
    refine g_dup X105 hx (hb hby at_73) rfl (pc' := 74) rfl ?_
    refine g_iconst X105 hx (hb hby at_74) (v := 0) (by decide) (pc' := 75) rfl ?_
    refine g_iload X105 hx (hb hby at_75) (v := ia) rfl (pc' := 77) rfl ?_
    refine g_i2l X105 hx (hb hby at_77) (pc' := 78) rfl ?_
    refine g_lload X105 hx (hb hby at_78) (v := dv) rfl (pc' := 80) rfl ?_
    refine g_lmul X105 hx (hb hby at_80) (pc' := 81) rfl ?_
    refine g_lastore X105 hx hZ e106 (k := 0) (x := (ia.toInt64 * dv)) A109 rfl (by decide) N0 nl111 (hb hby at_81) (pc' := 82) rfl (fun T112 h113 L114 X115 e116 W117 N118 A119 => ?_)
    have Z120 : NLe n0 h113.size := Z110.wr W117
    refine g_astore X115 hx (hb hby at_82) rfl (Ls' := #[.val (.int p0), .val (.long p1), .second, .val (.int p2), .val (.int p3), .val (.int p4), .val (.int p5), .val (.int ui), .val (.long dv), .second, .val (.int ia), .val (.int ib), .val (.int ic), .val (.int (1 : Int32)), .val (.ref a103), .unset, .unset, .unset, .unset, .unset, .unset, .unset, .unset, .unset]) rfl (pc' := 84) rfl ?_
    refine g_goto X115 hx (hb hby at_84) (by decide) (pc' := 151) (by decide) ?_
    refine g_iload X115 hx (hb hby at_151) (v := (1 : Int32)) rfl (pc' := 153) rfl ?_
    refine g_iconst X115 hx (hb hby at_153) (v := 1) (by decide) (pc' := 154) rfl ?_
    refine g_ii_lt X115 hx (a := 1) (b := 1) rfl rfl (hb hby at_154) (by decide) (pc' := 162) (by decide) (pc2 := 157) rfl (fun c122 => False.elim (by omega)) (fun c122 => ?_)
    refine g_iload X115 hx (hb hby at_157) (v := ia) rfl (pc' := 159) rfl ?_
    refine g_goto X115 hx (hb hby at_159) (by decide) (pc' := 163) (by decide) ?_
    refine g_istore X115 hx (hb hby at_163) (Ls' := #[.val (.int p0), .val (.long p1), .second, .val (.int p2), .val (.int p3), .val (.int p4), .val (.int p5), .val (.int ui), .val (.long dv), .second, .val (.int ia), .val (.int ib), .val (.int ic), .val (.int (1 : Int32)), .val (.ref a103), .val (.int ia), .unset, .unset, .unset, .unset, .unset, .unset, .unset, .unset]) rfl (pc' := 165) rfl ?_
    refine g_iload X115 hx (hb hby at_165) (v := (1 : Int32)) rfl (pc' := 167) rfl ?_
    refine g_iconst X115 hx (hb hby at_167) (v := 2) (by decide) (pc' := 168) rfl ?_
    refine g_ii_lt X115 hx (a := 1) (b := 2) rfl rfl (hb hby at_168) (by decide) (pc' := 176) (by decide) (pc2 := 171) rfl (fun c123 => ?_) (fun c123 => False.elim (by omega))
    refine g_iconst X115 hx (hb hby at_176) (v := 0) (by decide) (pc' := 177) rfl ?_
    refine g_istore X115 hx (hb hby at_177) (Ls' := #[.val (.int p0), .val (.long p1), .second, .val (.int p2), .val (.int p3), .val (.int p4), .val (.int p5), .val (.int ui), .val (.long dv), .second, .val (.int ia), .val (.int ib), .val (.int ic), .val (.int (1 : Int32)), .val (.ref a103), .val (.int ia), .val (.int (0 : Int32)), .unset, .unset, .unset, .unset, .unset, .unset, .unset]) rfl (pc' := 179) rfl ?_
    refine g_iload X115 hx (hb hby at_179) (v := (1 : Int32)) rfl (pc' := 181) rfl ?_
    refine g_iconst X115 hx (hb hby at_181) (v := 3) (by decide) (pc' := 182) rfl ?_
    refine g_ii_lt X115 hx (a := 1) (b := 3) rfl rfl (hb hby at_182) (by decide) (pc' := 190) (by decide) (pc2 := 185) rfl (fun c124 => ?_) (fun c124 => False.elim (by omega))
    refine g_iconst X115 hx (hb hby at_190) (v := 0) (by decide) (pc' := 191) rfl ?_
    refine g_istore X115 hx (hb hby at_191) (Ls' := #[.val (.int p0), .val (.long p1), .second, .val (.int p2), .val (.int p3), .val (.int p4), .val (.int p5), .val (.int ui), .val (.long dv), .second, .val (.int ia), .val (.int ib), .val (.int ic), .val (.int (1 : Int32)), .val (.ref a103), .val (.int ia), .val (.int (0 : Int32)), .val (.int (0 : Int32)), .unset, .unset, .unset, .unset, .unset, .unset]) rfl (pc' := 193) rfl ?_
    refine g_lconst X115 hx (hb hby at_193) (v := 0) (by decide) (pc' := 194) rfl ?_
    refine g_lstore X115 hx (hb hby at_194) (Ls' := #[.val (.int p0), .val (.long p1), .second, .val (.int p2), .val (.int p3), .val (.int p4), .val (.int p5), .val (.int ui), .val (.long dv), .second, .val (.int ia), .val (.int ib), .val (.int ic), .val (.int (1 : Int32)), .val (.ref a103), .val (.int ia), .val (.int (0 : Int32)), .val (.int (0 : Int32)), .val (.long (0 : Int64)), .second, .unset, .unset, .unset, .unset]) rfl (pc' := 196) rfl ?_
    refine g_lload X115 hx (hb hby at_196) (v := (0 : Int64)) rfl (pc' := 198) rfl ?_
    refine g_iload X115 hx (hb hby at_198) (v := ia) rfl (pc' := 200) rfl ?_
    refine g_iload X115 hx (hb hby at_200) (v := ui) rfl (pc' := 202) rfl ?_
    refine g_static X115 hx hZ hown (hw _ (List.mem_of_getElem? (i := 2) rfl)) (hw _ (List.mem_of_getElem? (i := 3) rfl)) (hw _ (List.mem_of_getElem? (i := 4) rfl)) (hw _ (List.mem_of_getElem? (i := 5) rfl)) (by decide) (argsL := [(.long (0 : Int64)), (.int ia), (.int ui)]) (rm1 l Z a0 hw (0 : Int64) ia ui h113 n0 Z120 ) rfl e116 (by rw [hml]; rfl) pd_0 rfl (rest := []) rfl (W := 0) (Nat.le_of_eq rfl) (by decide) (by decide) (by decide) (by decide) N118 (hb hby at_202) (pc' := 205) rfl (fun v125 T126 L127 X128 N129 q130 => ?_)
    obtain ⟨r131, rfl, f132, K133⟩ := q130
    have lt134 : (0 : Int64).toInt = 0 := rfl
    show OGoes p e s below (Q0 Z p0 p1 p2 p3 p4 p5 h0 n0) n0 room_1.cells room_1.slots T126 (mkF m 205 #[.val (.int p0), .val (.long p1), .second, .val (.int p2), .val (.int p3), .val (.int p4), .val (.int p5), .val (.int ui), .val (.long dv), .second, .val (.int ia), .val (.int ib), .val (.int ic), .val (.int (1 : Int32)), .val (.ref a103), .val (.int ia), .val (.int (0 : Int32)), .val (.int (0 : Int32)), .val (.long (0 : Int64)), .second, .unset, .unset, .unset, .unset] [(.long r131)])
    have G1 := own_Gs (own_G0 (Int.natCast_nonneg U) (rfl : (0 : Int64).toInt = 0)) (own_fitN hA hU f132)
    clear f132
    refine g_lstore X128 hx (hb hby at_205) (Ls' := #[.val (.int p0), .val (.long p1), .second, .val (.int p2), .val (.int p3), .val (.int p4), .val (.int p5), .val (.int ui), .val (.long dv), .second, .val (.int ia), .val (.int ib), .val (.int ic), .val (.int (1 : Int32)), .val (.ref a103), .val (.int ia), .val (.int (0 : Int32)), .val (.int (0 : Int32)), .val (.long r131), .second, .unset, .unset, .unset, .unset]) rfl (pc' := 207) rfl ?_
    refine g_lload X128 hx (hb hby at_207) (v := r131) rfl (pc' := 209) rfl ?_
    refine g_iload X128 hx (hb hby at_209) (v := (0 : Int32)) rfl (pc' := 211) rfl ?_
    refine g_iload X128 hx (hb hby at_211) (v := ui) rfl (pc' := 213) rfl ?_
    refine g_static X128 hx hZ hown (hw _ (List.mem_of_getElem? (i := 2) rfl)) (hw _ (List.mem_of_getElem? (i := 3) rfl)) (hw _ (List.mem_of_getElem? (i := 4) rfl)) (hw _ (List.mem_of_getElem? (i := 5) rfl)) (by decide) (argsL := [(.long r131), (.int (0 : Int32)), (.int ui)]) (rm1 l Z a0 hw r131 (0 : Int32) ui h113 n0 Z120 ) rfl K133 (by rw [hml]; rfl) pd_0 rfl (rest := []) rfl (W := 0) (Nat.le_of_eq rfl) (by decide) (by decide) (by decide) (by decide) N129 (hb hby at_213) (pc' := 216) rfl (fun v135 T136 L137 X138 N139 q140 => ?_)
    obtain ⟨r141, rfl, f142, K143⟩ := q140
    have lt144 : (0 : Int32).toInt = 0 := rfl
    show OGoes p e s below (Q0 Z p0 p1 p2 p3 p4 p5 h0 n0) n0 room_1.cells room_1.slots T136 (mkF m 216 #[.val (.int p0), .val (.long p1), .second, .val (.int p2), .val (.int p3), .val (.int p4), .val (.int p5), .val (.int ui), .val (.long dv), .second, .val (.int ia), .val (.int ib), .val (.int ic), .val (.int (1 : Int32)), .val (.ref a103), .val (.int ia), .val (.int (0 : Int32)), .val (.int (0 : Int32)), .val (.long r131), .second, .unset, .unset, .unset, .unset] [(.long r141)])
    have G2 := own_Gs G1 (own_fitN (rfl : (0 : Int32).toInt = ((0 : Nat) : Int)) hU f142)
    clear f142 G1
    refine g_lstore X138 hx (hb hby at_216) (Ls' := #[.val (.int p0), .val (.long p1), .second, .val (.int p2), .val (.int p3), .val (.int p4), .val (.int p5), .val (.int ui), .val (.long dv), .second, .val (.int ia), .val (.int ib), .val (.int ic), .val (.int (1 : Int32)), .val (.ref a103), .val (.int ia), .val (.int (0 : Int32)), .val (.int (0 : Int32)), .val (.long r141), .second, .unset, .unset, .unset, .unset]) rfl (pc' := 218) rfl ?_
    refine g_lload X138 hx (hb hby at_218) (v := r141) rfl (pc' := 220) rfl ?_
    refine g_iload X138 hx (hb hby at_220) (v := (0 : Int32)) rfl (pc' := 222) rfl ?_
    refine g_iload X138 hx (hb hby at_222) (v := ui) rfl (pc' := 224) rfl ?_
    refine g_static X138 hx hZ hown (hw _ (List.mem_of_getElem? (i := 2) rfl)) (hw _ (List.mem_of_getElem? (i := 3) rfl)) (hw _ (List.mem_of_getElem? (i := 4) rfl)) (hw _ (List.mem_of_getElem? (i := 5) rfl)) (by decide) (argsL := [(.long r141), (.int (0 : Int32)), (.int ui)]) (rm1 l Z a0 hw r141 (0 : Int32) ui h113 n0 Z120 ) rfl K143 (by rw [hml]; rfl) pd_0 rfl (rest := []) rfl (W := 0) (Nat.le_of_eq rfl) (by decide) (by decide) (by decide) (by decide) N139 (hb hby at_224) (pc' := 227) rfl (fun v145 T146 L147 X148 N149 q150 => ?_)
    obtain ⟨r151, rfl, f152, K153⟩ := q150
    show OGoes p e s below (Q0 Z p0 p1 p2 p3 p4 p5 h0 n0) n0 room_1.cells room_1.slots T146 (mkF m 227 #[.val (.int p0), .val (.long p1), .second, .val (.int p2), .val (.int p3), .val (.int p4), .val (.int p5), .val (.int ui), .val (.long dv), .second, .val (.int ia), .val (.int ib), .val (.int ic), .val (.int (1 : Int32)), .val (.ref a103), .val (.int ia), .val (.int (0 : Int32)), .val (.int (0 : Int32)), .val (.long r141), .second, .unset, .unset, .unset, .unset] [(.long r151)])
    have G3 := own_Gs G2 (own_fitN (rfl : (0 : Int32).toInt = ((0 : Nat) : Int)) hU f152)
    clear f152 G2
    refine g_lstore X148 hx (hb hby at_227) (Ls' := #[.val (.int p0), .val (.long p1), .second, .val (.int p2), .val (.int p3), .val (.int p4), .val (.int p5), .val (.int ui), .val (.long dv), .second, .val (.int ia), .val (.int ib), .val (.int ic), .val (.int (1 : Int32)), .val (.ref a103), .val (.int ia), .val (.int (0 : Int32)), .val (.int (0 : Int32)), .val (.long r151), .second, .unset, .unset, .unset, .unset]) rfl (pc' := 229) rfl ?_
    refine g_lload X148 hx (hb hby at_229) (v := r151) rfl (pc' := 231) rfl ?_
    refine g_iload X148 hx (hb hby at_231) (v := ia) rfl (pc' := 233) rfl ?_
    refine g_iload X148 hx (hb hby at_233) (v := (0 : Int32)) rfl (pc' := 235) rfl ?_
    refine g_iadd X148 hx (hb hby at_235) (pc' := 236) rfl ?_
    refine g_iload X148 hx (hb hby at_236) (v := ui) rfl (pc' := 238) rfl ?_
    refine g_static X148 hx hZ hown (hw _ (List.mem_of_getElem? (i := 2) rfl)) (hw _ (List.mem_of_getElem? (i := 3) rfl)) (hw _ (List.mem_of_getElem? (i := 4) rfl)) (hw _ (List.mem_of_getElem? (i := 5) rfl)) (by decide) (argsL := [(.long r151), (.int (ia + (0 : Int32))), (.int ui)]) (rm1 l Z a0 hw r151 (ia + (0 : Int32)) ui h113 n0 Z120 ) rfl K153 (by rw [hml]; rfl) pd_0 rfl (rest := []) rfl (W := 0) (Nat.le_of_eq rfl) (by decide) (by decide) (by decide) (by decide) N149 (hb hby at_238) (pc' := 241) rfl (fun v154 T155 L156 X157 N158 q159 => ?_)
    obtain ⟨r160, rfl, f161, K162⟩ := q159
    show OGoes p e s below (Q0 Z p0 p1 p2 p3 p4 p5 h0 n0) n0 room_1.cells room_1.slots T155 (mkF m 241 #[.val (.int p0), .val (.long p1), .second, .val (.int p2), .val (.int p3), .val (.int p4), .val (.int p5), .val (.int ui), .val (.long dv), .second, .val (.int ia), .val (.int ib), .val (.int ic), .val (.int (1 : Int32)), .val (.ref a103), .val (.int ia), .val (.int (0 : Int32)), .val (.int (0 : Int32)), .val (.long r151), .second, .unset, .unset, .unset, .unset] [(.long r160)])
    have G4 := own_Gs G3 (own_fitN sab hU f161)
    clear f161 G3
    refine g_lstore X157 hx (hb hby at_241) (Ls' := #[.val (.int p0), .val (.long p1), .second, .val (.int p2), .val (.int p3), .val (.int p4), .val (.int p5), .val (.int ui), .val (.long dv), .second, .val (.int ia), .val (.int ib), .val (.int ic), .val (.int (1 : Int32)), .val (.ref a103), .val (.int ia), .val (.int (0 : Int32)), .val (.int (0 : Int32)), .val (.long r160), .second, .unset, .unset, .unset, .unset]) rfl (pc' := 243) rfl ?_
    refine g_lload X157 hx (hb hby at_243) (v := r160) rfl (pc' := 245) rfl ?_
    refine g_iload X157 hx (hb hby at_245) (v := ia) rfl (pc' := 247) rfl ?_
    refine g_iload X157 hx (hb hby at_247) (v := (0 : Int32)) rfl (pc' := 249) rfl ?_
    refine g_iadd X157 hx (hb hby at_249) (pc' := 250) rfl ?_
    refine g_iload X157 hx (hb hby at_250) (v := ui) rfl (pc' := 252) rfl ?_
    refine g_static X157 hx hZ hown (hw _ (List.mem_of_getElem? (i := 2) rfl)) (hw _ (List.mem_of_getElem? (i := 3) rfl)) (hw _ (List.mem_of_getElem? (i := 4) rfl)) (hw _ (List.mem_of_getElem? (i := 5) rfl)) (by decide) (argsL := [(.long r160), (.int (ia + (0 : Int32))), (.int ui)]) (rm1 l Z a0 hw r160 (ia + (0 : Int32)) ui h113 n0 Z120 ) rfl K162 (by rw [hml]; rfl) pd_0 rfl (rest := []) rfl (W := 0) (Nat.le_of_eq rfl) (by decide) (by decide) (by decide) (by decide) N158 (hb hby at_252) (pc' := 255) rfl (fun v163 T164 L165 X166 N167 q168 => ?_)
    obtain ⟨r169, rfl, f170, K171⟩ := q168
    show OGoes p e s below (Q0 Z p0 p1 p2 p3 p4 p5 h0 n0) n0 room_1.cells room_1.slots T164 (mkF m 255 #[.val (.int p0), .val (.long p1), .second, .val (.int p2), .val (.int p3), .val (.int p4), .val (.int p5), .val (.int ui), .val (.long dv), .second, .val (.int ia), .val (.int ib), .val (.int ic), .val (.int (1 : Int32)), .val (.ref a103), .val (.int ia), .val (.int (0 : Int32)), .val (.int (0 : Int32)), .val (.long r160), .second, .unset, .unset, .unset, .unset] [(.long r169)])
    have G5 := own_Gs G4 (own_fitN sac hU f170)
    clear f170 G4
    refine g_lstore X166 hx (hb hby at_255) (Ls' := #[.val (.int p0), .val (.long p1), .second, .val (.int p2), .val (.int p3), .val (.int p4), .val (.int p5), .val (.int ui), .val (.long dv), .second, .val (.int ia), .val (.int ib), .val (.int ic), .val (.int (1 : Int32)), .val (.ref a103), .val (.int ia), .val (.int (0 : Int32)), .val (.int (0 : Int32)), .val (.long r169), .second, .unset, .unset, .unset, .unset]) rfl (pc' := 257) rfl ?_
    refine g_lload X166 hx (hb hby at_257) (v := r169) rfl (pc' := 259) rfl ?_
    refine g_iload X166 hx (hb hby at_259) (v := (0 : Int32)) rfl (pc' := 261) rfl ?_
    refine g_iload X166 hx (hb hby at_261) (v := (0 : Int32)) rfl (pc' := 263) rfl ?_
    refine g_iadd X166 hx (hb hby at_263) (pc' := 264) rfl ?_
    refine g_iload X166 hx (hb hby at_264) (v := ui) rfl (pc' := 266) rfl ?_
    refine g_static X166 hx hZ hown (hw _ (List.mem_of_getElem? (i := 2) rfl)) (hw _ (List.mem_of_getElem? (i := 3) rfl)) (hw _ (List.mem_of_getElem? (i := 4) rfl)) (hw _ (List.mem_of_getElem? (i := 5) rfl)) (by decide) (argsL := [(.long r169), (.int ((0 : Int32) + (0 : Int32))), (.int ui)]) (rm1 l Z a0 hw r169 ((0 : Int32) + (0 : Int32)) ui h113 n0 Z120 ) rfl K171 (by rw [hml]; rfl) pd_0 rfl (rest := []) rfl (W := 0) (Nat.le_of_eq rfl) (by decide) (by decide) (by decide) (by decide) N167 (hb hby at_266) (pc' := 269) rfl (fun v172 T173 L174 X175 N176 q177 => ?_)
    obtain ⟨r178, rfl, f179, K180⟩ := q177
    show OGoes p e s below (Q0 Z p0 p1 p2 p3 p4 p5 h0 n0) n0 room_1.cells room_1.slots T173 (mkF m 269 #[.val (.int p0), .val (.long p1), .second, .val (.int p2), .val (.int p3), .val (.int p4), .val (.int p5), .val (.int ui), .val (.long dv), .second, .val (.int ia), .val (.int ib), .val (.int ic), .val (.int (1 : Int32)), .val (.ref a103), .val (.int ia), .val (.int (0 : Int32)), .val (.int (0 : Int32)), .val (.long r169), .second, .unset, .unset, .unset, .unset] [(.long r178)])
    have G6 := own_Gs G5 (own_fitN sbc hU f179)
    clear f179 G5
    refine g_lstore X175 hx (hb hby at_269) (Ls' := #[.val (.int p0), .val (.long p1), .second, .val (.int p2), .val (.int p3), .val (.int p4), .val (.int p5), .val (.int ui), .val (.long dv), .second, .val (.int ia), .val (.int ib), .val (.int ic), .val (.int (1 : Int32)), .val (.ref a103), .val (.int ia), .val (.int (0 : Int32)), .val (.int (0 : Int32)), .val (.long r178), .second, .unset, .unset, .unset, .unset]) rfl (pc' := 271) rfl ?_
    refine g_lload X175 hx (hb hby at_271) (v := r178) rfl (pc' := 273) rfl ?_
    refine g_iload X175 hx (hb hby at_273) (v := ia) rfl (pc' := 275) rfl ?_
    refine g_iload X175 hx (hb hby at_275) (v := (0 : Int32)) rfl (pc' := 277) rfl ?_
    refine g_iadd X175 hx (hb hby at_277) (pc' := 278) rfl ?_
    refine g_iload X175 hx (hb hby at_278) (v := (0 : Int32)) rfl (pc' := 280) rfl ?_
    refine g_iadd X175 hx (hb hby at_280) (pc' := 281) rfl ?_
    refine g_iload X175 hx (hb hby at_281) (v := ui) rfl (pc' := 283) rfl ?_
    refine g_static X175 hx hZ hown (hw _ (List.mem_of_getElem? (i := 2) rfl)) (hw _ (List.mem_of_getElem? (i := 3) rfl)) (hw _ (List.mem_of_getElem? (i := 4) rfl)) (hw _ (List.mem_of_getElem? (i := 5) rfl)) (by decide) (argsL := [(.long r178), (.int ((ia + (0 : Int32)) + (0 : Int32))), (.int ui)]) (rm1 l Z a0 hw r178 ((ia + (0 : Int32)) + (0 : Int32)) ui h113 n0 Z120 ) rfl K180 (by rw [hml]; rfl) pd_0 rfl (rest := []) rfl (W := 0) (Nat.le_of_eq rfl) (by decide) (by decide) (by decide) (by decide) N176 (hb hby at_283) (pc' := 286) rfl (fun v181 T182 L183 X184 N185 q186 => ?_)
    obtain ⟨r187, rfl, f188, K189⟩ := q186
    show OGoes p e s below (Q0 Z p0 p1 p2 p3 p4 p5 h0 n0) n0 room_1.cells room_1.slots T182 (mkF m 286 #[.val (.int p0), .val (.long p1), .second, .val (.int p2), .val (.int p3), .val (.int p4), .val (.int p5), .val (.int ui), .val (.long dv), .second, .val (.int ia), .val (.int ib), .val (.int ic), .val (.int (1 : Int32)), .val (.ref a103), .val (.int ia), .val (.int (0 : Int32)), .val (.int (0 : Int32)), .val (.long r178), .second, .unset, .unset, .unset, .unset] [(.long r187)])
    have G7 := own_Gs G6 (own_fitN sabc hU f188)
    clear f188 G6
    refine g_lstore X184 hx (hb hby at_286) (Ls' := #[.val (.int p0), .val (.long p1), .second, .val (.int p2), .val (.int p3), .val (.int p4), .val (.int p5), .val (.int ui), .val (.long dv), .second, .val (.int ia), .val (.int ib), .val (.int ic), .val (.int (1 : Int32)), .val (.ref a103), .val (.int ia), .val (.int (0 : Int32)), .val (.int (0 : Int32)), .val (.long r187), .second, .unset, .unset, .unset, .unset]) rfl (pc' := 288) rfl ?_
    refine g_lload X184 hx (hb hby at_288) (v := r187) rfl (pc' := 290) rfl ?_
    refine g_lload X184 hx (hb hby at_290) (v := dv) rfl (pc' := 292) rfl ?_
    refine g_lmul X184 hx (hb hby at_292) (pc' := 293) rfl ?_
    refine g_lstore X184 hx (hb hby at_293) (Ls' := #[.val (.int p0), .val (.long p1), .second, .val (.int p2), .val (.int p3), .val (.int p4), .val (.int p5), .val (.int ui), .val (.long dv), .second, .val (.int ia), .val (.int ib), .val (.int ic), .val (.int (1 : Int32)), .val (.ref a103), .val (.int ia), .val (.int (0 : Int32)), .val (.int (0 : Int32)), .val (.long r187), .second, .val (.long (r187 * dv)), .second, .unset, .unset]) rfl (pc' := 295) rfl ?_
    refine g_aload X184 hx (hb hby at_295) (v := (.ref a103)) rfl rfl (pc' := 297) rfl ?_
    refine g_lload X184 hx (hb hby at_297) (v := dv) rfl (pc' := 299) rfl ?_
    refine g_iload X184 hx (hb hby at_299) (v := ui) rfl (pc' := 301) rfl ?_
    refine g_static X184 hx hZ hown (hw _ (List.mem_of_getElem? (i := 6) rfl)) (hw _ (List.mem_of_getElem? (i := 7) rfl)) (hw _ (List.mem_of_getElem? (i := 8) rfl)) (hw _ (List.mem_of_getElem? (i := 9) rfl)) (by decide) (argsL := [(.ref a103), (.long dv), (.int ui)]) (rm3 l Z a0 hw a103 dv ui 1 (oupd zeroL 0 (ia.toInt64 * dv)) U (own_av A B D) h113 n0 Z120 A119 hU hU2 (by decide) hq hv1) rfl K189 (by rw [hml]; rfl) pd_2 rfl (rest := []) rfl (W := 0) (Nat.le_of_eq rfl) (by decide) (by decide) (by decide) (by decide) N185 (hb hby at_301) (pc' := 304) rfl (fun v190 T191 L192 X193 N194 q195 => ?_)
    obtain ⟨r196, s2197, rfl, f198, K199⟩ := q195
    have Z200 : NLe n0 T191.heap.size := Z120.tr K199.1
    have F201 := A119.keep K199 nin0
    show OGoes p e s below (Q0 Z p0 p1 p2 p3 p4 p5 h0 n0) n0 room_1.cells room_1.slots T191 (mkF m 304 #[.val (.int p0), .val (.long p1), .second, .val (.int p2), .val (.int p3), .val (.int p4), .val (.int p5), .val (.int ui), .val (.long dv), .second, .val (.int ia), .val (.int ib), .val (.int ic), .val (.int (1 : Int32)), .val (.ref a103), .val (.int ia), .val (.int (0 : Int32)), .val (.int (0 : Int32)), .val (.long r187), .second, .val (.long (r187 * dv)), .second, .unset, .unset] [(.long r196)])
    have hbest : r187.toInt = (s2197 : Int) := own_best1 G7 f198.2.1 f198.2.2.1 f198.2.2.2
    have hs2 := f198.2.1
    have hmul : (r187 * dv).toInt = (s2197 : Int) * dv.toInt := own_mul hbest rfl ⟨by omega, by omega⟩ hq
    refine g_lstore X193 hx (hb hby at_304) (Ls' := #[.val (.int p0), .val (.long p1), .second, .val (.int p2), .val (.int p3), .val (.int p4), .val (.int p5), .val (.int ui), .val (.long dv), .second, .val (.int ia), .val (.int ib), .val (.int ic), .val (.int (1 : Int32)), .val (.ref a103), .val (.int ia), .val (.int (0 : Int32)), .val (.int (0 : Int32)), .val (.long r187), .second, .val (.long (r187 * dv)), .second, .val (.long r196), .second]) rfl (pc' := 306) rfl ?_
    refine g_lload X193 hx (hb hby at_306) (v := r196) rfl (pc' := 308) rfl ?_
    refine g_lload X193 hx (hb hby at_308) (v := (r187 * dv)) rfl (pc' := 310) rfl ?_
    refine g_ll_ne X193 hx (a := r196.toInt) (b := (r187 * dv).toInt) rfl rfl (hb hby at_310) (pc1 := 311) rfl (hb hby at_311) (by decide) (pc' := 318) (by decide) (pc2 := 314) rfl (fun cc => False.elim (by exact cc (f198.1.trans hmul.symm))) (fun cc => ?_)
    refine g_iconst X193 hx (hb hby at_314) (v := 1) (by decide) (pc' := 315) rfl ?_
    refine g_goto X193 hx (hb hby at_315) (by decide) (pc' := 319) (by decide) ?_
    refine g_retZ X193 hx hlk (by decide) hret (hb hby at_319) N194 (by decide) (by decide) ?_
    exact rfl
  · clear hcn
    show OGoes p e s below (Q0 Z p0 p1 p2 p3 p4 p5 h0 n0) n0 room_1.cells room_1.slots s₁ (mkF m 51 #[.val (.int p0), .val (.long p1), .second, .val (.int p2), .val (.int p3), .val (.int p4), .val (.int p5), .val (.int ui), .val (.long dv), .second, .val (.int ia), .val (.int ib), .val (.int ic), .val (.int (2 : Int32)), .unset, .unset, .unset, .unset, .unset, .unset, .unset, .unset, .unset, .unset] [])
    have sab : own_is (ia + ib) (A + B) := own_add hA hB (by omega)
    have sac : own_is (ia + (0 : Int32)) (A + 0) := own_add hA (rfl : (0 : Int32).toInt = ((0 : Nat) : Int)) (by omega)
    have sbc : own_is (ib + (0 : Int32)) (B + 0) := own_add hB (rfl : (0 : Int32).toInt = ((0 : Nat) : Int)) (by omega)
    have sabc : own_is ((ia + ib) + (0 : Int32)) (A + B + 0) := own_add sab (rfl : (0 : Int32).toInt = ((0 : Nat) : Int)) (by omega)
    refine g_iload X0 hx (hb hby at_51) (v := (2 : Int32)) rfl (pc' := 53) rfl ?_
    refine g_i0_ne X0 hx (a := 2) rfl (hb hby at_53) (by decide) (pc' := 64) (by decide) (pc2 := 56) rfl (fun c202 => ?_) (fun c202 => False.elim (by omega))
    refine g_iload X0 hx (hb hby at_64) (v := (2 : Int32)) rfl (pc' := 66) rfl ?_
    refine g_iconst X0 hx (hb hby at_66) (v := 1) (by decide) (pc' := 67) rfl ?_
    refine g_ii_ne X0 hx (a := 2) (b := 1) rfl rfl (hb hby at_67) (by decide) (pc' := 87) (by decide) (pc2 := 70) rfl (fun c203 => ?_) (fun c203 => False.elim (by omega))
    refine g_iload X0 hx (hb hby at_87) (v := (2 : Int32)) rfl (pc' := 89) rfl ?_
    refine g_iconst X0 hx (hb hby at_89) (v := 2) (by decide) (pc' := 90) rfl ?_
    refine g_ii_ne X0 hx (a := 2) (b := 2) rfl rfl (hb hby at_90) (by decide) (pc' := 119) (by decide) (pc2 := 93) rfl (fun c204 => False.elim (by omega)) (fun c204 => ?_)
    refine g_iconst X0 hx (hb hby at_93) (v := 2) (by decide) (pc' := 94) rfl ?_
    refine g_newLA X0 hx hZ (hw _ (List.mem_of_getElem? (i := 1) rfl)) e0 (n := 2) rfl (cap := 2) (by decide) (by decide) (hb hby at_94) (by decide) (by decide) (pc' := 96) rfl (fun T205 h206 a207 g208 X209 e210 E211 l212 A213  => ?_)
    have Z214 : NLe n0 h206.size := Z0.tr E211.1
    have nl215 : NLe n0 a207 := NLe.at g208 Z0
    clear g208 l212
    refine g_dup X209 hx (hb hby at_96) rfl (pc' := 97) rfl ?_
    refine g_iconst X209 hx (hb hby at_97) (v := 0) (by decide) (pc' := 98) rfl ?_
    refine g_iload X209 hx (hb hby at_98) (v := ia) rfl (pc' := 100) rfl ?_
    refine g_i2l X209 hx (hb hby at_100) (pc' := 101) rfl ?_
    refine g_lload X209 hx (hb hby at_101) (v := dv) rfl (pc' := 103) rfl ?_
    refine g_lmul X209 hx (hb hby at_103) (pc' := 104) rfl ?_
    refine g_lastore X209 hx hZ e210 (k := 0) (x := (ia.toInt64 * dv)) A213 rfl (by decide) N0 nl215 (hb hby at_104) (pc' := 105) rfl (fun T216 h217 L218 X219 e220 W221 N222 A223 => ?_)
    have Z224 : NLe n0 h217.size := Z214.wr W221
    refine g_dup X219 hx (hb hby at_105) rfl (pc' := 106) rfl ?_
    refine g_iconst X219 hx (hb hby at_106) (v := 1) (by decide) (pc' := 107) rfl ?_
    refine g_iload X219 hx (hb hby at_107) (v := ib) rfl (pc' := 109) rfl ?_
    refine g_i2l X219 hx (hb hby at_109) (pc' := 110) rfl ?_
    refine g_lload X219 hx (hb hby at_110) (v := dv) rfl (pc' := 112) rfl ?_
    refine g_lmul X219 hx (hb hby at_112) (pc' := 113) rfl ?_
    refine g_lastore X219 hx hZ e220 (k := 1) (x := (ib.toInt64 * dv)) A223 rfl (by decide) N222 nl215 (hb hby at_113) (pc' := 114) rfl (fun T226 h227 L228 X229 e230 W231 N232 A233 => ?_)
    have Z234 : NLe n0 h227.size := Z224.wr W231
    refine g_astore X229 hx (hb hby at_114) rfl (Ls' := #[.val (.int p0), .val (.long p1), .second, .val (.int p2), .val (.int p3), .val (.int p4), .val (.int p5), .val (.int ui), .val (.long dv), .second, .val (.int ia), .val (.int ib), .val (.int ic), .val (.int (2 : Int32)), .val (.ref a207), .unset, .unset, .unset, .unset, .unset, .unset, .unset, .unset, .unset]) rfl (pc' := 116) rfl ?_
    refine g_goto X229 hx (hb hby at_116) (by decide) (pc' := 151) (by decide) ?_
    refine g_iload X229 hx (hb hby at_151) (v := (2 : Int32)) rfl (pc' := 153) rfl ?_
    refine g_iconst X229 hx (hb hby at_153) (v := 1) (by decide) (pc' := 154) rfl ?_
    refine g_ii_lt X229 hx (a := 2) (b := 1) rfl rfl (hb hby at_154) (by decide) (pc' := 162) (by decide) (pc2 := 157) rfl (fun c236 => False.elim (by omega)) (fun c236 => ?_)
    refine g_iload X229 hx (hb hby at_157) (v := ia) rfl (pc' := 159) rfl ?_
    refine g_goto X229 hx (hb hby at_159) (by decide) (pc' := 163) (by decide) ?_
    refine g_istore X229 hx (hb hby at_163) (Ls' := #[.val (.int p0), .val (.long p1), .second, .val (.int p2), .val (.int p3), .val (.int p4), .val (.int p5), .val (.int ui), .val (.long dv), .second, .val (.int ia), .val (.int ib), .val (.int ic), .val (.int (2 : Int32)), .val (.ref a207), .val (.int ia), .unset, .unset, .unset, .unset, .unset, .unset, .unset, .unset]) rfl (pc' := 165) rfl ?_
    refine g_iload X229 hx (hb hby at_165) (v := (2 : Int32)) rfl (pc' := 167) rfl ?_
    refine g_iconst X229 hx (hb hby at_167) (v := 2) (by decide) (pc' := 168) rfl ?_
    refine g_ii_lt X229 hx (a := 2) (b := 2) rfl rfl (hb hby at_168) (by decide) (pc' := 176) (by decide) (pc2 := 171) rfl (fun c237 => False.elim (by omega)) (fun c237 => ?_)
    refine g_iload X229 hx (hb hby at_171) (v := ib) rfl (pc' := 173) rfl ?_
    refine g_goto X229 hx (hb hby at_173) (by decide) (pc' := 177) (by decide) ?_
    refine g_istore X229 hx (hb hby at_177) (Ls' := #[.val (.int p0), .val (.long p1), .second, .val (.int p2), .val (.int p3), .val (.int p4), .val (.int p5), .val (.int ui), .val (.long dv), .second, .val (.int ia), .val (.int ib), .val (.int ic), .val (.int (2 : Int32)), .val (.ref a207), .val (.int ia), .val (.int ib), .unset, .unset, .unset, .unset, .unset, .unset, .unset]) rfl (pc' := 179) rfl ?_
    refine g_iload X229 hx (hb hby at_179) (v := (2 : Int32)) rfl (pc' := 181) rfl ?_
    refine g_iconst X229 hx (hb hby at_181) (v := 3) (by decide) (pc' := 182) rfl ?_
    refine g_ii_lt X229 hx (a := 2) (b := 3) rfl rfl (hb hby at_182) (by decide) (pc' := 190) (by decide) (pc2 := 185) rfl (fun c238 => ?_) (fun c238 => False.elim (by omega))
    refine g_iconst X229 hx (hb hby at_190) (v := 0) (by decide) (pc' := 191) rfl ?_
    refine g_istore X229 hx (hb hby at_191) (Ls' := #[.val (.int p0), .val (.long p1), .second, .val (.int p2), .val (.int p3), .val (.int p4), .val (.int p5), .val (.int ui), .val (.long dv), .second, .val (.int ia), .val (.int ib), .val (.int ic), .val (.int (2 : Int32)), .val (.ref a207), .val (.int ia), .val (.int ib), .val (.int (0 : Int32)), .unset, .unset, .unset, .unset, .unset, .unset]) rfl (pc' := 193) rfl ?_
    refine g_lconst X229 hx (hb hby at_193) (v := 0) (by decide) (pc' := 194) rfl ?_
    refine g_lstore X229 hx (hb hby at_194) (Ls' := #[.val (.int p0), .val (.long p1), .second, .val (.int p2), .val (.int p3), .val (.int p4), .val (.int p5), .val (.int ui), .val (.long dv), .second, .val (.int ia), .val (.int ib), .val (.int ic), .val (.int (2 : Int32)), .val (.ref a207), .val (.int ia), .val (.int ib), .val (.int (0 : Int32)), .val (.long (0 : Int64)), .second, .unset, .unset, .unset, .unset]) rfl (pc' := 196) rfl ?_
    refine g_lload X229 hx (hb hby at_196) (v := (0 : Int64)) rfl (pc' := 198) rfl ?_
    refine g_iload X229 hx (hb hby at_198) (v := ia) rfl (pc' := 200) rfl ?_
    refine g_iload X229 hx (hb hby at_200) (v := ui) rfl (pc' := 202) rfl ?_
    refine g_static X229 hx hZ hown (hw _ (List.mem_of_getElem? (i := 2) rfl)) (hw _ (List.mem_of_getElem? (i := 3) rfl)) (hw _ (List.mem_of_getElem? (i := 4) rfl)) (hw _ (List.mem_of_getElem? (i := 5) rfl)) (by decide) (argsL := [(.long (0 : Int64)), (.int ia), (.int ui)]) (rm1 l Z a0 hw (0 : Int64) ia ui h227 n0 Z234 ) rfl e230 (by rw [hml]; rfl) pd_0 rfl (rest := []) rfl (W := 0) (Nat.le_of_eq rfl) (by decide) (by decide) (by decide) (by decide) N232 (hb hby at_202) (pc' := 205) rfl (fun v239 T240 L241 X242 N243 q244 => ?_)
    obtain ⟨r245, rfl, f246, K247⟩ := q244
    have lt248 : (0 : Int64).toInt = 0 := rfl
    show OGoes p e s below (Q0 Z p0 p1 p2 p3 p4 p5 h0 n0) n0 room_1.cells room_1.slots T240 (mkF m 205 #[.val (.int p0), .val (.long p1), .second, .val (.int p2), .val (.int p3), .val (.int p4), .val (.int p5), .val (.int ui), .val (.long dv), .second, .val (.int ia), .val (.int ib), .val (.int ic), .val (.int (2 : Int32)), .val (.ref a207), .val (.int ia), .val (.int ib), .val (.int (0 : Int32)), .val (.long (0 : Int64)), .second, .unset, .unset, .unset, .unset] [(.long r245)])
    have G1 := own_Gs (own_G0 (Int.natCast_nonneg U) (rfl : (0 : Int64).toInt = 0)) (own_fitN hA hU f246)
    clear f246
    refine g_lstore X242 hx (hb hby at_205) (Ls' := #[.val (.int p0), .val (.long p1), .second, .val (.int p2), .val (.int p3), .val (.int p4), .val (.int p5), .val (.int ui), .val (.long dv), .second, .val (.int ia), .val (.int ib), .val (.int ic), .val (.int (2 : Int32)), .val (.ref a207), .val (.int ia), .val (.int ib), .val (.int (0 : Int32)), .val (.long r245), .second, .unset, .unset, .unset, .unset]) rfl (pc' := 207) rfl ?_
    refine g_lload X242 hx (hb hby at_207) (v := r245) rfl (pc' := 209) rfl ?_
    refine g_iload X242 hx (hb hby at_209) (v := ib) rfl (pc' := 211) rfl ?_
    refine g_iload X242 hx (hb hby at_211) (v := ui) rfl (pc' := 213) rfl ?_
    refine g_static X242 hx hZ hown (hw _ (List.mem_of_getElem? (i := 2) rfl)) (hw _ (List.mem_of_getElem? (i := 3) rfl)) (hw _ (List.mem_of_getElem? (i := 4) rfl)) (hw _ (List.mem_of_getElem? (i := 5) rfl)) (by decide) (argsL := [(.long r245), (.int ib), (.int ui)]) (rm1 l Z a0 hw r245 ib ui h227 n0 Z234 ) rfl K247 (by rw [hml]; rfl) pd_0 rfl (rest := []) rfl (W := 0) (Nat.le_of_eq rfl) (by decide) (by decide) (by decide) (by decide) N243 (hb hby at_213) (pc' := 216) rfl (fun v249 T250 L251 X252 N253 q254 => ?_)
    obtain ⟨r255, rfl, f256, K257⟩ := q254
    show OGoes p e s below (Q0 Z p0 p1 p2 p3 p4 p5 h0 n0) n0 room_1.cells room_1.slots T250 (mkF m 216 #[.val (.int p0), .val (.long p1), .second, .val (.int p2), .val (.int p3), .val (.int p4), .val (.int p5), .val (.int ui), .val (.long dv), .second, .val (.int ia), .val (.int ib), .val (.int ic), .val (.int (2 : Int32)), .val (.ref a207), .val (.int ia), .val (.int ib), .val (.int (0 : Int32)), .val (.long r245), .second, .unset, .unset, .unset, .unset] [(.long r255)])
    have G2 := own_Gs G1 (own_fitN hB hU f256)
    clear f256 G1
    refine g_lstore X252 hx (hb hby at_216) (Ls' := #[.val (.int p0), .val (.long p1), .second, .val (.int p2), .val (.int p3), .val (.int p4), .val (.int p5), .val (.int ui), .val (.long dv), .second, .val (.int ia), .val (.int ib), .val (.int ic), .val (.int (2 : Int32)), .val (.ref a207), .val (.int ia), .val (.int ib), .val (.int (0 : Int32)), .val (.long r255), .second, .unset, .unset, .unset, .unset]) rfl (pc' := 218) rfl ?_
    refine g_lload X252 hx (hb hby at_218) (v := r255) rfl (pc' := 220) rfl ?_
    refine g_iload X252 hx (hb hby at_220) (v := (0 : Int32)) rfl (pc' := 222) rfl ?_
    refine g_iload X252 hx (hb hby at_222) (v := ui) rfl (pc' := 224) rfl ?_
    refine g_static X252 hx hZ hown (hw _ (List.mem_of_getElem? (i := 2) rfl)) (hw _ (List.mem_of_getElem? (i := 3) rfl)) (hw _ (List.mem_of_getElem? (i := 4) rfl)) (hw _ (List.mem_of_getElem? (i := 5) rfl)) (by decide) (argsL := [(.long r255), (.int (0 : Int32)), (.int ui)]) (rm1 l Z a0 hw r255 (0 : Int32) ui h227 n0 Z234 ) rfl K257 (by rw [hml]; rfl) pd_0 rfl (rest := []) rfl (W := 0) (Nat.le_of_eq rfl) (by decide) (by decide) (by decide) (by decide) N253 (hb hby at_224) (pc' := 227) rfl (fun v258 T259 L260 X261 N262 q263 => ?_)
    obtain ⟨r264, rfl, f265, K266⟩ := q263
    have lt267 : (0 : Int32).toInt = 0 := rfl
    show OGoes p e s below (Q0 Z p0 p1 p2 p3 p4 p5 h0 n0) n0 room_1.cells room_1.slots T259 (mkF m 227 #[.val (.int p0), .val (.long p1), .second, .val (.int p2), .val (.int p3), .val (.int p4), .val (.int p5), .val (.int ui), .val (.long dv), .second, .val (.int ia), .val (.int ib), .val (.int ic), .val (.int (2 : Int32)), .val (.ref a207), .val (.int ia), .val (.int ib), .val (.int (0 : Int32)), .val (.long r255), .second, .unset, .unset, .unset, .unset] [(.long r264)])
    have G3 := own_Gs G2 (own_fitN (rfl : (0 : Int32).toInt = ((0 : Nat) : Int)) hU f265)
    clear f265 G2
    refine g_lstore X261 hx (hb hby at_227) (Ls' := #[.val (.int p0), .val (.long p1), .second, .val (.int p2), .val (.int p3), .val (.int p4), .val (.int p5), .val (.int ui), .val (.long dv), .second, .val (.int ia), .val (.int ib), .val (.int ic), .val (.int (2 : Int32)), .val (.ref a207), .val (.int ia), .val (.int ib), .val (.int (0 : Int32)), .val (.long r264), .second, .unset, .unset, .unset, .unset]) rfl (pc' := 229) rfl ?_
    refine g_lload X261 hx (hb hby at_229) (v := r264) rfl (pc' := 231) rfl ?_
    refine g_iload X261 hx (hb hby at_231) (v := ia) rfl (pc' := 233) rfl ?_
    refine g_iload X261 hx (hb hby at_233) (v := ib) rfl (pc' := 235) rfl ?_
    refine g_iadd X261 hx (hb hby at_235) (pc' := 236) rfl ?_
    refine g_iload X261 hx (hb hby at_236) (v := ui) rfl (pc' := 238) rfl ?_
    refine g_static X261 hx hZ hown (hw _ (List.mem_of_getElem? (i := 2) rfl)) (hw _ (List.mem_of_getElem? (i := 3) rfl)) (hw _ (List.mem_of_getElem? (i := 4) rfl)) (hw _ (List.mem_of_getElem? (i := 5) rfl)) (by decide) (argsL := [(.long r264), (.int (ia + ib)), (.int ui)]) (rm1 l Z a0 hw r264 (ia + ib) ui h227 n0 Z234 ) rfl K266 (by rw [hml]; rfl) pd_0 rfl (rest := []) rfl (W := 0) (Nat.le_of_eq rfl) (by decide) (by decide) (by decide) (by decide) N262 (hb hby at_238) (pc' := 241) rfl (fun v268 T269 L270 X271 N272 q273 => ?_)
    obtain ⟨r274, rfl, f275, K276⟩ := q273
    show OGoes p e s below (Q0 Z p0 p1 p2 p3 p4 p5 h0 n0) n0 room_1.cells room_1.slots T269 (mkF m 241 #[.val (.int p0), .val (.long p1), .second, .val (.int p2), .val (.int p3), .val (.int p4), .val (.int p5), .val (.int ui), .val (.long dv), .second, .val (.int ia), .val (.int ib), .val (.int ic), .val (.int (2 : Int32)), .val (.ref a207), .val (.int ia), .val (.int ib), .val (.int (0 : Int32)), .val (.long r264), .second, .unset, .unset, .unset, .unset] [(.long r274)])
    have G4 := own_Gs G3 (own_fitN sab hU f275)
    clear f275 G3
    refine g_lstore X271 hx (hb hby at_241) (Ls' := #[.val (.int p0), .val (.long p1), .second, .val (.int p2), .val (.int p3), .val (.int p4), .val (.int p5), .val (.int ui), .val (.long dv), .second, .val (.int ia), .val (.int ib), .val (.int ic), .val (.int (2 : Int32)), .val (.ref a207), .val (.int ia), .val (.int ib), .val (.int (0 : Int32)), .val (.long r274), .second, .unset, .unset, .unset, .unset]) rfl (pc' := 243) rfl ?_
    refine g_lload X271 hx (hb hby at_243) (v := r274) rfl (pc' := 245) rfl ?_
    refine g_iload X271 hx (hb hby at_245) (v := ia) rfl (pc' := 247) rfl ?_
    refine g_iload X271 hx (hb hby at_247) (v := (0 : Int32)) rfl (pc' := 249) rfl ?_
    refine g_iadd X271 hx (hb hby at_249) (pc' := 250) rfl ?_
    refine g_iload X271 hx (hb hby at_250) (v := ui) rfl (pc' := 252) rfl ?_
    refine g_static X271 hx hZ hown (hw _ (List.mem_of_getElem? (i := 2) rfl)) (hw _ (List.mem_of_getElem? (i := 3) rfl)) (hw _ (List.mem_of_getElem? (i := 4) rfl)) (hw _ (List.mem_of_getElem? (i := 5) rfl)) (by decide) (argsL := [(.long r274), (.int (ia + (0 : Int32))), (.int ui)]) (rm1 l Z a0 hw r274 (ia + (0 : Int32)) ui h227 n0 Z234 ) rfl K276 (by rw [hml]; rfl) pd_0 rfl (rest := []) rfl (W := 0) (Nat.le_of_eq rfl) (by decide) (by decide) (by decide) (by decide) N272 (hb hby at_252) (pc' := 255) rfl (fun v277 T278 L279 X280 N281 q282 => ?_)
    obtain ⟨r283, rfl, f284, K285⟩ := q282
    show OGoes p e s below (Q0 Z p0 p1 p2 p3 p4 p5 h0 n0) n0 room_1.cells room_1.slots T278 (mkF m 255 #[.val (.int p0), .val (.long p1), .second, .val (.int p2), .val (.int p3), .val (.int p4), .val (.int p5), .val (.int ui), .val (.long dv), .second, .val (.int ia), .val (.int ib), .val (.int ic), .val (.int (2 : Int32)), .val (.ref a207), .val (.int ia), .val (.int ib), .val (.int (0 : Int32)), .val (.long r274), .second, .unset, .unset, .unset, .unset] [(.long r283)])
    have G5 := own_Gs G4 (own_fitN sac hU f284)
    clear f284 G4
    refine g_lstore X280 hx (hb hby at_255) (Ls' := #[.val (.int p0), .val (.long p1), .second, .val (.int p2), .val (.int p3), .val (.int p4), .val (.int p5), .val (.int ui), .val (.long dv), .second, .val (.int ia), .val (.int ib), .val (.int ic), .val (.int (2 : Int32)), .val (.ref a207), .val (.int ia), .val (.int ib), .val (.int (0 : Int32)), .val (.long r283), .second, .unset, .unset, .unset, .unset]) rfl (pc' := 257) rfl ?_
    refine g_lload X280 hx (hb hby at_257) (v := r283) rfl (pc' := 259) rfl ?_
    refine g_iload X280 hx (hb hby at_259) (v := ib) rfl (pc' := 261) rfl ?_
    refine g_iload X280 hx (hb hby at_261) (v := (0 : Int32)) rfl (pc' := 263) rfl ?_
    refine g_iadd X280 hx (hb hby at_263) (pc' := 264) rfl ?_
    refine g_iload X280 hx (hb hby at_264) (v := ui) rfl (pc' := 266) rfl ?_
    refine g_static X280 hx hZ hown (hw _ (List.mem_of_getElem? (i := 2) rfl)) (hw _ (List.mem_of_getElem? (i := 3) rfl)) (hw _ (List.mem_of_getElem? (i := 4) rfl)) (hw _ (List.mem_of_getElem? (i := 5) rfl)) (by decide) (argsL := [(.long r283), (.int (ib + (0 : Int32))), (.int ui)]) (rm1 l Z a0 hw r283 (ib + (0 : Int32)) ui h227 n0 Z234 ) rfl K285 (by rw [hml]; rfl) pd_0 rfl (rest := []) rfl (W := 0) (Nat.le_of_eq rfl) (by decide) (by decide) (by decide) (by decide) N281 (hb hby at_266) (pc' := 269) rfl (fun v286 T287 L288 X289 N290 q291 => ?_)
    obtain ⟨r292, rfl, f293, K294⟩ := q291
    show OGoes p e s below (Q0 Z p0 p1 p2 p3 p4 p5 h0 n0) n0 room_1.cells room_1.slots T287 (mkF m 269 #[.val (.int p0), .val (.long p1), .second, .val (.int p2), .val (.int p3), .val (.int p4), .val (.int p5), .val (.int ui), .val (.long dv), .second, .val (.int ia), .val (.int ib), .val (.int ic), .val (.int (2 : Int32)), .val (.ref a207), .val (.int ia), .val (.int ib), .val (.int (0 : Int32)), .val (.long r283), .second, .unset, .unset, .unset, .unset] [(.long r292)])
    have G6 := own_Gs G5 (own_fitN sbc hU f293)
    clear f293 G5
    refine g_lstore X289 hx (hb hby at_269) (Ls' := #[.val (.int p0), .val (.long p1), .second, .val (.int p2), .val (.int p3), .val (.int p4), .val (.int p5), .val (.int ui), .val (.long dv), .second, .val (.int ia), .val (.int ib), .val (.int ic), .val (.int (2 : Int32)), .val (.ref a207), .val (.int ia), .val (.int ib), .val (.int (0 : Int32)), .val (.long r292), .second, .unset, .unset, .unset, .unset]) rfl (pc' := 271) rfl ?_
    refine g_lload X289 hx (hb hby at_271) (v := r292) rfl (pc' := 273) rfl ?_
    refine g_iload X289 hx (hb hby at_273) (v := ia) rfl (pc' := 275) rfl ?_
    refine g_iload X289 hx (hb hby at_275) (v := ib) rfl (pc' := 277) rfl ?_
    refine g_iadd X289 hx (hb hby at_277) (pc' := 278) rfl ?_
    refine g_iload X289 hx (hb hby at_278) (v := (0 : Int32)) rfl (pc' := 280) rfl ?_
    refine g_iadd X289 hx (hb hby at_280) (pc' := 281) rfl ?_
    refine g_iload X289 hx (hb hby at_281) (v := ui) rfl (pc' := 283) rfl ?_
    refine g_static X289 hx hZ hown (hw _ (List.mem_of_getElem? (i := 2) rfl)) (hw _ (List.mem_of_getElem? (i := 3) rfl)) (hw _ (List.mem_of_getElem? (i := 4) rfl)) (hw _ (List.mem_of_getElem? (i := 5) rfl)) (by decide) (argsL := [(.long r292), (.int ((ia + ib) + (0 : Int32))), (.int ui)]) (rm1 l Z a0 hw r292 ((ia + ib) + (0 : Int32)) ui h227 n0 Z234 ) rfl K294 (by rw [hml]; rfl) pd_0 rfl (rest := []) rfl (W := 0) (Nat.le_of_eq rfl) (by decide) (by decide) (by decide) (by decide) N290 (hb hby at_283) (pc' := 286) rfl (fun v295 T296 L297 X298 N299 q300 => ?_)
    obtain ⟨r301, rfl, f302, K303⟩ := q300
    show OGoes p e s below (Q0 Z p0 p1 p2 p3 p4 p5 h0 n0) n0 room_1.cells room_1.slots T296 (mkF m 286 #[.val (.int p0), .val (.long p1), .second, .val (.int p2), .val (.int p3), .val (.int p4), .val (.int p5), .val (.int ui), .val (.long dv), .second, .val (.int ia), .val (.int ib), .val (.int ic), .val (.int (2 : Int32)), .val (.ref a207), .val (.int ia), .val (.int ib), .val (.int (0 : Int32)), .val (.long r292), .second, .unset, .unset, .unset, .unset] [(.long r301)])
    have G7 := own_Gs G6 (own_fitN sabc hU f302)
    clear f302 G6
    refine g_lstore X298 hx (hb hby at_286) (Ls' := #[.val (.int p0), .val (.long p1), .second, .val (.int p2), .val (.int p3), .val (.int p4), .val (.int p5), .val (.int ui), .val (.long dv), .second, .val (.int ia), .val (.int ib), .val (.int ic), .val (.int (2 : Int32)), .val (.ref a207), .val (.int ia), .val (.int ib), .val (.int (0 : Int32)), .val (.long r301), .second, .unset, .unset, .unset, .unset]) rfl (pc' := 288) rfl ?_
    refine g_lload X298 hx (hb hby at_288) (v := r301) rfl (pc' := 290) rfl ?_
    refine g_lload X298 hx (hb hby at_290) (v := dv) rfl (pc' := 292) rfl ?_
    refine g_lmul X298 hx (hb hby at_292) (pc' := 293) rfl ?_
    refine g_lstore X298 hx (hb hby at_293) (Ls' := #[.val (.int p0), .val (.long p1), .second, .val (.int p2), .val (.int p3), .val (.int p4), .val (.int p5), .val (.int ui), .val (.long dv), .second, .val (.int ia), .val (.int ib), .val (.int ic), .val (.int (2 : Int32)), .val (.ref a207), .val (.int ia), .val (.int ib), .val (.int (0 : Int32)), .val (.long r301), .second, .val (.long (r301 * dv)), .second, .unset, .unset]) rfl (pc' := 295) rfl ?_
    refine g_aload X298 hx (hb hby at_295) (v := (.ref a207)) rfl rfl (pc' := 297) rfl ?_
    refine g_lload X298 hx (hb hby at_297) (v := dv) rfl (pc' := 299) rfl ?_
    refine g_iload X298 hx (hb hby at_299) (v := ui) rfl (pc' := 301) rfl ?_
    refine g_static X298 hx hZ hown (hw _ (List.mem_of_getElem? (i := 6) rfl)) (hw _ (List.mem_of_getElem? (i := 7) rfl)) (hw _ (List.mem_of_getElem? (i := 8) rfl)) (hw _ (List.mem_of_getElem? (i := 9) rfl)) (by decide) (argsL := [(.ref a207), (.long dv), (.int ui)]) (rm3 l Z a0 hw a207 dv ui 2 (oupd (oupd zeroL 0 (ia.toInt64 * dv)) 1 (ib.toInt64 * dv)) U (own_av A B D) h227 n0 Z234 A233 hU hU2 (by decide) hq hv2) rfl K303 (by rw [hml]; rfl) pd_2 rfl (rest := []) rfl (W := 0) (Nat.le_of_eq rfl) (by decide) (by decide) (by decide) (by decide) N299 (hb hby at_301) (pc' := 304) rfl (fun v304 T305 L306 X307 N308 q309 => ?_)
    obtain ⟨r310, s2311, rfl, f312, K313⟩ := q309
    have Z314 : NLe n0 T305.heap.size := Z234.tr K313.1
    have F315 := A233.keep K313 nin0
    show OGoes p e s below (Q0 Z p0 p1 p2 p3 p4 p5 h0 n0) n0 room_1.cells room_1.slots T305 (mkF m 304 #[.val (.int p0), .val (.long p1), .second, .val (.int p2), .val (.int p3), .val (.int p4), .val (.int p5), .val (.int ui), .val (.long dv), .second, .val (.int ia), .val (.int ib), .val (.int ic), .val (.int (2 : Int32)), .val (.ref a207), .val (.int ia), .val (.int ib), .val (.int (0 : Int32)), .val (.long r301), .second, .val (.long (r301 * dv)), .second, .unset, .unset] [(.long r310)])
    have hbest : r301.toInt = (s2311 : Int) := own_best2 G7 f312.2.1 f312.2.2.1 f312.2.2.2
    have hs2 := f312.2.1
    have hmul : (r301 * dv).toInt = (s2311 : Int) * dv.toInt := own_mul hbest rfl ⟨by omega, by omega⟩ hq
    refine g_lstore X307 hx (hb hby at_304) (Ls' := #[.val (.int p0), .val (.long p1), .second, .val (.int p2), .val (.int p3), .val (.int p4), .val (.int p5), .val (.int ui), .val (.long dv), .second, .val (.int ia), .val (.int ib), .val (.int ic), .val (.int (2 : Int32)), .val (.ref a207), .val (.int ia), .val (.int ib), .val (.int (0 : Int32)), .val (.long r301), .second, .val (.long (r301 * dv)), .second, .val (.long r310), .second]) rfl (pc' := 306) rfl ?_
    refine g_lload X307 hx (hb hby at_306) (v := r310) rfl (pc' := 308) rfl ?_
    refine g_lload X307 hx (hb hby at_308) (v := (r301 * dv)) rfl (pc' := 310) rfl ?_
    refine g_ll_ne X307 hx (a := r310.toInt) (b := (r301 * dv).toInt) rfl rfl (hb hby at_310) (pc1 := 311) rfl (hb hby at_311) (by decide) (pc' := 318) (by decide) (pc2 := 314) rfl (fun cc => False.elim (by exact cc (f312.1.trans hmul.symm))) (fun cc => ?_)
    refine g_iconst X307 hx (hb hby at_314) (v := 1) (by decide) (pc' := 315) rfl ?_
    refine g_goto X307 hx (hb hby at_315) (by decide) (pc' := 319) (by decide) ?_
    refine g_retZ X307 hx hlk (by decide) hret (hb hby at_319) N308 (by decide) (by decide) ?_
    exact rfl
  · clear hcn
    show OGoes p e s below (Q0 Z p0 p1 p2 p3 p4 p5 h0 n0) n0 room_1.cells room_1.slots s₁ (mkF m 51 #[.val (.int p0), .val (.long p1), .second, .val (.int p2), .val (.int p3), .val (.int p4), .val (.int p5), .val (.int ui), .val (.long dv), .second, .val (.int ia), .val (.int ib), .val (.int ic), .val (.int (3 : Int32)), .unset, .unset, .unset, .unset, .unset, .unset, .unset, .unset, .unset, .unset] [])
    have sab : own_is (ia + ib) (A + B) := own_add hA hB (by omega)
    have sac : own_is (ia + ic) (A + D) := own_add hA hD (by omega)
    have sbc : own_is (ib + ic) (B + D) := own_add hB hD (by omega)
    have sabc : own_is ((ia + ib) + ic) (A + B + D) := own_add sab hD (by omega)
    refine g_iload X0 hx (hb hby at_51) (v := (3 : Int32)) rfl (pc' := 53) rfl ?_
    refine g_i0_ne X0 hx (a := 3) rfl (hb hby at_53) (by decide) (pc' := 64) (by decide) (pc2 := 56) rfl (fun c316 => ?_) (fun c316 => False.elim (by omega))
    refine g_iload X0 hx (hb hby at_64) (v := (3 : Int32)) rfl (pc' := 66) rfl ?_
    refine g_iconst X0 hx (hb hby at_66) (v := 1) (by decide) (pc' := 67) rfl ?_
    refine g_ii_ne X0 hx (a := 3) (b := 1) rfl rfl (hb hby at_67) (by decide) (pc' := 87) (by decide) (pc2 := 70) rfl (fun c317 => ?_) (fun c317 => False.elim (by omega))
    refine g_iload X0 hx (hb hby at_87) (v := (3 : Int32)) rfl (pc' := 89) rfl ?_
    refine g_iconst X0 hx (hb hby at_89) (v := 2) (by decide) (pc' := 90) rfl ?_
    refine g_ii_ne X0 hx (a := 3) (b := 2) rfl rfl (hb hby at_90) (by decide) (pc' := 119) (by decide) (pc2 := 93) rfl (fun c318 => ?_) (fun c318 => False.elim (by omega))
    refine g_iconst X0 hx (hb hby at_119) (v := 3) (by decide) (pc' := 120) rfl ?_
    refine g_newLA X0 hx hZ (hw _ (List.mem_of_getElem? (i := 1) rfl)) e0 (n := 3) rfl (cap := 3) (by decide) (by decide) (hb hby at_120) (by decide) (by decide) (pc' := 122) rfl (fun T319 h320 a321 g322 X323 e324 E325 l326 A327  => ?_)
    have Z328 : NLe n0 h320.size := Z0.tr E325.1
    have nl329 : NLe n0 a321 := NLe.at g322 Z0
    clear g322 l326
    refine g_dup X323 hx (hb hby at_122) rfl (pc' := 123) rfl ?_
    refine g_iconst X323 hx (hb hby at_123) (v := 0) (by decide) (pc' := 124) rfl ?_
    refine g_iload X323 hx (hb hby at_124) (v := ia) rfl (pc' := 126) rfl ?_
    refine g_i2l X323 hx (hb hby at_126) (pc' := 127) rfl ?_
    refine g_lload X323 hx (hb hby at_127) (v := dv) rfl (pc' := 129) rfl ?_
    refine g_lmul X323 hx (hb hby at_129) (pc' := 130) rfl ?_
    refine g_lastore X323 hx hZ e324 (k := 0) (x := (ia.toInt64 * dv)) A327 rfl (by decide) N0 nl329 (hb hby at_130) (pc' := 131) rfl (fun T330 h331 L332 X333 e334 W335 N336 A337 => ?_)
    have Z338 : NLe n0 h331.size := Z328.wr W335
    refine g_dup X333 hx (hb hby at_131) rfl (pc' := 132) rfl ?_
    refine g_iconst X333 hx (hb hby at_132) (v := 1) (by decide) (pc' := 133) rfl ?_
    refine g_iload X333 hx (hb hby at_133) (v := ib) rfl (pc' := 135) rfl ?_
    refine g_i2l X333 hx (hb hby at_135) (pc' := 136) rfl ?_
    refine g_lload X333 hx (hb hby at_136) (v := dv) rfl (pc' := 138) rfl ?_
    refine g_lmul X333 hx (hb hby at_138) (pc' := 139) rfl ?_
    refine g_lastore X333 hx hZ e334 (k := 1) (x := (ib.toInt64 * dv)) A337 rfl (by decide) N336 nl329 (hb hby at_139) (pc' := 140) rfl (fun T340 h341 L342 X343 e344 W345 N346 A347 => ?_)
    have Z348 : NLe n0 h341.size := Z338.wr W345
    refine g_dup X343 hx (hb hby at_140) rfl (pc' := 141) rfl ?_
    refine g_iconst X343 hx (hb hby at_141) (v := 2) (by decide) (pc' := 142) rfl ?_
    refine g_iload X343 hx (hb hby at_142) (v := ic) rfl (pc' := 144) rfl ?_
    refine g_i2l X343 hx (hb hby at_144) (pc' := 145) rfl ?_
    refine g_lload X343 hx (hb hby at_145) (v := dv) rfl (pc' := 147) rfl ?_
    refine g_lmul X343 hx (hb hby at_147) (pc' := 148) rfl ?_
    refine g_lastore X343 hx hZ e344 (k := 2) (x := (ic.toInt64 * dv)) A347 rfl (by decide) N346 nl329 (hb hby at_148) (pc' := 149) rfl (fun T350 h351 L352 X353 e354 W355 N356 A357 => ?_)
    have Z358 : NLe n0 h351.size := Z348.wr W355
    refine g_astore X353 hx (hb hby at_149) rfl (Ls' := #[.val (.int p0), .val (.long p1), .second, .val (.int p2), .val (.int p3), .val (.int p4), .val (.int p5), .val (.int ui), .val (.long dv), .second, .val (.int ia), .val (.int ib), .val (.int ic), .val (.int (3 : Int32)), .val (.ref a321), .unset, .unset, .unset, .unset, .unset, .unset, .unset, .unset, .unset]) rfl (pc' := 151) rfl ?_
    refine g_iload X353 hx (hb hby at_151) (v := (3 : Int32)) rfl (pc' := 153) rfl ?_
    refine g_iconst X353 hx (hb hby at_153) (v := 1) (by decide) (pc' := 154) rfl ?_
    refine g_ii_lt X353 hx (a := 3) (b := 1) rfl rfl (hb hby at_154) (by decide) (pc' := 162) (by decide) (pc2 := 157) rfl (fun c360 => False.elim (by omega)) (fun c360 => ?_)
    refine g_iload X353 hx (hb hby at_157) (v := ia) rfl (pc' := 159) rfl ?_
    refine g_goto X353 hx (hb hby at_159) (by decide) (pc' := 163) (by decide) ?_
    refine g_istore X353 hx (hb hby at_163) (Ls' := #[.val (.int p0), .val (.long p1), .second, .val (.int p2), .val (.int p3), .val (.int p4), .val (.int p5), .val (.int ui), .val (.long dv), .second, .val (.int ia), .val (.int ib), .val (.int ic), .val (.int (3 : Int32)), .val (.ref a321), .val (.int ia), .unset, .unset, .unset, .unset, .unset, .unset, .unset, .unset]) rfl (pc' := 165) rfl ?_
    refine g_iload X353 hx (hb hby at_165) (v := (3 : Int32)) rfl (pc' := 167) rfl ?_
    refine g_iconst X353 hx (hb hby at_167) (v := 2) (by decide) (pc' := 168) rfl ?_
    refine g_ii_lt X353 hx (a := 3) (b := 2) rfl rfl (hb hby at_168) (by decide) (pc' := 176) (by decide) (pc2 := 171) rfl (fun c361 => False.elim (by omega)) (fun c361 => ?_)
    refine g_iload X353 hx (hb hby at_171) (v := ib) rfl (pc' := 173) rfl ?_
    refine g_goto X353 hx (hb hby at_173) (by decide) (pc' := 177) (by decide) ?_
    refine g_istore X353 hx (hb hby at_177) (Ls' := #[.val (.int p0), .val (.long p1), .second, .val (.int p2), .val (.int p3), .val (.int p4), .val (.int p5), .val (.int ui), .val (.long dv), .second, .val (.int ia), .val (.int ib), .val (.int ic), .val (.int (3 : Int32)), .val (.ref a321), .val (.int ia), .val (.int ib), .unset, .unset, .unset, .unset, .unset, .unset, .unset]) rfl (pc' := 179) rfl ?_
    refine g_iload X353 hx (hb hby at_179) (v := (3 : Int32)) rfl (pc' := 181) rfl ?_
    refine g_iconst X353 hx (hb hby at_181) (v := 3) (by decide) (pc' := 182) rfl ?_
    refine g_ii_lt X353 hx (a := 3) (b := 3) rfl rfl (hb hby at_182) (by decide) (pc' := 190) (by decide) (pc2 := 185) rfl (fun c362 => False.elim (by omega)) (fun c362 => ?_)
    refine g_iload X353 hx (hb hby at_185) (v := ic) rfl (pc' := 187) rfl ?_
    refine g_goto X353 hx (hb hby at_187) (by decide) (pc' := 191) (by decide) ?_
    refine g_istore X353 hx (hb hby at_191) (Ls' := #[.val (.int p0), .val (.long p1), .second, .val (.int p2), .val (.int p3), .val (.int p4), .val (.int p5), .val (.int ui), .val (.long dv), .second, .val (.int ia), .val (.int ib), .val (.int ic), .val (.int (3 : Int32)), .val (.ref a321), .val (.int ia), .val (.int ib), .val (.int ic), .unset, .unset, .unset, .unset, .unset, .unset]) rfl (pc' := 193) rfl ?_
    refine g_lconst X353 hx (hb hby at_193) (v := 0) (by decide) (pc' := 194) rfl ?_
    refine g_lstore X353 hx (hb hby at_194) (Ls' := #[.val (.int p0), .val (.long p1), .second, .val (.int p2), .val (.int p3), .val (.int p4), .val (.int p5), .val (.int ui), .val (.long dv), .second, .val (.int ia), .val (.int ib), .val (.int ic), .val (.int (3 : Int32)), .val (.ref a321), .val (.int ia), .val (.int ib), .val (.int ic), .val (.long (0 : Int64)), .second, .unset, .unset, .unset, .unset]) rfl (pc' := 196) rfl ?_
    refine g_lload X353 hx (hb hby at_196) (v := (0 : Int64)) rfl (pc' := 198) rfl ?_
    refine g_iload X353 hx (hb hby at_198) (v := ia) rfl (pc' := 200) rfl ?_
    refine g_iload X353 hx (hb hby at_200) (v := ui) rfl (pc' := 202) rfl ?_
    refine g_static X353 hx hZ hown (hw _ (List.mem_of_getElem? (i := 2) rfl)) (hw _ (List.mem_of_getElem? (i := 3) rfl)) (hw _ (List.mem_of_getElem? (i := 4) rfl)) (hw _ (List.mem_of_getElem? (i := 5) rfl)) (by decide) (argsL := [(.long (0 : Int64)), (.int ia), (.int ui)]) (rm1 l Z a0 hw (0 : Int64) ia ui h351 n0 Z358 ) rfl e354 (by rw [hml]; rfl) pd_0 rfl (rest := []) rfl (W := 0) (Nat.le_of_eq rfl) (by decide) (by decide) (by decide) (by decide) N356 (hb hby at_202) (pc' := 205) rfl (fun v363 T364 L365 X366 N367 q368 => ?_)
    obtain ⟨r369, rfl, f370, K371⟩ := q368
    have lt372 : (0 : Int64).toInt = 0 := rfl
    show OGoes p e s below (Q0 Z p0 p1 p2 p3 p4 p5 h0 n0) n0 room_1.cells room_1.slots T364 (mkF m 205 #[.val (.int p0), .val (.long p1), .second, .val (.int p2), .val (.int p3), .val (.int p4), .val (.int p5), .val (.int ui), .val (.long dv), .second, .val (.int ia), .val (.int ib), .val (.int ic), .val (.int (3 : Int32)), .val (.ref a321), .val (.int ia), .val (.int ib), .val (.int ic), .val (.long (0 : Int64)), .second, .unset, .unset, .unset, .unset] [(.long r369)])
    have G1 := own_Gs (own_G0 (Int.natCast_nonneg U) (rfl : (0 : Int64).toInt = 0)) (own_fitN hA hU f370)
    clear f370
    refine g_lstore X366 hx (hb hby at_205) (Ls' := #[.val (.int p0), .val (.long p1), .second, .val (.int p2), .val (.int p3), .val (.int p4), .val (.int p5), .val (.int ui), .val (.long dv), .second, .val (.int ia), .val (.int ib), .val (.int ic), .val (.int (3 : Int32)), .val (.ref a321), .val (.int ia), .val (.int ib), .val (.int ic), .val (.long r369), .second, .unset, .unset, .unset, .unset]) rfl (pc' := 207) rfl ?_
    refine g_lload X366 hx (hb hby at_207) (v := r369) rfl (pc' := 209) rfl ?_
    refine g_iload X366 hx (hb hby at_209) (v := ib) rfl (pc' := 211) rfl ?_
    refine g_iload X366 hx (hb hby at_211) (v := ui) rfl (pc' := 213) rfl ?_
    refine g_static X366 hx hZ hown (hw _ (List.mem_of_getElem? (i := 2) rfl)) (hw _ (List.mem_of_getElem? (i := 3) rfl)) (hw _ (List.mem_of_getElem? (i := 4) rfl)) (hw _ (List.mem_of_getElem? (i := 5) rfl)) (by decide) (argsL := [(.long r369), (.int ib), (.int ui)]) (rm1 l Z a0 hw r369 ib ui h351 n0 Z358 ) rfl K371 (by rw [hml]; rfl) pd_0 rfl (rest := []) rfl (W := 0) (Nat.le_of_eq rfl) (by decide) (by decide) (by decide) (by decide) N367 (hb hby at_213) (pc' := 216) rfl (fun v373 T374 L375 X376 N377 q378 => ?_)
    obtain ⟨r379, rfl, f380, K381⟩ := q378
    show OGoes p e s below (Q0 Z p0 p1 p2 p3 p4 p5 h0 n0) n0 room_1.cells room_1.slots T374 (mkF m 216 #[.val (.int p0), .val (.long p1), .second, .val (.int p2), .val (.int p3), .val (.int p4), .val (.int p5), .val (.int ui), .val (.long dv), .second, .val (.int ia), .val (.int ib), .val (.int ic), .val (.int (3 : Int32)), .val (.ref a321), .val (.int ia), .val (.int ib), .val (.int ic), .val (.long r369), .second, .unset, .unset, .unset, .unset] [(.long r379)])
    have G2 := own_Gs G1 (own_fitN hB hU f380)
    clear f380 G1
    refine g_lstore X376 hx (hb hby at_216) (Ls' := #[.val (.int p0), .val (.long p1), .second, .val (.int p2), .val (.int p3), .val (.int p4), .val (.int p5), .val (.int ui), .val (.long dv), .second, .val (.int ia), .val (.int ib), .val (.int ic), .val (.int (3 : Int32)), .val (.ref a321), .val (.int ia), .val (.int ib), .val (.int ic), .val (.long r379), .second, .unset, .unset, .unset, .unset]) rfl (pc' := 218) rfl ?_
    refine g_lload X376 hx (hb hby at_218) (v := r379) rfl (pc' := 220) rfl ?_
    refine g_iload X376 hx (hb hby at_220) (v := ic) rfl (pc' := 222) rfl ?_
    refine g_iload X376 hx (hb hby at_222) (v := ui) rfl (pc' := 224) rfl ?_
    refine g_static X376 hx hZ hown (hw _ (List.mem_of_getElem? (i := 2) rfl)) (hw _ (List.mem_of_getElem? (i := 3) rfl)) (hw _ (List.mem_of_getElem? (i := 4) rfl)) (hw _ (List.mem_of_getElem? (i := 5) rfl)) (by decide) (argsL := [(.long r379), (.int ic), (.int ui)]) (rm1 l Z a0 hw r379 ic ui h351 n0 Z358 ) rfl K381 (by rw [hml]; rfl) pd_0 rfl (rest := []) rfl (W := 0) (Nat.le_of_eq rfl) (by decide) (by decide) (by decide) (by decide) N377 (hb hby at_224) (pc' := 227) rfl (fun v382 T383 L384 X385 N386 q387 => ?_)
    obtain ⟨r388, rfl, f389, K390⟩ := q387
    show OGoes p e s below (Q0 Z p0 p1 p2 p3 p4 p5 h0 n0) n0 room_1.cells room_1.slots T383 (mkF m 227 #[.val (.int p0), .val (.long p1), .second, .val (.int p2), .val (.int p3), .val (.int p4), .val (.int p5), .val (.int ui), .val (.long dv), .second, .val (.int ia), .val (.int ib), .val (.int ic), .val (.int (3 : Int32)), .val (.ref a321), .val (.int ia), .val (.int ib), .val (.int ic), .val (.long r379), .second, .unset, .unset, .unset, .unset] [(.long r388)])
    have G3 := own_Gs G2 (own_fitN hD hU f389)
    clear f389 G2
    refine g_lstore X385 hx (hb hby at_227) (Ls' := #[.val (.int p0), .val (.long p1), .second, .val (.int p2), .val (.int p3), .val (.int p4), .val (.int p5), .val (.int ui), .val (.long dv), .second, .val (.int ia), .val (.int ib), .val (.int ic), .val (.int (3 : Int32)), .val (.ref a321), .val (.int ia), .val (.int ib), .val (.int ic), .val (.long r388), .second, .unset, .unset, .unset, .unset]) rfl (pc' := 229) rfl ?_
    refine g_lload X385 hx (hb hby at_229) (v := r388) rfl (pc' := 231) rfl ?_
    refine g_iload X385 hx (hb hby at_231) (v := ia) rfl (pc' := 233) rfl ?_
    refine g_iload X385 hx (hb hby at_233) (v := ib) rfl (pc' := 235) rfl ?_
    refine g_iadd X385 hx (hb hby at_235) (pc' := 236) rfl ?_
    refine g_iload X385 hx (hb hby at_236) (v := ui) rfl (pc' := 238) rfl ?_
    refine g_static X385 hx hZ hown (hw _ (List.mem_of_getElem? (i := 2) rfl)) (hw _ (List.mem_of_getElem? (i := 3) rfl)) (hw _ (List.mem_of_getElem? (i := 4) rfl)) (hw _ (List.mem_of_getElem? (i := 5) rfl)) (by decide) (argsL := [(.long r388), (.int (ia + ib)), (.int ui)]) (rm1 l Z a0 hw r388 (ia + ib) ui h351 n0 Z358 ) rfl K390 (by rw [hml]; rfl) pd_0 rfl (rest := []) rfl (W := 0) (Nat.le_of_eq rfl) (by decide) (by decide) (by decide) (by decide) N386 (hb hby at_238) (pc' := 241) rfl (fun v391 T392 L393 X394 N395 q396 => ?_)
    obtain ⟨r397, rfl, f398, K399⟩ := q396
    show OGoes p e s below (Q0 Z p0 p1 p2 p3 p4 p5 h0 n0) n0 room_1.cells room_1.slots T392 (mkF m 241 #[.val (.int p0), .val (.long p1), .second, .val (.int p2), .val (.int p3), .val (.int p4), .val (.int p5), .val (.int ui), .val (.long dv), .second, .val (.int ia), .val (.int ib), .val (.int ic), .val (.int (3 : Int32)), .val (.ref a321), .val (.int ia), .val (.int ib), .val (.int ic), .val (.long r388), .second, .unset, .unset, .unset, .unset] [(.long r397)])
    have G4 := own_Gs G3 (own_fitN sab hU f398)
    clear f398 G3
    refine g_lstore X394 hx (hb hby at_241) (Ls' := #[.val (.int p0), .val (.long p1), .second, .val (.int p2), .val (.int p3), .val (.int p4), .val (.int p5), .val (.int ui), .val (.long dv), .second, .val (.int ia), .val (.int ib), .val (.int ic), .val (.int (3 : Int32)), .val (.ref a321), .val (.int ia), .val (.int ib), .val (.int ic), .val (.long r397), .second, .unset, .unset, .unset, .unset]) rfl (pc' := 243) rfl ?_
    refine g_lload X394 hx (hb hby at_243) (v := r397) rfl (pc' := 245) rfl ?_
    refine g_iload X394 hx (hb hby at_245) (v := ia) rfl (pc' := 247) rfl ?_
    refine g_iload X394 hx (hb hby at_247) (v := ic) rfl (pc' := 249) rfl ?_
    refine g_iadd X394 hx (hb hby at_249) (pc' := 250) rfl ?_
    refine g_iload X394 hx (hb hby at_250) (v := ui) rfl (pc' := 252) rfl ?_
    refine g_static X394 hx hZ hown (hw _ (List.mem_of_getElem? (i := 2) rfl)) (hw _ (List.mem_of_getElem? (i := 3) rfl)) (hw _ (List.mem_of_getElem? (i := 4) rfl)) (hw _ (List.mem_of_getElem? (i := 5) rfl)) (by decide) (argsL := [(.long r397), (.int (ia + ic)), (.int ui)]) (rm1 l Z a0 hw r397 (ia + ic) ui h351 n0 Z358 ) rfl K399 (by rw [hml]; rfl) pd_0 rfl (rest := []) rfl (W := 0) (Nat.le_of_eq rfl) (by decide) (by decide) (by decide) (by decide) N395 (hb hby at_252) (pc' := 255) rfl (fun v400 T401 L402 X403 N404 q405 => ?_)
    obtain ⟨r406, rfl, f407, K408⟩ := q405
    show OGoes p e s below (Q0 Z p0 p1 p2 p3 p4 p5 h0 n0) n0 room_1.cells room_1.slots T401 (mkF m 255 #[.val (.int p0), .val (.long p1), .second, .val (.int p2), .val (.int p3), .val (.int p4), .val (.int p5), .val (.int ui), .val (.long dv), .second, .val (.int ia), .val (.int ib), .val (.int ic), .val (.int (3 : Int32)), .val (.ref a321), .val (.int ia), .val (.int ib), .val (.int ic), .val (.long r397), .second, .unset, .unset, .unset, .unset] [(.long r406)])
    have G5 := own_Gs G4 (own_fitN sac hU f407)
    clear f407 G4
    refine g_lstore X403 hx (hb hby at_255) (Ls' := #[.val (.int p0), .val (.long p1), .second, .val (.int p2), .val (.int p3), .val (.int p4), .val (.int p5), .val (.int ui), .val (.long dv), .second, .val (.int ia), .val (.int ib), .val (.int ic), .val (.int (3 : Int32)), .val (.ref a321), .val (.int ia), .val (.int ib), .val (.int ic), .val (.long r406), .second, .unset, .unset, .unset, .unset]) rfl (pc' := 257) rfl ?_
    refine g_lload X403 hx (hb hby at_257) (v := r406) rfl (pc' := 259) rfl ?_
    refine g_iload X403 hx (hb hby at_259) (v := ib) rfl (pc' := 261) rfl ?_
    refine g_iload X403 hx (hb hby at_261) (v := ic) rfl (pc' := 263) rfl ?_
    refine g_iadd X403 hx (hb hby at_263) (pc' := 264) rfl ?_
    refine g_iload X403 hx (hb hby at_264) (v := ui) rfl (pc' := 266) rfl ?_
    refine g_static X403 hx hZ hown (hw _ (List.mem_of_getElem? (i := 2) rfl)) (hw _ (List.mem_of_getElem? (i := 3) rfl)) (hw _ (List.mem_of_getElem? (i := 4) rfl)) (hw _ (List.mem_of_getElem? (i := 5) rfl)) (by decide) (argsL := [(.long r406), (.int (ib + ic)), (.int ui)]) (rm1 l Z a0 hw r406 (ib + ic) ui h351 n0 Z358 ) rfl K408 (by rw [hml]; rfl) pd_0 rfl (rest := []) rfl (W := 0) (Nat.le_of_eq rfl) (by decide) (by decide) (by decide) (by decide) N404 (hb hby at_266) (pc' := 269) rfl (fun v409 T410 L411 X412 N413 q414 => ?_)
    obtain ⟨r415, rfl, f416, K417⟩ := q414
    show OGoes p e s below (Q0 Z p0 p1 p2 p3 p4 p5 h0 n0) n0 room_1.cells room_1.slots T410 (mkF m 269 #[.val (.int p0), .val (.long p1), .second, .val (.int p2), .val (.int p3), .val (.int p4), .val (.int p5), .val (.int ui), .val (.long dv), .second, .val (.int ia), .val (.int ib), .val (.int ic), .val (.int (3 : Int32)), .val (.ref a321), .val (.int ia), .val (.int ib), .val (.int ic), .val (.long r406), .second, .unset, .unset, .unset, .unset] [(.long r415)])
    have G6 := own_Gs G5 (own_fitN sbc hU f416)
    clear f416 G5
    refine g_lstore X412 hx (hb hby at_269) (Ls' := #[.val (.int p0), .val (.long p1), .second, .val (.int p2), .val (.int p3), .val (.int p4), .val (.int p5), .val (.int ui), .val (.long dv), .second, .val (.int ia), .val (.int ib), .val (.int ic), .val (.int (3 : Int32)), .val (.ref a321), .val (.int ia), .val (.int ib), .val (.int ic), .val (.long r415), .second, .unset, .unset, .unset, .unset]) rfl (pc' := 271) rfl ?_
    refine g_lload X412 hx (hb hby at_271) (v := r415) rfl (pc' := 273) rfl ?_
    refine g_iload X412 hx (hb hby at_273) (v := ia) rfl (pc' := 275) rfl ?_
    refine g_iload X412 hx (hb hby at_275) (v := ib) rfl (pc' := 277) rfl ?_
    refine g_iadd X412 hx (hb hby at_277) (pc' := 278) rfl ?_
    refine g_iload X412 hx (hb hby at_278) (v := ic) rfl (pc' := 280) rfl ?_
    refine g_iadd X412 hx (hb hby at_280) (pc' := 281) rfl ?_
    refine g_iload X412 hx (hb hby at_281) (v := ui) rfl (pc' := 283) rfl ?_
    refine g_static X412 hx hZ hown (hw _ (List.mem_of_getElem? (i := 2) rfl)) (hw _ (List.mem_of_getElem? (i := 3) rfl)) (hw _ (List.mem_of_getElem? (i := 4) rfl)) (hw _ (List.mem_of_getElem? (i := 5) rfl)) (by decide) (argsL := [(.long r415), (.int ((ia + ib) + ic)), (.int ui)]) (rm1 l Z a0 hw r415 ((ia + ib) + ic) ui h351 n0 Z358 ) rfl K417 (by rw [hml]; rfl) pd_0 rfl (rest := []) rfl (W := 0) (Nat.le_of_eq rfl) (by decide) (by decide) (by decide) (by decide) N413 (hb hby at_283) (pc' := 286) rfl (fun v418 T419 L420 X421 N422 q423 => ?_)
    obtain ⟨r424, rfl, f425, K426⟩ := q423
    show OGoes p e s below (Q0 Z p0 p1 p2 p3 p4 p5 h0 n0) n0 room_1.cells room_1.slots T419 (mkF m 286 #[.val (.int p0), .val (.long p1), .second, .val (.int p2), .val (.int p3), .val (.int p4), .val (.int p5), .val (.int ui), .val (.long dv), .second, .val (.int ia), .val (.int ib), .val (.int ic), .val (.int (3 : Int32)), .val (.ref a321), .val (.int ia), .val (.int ib), .val (.int ic), .val (.long r415), .second, .unset, .unset, .unset, .unset] [(.long r424)])
    have G7 := own_Gs G6 (own_fitN sabc hU f425)
    clear f425 G6
    refine g_lstore X421 hx (hb hby at_286) (Ls' := #[.val (.int p0), .val (.long p1), .second, .val (.int p2), .val (.int p3), .val (.int p4), .val (.int p5), .val (.int ui), .val (.long dv), .second, .val (.int ia), .val (.int ib), .val (.int ic), .val (.int (3 : Int32)), .val (.ref a321), .val (.int ia), .val (.int ib), .val (.int ic), .val (.long r424), .second, .unset, .unset, .unset, .unset]) rfl (pc' := 288) rfl ?_
    refine g_lload X421 hx (hb hby at_288) (v := r424) rfl (pc' := 290) rfl ?_
    refine g_lload X421 hx (hb hby at_290) (v := dv) rfl (pc' := 292) rfl ?_
    refine g_lmul X421 hx (hb hby at_292) (pc' := 293) rfl ?_
    refine g_lstore X421 hx (hb hby at_293) (Ls' := #[.val (.int p0), .val (.long p1), .second, .val (.int p2), .val (.int p3), .val (.int p4), .val (.int p5), .val (.int ui), .val (.long dv), .second, .val (.int ia), .val (.int ib), .val (.int ic), .val (.int (3 : Int32)), .val (.ref a321), .val (.int ia), .val (.int ib), .val (.int ic), .val (.long r424), .second, .val (.long (r424 * dv)), .second, .unset, .unset]) rfl (pc' := 295) rfl ?_
    refine g_aload X421 hx (hb hby at_295) (v := (.ref a321)) rfl rfl (pc' := 297) rfl ?_
    refine g_lload X421 hx (hb hby at_297) (v := dv) rfl (pc' := 299) rfl ?_
    refine g_iload X421 hx (hb hby at_299) (v := ui) rfl (pc' := 301) rfl ?_
    refine g_static X421 hx hZ hown (hw _ (List.mem_of_getElem? (i := 6) rfl)) (hw _ (List.mem_of_getElem? (i := 7) rfl)) (hw _ (List.mem_of_getElem? (i := 8) rfl)) (hw _ (List.mem_of_getElem? (i := 9) rfl)) (by decide) (argsL := [(.ref a321), (.long dv), (.int ui)]) (rm3 l Z a0 hw a321 dv ui 3 (oupd (oupd (oupd zeroL 0 (ia.toInt64 * dv)) 1 (ib.toInt64 * dv)) 2 (ic.toInt64 * dv)) U (own_av A B D) h351 n0 Z358 A357 hU hU2 (by decide) hq hv3) rfl K426 (by rw [hml]; rfl) pd_2 rfl (rest := []) rfl (W := 0) (Nat.le_of_eq rfl) (by decide) (by decide) (by decide) (by decide) N422 (hb hby at_301) (pc' := 304) rfl (fun v427 T428 L429 X430 N431 q432 => ?_)
    obtain ⟨r433, s2434, rfl, f435, K436⟩ := q432
    have Z437 : NLe n0 T428.heap.size := Z358.tr K436.1
    have F438 := A357.keep K436 nin0
    show OGoes p e s below (Q0 Z p0 p1 p2 p3 p4 p5 h0 n0) n0 room_1.cells room_1.slots T428 (mkF m 304 #[.val (.int p0), .val (.long p1), .second, .val (.int p2), .val (.int p3), .val (.int p4), .val (.int p5), .val (.int ui), .val (.long dv), .second, .val (.int ia), .val (.int ib), .val (.int ic), .val (.int (3 : Int32)), .val (.ref a321), .val (.int ia), .val (.int ib), .val (.int ic), .val (.long r424), .second, .val (.long (r424 * dv)), .second, .unset, .unset] [(.long r433)])
    have hbest : r424.toInt = (s2434 : Int) := own_best3 G7 f435.2.1 f435.2.2.1 f435.2.2.2
    have hs2 := f435.2.1
    have hmul : (r424 * dv).toInt = (s2434 : Int) * dv.toInt := own_mul hbest rfl ⟨by omega, by omega⟩ hq
    refine g_lstore X430 hx (hb hby at_304) (Ls' := #[.val (.int p0), .val (.long p1), .second, .val (.int p2), .val (.int p3), .val (.int p4), .val (.int p5), .val (.int ui), .val (.long dv), .second, .val (.int ia), .val (.int ib), .val (.int ic), .val (.int (3 : Int32)), .val (.ref a321), .val (.int ia), .val (.int ib), .val (.int ic), .val (.long r424), .second, .val (.long (r424 * dv)), .second, .val (.long r433), .second]) rfl (pc' := 306) rfl ?_
    refine g_lload X430 hx (hb hby at_306) (v := r433) rfl (pc' := 308) rfl ?_
    refine g_lload X430 hx (hb hby at_308) (v := (r424 * dv)) rfl (pc' := 310) rfl ?_
    refine g_ll_ne X430 hx (a := r433.toInt) (b := (r424 * dv).toInt) rfl rfl (hb hby at_310) (pc1 := 311) rfl (hb hby at_311) (by decide) (pc' := 318) (by decide) (pc2 := 314) rfl (fun cc => False.elim (by exact cc (f435.1.trans hmul.symm))) (fun cc => ?_)
    refine g_iconst X430 hx (hb hby at_314) (v := 1) (by decide) (pc' := 315) rfl ?_
    refine g_goto X430 hx (hb hby at_315) (by decide) (pc' := 319) (by decide) ?_
    refine g_retZ X430 hx hlk (by decide) hret (hb hby at_319) N431 (by decide) (by decide) ?_
    exact rfl
set_option maxRecDepth 65536 in
set_option maxHeartbeats 40000000 in
theorem comes_1 {Post : Tables → Env → Array Value → State → Outcome → State → Prop} (hpost : ∀ tb e args s v u, (limb_1_1.after args s (.returned v) u = true ∧ limb_1_2.after args s (.returned v) u = true ∧ True) → FrameEnd s (.returned v) u (Jvm.fieldLocs frame_1_writes args s ++ Jvm.arrayLocs frame_1_arrays args s ++ Jvm.staticLocs frame_1_statics s) 16 128 → Post tb e args s (.returned v) u) :
    ArmFor flags0 classFile x code maxLocals ret World_1 tables_1 room_1 Calls_1 rest_1 Pre_1 Post := by
  intro l hfl _ _ p e ha hc hk s m args below hf hA hF happ hP
  obtain ⟨hcalls, hrest, hpre⟩ := hP
  obtain ⟨-, -, -, hnamed, -, -, -, hat⟩ := (Spec.applies_iff hf).mp happ
  obtain ⟨hg, hn⟩ := and_e (Cond.before_iff.mp (show (Jvm.Cond.and given_1 narrow_1).before args s = true from hpre))
  obtain ⟨hcount, k0⟩ := and_e hg
  obtain ⟨g0, k1⟩ := and_e k0
  obtain ⟨g1, k2⟩ := and_e k1
  obtain ⟨g2, k3⟩ := and_e k2
  obtain ⟨g3, k4⟩ := and_e k3
  obtain ⟨g4, k5⟩ := and_e k4
  have g5 := k5
  obtain ⟨w0, w1, w2, w3, w4, w5, rfl⟩ : ∃ w0 w1 w2 w3 w4 w5 : Value, args = #[w0, w1, w2, w3, w4, w5] := by
    have hs : args.size = 6 := by simpa [Cond.value, given_1] using hcount
    obtain ⟨L⟩ := args
    match L, hs with
    | [w0, w1, w2, w3, w4, w5], _ => exact ⟨w0, w1, w2, w3, w4, w5, rfl⟩
  have hw := fun d (hd : d ∈ tables_1) => atoms_spec (ws := Jvm.Cond.code x code maxLocals ret :: tables_1) hat d (List.mem_cons_of_mem _ hd)
  obtain ⟨i0, z0⟩ := is_v g0
  obtain rfl : w0 = (.int i0) := Option.some.inj z0
  obtain ⟨i1, z1⟩ := isL_v g1
  obtain rfl : w1 = (.long i1) := Option.some.inj z1
  obtain ⟨i2, z2⟩ := is_v g2
  obtain rfl : w2 = (.int i2) := Option.some.inj z2
  obtain ⟨i3, z3⟩ := is_v g3
  obtain rfl : w3 = (.int i3) := Option.some.inj z3
  obtain ⟨i4, z4⟩ := is_v g4
  obtain rfl : w4 = (.int i4) := Option.some.inj z4
  obtain ⟨i5, z5⟩ := is_v g5
  obtain rfl : w5 = (.int i5) := Option.some.inj z5
  obtain ⟨n, o, h1, h2, h3, _, L, rfl, ⟨N, rfl⟩, hq⟩ := rm0 l s _ hw tables_1 i0 i1 i2 i3 i4 i5  s.heap s.heap.size (Nat.le_refl _)  p e ha hc hk s m _ below hf ((Spec.applies_iff_loose hf).mp happ).1 ⟨rfl, State.Warmed39.refl s, rfl⟩ trivial
  exact ⟨n, _, h1, h2, h3, hpost _ _ _ _ _ _ ⟨Cond.after_iff.mpr rfl, Cond.after_iff.mpr (eq_i res_at (Term.int_eval (1)) rfl), trivial⟩ ⟨hq.1, hq.2.1, (hq.2.2.sift fun y hy => Or.inr (N y hy)).mono (by decide) (by decide)⟩⟩
theorem main_1_1 : Claimed_1_1 := comes_1 fun _ _ _ _ _ _ h hF => ⟨h.1, hF⟩
theorem main_1_2 : Claimed_1_2 := comes_1 fun _ _ _ _ _ _ h hF => ⟨h.2.1, hF⟩
end Jvm.Pilot.@@N@@
namespace Jvm.Pilot.@@N@@
open Jvm Jvm.ClassFile Sem Op Lib Jvm.Free Jvm.Stand Jvm.Pilot.@@N@@.Jvm.D
/-! MADE BY PROGRAM (witnessworld.py) out of the Statement's table words and the real class files: 11 classes; the members and pool entries that the words name. The judged class is class 1, her method 2. -/
namespace start1
open Jvm.ClassFile
def u (s : String) : CpInfo := .utf8 (stringToUtf16 s)
/-- a pool by its gaps: so many unusable entries, then the entry; so many at the end -/
def gap : Nat → List CpInfo → List CpInfo
  | 0, r => r
  | n + 1, r => .unusable :: gap n r
def poolList (es : List (Nat × CpInfo)) (last : Nat) : List CpInfo := es.foldr (fun e r => gap e.1 (e.2 :: r)) (gap last [])
def pool (es : List (Nat × CpInfo)) (last : Nat) : Array CpInfo := ⟨poolList es last⟩
def fileOf (pool : Array CpInfo) (this : Nat) (attrs : Array Attribute := #[]) (ms : Array MethodInfo := #[]) (fl : Nat := 33) (sup : Nat := 0) (ifs : Array Nat := #[]) (fds : Array FieldInfo := #[]) : ClassFile where
  minorVersion := 0
  majorVersion := 65
  constantPool := pool
  accessFlags := fl
  thisClass := this
  superClass := sup
  interfaces := ifs
  fields := fds
  methods := ms
  attributes := attrs
def plain (name : String) (sup : Option ClassId) : Class where
  name := name
  kind := .ordinary
  loader := none
  accessFlags := 33
  super := sup
  interfaces := #[]
  cf := none
  fields := #[]
  methods := #[]
  instanceTypes := #[]
  staticTypes := #[]
  resolved := #[]
  callSites := []
  init := .initialized
  statics := none
  mirror := none

def pool0 : Array CpInfo := pool [(5, u "<init>"), (0, u "()V"), (1, .class_ 10), (1, u "java/lang/Object")] 113

def k0m0 : Method := { name := "<init>", desc := "()V", sig := { parameters := [], returnType := none }, accessFlags := 1, code := none }
/-- java/lang/Object -/
def k0 : Class := { plain "java/lang/Object" none with
  accessFlags := 33
  interfaces := #[]
  cf := some (fileOf pool0 8 #[] #[{ accessFlags := 1, nameIndex := 5, descriptorIndex := 6, attributes := #[] }] 33 0 #[] #[])
  fields := #[]
  methods := #[k0m0]
  instanceTypes := #[]
  staticTypes := #[]
  resolved := Array.replicate 124 none
  statics := none }

def pool1 : Array CpInfo := pool [(2, .class_ 4), (1, u "java/lang/Object"), (0, u "<init>"), (0, u "()V"), (0, .long 1125899906842623), (1, .methodref 10 11), (0, .class_ 12), (0, .nameAndType 13 14), (0, u "com/example/stagecue/stagecue/engine/SubsetSumByBitsetPinLaw"), (0, u "fit"), (0, u "(JII)J"), (0, .methodref 16 17), (0, .class_ 18), (0, .nameAndType 19 20), (0, u "com/example/stagecue/stagecue/engine/SubsetSum"), (0, u "byBitset"), (0, u "([JJI)J"), (3, u "law"), (0, u "(IJIIII)Z")] 4

def k1m0 : Method := { name := "<init>", desc := "()V", sig := { parameters := [], returnType := none }, accessFlags := 1, code := none }
def k1c1 : Code := { maxStack := 4, maxLocals := 4, code := method_2_code, exceptionTable := #[], attributes := #[] }
def k1m1 : Method := { name := "fit", desc := "(JII)J", sig := { parameters := [.long, .int, .int], returnType := some .long }, accessFlags := 10, code := some k1c1 }
def k1c2 : Code := { maxStack := 7, maxLocals := 24, code := code, exceptionTable := #[], attributes := #[] }
def k1m2 : Method := { name := "law", desc := "(IJIIII)Z", sig := { parameters := [.int, .long, .int, .int, .int, .int], returnType := some .boolean }, accessFlags := 9, code := some k1c2 }
/-- com/example/stagecue/stagecue/engine/SubsetSumByBitsetPinLaw -/
def k1 : Class := { plain "com/example/stagecue/stagecue/engine/SubsetSumByBitsetPinLaw" (some 0) with
  accessFlags := 49
  interfaces := #[]
  cf := some (fileOf pool1 10 #[] #[{ accessFlags := 1, nameIndex := 5, descriptorIndex := 6, attributes := #[] }, { accessFlags := 10, nameIndex := 13, descriptorIndex := 14, attributes := #[] }, { accessFlags := 9, nameIndex := 24, descriptorIndex := 25, attributes := #[] }] 49 2 #[] #[])
  fields := #[]
  methods := #[k1m0, k1m1, k1m2]
  instanceTypes := #[]
  staticTypes := #[]
  resolved := Array.replicate 30 none
  statics := none }

def pool2 : Array CpInfo := pool [(2, .class_ 4), (1, u "java/lang/Object"), (3, .class_ 10), (1, u "com/example/stagecue/stagecue/engine/SubsetSum"), (0, u "sizes"), (0, u "[J"), (2, u "capacity"), (0, u "J"), (2, u "enough"), (2, u "stepsLeft"), (0, u "I"), (2, u "rest"), (31, u "byBitset"), (0, u "([JJI)J"), (14, u "best"), (0, .methodref 8 76), (0, .nameAndType 77 78), (0, u "orShifted"), (0, u "([JI)V"), (0, u "QUICK_STEPS"), (2, u "SEARCH_STEPS"), (0, u "BITSET_WORD_STEPS")] 8

def k2c0 : Code := { maxStack := 6, maxLocals := 10, code := prog_26_method_4_code, exceptionTable := #[], attributes := #[] }
def k2m0 : Method := { name := "byBitset", desc := "([JJI)J", sig := { parameters := [(.array .long), .long, .int], returnType := some .long }, accessFlags := 8, code := some k2c0 }
def k2c1 : Code := { maxStack := 6, maxLocals := 8, code := prog_26_method_5_code, exceptionTable := #[], attributes := #[] }
def k2m1 : Method := { name := "orShifted", desc := "([JI)V", sig := { parameters := [(.array .long), .int], returnType := none }, accessFlags := 10, code := some k2c1 }
/-- com/example/stagecue/stagecue/engine/SubsetSum -/
def k2 : Class := { plain "com/example/stagecue/stagecue/engine/SubsetSum" (some 0) with
  accessFlags := 48
  interfaces := #[]
  cf := some (fileOf pool2 8 #[] #[{ accessFlags := 8, nameIndex := 58, descriptorIndex := 59, attributes := #[] }, { accessFlags := 10, nameIndex := 77, descriptorIndex := 78, attributes := #[] }] 48 2 #[] #[{ accessFlags := 24, nameIndex := 79, descriptorIndex := 23, attributes := #[] }, { accessFlags := 24, nameIndex := 82, descriptorIndex := 23, attributes := #[] }, { accessFlags := 24, nameIndex := 83, descriptorIndex := 16, attributes := #[] }, { accessFlags := 18, nameIndex := 11, descriptorIndex := 12, attributes := #[] }, { accessFlags := 18, nameIndex := 26, descriptorIndex := 12, attributes := #[] }, { accessFlags := 18, nameIndex := 15, descriptorIndex := 16, attributes := #[] }, { accessFlags := 18, nameIndex := 19, descriptorIndex := 16, attributes := #[] }, { accessFlags := 2, nameIndex := 74, descriptorIndex := 16, attributes := #[] }, { accessFlags := 2, nameIndex := 22, descriptorIndex := 23, attributes := #[] }])
  fields := #[{ name := "QUICK_STEPS", type := .int, accessFlags := 24, slot := 0, constantValue := 0 }, { name := "SEARCH_STEPS", type := .int, accessFlags := 24, slot := 1, constantValue := 0 }, { name := "BITSET_WORD_STEPS", type := .long, accessFlags := 24, slot := 2, constantValue := 0 }, { name := "sizes", type := (.array .long), accessFlags := 18, slot := 0, constantValue := 0 }, { name := "rest", type := (.array .long), accessFlags := 18, slot := 1, constantValue := 0 }, { name := "capacity", type := .long, accessFlags := 18, slot := 2, constantValue := 0 }, { name := "enough", type := .long, accessFlags := 18, slot := 3, constantValue := 0 }, { name := "best", type := .long, accessFlags := 2, slot := 4, constantValue := 0 }, { name := "stepsLeft", type := .int, accessFlags := 2, slot := 5, constantValue := 0 }]
  methods := #[k2m0, k2m1]
  instanceTypes := #[(.array .long), (.array .long), .long, .long, .long, .int]
  staticTypes := #[.int, .int, .long]
  resolved := Array.replicate 92 none
  statics := none }

def pool3 : Array CpInfo := pool [(1, u "java/lang/Cloneable"), (0, .class_ 1), (0, u "java/lang/Object"), (0, .class_ 3)] 3

/-- java/lang/Cloneable -/
def k3 : Class := { plain "java/lang/Cloneable" (some 0) with
  accessFlags := 1537
  interfaces := #[]
  cf := some (fileOf pool3 2 #[] #[] 1537 4 #[] #[])
  fields := #[]
  methods := #[]
  instanceTypes := #[]
  staticTypes := #[]
  resolved := Array.replicate 8 none
  statics := none }

def pool4 : Array CpInfo := pool [(1, u "java/io/Serializable"), (0, .class_ 1), (0, u "java/lang/Object"), (0, .class_ 3)] 3

/-- java/io/Serializable -/
def k4 : Class := { plain "java/io/Serializable" (some 0) with
  accessFlags := 1537
  interfaces := #[]
  cf := some (fileOf pool4 2 #[] #[] 1537 4 #[] #[])
  fields := #[]
  methods := #[]
  instanceTypes := #[]
  staticTypes := #[]
  resolved := Array.replicate 8 none
  statics := none }

/-- the primitive byte -/
def k5 : Class := { plain "byte" none with kind := .primitive 'B', accessFlags := 0x411 }
/-- [B -/
def k6 : Class := { plain "[B" (some 0) with kind := .array 5 .byte, interfaces := #[3, 4], accessFlags := 1041 }

/-- the primitive int -/
def k7 : Class := { plain "int" none with kind := .primitive 'I', accessFlags := 0x411 }
/-- [I -/
def k8 : Class := { plain "[I" (some 0) with kind := .array 7 .int, interfaces := #[3, 4], accessFlags := 1041 }

/-- the primitive long -/
def k9 : Class := { plain "long" none with kind := .primitive 'J', accessFlags := 0x411 }
/-- [J -/
def k10 : Class := { plain "[J" (some 0) with kind := .array 9 .long, interfaces := #[3, 4], accessFlags := 1041 }

def heap : Heap := #[]
def classes : Array Class := #[k0, k1, k2, k3, k4, k5, k6, k7, k8, k9, k10]
def interned : List (Array UInt16 × Addr) := []
def slotsUsed : Nat := 0
def theMethod : MethodId := ⟨1, 2⟩
def args0 : Array Value := #[.int 5, .long 300, .int 7, .int 2, .int 1, .int 8]
def aboutOver (below : List Frame) : State where
  vm := { classes := classes, interned := interned.toArray }
  heap := heap
  slotsUsed := slotsUsed
  threads := #[{ frames := .invoking theMethod args0 :: below }]
def below0 : List Frame := [.native { method := ⟨0, 0⟩, args := #[] }]
def about1 : State := aboutOver below0
def p0 : Program := .bare "" "" ""
def e0 : Env := launch0.env 0 0 0
theorem w_frames : about1.frames = Frame.invoking theMethod args0 :: below0 := rfl
set_option maxRecDepth 65536 in
theorem w_args : argsFit about1.vm theMethod args0 = true := by decide +kernel
set_option maxRecDepth 65536 in
theorem w_heap : heapFits about1 = true := by decide +kernel
set_option maxRecDepth 65536 in
theorem w_runnable : about1.curStatus? = some .runnable := by decide +kernel
set_option maxRecDepth 65536 in
theorem w_alone : about1.alone = true := by decide +kernel
set_option maxRecDepth 65536 in
theorem w_named : about1.methodNamed? x = some theMethod := by decide +kernel
set_option maxRecDepth 65536 in
theorem w_hears : about1.hears theMethod below0 = true := by decide +kernel
set_option maxRecDepth 65536 in
theorem w_ripe : about1.ripe theMethod args0 below0 = true := by decide +kernel
theorem w_running : about1.status = .running := rfl
set_option maxRecDepth 65536 in
theorem w_room : about1.hasRoom e0.platform room_1 = true :=
  launch0.hasRoom_least _ room_1 (by decide +kernel) (by decide +kernel) (by decide +kernel) (by decide +kernel) (by decide +kernel) (by decide +kernel)
theorem allAtoms_all (ts : List Jvm.Cond) (a : Array Jvm.Value) (st : Jvm.State) : (allAtoms ts).before a st = ts.all (fun c => c.before a st) := by
  induction ts with
  | nil => rfl
  | cons c t ih =>
    show (Jvm.Cond.and c (allAtoms t)).before a st = _
    rw [Jvm.Cond.before_and, ih, List.all_cons]
def words1 : List Jvm.Cond := Jvm.Cond.code x code maxLocals ret :: tables_1
/-- a 'code' word, met by the world's own term for the bytes: nothing is compared byte by byte -/
theorem code_word {y : MethodName} {bytes : ByteArray} {mx : Nat} {rt : Option FieldType} {a : Array Value} {s : State} {m : MethodId} {meth : Method} {c : Code} (h1 : s.methodNamed? y = some m) (h2 : s.vm.method? m = some meth) (h3 : meth.code = some c) (h4 : c.code = bytes)
    (h5 : (c.maxLocals == mx && c.exceptionTable.isEmpty && decide (c.maxStack ≤ mostOperands) && decide (meth.sig.returnType = rt) && !meth.locks && decide (parseMethodDescriptor y.desc = some meth.sig)) = true) : (Jvm.Cond.code y bytes mx rt).before a s = true := by
  simp only [Bool.and_eq_true, beq_iff_eq, Bool.not_eq_true', decide_eq_true_eq] at h5
  obtain ⟨⟨⟨⟨⟨g1, g2⟩, g3⟩, g4⟩, g5⟩, g6⟩ := h5
  simp [Cond.before, Cond.holds, Cond.value, h1, h2, h3, h4, g1, g2, g3, g4, g5, g6]
def isCode : Jvm.Cond → Bool
  | .code _ _ _ _ => true
  | _ => false
theorem all_split {L : List Jvm.Cond} {P : Jvm.Cond → Bool} (h1 : L.all (fun c => isCode c || P c) = true) (h2 : ∀ c ∈ L.filter isCode, P c = true) : L.all P = true := by
  refine List.all_eq_true.mpr fun c hc => ?_
  have h := List.all_eq_true.mp h1 c hc
  rcases Bool.eq_false_or_eq_true (isCode c) with hi | hi
  · exact h2 c (List.mem_filter.mpr ⟨hc, hi⟩)
  · simpa [hi] using h
set_option maxRecDepth 65536 in
theorem w_c0 : (Jvm.Cond.code x code maxLocals ret).before args0 about1 = true := code_word (m := ⟨1, 2⟩) (meth := k1m2) (c := k1c2) (by decide +kernel) rfl rfl rfl (by decide +kernel)
set_option maxRecDepth 65536 in
theorem w_c1 : (Jvm.Cond.code ({ cls := "com/example/stagecue/stagecue/engine/SubsetSumByBitsetPinLaw", name := "fit", desc := "(JII)J" } : Jvm.MethodName) method_2_code (4 : Nat) (Option.some Jvm.ClassFile.FieldType.long)).before args0 about1 = true := code_word (m := ⟨1, 1⟩) (meth := k1m1) (c := k1c1) (by decide +kernel) rfl rfl rfl (by decide +kernel)
set_option maxRecDepth 65536 in
theorem w_c2 : (Jvm.Cond.code ({ cls := "com/example/stagecue/stagecue/engine/SubsetSum", name := "byBitset", desc := "([JJI)J" } : Jvm.MethodName) prog_26_method_4_code (10 : Nat) (Option.some Jvm.ClassFile.FieldType.long)).before args0 about1 = true := code_word (m := ⟨2, 0⟩) (meth := k2m0) (c := k2c0) (by decide +kernel) rfl rfl rfl (by decide +kernel)
set_option maxRecDepth 65536 in
theorem w_c3 : (Jvm.Cond.code ({ cls := "com/example/stagecue/stagecue/engine/SubsetSum", name := "orShifted", desc := "([JI)V" } : Jvm.MethodName) prog_26_method_5_code (8 : Nat) (Option.none : Option Jvm.ClassFile.FieldType)).before args0 about1 = true := code_word (m := ⟨2, 1⟩) (meth := k2m1) (c := k2c1) (by decide +kernel) rfl rfl rfl (by decide +kernel)
def codes1 : List Jvm.Cond := [Jvm.Cond.code x code maxLocals ret, Jvm.Cond.code ({ cls := "com/example/stagecue/stagecue/engine/SubsetSumByBitsetPinLaw", name := "fit", desc := "(JII)J" } : Jvm.MethodName) method_2_code (4 : Nat) (Option.some Jvm.ClassFile.FieldType.long), Jvm.Cond.code ({ cls := "com/example/stagecue/stagecue/engine/SubsetSum", name := "byBitset", desc := "([JJI)J" } : Jvm.MethodName) prog_26_method_4_code (10 : Nat) (Option.some Jvm.ClassFile.FieldType.long), Jvm.Cond.code ({ cls := "com/example/stagecue/stagecue/engine/SubsetSum", name := "orShifted", desc := "([JI)V" } : Jvm.MethodName) prog_26_method_5_code (8 : Nat) (Option.none : Option Jvm.ClassFile.FieldType)]
set_option maxRecDepth 65536 in
theorem codes_eq : words1.filter isCode = codes1 := rfl
theorem w_codes : ∀ c ∈ words1.filter isCode, c.before args0 about1 = true := by
  rw [codes_eq]
  intro c hc
  simp only [codes1, List.mem_cons, List.not_mem_nil, or_false] at hc
  rcases hc with rfl | rfl | rfl | rfl
  · exact w_c0
  · exact w_c1
  · exact w_c2
  · exact w_c3
set_option maxRecDepth 65536 in
theorem w_t1 : words1.all (fun c => isCode c || c.before args0 about1) = true := by decide +kernel
theorem w_tables : (allAtoms (Jvm.Cond.code x code maxLocals ret :: tables_1)).before args0 about1 = true := by
  rw [allAtoms_all]
  show words1.all (fun c => c.before args0 about1) = true
  refine all_split ?_ w_codes
  rw [w_t1]
set_option maxRecDepth 65536 in
theorem w_case : (Jvm.Cond.and given_1 narrow_1).before args0 about1 = true := by decide +kernel
theorem w_applies : (headSpec (Jvm.Cond.code x code maxLocals ret :: tables_1) room_1).applies x e0.platform about1 = true :=
  (Spec.applies_iff w_frames).mpr ⟨w_running, w_runnable, w_alone, w_named, w_hears, w_ripe, w_room, w_tables⟩
theorem atStart : AtStart classFile x code maxLocals ret World_1 tables_1 room_1 Calls_1 rest_1 Pre_1 launch0 p0 e0 about1 theMethod args0 below0 :=
  ⟨lists_1, trivial, launch0.admits_env _ _ _, launch0.least_env, fairChoices_fair.cas, fairChoices_fair.clock, w_frames, w_args, w_heap, w_applies, trivial, trivial, w_case⟩
end start1
theorem witness_1 : WitnessClaimed_1 := ⟨start1.p0, start1.e0, start1.about1, start1.theMethod, start1.args0, start1.below0, start1.atStart⟩
end Jvm.Pilot.@@N@@
