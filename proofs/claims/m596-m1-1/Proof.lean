import JvmDerived
import JvmDerived.Pilot.@@N@@Statement
import JvmDerived.Pilot.@@N@@Code
set_option linter.unusedVariables false
set_option linter.unusedSimpArgs false
namespace Jvm.Pilot.@@N@@
open Jvm Jvm.ClassFile Sem Op Lib Jvm.Free Jvm.Stand Jvm.LawKit Jvm.RoadKit Bundle Jvm.Pilot.@@N@@.Jvm.D
section OwnKit
variable {p : Program} {l : Launch} {e : Env} {R : Room} {s : State} {m : MethodId} {args : Array Value} {below : List Frame} {meth : Method} {c : Code} {T T' : State} {locs : List Loc} {cells slots kc ks : Nat} {g g' : JFrame} {Q : Option Value → Heap → List Loc → Prop} {Z : State} {h h' : Heap} {a0 : Array Value} {En : Outcome → State → List Loc → Nat → Nat → Prop}
/-- from this frame the run comes to the method's end and leaves what Q says -/
def own_Out (p : Program) (e : Env) (below : List Frame) (En : Outcome → State → List Loc → Nat → Nat → Prop) (T : State) (g : JFrame) (Q : Option Value → Heap → List Loc → Prop) (kc ks : Nat) : Prop :=
  ∃ (t : State) (o : Outcome), Steps p.tables e below (T.setTop g) t ∧ t.status = .running ∧ Ended t below o ∧ ∃ (v : Option Value) (L : List Loc), o = .returned v ∧ Q v t.heap L ∧ En o t L kc ks
theorem own_to (st : ∀ t, Steps p.tables e below (T'.setTop g') t → Steps p.tables e below (T.setTop g) t) (k : own_Out p e below En T' g' Q kc ks) : own_Out p e below En T g Q kc ks := by
  obtain ⟨t, o, h1, h2⟩ := k
  exact ⟨t, o, st t h1, h2⟩
theorem own_cast (q : g = g') (k : own_Out p e below En T g' Q kc ks) : own_Out p e below En T g Q kc ks := q ▸ k
/-- a method's contract: called with these arguments over this heap it returns, and Q says what it leaves -/
def own_C (l : Launch) (Z : State) (y : MethodName) (bytes : ByteArray) (maxL : Nat) (ret : Option FieldType) (rm : Room) (as' : Array Value) (h0 : Heap) (Q : Option Value → Heap → List Loc → Prop) : Prop :=
  ∀ ws : List Jvm.Cond, MetFree l y (head1 (Jvm.Cond.code y bytes maxL ret :: ws) rm) (fun a U => a = as' ∧ Z.Warmed39 U.vm ∧ U.heap = h0) (fun _ _ _ _ _ => True) (fun _ U o U' => ∃ v L, o = .returned v ∧ Q v U'.heap L ∧ FrameEnd U o U' L rm.cells rm.slots)
theorem own_met {y : MethodName} {bytes : ByteArray} {maxL : Nat} {ret : Option FieldType} {rm : Room} {as' : Array Value} {h0 : Heap} (pl : plainFor y = true)
    (body : ∀ (p : Program) (e : Env) (s : State) (m : MethodId) (below : List Frame) (meth : Method) (c : Code) (s₁ : State), p.tables.exec = Jvm.exec → c.code = bytes → c.maxLocals = maxL → meth.sig.returnType = ret → meth.locks = false → s.vm.findClass y.cls = some m.cls → meth.name = y.name → Z.Warmed39 s.vm → Stand p l e rm s m as' below meth c s₁ [] 0 0 → s₁.heap = h0 → own_Out p e below (FrameEnd s) s₁ (entryFrame m as' maxL) Q rm.cells rm.slots) :
    own_C l Z y bytes maxL ret rm as' h0 Q := by
  intro ws
  refine MetFree.of_bodySF pl hisR ?_
  intro p e s m args below meth c s₁ Bd hml0 hP hK
  obtain ⟨rfl, hZ, hh⟩ := hP
  exact body p e s m below meth c s₁ Bd.exec Bd.bytes hml0 Bd.returns (BodyLoose.notSynchronized Bd) (findClass_of_methodNamed Bd.named) ((name_of_methodNamed Bd.named Bd.method).1) hZ (Stand.of_body Bd) (by rw [← hh, Bd.state]; rfl)
/-! returns -/
theorem own_retV (X : Stand p l e R s m args below meth c T locs cells slots) (hx : p.tables.exec = Jvm.exec) (hlk : meth.locks = false) {pc : Nat} {Ls : Array Slot} {w : Value} {t : FieldType} {i : Instr} {rest : List Value} (hret : meth.sig.returnType = some t) (hn : narrow t w = w)
    (hi : (i = .ireturn ∧ (t = .int ∨ t = .boolean ∨ t = .byte ∨ t = .char ∨ t = .short) ∧ ∃ z, w = .int z) ∨ (i = .lreturn ∧ t = .long ∧ ∃ z, w = .long z) ∨ (i = .dreturn ∧ t = .double ∧ ∃ z, w = .double z) ∨ (i = .freturn ∧ t = .float ∧ ∃ z, w = .float z) ∨ (i = .areturn ∧ t.isReference = true ∧ w.isRef = true))
    (hd : decode c.code pc = .ok (i, 1)) (hc : cells ≤ kc) (hs : slots ≤ ks) (hQ : Q (some w) T.heap locs) : own_Out p e below (FrameEnd s) T (mkF m pc Ls (w :: rest)) Q kc ks := by
  obtain ⟨fs, hr, hrun, hended, hW, hsame⟩ := X.leave (v := some w) (fun h => by rw [hret] at h; cases h) hlk
  exact ⟨_, _, retOut X hx hret hn hi hd hr, hrun, hended, _, _, rfl, hQ, ⟨_, rfl⟩, hW, hsame.mono hc hs⟩
theorem own_retI (X : Stand p l e R s m args below meth c T locs cells slots) (hx : p.tables.exec = Jvm.exec) (hlk : meth.locks = false) (hret : meth.sig.returnType = some .int) {pc : Nat} {Ls : Array Slot} {z : Int32} {rest : List Value}
    (hd : decode c.code pc = .ok (.ireturn, 1)) (hc : cells ≤ kc) (hs : slots ≤ ks) (hQ : Q (some (.int z)) T.heap locs) : own_Out p e below (FrameEnd s) T (mkF m pc Ls (.int z :: rest)) Q kc ks :=
  own_retV X hx hlk hret rfl (Or.inl ⟨rfl, Or.inl rfl, _, rfl⟩) hd hc hs hQ
theorem own_retJ (X : Stand p l e R s m args below meth c T locs cells slots) (hx : p.tables.exec = Jvm.exec) (hlk : meth.locks = false) (hret : meth.sig.returnType = some .long) {pc : Nat} {Ls : Array Slot} {z : Int64} {rest : List Value}
    (hd : decode c.code pc = .ok (.lreturn, 1)) (hc : cells ≤ kc) (hs : slots ≤ ks) (hQ : Q (some (.long z)) T.heap locs) : own_Out p e below (FrameEnd s) T (mkF m pc Ls (.long z :: rest)) Q kc ks :=
  own_retV X hx hlk hret rfl (Or.inr (Or.inl ⟨rfl, rfl, _, rfl⟩)) hd hc hs hQ
theorem own_retA (X : Stand p l e R s m args below meth c T locs cells slots) (hx : p.tables.exec = Jvm.exec) (hlk : meth.locks = false) {t : FieldType} (hret : meth.sig.returnType = some t) (ht : t.isReference = true) {pc : Nat} {Ls : Array Slot} {z : Addr} {rest : List Value}
    (hd : decode c.code pc = .ok (.areturn, 1)) (hc : cells ≤ kc) (hs : slots ≤ ks) (hQ : Q (some (.ref z)) T.heap locs) : own_Out p e below (FrameEnd s) T (mkF m pc Ls (.ref z :: rest)) Q kc ks :=
  own_retV X hx hlk hret (by cases t <;> rfl) (Or.inr (Or.inr (Or.inr (Or.inr ⟨rfl, ht, rfl⟩)))) hd hc hs hQ
/-- a boolean, byte, char or short: the value is narrowed -/
theorem own_retN (X : Stand p l e R s m args below meth c T locs cells slots) (hx : p.tables.exec = Jvm.exec) (hlk : meth.locks = false) {t : FieldType} (hret : meth.sig.returnType = some t) (ht : t = .boolean ∨ t = .byte ∨ t = .char ∨ t = .short) {pc : Nat} {Ls : Array Slot} {z : Int32} {rest : List Value}
    (hd : decode c.code pc = .ok (.ireturn, 1)) (hc : cells ≤ kc) (hs : slots ≤ ks) (hQ : Q (some (.int (nar t z))) T.heap locs) : own_Out p e below (FrameEnd s) T (mkF m pc Ls (.int z :: rest)) Q kc ks := by
  obtain ⟨fs, hr, hrun, hended, hW, hsame⟩ := X.leave (v := some (.int (nar t z))) (fun h => by rw [hret] at h; cases h) hlk
  exact ⟨_, _, retN X hx hret ht hd hr, hrun, hended, _, _, rfl, hQ, ⟨_, rfl⟩, hW, hsame.mono hc hs⟩
theorem own_ret0 (X : Stand p l e R s m args below meth c T locs cells slots) (hx : p.tables.exec = Jvm.exec) (hlk : meth.locks = false) (hret : meth.sig.returnType = none) {pc : Nat} {Ls : Array Slot}
    (hd : decode c.code pc = .ok (.return_, 1)) (hc : cells ≤ kc) (hs : slots ≤ ks) (hQ : Q none T.heap locs) : own_Out p e below (FrameEnd s) T (mkF m pc Ls []) Q kc ks := by
  obtain ⟨fs, hr, hrun, hended, hW, hsame⟩ := X.leave (v := none) (fun _ => rfl) hlk
  exact ⟨_, _, X.returnOut hx hret hd hr, hrun, hended, _, _, rfl, hQ, ⟨_, rfl⟩, hW, hsame.mono hc hs⟩
/-! calls -/
theorem own_callS (X : Stand p l e R s m args below meth c T locs cells slots) (hx : p.tables.exec = Jvm.exec) (hZ : Z.Warmed39 s.vm) {own : String} (hown : s.vm.findClass own = some m.cls) {index : Nat} {y : MethodName} {bytes : ByteArray} {maxL : Nat} {ret : Option FieldType} {rm : Room} {W : Nat} {Qc : Option Value → Heap → List Loc → Prop} {argsL rest : List Value}
    (w1 : (Jvm.Cond.methodLink own index y).before a0 Z = true) (w2 : (Jvm.Cond.static y).before a0 Z = true) (w3 : (Jvm.Cond.initialized y.cls).before a0 Z = true) (w4 : (Jvm.Cond.code y bytes maxL ret).before a0 Z = true) (hy : y.cls ≠ "java/lang/invoke/MethodHandle" ∧ y.cls ≠ "java/lang/invoke/VarHandle")
    (hM : own_C l Z y bytes maxL ret rm argsL.toArray h Qc) (hf : rm.frames + 1 ≤ R.frames) (hl : W + (maxL + 11) + rm.locals ≤ R.locals) (eT : T.heap = h) (hg : g.method = m) (hsize : g.locals.size = c.maxLocals) (hlen : ∀ sig, parseMethodDescriptor y.desc = some sig → argsL.length = sig.parameters.length)
    (hstack : g.stack = argsL.reverse ++ rest) (hW : 2 * g.monitorRoom + (rest.map fun v => v.category).sum ≤ W) (hd : decode c.code g.pc = .ok (.invokestatic index, 3)) (hc : cells + rm.cells ≤ R.cells) (hs : slots + rm.slots ≤ R.slots)
    (k : ∀ (v : Option Value) (T' : State) (h' : Heap) (L : List Loc), Stand p l e R s m args below meth c T' (locs ++ L) (cells + rm.cells) (slots + rm.slots) → T'.heap = h' → Qc v h' L → own_Out p e below En T' { g with pc := g.pc + 3, stack := v.toList ++ rest } Q kc ks) : own_Out p e below En T g Q kc ks := by
  obtain ⟨v, _, ⟨T', L', k', n'⟩, -, X', ⟨Lc, hQ, l1, l2, l3⟩, st⟩ := Jvm.LawKit.callS X hx hown (mvT hZ w1) (mvT hZ w2) (mvT hZ w3) (mvT hZ w4) hy (backOf (W := W) (hM []) hZ w4 w3 hf hl) hg hsize hlen hstack hW hd (fun _ _ => ⟨rfl, eT, hc, hs⟩)
  dsimp only [Pt.U, Pt.locs, Pt.cells, Pt.slots] at X' l1 l2 l3 st hQ
  subst l1 l2 l3
  exact own_to st (k v T' _ Lc X' rfl hQ)
/-- a constructor -/
theorem own_callC (X : Stand p l e R s m args below meth c T locs cells slots) (hx : p.tables.exec = Jvm.exec) (hZ : Z.Warmed39 s.vm) {own : String} (hown : s.vm.findClass own = some m.cls) {index : Nat} {y : MethodName} {bytes : ByteArray} {maxL : Nat} {rm : Room} {W : Nat} {Qc : Option Value → Heap → List Loc → Prop} {a : Addr} {argsL rest : List Value}
    (hy1 : y.name = "<init>") (w1 : (Jvm.Cond.methodLink own index y).before a0 Z = true) (w2 : (Jvm.Cond.instanceMethod y).before a0 Z = true) (w3 : (Jvm.Cond.initialized y.cls).before a0 Z = true) (w4 : (Jvm.Cond.code y bytes maxL none).before a0 Z = true) (hy : y.cls ≠ "java/lang/invoke/MethodHandle" ∧ y.cls ≠ "java/lang/invoke/VarHandle")
    (hM : own_C l Z y bytes maxL none rm (.ref a :: argsL).toArray h Qc) (hf : rm.frames + 1 ≤ R.frames) (hl : W + (maxL + 11) + rm.locals ≤ R.locals) (eT : T.heap = h) (hg : g.method = m) (hsize : g.locals.size = c.maxLocals) (hlen : ∀ sig, parseMethodDescriptor y.desc = some sig → argsL.length = sig.parameters.length)
    (hstack : g.stack = argsL.reverse ++ .ref a :: rest) (hW : 2 * g.monitorRoom + (rest.map fun v => v.category).sum ≤ W) (hd : decode c.code g.pc = .ok (.invokespecial index, 3)) (hc : cells + rm.cells ≤ R.cells) (hs : slots + rm.slots ≤ R.slots)
    (k : ∀ (v : Option Value) (T' : State) (h' : Heap) (L : List Loc), Stand p l e R s m args below meth c T' (locs ++ L) (cells + rm.cells) (slots + rm.slots) → T'.heap = h' → Qc v h' L → own_Out p e below En T' { g with pc := g.pc + 3, stack := v.toList ++ rest } Q kc ks) : own_Out p e below En T g Q kc ks := by
  obtain ⟨v, _, ⟨T', L', k', n'⟩, -, X', ⟨Lc, hQ, l1, l2, l3⟩, st⟩ := X.specialBack hx hy1 hown (mvT hZ w1) (mvT hZ w2) (mvT hZ w4) hy (backOf (W := W) (hM []) hZ w4 w3 hf hl) hg hsize (Steps.refl _) hlen hstack hW hd (fun _ _ => ⟨rfl, eT, hc, hs⟩)
  dsimp only [Pt.U, Pt.locs, Pt.cells, Pt.slots] at X' l1 l2 l3 st hQ
  subst l1 l2 l3
  exact own_to (fun t k => st.trans k) (k v T' _ Lc X' rfl hQ)
/-- an instance method of the object's own class -/
theorem own_callV (X : Stand p l e R s m args below meth c T locs cells slots) (hx : p.tables.exec = Jvm.exec) (hZ : Z.Warmed39 s.vm) {own C : String} (hown : s.vm.findClass own = some m.cls) {index : Nat} {y : MethodName} {bytes : ByteArray} {maxL : Nat} {ret : Option FieldType} {rm : Room} {W : Nat} {Qc : Option Value → Heap → List Loc → Prop} {a : Addr} {argsL rest : List Value}
    (w1 : (Jvm.Cond.methodLink own index y).before a0 Z = true) (w5 : (Jvm.Cond.declares y).before a0 Z = true) (w6 : (Jvm.Cond.selects C y y).before a0 Z = true) (w2 : (Jvm.Cond.instanceMethod y).before a0 Z = true) (w3 : (Jvm.Cond.initialized y.cls).before a0 Z = true) (w4 : (Jvm.Cond.code y bytes maxL ret).before a0 Z = true) (hy : y.cls ≠ "java/lang/invoke/MethodHandle" ∧ y.cls ≠ "java/lang/invoke/VarHandle")
    (hM : own_C l Z y bytes maxL ret rm (.ref a :: argsL).toArray h Qc) (hf : rm.frames + 1 ≤ R.frames) (hl : W + (maxL + 11) + rm.locals ≤ R.locals) (eT : T.heap = h) (E : Exa Z h a C) (hg : g.method = m) (hsize : g.locals.size = c.maxLocals) (hlen : ∀ sig, parseMethodDescriptor y.desc = some sig → argsL.length = sig.parameters.length)
    (hstack : g.stack = argsL.reverse ++ .ref a :: rest) (hW : 2 * g.monitorRoom + (rest.map fun v => v.category).sum ≤ W) (hd : decode c.code g.pc = .ok (.invokevirtual index, 3)) (hc : cells + rm.cells ≤ R.cells) (hs : slots + rm.slots ≤ R.slots)
    (k : ∀ (v : Option Value) (T' : State) (h' : Heap) (L : List Loc), Stand p l e R s m args below meth c T' (locs ++ L) (cells + rm.cells) (slots + rm.slots) → T'.heap = h' → Qc v h' L → own_Out p e below En T' { g with pc := g.pc + 3, stack := v.toList ++ rest } Q kc ks) : own_Out p e below En T g Q kc ks := by
  obtain ⟨cq, kq, qa, qb, qc⟩ := isOf hZ eT E
  obtain ⟨v, _, ⟨T', L', k', n'⟩, -, X', ⟨Lc, hQ, l1, l2, l3⟩, st⟩ := X.virtualBack hx hown (mvT hZ w1) (mvT hZ w5) (notFace_of_selects (args := #[]) (mvT hZ w6)) (mvT hZ w6) (mvT hZ w2) hy (backOf (W := W) (hM []) hZ w4 w3 hf hl) qa qc hg hsize (Steps.refl _) hlen hstack hW hd (fun _ _ => ⟨rfl, eT, hc, hs⟩)
  dsimp only [Pt.U, Pt.locs, Pt.cells, Pt.slots] at X' l1 l2 l3 st hQ
  subst l1 l2 l3
  exact own_to (fun t k => st.trans k) (k v T' _ Lc X' rfl hQ)
/-- a private method of the object's own class, by invokevirtual -/
theorem own_callP (X : Stand p l e R s m args below meth c T locs cells slots) (hx : p.tables.exec = Jvm.exec) (hZ : Z.Warmed39 s.vm) {own C : String} (hown : s.vm.findClass own = some m.cls) {index kk : Nat} {y : MethodName} {bytes : ByteArray} {maxL : Nat} {ret : Option FieldType} {rm : Room} {W : Nat} {Qc : Option Value → Heap → List Loc → Prop} {a : Addr} {argsL rest : List Value}
    (w1 : (Jvm.Cond.methodLink own index y).before a0 Z = true) (w5 : (Jvm.Cond.privateMethod y).before a0 Z = true) (w6 : (Jvm.Cond.instantiable y.cls kk).before a0 Z = true) (w2 : (Jvm.Cond.instanceMethod y).before a0 Z = true) (w3 : (Jvm.Cond.initialized y.cls).before a0 Z = true) (w4 : (Jvm.Cond.code y bytes maxL ret).before a0 Z = true) (hy : y.cls ≠ "java/lang/invoke/MethodHandle" ∧ y.cls ≠ "java/lang/invoke/VarHandle")
    (hM : own_C l Z y bytes maxL ret rm (.ref a :: argsL).toArray h Qc) (hf : rm.frames + 1 ≤ R.frames) (hl : W + (maxL + 11) + rm.locals ≤ R.locals) (eT : T.heap = h) (E : Exa Z h a C) (hg : g.method = m) (hsize : g.locals.size = c.maxLocals) (hlen : ∀ sig, parseMethodDescriptor y.desc = some sig → argsL.length = sig.parameters.length)
    (hstack : g.stack = argsL.reverse ++ .ref a :: rest) (hW : 2 * g.monitorRoom + (rest.map fun v => v.category).sum ≤ W) (hd : decode c.code g.pc = .ok (.invokevirtual index, 3)) (hc : cells + rm.cells ≤ R.cells) (hs : slots + rm.slots ≤ R.slots)
    (k : ∀ (v : Option Value) (T' : State) (h' : Heap) (L : List Loc), Stand p l e R s m args below meth c T' (locs ++ L) (cells + rm.cells) (slots + rm.slots) → T'.heap = h' → Qc v h' L → own_Out p e below En T' { g with pc := g.pc + 3, stack := v.toList ++ rest } Q kc ks) : own_Out p e below En T g Q kc ks := by
  obtain ⟨cq, q, q'⟩ := E.cell
  have hp : s.PrivateAt y := Cond.privateMethod_at (mvP hZ w5 (args := #[]))
  obtain ⟨cy, ky, f1, f2, -, f3, -⟩ := Cond.instantiable_spec (mvT (args := args) hZ w6)
  have hi : ky.isInterface = false := (Bool.or_eq_false_iff.mp f3).1
  have hse : (Jvm.Cond.selects y.cls y y).before args s = true := selects_self_of_private f1 f2 hi hp (mvT hZ w2) hy
  obtain ⟨v, _, ⟨T', L', k', n'⟩, -, X', ⟨Lc, hQ, l1, l2, l3⟩, st⟩ := X.privateBack hx hown (mvT hZ w1) (mvT hZ w2) hse hp (mvT hZ w4) hy (backOf (W := W) (hM []) hZ w4 w3 hf hl) hg hsize (Steps.refl _) (by rw [eT]; exact q) q' hlen hstack hW hd (fun _ _ => ⟨rfl, eT, hc, hs⟩)
  dsimp only [Pt.U, Pt.locs, Pt.cells, Pt.slots] at X' l1 l2 l3 st hQ
  subst l1 l2 l3
  exact own_to (fun t k => st.trans k) (k v T' _ Lc X' rfl hQ)
/-! the heap's steps -/
theorem own_getF (X : Stand p l e R s m args below meth c T locs cells slots) (hx : p.tables.exec = Jvm.exec) (hZ : Z.Warmed39 s.vm) {own O n d : String} {index : Nat} (hown : s.vm.findClass own = some m.cls) (w : (Jvm.Cond.fieldLink own index O n d).before a0 Z = true) (eT : T.heap = h) {a : Addr} {v : Value} (F : Fld Z h a O n d v)
    (hg : g.method = m) {rest : List Value} (hs : g.stack = .ref a :: rest) (hd : decode c.code g.pc = .ok (.getfield index, 3)) (k : ∀ T', Stand p l e R s m args below meth c T' locs cells slots → T'.heap = h → own_Out p e below En T' { g with pc := g.pc + 3, stack := v :: rest } Q kc ks) : own_Out p e below En T g Q kc ks := by
  obtain ⟨T', X', e', st⟩ := getF X hx hZ hown (host := "") (Or.inl w) Via.refl eT F hg hs hd
  exact own_to st (k T' X' e')
theorem own_putF (X : Stand p l e R s m args below meth c T locs cells slots) (hx : p.tables.exec = Jvm.exec) (hZ : Z.Warmed39 s.vm) {own O n d C : String} {index kk : Nat} {ty : FieldType} (hown : s.vm.findClass own = some m.cls) (w : (Jvm.Cond.fieldLink own index O n d).before a0 Z = true) (eT : T.heap = h) {a : Addr} {v old : Value} (F : Fld Z h a O n d old) (E : Exa Z h a C)
    (L : (Jvm.Cond.lays C O n d).before a0 Z = true ∨ ((Jvm.Cond.laysFinal C O n d).before a0 Z = true ∧ own = O ∧ meth.name = "<init>")) (wi : (Jvm.Cond.instantiable C kk).before a0 Z = true) (hty : parseFieldDescriptor d = some ty) (hn : narrow ty v = v) (hf : fits ty v = true)
    (hg : g.method = m) {rest : List Value} (hs : g.stack = v :: .ref a :: rest) (hd : decode c.code g.pc = .ok (.putfield index, 3)) (k : ∀ T' h', Stand p l e R s m args below meth c T' (locs ++ [⟨a, Jvm.RoadKit.slotOf Z O n d⟩]) cells slots → T'.heap = h' → Wr h h' a (Jvm.RoadKit.slotOf Z O n d) v → own_Out p e below En T' { g with pc := g.pc + 3, stack := rest } Q kc ks) : own_Out p e below En T g Q kc ks := by
  obtain ⟨T', h', X', e', W', st⟩ := putF X hx hZ hown (host := "") (Or.inl w) Via.refl eT F E L wi hty hn hf hg hs hd
  exact own_to st (k T' h' X' e' W')
theorem own_new (X : Stand p l e R s m args below meth c T locs cells slots) (hx : p.tables.exec = Jvm.exec) (hZ : Z.Warmed39 s.vm) {own C : String} {index n : Nat} (hown : s.vm.findClass own = some m.cls) (w : (Jvm.Cond.classLink own index C).before a0 Z = true) (wi : (Jvm.Cond.instantiable C n).before a0 Z = true) (wz : (Jvm.Cond.initialized C).before a0 Z = true) (eT : T.heap = h)
    (hg : g.method = m) (hd : decode c.code g.pc = .ok (.new index, 3)) (hc : cells + 1 ≤ R.cells) (hl : slots + n ≤ R.slots)
    (k : ∀ T' h' a, a = h.size → Stand p l e R s m args below meth c T' locs (cells + 1) (slots + n) → T'.heap = h' → Ext h h' → Exa Z h' a C → (∀ {O nm d : String} {ty : FieldType}, Laid Z a0 C O nm d → parseFieldDescriptor d = some ty → Fld Z h' a O nm d (defaultValue ty)) → own_Out p e below En T' { g with pc := g.pc + 3, stack := .ref a :: g.stack } Q kc ks) : own_Out p e below En T g Q kc ks := by
  obtain ⟨T', h', X', e', E', A', D', -, st⟩ := newO X hx hZ hown w wi wz eT hg hd hc hl
  exact own_to st (k T' h' _ rfl X' e' E' A' D')
/-! arrays of ints, bytes, booleans: how many places, and what each holds -/
def own_upd (f : Nat → Int32) (j : Nat) (x : Int32) : Nat → Int32 := fun i => if i = j then x else f i
def own_A (Z : State) (h : Heap) (a : Addr) (ty : FieldType) (n : Nat) (f : Nat → Int32) : Prop := ∃ cl : Cell, Arr Z h a cl ty ∧ cl.slots.size = n ∧ ∀ j, j < n → cl.slots[j]? = some (.int (f j))
variable {a b : Addr} {ty : FieldType} {n : Nat} {f : Nat → Int32} {ws : List Addr} {v : Value} {sl : Nat}
theorem own_A.lt (F : own_A Z h a ty n f) : a < h.size := by obtain ⟨_, A, -⟩ := F; exact A.lt
theorem own_A.ext (F : own_A Z h a ty n f) (E : Ext h h') : own_A Z h' a ty n f := by obtain ⟨cl, A, r⟩ := F; exact ⟨cl, A.ext E, r⟩
theorem own_A.other (F : own_A Z h b ty n f) (W : Wr h h' a sl v) (q : b ≠ a) : own_A Z h' b ty n f := by obtain ⟨cl, A, r⟩ := F; exact ⟨cl, A.other W q, r⟩
theorem own_A.keep (F : own_A Z h a ty n f) (K : Keep h h' ws) (q : a ∉ ws) : own_A Z h' a ty n f := by obtain ⟨cl, A, r⟩ := F; exact ⟨cl, ⟨K.2.1 a cl A.1 q, A.2⟩, r⟩
theorem own_A.congr {f' : Nat → Int32} (F : own_A Z h a ty n f) (q : ∀ j, j < n → f j = f' j) : own_A Z h a ty n f' := by obtain ⟨cl, A, r1, r2⟩ := F; exact ⟨cl, A, r1, fun j hj => by rw [r2 j hj, q j hj]⟩
theorem own_A.set {cl : Cell} {j : Nat} {x : Int32} (A : Arr Z h a cl ty) (q1 : cl.slots.size = n) (q2 : ∀ j, j < n → cl.slots[j]? = some (.int (f j))) (W : Wr h h' a j (.int x)) (hj : j < n) : own_A Z h' a ty n (own_upd f j x) := by
  refine ⟨_, A.same W, by rw [sz_set, q1], fun i hi => ?_⟩
  simp only [Cell.setSlot, Array.getElem?_setIfInBounds, own_upd]
  by_cases e : j = i
  · subst e
    simp [q1, hj]
  · rw [if_neg e, q2 i hi, if_neg (fun q => e q.symm)]
theorem own_in {j : Int32} {N : Nat} (h0 : ¬ j < 0) (h1 : j.toNatClampNeg < N) : ¬ (j < 0 ∨ N ≤ j.toNatClampNeg) := fun q => q.elim h0 (fun r => Nat.not_lt.mpr r h1)
theorem own_stI (X : Stand p l e R s m args below meth c T locs cells slots) (hx : p.tables.exec = Jvm.exec) (hZ : Z.Warmed39 s.vm) (eT : T.heap = h) (F : own_A Z h a .int n f) {j x : Int32} (h0 : ¬ j < 0) (h1 : j.toNatClampNeg < n) (hg : g.method = m) {rest : List Value} (hs : g.stack = .int x :: .int j :: .ref a :: rest) (hd : decode c.code g.pc = .ok (.iastore, 1))
    (k : ∀ T' h', Stand p l e R s m args below meth c T' (locs ++ [⟨a, j.toNatClampNeg⟩]) cells slots → T'.heap = h' → Wr h h' a j.toNatClampNeg (.int x) → own_A Z h' a .int n (own_upd f j.toNatClampNeg x) → own_Out p e below En T' { g with pc := g.pc + 1, stack := rest } Q kc ks) : own_Out p e below En T g Q kc ks := by
  obtain ⟨cl, A, q1, q2⟩ := F
  obtain ⟨T', h', X', e', W', st⟩ := stI X hx hZ eT A (own_in h0 (by rw [q1]; exact h1)) hg hs hd
  exact own_to st (k T' h' X' e' W' (own_A.set A q1 q2 W' h1))
theorem own_stZ (X : Stand p l e R s m args below meth c T locs cells slots) (hx : p.tables.exec = Jvm.exec) (hZ : Z.Warmed39 s.vm) (eT : T.heap = h) (F : own_A Z h a .boolean n f) {j x : Int32} (h0 : ¬ j < 0) (h1 : j.toNatClampNeg < n) (hg : g.method = m) {rest : List Value} (hs : g.stack = .int x :: .int j :: .ref a :: rest) (hd : decode c.code g.pc = .ok (.bastore, 1))
    (k : ∀ T' h', Stand p l e R s m args below meth c T' (locs ++ [⟨a, j.toNatClampNeg⟩]) cells slots → T'.heap = h' → Wr h h' a j.toNatClampNeg (.int (nar .boolean x)) → own_A Z h' a .boolean n (own_upd f j.toNatClampNeg (nar .boolean x)) → own_Out p e below En T' { g with pc := g.pc + 1, stack := rest } Q kc ks) : own_Out p e below En T g Q kc ks := by
  obtain ⟨cl, A, q1, q2⟩ := F
  obtain ⟨T', h', X', e', W', st⟩ := stZ X hx hZ eT A (own_in h0 (by rw [q1]; exact h1)) hg hs hd
  exact own_to st (k T' h' X' e' W' (own_A.set A q1 q2 W' h1))
theorem own_stB (X : Stand p l e R s m args below meth c T locs cells slots) (hx : p.tables.exec = Jvm.exec) (hZ : Z.Warmed39 s.vm) (eT : T.heap = h) (F : own_A Z h a .byte n f) {j x : Int32} (h0 : ¬ j < 0) (h1 : j.toNatClampNeg < n) (hg : g.method = m) {rest : List Value} (hs : g.stack = .int x :: .int j :: .ref a :: rest) (hd : decode c.code g.pc = .ok (.bastore, 1))
    (k : ∀ T' h', Stand p l e R s m args below meth c T' (locs ++ [⟨a, j.toNatClampNeg⟩]) cells slots → T'.heap = h' → Wr h h' a j.toNatClampNeg (.int (nar .byte x)) → own_A Z h' a .byte n (own_upd f j.toNatClampNeg (nar .byte x)) → own_Out p e below En T' { g with pc := g.pc + 1, stack := rest } Q kc ks) : own_Out p e below En T g Q kc ks := by
  obtain ⟨cl, A, q1, q2⟩ := F
  obtain ⟨T', h', X', e', W', st⟩ := stB X hx hZ eT A (own_in h0 (by rw [q1]; exact h1)) hg hs hd
  exact own_to st (k T' h' X' e' W' (own_A.set A q1 q2 W' h1))
theorem own_newA (X : Stand p l e R s m args below meth c T locs cells slots) (hx : p.tables.exec = Jvm.exec) (hZ : Z.Warmed39 s.vm) {aty : ArrayType} (w : (Jvm.Cond.arrayClass (newarray.typeOf aty)).before a0 Z = true) (hdef : defaultValue (newarray.typeOf aty) = .int 0) (eT : T.heap = h) (hg : g.method = m) (hd : decode c.code g.pc = .ok (.newarray aty, 2)) {N : Int32} {rest : List Value} (hs : g.stack = .int N :: rest)
    (hn : ¬ N < 0) {cap : Nat} (hcap : N.toNatClampNeg ≤ cap) (hb : cap * 8 ≤ 536870912) (hc : cells + 1 ≤ R.cells) (hl : slots + cap ≤ R.slots)
    (k : ∀ T' h' a, a = h.size → Stand p l e R s m args below meth c T' locs (cells + 1) (slots + cap) → T'.heap = h' → Ext h h' → own_A Z h' a (newarray.typeOf aty) N.toNatClampNeg (fun _ => 0) → own_Out p e below En T' { g with pc := g.pc + 2, stack := .ref a :: rest } Q kc ks) : own_Out p e below En T g Q kc ks := by
  obtain ⟨T', h', cA, X', e', E', A', st⟩ := newP X hx hZ w eT hg hd hs hn hcap hb hc hl
  refine own_to st (k T' h' _ rfl X' e' E' ⟨_, A', sz_new _ _ _, fun j hj => ?_⟩)
  simp [newA, hdef, hj]
theorem own_len (X : Stand p l e R s m args below meth c T locs cells slots) (hx : p.tables.exec = Jvm.exec) (hZ : Z.Warmed39 s.vm) (eT : T.heap = h) (F : own_A Z h a ty n f) (hg : g.method = m) {rest : List Value} (hs : g.stack = .ref a :: rest) (hd : decode c.code g.pc = .ok (.arraylength, 1))
    (k : own_Out p e below En T { g with pc := g.pc + 1, stack := .int n.toInt32 :: rest } Q kc ks) : own_Out p e below En T g Q kc ks := by
  obtain ⟨cl, A, q1, q2⟩ := F
  subst q1
  exact own_to (X.arraylength hx (by rw [eT]; exact A.1) (State.isArrayOf_alike hZ.alike A.2.1) hg hs hd) k
theorem own_ldI (X : Stand p l e R s m args below meth c T locs cells slots) (hx : p.tables.exec = Jvm.exec) (hZ : Z.Warmed39 s.vm) (eT : T.heap = h) (F : own_A Z h a .int n f) {j : Int32} (h0 : ¬ j < 0) (h1 : j.toNatClampNeg < n) (hg : g.method = m) {rest : List Value} (hs : g.stack = .int j :: .ref a :: rest) (hd : decode c.code g.pc = .ok (.iaload, 1))
    (k : ∀ w : Int32, w = f j.toNatClampNeg → own_Out p e below En T { g with pc := g.pc + 1, stack := .int w :: rest } Q kc ks) : own_Out p e below En T g Q kc ks := by
  obtain ⟨cl, A, q1, q2⟩ := F
  exact own_to (X.iaload hx (by rw [eT]; exact A.1) (State.isArrayOf_alike hZ.alike A.2.1) A.2.2 (own_in h0 (by rw [q1]; exact h1)) (q2 _ h1) hg hs hd) (k _ rfl)
theorem own_ldZ (X : Stand p l e R s m args below meth c T locs cells slots) (hx : p.tables.exec = Jvm.exec) (hZ : Z.Warmed39 s.vm) (eT : T.heap = h) (F : own_A Z h a .boolean n f) {j : Int32} (h0 : ¬ j < 0) (h1 : j.toNatClampNeg < n) (hg : g.method = m) {rest : List Value} (hs : g.stack = .int j :: .ref a :: rest) (hd : decode c.code g.pc = .ok (.baload, 1))
    (k : ∀ w : Int32, w = f j.toNatClampNeg → own_Out p e below En T { g with pc := g.pc + 1, stack := .int w :: rest } Q kc ks) : own_Out p e below En T g Q kc ks := by
  obtain ⟨cl, A, q1, q2⟩ := F
  exact own_to (X.baloadBooleans hx (by rw [eT]; exact A.1) (State.isArrayOf_alike hZ.alike A.2.1) A.2.2 (own_in h0 (by rw [q1]; exact h1)) (q2 _ h1) hg hs hd) (k _ rfl)
theorem own_ldB (X : Stand p l e R s m args below meth c T locs cells slots) (hx : p.tables.exec = Jvm.exec) (hZ : Z.Warmed39 s.vm) (eT : T.heap = h) (F : own_A Z h a .byte n f) {j : Int32} (h0 : ¬ j < 0) (h1 : j.toNatClampNeg < n) (hg : g.method = m) {rest : List Value} (hs : g.stack = .int j :: .ref a :: rest) (hd : decode c.code g.pc = .ok (.baload, 1))
    (k : ∀ w : Int32, w = f j.toNatClampNeg → own_Out p e below En T { g with pc := g.pc + 1, stack := .int w :: rest } Q kc ks) : own_Out p e below En T g Q kc ks := by
  obtain ⟨cl, A, q1, q2⟩ := F
  exact own_to (X.baloadBytes hx (by rw [eT]; exact A.1) (State.isArrayOf_alike hZ.alike A.2.1) A.2.2 (own_in h0 (by rw [q1]; exact h1)) (q2 _ h1) hg hs hd) (k _ rfl)
theorem own_idx (x n : Int32) (N : Nat) (hn : n.toInt = (N : Int)) (h0 : 0 < N) : ¬ ((x &&& (2147483647 : Int32)) % n < 0) ∧ ((x &&& (2147483647 : Int32)) % n).toNatClampNeg < N := by
  have h1 := c_mask x 2147483647 31 (by decide) (by decide)
  have h2 := c_irem (x &&& 2147483647) n N hn
  have k : (0 : Int32).toInt = 0 := by decide
  have h3 : ¬ ((x &&& (2147483647 : Int32)) % n < 0) := by
    rw [Int32.lt_iff_toInt_lt, k, h2.1 (by omega)]
    have := Int.emod_nonneg (x &&& 2147483647).toInt (show (N : Int) ≠ 0 by omega)
    omega
  have h4 := nat_of h3
  have h5 := Int.emod_lt_of_pos (x &&& 2147483647).toInt (show (0 : Int) < N by omega)
  rw [h2.1 (by omega)] at h4
  exact ⟨h3, by omega⟩
theorem own_fs {k : Nat} {L : List Loc} (N : Fr k L) (q : k ≤ a) : Fr k (L ++ [⟨a, sl⟩]) := N.app fun y hy => by cases List.mem_singleton.mp hy; exact q
end OwnKit
section OwnKitW
/-! the same where a String constant may be resolved on the way: the Stand is over 's.setVm vm0', 'Since' speaks of the true start -/
variable {p : Program} {l : Launch} {e : Env} {R : Room} {s : State} {m : MethodId} {args : Array Value} {below : List Frame} {meth : Method} {c : Code} {T T' : State} {locs : List Loc} {cells slots kc ks : Nat} {g g' : JFrame} {Q : Option Value → Heap → List Loc → Prop} {Z : State} {h h' : Heap} {a0 : Array Value} {En : Outcome → State → List Loc → Nat → Nat → Prop} {vm0 : Vm} {k0 : Nat}
theorem own_moreW {o : Outcome} {t : State} {L : List Loc} {k n k' n' : Nat} (hE : ReturnedEndW s o t L k n) (h1 : k ≤ k') (h2 : n ≤ n') : ReturnedEndW s o t L k' n' := ⟨hE.1, hE.2.1, hE.2.2.1, hE.2.2.2.mono h1 h2⟩
def own_CW (l : Launch) (Z : State) (y : MethodName) (bytes : ByteArray) (maxL : Nat) (ret : Option FieldType) (rm : Room) (as' : Array Value) (h0 : Heap) (Q : Option Value → Heap → List Loc → Prop) : Prop :=
  ∀ ws : List Jvm.Cond, MetFree l y (head1 (Jvm.Cond.code y bytes maxL ret :: ws) rm) (fun a U => a = as' ∧ Z.Warmed39 U.vm ∧ U.heap = h0) (fun _ _ _ _ _ => True) (fun _ U o U' => ∃ v L, o = .returned v ∧ Q v U'.heap L ∧ ReturnedEndW U o U' L rm.cells rm.slots)
theorem own_metW {y : MethodName} {bytes : ByteArray} {maxL : Nat} {ret : Option FieldType} {rm : Room} {as' : Array Value} {h0 : Heap} (pl : plainFor y = true)
    (body : ∀ (p : Program) (e : Env) (s : State) (m : MethodId) (below : List Frame) (meth : Method) (c : Code) (s₁ : State), p.tables.exec = Jvm.exec → c.code = bytes → c.maxLocals = maxL → meth.sig.returnType = ret → meth.locks = false → s.vm.findClass y.cls = some m.cls → meth.name = y.name → Z.Warmed39 s.vm → Stand p l e rm (s.setVm s.vm) m as' below meth c s₁ [] 0 0 → s₁.heap = h0 → s.Since s.vm 0 → 0 ≤ h0.size → own_Out p e below (ReturnedEndW s) s₁ (entryFrame m as' maxL) Q rm.cells rm.slots) :
    own_CW l Z y bytes maxL ret rm as' h0 Q := by
  intro ws
  refine MetFree.of_bodySF pl hisR ?_
  intro p e s m args below meth c s₁ Bd hml0 hP hK
  obtain ⟨rfl, hZ, hh⟩ := hP
  exact body p e s m below meth c s₁ Bd.exec Bd.bytes hml0 Bd.returns (BodyLoose.notSynchronized Bd) (findClass_of_methodNamed Bd.named) ((name_of_methodNamed Bd.named Bd.method).1) hZ (Stand.of_body Bd) (by rw [← hh, Bd.state]; rfl) ((State.WarmedH.refl s).since 0) (Nat.zero_le _)
/-! returns -/
theorem own_retVW (X : Stand p l e R (s.setVm vm0) m args below meth c T locs cells slots) (hS : s.Since vm0 k0) (hk : k0 ≤ h.size) (eT : T.heap = h) (hx : p.tables.exec = Jvm.exec) (hlk : meth.locks = false) {pc : Nat} {Ls : Array Slot} {w : Value} {t : FieldType} {i : Instr} {rest : List Value} (hret : meth.sig.returnType = some t) (hn : narrow t w = w)
    (hi : (i = .ireturn ∧ (t = .int ∨ t = .boolean ∨ t = .byte ∨ t = .char ∨ t = .short) ∧ ∃ z, w = .int z) ∨ (i = .lreturn ∧ t = .long ∧ ∃ z, w = .long z) ∨ (i = .dreturn ∧ t = .double ∧ ∃ z, w = .double z) ∨ (i = .freturn ∧ t = .float ∧ ∃ z, w = .float z) ∨ (i = .areturn ∧ t.isReference = true ∧ w.isRef = true))
    (hd : decode c.code pc = .ok (i, 1)) (hc : cells ≤ kc) (hs : slots ≤ ks) (hQ : Q (some w) T.heap locs) : own_Out p e below (ReturnedEndW s) T (mkF m pc Ls (w :: rest)) Q kc ks := by
  obtain ⟨fs, hr, hrun, hended, hE⟩ := X.leaveW hS (by rw [eT]; exact hk) (v := some w) (fun h => by rw [hret] at h; cases h) hlk
  exact ⟨_, _, retOut X hx hret hn hi hd hr, hrun, hended, _, _, rfl, hQ, own_moreW hE hc hs⟩
theorem own_retAW (X : Stand p l e R (s.setVm vm0) m args below meth c T locs cells slots) (hS : s.Since vm0 k0) (hk : k0 ≤ h.size) (eT : T.heap = h) (hx : p.tables.exec = Jvm.exec) (hlk : meth.locks = false) {t : FieldType} (hret : meth.sig.returnType = some t) (ht : t.isReference = true) {pc : Nat} {Ls : Array Slot} {z : Addr} {rest : List Value}
    (hd : decode c.code pc = .ok (.areturn, 1)) (hc : cells ≤ kc) (hs : slots ≤ ks) (hQ : Q (some (.ref z)) T.heap locs) : own_Out p e below (ReturnedEndW s) T (mkF m pc Ls (.ref z :: rest)) Q kc ks :=
  own_retVW X hS hk eT hx hlk hret (by cases t <;> rfl) (Or.inr (Or.inr (Or.inr (Or.inr ⟨rfl, ht, rfl⟩)))) hd hc hs hQ
theorem own_retNW (X : Stand p l e R (s.setVm vm0) m args below meth c T locs cells slots) (hS : s.Since vm0 k0) (hk : k0 ≤ h.size) (eT : T.heap = h) (hx : p.tables.exec = Jvm.exec) (hlk : meth.locks = false) {t : FieldType} (hret : meth.sig.returnType = some t) (ht : t = .boolean ∨ t = .byte ∨ t = .char ∨ t = .short) {pc : Nat} {Ls : Array Slot} {z : Int32} {rest : List Value}
    (hd : decode c.code pc = .ok (.ireturn, 1)) (hc : cells ≤ kc) (hs : slots ≤ ks) (hQ : Q (some (.int (nar t z))) T.heap locs) : own_Out p e below (ReturnedEndW s) T (mkF m pc Ls (.int z :: rest)) Q kc ks := by
  obtain ⟨fs, hr, hrun, hended, hE⟩ := X.leaveW hS (by rw [eT]; exact hk) (v := some (.int (nar t z))) (fun h => by rw [hret] at h; cases h) hlk
  exact ⟨_, _, retN X hx hret ht hd hr, hrun, hended, _, _, rfl, hQ, own_moreW hE hc hs⟩
theorem own_ret0W (X : Stand p l e R (s.setVm vm0) m args below meth c T locs cells slots) (hS : s.Since vm0 k0) (hk : k0 ≤ h.size) (eT : T.heap = h) (hx : p.tables.exec = Jvm.exec) (hlk : meth.locks = false) (hret : meth.sig.returnType = none) {pc : Nat} {Ls : Array Slot}
    (hd : decode c.code pc = .ok (.return_, 1)) (hc : cells ≤ kc) (hs : slots ≤ ks) (hQ : Q none T.heap locs) : own_Out p e below (ReturnedEndW s) T (mkF m pc Ls []) Q kc ks := by
  obtain ⟨fs, hr, hrun, hended, hE⟩ := X.leaveW hS (by rw [eT]; exact hk) (v := none) (fun _ => rfl) hlk
  exact ⟨_, _, X.returnOut hx hret hd hr, hrun, hended, _, _, rfl, hQ, own_moreW hE hc hs⟩
/-! a String constant -/
theorem own_ldcS (X : Stand p l e R (s.setVm vm0) m args below meth c T locs cells slots) (hx : p.tables.exec = Jvm.exec) (hZ : Z.Warmed39 vm0) {own text : String} {index : Nat} (hown : vm0.findClass own = some m.cls) (hS : s.Since vm0 k0) (hk : k0 ≤ h.size) (w : (Jvm.Cond.stringLink own index text).before a0 Z = true) (wS : ∀ a ∈ Bundle.stringAtoms, a.before a0 Z = true)
    (eT : T.heap = h) (hg : g.method = m) (hd : decode c.code g.pc = .ok (.ldc index, 2)) {n : Nat} (hn : 4 * text.toList.length ≤ n) (hbig : n ≤ 536870912) (hc : cells + 2 ≤ R.cells) (hl : slots + (n + 4) ≤ R.slots)
    (k : ∀ (a : Addr) (T' : State) (h' : Heap) (k1 : Nat), Stand p l e R (s.setVm T'.vm) m args below meth c T' locs (cells + 2) (slots + (n + 4)) → T'.heap = h' → Ext h h' → Z.Warmed39 T'.vm → T'.vm.findClass own = some m.cls → s.Since T'.vm k1 → k1 ≤ h'.size → own_Out p e below En T' { g with pc := g.pc + 2, stack := .ref a :: g.stack } Q kc ks) : own_Out p e below En T g Q kc ks := by
  obtain ⟨a, T', h', k1, X', e', E', S', K', Z', o', st⟩ := ldcS X hx hZ hown w wS eT hS hk hg hd hn hbig hc hl
  exact own_to st (k a T' h' k1 X' e' E' Z' o' S' K')
/-! calls of a method that may resolve a String constant -/
theorem own_fold {vm1 : Vm} {n1 : Nat} {own : String} (hZ : Z.Warmed39 vm0) (hown : vm0.findClass own = some m.cls) (hS : s.Since vm0 k0) (h2 : (s.setVm vm0).Since vm1 n1) (hk : k0 ≤ n1) : Z.Warmed39 vm1 ∧ vm1.findClass own = some m.cls ∧ s.Since vm1 n1 :=
  ⟨State.Warmed39.trans (t := s.setVm vm0) hZ h2.1, by rw [h2.1.alike.findClass]; exact hown, hS.trans h2 hk⟩
theorem own_callVW (X : Stand p l e R (s.setVm vm0) m args below meth c T locs cells slots) (hx : p.tables.exec = Jvm.exec) (hZ : Z.Warmed39 vm0) {own C : String} (hown : vm0.findClass own = some m.cls) (hS : s.Since vm0 k0) (hk : k0 ≤ h.size) {index : Nat} {y : MethodName} {bytes : ByteArray} {maxL : Nat} {ret : Option FieldType} {rm : Room} {W : Nat} {Qc : Option Value → Heap → List Loc → Prop} {a : Addr} {argsL rest : List Value}
    (w1 : (Jvm.Cond.methodLink own index y).before a0 Z = true) (w5 : (Jvm.Cond.declares y).before a0 Z = true) (w6 : (Jvm.Cond.selects C y y).before a0 Z = true) (w2 : (Jvm.Cond.instanceMethod y).before a0 Z = true) (w3 : (Jvm.Cond.initialized y.cls).before a0 Z = true) (w4 : (Jvm.Cond.code y bytes maxL ret).before a0 Z = true) (hy : y.cls ≠ "java/lang/invoke/MethodHandle" ∧ y.cls ≠ "java/lang/invoke/VarHandle")
    (hM : own_CW l Z y bytes maxL ret rm (.ref a :: argsL).toArray h Qc) (hf : rm.frames + 1 ≤ R.frames) (hl : W + (maxL + 11) + rm.locals ≤ R.locals) (eT : T.heap = h) (E : Exa Z h a C) (hg : g.method = m) (hsize : g.locals.size = c.maxLocals) (hlen : ∀ sig, parseMethodDescriptor y.desc = some sig → argsL.length = sig.parameters.length)
    (hstack : g.stack = argsL.reverse ++ .ref a :: rest) (hW : 2 * g.monitorRoom + (rest.map fun v => v.category).sum ≤ W) (hd : decode c.code g.pc = .ok (.invokevirtual index, 3)) (hc : cells + rm.cells ≤ R.cells) (hs : slots + rm.slots ≤ R.slots)
    (k : ∀ (v : Option Value) (T' : State) (h' : Heap) (L : List Loc), Stand p l e R (s.setVm T'.vm) m args below meth c T' (locs ++ L) (cells + rm.cells) (slots + rm.slots) → T'.heap = h' → Qc v h' L → Z.Warmed39 T'.vm → T'.vm.findClass own = some m.cls → s.Since T'.vm h'.size → own_Out p e below En T' { g with pc := g.pc + 3, stack := v.toList ++ rest } Q kc ks) : own_Out p e below En T g Q kc ks := by
  obtain ⟨cq, kq, qa, qb, qc⟩ := isOf (s := s.setVm vm0) hZ eT E
  obtain ⟨v, _, ⟨T', L', k', n'⟩, -, X', S', gr, ⟨Lc, hQ, l1, l2, l3⟩, st⟩ := X.virtualBackS hx hown (mvT (s := s.setVm vm0) hZ w1) (mvT (s := s.setVm vm0) hZ w5) (notFace_of_selects (args := #[]) (mvT (s := s.setVm vm0) hZ w6)) (mvT (s := s.setVm vm0) hZ w6) (mvT (s := s.setVm vm0) hZ w2) hy (backOfS (W := W) (hM []) hZ w4 w3 hf hl) qa qc hg hsize (Steps.refl _) hlen hstack hW hd (fun _ _ => ⟨rfl, eT, hc, hs⟩)
  dsimp only [Pt.U, Pt.locs, Pt.cells, Pt.slots] at X' l1 l2 l3 st hQ S' gr
  subst l1 l2 l3
  obtain ⟨f1, f2, f3⟩ := own_fold hZ hown hS S' (Nat.le_trans hk (by rw [← eT]; exact gr))
  exact own_to (fun t k => st.trans k) (k v T' _ Lc X' rfl hQ f1 f2 f3)
/-! a constructor named through a nest mate -/
theorem own_callCN (X : Stand p l e R s m args below meth c T locs cells slots) (hx : p.tables.exec = Jvm.exec) (hZ : Z.Warmed39 s.vm) {own host : String} (hown : s.vm.findClass own = some m.cls) {index : Nat} {y : MethodName} {bytes : ByteArray} {maxL : Nat} {rm : Room} {W : Nat} {Qc : Option Value → Heap → List Loc → Prop} {a : Addr} {argsL rest : List Value}
    (hy1 : y.name = "<init>") (w1 : (Jvm.Cond.methodLinkNest own index y host).before a0 Z = true) (w2 : (Jvm.Cond.instanceMethod y).before a0 Z = true) (w3 : (Jvm.Cond.initialized y.cls).before a0 Z = true) (w4 : (Jvm.Cond.code y bytes maxL none).before a0 Z = true) (hy : y.cls ≠ "java/lang/invoke/MethodHandle" ∧ y.cls ≠ "java/lang/invoke/VarHandle")
    (hM : own_C l Z y bytes maxL none rm (.ref a :: argsL).toArray h Qc) (hf : rm.frames + 1 ≤ R.frames) (hl : W + (maxL + 11) + rm.locals ≤ R.locals) (eT : T.heap = h) (hg : g.method = m) (hsize : g.locals.size = c.maxLocals) (hlen : ∀ sig, parseMethodDescriptor y.desc = some sig → argsL.length = sig.parameters.length)
    (hstack : g.stack = argsL.reverse ++ .ref a :: rest) (hW : 2 * g.monitorRoom + (rest.map fun v => v.category).sum ≤ W) (hd : decode c.code g.pc = .ok (.invokespecial index, 3)) (hc : cells + rm.cells ≤ R.cells) (hs : slots + rm.slots ≤ R.slots)
    (k : ∀ (v : Option Value) (T' : State) (h' : Heap) (L : List Loc), Stand p l e R s m args below meth c T' (locs ++ L) (cells + rm.cells) (slots + rm.slots) → T'.heap = h' → Qc v h' L → own_Out p e below En T' { g with pc := g.pc + 3, stack := v.toList ++ rest } Q kc ks) : own_Out p e below En T g Q kc ks := by
  have w1' : (Jvm.Cond.methodLinkNest own index y host).before args s = true := (Cond.methodLinkNest_wide hZ w1 :)
  obtain ⟨v, _, ⟨T', L', k', n'⟩, -, X', ⟨Lc, hQ, l1, l2, l3⟩, st⟩ := X.specialBackNest hx hy1 hown w1' (mvT hZ w2) (mvT hZ w4) hy (backOf (W := W) (hM []) hZ w4 w3 hf hl) hg hsize (Steps.refl _) hlen hstack hW hd (fun _ _ => ⟨rfl, eT, hc, hs⟩)
  dsimp only [Pt.U, Pt.locs, Pt.cells, Pt.slots] at X' l1 l2 l3 st hQ
  subst l1 l2 l3
  exact own_to (fun t k => st.trans k) (k v T' _ Lc X' rfl hQ)
/-! a constructor whose entry has been resolved -/
theorem own_pool (e : Env) {U : State} {own : String} {cur : ClassId} {idx : Nat} {t : MethodName} {tm : MethodId} (hown : U.vm.findClass own = some cur) (href : (Jvm.Cond.methodRef own idx t).before args U = true) (n1 : U.methodNamed? t = some tm) :
    ∃ (dk : Class) (cf : ClassFile) (ci nt : Nat), U.vm.classes[cur]? = some dk ∧ dk.cf = some cf ∧ (cf.constantPool[idx]? = some (.methodref ci nt) ∨ cf.constantPool[idx]? = some (.interfaceMethodref ci nt)) ∧ U.vm.classReady cur ci tm.cls := by
  obtain ⟨m', c', ci, b, q1, q2, q3, q4, q5⟩ := Cond.methodRef_spec (e := e) hown href
  have hnames : U.names own idx (.method t.cls t.name t.desc) = true := by
    simp only [Cond.before, Cond.holds, Cond.value, hown, q1] at href
    simp only [beq_iff_eq, Option.some.injEq, Bool.and_eq_true] at href
    exact href.1.1
  obtain ⟨cp, hcp, hn⟩ := State.names_spec hnames
  obtain ⟨ci', nt, hentry, hnt, -⟩ := namesOf?_method hn
  obtain ⟨k, cf, hk, hcf, rfl⟩ := State.poolOf?_spec hown hcp
  obtain ⟨b', hask⟩ := memberRef_ask' (e := e) hk hcf hentry hnt
  rw [hask] at q4
  cases q4
  have hcc : tm.cls = c' := Option.some.inj ((findClass_of_methodNamed n1).symm.trans q3)
  exact ⟨k, cf, _, nt, hk, hcf, hentry, hcc ▸ q5⟩
theorem own_initRef {tb : Tables} [Ours tb] {U : State} {mm : MethodId} {cc : Code} (h : At U mm cc below) (hexec : tb.exec = Jvm.exec) {own : String} (hown : U.vm.findClass own = some mm.cls) {idx : Nat} {t : MethodName} (ht1 : t.name = "<init>") (hnot : t.cls ≠ "java/lang/invoke/MethodHandle" ∧ t.cls ≠ "java/lang/invoke/VarHandle")
    {bytes : ByteArray} {maxL : Nat} (href : (Jvm.Cond.methodRef own idx t).before args U = true) (hinst : (Jvm.Cond.instanceMethod t).before args U = true) (hcode : (Jvm.Cond.code t bytes maxL none).before args U = true) {f : JFrame} (hf : f.method = mm) {a : Addr} {argsL rest : List Value}
    (hlen : ∀ sig, parseMethodDescriptor t.desc = some sig → argsL.length = sig.parameters.length) (hstack : f.stack = argsL.reverse ++ .ref a :: rest) (hd : decode cc.code f.pc = .ok (.invokespecial idx, 3)) :
    ∃ tm, U.methodNamed? t = some tm ∧ ∀ target, (∀ acts, Steps tb e below (doInvoke e (U.setTop { f with stack := rest }) acts tm (.ref a :: argsL).toArray).1 target) → Steps tb e below (U.setTop f) target := by
  subst hf
  obtain ⟨tm, mt, n1, n2, n3, n4⟩ := Cond.instanceMethod_spec hinst
  obtain ⟨mt', cd, n2', -, -, -, -, -, -, hsig⟩ := Cond.code_spec n1 hcode
  cases n2.symm.trans n2'
  obtain ⟨kt, hkt, -⟩ := className_of_methodNamed n1
  obtain ⟨hname, hdesc⟩ := name_of_methodNamed n1 n2
  have hfm := State.methodFound?_of_named n1 hnot
  obtain ⟨m', c', ci, b, q1, q2, q3, q4, q5⟩ := Cond.methodRef_spec (e := e) hown href
  cases hfm.symm.trans q1
  refine ⟨tm, n1, fun target hrest => ?_⟩
  have hfound : lookupSpecial U.vm tm.cls "<init>" mt.desc = .method tm := by rw [hdesc, ← ht1]; exact lookupSpecial_of_named n1 n2 n3
  have hpool := own_pool e hown href n1
  jvm_step h [hexec, hd, invokespecial.wp_init (e := e) (s := U) (k := kt) (meth := mt) (m := tm) (a := a) (args := argsL) (rest := rest) (f := f) h.top hpool q2 hkt n2 (by rw [hname]; exact ht1) n3 n4 hfound (hlen _ hsig) hstack]
  exact hrest
theorem own_callCR (X : Stand p l e R s m args below meth c T locs cells slots) (hx : p.tables.exec = Jvm.exec) (hZ : Z.Warmed39 s.vm) {own : String} (hown : s.vm.findClass own = some m.cls) {index : Nat} {y : MethodName} {bytes : ByteArray} {maxL : Nat} {rm : Room} {W : Nat} {Qc : Option Value → Heap → List Loc → Prop} {a : Addr} {argsL rest : List Value}
    (hy1 : y.name = "<init>") (w1 : (Jvm.Cond.methodRef own index y).before a0 Z = true) (w2 : (Jvm.Cond.instanceMethod y).before a0 Z = true) (w3 : (Jvm.Cond.initialized y.cls).before a0 Z = true) (w4 : (Jvm.Cond.code y bytes maxL none).before a0 Z = true) (hy : y.cls ≠ "java/lang/invoke/MethodHandle" ∧ y.cls ≠ "java/lang/invoke/VarHandle")
    (hM : own_C l Z y bytes maxL none rm (.ref a :: argsL).toArray h Qc) (hf : rm.frames + 1 ≤ R.frames) (hl : W + (maxL + 11) + rm.locals ≤ R.locals) (eT : T.heap = h) (hg : g.method = m) (hsize : g.locals.size = c.maxLocals) (hlen : ∀ sig, parseMethodDescriptor y.desc = some sig → argsL.length = sig.parameters.length)
    (hstack : g.stack = argsL.reverse ++ .ref a :: rest) (hW : 2 * g.monitorRoom + (rest.map fun v => v.category).sum ≤ W) (hd : decode c.code g.pc = .ok (.invokespecial index, 3)) (hc : cells + rm.cells ≤ R.cells) (hs : slots + rm.slots ≤ R.slots)
    (k : ∀ (v : Option Value) (T' : State) (h' : Heap) (L : List Loc), Stand p l e R s m args below meth c T' (locs ++ L) (cells + rm.cells) (slots + rm.slots) → T'.heap = h' → Qc v h' L → own_Out p e below En T' { g with pc := g.pc + 3, stack := v.toList ++ rest } Q kc ks) : own_Out p e below En T g Q kc ks := by
  have hT : Z.Warmed39 T.vm := wtrans hZ X.warmed
  obtain ⟨mz, _, nz, -⟩ := Cond.instanceMethod_spec w2
  have w1' : (Jvm.Cond.methodRef own index y).before a0 T = true := (Cond.methodRef_warmed39 hT nz hy w1 :)
  have hownT : T.vm.findClass own = some m.cls := by rw [X.warmed.alike.findClass]; exact hown
  obtain ⟨mk, n1, hstep⟩ := own_initRef (e := e) X.here hx hownT hy1 hy w1' (mvT hT w2) (mvT hT w4) (f := g) hg hlen hstack hd
  have hK := backOf (s := s) (p := p) (e := e) (below := below) (args := args) (len := 3) (R := R) (W := W) (hM []) hZ w4 w3 hf hl
  obtain ⟨v, ⟨T', L', k', n'⟩, X', ⟨Lc, hQ, l1, l2, l3⟩, hsteps⟩ := hK m meth c ⟨T, locs, cells, slots⟩ { g with stack := rest } (.invokespecial index) mk (.ref a :: argsL).toArray X hg hsize hd hW n1 ⟨rfl, eT, hc, hs⟩
  dsimp only [Pt.U, Pt.locs, Pt.cells, Pt.slots] at X' l1 l2 l3 hsteps hQ
  subst l1 l2 l3
  exact own_to (fun t k => (hstep _ fun acts => by rw [doInvoke_state]; exact Steps.refl _).trans (hsteps.trans k)) (k v T' _ Lc X' rfl hQ)
end OwnKitW
theorem d1_0 : decode jdk_29_method_69_code 0 = .ok (.iload_n 0, 1) := by decide +kernel
theorem d1_1 : decode jdk_29_method_69_code 1 = .ok (.iload_n 1, 1) := by decide +kernel
theorem d1_2 : decode jdk_29_method_69_code 2 = .ok (.if_icmp .gt 7, 3) := by decide +kernel
theorem d1_5 : decode jdk_29_method_69_code 5 = .ok (.iload_n 0, 1) := by decide +kernel
theorem d1_6 : decode jdk_29_method_69_code 6 = .ok (.goto 4, 3) := by decide +kernel
theorem d1_9 : decode jdk_29_method_69_code 9 = .ok (.iload_n 1, 1) := by decide +kernel
theorem d1_10 : decode jdk_29_method_69_code 10 = .ok (.ireturn, 1) := by decide +kernel
theorem ef_1 (m : MethodId) (u0 : Int32) (u1 : Int32) : entryFrame m #[(.int u0), (.int u1)] 2 = mkF m 0 #[.val (.int u0), .val (.int u1)] [] := by first | (simp [entryFrame, mkF, argsToLocals, Value.category]; done) | rfl
def R1 (u0 : Int32) (u1 : Int32) : Int32 := (if u1 < u0 then u1 else u0)
def Q1 (Z : State) (u0 : Int32) (u1 : Int32) (h0 : Heap) (n0 : Nat) (v : Option Value) (h : Heap) (L : List Loc) : Prop := v = some (.int (R1 u0 u1)) ∧ Fr n0 L ∧ h = h0
set_option maxRecDepth 65536 in
set_option maxHeartbeats 40000000 in
theorem rm1 (l : Launch) (Z : State) (a0 : Array Value) (hw : ∀ d ∈ tables_1, d.before a0 Z = true) (u0 : Int32) (u1 : Int32) (h0 : Heap) (n0 : Nat) (Z0 : n0 ≤ h0.size) :
    own_C l Z (⟨"java/lang/Math", "min", "(II)I"⟩ : MethodName) jdk_29_method_69_code 2 (some .int) ({ frames := 0, cells := 0, slots := 0, locals := 0 } : Room) #[(.int u0), (.int u1)] h0 (Q1 Z u0 u1 h0 n0) := by
  refine own_met (Jvm.Free.JP.mathPlain rfl (by decide +kernel)) ?_
  intro p e s m below meth c s₁ hx hby hml hret hlk hown hnm hZ X0 e0
  refine own_cast (ef_1 m u0 u1) ?_
  have N0 := Fr.nil n0
  show own_Out p e below _ s₁ (mkF m 0 #[.val (.int u0), .val (.int u1)] []) _ _ _
  refine own_to (fun t k => XS.iloadN X0.here hx rfl (hb hby d1_0) rfl k) ?_
  show own_Out p e below _ s₁ (mkF m 1 #[.val (.int u0), .val (.int u1)] [(.int u0)]) _ _ _
  refine own_to (fun t k => XS.iloadN X0.here hx rfl (hb hby d1_1) rfl k) ?_
  show own_Out p e below _ s₁ (mkF m 2 #[.val (.int u0), .val (.int u1)] [(.int u1), (.int u0)]) _ _ _
  by_cases hc2 : u1 < u0
  · refine own_to (fun t k => XS.icmpYes X0.here hx rfl (pc0 := 2) (pc' := 9) rfl (hb hby d1_2) rfl (tlt hc2).2.2.1 (by decide) (by decide) k) ?_
    show own_Out p e below _ s₁ (mkF m 9 #[.val (.int u0), .val (.int u1)] []) _ _ _
    refine own_to (fun t k => XS.iloadN X0.here hx rfl (hb hby d1_9) rfl k) ?_
    show own_Out p e below _ s₁ (mkF m 10 #[.val (.int u0), .val (.int u1)] [(.int u1)]) _ _ _
    refine own_retI X0 hx hlk hret (hb hby d1_10) (by decide) (by decide) ?_
    rw [e0]
    exact ⟨(by unfold R1; rw [if_pos hc2]), N0, rfl⟩
  · refine own_to (fun t k => XS.icmpNo X0.here hx rfl (hb hby d1_2) rfl (flt hc2).2.2.1 k) ?_
    show own_Out p e below _ s₁ (mkF m 5 #[.val (.int u0), .val (.int u1)] []) _ _ _
    refine own_to (fun t k => XS.iloadN X0.here hx rfl (hb hby d1_5) rfl k) ?_
    show own_Out p e below _ s₁ (mkF m 6 #[.val (.int u0), .val (.int u1)] [(.int u0)]) _ _ _
    refine own_to (fun t k => XS.goto X0.here hx rfl (pc0 := 6) (pc' := 10) rfl (hb hby d1_6) (by decide) (by decide) k) ?_
    show own_Out p e below _ s₁ (mkF m 10 #[.val (.int u0), .val (.int u1)] [(.int u0)]) _ _ _
    refine own_retI X0 hx hlk hret (hb hby d1_10) (by decide) (by decide) ?_
    rw [e0]
    exact ⟨(by unfold R1; rw [if_neg hc2]), N0, rfl⟩
theorem own_atoms : ∀ a ∈ Bundle.stringAtoms, a ∈ tables_1 := by decide +kernel
theorem d3_0 : decode prog_57_method_2_code 0 = .ok (.aload_n 0, 1) := by decide +kernel
theorem d3_1 : decode prog_57_method_2_code 1 = .ok (.invokespecial 7, 3) := by decide +kernel
theorem d3_4 : decode prog_57_method_2_code 4 = .ok (.aload_n 0, 1) := by decide +kernel
theorem d3_5 : decode prog_57_method_2_code 5 = .ok (.aload_n 1, 1) := by decide +kernel
theorem d3_6 : decode prog_57_method_2_code 6 = .ok (.putfield 12, 3) := by decide +kernel
theorem d3_9 : decode prog_57_method_2_code 9 = .ok (.aload_n 0, 1) := by decide +kernel
theorem d3_10 : decode prog_57_method_2_code 10 = .ok (.iload_n 2, 1) := by decide +kernel
theorem d3_11 : decode prog_57_method_2_code 11 = .ok (.putfield 16, 3) := by decide +kernel
theorem d3_14 : decode prog_57_method_2_code 14 = .ok (.aload_n 0, 1) := by decide +kernel
theorem d3_15 : decode prog_57_method_2_code 15 = .ok (.iload_n 3, 1) := by decide +kernel
theorem d3_16 : decode prog_57_method_2_code 16 = .ok (.putfield 20, 3) := by decide +kernel
theorem d3_19 : decode prog_57_method_2_code 19 = .ok (.return_, 1) := by decide +kernel
theorem pn_0 : plainName "com/example/pathwarden/pathwarden/util/DerReader" = true := by first | (simp [plainName, overriddenIn]; done) | decide +kernel
theorem ef_3 (m : MethodId) (o0 : Addr) (ab : Addr) (u2 : Int32) (u3 : Int32) : entryFrame m #[(.ref o0), (.ref ab), (.int u2), (.int u3)] 4 = mkF m 0 #[.val (.ref o0), .val (.ref ab), .val (.int u2), .val (.int u3)] [] := by first | (simp [entryFrame, mkF, argsToLocals, Value.category]; done) | rfl
def Q3 (Z : State) (o0 : Addr) (ab : Addr) (u2 : Int32) (u3 : Int32) (h0 : Heap) (n0 : Nat) (v : Option Value) (h : Heap) (L : List Loc) : Prop := v = none ∧ Fr n0 L ∧ Keep h0 h [o0] ∧ Fld Z h o0 "com/example/pathwarden/pathwarden/util/DerReader" "bytes" "[B" (.ref ab) ∧ Fld Z h o0 "com/example/pathwarden/pathwarden/util/DerReader" "position" "I" (.int u2) ∧ Fld Z h o0 "com/example/pathwarden/pathwarden/util/DerReader" "end" "I" (.int u3)
set_option maxRecDepth 65536 in
set_option maxHeartbeats 40000000 in
theorem rm3 (l : Launch) (Z : State) (a0 : Array Value) (hw : ∀ d ∈ tables_1, d.before a0 Z = true) (o0 : Addr) (ab : Addr) (u2 : Int32) (u3 : Int32) (h0 : Heap) (n0 : Nat) (Z0 : n0 ≤ h0.size) (E_o0 : Exa Z h0 o0 "com/example/pathwarden/pathwarden/util/DerReader") (F_o0_bytes : Fld Z h0 o0 "com/example/pathwarden/pathwarden/util/DerReader" "bytes" "[B" .null) (F_o0_position : Fld Z h0 o0 "com/example/pathwarden/pathwarden/util/DerReader" "position" "I" (.int (0 : Int32))) (F_o0_end : Fld Z h0 o0 "com/example/pathwarden/pathwarden/util/DerReader" "end" "I" (.int (0 : Int32))) (g_o0 : n0 ≤ o0) :
    own_C l Z (⟨"com/example/pathwarden/pathwarden/util/DerReader", "<init>", "([BII)V"⟩ : MethodName) prog_57_method_2_code 4 none ({ frames := 1, cells := 0, slots := 0, locals := 12 } : Room) #[(.ref o0), (.ref ab), (.int u2), (.int u3)] h0 (Q3 Z o0 ab u2 u3 h0 n0) := by
  refine own_met (plainFor_of_name pn_0) ?_
  intro p e s m below meth c s₁ hx hby hml hret hlk hown hnm hZ X0 e0
  refine own_cast (ef_3 m o0 ab u2 u3) ?_
  have N0 := Fr.nil n0
  have K := Keep.refl h0 [o0]
  show own_Out p e below _ s₁ (mkF m 0 #[.val (.ref o0), .val (.ref ab), .val (.int u2), .val (.int u3)] []) _ _ _
  refine own_to (fun t k => XS.aloadN X0.here hx rfl (hb hby d3_0) rfl rfl k) ?_
  show own_Out p e below _ s₁ (mkF m 1 #[.val (.ref o0), .val (.ref ab), .val (.int u2), .val (.int u3)] [(.ref o0)]) _ _ _
  obtain ⟨T1, X1, e1, st1⟩ := initO X0 hx hZ hown (hw _ (List.mem_of_getElem? (i := 14) rfl)) (hw _ (List.mem_of_getElem? (i := 15) rfl)) (hw _ (List.mem_of_getElem? (i := 16) rfl)) e0 (g := (mkF m 1 #[.val (.ref o0), .val (.ref ab), .val (.int u2), .val (.int u3)] [(.ref o0)])) rfl (by rw [hml]; rfl) rfl (hb hby d3_1) (by decide) (W := 0) (by show 2 * 0 + _ ≤ _; exact Nat.le_of_eq rfl) (by decide)
  refine own_to st1 ?_
  show own_Out p e below _ T1 (mkF m 4 #[.val (.ref o0), .val (.ref ab), .val (.int u2), .val (.int u3)] []) _ _ _
  refine own_to (fun t k => XS.aloadN X1.here hx rfl (hb hby d3_4) rfl rfl k) ?_
  show own_Out p e below _ T1 (mkF m 5 #[.val (.ref o0), .val (.ref ab), .val (.int u2), .val (.int u3)] [(.ref o0)]) _ _ _
  refine own_to (fun t k => XS.aloadN X1.here hx rfl (hb hby d3_5) rfl rfl k) ?_
  show own_Out p e below _ T1 (mkF m 6 #[.val (.ref o0), .val (.ref ab), .val (.int u2), .val (.int u3)] [(.ref ab), (.ref o0)]) _ _ _
  refine own_putF X1 hx hZ hown (hw _ (List.mem_of_getElem? (i := 17) rfl)) e1 F_o0_bytes E_o0 (Or.inr ⟨(hw _ (List.mem_of_getElem? (i := 18) rfl)), rfl, hnm⟩) (hw _ (List.mem_of_getElem? (i := 6) rfl)) (ty := (.array .byte)) (by decide) rfl rfl rfl rfl (hb hby d3_6) fun T2 hh2 X2 e2 W2 => ?_
  have E_o0 := E_o0.wr W2
  have F_o0_bytes := F_o0_bytes.same W2
  have F_o0_position := F_o0_position.other W2 (Or.inr (slot_ne (Or.inl (hw _ (List.mem_of_getElem? (i := 20) rfl))) (Or.inr (hw _ (List.mem_of_getElem? (i := 18) rfl))) (by decide) (t := .int) (t' := (.array .byte)) (by decide) (by decide)))
  have F_o0_end := F_o0_end.other W2 (Or.inr (slot_ne (Or.inr (hw _ (List.mem_of_getElem? (i := 22) rfl))) (Or.inr (hw _ (List.mem_of_getElem? (i := 18) rfl))) (by decide) (t := .int) (t' := (.array .byte)) (by decide) (by decide)))
  have K := K.wr W2 (Or.inl (by simp))
  have Z0 := Nat.le_trans Z0 (Nat.le_of_eq W2.size.symm)
  have N2 := own_fs (sl := Jvm.RoadKit.slotOf Z "com/example/pathwarden/pathwarden/util/DerReader" "bytes" "[B") N0 g_o0
  show own_Out p e below _ T2 (mkF m 9 #[.val (.ref o0), .val (.ref ab), .val (.int u2), .val (.int u3)] []) _ _ _
  refine own_to (fun t k => XS.aloadN X2.here hx rfl (hb hby d3_9) rfl rfl k) ?_
  show own_Out p e below _ T2 (mkF m 10 #[.val (.ref o0), .val (.ref ab), .val (.int u2), .val (.int u3)] [(.ref o0)]) _ _ _
  refine own_to (fun t k => XS.iloadN X2.here hx rfl (hb hby d3_10) rfl k) ?_
  show own_Out p e below _ T2 (mkF m 11 #[.val (.ref o0), .val (.ref ab), .val (.int u2), .val (.int u3)] [(.int u2), (.ref o0)]) _ _ _
  refine own_putF X2 hx hZ hown (hw _ (List.mem_of_getElem? (i := 19) rfl)) e2 F_o0_position E_o0 (Or.inl (hw _ (List.mem_of_getElem? (i := 20) rfl))) (hw _ (List.mem_of_getElem? (i := 6) rfl)) (ty := .int) (by decide) rfl rfl rfl rfl (hb hby d3_11) fun T3 hh3 X3 e3 W3 => ?_
  have E_o0 := E_o0.wr W3
  have F_o0_bytes := F_o0_bytes.other W3 (Or.inr (slot_ne (Or.inr (hw _ (List.mem_of_getElem? (i := 18) rfl))) (Or.inl (hw _ (List.mem_of_getElem? (i := 20) rfl))) (by decide) (t := (.array .byte)) (t' := .int) (by decide) (by decide)))
  have F_o0_position := F_o0_position.same W3
  have F_o0_end := F_o0_end.other W3 (Or.inr (slot_ne (Or.inr (hw _ (List.mem_of_getElem? (i := 22) rfl))) (Or.inl (hw _ (List.mem_of_getElem? (i := 20) rfl))) (by decide) (t := .int) (t' := .int) (by decide) (by decide)))
  have K := K.wr W3 (Or.inl (by simp))
  have Z0 := Nat.le_trans Z0 (Nat.le_of_eq W3.size.symm)
  have N3 := own_fs (sl := Jvm.RoadKit.slotOf Z "com/example/pathwarden/pathwarden/util/DerReader" "position" "I") N2 g_o0
  show own_Out p e below _ T3 (mkF m 14 #[.val (.ref o0), .val (.ref ab), .val (.int u2), .val (.int u3)] []) _ _ _
  refine own_to (fun t k => XS.aloadN X3.here hx rfl (hb hby d3_14) rfl rfl k) ?_
  show own_Out p e below _ T3 (mkF m 15 #[.val (.ref o0), .val (.ref ab), .val (.int u2), .val (.int u3)] [(.ref o0)]) _ _ _
  refine own_to (fun t k => XS.iloadN X3.here hx rfl (hb hby d3_15) rfl k) ?_
  show own_Out p e below _ T3 (mkF m 16 #[.val (.ref o0), .val (.ref ab), .val (.int u2), .val (.int u3)] [(.int u3), (.ref o0)]) _ _ _
  refine own_putF X3 hx hZ hown (hw _ (List.mem_of_getElem? (i := 21) rfl)) e3 F_o0_end E_o0 (Or.inr ⟨(hw _ (List.mem_of_getElem? (i := 22) rfl)), rfl, hnm⟩) (hw _ (List.mem_of_getElem? (i := 6) rfl)) (ty := .int) (by decide) rfl rfl rfl rfl (hb hby d3_16) fun T4 hh4 X4 e4 W4 => ?_
  have E_o0 := E_o0.wr W4
  have F_o0_bytes := F_o0_bytes.other W4 (Or.inr (slot_ne (Or.inr (hw _ (List.mem_of_getElem? (i := 18) rfl))) (Or.inr (hw _ (List.mem_of_getElem? (i := 22) rfl))) (by decide) (t := (.array .byte)) (t' := .int) (by decide) (by decide)))
  have F_o0_position := F_o0_position.other W4 (Or.inr (slot_ne (Or.inl (hw _ (List.mem_of_getElem? (i := 20) rfl))) (Or.inr (hw _ (List.mem_of_getElem? (i := 22) rfl))) (by decide) (t := .int) (t' := .int) (by decide) (by decide)))
  have F_o0_end := F_o0_end.same W4
  have K := K.wr W4 (Or.inl (by simp))
  have Z0 := Nat.le_trans Z0 (Nat.le_of_eq W4.size.symm)
  have N4 := own_fs (sl := Jvm.RoadKit.slotOf Z "com/example/pathwarden/pathwarden/util/DerReader" "end" "I") N3 g_o0
  show own_Out p e below _ T4 (mkF m 19 #[.val (.ref o0), .val (.ref ab), .val (.int u2), .val (.int u3)] []) _ _ _
  refine own_ret0 X4 hx hlk hret (hb hby d3_19) (by decide) (by decide) ?_
  rw [e4]
  exact ⟨rfl, N4, K, F_o0_bytes, F_o0_position, F_o0_end⟩
theorem d2_0 : decode prog_57_method_1_code 0 = .ok (.aload_n 0, 1) := by decide +kernel
theorem d2_1 : decode prog_57_method_1_code 1 = .ok (.aload_n 1, 1) := by decide +kernel
theorem d2_2 : decode prog_57_method_1_code 2 = .ok (.iconst 0, 1) := by decide +kernel
theorem d2_3 : decode prog_57_method_1_code 3 = .ok (.aload_n 1, 1) := by decide +kernel
theorem d2_4 : decode prog_57_method_1_code 4 = .ok (.arraylength, 1) := by decide +kernel
theorem d2_5 : decode prog_57_method_1_code 5 = .ok (.invokespecial 1, 3) := by decide +kernel
theorem d2_8 : decode prog_57_method_1_code 8 = .ok (.return_, 1) := by decide +kernel
theorem ef_2 (m : MethodId) (o0 : Addr) (ab : Addr) : entryFrame m #[(.ref o0), (.ref ab)] 2 = mkF m 0 #[.val (.ref o0), .val (.ref ab)] [] := by first | (simp [entryFrame, mkF, argsToLocals, Value.category]; done) | rfl
def Q2 (Z : State) (o0 : Addr) (ab : Addr) (N : Nat) (fb : Nat → Int32) (h0 : Heap) (n0 : Nat) (v : Option Value) (h : Heap) (L : List Loc) : Prop := v = none ∧ Fr n0 L ∧ Keep h0 h [o0] ∧ Fld Z h o0 "com/example/pathwarden/pathwarden/util/DerReader" "bytes" "[B" (.ref ab) ∧ Fld Z h o0 "com/example/pathwarden/pathwarden/util/DerReader" "position" "I" (.int (0 : Int32)) ∧ Fld Z h o0 "com/example/pathwarden/pathwarden/util/DerReader" "end" "I" (.int (Nat.toInt32 N))
theorem pd_0 : parseMethodDescriptor "([BII)V" = some ⟨[(.array .byte), .int, .int], none⟩ := by decide +kernel
set_option maxRecDepth 65536 in
set_option maxHeartbeats 40000000 in
theorem rm2 (l : Launch) (Z : State) (a0 : Array Value) (hw : ∀ d ∈ tables_1, d.before a0 Z = true) (o0 : Addr) (ab : Addr) (N : Nat) (fb : Nat → Int32) (h0 : Heap) (n0 : Nat) (Z0 : n0 ≤ h0.size) (E_o0 : Exa Z h0 o0 "com/example/pathwarden/pathwarden/util/DerReader") (F_o0_bytes : Fld Z h0 o0 "com/example/pathwarden/pathwarden/util/DerReader" "bytes" "[B" .null) (F_o0_position : Fld Z h0 o0 "com/example/pathwarden/pathwarden/util/DerReader" "position" "I" (.int (0 : Int32))) (F_o0_end : Fld Z h0 o0 "com/example/pathwarden/pathwarden/util/DerReader" "end" "I" (.int (0 : Int32))) (g_o0 : n0 ≤ o0) (A_ab : own_A Z h0 ab .byte N fb) (ne_ab_o0 : ab ≠ o0) :
    own_C l Z (⟨"com/example/pathwarden/pathwarden/util/DerReader", "<init>", "([B)V"⟩ : MethodName) prog_57_method_1_code 2 none ({ frames := 2, cells := 0, slots := 0, locals := 27 } : Room) #[(.ref o0), (.ref ab)] h0 (Q2 Z o0 ab N fb h0 n0) := by
  refine own_met (plainFor_of_name pn_0) ?_
  intro p e s m below meth c s₁ hx hby hml hret hlk hown hnm hZ X0 e0
  refine own_cast (ef_2 m o0 ab) ?_
  have N0 := Fr.nil n0
  have ne_o0_ab := Ne.symm ne_ab_o0
  have K := Keep.refl h0 [o0]
  show own_Out p e below _ s₁ (mkF m 0 #[.val (.ref o0), .val (.ref ab)] []) _ _ _
  refine own_to (fun t k => XS.aloadN X0.here hx rfl (hb hby d2_0) rfl rfl k) ?_
  show own_Out p e below _ s₁ (mkF m 1 #[.val (.ref o0), .val (.ref ab)] [(.ref o0)]) _ _ _
  refine own_to (fun t k => XS.aloadN X0.here hx rfl (hb hby d2_1) rfl rfl k) ?_
  show own_Out p e below _ s₁ (mkF m 2 #[.val (.ref o0), .val (.ref ab)] [(.ref ab), (.ref o0)]) _ _ _
  refine own_to (fun t k => XS.iconst X0.here hx rfl (hb hby d2_2) k) ?_
  show own_Out p e below _ s₁ (mkF m 3 #[.val (.ref o0), .val (.ref ab)] [(.int (0 : Int32)), (.ref ab), (.ref o0)]) _ _ _
  refine own_to (fun t k => XS.aloadN X0.here hx rfl (hb hby d2_3) rfl rfl k) ?_
  show own_Out p e below _ s₁ (mkF m 4 #[.val (.ref o0), .val (.ref ab)] [(.ref ab), (.int (0 : Int32)), (.ref ab), (.ref o0)]) _ _ _
  refine own_len X0 hx hZ e0 A_ab rfl rfl (hb hby d2_4) ?_
  show own_Out p e below _ s₁ (mkF m 5 #[.val (.ref o0), .val (.ref ab)] [(.int (Nat.toInt32 N)), (.int (0 : Int32)), (.ref ab), (.ref o0)]) _ _ _
  refine own_callC X0 hx hZ hown (a := o0) (argsL := [(.ref ab), (.int (0 : Int32)), (.int (Nat.toInt32 N))]) (rest := []) rfl (hw _ (List.mem_of_getElem? (i := 11) rfl)) (hw _ (List.mem_of_getElem? (i := 12) rfl)) (hw _ (List.mem_of_getElem? (i := 7) rfl)) (hw _ (List.mem_of_getElem? (i := 13) rfl)) (by decide) (rm3 l Z a0 hw o0 ab (0 : Int32) (Nat.toInt32 N) h0 n0 Z0 E_o0 F_o0_bytes F_o0_position F_o0_end g_o0) (by decide) (by decide) e0 rfl (by rw [hml]; rfl) (lenOf pd_0 rfl) rfl (W := 0) (by show 2 * 0 + _ ≤ _; exact Nat.le_of_eq rfl) (hb hby d2_5) (by decide) (by decide) fun v1 T1 hh1 L1 X1 e1 hQ1 => ?_
  obtain ⟨rfl, NL1, KK1, P1_0, P1_1, P1_2⟩ := hQ1
  have E_o0 := E_o0.keep KK1
  have A_ab := A_ab.keep KK1 (by simp [ne_ab_o0])
  have F_o0_bytes := P1_0
  have F_o0_position := P1_1
  have F_o0_end := P1_2
  have K := K.trans KK1 (by intro z hz; simp only [List.mem_cons, List.not_mem_nil, or_false] at hz; subst hz; exact Or.inl (by simp))
  have Z0 := Nat.le_trans Z0 KK1.1
  have N1 := Fr.app N0 NL1
  show own_Out p e below _ T1 (mkF m 8 #[.val (.ref o0), .val (.ref ab)] []) _ _ _
  refine own_ret0 X1 hx hlk hret (hb hby d2_8) (by decide) (by decide) ?_
  rw [e1]
  exact ⟨rfl, N1, K, F_o0_bytes, F_o0_position, F_o0_end⟩
theorem d5_0 : decode prog_57_method_3_code 0 = .ok (.aload_n 0, 1) := by decide +kernel
theorem d5_1 : decode prog_57_method_3_code 1 = .ok (.getfield 16, 3) := by decide +kernel
theorem d5_4 : decode prog_57_method_3_code 4 = .ok (.aload_n 0, 1) := by decide +kernel
theorem d5_5 : decode prog_57_method_3_code 5 = .ok (.getfield 20, 3) := by decide +kernel
theorem d5_8 : decode prog_57_method_3_code 8 = .ok (.if_icmp .ge 7, 3) := by decide +kernel
theorem d5_11 : decode prog_57_method_3_code 11 = .ok (.iconst 1, 1) := by decide +kernel
theorem d5_12 : decode prog_57_method_3_code 12 = .ok (.goto 4, 3) := by decide +kernel
theorem d5_15 : decode prog_57_method_3_code 15 = .ok (.iconst 0, 1) := by decide +kernel
theorem d5_16 : decode prog_57_method_3_code 16 = .ok (.ireturn, 1) := by decide +kernel
theorem ef_5 (m : MethodId) (o0 : Addr) : entryFrame m #[(.ref o0)] 1 = mkF m 0 #[.val (.ref o0)] [] := by first | (simp [entryFrame, mkF, argsToLocals, Value.category]; done) | rfl
def R5 (o0 : Addr) (fp : Int32) (fq : Int32) : Int32 := (if fp < fq then (1 : Int32) else (0 : Int32))
def Q5 (Z : State) (o0 : Addr) (fp : Int32) (fq : Int32) (h0 : Heap) (n0 : Nat) (v : Option Value) (h : Heap) (L : List Loc) : Prop := v = some (.int (R5 o0 fp fq)) ∧ Fr n0 L ∧ h = h0
set_option maxRecDepth 65536 in
set_option maxHeartbeats 40000000 in
theorem rm5 (l : Launch) (Z : State) (a0 : Array Value) (hw : ∀ d ∈ tables_1, d.before a0 Z = true) (o0 : Addr) (fp : Int32) (fq : Int32) (h0 : Heap) (n0 : Nat) (Z0 : n0 ≤ h0.size) (F_o0_position : Fld Z h0 o0 "com/example/pathwarden/pathwarden/util/DerReader" "position" "I" (.int fp)) (F_o0_end : Fld Z h0 o0 "com/example/pathwarden/pathwarden/util/DerReader" "end" "I" (.int fq)) :
    own_C l Z (⟨"com/example/pathwarden/pathwarden/util/DerReader", "hasNext", "()Z"⟩ : MethodName) prog_57_method_3_code 1 (some .boolean) ({ frames := 0, cells := 0, slots := 0, locals := 0 } : Room) #[(.ref o0)] h0 (Q5 Z o0 fp fq h0 n0) := by
  refine own_met (plainFor_of_name pn_0) ?_
  intro p e s m below meth c s₁ hx hby hml hret hlk hown hnm hZ X0 e0
  refine own_cast (ef_5 m o0) ?_
  have N0 := Fr.nil n0
  show own_Out p e below _ s₁ (mkF m 0 #[.val (.ref o0)] []) _ _ _
  refine own_to (fun t k => XS.aloadN X0.here hx rfl (hb hby d5_0) rfl rfl k) ?_
  show own_Out p e below _ s₁ (mkF m 1 #[.val (.ref o0)] [(.ref o0)]) _ _ _
  refine own_getF X0 hx hZ hown (hw _ (List.mem_of_getElem? (i := 19) rfl)) e0 F_o0_position rfl rfl (hb hby d5_1) fun T1 X1 e1 => ?_
  show own_Out p e below _ T1 (mkF m 4 #[.val (.ref o0)] [(.int fp)]) _ _ _
  refine own_to (fun t k => XS.aloadN X1.here hx rfl (hb hby d5_4) rfl rfl k) ?_
  show own_Out p e below _ T1 (mkF m 5 #[.val (.ref o0)] [(.ref o0), (.int fp)]) _ _ _
  refine own_getF X1 hx hZ hown (hw _ (List.mem_of_getElem? (i := 21) rfl)) e1 F_o0_end rfl rfl (hb hby d5_5) fun T2 X2 e2 => ?_
  show own_Out p e below _ T2 (mkF m 8 #[.val (.ref o0)] [(.int fq), (.int fp)]) _ _ _
  by_cases hc8 : fp < fq
  · refine own_to (fun t k => XS.icmpNo X2.here hx rfl (hb hby d5_8) rfl (tlt hc8).2.1 k) ?_
    show own_Out p e below _ T2 (mkF m 11 #[.val (.ref o0)] []) _ _ _
    refine own_to (fun t k => XS.iconst X2.here hx rfl (hb hby d5_11) k) ?_
    show own_Out p e below _ T2 (mkF m 12 #[.val (.ref o0)] [(.int (1 : Int32))]) _ _ _
    refine own_to (fun t k => XS.goto X2.here hx rfl (pc0 := 12) (pc' := 16) rfl (hb hby d5_12) (by decide) (by decide) k) ?_
    show own_Out p e below _ T2 (mkF m 16 #[.val (.ref o0)] [(.int (1 : Int32))]) _ _ _
    refine own_retV X2 hx hlk (w := .int (1 : Int32)) hret rfl (Or.inl ⟨rfl, by simp, _, rfl⟩) (hb hby d5_16) (by decide) (by decide) ?_
    rw [e2]
    exact ⟨(by unfold R5; rw [if_pos hc8]), N0, rfl⟩
  · refine own_to (fun t k => XS.icmpYes X2.here hx rfl (pc0 := 8) (pc' := 15) rfl (hb hby d5_8) rfl (flt hc8).2.1 (by decide) (by decide) k) ?_
    show own_Out p e below _ T2 (mkF m 15 #[.val (.ref o0)] []) _ _ _
    refine own_to (fun t k => XS.iconst X2.here hx rfl (hb hby d5_15) k) ?_
    show own_Out p e below _ T2 (mkF m 16 #[.val (.ref o0)] [(.int (0 : Int32))]) _ _ _
    refine own_retV X2 hx hlk (w := .int (0 : Int32)) hret rfl (Or.inl ⟨rfl, by simp, _, rfl⟩) (hb hby d5_16) (by decide) (by decide) ?_
    rw [e2]
    exact ⟨(by unfold R5; rw [if_neg hc8]), N0, rfl⟩
theorem own_hn1 (o : Addr) (a b : Int32) (h : a < b) : R5 o a b = 1 := by unfold R5; rw [if_pos h]
theorem own_hn0 (o : Addr) (a b : Int32) (h : ¬ a < b) : R5 o a b = 0 := by unfold R5; rw [if_neg h]
theorem own_hit {f : Nat → Int32} {j i : Nat} {x : Int32} (h : i = j) : own_upd f j x i = x := if_pos h
theorem own_miss {f : Nat → Int32} {j i : Nat} {x : Int32} (h : i ≠ j) : own_upd f j x i = f i := if_neg h
theorem own_n0 : (0 : Int32).toNatClampNeg = 0 := by decide
theorem own_n1 : (1 : Int32).toNatClampNeg = 1 := by decide
theorem own_n2 : (2 : Int32).toNatClampNeg = 2 := by decide
theorem own_n3 : (3 : Int32).toNatClampNeg = 3 := by decide
theorem own_n4 : (4 : Int32).toNatClampNeg = 4 := by decide
theorem own_n5 : (5 : Int32).toNatClampNeg = 5 := by decide
theorem own_by (x : Int32) : (nar .byte (x.toInt8.toInt32) &&& (255 : Int32)) = (x &&& (255 : Int32)) := by
  have h1 := c_i2b x
  have h2 := c_i2b x.toInt8.toInt32
  have h3 := c_mask x 255 8 (by decide) (by decide)
  have h4 := c_mask (nar .byte x.toInt8.toInt32) 255 8 (by decide) (by decide)
  apply Int32.toInt_inj.mp
  rw [h3, h4]
  show x.toInt8.toInt32.toInt8.toInt32.toInt % _ = _
  omega
theorem d7_0 : decode prog_57_method_8_code 0 = .ok (.aload_n 0, 1) := by decide +kernel
theorem d7_1 : decode prog_57_method_8_code 1 = .ok (.invokevirtual 23, 3) := by decide +kernel
theorem d7_4 : decode prog_57_method_8_code 4 = .ok (.ifCond .ne 17, 3) := by decide +kernel
theorem d7_7 : decode prog_57_method_8_code 7 = .ok (.new 33, 3) := by decide +kernel
theorem d7_10 : decode prog_57_method_8_code 10 = .ok (.dup, 1) := by decide +kernel
theorem d7_11 : decode prog_57_method_8_code 11 = .ok (.aload_n 1, 1) := by decide +kernel
theorem d7_21 : decode prog_57_method_8_code 21 = .ok (.aload_n 0, 1) := by decide +kernel
theorem d7_22 : decode prog_57_method_8_code 22 = .ok (.getfield 12, 3) := by decide +kernel
theorem d7_25 : decode prog_57_method_8_code 25 = .ok (.aload_n 0, 1) := by decide +kernel
theorem d7_26 : decode prog_57_method_8_code 26 = .ok (.dup, 1) := by decide +kernel
theorem d7_27 : decode prog_57_method_8_code 27 = .ok (.getfield 16, 3) := by decide +kernel
theorem d7_30 : decode prog_57_method_8_code 30 = .ok (.dup_x1, 1) := by decide +kernel
theorem d7_31 : decode prog_57_method_8_code 31 = .ok (.iconst 1, 1) := by decide +kernel
theorem d7_32 : decode prog_57_method_8_code 32 = .ok (.iadd, 1) := by decide +kernel
theorem d7_33 : decode prog_57_method_8_code 33 = .ok (.putfield 16, 3) := by decide +kernel
theorem d7_36 : decode prog_57_method_8_code 36 = .ok (.baload, 1) := by decide +kernel
theorem d7_37 : decode prog_57_method_8_code 37 = .ok (.sipush 255, 3) := by decide +kernel
theorem d7_40 : decode prog_57_method_8_code 40 = .ok (.iand, 1) := by decide +kernel
theorem d7_41 : decode prog_57_method_8_code 41 = .ok (.ireturn, 1) := by decide +kernel
theorem ef_7 (m : MethodId) (o0 : Addr) (ar : Addr) : entryFrame m #[(.ref o0), (.ref ar)] 2 = mkF m 0 #[.val (.ref o0), .val (.ref ar)] [] := by first | (simp [entryFrame, mkF, argsToLocals, Value.category]; done) | rfl
def Q7 (Z : State) (o0 : Addr) (ar : Addr) (fp : Int32) (fq : Int32) (ab : Addr) (N : Nat) (fb : Nat → Int32) (tg : Int32) (h0 : Heap) (n0 : Nat) (v : Option Value) (h : Heap) (L : List Loc) : Prop := v = some (.int tg) ∧ Fr n0 L ∧ Keep h0 h [o0] ∧ Fld Z h o0 "com/example/pathwarden/pathwarden/util/DerReader" "bytes" "[B" (.ref ab) ∧ Fld Z h o0 "com/example/pathwarden/pathwarden/util/DerReader" "position" "I" (.int (fp + (1 : Int32))) ∧ Fld Z h o0 "com/example/pathwarden/pathwarden/util/DerReader" "end" "I" (.int fq)
theorem pd_1 : parseMethodDescriptor "()Z" = some ⟨[], some .boolean⟩ := by decide +kernel
set_option maxRecDepth 65536 in
set_option maxHeartbeats 40000000 in
theorem rm7 (l : Launch) (Z : State) (a0 : Array Value) (hw : ∀ d ∈ tables_1, d.before a0 Z = true) (o0 : Addr) (ar : Addr) (fp : Int32) (fq : Int32) (ab : Addr) (N : Nat) (fb : Nat → Int32) (tg : Int32) (h0 : Heap) (n0 : Nat) (Z0 : n0 ≤ h0.size) (E_o0 : Exa Z h0 o0 "com/example/pathwarden/pathwarden/util/DerReader") (F_o0_bytes : Fld Z h0 o0 "com/example/pathwarden/pathwarden/util/DerReader" "bytes" "[B" (.ref ab)) (F_o0_position : Fld Z h0 o0 "com/example/pathwarden/pathwarden/util/DerReader" "position" "I" (.int fp)) (F_o0_end : Fld Z h0 o0 "com/example/pathwarden/pathwarden/util/DerReader" "end" "I" (.int fq)) (A_ab : own_A Z h0 ab .byte N fb) (g_o0 : n0 ≤ o0) (ne_ab_o0 : ab ≠ o0) (hlt : fp < fq) (hin : ¬ fp < 0 ∧ fp.toNatClampNeg < N) (htg : tg = ((fb (fp).toNatClampNeg) &&& (255 : Int32))) :
    own_C l Z (⟨"com/example/pathwarden/pathwarden/util/DerReader", "octet", "(Ljava/lang/String;)I"⟩ : MethodName) prog_57_method_8_code 2 (some .int) ({ frames := 1, cells := 0, slots := 0, locals := 12 } : Room) #[(.ref o0), (.ref ar)] h0 (Q7 Z o0 ar fp fq ab N fb tg h0 n0) := by
  refine own_met (plainFor_of_name pn_0) ?_
  intro p e s m below meth c s₁ hx hby hml hret hlk hown hnm hZ X0 e0
  refine own_cast (ef_7 m o0 ar) ?_
  have N0 := Fr.nil n0
  have ne_o0_ab := Ne.symm ne_ab_o0
  have K := Keep.refl h0 [o0]
  show own_Out p e below _ s₁ (mkF m 0 #[.val (.ref o0), .val (.ref ar)] []) _ _ _
  refine own_to (fun t k => XS.aloadN X0.here hx rfl (hb hby d7_0) rfl rfl k) ?_
  show own_Out p e below _ s₁ (mkF m 1 #[.val (.ref o0), .val (.ref ar)] [(.ref o0)]) _ _ _
  refine own_callV X0 hx hZ hown (a := o0) (argsL := []) (rest := []) (hw _ (List.mem_of_getElem? (i := 44) rfl)) (hw _ (List.mem_of_getElem? (i := 24) rfl)) (hw _ (List.mem_of_getElem? (i := 26) rfl)) (hw _ (List.mem_of_getElem? (i := 25) rfl)) (hw _ (List.mem_of_getElem? (i := 7) rfl)) (hw _ (List.mem_of_getElem? (i := 27) rfl)) (by decide) (rm5 l Z a0 hw o0 fp fq h0 n0 Z0 F_o0_position F_o0_end) (by decide) (by decide) e0 E_o0 rfl (by rw [hml]; rfl) (lenOf pd_1 rfl) rfl (W := 0) (by show 2 * 0 + _ ≤ _; exact Nat.le_of_eq rfl) (hb hby d7_1) (by decide) (by decide) fun v1 T1 hh1 L1 X1 e1 hQ1 => ?_
  obtain ⟨rfl, NL1, he1⟩ := hQ1
  replace e1 := e1.trans he1
  have N1 := Fr.app N0 NL1
  show own_Out p e below _ T1 (mkF m 4 #[.val (.ref o0), .val (.ref ar)] [(.int (R5 o0 fp fq))]) _ _ _
  have hc4 : ¬ ((R5 o0 fp fq) = (0 : Int32)) := by rw [own_hn1 _ _ _ hlt]; decide
  refine own_to (fun t k => XS.ifYes X1.here hx rfl (pc0 := 4) (pc' := 21) rfl (hb hby d7_4) rfl ((if0 _ _).trans (feq hc4).2) (by decide) (by decide) k) ?_
  show own_Out p e below _ T1 (mkF m 21 #[.val (.ref o0), .val (.ref ar)] []) _ _ _
  refine own_to (fun t k => XS.aloadN X1.here hx rfl (hb hby d7_21) rfl rfl k) ?_
  show own_Out p e below _ T1 (mkF m 22 #[.val (.ref o0), .val (.ref ar)] [(.ref o0)]) _ _ _
  refine own_getF X1 hx hZ hown (hw _ (List.mem_of_getElem? (i := 17) rfl)) e1 F_o0_bytes rfl rfl (hb hby d7_22) fun T2 X2 e2 => ?_
  show own_Out p e below _ T2 (mkF m 25 #[.val (.ref o0), .val (.ref ar)] [(.ref ab)]) _ _ _
  refine own_to (fun t k => XS.aloadN X2.here hx rfl (hb hby d7_25) rfl rfl k) ?_
  show own_Out p e below _ T2 (mkF m 26 #[.val (.ref o0), .val (.ref ar)] [(.ref o0), (.ref ab)]) _ _ _
  refine own_to (fun t k => XS.dup X2.here hx rfl (hb hby d7_26) rfl rfl k) ?_
  show own_Out p e below _ T2 (mkF m 27 #[.val (.ref o0), .val (.ref ar)] [(.ref o0), (.ref o0), (.ref ab)]) _ _ _
  refine own_getF X2 hx hZ hown (hw _ (List.mem_of_getElem? (i := 19) rfl)) e2 F_o0_position rfl rfl (hb hby d7_27) fun T3 X3 e3 => ?_
  show own_Out p e below _ T3 (mkF m 30 #[.val (.ref o0), .val (.ref ar)] [(.int fp), (.ref o0), (.ref ab)]) _ _ _
  refine own_to (fun t k => XS.dupX1 X3.here hx rfl (hb hby d7_30) rfl rfl rfl k) ?_
  show own_Out p e below _ T3 (mkF m 31 #[.val (.ref o0), .val (.ref ar)] [(.int fp), (.ref o0), (.int fp), (.ref ab)]) _ _ _
  refine own_to (fun t k => XS.iconst X3.here hx rfl (hb hby d7_31) k) ?_
  show own_Out p e below _ T3 (mkF m 32 #[.val (.ref o0), .val (.ref ar)] [(.int (1 : Int32)), (.int fp), (.ref o0), (.int fp), (.ref ab)]) _ _ _
  refine own_to (fun t k => XS.iadd X3.here hx rfl (hb hby d7_32) rfl k) ?_
  show own_Out p e below _ T3 (mkF m 33 #[.val (.ref o0), .val (.ref ar)] [(.int (fp + (1 : Int32))), (.ref o0), (.int fp), (.ref ab)]) _ _ _
  refine own_putF X3 hx hZ hown (hw _ (List.mem_of_getElem? (i := 19) rfl)) e3 F_o0_position E_o0 (Or.inl (hw _ (List.mem_of_getElem? (i := 20) rfl))) (hw _ (List.mem_of_getElem? (i := 6) rfl)) (ty := .int) (by decide) rfl rfl rfl rfl (hb hby d7_33) fun T4 hh4 X4 e4 W4 => ?_
  have E_o0 := E_o0.wr W4
  have F_o0_bytes := F_o0_bytes.other W4 (Or.inr (slot_ne (Or.inr (hw _ (List.mem_of_getElem? (i := 18) rfl))) (Or.inl (hw _ (List.mem_of_getElem? (i := 20) rfl))) (by decide) (t := (.array .byte)) (t' := .int) (by decide) (by decide)))
  have F_o0_position := F_o0_position.same W4
  have F_o0_end := F_o0_end.other W4 (Or.inr (slot_ne (Or.inr (hw _ (List.mem_of_getElem? (i := 22) rfl))) (Or.inl (hw _ (List.mem_of_getElem? (i := 20) rfl))) (by decide) (t := .int) (t' := .int) (by decide) (by decide)))
  have A_ab := A_ab.other W4 ne_ab_o0
  have K := K.wr W4 (Or.inl (by simp))
  have Z0 := Nat.le_trans Z0 (Nat.le_of_eq W4.size.symm)
  have N4 := own_fs (sl := Jvm.RoadKit.slotOf Z "com/example/pathwarden/pathwarden/util/DerReader" "position" "I") N1 g_o0
  show own_Out p e below _ T4 (mkF m 36 #[.val (.ref o0), .val (.ref ar)] [(.int fp), (.ref ab)]) _ _ _
  refine own_ldB X4 hx hZ e4 A_ab hin.1 hin.2 rfl rfl (hb hby d7_36) fun w5 hw5 => ?_
  show own_Out p e below _ T4 (mkF m 37 #[.val (.ref o0), .val (.ref ar)] [(.int w5)]) _ _ _
  refine own_to (fun t k => XS.sipush X4.here hx rfl (hb hby d7_37) k) ?_
  show own_Out p e below _ T4 (mkF m 40 #[.val (.ref o0), .val (.ref ar)] [(.int (255 : Int32)), (.int w5)]) _ _ _
  refine own_to (fun t k => XS.iand X4.here hx rfl (hb hby d7_40) rfl k) ?_
  show own_Out p e below _ T4 (mkF m 41 #[.val (.ref o0), .val (.ref ar)] [(.int (w5 &&& (255 : Int32)))]) _ _ _
  refine own_retI X4 hx hlk hret (hb hby d7_41) (by decide) (by decide) ?_
  rw [e4]
  exact ⟨(by rw [htg, hw5]), N4, K, F_o0_bytes, F_o0_position, F_o0_end⟩
theorem d8_0 : decode prog_58_method_1_code 0 = .ok (.aload_n 0, 1) := by decide +kernel
theorem d8_1 : decode prog_58_method_1_code 1 = .ok (.invokespecial 3, 3) := by decide +kernel
theorem d8_4 : decode prog_58_method_1_code 4 = .ok (.aload_n 0, 1) := by decide +kernel
theorem d8_5 : decode prog_58_method_1_code 5 = .ok (.aload_n 1, 1) := by decide +kernel
theorem d8_6 : decode prog_58_method_1_code 6 = .ok (.putfield 9, 3) := by decide +kernel
theorem d8_9 : decode prog_58_method_1_code 9 = .ok (.aload_n 0, 1) := by decide +kernel
theorem d8_10 : decode prog_58_method_1_code 10 = .ok (.iload_n 2, 1) := by decide +kernel
theorem d8_11 : decode prog_58_method_1_code 11 = .ok (.putfield 15, 3) := by decide +kernel
theorem d8_14 : decode prog_58_method_1_code 14 = .ok (.aload_n 0, 1) := by decide +kernel
theorem d8_15 : decode prog_58_method_1_code 15 = .ok (.iload_n 3, 1) := by decide +kernel
theorem d8_16 : decode prog_58_method_1_code 16 = .ok (.putfield 19, 3) := by decide +kernel
theorem d8_19 : decode prog_58_method_1_code 19 = .ok (.aload_n 0, 1) := by decide +kernel
theorem d8_20 : decode prog_58_method_1_code 20 = .ok (.iload 4, 2) := by decide +kernel
theorem d8_22 : decode prog_58_method_1_code 22 = .ok (.putfield 22, 3) := by decide +kernel
theorem d8_25 : decode prog_58_method_1_code 25 = .ok (.aload_n 0, 1) := by decide +kernel
theorem d8_26 : decode prog_58_method_1_code 26 = .ok (.iload 5, 2) := by decide +kernel
theorem d8_28 : decode prog_58_method_1_code 28 = .ok (.putfield 25, 3) := by decide +kernel
theorem d8_31 : decode prog_58_method_1_code 31 = .ok (.return_, 1) := by decide +kernel
theorem pn_1 : plainName "com/example/pathwarden/pathwarden/util/DerReader$Element" = true := by first | (simp [plainName, overriddenIn]; done) | decide +kernel
theorem ef_8 (m : MethodId) (o0 : Addr) (ab : Addr) (u2 : Int32) (u3 : Int32) (u4 : Int32) (u5 : Int32) : entryFrame m #[(.ref o0), (.ref ab), (.int u2), (.int u3), (.int u4), (.int u5)] 6 = mkF m 0 #[.val (.ref o0), .val (.ref ab), .val (.int u2), .val (.int u3), .val (.int u4), .val (.int u5)] [] := by first | (simp [entryFrame, mkF, argsToLocals, Value.category]; done) | rfl
def Q8 (Z : State) (o0 : Addr) (ab : Addr) (u2 : Int32) (u3 : Int32) (u4 : Int32) (u5 : Int32) (h0 : Heap) (n0 : Nat) (v : Option Value) (h : Heap) (L : List Loc) : Prop := v = none ∧ Fr n0 L ∧ Keep h0 h [o0] ∧ Fld Z h o0 "com/example/pathwarden/pathwarden/util/DerReader$Element" "bytes" "[B" (.ref ab) ∧ Fld Z h o0 "com/example/pathwarden/pathwarden/util/DerReader$Element" "tag" "I" (.int u2) ∧ Fld Z h o0 "com/example/pathwarden/pathwarden/util/DerReader$Element" "start" "I" (.int u3) ∧ Fld Z h o0 "com/example/pathwarden/pathwarden/util/DerReader$Element" "contents" "I" (.int u4) ∧ Fld Z h o0 "com/example/pathwarden/pathwarden/util/DerReader$Element" "end" "I" (.int u5)
set_option maxRecDepth 65536 in
set_option maxHeartbeats 40000000 in
theorem rm8 (l : Launch) (Z : State) (a0 : Array Value) (hw : ∀ d ∈ tables_1, d.before a0 Z = true) (o0 : Addr) (ab : Addr) (u2 : Int32) (u3 : Int32) (u4 : Int32) (u5 : Int32) (h0 : Heap) (n0 : Nat) (Z0 : n0 ≤ h0.size) (E_o0 : Exa Z h0 o0 "com/example/pathwarden/pathwarden/util/DerReader$Element") (F_o0_bytes : Fld Z h0 o0 "com/example/pathwarden/pathwarden/util/DerReader$Element" "bytes" "[B" .null) (F_o0_tag : Fld Z h0 o0 "com/example/pathwarden/pathwarden/util/DerReader$Element" "tag" "I" (.int (0 : Int32))) (F_o0_start : Fld Z h0 o0 "com/example/pathwarden/pathwarden/util/DerReader$Element" "start" "I" (.int (0 : Int32))) (F_o0_contents : Fld Z h0 o0 "com/example/pathwarden/pathwarden/util/DerReader$Element" "contents" "I" (.int (0 : Int32))) (F_o0_end : Fld Z h0 o0 "com/example/pathwarden/pathwarden/util/DerReader$Element" "end" "I" (.int (0 : Int32))) (g_o0 : n0 ≤ o0) :
    own_C l Z (⟨"com/example/pathwarden/pathwarden/util/DerReader$Element", "<init>", "([BIIII)V"⟩ : MethodName) prog_58_method_1_code 6 none ({ frames := 1, cells := 0, slots := 0, locals := 12 } : Room) #[(.ref o0), (.ref ab), (.int u2), (.int u3), (.int u4), (.int u5)] h0 (Q8 Z o0 ab u2 u3 u4 u5 h0 n0) := by
  refine own_met (plainFor_of_name pn_1) ?_
  intro p e s m below meth c s₁ hx hby hml hret hlk hown hnm hZ X0 e0
  refine own_cast (ef_8 m o0 ab u2 u3 u4 u5) ?_
  have N0 := Fr.nil n0
  have K := Keep.refl h0 [o0]
  show own_Out p e below _ s₁ (mkF m 0 #[.val (.ref o0), .val (.ref ab), .val (.int u2), .val (.int u3), .val (.int u4), .val (.int u5)] []) _ _ _
  refine own_to (fun t k => XS.aloadN X0.here hx rfl (hb hby d8_0) rfl rfl k) ?_
  show own_Out p e below _ s₁ (mkF m 1 #[.val (.ref o0), .val (.ref ab), .val (.int u2), .val (.int u3), .val (.int u4), .val (.int u5)] [(.ref o0)]) _ _ _
  obtain ⟨T1, X1, e1, st1⟩ := initO X0 hx hZ hown (hw _ (List.mem_of_getElem? (i := 53) rfl)) (hw _ (List.mem_of_getElem? (i := 15) rfl)) (hw _ (List.mem_of_getElem? (i := 16) rfl)) e0 (g := (mkF m 1 #[.val (.ref o0), .val (.ref ab), .val (.int u2), .val (.int u3), .val (.int u4), .val (.int u5)] [(.ref o0)])) rfl (by rw [hml]; rfl) rfl (hb hby d8_1) (by decide) (W := 0) (by show 2 * 0 + _ ≤ _; exact Nat.le_of_eq rfl) (by decide)
  refine own_to st1 ?_
  show own_Out p e below _ T1 (mkF m 4 #[.val (.ref o0), .val (.ref ab), .val (.int u2), .val (.int u3), .val (.int u4), .val (.int u5)] []) _ _ _
  refine own_to (fun t k => XS.aloadN X1.here hx rfl (hb hby d8_4) rfl rfl k) ?_
  show own_Out p e below _ T1 (mkF m 5 #[.val (.ref o0), .val (.ref ab), .val (.int u2), .val (.int u3), .val (.int u4), .val (.int u5)] [(.ref o0)]) _ _ _
  refine own_to (fun t k => XS.aloadN X1.here hx rfl (hb hby d8_5) rfl rfl k) ?_
  show own_Out p e below _ T1 (mkF m 6 #[.val (.ref o0), .val (.ref ab), .val (.int u2), .val (.int u3), .val (.int u4), .val (.int u5)] [(.ref ab), (.ref o0)]) _ _ _
  refine own_putF X1 hx hZ hown (hw _ (List.mem_of_getElem? (i := 54) rfl)) e1 F_o0_bytes E_o0 (Or.inr ⟨(hw _ (List.mem_of_getElem? (i := 55) rfl)), rfl, hnm⟩) (hw _ (List.mem_of_getElem? (i := 48) rfl)) (ty := (.array .byte)) (by decide) rfl rfl rfl rfl (hb hby d8_6) fun T2 hh2 X2 e2 W2 => ?_
  have E_o0 := E_o0.wr W2
  have F_o0_bytes := F_o0_bytes.same W2
  have F_o0_tag := F_o0_tag.other W2 (Or.inr (slot_ne (Or.inr (hw _ (List.mem_of_getElem? (i := 57) rfl))) (Or.inr (hw _ (List.mem_of_getElem? (i := 55) rfl))) (by decide) (t := .int) (t' := (.array .byte)) (by decide) (by decide)))
  have F_o0_start := F_o0_start.other W2 (Or.inr (slot_ne (Or.inr (hw _ (List.mem_of_getElem? (i := 59) rfl))) (Or.inr (hw _ (List.mem_of_getElem? (i := 55) rfl))) (by decide) (t := .int) (t' := (.array .byte)) (by decide) (by decide)))
  have F_o0_contents := F_o0_contents.other W2 (Or.inr (slot_ne (Or.inr (hw _ (List.mem_of_getElem? (i := 61) rfl))) (Or.inr (hw _ (List.mem_of_getElem? (i := 55) rfl))) (by decide) (t := .int) (t' := (.array .byte)) (by decide) (by decide)))
  have F_o0_end := F_o0_end.other W2 (Or.inr (slot_ne (Or.inr (hw _ (List.mem_of_getElem? (i := 63) rfl))) (Or.inr (hw _ (List.mem_of_getElem? (i := 55) rfl))) (by decide) (t := .int) (t' := (.array .byte)) (by decide) (by decide)))
  have K := K.wr W2 (Or.inl (by simp))
  have Z0 := Nat.le_trans Z0 (Nat.le_of_eq W2.size.symm)
  have N2 := own_fs (sl := Jvm.RoadKit.slotOf Z "com/example/pathwarden/pathwarden/util/DerReader$Element" "bytes" "[B") N0 g_o0
  show own_Out p e below _ T2 (mkF m 9 #[.val (.ref o0), .val (.ref ab), .val (.int u2), .val (.int u3), .val (.int u4), .val (.int u5)] []) _ _ _
  refine own_to (fun t k => XS.aloadN X2.here hx rfl (hb hby d8_9) rfl rfl k) ?_
  show own_Out p e below _ T2 (mkF m 10 #[.val (.ref o0), .val (.ref ab), .val (.int u2), .val (.int u3), .val (.int u4), .val (.int u5)] [(.ref o0)]) _ _ _
  refine own_to (fun t k => XS.iloadN X2.here hx rfl (hb hby d8_10) rfl k) ?_
  show own_Out p e below _ T2 (mkF m 11 #[.val (.ref o0), .val (.ref ab), .val (.int u2), .val (.int u3), .val (.int u4), .val (.int u5)] [(.int u2), (.ref o0)]) _ _ _
  refine own_putF X2 hx hZ hown (hw _ (List.mem_of_getElem? (i := 56) rfl)) e2 F_o0_tag E_o0 (Or.inr ⟨(hw _ (List.mem_of_getElem? (i := 57) rfl)), rfl, hnm⟩) (hw _ (List.mem_of_getElem? (i := 48) rfl)) (ty := .int) (by decide) rfl rfl rfl rfl (hb hby d8_11) fun T3 hh3 X3 e3 W3 => ?_
  have E_o0 := E_o0.wr W3
  have F_o0_bytes := F_o0_bytes.other W3 (Or.inr (slot_ne (Or.inr (hw _ (List.mem_of_getElem? (i := 55) rfl))) (Or.inr (hw _ (List.mem_of_getElem? (i := 57) rfl))) (by decide) (t := (.array .byte)) (t' := .int) (by decide) (by decide)))
  have F_o0_tag := F_o0_tag.same W3
  have F_o0_start := F_o0_start.other W3 (Or.inr (slot_ne (Or.inr (hw _ (List.mem_of_getElem? (i := 59) rfl))) (Or.inr (hw _ (List.mem_of_getElem? (i := 57) rfl))) (by decide) (t := .int) (t' := .int) (by decide) (by decide)))
  have F_o0_contents := F_o0_contents.other W3 (Or.inr (slot_ne (Or.inr (hw _ (List.mem_of_getElem? (i := 61) rfl))) (Or.inr (hw _ (List.mem_of_getElem? (i := 57) rfl))) (by decide) (t := .int) (t' := .int) (by decide) (by decide)))
  have F_o0_end := F_o0_end.other W3 (Or.inr (slot_ne (Or.inr (hw _ (List.mem_of_getElem? (i := 63) rfl))) (Or.inr (hw _ (List.mem_of_getElem? (i := 57) rfl))) (by decide) (t := .int) (t' := .int) (by decide) (by decide)))
  have K := K.wr W3 (Or.inl (by simp))
  have Z0 := Nat.le_trans Z0 (Nat.le_of_eq W3.size.symm)
  have N3 := own_fs (sl := Jvm.RoadKit.slotOf Z "com/example/pathwarden/pathwarden/util/DerReader$Element" "tag" "I") N2 g_o0
  show own_Out p e below _ T3 (mkF m 14 #[.val (.ref o0), .val (.ref ab), .val (.int u2), .val (.int u3), .val (.int u4), .val (.int u5)] []) _ _ _
  refine own_to (fun t k => XS.aloadN X3.here hx rfl (hb hby d8_14) rfl rfl k) ?_
  show own_Out p e below _ T3 (mkF m 15 #[.val (.ref o0), .val (.ref ab), .val (.int u2), .val (.int u3), .val (.int u4), .val (.int u5)] [(.ref o0)]) _ _ _
  refine own_to (fun t k => XS.iloadN X3.here hx rfl (hb hby d8_15) rfl k) ?_
  show own_Out p e below _ T3 (mkF m 16 #[.val (.ref o0), .val (.ref ab), .val (.int u2), .val (.int u3), .val (.int u4), .val (.int u5)] [(.int u3), (.ref o0)]) _ _ _
  refine own_putF X3 hx hZ hown (hw _ (List.mem_of_getElem? (i := 58) rfl)) e3 F_o0_start E_o0 (Or.inr ⟨(hw _ (List.mem_of_getElem? (i := 59) rfl)), rfl, hnm⟩) (hw _ (List.mem_of_getElem? (i := 48) rfl)) (ty := .int) (by decide) rfl rfl rfl rfl (hb hby d8_16) fun T4 hh4 X4 e4 W4 => ?_
  have E_o0 := E_o0.wr W4
  have F_o0_bytes := F_o0_bytes.other W4 (Or.inr (slot_ne (Or.inr (hw _ (List.mem_of_getElem? (i := 55) rfl))) (Or.inr (hw _ (List.mem_of_getElem? (i := 59) rfl))) (by decide) (t := (.array .byte)) (t' := .int) (by decide) (by decide)))
  have F_o0_tag := F_o0_tag.other W4 (Or.inr (slot_ne (Or.inr (hw _ (List.mem_of_getElem? (i := 57) rfl))) (Or.inr (hw _ (List.mem_of_getElem? (i := 59) rfl))) (by decide) (t := .int) (t' := .int) (by decide) (by decide)))
  have F_o0_start := F_o0_start.same W4
  have F_o0_contents := F_o0_contents.other W4 (Or.inr (slot_ne (Or.inr (hw _ (List.mem_of_getElem? (i := 61) rfl))) (Or.inr (hw _ (List.mem_of_getElem? (i := 59) rfl))) (by decide) (t := .int) (t' := .int) (by decide) (by decide)))
  have F_o0_end := F_o0_end.other W4 (Or.inr (slot_ne (Or.inr (hw _ (List.mem_of_getElem? (i := 63) rfl))) (Or.inr (hw _ (List.mem_of_getElem? (i := 59) rfl))) (by decide) (t := .int) (t' := .int) (by decide) (by decide)))
  have K := K.wr W4 (Or.inl (by simp))
  have Z0 := Nat.le_trans Z0 (Nat.le_of_eq W4.size.symm)
  have N4 := own_fs (sl := Jvm.RoadKit.slotOf Z "com/example/pathwarden/pathwarden/util/DerReader$Element" "start" "I") N3 g_o0
  show own_Out p e below _ T4 (mkF m 19 #[.val (.ref o0), .val (.ref ab), .val (.int u2), .val (.int u3), .val (.int u4), .val (.int u5)] []) _ _ _
  refine own_to (fun t k => XS.aloadN X4.here hx rfl (hb hby d8_19) rfl rfl k) ?_
  show own_Out p e below _ T4 (mkF m 20 #[.val (.ref o0), .val (.ref ab), .val (.int u2), .val (.int u3), .val (.int u4), .val (.int u5)] [(.ref o0)]) _ _ _
  refine own_to (fun t k => XS.iload X4.here hx rfl (hb hby d8_20) rfl k) ?_
  show own_Out p e below _ T4 (mkF m 22 #[.val (.ref o0), .val (.ref ab), .val (.int u2), .val (.int u3), .val (.int u4), .val (.int u5)] [(.int u4), (.ref o0)]) _ _ _
  refine own_putF X4 hx hZ hown (hw _ (List.mem_of_getElem? (i := 60) rfl)) e4 F_o0_contents E_o0 (Or.inr ⟨(hw _ (List.mem_of_getElem? (i := 61) rfl)), rfl, hnm⟩) (hw _ (List.mem_of_getElem? (i := 48) rfl)) (ty := .int) (by decide) rfl rfl rfl rfl (hb hby d8_22) fun T5 hh5 X5 e5 W5 => ?_
  have E_o0 := E_o0.wr W5
  have F_o0_bytes := F_o0_bytes.other W5 (Or.inr (slot_ne (Or.inr (hw _ (List.mem_of_getElem? (i := 55) rfl))) (Or.inr (hw _ (List.mem_of_getElem? (i := 61) rfl))) (by decide) (t := (.array .byte)) (t' := .int) (by decide) (by decide)))
  have F_o0_tag := F_o0_tag.other W5 (Or.inr (slot_ne (Or.inr (hw _ (List.mem_of_getElem? (i := 57) rfl))) (Or.inr (hw _ (List.mem_of_getElem? (i := 61) rfl))) (by decide) (t := .int) (t' := .int) (by decide) (by decide)))
  have F_o0_start := F_o0_start.other W5 (Or.inr (slot_ne (Or.inr (hw _ (List.mem_of_getElem? (i := 59) rfl))) (Or.inr (hw _ (List.mem_of_getElem? (i := 61) rfl))) (by decide) (t := .int) (t' := .int) (by decide) (by decide)))
  have F_o0_contents := F_o0_contents.same W5
  have F_o0_end := F_o0_end.other W5 (Or.inr (slot_ne (Or.inr (hw _ (List.mem_of_getElem? (i := 63) rfl))) (Or.inr (hw _ (List.mem_of_getElem? (i := 61) rfl))) (by decide) (t := .int) (t' := .int) (by decide) (by decide)))
  have K := K.wr W5 (Or.inl (by simp))
  have Z0 := Nat.le_trans Z0 (Nat.le_of_eq W5.size.symm)
  have N5 := own_fs (sl := Jvm.RoadKit.slotOf Z "com/example/pathwarden/pathwarden/util/DerReader$Element" "contents" "I") N4 g_o0
  show own_Out p e below _ T5 (mkF m 25 #[.val (.ref o0), .val (.ref ab), .val (.int u2), .val (.int u3), .val (.int u4), .val (.int u5)] []) _ _ _
  refine own_to (fun t k => XS.aloadN X5.here hx rfl (hb hby d8_25) rfl rfl k) ?_
  show own_Out p e below _ T5 (mkF m 26 #[.val (.ref o0), .val (.ref ab), .val (.int u2), .val (.int u3), .val (.int u4), .val (.int u5)] [(.ref o0)]) _ _ _
  refine own_to (fun t k => XS.iload X5.here hx rfl (hb hby d8_26) rfl k) ?_
  show own_Out p e below _ T5 (mkF m 28 #[.val (.ref o0), .val (.ref ab), .val (.int u2), .val (.int u3), .val (.int u4), .val (.int u5)] [(.int u5), (.ref o0)]) _ _ _
  refine own_putF X5 hx hZ hown (hw _ (List.mem_of_getElem? (i := 62) rfl)) e5 F_o0_end E_o0 (Or.inr ⟨(hw _ (List.mem_of_getElem? (i := 63) rfl)), rfl, hnm⟩) (hw _ (List.mem_of_getElem? (i := 48) rfl)) (ty := .int) (by decide) rfl rfl rfl rfl (hb hby d8_28) fun T6 hh6 X6 e6 W6 => ?_
  have E_o0 := E_o0.wr W6
  have F_o0_bytes := F_o0_bytes.other W6 (Or.inr (slot_ne (Or.inr (hw _ (List.mem_of_getElem? (i := 55) rfl))) (Or.inr (hw _ (List.mem_of_getElem? (i := 63) rfl))) (by decide) (t := (.array .byte)) (t' := .int) (by decide) (by decide)))
  have F_o0_tag := F_o0_tag.other W6 (Or.inr (slot_ne (Or.inr (hw _ (List.mem_of_getElem? (i := 57) rfl))) (Or.inr (hw _ (List.mem_of_getElem? (i := 63) rfl))) (by decide) (t := .int) (t' := .int) (by decide) (by decide)))
  have F_o0_start := F_o0_start.other W6 (Or.inr (slot_ne (Or.inr (hw _ (List.mem_of_getElem? (i := 59) rfl))) (Or.inr (hw _ (List.mem_of_getElem? (i := 63) rfl))) (by decide) (t := .int) (t' := .int) (by decide) (by decide)))
  have F_o0_contents := F_o0_contents.other W6 (Or.inr (slot_ne (Or.inr (hw _ (List.mem_of_getElem? (i := 61) rfl))) (Or.inr (hw _ (List.mem_of_getElem? (i := 63) rfl))) (by decide) (t := .int) (t' := .int) (by decide) (by decide)))
  have F_o0_end := F_o0_end.same W6
  have K := K.wr W6 (Or.inl (by simp))
  have Z0 := Nat.le_trans Z0 (Nat.le_of_eq W6.size.symm)
  have N6 := own_fs (sl := Jvm.RoadKit.slotOf Z "com/example/pathwarden/pathwarden/util/DerReader$Element" "end" "I") N5 g_o0
  show own_Out p e below _ T6 (mkF m 31 #[.val (.ref o0), .val (.ref ab), .val (.int u2), .val (.int u3), .val (.int u4), .val (.int u5)] []) _ _ _
  refine own_ret0 X6 hx hlk hret (hb hby d8_31) (by decide) (by decide) ?_
  rw [e6]
  exact ⟨rfl, N6, K, F_o0_bytes, F_o0_tag, F_o0_start, F_o0_contents, F_o0_end⟩
theorem d6_0 : decode prog_57_method_5_code 0 = .ok (.aload_n 0, 1) := by decide +kernel
theorem d6_1 : decode prog_57_method_5_code 1 = .ok (.getfield 16, 3) := by decide +kernel
theorem d6_4 : decode prog_57_method_5_code 4 = .ok (.istore_n 1, 1) := by decide +kernel
theorem d6_5 : decode prog_57_method_5_code 5 = .ok (.aload_n 0, 1) := by decide +kernel
theorem d6_6 : decode prog_57_method_5_code 6 = .ok (.ldc 27, 2) := by decide +kernel
theorem d6_8 : decode prog_57_method_5_code 8 = .ok (.invokevirtual 29, 3) := by decide +kernel
theorem d6_11 : decode prog_57_method_5_code 11 = .ok (.istore_n 2, 1) := by decide +kernel
theorem d6_12 : decode prog_57_method_5_code 12 = .ok (.iload_n 2, 1) := by decide +kernel
theorem d6_13 : decode prog_57_method_5_code 13 = .ok (.bipush 31, 2) := by decide +kernel
theorem d6_15 : decode prog_57_method_5_code 15 = .ok (.iand, 1) := by decide +kernel
theorem d6_16 : decode prog_57_method_5_code 16 = .ok (.bipush 31, 2) := by decide +kernel
theorem d6_18 : decode prog_57_method_5_code 18 = .ok (.if_icmp .ne 13, 3) := by decide +kernel
theorem d6_21 : decode prog_57_method_5_code 21 = .ok (.new 33, 3) := by decide +kernel
theorem d6_24 : decode prog_57_method_5_code 24 = .ok (.dup, 1) := by decide +kernel
theorem d6_25 : decode prog_57_method_5_code 25 = .ok (.ldc 35, 2) := by decide +kernel
theorem d6_27 : decode prog_57_method_5_code 27 = .ok (.invokespecial 37, 3) := by decide +kernel
theorem d6_30 : decode prog_57_method_5_code 30 = .ok (.athrow, 1) := by decide +kernel
theorem d6_31 : decode prog_57_method_5_code 31 = .ok (.aload_n 0, 1) := by decide +kernel
theorem d6_32 : decode prog_57_method_5_code 32 = .ok (.ldc 40, 2) := by decide +kernel
theorem d6_34 : decode prog_57_method_5_code 34 = .ok (.invokevirtual 29, 3) := by decide +kernel
theorem d6_37 : decode prog_57_method_5_code 37 = .ok (.i2l, 1) := by decide +kernel
theorem d6_38 : decode prog_57_method_5_code 38 = .ok (.lstore_n 3, 1) := by decide +kernel
theorem d6_39 : decode prog_57_method_5_code 39 = .ok (.lload_n 3, 1) := by decide +kernel
theorem d6_40 : decode prog_57_method_5_code 40 = .ok (.ldc2_w 42, 3) := by decide +kernel
theorem d6_43 : decode prog_57_method_5_code 43 = .ok (.land, 1) := by decide +kernel
theorem d6_44 : decode prog_57_method_5_code 44 = .ok (.lconst 0, 1) := by decide +kernel
theorem d6_45 : decode prog_57_method_5_code 45 = .ok (.lcmp, 1) := by decide +kernel
theorem d6_46 : decode prog_57_method_5_code 46 = .ok (.ifCond .eq 73, 3) := by decide +kernel
theorem d6_49 : decode prog_57_method_5_code 49 = .ok (.lload_n 3, 1) := by decide +kernel
theorem d6_50 : decode prog_57_method_5_code 50 = .ok (.l2i, 1) := by decide +kernel
theorem d6_51 : decode prog_57_method_5_code 51 = .ok (.sipush (-129), 3) := by decide +kernel
theorem d6_54 : decode prog_57_method_5_code 54 = .ok (.iand, 1) := by decide +kernel
theorem d6_55 : decode prog_57_method_5_code 55 = .ok (.istore 5, 2) := by decide +kernel
theorem d6_57 : decode prog_57_method_5_code 57 = .ok (.iload 5, 2) := by decide +kernel
theorem d6_59 : decode prog_57_method_5_code 59 = .ok (.ifCond .ne 13, 3) := by decide +kernel
theorem d6_62 : decode prog_57_method_5_code 62 = .ok (.new 33, 3) := by decide +kernel
theorem d6_65 : decode prog_57_method_5_code 65 = .ok (.dup, 1) := by decide +kernel
theorem d6_66 : decode prog_57_method_5_code 66 = .ok (.ldc 44, 2) := by decide +kernel
theorem d6_68 : decode prog_57_method_5_code 68 = .ok (.invokespecial 37, 3) := by decide +kernel
theorem d6_71 : decode prog_57_method_5_code 71 = .ok (.athrow, 1) := by decide +kernel
theorem d6_72 : decode prog_57_method_5_code 72 = .ok (.iload 5, 2) := by decide +kernel
theorem d6_74 : decode prog_57_method_5_code 74 = .ok (.iconst 4, 1) := by decide +kernel
theorem d6_75 : decode prog_57_method_5_code 75 = .ok (.if_icmp .le 13, 3) := by decide +kernel
theorem d6_78 : decode prog_57_method_5_code 78 = .ok (.new 33, 3) := by decide +kernel
theorem d6_81 : decode prog_57_method_5_code 81 = .ok (.dup, 1) := by decide +kernel
theorem d6_82 : decode prog_57_method_5_code 82 = .ok (.ldc 48, 2) := by decide +kernel
theorem d6_84 : decode prog_57_method_5_code 84 = .ok (.invokespecial 37, 3) := by decide +kernel
theorem d6_87 : decode prog_57_method_5_code 87 = .ok (.athrow, 1) := by decide +kernel
theorem d6_88 : decode prog_57_method_5_code 88 = .ok (.lconst 0, 1) := by decide +kernel
theorem d6_89 : decode prog_57_method_5_code 89 = .ok (.lstore_n 3, 1) := by decide +kernel
theorem d6_90 : decode prog_57_method_5_code 90 = .ok (.iconst 0, 1) := by decide +kernel
theorem d6_91 : decode prog_57_method_5_code 91 = .ok (.istore 6, 2) := by decide +kernel
theorem d6_93 : decode prog_57_method_5_code 93 = .ok (.iload 6, 2) := by decide +kernel
theorem d6_95 : decode prog_57_method_5_code 95 = .ok (.iload 5, 2) := by decide +kernel
theorem d6_97 : decode prog_57_method_5_code 97 = .ok (.if_icmp .ge 22, 3) := by decide +kernel
theorem d6_100 : decode prog_57_method_5_code 100 = .ok (.lload_n 3, 1) := by decide +kernel
theorem d6_101 : decode prog_57_method_5_code 101 = .ok (.bipush 8, 2) := by decide +kernel
theorem d6_103 : decode prog_57_method_5_code 103 = .ok (.lshl, 1) := by decide +kernel
theorem d6_104 : decode prog_57_method_5_code 104 = .ok (.aload_n 0, 1) := by decide +kernel
theorem d6_105 : decode prog_57_method_5_code 105 = .ok (.ldc 52, 2) := by decide +kernel
theorem d6_107 : decode prog_57_method_5_code 107 = .ok (.invokevirtual 29, 3) := by decide +kernel
theorem d6_110 : decode prog_57_method_5_code 110 = .ok (.i2l, 1) := by decide +kernel
theorem d6_111 : decode prog_57_method_5_code 111 = .ok (.lor, 1) := by decide +kernel
theorem d6_112 : decode prog_57_method_5_code 112 = .ok (.lstore_n 3, 1) := by decide +kernel
theorem d6_113 : decode prog_57_method_5_code 113 = .ok (.iinc 6 1, 3) := by decide +kernel
theorem d6_116 : decode prog_57_method_5_code 116 = .ok (.goto (-23), 3) := by decide +kernel
theorem d6_119 : decode prog_57_method_5_code 119 = .ok (.lload_n 3, 1) := by decide +kernel
theorem d6_120 : decode prog_57_method_5_code 120 = .ok (.aload_n 0, 1) := by decide +kernel
theorem d6_121 : decode prog_57_method_5_code 121 = .ok (.getfield 20, 3) := by decide +kernel
theorem d6_124 : decode prog_57_method_5_code 124 = .ok (.aload_n 0, 1) := by decide +kernel
theorem d6_125 : decode prog_57_method_5_code 125 = .ok (.getfield 16, 3) := by decide +kernel
theorem d6_128 : decode prog_57_method_5_code 128 = .ok (.isub, 1) := by decide +kernel
theorem d6_129 : decode prog_57_method_5_code 129 = .ok (.i2l, 1) := by decide +kernel
theorem d6_130 : decode prog_57_method_5_code 130 = .ok (.lcmp, 1) := by decide +kernel
theorem d6_131 : decode prog_57_method_5_code 131 = .ok (.ifCond .le 17, 3) := by decide +kernel
theorem d6_134 : decode prog_57_method_5_code 134 = .ok (.new 33, 3) := by decide +kernel
theorem d6_137 : decode prog_57_method_5_code 137 = .ok (.dup, 1) := by decide +kernel
theorem d6_138 : decode prog_57_method_5_code 138 = .ok (.lload_n 3, 1) := by decide +kernel
theorem d6_148 : decode prog_57_method_5_code 148 = .ok (.aload_n 0, 1) := by decide +kernel
theorem d6_149 : decode prog_57_method_5_code 149 = .ok (.getfield 16, 3) := by decide +kernel
theorem d6_152 : decode prog_57_method_5_code 152 = .ok (.istore 5, 2) := by decide +kernel
theorem d6_154 : decode prog_57_method_5_code 154 = .ok (.aload_n 0, 1) := by decide +kernel
theorem d6_155 : decode prog_57_method_5_code 155 = .ok (.dup, 1) := by decide +kernel
theorem d6_156 : decode prog_57_method_5_code 156 = .ok (.getfield 16, 3) := by decide +kernel
theorem d6_159 : decode prog_57_method_5_code 159 = .ok (.lload_n 3, 1) := by decide +kernel
theorem d6_160 : decode prog_57_method_5_code 160 = .ok (.l2i, 1) := by decide +kernel
theorem d6_161 : decode prog_57_method_5_code 161 = .ok (.iadd, 1) := by decide +kernel
theorem d6_162 : decode prog_57_method_5_code 162 = .ok (.putfield 16, 3) := by decide +kernel
theorem d6_165 : decode prog_57_method_5_code 165 = .ok (.new 58, 3) := by decide +kernel
theorem d6_168 : decode prog_57_method_5_code 168 = .ok (.dup, 1) := by decide +kernel
theorem d6_169 : decode prog_57_method_5_code 169 = .ok (.aload_n 0, 1) := by decide +kernel
theorem d6_170 : decode prog_57_method_5_code 170 = .ok (.getfield 12, 3) := by decide +kernel
theorem d6_173 : decode prog_57_method_5_code 173 = .ok (.iload_n 2, 1) := by decide +kernel
theorem d6_174 : decode prog_57_method_5_code 174 = .ok (.iload_n 1, 1) := by decide +kernel
theorem d6_175 : decode prog_57_method_5_code 175 = .ok (.iload 5, 2) := by decide +kernel
theorem d6_177 : decode prog_57_method_5_code 177 = .ok (.aload_n 0, 1) := by decide +kernel
theorem d6_178 : decode prog_57_method_5_code 178 = .ok (.getfield 16, 3) := by decide +kernel
theorem d6_181 : decode prog_57_method_5_code 181 = .ok (.invokespecial 60, 3) := by decide +kernel
theorem d6_184 : decode prog_57_method_5_code 184 = .ok (.areturn, 1) := by decide +kernel
theorem ef_6 (m : MethodId) (o0 : Addr) : entryFrame m #[(.ref o0)] 7 = mkF m 0 #[.val (.ref o0), .unset, .unset, .unset, .unset, .unset, .unset] [] := by first | (simp [entryFrame, mkF, argsToLocals, Value.category]; done) | rfl
def Q6 (Z : State) (o0 : Addr) (fp : Int32) (fq : Int32) (ab : Addr) (N : Nat) (fb : Nat → Int32) (tg : Int32) (ln : Int32) (h0 : Heap) (n0 : Nat) (v : Option Value) (h : Heap) (L : List Loc) : Prop := Fr n0 L ∧ Keep h0 h [o0] ∧ ∃ el : Addr, v = some (.ref el) ∧ h0.size ≤ el ∧ Fld Z h o0 "com/example/pathwarden/pathwarden/util/DerReader" "bytes" "[B" (.ref ab) ∧ Fld Z h o0 "com/example/pathwarden/pathwarden/util/DerReader" "position" "I" (.int (((fp + (1 : Int32)) + (1 : Int32)) + ((ln.toInt64).toInt32))) ∧ Fld Z h o0 "com/example/pathwarden/pathwarden/util/DerReader" "end" "I" (.int fq) ∧ Exa Z h el "com/example/pathwarden/pathwarden/util/DerReader$Element" ∧ Fld Z h el "com/example/pathwarden/pathwarden/util/DerReader$Element" "bytes" "[B" (.ref ab) ∧ Fld Z h el "com/example/pathwarden/pathwarden/util/DerReader$Element" "tag" "I" (.int tg) ∧ Fld Z h el "com/example/pathwarden/pathwarden/util/DerReader$Element" "start" "I" (.int fp) ∧ Fld Z h el "com/example/pathwarden/pathwarden/util/DerReader$Element" "contents" "I" (.int ((fp + (1 : Int32)) + (1 : Int32))) ∧ Fld Z h el "com/example/pathwarden/pathwarden/util/DerReader$Element" "end" "I" (.int (((fp + (1 : Int32)) + (1 : Int32)) + ((ln.toInt64).toInt32)))
theorem pd_2 : parseMethodDescriptor "(Ljava/lang/String;)I" = some ⟨[(.object "java/lang/String")], some .int⟩ := by decide +kernel
theorem pd_3 : parseMethodDescriptor "([BIIII)V" = some ⟨[(.array .byte), .int, .int, .int, .int], none⟩ := by decide +kernel
set_option maxRecDepth 65536 in
set_option maxHeartbeats 40000000 in
theorem rm6 (l : Launch) (Z : State) (a0 : Array Value) (hw : ∀ d ∈ tables_1, d.before a0 Z = true) (o0 : Addr) (fp : Int32) (fq : Int32) (ab : Addr) (N : Nat) (fb : Nat → Int32) (tg : Int32) (ln : Int32) (h0 : Heap) (n0 : Nat) (Z0 : n0 ≤ h0.size) (E_o0 : Exa Z h0 o0 "com/example/pathwarden/pathwarden/util/DerReader") (F_o0_bytes : Fld Z h0 o0 "com/example/pathwarden/pathwarden/util/DerReader" "bytes" "[B" (.ref ab)) (F_o0_position : Fld Z h0 o0 "com/example/pathwarden/pathwarden/util/DerReader" "position" "I" (.int fp)) (F_o0_end : Fld Z h0 o0 "com/example/pathwarden/pathwarden/util/DerReader" "end" "I" (.int fq)) (A_ab : own_A Z h0 ab .byte N fb) (g_o0 : n0 ≤ o0) (ne_ab_o0 : ab ≠ o0) (h1 : fp < fq) (hi1 : ¬ fp < 0 ∧ fp.toNatClampNeg < N) (htg : tg = ((fb (fp).toNatClampNeg) &&& (255 : Int32))) (h2 : (fp + (1 : Int32)) < fq) (hi2 : ¬ (fp + (1 : Int32)) < 0 ∧ (fp + (1 : Int32)).toNatClampNeg < N) (hln : ln = ((fb ((fp + (1 : Int32))).toNatClampNeg) &&& (255 : Int32))) (ht : ¬ (tg &&& (31 : Int32)) = (31 : Int32)) (hl1 : ((ln.toInt64) &&& (128 : Int64)) = (0 : Int64)) (hl2 : ¬ ((fq - ((fp + (1 : Int32)) + (1 : Int32))).toInt64) < (ln.toInt64)) :
    own_CW l Z (⟨"com/example/pathwarden/pathwarden/util/DerReader", "next", "()Lcom/example/pathwarden/pathwarden/util/DerReader$Element;"⟩ : MethodName) prog_57_method_5_code 7 (some (.object "com/example/pathwarden/pathwarden/util/DerReader$Element")) ({ frames := 2, cells := 5, slots := 65, locals := 30 } : Room) #[(.ref o0)] h0 (Q6 Z o0 fp fq ab N fb tg ln h0 n0) := by
  refine own_metW (plainFor_of_name pn_0) ?_
  intro p e s m below meth c s₁ hx hby hml hret hlk hown hnm hZ X0 e0 hS hk
  refine own_cast (ef_6 m o0) ?_
  have N0 := Fr.nil n0
  have ne_o0_ab := Ne.symm ne_ab_o0
  have K := Keep.refl h0 [o0]
  show own_Out p e below _ s₁ (mkF m 0 #[.val (.ref o0), .unset, .unset, .unset, .unset, .unset, .unset] []) _ _ _
  refine own_to (fun t k => XS.aloadN X0.here hx rfl (hb hby d6_0) rfl rfl k) ?_
  show own_Out p e below _ s₁ (mkF m 1 #[.val (.ref o0), .unset, .unset, .unset, .unset, .unset, .unset] [(.ref o0)]) _ _ _
  refine own_getF X0 hx hZ hown (hw _ (List.mem_of_getElem? (i := 19) rfl)) e0 F_o0_position rfl rfl (hb hby d6_1) fun T1 X1 e1 => ?_
  show own_Out p e below _ T1 (mkF m 4 #[.val (.ref o0), .unset, .unset, .unset, .unset, .unset, .unset] [(.int fp)]) _ _ _
  refine own_to (fun t k => XS.istoreN X1.here hx rfl (hb hby d6_4) rfl (l' := #[.val (.ref o0), .val (.int fp), .unset, .unset, .unset, .unset, .unset]) rfl k) ?_
  show own_Out p e below _ T1 (mkF m 5 #[.val (.ref o0), .val (.int fp), .unset, .unset, .unset, .unset, .unset] []) _ _ _
  refine own_to (fun t k => XS.aloadN X1.here hx rfl (hb hby d6_5) rfl rfl k) ?_
  show own_Out p e below _ T1 (mkF m 6 #[.val (.ref o0), .val (.int fp), .unset, .unset, .unset, .unset, .unset] [(.ref o0)]) _ _ _
  refine own_ldcS X1 hx hZ hown hS hk (hw _ (List.mem_of_getElem? (i := 33) rfl)) (fun a ha => hw a (own_atoms a ha)) e1 rfl (hb hby d6_6) (n := 20) (by decide) (by decide) (by decide) (by decide) fun a2 T2 hh2 k2 X2 e2 E2 hZ hown hS hk => ?_
  have E_o0 := E_o0.ext E2
  have F_o0_bytes := F_o0_bytes.ext E2
  have F_o0_position := F_o0_position.ext E2
  have F_o0_end := F_o0_end.ext E2
  have A_ab := A_ab.ext E2
  have K := K.ext E2
  have Z0 := Nat.le_trans Z0 E2.1
  show own_Out p e below _ T2 (mkF m 8 #[.val (.ref o0), .val (.int fp), .unset, .unset, .unset, .unset, .unset] [(.ref a2), (.ref o0)]) _ _ _
  refine own_callP X2 hx hZ hown (a := o0) (argsL := [(.ref a2)]) (rest := []) (hw _ (List.mem_of_getElem? (i := 40) rfl)) (hw _ (List.mem_of_getElem? (i := 42) rfl)) (hw _ (List.mem_of_getElem? (i := 6) rfl)) (hw _ (List.mem_of_getElem? (i := 41) rfl)) (hw _ (List.mem_of_getElem? (i := 7) rfl)) (hw _ (List.mem_of_getElem? (i := 43) rfl)) (by decide) (rm7 l Z a0 hw o0 a2 fp fq ab N fb tg hh2 n0 Z0 E_o0 F_o0_bytes F_o0_position F_o0_end A_ab g_o0 ne_ab_o0 h1 hi1 htg) (by decide) (by decide) e2 E_o0 rfl (by rw [hml]; rfl) (lenOf pd_2 rfl) rfl (W := 0) (by show 2 * 0 + _ ≤ _; exact Nat.le_of_eq rfl) (hb hby d6_8) (by decide) (by decide) fun v3 T3 hh3 L3 X3 e3 hQ3 => ?_
  obtain ⟨rfl, NL3, KK3, P3_0, P3_1, P3_2⟩ := hQ3
  have E_o0 := E_o0.keep KK3
  have A_ab := A_ab.keep KK3 (by simp [ne_ab_o0])
  have F_o0_bytes := P3_0
  have F_o0_position := P3_1
  have F_o0_end := P3_2
  have K := K.trans KK3 (by intro z hz; simp only [List.mem_cons, List.not_mem_nil, or_false] at hz; subst hz; exact Or.inl (by simp))
  have Z0 := Nat.le_trans Z0 KK3.1
  have hk := Nat.le_trans hk KK3.1
  have N3 := Fr.app N0 NL3
  show own_Out p e below _ T3 (mkF m 11 #[.val (.ref o0), .val (.int fp), .unset, .unset, .unset, .unset, .unset] [(.int tg)]) _ _ _
  refine own_to (fun t k => XS.istoreN X3.here hx rfl (hb hby d6_11) rfl (l' := #[.val (.ref o0), .val (.int fp), .val (.int tg), .unset, .unset, .unset, .unset]) rfl k) ?_
  show own_Out p e below _ T3 (mkF m 12 #[.val (.ref o0), .val (.int fp), .val (.int tg), .unset, .unset, .unset, .unset] []) _ _ _
  refine own_to (fun t k => XS.iloadN X3.here hx rfl (hb hby d6_12) rfl k) ?_
  show own_Out p e below _ T3 (mkF m 13 #[.val (.ref o0), .val (.int fp), .val (.int tg), .unset, .unset, .unset, .unset] [(.int tg)]) _ _ _
  refine own_to (fun t k => XS.bipush X3.here hx rfl (hb hby d6_13) k) ?_
  show own_Out p e below _ T3 (mkF m 15 #[.val (.ref o0), .val (.int fp), .val (.int tg), .unset, .unset, .unset, .unset] [(.int (31 : Int32)), (.int tg)]) _ _ _
  refine own_to (fun t k => XS.iand X3.here hx rfl (hb hby d6_15) rfl k) ?_
  show own_Out p e below _ T3 (mkF m 16 #[.val (.ref o0), .val (.int fp), .val (.int tg), .unset, .unset, .unset, .unset] [(.int (tg &&& (31 : Int32)))]) _ _ _
  refine own_to (fun t k => XS.bipush X3.here hx rfl (hb hby d6_16) k) ?_
  show own_Out p e below _ T3 (mkF m 18 #[.val (.ref o0), .val (.int fp), .val (.int tg), .unset, .unset, .unset, .unset] [(.int (31 : Int32)), (.int (tg &&& (31 : Int32)))]) _ _ _
  have hc18 : ¬ ((tg &&& (31 : Int32)) = (31 : Int32)) := ht
  refine own_to (fun t k => XS.icmpYes X3.here hx rfl (pc0 := 18) (pc' := 31) rfl (hb hby d6_18) rfl (feq hc18).2 (by decide) (by decide) k) ?_
  show own_Out p e below _ T3 (mkF m 31 #[.val (.ref o0), .val (.int fp), .val (.int tg), .unset, .unset, .unset, .unset] []) _ _ _
  refine own_to (fun t k => XS.aloadN X3.here hx rfl (hb hby d6_31) rfl rfl k) ?_
  show own_Out p e below _ T3 (mkF m 32 #[.val (.ref o0), .val (.int fp), .val (.int tg), .unset, .unset, .unset, .unset] [(.ref o0)]) _ _ _
  refine own_ldcS X3 hx hZ hown hS hk (hw _ (List.mem_of_getElem? (i := 45) rfl)) (fun a ha => hw a (own_atoms a ha)) e3 rfl (hb hby d6_32) (n := 32) (by decide) (by decide) (by decide) (by decide) fun a4 T4 hh4 k4 X4 e4 E4 hZ hown hS hk => ?_
  have E_o0 := E_o0.ext E4
  have A_ab := A_ab.ext E4
  have F_o0_bytes := F_o0_bytes.ext E4
  have F_o0_position := F_o0_position.ext E4
  have F_o0_end := F_o0_end.ext E4
  have K := K.ext E4
  have Z0 := Nat.le_trans Z0 E4.1
  show own_Out p e below _ T4 (mkF m 34 #[.val (.ref o0), .val (.int fp), .val (.int tg), .unset, .unset, .unset, .unset] [(.ref a4), (.ref o0)]) _ _ _
  refine own_callP X4 hx hZ hown (a := o0) (argsL := [(.ref a4)]) (rest := []) (hw _ (List.mem_of_getElem? (i := 40) rfl)) (hw _ (List.mem_of_getElem? (i := 42) rfl)) (hw _ (List.mem_of_getElem? (i := 6) rfl)) (hw _ (List.mem_of_getElem? (i := 41) rfl)) (hw _ (List.mem_of_getElem? (i := 7) rfl)) (hw _ (List.mem_of_getElem? (i := 43) rfl)) (by decide) (rm7 l Z a0 hw o0 a4 (fp + (1 : Int32)) fq ab N fb ln hh4 n0 Z0 E_o0 F_o0_bytes F_o0_position F_o0_end A_ab g_o0 ne_ab_o0 h2 hi2 hln) (by decide) (by decide) e4 E_o0 rfl (by rw [hml]; rfl) (lenOf pd_2 rfl) rfl (W := 0) (by show 2 * 0 + _ ≤ _; exact Nat.le_of_eq rfl) (hb hby d6_34) (by decide) (by decide) fun v5 T5 hh5 L5 X5 e5 hQ5 => ?_
  obtain ⟨rfl, NL5, KK5, P5_0, P5_1, P5_2⟩ := hQ5
  have E_o0 := E_o0.keep KK5
  have A_ab := A_ab.keep KK5 (by simp [ne_ab_o0])
  have F_o0_bytes := P5_0
  have F_o0_position := P5_1
  have F_o0_end := P5_2
  have K := K.trans KK5 (by intro z hz; simp only [List.mem_cons, List.not_mem_nil, or_false] at hz; subst hz; exact Or.inl (by simp))
  have Z0 := Nat.le_trans Z0 KK5.1
  have hk := Nat.le_trans hk KK5.1
  have N5 := Fr.app N3 NL5
  show own_Out p e below _ T5 (mkF m 37 #[.val (.ref o0), .val (.int fp), .val (.int tg), .unset, .unset, .unset, .unset] [(.int ln)]) _ _ _
  refine own_to (fun t k => XS.i2l X5.here hx rfl (hb hby d6_37) rfl k) ?_
  show own_Out p e below _ T5 (mkF m 38 #[.val (.ref o0), .val (.int fp), .val (.int tg), .unset, .unset, .unset, .unset] [(.long (ln.toInt64))]) _ _ _
  refine own_to (fun t k => XS.lstoreN X5.here hx rfl (hb hby d6_38) rfl (l' := #[.val (.ref o0), .val (.int fp), .val (.int tg), .val (.long (ln.toInt64)), .second, .unset, .unset]) rfl k) ?_
  show own_Out p e below _ T5 (mkF m 39 #[.val (.ref o0), .val (.int fp), .val (.int tg), .val (.long (ln.toInt64)), .second, .unset, .unset] []) _ _ _
  refine own_to (fun t k => XS.lloadN X5.here hx rfl (hb hby d6_39) rfl k) ?_
  show own_Out p e below _ T5 (mkF m 40 #[.val (.ref o0), .val (.int fp), .val (.int tg), .val (.long (ln.toInt64)), .second, .unset, .unset] [(.long (ln.toInt64))]) _ _ _
  refine own_to (fun t k => X5.ldc2J hx hown (mvT hZ (hw _ (List.mem_of_getElem? (i := 46) rfl))) rfl (hb hby d6_40) k) ?_
  show own_Out p e below _ T5 (mkF m 43 #[.val (.ref o0), .val (.int fp), .val (.int tg), .val (.long (ln.toInt64)), .second, .unset, .unset] [(.long (128 : Int64)), (.long (ln.toInt64))]) _ _ _
  refine own_to (fun t k => XS.land X5.here hx rfl (hb hby d6_43) rfl k) ?_
  show own_Out p e below _ T5 (mkF m 44 #[.val (.ref o0), .val (.int fp), .val (.int tg), .val (.long (ln.toInt64)), .second, .unset, .unset] [(.long ((ln.toInt64) &&& (128 : Int64)))]) _ _ _
  refine own_to (fun t k => XS.lconst X5.here hx rfl (hb hby d6_44) k) ?_
  show own_Out p e below _ T5 (mkF m 45 #[.val (.ref o0), .val (.int fp), .val (.int tg), .val (.long (ln.toInt64)), .second, .unset, .unset] [(.long (0 : Int64)), (.long ((ln.toInt64) &&& (128 : Int64)))]) _ _ _
  refine own_to (fun t k => XS.lcmp X5.here hx rfl (hb hby d6_45) rfl k) ?_
  show own_Out p e below _ T5 (mkF m 46 #[.val (.ref o0), .val (.int fp), .val (.int tg), .val (.long (ln.toInt64)), .second, .unset, .unset] [(.int (lcmpW ((ln.toInt64) &&& (128 : Int64)) (0 : Int64)))]) _ _ _
  have hc46 : ((ln.toInt64) &&& (128 : Int64)) = (0 : Int64) := hl1
  refine own_to (fun t k => XS.ifYes X5.here hx rfl (pc0 := 46) (pc' := 119) rfl (hb hby d6_46) rfl ((if0 _ _).trans (teq ((lw_eq _ _).mpr hc46)).1) (by decide) (by decide) k) ?_
  show own_Out p e below _ T5 (mkF m 119 #[.val (.ref o0), .val (.int fp), .val (.int tg), .val (.long (ln.toInt64)), .second, .unset, .unset] []) _ _ _
  refine own_to (fun t k => XS.lloadN X5.here hx rfl (hb hby d6_119) rfl k) ?_
  show own_Out p e below _ T5 (mkF m 120 #[.val (.ref o0), .val (.int fp), .val (.int tg), .val (.long (ln.toInt64)), .second, .unset, .unset] [(.long (ln.toInt64))]) _ _ _
  refine own_to (fun t k => XS.aloadN X5.here hx rfl (hb hby d6_120) rfl rfl k) ?_
  show own_Out p e below _ T5 (mkF m 121 #[.val (.ref o0), .val (.int fp), .val (.int tg), .val (.long (ln.toInt64)), .second, .unset, .unset] [(.ref o0), (.long (ln.toInt64))]) _ _ _
  refine own_getF X5 hx hZ hown (hw _ (List.mem_of_getElem? (i := 21) rfl)) e5 F_o0_end rfl rfl (hb hby d6_121) fun T6 X6 e6 => ?_
  show own_Out p e below _ T6 (mkF m 124 #[.val (.ref o0), .val (.int fp), .val (.int tg), .val (.long (ln.toInt64)), .second, .unset, .unset] [(.int fq), (.long (ln.toInt64))]) _ _ _
  refine own_to (fun t k => XS.aloadN X6.here hx rfl (hb hby d6_124) rfl rfl k) ?_
  show own_Out p e below _ T6 (mkF m 125 #[.val (.ref o0), .val (.int fp), .val (.int tg), .val (.long (ln.toInt64)), .second, .unset, .unset] [(.ref o0), (.int fq), (.long (ln.toInt64))]) _ _ _
  refine own_getF X6 hx hZ hown (hw _ (List.mem_of_getElem? (i := 19) rfl)) e6 F_o0_position rfl rfl (hb hby d6_125) fun T7 X7 e7 => ?_
  show own_Out p e below _ T7 (mkF m 128 #[.val (.ref o0), .val (.int fp), .val (.int tg), .val (.long (ln.toInt64)), .second, .unset, .unset] [(.int ((fp + (1 : Int32)) + (1 : Int32))), (.int fq), (.long (ln.toInt64))]) _ _ _
  refine own_to (fun t k => XS.isub X7.here hx rfl (hb hby d6_128) rfl k) ?_
  show own_Out p e below _ T7 (mkF m 129 #[.val (.ref o0), .val (.int fp), .val (.int tg), .val (.long (ln.toInt64)), .second, .unset, .unset] [(.int (fq - ((fp + (1 : Int32)) + (1 : Int32)))), (.long (ln.toInt64))]) _ _ _
  refine own_to (fun t k => XS.i2l X7.here hx rfl (hb hby d6_129) rfl k) ?_
  show own_Out p e below _ T7 (mkF m 130 #[.val (.ref o0), .val (.int fp), .val (.int tg), .val (.long (ln.toInt64)), .second, .unset, .unset] [(.long ((fq - ((fp + (1 : Int32)) + (1 : Int32))).toInt64)), (.long (ln.toInt64))]) _ _ _
  refine own_to (fun t k => XS.lcmp X7.here hx rfl (hb hby d6_130) rfl k) ?_
  show own_Out p e below _ T7 (mkF m 131 #[.val (.ref o0), .val (.int fp), .val (.int tg), .val (.long (ln.toInt64)), .second, .unset, .unset] [(.int (lcmpW (ln.toInt64) ((fq - ((fp + (1 : Int32)) + (1 : Int32))).toInt64)))]) _ _ _
  have hc131 : ¬ (((fq - ((fp + (1 : Int32)) + (1 : Int32))).toInt64) < (ln.toInt64)) := hl2
  refine own_to (fun t k => XS.ifYes X7.here hx rfl (pc0 := 131) (pc' := 148) rfl (hb hby d6_131) rfl ((if0 _ _).trans (flt (fun q => hc131 ((lw_gt _ _).mp q))).2.2.2) (by decide) (by decide) k) ?_
  show own_Out p e below _ T7 (mkF m 148 #[.val (.ref o0), .val (.int fp), .val (.int tg), .val (.long (ln.toInt64)), .second, .unset, .unset] []) _ _ _
  refine own_to (fun t k => XS.aloadN X7.here hx rfl (hb hby d6_148) rfl rfl k) ?_
  show own_Out p e below _ T7 (mkF m 149 #[.val (.ref o0), .val (.int fp), .val (.int tg), .val (.long (ln.toInt64)), .second, .unset, .unset] [(.ref o0)]) _ _ _
  refine own_getF X7 hx hZ hown (hw _ (List.mem_of_getElem? (i := 19) rfl)) e7 F_o0_position rfl rfl (hb hby d6_149) fun T8 X8 e8 => ?_
  show own_Out p e below _ T8 (mkF m 152 #[.val (.ref o0), .val (.int fp), .val (.int tg), .val (.long (ln.toInt64)), .second, .unset, .unset] [(.int ((fp + (1 : Int32)) + (1 : Int32)))]) _ _ _
  refine own_to (fun t k => XS.istore X8.here hx rfl (hb hby d6_152) rfl (l' := #[.val (.ref o0), .val (.int fp), .val (.int tg), .val (.long (ln.toInt64)), .second, .val (.int ((fp + (1 : Int32)) + (1 : Int32))), .unset]) rfl k) ?_
  show own_Out p e below _ T8 (mkF m 154 #[.val (.ref o0), .val (.int fp), .val (.int tg), .val (.long (ln.toInt64)), .second, .val (.int ((fp + (1 : Int32)) + (1 : Int32))), .unset] []) _ _ _
  refine own_to (fun t k => XS.aloadN X8.here hx rfl (hb hby d6_154) rfl rfl k) ?_
  show own_Out p e below _ T8 (mkF m 155 #[.val (.ref o0), .val (.int fp), .val (.int tg), .val (.long (ln.toInt64)), .second, .val (.int ((fp + (1 : Int32)) + (1 : Int32))), .unset] [(.ref o0)]) _ _ _
  refine own_to (fun t k => XS.dup X8.here hx rfl (hb hby d6_155) rfl rfl k) ?_
  show own_Out p e below _ T8 (mkF m 156 #[.val (.ref o0), .val (.int fp), .val (.int tg), .val (.long (ln.toInt64)), .second, .val (.int ((fp + (1 : Int32)) + (1 : Int32))), .unset] [(.ref o0), (.ref o0)]) _ _ _
  refine own_getF X8 hx hZ hown (hw _ (List.mem_of_getElem? (i := 19) rfl)) e8 F_o0_position rfl rfl (hb hby d6_156) fun T9 X9 e9 => ?_
  show own_Out p e below _ T9 (mkF m 159 #[.val (.ref o0), .val (.int fp), .val (.int tg), .val (.long (ln.toInt64)), .second, .val (.int ((fp + (1 : Int32)) + (1 : Int32))), .unset] [(.int ((fp + (1 : Int32)) + (1 : Int32))), (.ref o0)]) _ _ _
  refine own_to (fun t k => XS.lloadN X9.here hx rfl (hb hby d6_159) rfl k) ?_
  show own_Out p e below _ T9 (mkF m 160 #[.val (.ref o0), .val (.int fp), .val (.int tg), .val (.long (ln.toInt64)), .second, .val (.int ((fp + (1 : Int32)) + (1 : Int32))), .unset] [(.long (ln.toInt64)), (.int ((fp + (1 : Int32)) + (1 : Int32))), (.ref o0)]) _ _ _
  refine own_to (fun t k => XS.l2i X9.here hx rfl (hb hby d6_160) rfl k) ?_
  show own_Out p e below _ T9 (mkF m 161 #[.val (.ref o0), .val (.int fp), .val (.int tg), .val (.long (ln.toInt64)), .second, .val (.int ((fp + (1 : Int32)) + (1 : Int32))), .unset] [(.int ((ln.toInt64).toInt32)), (.int ((fp + (1 : Int32)) + (1 : Int32))), (.ref o0)]) _ _ _
  refine own_to (fun t k => XS.iadd X9.here hx rfl (hb hby d6_161) rfl k) ?_
  show own_Out p e below _ T9 (mkF m 162 #[.val (.ref o0), .val (.int fp), .val (.int tg), .val (.long (ln.toInt64)), .second, .val (.int ((fp + (1 : Int32)) + (1 : Int32))), .unset] [(.int (((fp + (1 : Int32)) + (1 : Int32)) + ((ln.toInt64).toInt32))), (.ref o0)]) _ _ _
  refine own_putF X9 hx hZ hown (hw _ (List.mem_of_getElem? (i := 19) rfl)) e9 F_o0_position E_o0 (Or.inl (hw _ (List.mem_of_getElem? (i := 20) rfl))) (hw _ (List.mem_of_getElem? (i := 6) rfl)) (ty := .int) (by decide) rfl rfl rfl rfl (hb hby d6_162) fun T10 hh10 X10 e10 W10 => ?_
  have E_o0 := E_o0.wr W10
  have A_ab := A_ab.other W10 ne_ab_o0
  have F_o0_bytes := F_o0_bytes.other W10 (Or.inr (slot_ne (Or.inr (hw _ (List.mem_of_getElem? (i := 18) rfl))) (Or.inl (hw _ (List.mem_of_getElem? (i := 20) rfl))) (by decide) (t := (.array .byte)) (t' := .int) (by decide) (by decide)))
  have F_o0_position := F_o0_position.same W10
  have F_o0_end := F_o0_end.other W10 (Or.inr (slot_ne (Or.inr (hw _ (List.mem_of_getElem? (i := 22) rfl))) (Or.inl (hw _ (List.mem_of_getElem? (i := 20) rfl))) (by decide) (t := .int) (t' := .int) (by decide) (by decide)))
  have K := K.wr W10 (Or.inl (by simp))
  have Z0 := Nat.le_trans Z0 (Nat.le_of_eq W10.size.symm)
  have hk := Nat.le_trans hk (Nat.le_of_eq W10.size.symm)
  have N10 := own_fs (sl := Jvm.RoadKit.slotOf Z "com/example/pathwarden/pathwarden/util/DerReader" "position" "I") N5 g_o0
  show own_Out p e below _ T10 (mkF m 165 #[.val (.ref o0), .val (.int fp), .val (.int tg), .val (.long (ln.toInt64)), .second, .val (.int ((fp + (1 : Int32)) + (1 : Int32))), .unset] []) _ _ _
  refine own_new X10 hx hZ hown (hw _ (List.mem_of_getElem? (i := 47) rfl)) (hw _ (List.mem_of_getElem? (i := 48) rfl)) (hw _ (List.mem_of_getElem? (i := 49) rfl)) e10 rfl (hb hby d6_165) (by decide) (by decide) fun T11 hh11 ob11 gb11 X11 e11 E11 A11 D11 => ?_
  have ne_o0_ob11 : o0 ≠ ob11 := Nat.ne_of_lt (Nat.lt_of_lt_of_le E_o0.lt (Nat.le_of_eq gb11.symm))
  have ne_ob11_o0 := Ne.symm ne_o0_ob11
  have ne_ab_ob11 : ab ≠ ob11 := Nat.ne_of_lt (Nat.lt_of_lt_of_le A_ab.lt (Nat.le_of_eq gb11.symm))
  have ne_ob11_ab := Ne.symm ne_ab_ob11
  have g_ob11 : n0 ≤ ob11 := Nat.le_trans Z0 (Nat.le_of_eq gb11.symm)
  have sz_ob11 : h0.size ≤ ob11 := Nat.le_trans K.1 (Nat.le_of_eq gb11.symm)
  have E_o0 := E_o0.ext E11
  have A_ab := A_ab.ext E11
  have F_o0_bytes := F_o0_bytes.ext E11
  have F_o0_position := F_o0_position.ext E11
  have F_o0_end := F_o0_end.ext E11
  have K := K.ext E11
  have Z0 := Nat.le_trans Z0 E11.1
  have hk := Nat.le_trans hk E11.1
  have E_ob11 := A11
  have F_ob11_bytes : Fld Z hh11 ob11 "com/example/pathwarden/pathwarden/util/DerReader$Element" "bytes" "[B" .null := D11 (Or.inr (hw _ (List.mem_of_getElem? (i := 55) rfl))) (ty := (.array .byte)) (by decide)
  have F_ob11_tag : Fld Z hh11 ob11 "com/example/pathwarden/pathwarden/util/DerReader$Element" "tag" "I" (.int (0 : Int32)) := D11 (Or.inr (hw _ (List.mem_of_getElem? (i := 57) rfl))) (ty := .int) (by decide)
  have F_ob11_start : Fld Z hh11 ob11 "com/example/pathwarden/pathwarden/util/DerReader$Element" "start" "I" (.int (0 : Int32)) := D11 (Or.inr (hw _ (List.mem_of_getElem? (i := 59) rfl))) (ty := .int) (by decide)
  have F_ob11_contents : Fld Z hh11 ob11 "com/example/pathwarden/pathwarden/util/DerReader$Element" "contents" "I" (.int (0 : Int32)) := D11 (Or.inr (hw _ (List.mem_of_getElem? (i := 61) rfl))) (ty := .int) (by decide)
  have F_ob11_end : Fld Z hh11 ob11 "com/example/pathwarden/pathwarden/util/DerReader$Element" "end" "I" (.int (0 : Int32)) := D11 (Or.inr (hw _ (List.mem_of_getElem? (i := 63) rfl))) (ty := .int) (by decide)
  show own_Out p e below _ T11 (mkF m 168 #[.val (.ref o0), .val (.int fp), .val (.int tg), .val (.long (ln.toInt64)), .second, .val (.int ((fp + (1 : Int32)) + (1 : Int32))), .unset] [(.ref ob11)]) _ _ _
  refine own_to (fun t k => XS.dup X11.here hx rfl (hb hby d6_168) rfl rfl k) ?_
  show own_Out p e below _ T11 (mkF m 169 #[.val (.ref o0), .val (.int fp), .val (.int tg), .val (.long (ln.toInt64)), .second, .val (.int ((fp + (1 : Int32)) + (1 : Int32))), .unset] [(.ref ob11), (.ref ob11)]) _ _ _
  refine own_to (fun t k => XS.aloadN X11.here hx rfl (hb hby d6_169) rfl rfl k) ?_
  show own_Out p e below _ T11 (mkF m 170 #[.val (.ref o0), .val (.int fp), .val (.int tg), .val (.long (ln.toInt64)), .second, .val (.int ((fp + (1 : Int32)) + (1 : Int32))), .unset] [(.ref o0), (.ref ob11), (.ref ob11)]) _ _ _
  refine own_getF X11 hx hZ hown (hw _ (List.mem_of_getElem? (i := 17) rfl)) e11 F_o0_bytes rfl rfl (hb hby d6_170) fun T12 X12 e12 => ?_
  show own_Out p e below _ T12 (mkF m 173 #[.val (.ref o0), .val (.int fp), .val (.int tg), .val (.long (ln.toInt64)), .second, .val (.int ((fp + (1 : Int32)) + (1 : Int32))), .unset] [(.ref ab), (.ref ob11), (.ref ob11)]) _ _ _
  refine own_to (fun t k => XS.iloadN X12.here hx rfl (hb hby d6_173) rfl k) ?_
  show own_Out p e below _ T12 (mkF m 174 #[.val (.ref o0), .val (.int fp), .val (.int tg), .val (.long (ln.toInt64)), .second, .val (.int ((fp + (1 : Int32)) + (1 : Int32))), .unset] [(.int tg), (.ref ab), (.ref ob11), (.ref ob11)]) _ _ _
  refine own_to (fun t k => XS.iloadN X12.here hx rfl (hb hby d6_174) rfl k) ?_
  show own_Out p e below _ T12 (mkF m 175 #[.val (.ref o0), .val (.int fp), .val (.int tg), .val (.long (ln.toInt64)), .second, .val (.int ((fp + (1 : Int32)) + (1 : Int32))), .unset] [(.int fp), (.int tg), (.ref ab), (.ref ob11), (.ref ob11)]) _ _ _
  refine own_to (fun t k => XS.iload X12.here hx rfl (hb hby d6_175) rfl k) ?_
  show own_Out p e below _ T12 (mkF m 177 #[.val (.ref o0), .val (.int fp), .val (.int tg), .val (.long (ln.toInt64)), .second, .val (.int ((fp + (1 : Int32)) + (1 : Int32))), .unset] [(.int ((fp + (1 : Int32)) + (1 : Int32))), (.int fp), (.int tg), (.ref ab), (.ref ob11), (.ref ob11)]) _ _ _
  refine own_to (fun t k => XS.aloadN X12.here hx rfl (hb hby d6_177) rfl rfl k) ?_
  show own_Out p e below _ T12 (mkF m 178 #[.val (.ref o0), .val (.int fp), .val (.int tg), .val (.long (ln.toInt64)), .second, .val (.int ((fp + (1 : Int32)) + (1 : Int32))), .unset] [(.ref o0), (.int ((fp + (1 : Int32)) + (1 : Int32))), (.int fp), (.int tg), (.ref ab), (.ref ob11), (.ref ob11)]) _ _ _
  refine own_getF X12 hx hZ hown (hw _ (List.mem_of_getElem? (i := 19) rfl)) e12 F_o0_position rfl rfl (hb hby d6_178) fun T13 X13 e13 => ?_
  show own_Out p e below _ T13 (mkF m 181 #[.val (.ref o0), .val (.int fp), .val (.int tg), .val (.long (ln.toInt64)), .second, .val (.int ((fp + (1 : Int32)) + (1 : Int32))), .unset] [(.int (((fp + (1 : Int32)) + (1 : Int32)) + ((ln.toInt64).toInt32))), (.int ((fp + (1 : Int32)) + (1 : Int32))), (.int fp), (.int tg), (.ref ab), (.ref ob11), (.ref ob11)]) _ _ _
  refine own_callCR X13 hx hZ hown (a := ob11) (argsL := [(.ref ab), (.int tg), (.int fp), (.int ((fp + (1 : Int32)) + (1 : Int32))), (.int (((fp + (1 : Int32)) + (1 : Int32)) + ((ln.toInt64).toInt32)))]) (rest := [(.ref ob11)]) rfl (hw _ (List.mem_of_getElem? (i := 50) rfl)) (hw _ (List.mem_of_getElem? (i := 51) rfl)) (hw _ (List.mem_of_getElem? (i := 49) rfl)) (hw _ (List.mem_of_getElem? (i := 52) rfl)) (by decide) (rm8 l Z a0 hw ob11 ab tg fp ((fp + (1 : Int32)) + (1 : Int32)) (((fp + (1 : Int32)) + (1 : Int32)) + ((ln.toInt64).toInt32)) hh11 n0 Z0 E_ob11 F_ob11_bytes F_ob11_tag F_ob11_start F_ob11_contents F_ob11_end g_ob11) (by decide) (by decide) e13 rfl (by rw [hml]; rfl) (lenOf pd_3 rfl) rfl (W := 1) (by show 2 * 0 + _ ≤ _; exact Nat.le_of_eq rfl) (hb hby d6_181) (by decide) (by decide) fun v14 T14 hh14 L14 X14 e14 hQ14 => ?_
  obtain ⟨rfl, NL14, KK14, P14_0, P14_1, P14_2, P14_3, P14_4⟩ := hQ14
  have E_o0 := E_o0.keep KK14
  have A_ab := A_ab.keep KK14 (by simp [ne_ab_ob11])
  have F_o0_bytes := F_o0_bytes.keep KK14 (by simp [ne_o0_ob11])
  have F_o0_position := F_o0_position.keep KK14 (by simp [ne_o0_ob11])
  have F_o0_end := F_o0_end.keep KK14 (by simp [ne_o0_ob11])
  have E_ob11 := E_ob11.keep KK14
  have F_ob11_bytes := P14_0
  have F_ob11_tag := P14_1
  have F_ob11_start := P14_2
  have F_ob11_contents := P14_3
  have F_ob11_end := P14_4
  have K := K.trans KK14 (by intro z hz; simp only [List.mem_cons, List.not_mem_nil, or_false] at hz; subst hz; exact Or.inr sz_ob11)
  have Z0 := Nat.le_trans Z0 KK14.1
  have hk := Nat.le_trans hk KK14.1
  have N14 := Fr.app N10 NL14
  show own_Out p e below _ T14 (mkF m 184 #[.val (.ref o0), .val (.int fp), .val (.int tg), .val (.long (ln.toInt64)), .second, .val (.int ((fp + (1 : Int32)) + (1 : Int32))), .unset] [(.ref ob11)]) _ _ _
  refine own_retAW X14 hS hk e14 hx hlk hret rfl (hb hby d6_184) (by decide) (by decide) ?_
  rw [e14]
  exact ⟨N14, K, ob11, rfl, sz_ob11, F_o0_bytes, F_o0_position, F_o0_end, E_ob11, F_ob11_bytes, F_ob11_tag, F_ob11_start, F_ob11_contents, F_ob11_end⟩
theorem d9_0 : decode prog_58_method_5_code 0 = .ok (.new 1, 3) := by decide +kernel
theorem d9_3 : decode prog_58_method_5_code 3 = .ok (.dup, 1) := by decide +kernel
theorem d9_4 : decode prog_58_method_5_code 4 = .ok (.aload_n 0, 1) := by decide +kernel
theorem d9_5 : decode prog_58_method_5_code 5 = .ok (.getfield 9, 3) := by decide +kernel
theorem d9_8 : decode prog_58_method_5_code 8 = .ok (.aload_n 0, 1) := by decide +kernel
theorem d9_9 : decode prog_58_method_5_code 9 = .ok (.getfield 22, 3) := by decide +kernel
theorem d9_12 : decode prog_58_method_5_code 12 = .ok (.aload_n 0, 1) := by decide +kernel
theorem d9_13 : decode prog_58_method_5_code 13 = .ok (.getfield 25, 3) := by decide +kernel
theorem d9_16 : decode prog_58_method_5_code 16 = .ok (.invokespecial 34, 3) := by decide +kernel
theorem d9_19 : decode prog_58_method_5_code 19 = .ok (.areturn, 1) := by decide +kernel
theorem ef_9 (m : MethodId) (o0 : Addr) : entryFrame m #[(.ref o0)] 1 = mkF m 0 #[.val (.ref o0)] [] := by first | (simp [entryFrame, mkF, argsToLocals, Value.category]; done) | rfl
def Q9 (Z : State) (o0 : Addr) (ab : Addr) (fc : Int32) (fe : Int32) (h0 : Heap) (n0 : Nat) (v : Option Value) (h : Heap) (L : List Loc) : Prop := Fr n0 L ∧ Keep h0 h [] ∧ ∃ rd : Addr, v = some (.ref rd) ∧ h0.size ≤ rd ∧ Exa Z h rd "com/example/pathwarden/pathwarden/util/DerReader" ∧ Fld Z h rd "com/example/pathwarden/pathwarden/util/DerReader" "bytes" "[B" (.ref ab) ∧ Fld Z h rd "com/example/pathwarden/pathwarden/util/DerReader" "position" "I" (.int fc) ∧ Fld Z h rd "com/example/pathwarden/pathwarden/util/DerReader" "end" "I" (.int fe)
set_option maxRecDepth 65536 in
set_option maxHeartbeats 40000000 in
theorem rm9 (l : Launch) (Z : State) (a0 : Array Value) (hw : ∀ d ∈ tables_1, d.before a0 Z = true) (o0 : Addr) (ab : Addr) (fc : Int32) (fe : Int32) (h0 : Heap) (n0 : Nat) (Z0 : n0 ≤ h0.size) (F_o0_bytes : Fld Z h0 o0 "com/example/pathwarden/pathwarden/util/DerReader$Element" "bytes" "[B" (.ref ab)) (F_o0_contents : Fld Z h0 o0 "com/example/pathwarden/pathwarden/util/DerReader$Element" "contents" "I" (.int fc)) (F_o0_end : Fld Z h0 o0 "com/example/pathwarden/pathwarden/util/DerReader$Element" "end" "I" (.int fe)) :
    own_C l Z (⟨"com/example/pathwarden/pathwarden/util/DerReader$Element", "elements", "()Lcom/example/pathwarden/pathwarden/util/DerReader;"⟩ : MethodName) prog_58_method_5_code 1 (some (.object "com/example/pathwarden/pathwarden/util/DerReader")) ({ frames := 2, cells := 1, slots := 3, locals := 28 } : Room) #[(.ref o0)] h0 (Q9 Z o0 ab fc fe h0 n0) := by
  refine own_met (plainFor_of_name pn_1) ?_
  intro p e s m below meth c s₁ hx hby hml hret hlk hown hnm hZ X0 e0
  refine own_cast (ef_9 m o0) ?_
  have N0 := Fr.nil n0
  have K := Keep.refl h0 []
  show own_Out p e below _ s₁ (mkF m 0 #[.val (.ref o0)] []) _ _ _
  refine own_new X0 hx hZ hown (hw _ (List.mem_of_getElem? (i := 69) rfl)) (hw _ (List.mem_of_getElem? (i := 6) rfl)) (hw _ (List.mem_of_getElem? (i := 7) rfl)) e0 rfl (hb hby d9_0) (by decide) (by decide) fun T1 hh1 ob1 gb1 X1 e1 E1 A1 D1 => ?_
  have ne_o0_ob1 : o0 ≠ ob1 := Nat.ne_of_lt (Nat.lt_of_lt_of_le F_o0_bytes.lt (Nat.le_of_eq gb1.symm))
  have ne_ob1_o0 := Ne.symm ne_o0_ob1
  have g_ob1 : n0 ≤ ob1 := Nat.le_trans Z0 (Nat.le_of_eq gb1.symm)
  have sz_ob1 : h0.size ≤ ob1 := Nat.le_trans K.1 (Nat.le_of_eq gb1.symm)
  have F_o0_bytes := F_o0_bytes.ext E1
  have F_o0_contents := F_o0_contents.ext E1
  have F_o0_end := F_o0_end.ext E1
  have K := K.ext E1
  have Z0 := Nat.le_trans Z0 E1.1
  have E_ob1 := A1
  have F_ob1_bytes : Fld Z hh1 ob1 "com/example/pathwarden/pathwarden/util/DerReader" "bytes" "[B" .null := D1 (Or.inr (hw _ (List.mem_of_getElem? (i := 18) rfl))) (ty := (.array .byte)) (by decide)
  have F_ob1_position : Fld Z hh1 ob1 "com/example/pathwarden/pathwarden/util/DerReader" "position" "I" (.int (0 : Int32)) := D1 (Or.inl (hw _ (List.mem_of_getElem? (i := 20) rfl))) (ty := .int) (by decide)
  have F_ob1_end : Fld Z hh1 ob1 "com/example/pathwarden/pathwarden/util/DerReader" "end" "I" (.int (0 : Int32)) := D1 (Or.inr (hw _ (List.mem_of_getElem? (i := 22) rfl))) (ty := .int) (by decide)
  show own_Out p e below _ T1 (mkF m 3 #[.val (.ref o0)] [(.ref ob1)]) _ _ _
  refine own_to (fun t k => XS.dup X1.here hx rfl (hb hby d9_3) rfl rfl k) ?_
  show own_Out p e below _ T1 (mkF m 4 #[.val (.ref o0)] [(.ref ob1), (.ref ob1)]) _ _ _
  refine own_to (fun t k => XS.aloadN X1.here hx rfl (hb hby d9_4) rfl rfl k) ?_
  show own_Out p e below _ T1 (mkF m 5 #[.val (.ref o0)] [(.ref o0), (.ref ob1), (.ref ob1)]) _ _ _
  refine own_getF X1 hx hZ hown (hw _ (List.mem_of_getElem? (i := 54) rfl)) e1 F_o0_bytes rfl rfl (hb hby d9_5) fun T2 X2 e2 => ?_
  show own_Out p e below _ T2 (mkF m 8 #[.val (.ref o0)] [(.ref ab), (.ref ob1), (.ref ob1)]) _ _ _
  refine own_to (fun t k => XS.aloadN X2.here hx rfl (hb hby d9_8) rfl rfl k) ?_
  show own_Out p e below _ T2 (mkF m 9 #[.val (.ref o0)] [(.ref o0), (.ref ab), (.ref ob1), (.ref ob1)]) _ _ _
  refine own_getF X2 hx hZ hown (hw _ (List.mem_of_getElem? (i := 60) rfl)) e2 F_o0_contents rfl rfl (hb hby d9_9) fun T3 X3 e3 => ?_
  show own_Out p e below _ T3 (mkF m 12 #[.val (.ref o0)] [(.int fc), (.ref ab), (.ref ob1), (.ref ob1)]) _ _ _
  refine own_to (fun t k => XS.aloadN X3.here hx rfl (hb hby d9_12) rfl rfl k) ?_
  show own_Out p e below _ T3 (mkF m 13 #[.val (.ref o0)] [(.ref o0), (.int fc), (.ref ab), (.ref ob1), (.ref ob1)]) _ _ _
  refine own_getF X3 hx hZ hown (hw _ (List.mem_of_getElem? (i := 62) rfl)) e3 F_o0_end rfl rfl (hb hby d9_13) fun T4 X4 e4 => ?_
  show own_Out p e below _ T4 (mkF m 16 #[.val (.ref o0)] [(.int fe), (.int fc), (.ref ab), (.ref ob1), (.ref ob1)]) _ _ _
  refine own_callCN X4 hx hZ hown (a := ob1) (argsL := [(.ref ab), (.int fc), (.int fe)]) (rest := [(.ref ob1)]) rfl (hw _ (List.mem_of_getElem? (i := 70) rfl)) (hw _ (List.mem_of_getElem? (i := 12) rfl)) (hw _ (List.mem_of_getElem? (i := 7) rfl)) (hw _ (List.mem_of_getElem? (i := 13) rfl)) (by decide) (rm3 l Z a0 hw ob1 ab fc fe hh1 n0 Z0 E_ob1 F_ob1_bytes F_ob1_position F_ob1_end g_ob1) (by decide) (by decide) e4 rfl (by rw [hml]; rfl) (lenOf pd_0 rfl) rfl (W := 1) (by show 2 * 0 + _ ≤ _; exact Nat.le_of_eq rfl) (hb hby d9_16) (by decide) (by decide) fun v5 T5 hh5 L5 X5 e5 hQ5 => ?_
  obtain ⟨rfl, NL5, KK5, P5_0, P5_1, P5_2⟩ := hQ5
  have F_o0_bytes := F_o0_bytes.keep KK5 (by simp [ne_o0_ob1])
  have F_o0_contents := F_o0_contents.keep KK5 (by simp [ne_o0_ob1])
  have F_o0_end := F_o0_end.keep KK5 (by simp [ne_o0_ob1])
  have E_ob1 := E_ob1.keep KK5
  have F_ob1_bytes := P5_0
  have F_ob1_position := P5_1
  have F_ob1_end := P5_2
  have K := K.trans KK5 (by intro z hz; simp only [List.mem_cons, List.not_mem_nil, or_false] at hz; subst hz; exact Or.inr sz_ob1)
  have Z0 := Nat.le_trans Z0 KK5.1
  have N5 := Fr.app N0 NL5
  show own_Out p e below _ T5 (mkF m 19 #[.val (.ref o0)] [(.ref ob1)]) _ _ _
  refine own_retA X5 hx hlk hret rfl (hb hby d9_19) (by decide) (by decide) ?_
  rw [e5]
  exact ⟨N5, K, ob1, rfl, sz_ob1, E_ob1, F_ob1_bytes, F_ob1_position, F_ob1_end⟩
theorem own_lt {x y : Int32} : x < y ↔ x.toInt < y.toInt := Int32.lt_iff_toInt_lt
theorem own_nn (x : Int32) : x.toNatClampNeg = x.toInt.toNat := rfl
theorem own_ge {x : Int32} (h : 0 ≤ x.toInt) : ¬ x < 0 := by
  have k : (0 : Int32).toInt = 0 := by decide
  rw [own_lt]; omega
theorem own_ad (x y : Int32) (hx : -20 ≤ x.toInt ∧ x.toInt ≤ 20) (hy : -20 ≤ y.toInt ∧ y.toInt ≤ 20) : (x + y).toInt = x.toInt + y.toInt := by
  have h := c_iadd x y
  have q := rng32 (x + y)
  omega
theorem own_sb (x y : Int32) (hx : -20 ≤ x.toInt ∧ x.toInt ≤ 20) (hy : -20 ≤ y.toInt ∧ y.toInt ≤ 20) : (x - y).toInt = x.toInt - y.toInt := by
  have h := c_isub x y
  have q := rng32 (x - y)
  omega
theorem own_c3 : ∀ k : Fin 4, R1 (Int32.ofNat k.1) (2 : Int32) = 0 ∨ R1 (Int32.ofNat k.1) (2 : Int32) = 1 ∨ R1 (Int32.ofNat k.1) (2 : Int32) = 2 := by decide +kernel
theorem own_k3 (x : Int32) : 0 ≤ (x &&& (3 : Int32)).toInt ∧ (x &&& (3 : Int32)).toInt ≤ 3 := by
  have h := c_mask x 3 2 (by decide) (by decide)
  omega
theorem own_is (y : Int32) (h : 0 ≤ y.toInt ∧ y.toInt ≤ 3) : y = Int32.ofNat y.toInt.toNat := Int32.toInt_inj.mp (by rw [Int32.toInt_ofNat_of_lt (by omega)]; omega)
theorem own_cnt (x : Int32) : R1 (x &&& (3 : Int32)) (2 : Int32) = (0 : Int32) ∨ R1 (x &&& (3 : Int32)) (2 : Int32) = (1 : Int32) ∨ R1 (x &&& (3 : Int32)) (2 : Int32) = (2 : Int32) := by
  have h := own_k3 x
  have q := own_c3 ⟨(x &&& (3 : Int32)).toInt.toNat, by omega⟩
  rw [← own_is _ h] at q
  exact q
theorem own_tr (x : Int32) : (x &&& (1 : Int32)) = (0 : Int32) ∨ (x &&& (1 : Int32)) = (1 : Int32) := and_one x
theorem own_tgok (y : Int32) : ¬ (((y &&& (254 : Int32)) &&& (255 : Int32)) &&& (31 : Int32)) = (31 : Int32) := fun q => by
  have w := congrArg (fun z : Int32 => z.toBitVec.getLsbD 0) q
  have e1 : (254 : Int32).toBitVec = 254#32 := by decide
  have e2 : (31 : Int32).toBitVec = 31#32 := by decide
  simp [Int32.toBitVec_and, e1, e2] at w
theorem own_l255 (y : Int32) (h : 0 ≤ y.toInt ∧ y.toInt ≤ 3) : (y &&& (255 : Int32)) = y := by
  have q := c_mask y 255 8 (by decide) (by decide)
  exact Int32.toInt_inj.mp (by omega)
theorem own_l128a : ∀ k : Fin 4, (((Int32.ofNat k.1).toInt64) &&& (128 : Int64)) = (0 : Int64) := by decide +kernel
theorem own_l128 (y : Int32) (h : 0 ≤ y.toInt ∧ y.toInt ≤ 3) : ((y.toInt64) &&& (128 : Int64)) = (0 : Int64) := by
  have q := own_l128a ⟨y.toInt.toNat, by omega⟩
  rw [← own_is y h] at q
  exact q
theorem own_wide (x y : Int32) (h : y.toInt ≤ x.toInt) : ¬ (x.toInt64) < (y.toInt64) := by
  rw [Int64.lt_iff_toInt_lt, c_i2l, c_i2l]; omega
theorem own_bk (y : Int32) : ((y.toInt64).toInt32) = y := by
  apply Int32.toInt_inj.mp
  have h1 := c_l2i y.toInt64
  have h2 := c_i2l y
  have r := rng32 y
  have r2 := rng32 y.toInt64.toInt32
  omega
theorem own_q0 : (0 : Int32).toInt = 0 := by decide
theorem own_q1 : (1 : Int32).toInt = 1 := by decide
theorem own_q2 : (2 : Int32).toInt = 2 := by decide
theorem own_q01 : ((0 : Int32) + (1 : Int32)).toInt = 1 := by decide
theorem own_q02 : (((0 : Int32) + (1 : Int32)) + (1 : Int32)).toInt = 2 := by decide
theorem pn_2 : plainName "com/example/pathwarden/pathwarden/util/DerReaderHasNextPinLaw" = true := by first | (simp [plainName, overriddenIn]; done) | decide +kernel
theorem ef_0 (m : MethodId) (x0 : Int32) (x1 : Int32) (x2 : Int32) (x3 : Int32) : entryFrame m #[(.int x0), (.int x1), (.int x2), (.int x3)] maxLocals = mkF m 0 #[.val (.int x0), .val (.int x1), .val (.int x2), .val (.int x3), .unset, .unset, .unset, .unset, .unset, .unset, .unset, .unset, .unset, .unset, .unset, .unset] [] := by first | (simp [entryFrame, mkF, argsToLocals, Value.category, maxLocals]; done) | rfl
def Q0 (Z : State) (x0 : Int32) (x1 : Int32) (x2 : Int32) (x3 : Int32) (h0 : Heap) (n0 : Nat) (v : Option Value) (h : Heap) (L : List Loc) : Prop := v = some (.int (1 : Int32)) ∧ Fr n0 L
theorem pd_4 : parseMethodDescriptor "(II)I" = some ⟨[.int, .int], some .int⟩ := by decide +kernel
theorem pd_5 : parseMethodDescriptor "([B)V" = some ⟨[(.array .byte)], none⟩ := by decide +kernel
theorem pd_6 : parseMethodDescriptor "()Lcom/example/pathwarden/pathwarden/util/DerReader$Element;" = some ⟨[], some (.object "com/example/pathwarden/pathwarden/util/DerReader$Element")⟩ := by decide +kernel
theorem pd_7 : parseMethodDescriptor "()Lcom/example/pathwarden/pathwarden/util/DerReader;" = some ⟨[], some (.object "com/example/pathwarden/pathwarden/util/DerReader")⟩ := by decide +kernel
set_option maxRecDepth 65536 in
set_option maxHeartbeats 40000000 in
theorem rm0 (l : Launch) (Z : State) (a0 : Array Value) (hw : ∀ d ∈ tables_1, d.before a0 Z = true) (x0 : Int32) (x1 : Int32) (x2 : Int32) (x3 : Int32) (h0 : Heap) (n0 : Nat) (Z0 : n0 ≤ h0.size) :
    own_CW l Z x code maxLocals ret room_1 #[(.int x0), (.int x1), (.int x2), (.int x3)] h0 (Q0 Z x0 x1 x2 x3 h0 n0) := by
  refine own_metW (plainFor_of_name pn_2) ?_
  intro p e s m below meth c s₁ hx hby hml hret hlk hown hnm hZ X0 e0 hS hk
  refine own_cast (ef_0 m x0 x1 x2 x3) ?_
  have N0 := Fr.nil n0
  show own_Out p e below _ s₁ (mkF m 0 #[.val (.int x0), .val (.int x1), .val (.int x2), .val (.int x3), .unset, .unset, .unset, .unset, .unset, .unset, .unset, .unset, .unset, .unset, .unset, .unset] []) _ _ _
  refine own_to (fun t k => XS.iloadN X0.here hx rfl (hb hby at_0) rfl k) ?_
  show own_Out p e below _ s₁ (mkF m 1 #[.val (.int x0), .val (.int x1), .val (.int x2), .val (.int x3), .unset, .unset, .unset, .unset, .unset, .unset, .unset, .unset, .unset, .unset, .unset, .unset] [(.int x0)]) _ _ _
  refine own_to (fun t k => XS.iconst X0.here hx rfl (hb hby at_1) k) ?_
  show own_Out p e below _ s₁ (mkF m 2 #[.val (.int x0), .val (.int x1), .val (.int x2), .val (.int x3), .unset, .unset, .unset, .unset, .unset, .unset, .unset, .unset, .unset, .unset, .unset, .unset] [(.int (3 : Int32)), (.int x0)]) _ _ _
  refine own_to (fun t k => XS.iand X0.here hx rfl (hb hby at_2) rfl k) ?_
  show own_Out p e below _ s₁ (mkF m 3 #[.val (.int x0), .val (.int x1), .val (.int x2), .val (.int x3), .unset, .unset, .unset, .unset, .unset, .unset, .unset, .unset, .unset, .unset, .unset, .unset] [(.int (x0 &&& (3 : Int32)))]) _ _ _
  refine own_to (fun t k => XS.iconst X0.here hx rfl (hb hby at_3) k) ?_
  show own_Out p e below _ s₁ (mkF m 4 #[.val (.int x0), .val (.int x1), .val (.int x2), .val (.int x3), .unset, .unset, .unset, .unset, .unset, .unset, .unset, .unset, .unset, .unset, .unset, .unset] [(.int (2 : Int32)), (.int (x0 &&& (3 : Int32)))]) _ _ _
  refine own_callS X0 hx hZ hown (argsL := [(.int (x0 &&& (3 : Int32))), (.int (2 : Int32))]) (rest := []) (hw _ (List.mem_of_getElem? (i := 0) rfl)) (hw _ (List.mem_of_getElem? (i := 1) rfl)) (hw _ (List.mem_of_getElem? (i := 2) rfl)) (hw _ (List.mem_of_getElem? (i := 3) rfl)) (by decide) (rm1 l Z a0 hw (x0 &&& (3 : Int32)) (2 : Int32) h0 n0 Z0 ) (by decide) (by decide) e0 rfl (by rw [hml]; rfl) (lenOf pd_4 rfl) rfl (W := 0) (by show 2 * 0 + _ ≤ _; exact Nat.le_of_eq rfl) (hb hby at_4) (by decide) (by decide) fun v1 T1 hh1 L1 X1 e1 hQ1 => ?_
  obtain ⟨rfl, NL1, he1⟩ := hQ1
  replace e1 := e1.trans he1
  have N1 := Fr.app N0 NL1
  show own_Out p e below _ T1 (mkF m 7 #[.val (.int x0), .val (.int x1), .val (.int x2), .val (.int x3), .unset, .unset, .unset, .unset, .unset, .unset, .unset, .unset, .unset, .unset, .unset, .unset] [(.int (R1 (x0 &&& (3 : Int32)) (2 : Int32)))]) _ _ _
  refine own_to (fun t k => XS.istore X1.here hx rfl (hb hby at_7) rfl (l' := #[.val (.int x0), .val (.int x1), .val (.int x2), .val (.int x3), .val (.int (R1 (x0 &&& (3 : Int32)) (2 : Int32))), .unset, .unset, .unset, .unset, .unset, .unset, .unset, .unset, .unset, .unset, .unset]) rfl k) ?_
  show own_Out p e below _ T1 (mkF m 9 #[.val (.int x0), .val (.int x1), .val (.int x2), .val (.int x3), .val (.int (R1 (x0 &&& (3 : Int32)) (2 : Int32))), .unset, .unset, .unset, .unset, .unset, .unset, .unset, .unset, .unset, .unset, .unset] []) _ _ _
  generalize hv_kc : (R1 (x0 &&& (3 : Int32)) (2 : Int32)) = kc
  show own_Out p e below _ T1 (mkF m 9 #[.val (.int x0), .val (.int x1), .val (.int x2), .val (.int x3), .val (.int kc), .unset, .unset, .unset, .unset, .unset, .unset, .unset, .unset, .unset, .unset, .unset] []) _ _ _
  have hk3 := own_cnt x0
  rw [hv_kc] at hk3
  have k0 := own_q0
  have k1 := own_q1
  have k2 := own_q2
  have k01 := own_q01
  have k02 := own_q02
  rcases hk3 with hk_kc | hk_kc | hk_kc
  · subst hk_kc
    show own_Out p e below _ T1 (mkF m 9 #[.val (.int x0), .val (.int x1), .val (.int x2), .val (.int x3), .val (.int (0 : Int32)), .unset, .unset, .unset, .unset, .unset, .unset, .unset, .unset, .unset, .unset, .unset] []) _ _ _
    refine own_to (fun t k => XS.iloadN X1.here hx rfl (hb hby at_9) rfl k) ?_
    show own_Out p e below _ T1 (mkF m 10 #[.val (.int x0), .val (.int x1), .val (.int x2), .val (.int x3), .val (.int (0 : Int32)), .unset, .unset, .unset, .unset, .unset, .unset, .unset, .unset, .unset, .unset, .unset] [(.int x1)]) _ _ _
    refine own_to (fun t k => XS.iconst X1.here hx rfl (hb hby at_10) k) ?_
    show own_Out p e below _ T1 (mkF m 11 #[.val (.int x0), .val (.int x1), .val (.int x2), .val (.int x3), .val (.int (0 : Int32)), .unset, .unset, .unset, .unset, .unset, .unset, .unset, .unset, .unset, .unset, .unset] [(.int (3 : Int32)), (.int x1)]) _ _ _
    refine own_to (fun t k => XS.iand X1.here hx rfl (hb hby at_11) rfl k) ?_
    show own_Out p e below _ T1 (mkF m 12 #[.val (.int x0), .val (.int x1), .val (.int x2), .val (.int x3), .val (.int (0 : Int32)), .unset, .unset, .unset, .unset, .unset, .unset, .unset, .unset, .unset, .unset, .unset] [(.int (x1 &&& (3 : Int32)))]) _ _ _
    refine own_to (fun t k => XS.istore X1.here hx rfl (hb hby at_12) rfl (l' := #[.val (.int x0), .val (.int x1), .val (.int x2), .val (.int x3), .val (.int (0 : Int32)), .val (.int (x1 &&& (3 : Int32))), .unset, .unset, .unset, .unset, .unset, .unset, .unset, .unset, .unset, .unset]) rfl k) ?_
    show own_Out p e below _ T1 (mkF m 14 #[.val (.int x0), .val (.int x1), .val (.int x2), .val (.int x3), .val (.int (0 : Int32)), .val (.int (x1 &&& (3 : Int32))), .unset, .unset, .unset, .unset, .unset, .unset, .unset, .unset, .unset, .unset] []) _ _ _
    generalize hv_l1 : (x1 &&& (3 : Int32)) = l1
    show own_Out p e below _ T1 (mkF m 14 #[.val (.int x0), .val (.int x1), .val (.int x2), .val (.int x3), .val (.int (0 : Int32)), .val (.int l1), .unset, .unset, .unset, .unset, .unset, .unset, .unset, .unset, .unset, .unset] []) _ _ _
    have b_l1 := own_k3 x1
    rw [hv_l1] at b_l1
    refine own_to (fun t k => XS.iloadN X1.here hx rfl (hb hby at_14) rfl k) ?_
    show own_Out p e below _ T1 (mkF m 15 #[.val (.int x0), .val (.int x1), .val (.int x2), .val (.int x3), .val (.int (0 : Int32)), .val (.int l1), .unset, .unset, .unset, .unset, .unset, .unset, .unset, .unset, .unset, .unset] [(.int x2)]) _ _ _
    refine own_to (fun t k => XS.iconst X1.here hx rfl (hb hby at_15) k) ?_
    show own_Out p e below _ T1 (mkF m 16 #[.val (.int x0), .val (.int x1), .val (.int x2), .val (.int x3), .val (.int (0 : Int32)), .val (.int l1), .unset, .unset, .unset, .unset, .unset, .unset, .unset, .unset, .unset, .unset] [(.int (3 : Int32)), (.int x2)]) _ _ _
    refine own_to (fun t k => XS.iand X1.here hx rfl (hb hby at_16) rfl k) ?_
    show own_Out p e below _ T1 (mkF m 17 #[.val (.int x0), .val (.int x1), .val (.int x2), .val (.int x3), .val (.int (0 : Int32)), .val (.int l1), .unset, .unset, .unset, .unset, .unset, .unset, .unset, .unset, .unset, .unset] [(.int (x2 &&& (3 : Int32)))]) _ _ _
    refine own_to (fun t k => XS.istore X1.here hx rfl (hb hby at_17) rfl (l' := #[.val (.int x0), .val (.int x1), .val (.int x2), .val (.int x3), .val (.int (0 : Int32)), .val (.int l1), .val (.int (x2 &&& (3 : Int32))), .unset, .unset, .unset, .unset, .unset, .unset, .unset, .unset, .unset]) rfl k) ?_
    show own_Out p e below _ T1 (mkF m 19 #[.val (.int x0), .val (.int x1), .val (.int x2), .val (.int x3), .val (.int (0 : Int32)), .val (.int l1), .val (.int (x2 &&& (3 : Int32))), .unset, .unset, .unset, .unset, .unset, .unset, .unset, .unset, .unset] []) _ _ _
    generalize hv_l2 : (x2 &&& (3 : Int32)) = l2
    show own_Out p e below _ T1 (mkF m 19 #[.val (.int x0), .val (.int x1), .val (.int x2), .val (.int x3), .val (.int (0 : Int32)), .val (.int l1), .val (.int l2), .unset, .unset, .unset, .unset, .unset, .unset, .unset, .unset, .unset] []) _ _ _
    have b_l2 := own_k3 x2
    rw [hv_l2] at b_l2
    refine own_to (fun t k => XS.iloadN X1.here hx rfl (hb hby at_19) rfl k) ?_
    show own_Out p e below _ T1 (mkF m 20 #[.val (.int x0), .val (.int x1), .val (.int x2), .val (.int x3), .val (.int (0 : Int32)), .val (.int l1), .val (.int l2), .unset, .unset, .unset, .unset, .unset, .unset, .unset, .unset, .unset] [(.int x3)]) _ _ _
    refine own_to (fun t k => XS.iconst X1.here hx rfl (hb hby at_20) k) ?_
    show own_Out p e below _ T1 (mkF m 21 #[.val (.int x0), .val (.int x1), .val (.int x2), .val (.int x3), .val (.int (0 : Int32)), .val (.int l1), .val (.int l2), .unset, .unset, .unset, .unset, .unset, .unset, .unset, .unset, .unset] [(.int (1 : Int32)), (.int x3)]) _ _ _
    refine own_to (fun t k => XS.iand X1.here hx rfl (hb hby at_21) rfl k) ?_
    show own_Out p e below _ T1 (mkF m 22 #[.val (.int x0), .val (.int x1), .val (.int x2), .val (.int x3), .val (.int (0 : Int32)), .val (.int l1), .val (.int l2), .unset, .unset, .unset, .unset, .unset, .unset, .unset, .unset, .unset] [(.int (x3 &&& (1 : Int32)))]) _ _ _
    refine own_to (fun t k => XS.istore X1.here hx rfl (hb hby at_22) rfl (l' := #[.val (.int x0), .val (.int x1), .val (.int x2), .val (.int x3), .val (.int (0 : Int32)), .val (.int l1), .val (.int l2), .val (.int (x3 &&& (1 : Int32))), .unset, .unset, .unset, .unset, .unset, .unset, .unset, .unset]) rfl k) ?_
    show own_Out p e below _ T1 (mkF m 24 #[.val (.int x0), .val (.int x1), .val (.int x2), .val (.int x3), .val (.int (0 : Int32)), .val (.int l1), .val (.int l2), .val (.int (x3 &&& (1 : Int32))), .unset, .unset, .unset, .unset, .unset, .unset, .unset, .unset] []) _ _ _
    generalize hv_tr : (x3 &&& (1 : Int32)) = tr
    show own_Out p e below _ T1 (mkF m 24 #[.val (.int x0), .val (.int x1), .val (.int x2), .val (.int x3), .val (.int (0 : Int32)), .val (.int l1), .val (.int l2), .val (.int tr), .unset, .unset, .unset, .unset, .unset, .unset, .unset, .unset] []) _ _ _
    have ht2 := own_tr x3
    rw [hv_tr] at ht2
    rcases ht2 with hk_tr | hk_tr
    · subst hk_tr
      show own_Out p e below _ T1 (mkF m 24 #[.val (.int x0), .val (.int x1), .val (.int x2), .val (.int x3), .val (.int (0 : Int32)), .val (.int l1), .val (.int l2), .val (.int (0 : Int32)), .unset, .unset, .unset, .unset, .unset, .unset, .unset, .unset] []) _ _ _
      refine own_to (fun t k => XS.iloadN X1.here hx rfl (hb hby at_24) rfl k) ?_
      show own_Out p e below _ T1 (mkF m 25 #[.val (.int x0), .val (.int x1), .val (.int x2), .val (.int x3), .val (.int (0 : Int32)), .val (.int l1), .val (.int l2), .val (.int (0 : Int32)), .unset, .unset, .unset, .unset, .unset, .unset, .unset, .unset] [(.int x3)]) _ _ _
      refine own_to (fun t k => XS.iconst X1.here hx rfl (hb hby at_25) k) ?_
      show own_Out p e below _ T1 (mkF m 26 #[.val (.int x0), .val (.int x1), .val (.int x2), .val (.int x3), .val (.int (0 : Int32)), .val (.int l1), .val (.int l2), .val (.int (0 : Int32)), .unset, .unset, .unset, .unset, .unset, .unset, .unset, .unset] [(.int (1 : Int32)), (.int x3)]) _ _ _
      refine own_to (fun t k => XS.iushr X1.here hx rfl (hb hby at_26) rfl k) ?_
      show own_Out p e below _ T1 (mkF m 27 #[.val (.int x0), .val (.int x1), .val (.int x2), .val (.int x3), .val (.int (0 : Int32)), .val (.int l1), .val (.int l2), .val (.int (0 : Int32)), .unset, .unset, .unset, .unset, .unset, .unset, .unset, .unset] [(.int ((x3.toUInt32 >>> ((1 : Int32) &&& 31).toUInt32).toInt32))]) _ _ _
      refine own_to (fun t k => XS.sipush X1.here hx rfl (hb hby at_27) k) ?_
      show own_Out p e below _ T1 (mkF m 30 #[.val (.int x0), .val (.int x1), .val (.int x2), .val (.int x3), .val (.int (0 : Int32)), .val (.int l1), .val (.int l2), .val (.int (0 : Int32)), .unset, .unset, .unset, .unset, .unset, .unset, .unset, .unset] [(.int (254 : Int32)), (.int ((x3.toUInt32 >>> ((1 : Int32) &&& 31).toUInt32).toInt32))]) _ _ _
      refine own_to (fun t k => XS.iand X1.here hx rfl (hb hby at_30) rfl k) ?_
      show own_Out p e below _ T1 (mkF m 31 #[.val (.int x0), .val (.int x1), .val (.int x2), .val (.int x3), .val (.int (0 : Int32)), .val (.int l1), .val (.int l2), .val (.int (0 : Int32)), .unset, .unset, .unset, .unset, .unset, .unset, .unset, .unset] [(.int (((x3.toUInt32 >>> ((1 : Int32) &&& 31).toUInt32).toInt32) &&& (254 : Int32)))]) _ _ _
      refine own_to (fun t k => XS.istore X1.here hx rfl (hb hby at_31) rfl (l' := #[.val (.int x0), .val (.int x1), .val (.int x2), .val (.int x3), .val (.int (0 : Int32)), .val (.int l1), .val (.int l2), .val (.int (0 : Int32)), .val (.int (((x3.toUInt32 >>> ((1 : Int32) &&& 31).toUInt32).toInt32) &&& (254 : Int32))), .unset, .unset, .unset, .unset, .unset, .unset, .unset]) rfl k) ?_
      show own_Out p e below _ T1 (mkF m 33 #[.val (.int x0), .val (.int x1), .val (.int x2), .val (.int x3), .val (.int (0 : Int32)), .val (.int l1), .val (.int l2), .val (.int (0 : Int32)), .val (.int (((x3.toUInt32 >>> ((1 : Int32) &&& 31).toUInt32).toInt32) &&& (254 : Int32))), .unset, .unset, .unset, .unset, .unset, .unset, .unset] []) _ _ _
      generalize hv_tt : (((x3.toUInt32 >>> ((1 : Int32) &&& 31).toUInt32).toInt32) &&& (254 : Int32)) = tt
      show own_Out p e below _ T1 (mkF m 33 #[.val (.int x0), .val (.int x1), .val (.int x2), .val (.int x3), .val (.int (0 : Int32)), .val (.int l1), .val (.int l2), .val (.int (0 : Int32)), .val (.int tt), .unset, .unset, .unset, .unset, .unset, .unset, .unset] []) _ _ _
      have htt := own_tgok ((x3.toUInt32 >>> ((1 : Int32) &&& 31).toUInt32).toInt32)
      rw [hv_tt] at htt
      refine own_to (fun t k => XS.iload X1.here hx rfl (hb hby at_33) rfl k) ?_
      show own_Out p e below _ T1 (mkF m 35 #[.val (.int x0), .val (.int x1), .val (.int x2), .val (.int x3), .val (.int (0 : Int32)), .val (.int l1), .val (.int l2), .val (.int (0 : Int32)), .val (.int tt), .unset, .unset, .unset, .unset, .unset, .unset, .unset] [(.int (0 : Int32))]) _ _ _
      refine own_to (fun t k => XS.iconst X1.here hx rfl (hb hby at_35) k) ?_
      show own_Out p e below _ T1 (mkF m 36 #[.val (.int x0), .val (.int x1), .val (.int x2), .val (.int x3), .val (.int (0 : Int32)), .val (.int l1), .val (.int l2), .val (.int (0 : Int32)), .val (.int tt), .unset, .unset, .unset, .unset, .unset, .unset, .unset] [(.int (1 : Int32)), (.int (0 : Int32))]) _ _ _
      have hc36 : (0 : Int32) < (1 : Int32) := by decide
      refine own_to (fun t k => XS.icmpYes X1.here hx rfl (pc0 := 36) (pc' := 46) rfl (hb hby at_36) rfl (tlt hc36).1 (by decide) (by decide) k) ?_
      show own_Out p e below _ T1 (mkF m 46 #[.val (.int x0), .val (.int x1), .val (.int x2), .val (.int x3), .val (.int (0 : Int32)), .val (.int l1), .val (.int l2), .val (.int (0 : Int32)), .val (.int tt), .unset, .unset, .unset, .unset, .unset, .unset, .unset] []) _ _ _
      refine own_to (fun t k => XS.iconst X1.here hx rfl (hb hby at_46) k) ?_
      show own_Out p e below _ T1 (mkF m 47 #[.val (.int x0), .val (.int x1), .val (.int x2), .val (.int x3), .val (.int (0 : Int32)), .val (.int l1), .val (.int l2), .val (.int (0 : Int32)), .val (.int tt), .unset, .unset, .unset, .unset, .unset, .unset, .unset] [(.int (0 : Int32))]) _ _ _
      refine own_to (fun t k => XS.istore X1.here hx rfl (hb hby at_47) rfl (l' := #[.val (.int x0), .val (.int x1), .val (.int x2), .val (.int x3), .val (.int (0 : Int32)), .val (.int l1), .val (.int l2), .val (.int (0 : Int32)), .val (.int tt), .val (.int (0 : Int32)), .unset, .unset, .unset, .unset, .unset, .unset]) rfl k) ?_
      show own_Out p e below _ T1 (mkF m 49 #[.val (.int x0), .val (.int x1), .val (.int x2), .val (.int x3), .val (.int (0 : Int32)), .val (.int l1), .val (.int l2), .val (.int (0 : Int32)), .val (.int tt), .val (.int (0 : Int32)), .unset, .unset, .unset, .unset, .unset, .unset] []) _ _ _
      refine own_to (fun t k => XS.iload X1.here hx rfl (hb hby at_49) rfl k) ?_
      show own_Out p e below _ T1 (mkF m 51 #[.val (.int x0), .val (.int x1), .val (.int x2), .val (.int x3), .val (.int (0 : Int32)), .val (.int l1), .val (.int l2), .val (.int (0 : Int32)), .val (.int tt), .val (.int (0 : Int32)), .unset, .unset, .unset, .unset, .unset, .unset] [(.int (0 : Int32))]) _ _ _
      refine own_to (fun t k => XS.iconst X1.here hx rfl (hb hby at_51) k) ?_
      show own_Out p e below _ T1 (mkF m 52 #[.val (.int x0), .val (.int x1), .val (.int x2), .val (.int x3), .val (.int (0 : Int32)), .val (.int l1), .val (.int l2), .val (.int (0 : Int32)), .val (.int tt), .val (.int (0 : Int32)), .unset, .unset, .unset, .unset, .unset, .unset] [(.int (2 : Int32)), (.int (0 : Int32))]) _ _ _
      have hc52 : (0 : Int32) < (2 : Int32) := by decide
      refine own_to (fun t k => XS.icmpYes X1.here hx rfl (pc0 := 52) (pc' := 62) rfl (hb hby at_52) rfl (tlt hc52).1 (by decide) (by decide) k) ?_
      show own_Out p e below _ T1 (mkF m 62 #[.val (.int x0), .val (.int x1), .val (.int x2), .val (.int x3), .val (.int (0 : Int32)), .val (.int l1), .val (.int l2), .val (.int (0 : Int32)), .val (.int tt), .val (.int (0 : Int32)), .unset, .unset, .unset, .unset, .unset, .unset] []) _ _ _
      refine own_to (fun t k => XS.iconst X1.here hx rfl (hb hby at_62) k) ?_
      show own_Out p e below _ T1 (mkF m 63 #[.val (.int x0), .val (.int x1), .val (.int x2), .val (.int x3), .val (.int (0 : Int32)), .val (.int l1), .val (.int l2), .val (.int (0 : Int32)), .val (.int tt), .val (.int (0 : Int32)), .unset, .unset, .unset, .unset, .unset, .unset] [(.int (0 : Int32))]) _ _ _
      refine own_to (fun t k => XS.istore X1.here hx rfl (hb hby at_63) rfl (l' := #[.val (.int x0), .val (.int x1), .val (.int x2), .val (.int x3), .val (.int (0 : Int32)), .val (.int l1), .val (.int l2), .val (.int (0 : Int32)), .val (.int tt), .val (.int (0 : Int32)), .val (.int (0 : Int32)), .unset, .unset, .unset, .unset, .unset]) rfl k) ?_
      show own_Out p e below _ T1 (mkF m 65 #[.val (.int x0), .val (.int x1), .val (.int x2), .val (.int x3), .val (.int (0 : Int32)), .val (.int l1), .val (.int l2), .val (.int (0 : Int32)), .val (.int tt), .val (.int (0 : Int32)), .val (.int (0 : Int32)), .unset, .unset, .unset, .unset, .unset] []) _ _ _
      refine own_to (fun t k => XS.iload X1.here hx rfl (hb hby at_65) rfl k) ?_
      show own_Out p e below _ T1 (mkF m 67 #[.val (.int x0), .val (.int x1), .val (.int x2), .val (.int x3), .val (.int (0 : Int32)), .val (.int l1), .val (.int l2), .val (.int (0 : Int32)), .val (.int tt), .val (.int (0 : Int32)), .val (.int (0 : Int32)), .unset, .unset, .unset, .unset, .unset] [(.int (0 : Int32))]) _ _ _
      refine own_to (fun t k => XS.iload X1.here hx rfl (hb hby at_67) rfl k) ?_
      show own_Out p e below _ T1 (mkF m 69 #[.val (.int x0), .val (.int x1), .val (.int x2), .val (.int x3), .val (.int (0 : Int32)), .val (.int l1), .val (.int l2), .val (.int (0 : Int32)), .val (.int tt), .val (.int (0 : Int32)), .val (.int (0 : Int32)), .unset, .unset, .unset, .unset, .unset] [(.int (0 : Int32)), (.int (0 : Int32))]) _ _ _
      refine own_to (fun t k => XS.iadd X1.here hx rfl (hb hby at_69) rfl k) ?_
      show own_Out p e below _ T1 (mkF m 70 #[.val (.int x0), .val (.int x1), .val (.int x2), .val (.int x3), .val (.int (0 : Int32)), .val (.int l1), .val (.int l2), .val (.int (0 : Int32)), .val (.int tt), .val (.int (0 : Int32)), .val (.int (0 : Int32)), .unset, .unset, .unset, .unset, .unset] [(.int ((0 : Int32) + (0 : Int32)))]) _ _ _
      refine own_to (fun t k => XS.iload X1.here hx rfl (hb hby at_70) rfl k) ?_
      show own_Out p e below _ T1 (mkF m 72 #[.val (.int x0), .val (.int x1), .val (.int x2), .val (.int x3), .val (.int (0 : Int32)), .val (.int l1), .val (.int l2), .val (.int (0 : Int32)), .val (.int tt), .val (.int (0 : Int32)), .val (.int (0 : Int32)), .unset, .unset, .unset, .unset, .unset] [(.int (0 : Int32)), (.int ((0 : Int32) + (0 : Int32)))]) _ _ _
      refine own_to (fun t k => XS.iadd X1.here hx rfl (hb hby at_72) rfl k) ?_
      show own_Out p e below _ T1 (mkF m 73 #[.val (.int x0), .val (.int x1), .val (.int x2), .val (.int x3), .val (.int (0 : Int32)), .val (.int l1), .val (.int l2), .val (.int (0 : Int32)), .val (.int tt), .val (.int (0 : Int32)), .val (.int (0 : Int32)), .unset, .unset, .unset, .unset, .unset] [(.int (((0 : Int32) + (0 : Int32)) + (0 : Int32)))]) _ _ _
      rw [show (((0 : Int32) + (0 : Int32)) + (0 : Int32)) = (0 : Int32) from by decide]
      show own_Out p e below _ T1 (mkF m 73 #[.val (.int x0), .val (.int x1), .val (.int x2), .val (.int x3), .val (.int (0 : Int32)), .val (.int l1), .val (.int l2), .val (.int (0 : Int32)), .val (.int tt), .val (.int (0 : Int32)), .val (.int (0 : Int32)), .unset, .unset, .unset, .unset, .unset] [(.int (0 : Int32))]) _ _ _
      refine own_newA X1 hx hZ (hw _ (List.mem_of_getElem? (i := 4) rfl)) rfl e1 rfl (hb hby at_73) rfl (by decide) (cap := 0) (by decide) (by decide) (by decide) (by decide) fun T2 hh2 ob2 gb2 X2 e2 E2 A2 => ?_
      have g_ob2 : n0 ≤ ob2 := Nat.le_trans Z0 (Nat.le_of_eq gb2.symm)
      have Z0 := Nat.le_trans Z0 E2.1
      have hk := Nat.le_trans hk E2.1
      have A_ob2 : own_A Z hh2 ob2 .byte 0 (fun _ => 0) := A2
      show own_Out p e below _ T2 (mkF m 75 #[.val (.int x0), .val (.int x1), .val (.int x2), .val (.int x3), .val (.int (0 : Int32)), .val (.int l1), .val (.int l2), .val (.int (0 : Int32)), .val (.int tt), .val (.int (0 : Int32)), .val (.int (0 : Int32)), .unset, .unset, .unset, .unset, .unset] [(.ref ob2)]) _ _ _
      refine own_to (fun t k => XS.astore X2.here hx rfl (hb hby at_75) rfl rfl (l' := #[.val (.int x0), .val (.int x1), .val (.int x2), .val (.int x3), .val (.int (0 : Int32)), .val (.int l1), .val (.int l2), .val (.int (0 : Int32)), .val (.int tt), .val (.int (0 : Int32)), .val (.int (0 : Int32)), .val (.ref ob2), .unset, .unset, .unset, .unset]) rfl k) ?_
      show own_Out p e below _ T2 (mkF m 77 #[.val (.int x0), .val (.int x1), .val (.int x2), .val (.int x3), .val (.int (0 : Int32)), .val (.int l1), .val (.int l2), .val (.int (0 : Int32)), .val (.int tt), .val (.int (0 : Int32)), .val (.int (0 : Int32)), .val (.ref ob2), .unset, .unset, .unset, .unset] []) _ _ _
      refine own_to (fun t k => XS.iload X2.here hx rfl (hb hby at_77) rfl k) ?_
      show own_Out p e below _ T2 (mkF m 79 #[.val (.int x0), .val (.int x1), .val (.int x2), .val (.int x3), .val (.int (0 : Int32)), .val (.int l1), .val (.int l2), .val (.int (0 : Int32)), .val (.int tt), .val (.int (0 : Int32)), .val (.int (0 : Int32)), .val (.ref ob2), .unset, .unset, .unset, .unset] [(.int (0 : Int32))]) _ _ _
      refine own_to (fun t k => XS.iconst X2.here hx rfl (hb hby at_79) k) ?_
      show own_Out p e below _ T2 (mkF m 80 #[.val (.int x0), .val (.int x1), .val (.int x2), .val (.int x3), .val (.int (0 : Int32)), .val (.int l1), .val (.int l2), .val (.int (0 : Int32)), .val (.int tt), .val (.int (0 : Int32)), .val (.int (0 : Int32)), .val (.ref ob2), .unset, .unset, .unset, .unset] [(.int (1 : Int32)), (.int (0 : Int32))]) _ _ _
      have hc80 : (0 : Int32) < (1 : Int32) := by decide
      refine own_to (fun t k => XS.icmpYes X2.here hx rfl (pc0 := 80) (pc' := 97) rfl (hb hby at_80) rfl (tlt hc80).1 (by decide) (by decide) k) ?_
      show own_Out p e below _ T2 (mkF m 97 #[.val (.int x0), .val (.int x1), .val (.int x2), .val (.int x3), .val (.int (0 : Int32)), .val (.int l1), .val (.int l2), .val (.int (0 : Int32)), .val (.int tt), .val (.int (0 : Int32)), .val (.int (0 : Int32)), .val (.ref ob2), .unset, .unset, .unset, .unset] []) _ _ _
      refine own_to (fun t k => XS.iload X2.here hx rfl (hb hby at_97) rfl k) ?_
      show own_Out p e below _ T2 (mkF m 99 #[.val (.int x0), .val (.int x1), .val (.int x2), .val (.int x3), .val (.int (0 : Int32)), .val (.int l1), .val (.int l2), .val (.int (0 : Int32)), .val (.int tt), .val (.int (0 : Int32)), .val (.int (0 : Int32)), .val (.ref ob2), .unset, .unset, .unset, .unset] [(.int (0 : Int32))]) _ _ _
      refine own_to (fun t k => XS.iconst X2.here hx rfl (hb hby at_99) k) ?_
      show own_Out p e below _ T2 (mkF m 100 #[.val (.int x0), .val (.int x1), .val (.int x2), .val (.int x3), .val (.int (0 : Int32)), .val (.int l1), .val (.int l2), .val (.int (0 : Int32)), .val (.int tt), .val (.int (0 : Int32)), .val (.int (0 : Int32)), .val (.ref ob2), .unset, .unset, .unset, .unset] [(.int (2 : Int32)), (.int (0 : Int32))]) _ _ _
      have hc100 : (0 : Int32) < (2 : Int32) := by decide
      refine own_to (fun t k => XS.icmpYes X2.here hx rfl (pc0 := 100) (pc' := 121) rfl (hb hby at_100) rfl (tlt hc100).1 (by decide) (by decide) k) ?_
      show own_Out p e below _ T2 (mkF m 121 #[.val (.int x0), .val (.int x1), .val (.int x2), .val (.int x3), .val (.int (0 : Int32)), .val (.int l1), .val (.int l2), .val (.int (0 : Int32)), .val (.int tt), .val (.int (0 : Int32)), .val (.int (0 : Int32)), .val (.ref ob2), .unset, .unset, .unset, .unset] []) _ _ _
      refine own_to (fun t k => XS.iload X2.here hx rfl (hb hby at_121) rfl k) ?_
      show own_Out p e below _ T2 (mkF m 123 #[.val (.int x0), .val (.int x1), .val (.int x2), .val (.int x3), .val (.int (0 : Int32)), .val (.int l1), .val (.int l2), .val (.int (0 : Int32)), .val (.int tt), .val (.int (0 : Int32)), .val (.int (0 : Int32)), .val (.ref ob2), .unset, .unset, .unset, .unset] [(.int (0 : Int32))]) _ _ _
      refine own_to (fun t k => XS.iconst X2.here hx rfl (hb hby at_123) k) ?_
      show own_Out p e below _ T2 (mkF m 124 #[.val (.int x0), .val (.int x1), .val (.int x2), .val (.int x3), .val (.int (0 : Int32)), .val (.int l1), .val (.int l2), .val (.int (0 : Int32)), .val (.int tt), .val (.int (0 : Int32)), .val (.int (0 : Int32)), .val (.ref ob2), .unset, .unset, .unset, .unset] [(.int (1 : Int32)), (.int (0 : Int32))]) _ _ _
      have hc124 : ¬ ((0 : Int32) = (1 : Int32)) := by decide
      refine own_to (fun t k => XS.icmpYes X2.here hx rfl (pc0 := 124) (pc' := 138) rfl (hb hby at_124) rfl (feq hc124).2 (by decide) (by decide) k) ?_
      show own_Out p e below _ T2 (mkF m 138 #[.val (.int x0), .val (.int x1), .val (.int x2), .val (.int x3), .val (.int (0 : Int32)), .val (.int l1), .val (.int l2), .val (.int (0 : Int32)), .val (.int tt), .val (.int (0 : Int32)), .val (.int (0 : Int32)), .val (.ref ob2), .unset, .unset, .unset, .unset] []) _ _ _
      refine own_new X2 hx hZ hown (hw _ (List.mem_of_getElem? (i := 5) rfl)) (hw _ (List.mem_of_getElem? (i := 6) rfl)) (hw _ (List.mem_of_getElem? (i := 7) rfl)) e2 rfl (hb hby at_138) (by decide) (by decide) fun T3 hh3 ob3 gb3 X3 e3 E3 A3 D3 => ?_
      have ne_ob2_ob3 : ob2 ≠ ob3 := Nat.ne_of_lt (Nat.lt_of_lt_of_le A_ob2.lt (Nat.le_of_eq gb3.symm))
      have ne_ob3_ob2 := Ne.symm ne_ob2_ob3
      have g_ob3 : n0 ≤ ob3 := Nat.le_trans Z0 (Nat.le_of_eq gb3.symm)
      have A_ob2 := A_ob2.ext E3
      have Z0 := Nat.le_trans Z0 E3.1
      have hk := Nat.le_trans hk E3.1
      have E_ob3 := A3
      have F_ob3_bytes : Fld Z hh3 ob3 "com/example/pathwarden/pathwarden/util/DerReader" "bytes" "[B" .null := D3 (Or.inr (hw _ (List.mem_of_getElem? (i := 18) rfl))) (ty := (.array .byte)) (by decide)
      have F_ob3_position : Fld Z hh3 ob3 "com/example/pathwarden/pathwarden/util/DerReader" "position" "I" (.int (0 : Int32)) := D3 (Or.inl (hw _ (List.mem_of_getElem? (i := 20) rfl))) (ty := .int) (by decide)
      have F_ob3_end : Fld Z hh3 ob3 "com/example/pathwarden/pathwarden/util/DerReader" "end" "I" (.int (0 : Int32)) := D3 (Or.inr (hw _ (List.mem_of_getElem? (i := 22) rfl))) (ty := .int) (by decide)
      show own_Out p e below _ T3 (mkF m 141 #[.val (.int x0), .val (.int x1), .val (.int x2), .val (.int x3), .val (.int (0 : Int32)), .val (.int l1), .val (.int l2), .val (.int (0 : Int32)), .val (.int tt), .val (.int (0 : Int32)), .val (.int (0 : Int32)), .val (.ref ob2), .unset, .unset, .unset, .unset] [(.ref ob3)]) _ _ _
      refine own_to (fun t k => XS.dup X3.here hx rfl (hb hby at_141) rfl rfl k) ?_
      show own_Out p e below _ T3 (mkF m 142 #[.val (.int x0), .val (.int x1), .val (.int x2), .val (.int x3), .val (.int (0 : Int32)), .val (.int l1), .val (.int l2), .val (.int (0 : Int32)), .val (.int tt), .val (.int (0 : Int32)), .val (.int (0 : Int32)), .val (.ref ob2), .unset, .unset, .unset, .unset] [(.ref ob3), (.ref ob3)]) _ _ _
      refine own_to (fun t k => XS.aload X3.here hx rfl (hb hby at_142) rfl rfl k) ?_
      show own_Out p e below _ T3 (mkF m 144 #[.val (.int x0), .val (.int x1), .val (.int x2), .val (.int x3), .val (.int (0 : Int32)), .val (.int l1), .val (.int l2), .val (.int (0 : Int32)), .val (.int tt), .val (.int (0 : Int32)), .val (.int (0 : Int32)), .val (.ref ob2), .unset, .unset, .unset, .unset] [(.ref ob2), (.ref ob3), (.ref ob3)]) _ _ _
      refine own_callC X3 hx hZ hown (a := ob3) (argsL := [(.ref ob2)]) (rest := [(.ref ob3)]) rfl (hw _ (List.mem_of_getElem? (i := 8) rfl)) (hw _ (List.mem_of_getElem? (i := 9) rfl)) (hw _ (List.mem_of_getElem? (i := 7) rfl)) (hw _ (List.mem_of_getElem? (i := 10) rfl)) (by decide) (rm2 l Z a0 hw ob3 ob2 0 (fun _ => 0) hh3 n0 Z0 E_ob3 F_ob3_bytes F_ob3_position F_ob3_end g_ob3 A_ob2 ne_ob2_ob3) (by decide) (by decide) e3 rfl (by rw [hml]; rfl) (lenOf pd_5 rfl) rfl (W := 1) (by show 2 * 0 + _ ≤ _; exact Nat.le_of_eq rfl) (hb hby at_144) (by decide) (by decide) fun v4 T4 hh4 L4 X4 e4 hQ4 => ?_
      obtain ⟨rfl, NL4, KK4, P4_0, P4_1, P4_2⟩ := hQ4
      have A_ob2 := A_ob2.keep KK4 (by simp [ne_ob2_ob3])
      have E_ob3 := E_ob3.keep KK4
      have F_ob3_bytes := P4_0
      have F_ob3_position := P4_1
      have F_ob3_end := P4_2
      have Z0 := Nat.le_trans Z0 KK4.1
      have hk := Nat.le_trans hk KK4.1
      have N4 := Fr.app N1 NL4
      show own_Out p e below _ T4 (mkF m 147 #[.val (.int x0), .val (.int x1), .val (.int x2), .val (.int x3), .val (.int (0 : Int32)), .val (.int l1), .val (.int l2), .val (.int (0 : Int32)), .val (.int tt), .val (.int (0 : Int32)), .val (.int (0 : Int32)), .val (.ref ob2), .unset, .unset, .unset, .unset] [(.ref ob3)]) _ _ _
      rw [show (Nat.toInt32 0) = (0 : Int32) from by decide] at F_ob3_end
      refine own_to (fun t k => XS.astore X4.here hx rfl (hb hby at_147) rfl rfl (l' := #[.val (.int x0), .val (.int x1), .val (.int x2), .val (.int x3), .val (.int (0 : Int32)), .val (.int l1), .val (.int l2), .val (.int (0 : Int32)), .val (.int tt), .val (.int (0 : Int32)), .val (.int (0 : Int32)), .val (.ref ob2), .val (.ref ob3), .unset, .unset, .unset]) rfl k) ?_
      show own_Out p e below _ T4 (mkF m 149 #[.val (.int x0), .val (.int x1), .val (.int x2), .val (.int x3), .val (.int (0 : Int32)), .val (.int l1), .val (.int l2), .val (.int (0 : Int32)), .val (.int tt), .val (.int (0 : Int32)), .val (.int (0 : Int32)), .val (.ref ob2), .val (.ref ob3), .unset, .unset, .unset] []) _ _ _
      refine own_to (fun t k => XS.iload X4.here hx rfl (hb hby at_149) rfl k) ?_
      show own_Out p e below _ T4 (mkF m 151 #[.val (.int x0), .val (.int x1), .val (.int x2), .val (.int x3), .val (.int (0 : Int32)), .val (.int l1), .val (.int l2), .val (.int (0 : Int32)), .val (.int tt), .val (.int (0 : Int32)), .val (.int (0 : Int32)), .val (.ref ob2), .val (.ref ob3), .unset, .unset, .unset] [(.int (0 : Int32))]) _ _ _
      have hc151 : ¬ ((0 : Int32) < (0 : Int32)) := by decide
      refine own_to (fun t k => XS.ifNo X4.here hx rfl (hb hby at_151) rfl ((if0 _ _).trans (flt hc151).2.2.1) k) ?_
      show own_Out p e below _ T4 (mkF m 154 #[.val (.int x0), .val (.int x1), .val (.int x2), .val (.int x3), .val (.int (0 : Int32)), .val (.int l1), .val (.int l2), .val (.int (0 : Int32)), .val (.int tt), .val (.int (0 : Int32)), .val (.int (0 : Int32)), .val (.ref ob2), .val (.ref ob3), .unset, .unset, .unset] []) _ _ _
      refine own_to (fun t k => XS.iload X4.here hx rfl (hb hby at_154) rfl k) ?_
      show own_Out p e below _ T4 (mkF m 156 #[.val (.int x0), .val (.int x1), .val (.int x2), .val (.int x3), .val (.int (0 : Int32)), .val (.int l1), .val (.int l2), .val (.int (0 : Int32)), .val (.int tt), .val (.int (0 : Int32)), .val (.int (0 : Int32)), .val (.ref ob2), .val (.ref ob3), .unset, .unset, .unset] [(.int (0 : Int32))]) _ _ _
      refine own_to (fun t k => XS.iconst X4.here hx rfl (hb hby at_156) k) ?_
      show own_Out p e below _ T4 (mkF m 157 #[.val (.int x0), .val (.int x1), .val (.int x2), .val (.int x3), .val (.int (0 : Int32)), .val (.int l1), .val (.int l2), .val (.int (0 : Int32)), .val (.int tt), .val (.int (0 : Int32)), .val (.int (0 : Int32)), .val (.ref ob2), .val (.ref ob3), .unset, .unset, .unset] [(.int (1 : Int32)), (.int (0 : Int32))]) _ _ _
      have hc157 : ¬ ((0 : Int32) = (1 : Int32)) := by decide
      refine own_to (fun t k => XS.icmpYes X4.here hx rfl (pc0 := 157) (pc' := 164) rfl (hb hby at_157) rfl (feq hc157).2 (by decide) (by decide) k) ?_
      show own_Out p e below _ T4 (mkF m 164 #[.val (.int x0), .val (.int x1), .val (.int x2), .val (.int x3), .val (.int (0 : Int32)), .val (.int l1), .val (.int l2), .val (.int (0 : Int32)), .val (.int tt), .val (.int (0 : Int32)), .val (.int (0 : Int32)), .val (.ref ob2), .val (.ref ob3), .unset, .unset, .unset] []) _ _ _
      refine own_to (fun t k => XS.iconst X4.here hx rfl (hb hby at_164) k) ?_
      show own_Out p e below _ T4 (mkF m 165 #[.val (.int x0), .val (.int x1), .val (.int x2), .val (.int x3), .val (.int (0 : Int32)), .val (.int l1), .val (.int l2), .val (.int (0 : Int32)), .val (.int tt), .val (.int (0 : Int32)), .val (.int (0 : Int32)), .val (.ref ob2), .val (.ref ob3), .unset, .unset, .unset] [(.int (0 : Int32))]) _ _ _
      refine own_to (fun t k => XS.istore X4.here hx rfl (hb hby at_165) rfl (l' := #[.val (.int x0), .val (.int x1), .val (.int x2), .val (.int x3), .val (.int (0 : Int32)), .val (.int l1), .val (.int l2), .val (.int (0 : Int32)), .val (.int tt), .val (.int (0 : Int32)), .val (.int (0 : Int32)), .val (.ref ob2), .val (.ref ob3), .val (.int (0 : Int32)), .unset, .unset]) rfl k) ?_
      show own_Out p e below _ T4 (mkF m 167 #[.val (.int x0), .val (.int x1), .val (.int x2), .val (.int x3), .val (.int (0 : Int32)), .val (.int l1), .val (.int l2), .val (.int (0 : Int32)), .val (.int tt), .val (.int (0 : Int32)), .val (.int (0 : Int32)), .val (.ref ob2), .val (.ref ob3), .val (.int (0 : Int32)), .unset, .unset] []) _ _ _
      refine own_to (fun t k => XS.aload X4.here hx rfl (hb hby at_167) rfl rfl k) ?_
      show own_Out p e below _ T4 (mkF m 169 #[.val (.int x0), .val (.int x1), .val (.int x2), .val (.int x3), .val (.int (0 : Int32)), .val (.int l1), .val (.int l2), .val (.int (0 : Int32)), .val (.int tt), .val (.int (0 : Int32)), .val (.int (0 : Int32)), .val (.ref ob2), .val (.ref ob3), .val (.int (0 : Int32)), .unset, .unset] [(.ref ob3)]) _ _ _
      refine own_callV X4 hx hZ hown (a := ob3) (argsL := []) (rest := []) (hw _ (List.mem_of_getElem? (i := 23) rfl)) (hw _ (List.mem_of_getElem? (i := 24) rfl)) (hw _ (List.mem_of_getElem? (i := 26) rfl)) (hw _ (List.mem_of_getElem? (i := 25) rfl)) (hw _ (List.mem_of_getElem? (i := 7) rfl)) (hw _ (List.mem_of_getElem? (i := 27) rfl)) (by decide) (rm5 l Z a0 hw ob3 (0 : Int32) (0 : Int32) hh4 n0 Z0 F_ob3_position F_ob3_end) (by decide) (by decide) e4 E_ob3 rfl (by rw [hml]; rfl) (lenOf pd_1 rfl) rfl (W := 0) (by show 2 * 0 + _ ≤ _; exact Nat.le_of_eq rfl) (hb hby at_169) (by decide) (by decide) fun v5 T5 hh5 L5 X5 e5 hQ5 => ?_
      obtain ⟨rfl, NL5, he5⟩ := hQ5
      replace e5 := e5.trans he5
      have N5 := Fr.app N4 NL5
      show own_Out p e below _ T5 (mkF m 172 #[.val (.int x0), .val (.int x1), .val (.int x2), .val (.int x3), .val (.int (0 : Int32)), .val (.int l1), .val (.int l2), .val (.int (0 : Int32)), .val (.int tt), .val (.int (0 : Int32)), .val (.int (0 : Int32)), .val (.ref ob2), .val (.ref ob3), .val (.int (0 : Int32)), .unset, .unset] [(.int (R5 ob3 (0 : Int32) (0 : Int32)))]) _ _ _
      refine own_to (fun t k => XS.iload X5.here hx rfl (hb hby at_172) rfl k) ?_
      show own_Out p e below _ T5 (mkF m 174 #[.val (.int x0), .val (.int x1), .val (.int x2), .val (.int x3), .val (.int (0 : Int32)), .val (.int l1), .val (.int l2), .val (.int (0 : Int32)), .val (.int tt), .val (.int (0 : Int32)), .val (.int (0 : Int32)), .val (.ref ob2), .val (.ref ob3), .val (.int (0 : Int32)), .unset, .unset] [(.int (0 : Int32)), (.int (R5 ob3 (0 : Int32) (0 : Int32)))]) _ _ _
      have hc174 : (R5 ob3 (0 : Int32) (0 : Int32)) = (0 : Int32) := own_hn0 _ _ _ (by decide)
      refine own_to (fun t k => XS.icmpNo X5.here hx rfl (hb hby at_174) rfl (teq hc174).2 k) ?_
      show own_Out p e below _ T5 (mkF m 177 #[.val (.int x0), .val (.int x1), .val (.int x2), .val (.int x3), .val (.int (0 : Int32)), .val (.int l1), .val (.int l2), .val (.int (0 : Int32)), .val (.int tt), .val (.int (0 : Int32)), .val (.int (0 : Int32)), .val (.ref ob2), .val (.ref ob3), .val (.int (0 : Int32)), .unset, .unset] []) _ _ _
      refine own_to (fun t k => XS.iconst X5.here hx rfl (hb hby at_177) k) ?_
      show own_Out p e below _ T5 (mkF m 178 #[.val (.int x0), .val (.int x1), .val (.int x2), .val (.int x3), .val (.int (0 : Int32)), .val (.int l1), .val (.int l2), .val (.int (0 : Int32)), .val (.int tt), .val (.int (0 : Int32)), .val (.int (0 : Int32)), .val (.ref ob2), .val (.ref ob3), .val (.int (0 : Int32)), .unset, .unset] [(.int (1 : Int32))]) _ _ _
      refine own_to (fun t k => XS.goto X5.here hx rfl (pc0 := 178) (pc' := 182) rfl (hb hby at_178) (by decide) (by decide) k) ?_
      show own_Out p e below _ T5 (mkF m 182 #[.val (.int x0), .val (.int x1), .val (.int x2), .val (.int x3), .val (.int (0 : Int32)), .val (.int l1), .val (.int l2), .val (.int (0 : Int32)), .val (.int tt), .val (.int (0 : Int32)), .val (.int (0 : Int32)), .val (.ref ob2), .val (.ref ob3), .val (.int (0 : Int32)), .unset, .unset] [(.int (1 : Int32))]) _ _ _
      refine own_to (fun t k => XS.istore X5.here hx rfl (hb hby at_182) rfl (l' := #[.val (.int x0), .val (.int x1), .val (.int x2), .val (.int x3), .val (.int (0 : Int32)), .val (.int l1), .val (.int l2), .val (.int (0 : Int32)), .val (.int tt), .val (.int (0 : Int32)), .val (.int (0 : Int32)), .val (.ref ob2), .val (.ref ob3), .val (.int (0 : Int32)), .val (.int (1 : Int32)), .unset]) rfl k) ?_
      show own_Out p e below _ T5 (mkF m 184 #[.val (.int x0), .val (.int x1), .val (.int x2), .val (.int x3), .val (.int (0 : Int32)), .val (.int l1), .val (.int l2), .val (.int (0 : Int32)), .val (.int tt), .val (.int (0 : Int32)), .val (.int (0 : Int32)), .val (.ref ob2), .val (.ref ob3), .val (.int (0 : Int32)), .val (.int (1 : Int32)), .unset] []) _ _ _
      refine own_to (fun t k => XS.iload X5.here hx rfl (hb hby at_184) rfl k) ?_
      show own_Out p e below _ T5 (mkF m 186 #[.val (.int x0), .val (.int x1), .val (.int x2), .val (.int x3), .val (.int (0 : Int32)), .val (.int l1), .val (.int l2), .val (.int (0 : Int32)), .val (.int tt), .val (.int (0 : Int32)), .val (.int (0 : Int32)), .val (.ref ob2), .val (.ref ob3), .val (.int (0 : Int32)), .val (.int (1 : Int32)), .unset] [(.int (1 : Int32))]) _ _ _
      have hc186 : ¬ ((1 : Int32) = (0 : Int32)) := by decide
      refine own_to (fun t k => XS.ifNo X5.here hx rfl (hb hby at_186) rfl ((if0 _ _).trans (feq hc186).1) k) ?_
      show own_Out p e below _ T5 (mkF m 189 #[.val (.int x0), .val (.int x1), .val (.int x2), .val (.int x3), .val (.int (0 : Int32)), .val (.int l1), .val (.int l2), .val (.int (0 : Int32)), .val (.int tt), .val (.int (0 : Int32)), .val (.int (0 : Int32)), .val (.ref ob2), .val (.ref ob3), .val (.int (0 : Int32)), .val (.int (1 : Int32)), .unset] []) _ _ _
      refine own_to (fun t k => XS.aload X5.here hx rfl (hb hby at_189) rfl rfl k) ?_
      show own_Out p e below _ T5 (mkF m 191 #[.val (.int x0), .val (.int x1), .val (.int x2), .val (.int x3), .val (.int (0 : Int32)), .val (.int l1), .val (.int l2), .val (.int (0 : Int32)), .val (.int tt), .val (.int (0 : Int32)), .val (.int (0 : Int32)), .val (.ref ob2), .val (.ref ob3), .val (.int (0 : Int32)), .val (.int (1 : Int32)), .unset] [(.ref ob3)]) _ _ _
      refine own_callV X5 hx hZ hown (a := ob3) (argsL := []) (rest := []) (hw _ (List.mem_of_getElem? (i := 23) rfl)) (hw _ (List.mem_of_getElem? (i := 24) rfl)) (hw _ (List.mem_of_getElem? (i := 26) rfl)) (hw _ (List.mem_of_getElem? (i := 25) rfl)) (hw _ (List.mem_of_getElem? (i := 7) rfl)) (hw _ (List.mem_of_getElem? (i := 27) rfl)) (by decide) (rm5 l Z a0 hw ob3 (0 : Int32) (0 : Int32) hh4 n0 Z0 F_ob3_position F_ob3_end) (by decide) (by decide) e5 E_ob3 rfl (by rw [hml]; rfl) (lenOf pd_1 rfl) rfl (W := 0) (by show 2 * 0 + _ ≤ _; exact Nat.le_of_eq rfl) (hb hby at_191) (by decide) (by decide) fun v6 T6 hh6 L6 X6 e6 hQ6 => ?_
      obtain ⟨rfl, NL6, he6⟩ := hQ6
      replace e6 := e6.trans he6
      have N6 := Fr.app N5 NL6
      show own_Out p e below _ T6 (mkF m 194 #[.val (.int x0), .val (.int x1), .val (.int x2), .val (.int x3), .val (.int (0 : Int32)), .val (.int l1), .val (.int l2), .val (.int (0 : Int32)), .val (.int tt), .val (.int (0 : Int32)), .val (.int (0 : Int32)), .val (.ref ob2), .val (.ref ob3), .val (.int (0 : Int32)), .val (.int (1 : Int32)), .unset] [(.int (R5 ob3 (0 : Int32) (0 : Int32)))]) _ _ _
      refine own_to (fun t k => XS.iload X6.here hx rfl (hb hby at_194) rfl k) ?_
      show own_Out p e below _ T6 (mkF m 196 #[.val (.int x0), .val (.int x1), .val (.int x2), .val (.int x3), .val (.int (0 : Int32)), .val (.int l1), .val (.int l2), .val (.int (0 : Int32)), .val (.int tt), .val (.int (0 : Int32)), .val (.int (0 : Int32)), .val (.ref ob2), .val (.ref ob3), .val (.int (0 : Int32)), .val (.int (1 : Int32)), .unset] [(.int (0 : Int32)), (.int (R5 ob3 (0 : Int32) (0 : Int32)))]) _ _ _
      have hc196 : (R5 ob3 (0 : Int32) (0 : Int32)) = (0 : Int32) := own_hn0 _ _ _ (by decide)
      refine own_to (fun t k => XS.icmpNo X6.here hx rfl (hb hby at_196) rfl (teq hc196).2 k) ?_
      show own_Out p e below _ T6 (mkF m 199 #[.val (.int x0), .val (.int x1), .val (.int x2), .val (.int x3), .val (.int (0 : Int32)), .val (.int l1), .val (.int l2), .val (.int (0 : Int32)), .val (.int tt), .val (.int (0 : Int32)), .val (.int (0 : Int32)), .val (.ref ob2), .val (.ref ob3), .val (.int (0 : Int32)), .val (.int (1 : Int32)), .unset] []) _ _ _
      refine own_to (fun t k => XS.iconst X6.here hx rfl (hb hby at_199) k) ?_
      show own_Out p e below _ T6 (mkF m 200 #[.val (.int x0), .val (.int x1), .val (.int x2), .val (.int x3), .val (.int (0 : Int32)), .val (.int l1), .val (.int l2), .val (.int (0 : Int32)), .val (.int tt), .val (.int (0 : Int32)), .val (.int (0 : Int32)), .val (.ref ob2), .val (.ref ob3), .val (.int (0 : Int32)), .val (.int (1 : Int32)), .unset] [(.int (1 : Int32))]) _ _ _
      refine own_to (fun t k => XS.goto X6.here hx rfl (pc0 := 200) (pc' := 204) rfl (hb hby at_200) (by decide) (by decide) k) ?_
      show own_Out p e below _ T6 (mkF m 204 #[.val (.int x0), .val (.int x1), .val (.int x2), .val (.int x3), .val (.int (0 : Int32)), .val (.int l1), .val (.int l2), .val (.int (0 : Int32)), .val (.int tt), .val (.int (0 : Int32)), .val (.int (0 : Int32)), .val (.ref ob2), .val (.ref ob3), .val (.int (0 : Int32)), .val (.int (1 : Int32)), .unset] [(.int (1 : Int32))]) _ _ _
      refine own_to (fun t k => XS.istore X6.here hx rfl (hb hby at_204) rfl (l' := #[.val (.int x0), .val (.int x1), .val (.int x2), .val (.int x3), .val (.int (0 : Int32)), .val (.int l1), .val (.int l2), .val (.int (0 : Int32)), .val (.int tt), .val (.int (0 : Int32)), .val (.int (0 : Int32)), .val (.ref ob2), .val (.ref ob3), .val (.int (0 : Int32)), .val (.int (1 : Int32)), .unset]) rfl k) ?_
      show own_Out p e below _ T6 (mkF m 206 #[.val (.int x0), .val (.int x1), .val (.int x2), .val (.int x3), .val (.int (0 : Int32)), .val (.int l1), .val (.int l2), .val (.int (0 : Int32)), .val (.int tt), .val (.int (0 : Int32)), .val (.int (0 : Int32)), .val (.ref ob2), .val (.ref ob3), .val (.int (0 : Int32)), .val (.int (1 : Int32)), .unset] []) _ _ _
      refine own_to (fun t k => XS.iload X6.here hx rfl (hb hby at_206) rfl k) ?_
      show own_Out p e below _ T6 (mkF m 208 #[.val (.int x0), .val (.int x1), .val (.int x2), .val (.int x3), .val (.int (0 : Int32)), .val (.int l1), .val (.int l2), .val (.int (0 : Int32)), .val (.int tt), .val (.int (0 : Int32)), .val (.int (0 : Int32)), .val (.ref ob2), .val (.ref ob3), .val (.int (0 : Int32)), .val (.int (1 : Int32)), .unset] [(.int (0 : Int32))]) _ _ _
      refine own_to (fun t k => XS.iconst X6.here hx rfl (hb hby at_208) k) ?_
      show own_Out p e below _ T6 (mkF m 209 #[.val (.int x0), .val (.int x1), .val (.int x2), .val (.int x3), .val (.int (0 : Int32)), .val (.int l1), .val (.int l2), .val (.int (0 : Int32)), .val (.int tt), .val (.int (0 : Int32)), .val (.int (0 : Int32)), .val (.ref ob2), .val (.ref ob3), .val (.int (0 : Int32)), .val (.int (1 : Int32)), .unset] [(.int (1 : Int32)), (.int (0 : Int32))]) _ _ _
      have hc209 : (0 : Int32) < (1 : Int32) := by decide
      refine own_to (fun t k => XS.icmpYes X6.here hx rfl (pc0 := 209) (pc' := 289) rfl (hb hby at_209) rfl (tlt hc209).1 (by decide) (by decide) k) ?_
      show own_Out p e below _ T6 (mkF m 289 #[.val (.int x0), .val (.int x1), .val (.int x2), .val (.int x3), .val (.int (0 : Int32)), .val (.int l1), .val (.int l2), .val (.int (0 : Int32)), .val (.int tt), .val (.int (0 : Int32)), .val (.int (0 : Int32)), .val (.ref ob2), .val (.ref ob3), .val (.int (0 : Int32)), .val (.int (1 : Int32)), .unset] []) _ _ _
      refine own_to (fun t k => XS.iload X6.here hx rfl (hb hby at_289) rfl k) ?_
      show own_Out p e below _ T6 (mkF m 291 #[.val (.int x0), .val (.int x1), .val (.int x2), .val (.int x3), .val (.int (0 : Int32)), .val (.int l1), .val (.int l2), .val (.int (0 : Int32)), .val (.int tt), .val (.int (0 : Int32)), .val (.int (0 : Int32)), .val (.ref ob2), .val (.ref ob3), .val (.int (0 : Int32)), .val (.int (1 : Int32)), .unset] [(.int (0 : Int32))]) _ _ _
      refine own_to (fun t k => XS.iconst X6.here hx rfl (hb hby at_291) k) ?_
      show own_Out p e below _ T6 (mkF m 292 #[.val (.int x0), .val (.int x1), .val (.int x2), .val (.int x3), .val (.int (0 : Int32)), .val (.int l1), .val (.int l2), .val (.int (0 : Int32)), .val (.int tt), .val (.int (0 : Int32)), .val (.int (0 : Int32)), .val (.ref ob2), .val (.ref ob3), .val (.int (0 : Int32)), .val (.int (1 : Int32)), .unset] [(.int (2 : Int32)), (.int (0 : Int32))]) _ _ _
      have hc292 : (0 : Int32) < (2 : Int32) := by decide
      refine own_to (fun t k => XS.icmpYes X6.here hx rfl (pc0 := 292) (pc' := 366) rfl (hb hby at_292) rfl (tlt hc292).1 (by decide) (by decide) k) ?_
      show own_Out p e below _ T6 (mkF m 366 #[.val (.int x0), .val (.int x1), .val (.int x2), .val (.int x3), .val (.int (0 : Int32)), .val (.int l1), .val (.int l2), .val (.int (0 : Int32)), .val (.int tt), .val (.int (0 : Int32)), .val (.int (0 : Int32)), .val (.ref ob2), .val (.ref ob3), .val (.int (0 : Int32)), .val (.int (1 : Int32)), .unset] []) _ _ _
      refine own_to (fun t k => XS.iload X6.here hx rfl (hb hby at_366) rfl k) ?_
      show own_Out p e below _ T6 (mkF m 368 #[.val (.int x0), .val (.int x1), .val (.int x2), .val (.int x3), .val (.int (0 : Int32)), .val (.int l1), .val (.int l2), .val (.int (0 : Int32)), .val (.int tt), .val (.int (0 : Int32)), .val (.int (0 : Int32)), .val (.ref ob2), .val (.ref ob3), .val (.int (0 : Int32)), .val (.int (1 : Int32)), .unset] [(.int (1 : Int32))]) _ _ _
      refine own_retVW X6 hS hk e6 hx hlk (w := .int (1 : Int32)) hret rfl (Or.inl ⟨rfl, by simp, _, rfl⟩) (hb hby at_368) (by decide) (by decide) ?_
      rw [e6]
      exact ⟨rfl, N6⟩
    · subst hk_tr
      show own_Out p e below _ T1 (mkF m 24 #[.val (.int x0), .val (.int x1), .val (.int x2), .val (.int x3), .val (.int (0 : Int32)), .val (.int l1), .val (.int l2), .val (.int (1 : Int32)), .unset, .unset, .unset, .unset, .unset, .unset, .unset, .unset] []) _ _ _
      refine own_to (fun t k => XS.iloadN X1.here hx rfl (hb hby at_24) rfl k) ?_
      show own_Out p e below _ T1 (mkF m 25 #[.val (.int x0), .val (.int x1), .val (.int x2), .val (.int x3), .val (.int (0 : Int32)), .val (.int l1), .val (.int l2), .val (.int (1 : Int32)), .unset, .unset, .unset, .unset, .unset, .unset, .unset, .unset] [(.int x3)]) _ _ _
      refine own_to (fun t k => XS.iconst X1.here hx rfl (hb hby at_25) k) ?_
      show own_Out p e below _ T1 (mkF m 26 #[.val (.int x0), .val (.int x1), .val (.int x2), .val (.int x3), .val (.int (0 : Int32)), .val (.int l1), .val (.int l2), .val (.int (1 : Int32)), .unset, .unset, .unset, .unset, .unset, .unset, .unset, .unset] [(.int (1 : Int32)), (.int x3)]) _ _ _
      refine own_to (fun t k => XS.iushr X1.here hx rfl (hb hby at_26) rfl k) ?_
      show own_Out p e below _ T1 (mkF m 27 #[.val (.int x0), .val (.int x1), .val (.int x2), .val (.int x3), .val (.int (0 : Int32)), .val (.int l1), .val (.int l2), .val (.int (1 : Int32)), .unset, .unset, .unset, .unset, .unset, .unset, .unset, .unset] [(.int ((x3.toUInt32 >>> ((1 : Int32) &&& 31).toUInt32).toInt32))]) _ _ _
      refine own_to (fun t k => XS.sipush X1.here hx rfl (hb hby at_27) k) ?_
      show own_Out p e below _ T1 (mkF m 30 #[.val (.int x0), .val (.int x1), .val (.int x2), .val (.int x3), .val (.int (0 : Int32)), .val (.int l1), .val (.int l2), .val (.int (1 : Int32)), .unset, .unset, .unset, .unset, .unset, .unset, .unset, .unset] [(.int (254 : Int32)), (.int ((x3.toUInt32 >>> ((1 : Int32) &&& 31).toUInt32).toInt32))]) _ _ _
      refine own_to (fun t k => XS.iand X1.here hx rfl (hb hby at_30) rfl k) ?_
      show own_Out p e below _ T1 (mkF m 31 #[.val (.int x0), .val (.int x1), .val (.int x2), .val (.int x3), .val (.int (0 : Int32)), .val (.int l1), .val (.int l2), .val (.int (1 : Int32)), .unset, .unset, .unset, .unset, .unset, .unset, .unset, .unset] [(.int (((x3.toUInt32 >>> ((1 : Int32) &&& 31).toUInt32).toInt32) &&& (254 : Int32)))]) _ _ _
      refine own_to (fun t k => XS.istore X1.here hx rfl (hb hby at_31) rfl (l' := #[.val (.int x0), .val (.int x1), .val (.int x2), .val (.int x3), .val (.int (0 : Int32)), .val (.int l1), .val (.int l2), .val (.int (1 : Int32)), .val (.int (((x3.toUInt32 >>> ((1 : Int32) &&& 31).toUInt32).toInt32) &&& (254 : Int32))), .unset, .unset, .unset, .unset, .unset, .unset, .unset]) rfl k) ?_
      show own_Out p e below _ T1 (mkF m 33 #[.val (.int x0), .val (.int x1), .val (.int x2), .val (.int x3), .val (.int (0 : Int32)), .val (.int l1), .val (.int l2), .val (.int (1 : Int32)), .val (.int (((x3.toUInt32 >>> ((1 : Int32) &&& 31).toUInt32).toInt32) &&& (254 : Int32))), .unset, .unset, .unset, .unset, .unset, .unset, .unset] []) _ _ _
      generalize hv_tt : (((x3.toUInt32 >>> ((1 : Int32) &&& 31).toUInt32).toInt32) &&& (254 : Int32)) = tt
      show own_Out p e below _ T1 (mkF m 33 #[.val (.int x0), .val (.int x1), .val (.int x2), .val (.int x3), .val (.int (0 : Int32)), .val (.int l1), .val (.int l2), .val (.int (1 : Int32)), .val (.int tt), .unset, .unset, .unset, .unset, .unset, .unset, .unset] []) _ _ _
      have htt := own_tgok ((x3.toUInt32 >>> ((1 : Int32) &&& 31).toUInt32).toInt32)
      rw [hv_tt] at htt
      refine own_to (fun t k => XS.iload X1.here hx rfl (hb hby at_33) rfl k) ?_
      show own_Out p e below _ T1 (mkF m 35 #[.val (.int x0), .val (.int x1), .val (.int x2), .val (.int x3), .val (.int (0 : Int32)), .val (.int l1), .val (.int l2), .val (.int (1 : Int32)), .val (.int tt), .unset, .unset, .unset, .unset, .unset, .unset, .unset] [(.int (0 : Int32))]) _ _ _
      refine own_to (fun t k => XS.iconst X1.here hx rfl (hb hby at_35) k) ?_
      show own_Out p e below _ T1 (mkF m 36 #[.val (.int x0), .val (.int x1), .val (.int x2), .val (.int x3), .val (.int (0 : Int32)), .val (.int l1), .val (.int l2), .val (.int (1 : Int32)), .val (.int tt), .unset, .unset, .unset, .unset, .unset, .unset, .unset] [(.int (1 : Int32)), (.int (0 : Int32))]) _ _ _
      have hc36 : (0 : Int32) < (1 : Int32) := by decide
      refine own_to (fun t k => XS.icmpYes X1.here hx rfl (pc0 := 36) (pc' := 46) rfl (hb hby at_36) rfl (tlt hc36).1 (by decide) (by decide) k) ?_
      show own_Out p e below _ T1 (mkF m 46 #[.val (.int x0), .val (.int x1), .val (.int x2), .val (.int x3), .val (.int (0 : Int32)), .val (.int l1), .val (.int l2), .val (.int (1 : Int32)), .val (.int tt), .unset, .unset, .unset, .unset, .unset, .unset, .unset] []) _ _ _
      refine own_to (fun t k => XS.iconst X1.here hx rfl (hb hby at_46) k) ?_
      show own_Out p e below _ T1 (mkF m 47 #[.val (.int x0), .val (.int x1), .val (.int x2), .val (.int x3), .val (.int (0 : Int32)), .val (.int l1), .val (.int l2), .val (.int (1 : Int32)), .val (.int tt), .unset, .unset, .unset, .unset, .unset, .unset, .unset] [(.int (0 : Int32))]) _ _ _
      refine own_to (fun t k => XS.istore X1.here hx rfl (hb hby at_47) rfl (l' := #[.val (.int x0), .val (.int x1), .val (.int x2), .val (.int x3), .val (.int (0 : Int32)), .val (.int l1), .val (.int l2), .val (.int (1 : Int32)), .val (.int tt), .val (.int (0 : Int32)), .unset, .unset, .unset, .unset, .unset, .unset]) rfl k) ?_
      show own_Out p e below _ T1 (mkF m 49 #[.val (.int x0), .val (.int x1), .val (.int x2), .val (.int x3), .val (.int (0 : Int32)), .val (.int l1), .val (.int l2), .val (.int (1 : Int32)), .val (.int tt), .val (.int (0 : Int32)), .unset, .unset, .unset, .unset, .unset, .unset] []) _ _ _
      refine own_to (fun t k => XS.iload X1.here hx rfl (hb hby at_49) rfl k) ?_
      show own_Out p e below _ T1 (mkF m 51 #[.val (.int x0), .val (.int x1), .val (.int x2), .val (.int x3), .val (.int (0 : Int32)), .val (.int l1), .val (.int l2), .val (.int (1 : Int32)), .val (.int tt), .val (.int (0 : Int32)), .unset, .unset, .unset, .unset, .unset, .unset] [(.int (0 : Int32))]) _ _ _
      refine own_to (fun t k => XS.iconst X1.here hx rfl (hb hby at_51) k) ?_
      show own_Out p e below _ T1 (mkF m 52 #[.val (.int x0), .val (.int x1), .val (.int x2), .val (.int x3), .val (.int (0 : Int32)), .val (.int l1), .val (.int l2), .val (.int (1 : Int32)), .val (.int tt), .val (.int (0 : Int32)), .unset, .unset, .unset, .unset, .unset, .unset] [(.int (2 : Int32)), (.int (0 : Int32))]) _ _ _
      have hc52 : (0 : Int32) < (2 : Int32) := by decide
      refine own_to (fun t k => XS.icmpYes X1.here hx rfl (pc0 := 52) (pc' := 62) rfl (hb hby at_52) rfl (tlt hc52).1 (by decide) (by decide) k) ?_
      show own_Out p e below _ T1 (mkF m 62 #[.val (.int x0), .val (.int x1), .val (.int x2), .val (.int x3), .val (.int (0 : Int32)), .val (.int l1), .val (.int l2), .val (.int (1 : Int32)), .val (.int tt), .val (.int (0 : Int32)), .unset, .unset, .unset, .unset, .unset, .unset] []) _ _ _
      refine own_to (fun t k => XS.iconst X1.here hx rfl (hb hby at_62) k) ?_
      show own_Out p e below _ T1 (mkF m 63 #[.val (.int x0), .val (.int x1), .val (.int x2), .val (.int x3), .val (.int (0 : Int32)), .val (.int l1), .val (.int l2), .val (.int (1 : Int32)), .val (.int tt), .val (.int (0 : Int32)), .unset, .unset, .unset, .unset, .unset, .unset] [(.int (0 : Int32))]) _ _ _
      refine own_to (fun t k => XS.istore X1.here hx rfl (hb hby at_63) rfl (l' := #[.val (.int x0), .val (.int x1), .val (.int x2), .val (.int x3), .val (.int (0 : Int32)), .val (.int l1), .val (.int l2), .val (.int (1 : Int32)), .val (.int tt), .val (.int (0 : Int32)), .val (.int (0 : Int32)), .unset, .unset, .unset, .unset, .unset]) rfl k) ?_
      show own_Out p e below _ T1 (mkF m 65 #[.val (.int x0), .val (.int x1), .val (.int x2), .val (.int x3), .val (.int (0 : Int32)), .val (.int l1), .val (.int l2), .val (.int (1 : Int32)), .val (.int tt), .val (.int (0 : Int32)), .val (.int (0 : Int32)), .unset, .unset, .unset, .unset, .unset] []) _ _ _
      refine own_to (fun t k => XS.iload X1.here hx rfl (hb hby at_65) rfl k) ?_
      show own_Out p e below _ T1 (mkF m 67 #[.val (.int x0), .val (.int x1), .val (.int x2), .val (.int x3), .val (.int (0 : Int32)), .val (.int l1), .val (.int l2), .val (.int (1 : Int32)), .val (.int tt), .val (.int (0 : Int32)), .val (.int (0 : Int32)), .unset, .unset, .unset, .unset, .unset] [(.int (0 : Int32))]) _ _ _
      refine own_to (fun t k => XS.iload X1.here hx rfl (hb hby at_67) rfl k) ?_
      show own_Out p e below _ T1 (mkF m 69 #[.val (.int x0), .val (.int x1), .val (.int x2), .val (.int x3), .val (.int (0 : Int32)), .val (.int l1), .val (.int l2), .val (.int (1 : Int32)), .val (.int tt), .val (.int (0 : Int32)), .val (.int (0 : Int32)), .unset, .unset, .unset, .unset, .unset] [(.int (0 : Int32)), (.int (0 : Int32))]) _ _ _
      refine own_to (fun t k => XS.iadd X1.here hx rfl (hb hby at_69) rfl k) ?_
      show own_Out p e below _ T1 (mkF m 70 #[.val (.int x0), .val (.int x1), .val (.int x2), .val (.int x3), .val (.int (0 : Int32)), .val (.int l1), .val (.int l2), .val (.int (1 : Int32)), .val (.int tt), .val (.int (0 : Int32)), .val (.int (0 : Int32)), .unset, .unset, .unset, .unset, .unset] [(.int ((0 : Int32) + (0 : Int32)))]) _ _ _
      refine own_to (fun t k => XS.iload X1.here hx rfl (hb hby at_70) rfl k) ?_
      show own_Out p e below _ T1 (mkF m 72 #[.val (.int x0), .val (.int x1), .val (.int x2), .val (.int x3), .val (.int (0 : Int32)), .val (.int l1), .val (.int l2), .val (.int (1 : Int32)), .val (.int tt), .val (.int (0 : Int32)), .val (.int (0 : Int32)), .unset, .unset, .unset, .unset, .unset] [(.int (1 : Int32)), (.int ((0 : Int32) + (0 : Int32)))]) _ _ _
      refine own_to (fun t k => XS.iadd X1.here hx rfl (hb hby at_72) rfl k) ?_
      show own_Out p e below _ T1 (mkF m 73 #[.val (.int x0), .val (.int x1), .val (.int x2), .val (.int x3), .val (.int (0 : Int32)), .val (.int l1), .val (.int l2), .val (.int (1 : Int32)), .val (.int tt), .val (.int (0 : Int32)), .val (.int (0 : Int32)), .unset, .unset, .unset, .unset, .unset] [(.int (((0 : Int32) + (0 : Int32)) + (1 : Int32)))]) _ _ _
      rw [show (((0 : Int32) + (0 : Int32)) + (1 : Int32)) = (1 : Int32) from by decide]
      show own_Out p e below _ T1 (mkF m 73 #[.val (.int x0), .val (.int x1), .val (.int x2), .val (.int x3), .val (.int (0 : Int32)), .val (.int l1), .val (.int l2), .val (.int (1 : Int32)), .val (.int tt), .val (.int (0 : Int32)), .val (.int (0 : Int32)), .unset, .unset, .unset, .unset, .unset] [(.int (1 : Int32))]) _ _ _
      refine own_newA X1 hx hZ (hw _ (List.mem_of_getElem? (i := 4) rfl)) rfl e1 rfl (hb hby at_73) rfl (by decide) (cap := 1) (by decide) (by decide) (by decide) (by decide) fun T7 hh7 ob7 gb7 X7 e7 E7 A7 => ?_
      have g_ob7 : n0 ≤ ob7 := Nat.le_trans Z0 (Nat.le_of_eq gb7.symm)
      have Z0 := Nat.le_trans Z0 E7.1
      have hk := Nat.le_trans hk E7.1
      have A_ob7 : own_A Z hh7 ob7 .byte 1 (fun _ => 0) := A7
      show own_Out p e below _ T7 (mkF m 75 #[.val (.int x0), .val (.int x1), .val (.int x2), .val (.int x3), .val (.int (0 : Int32)), .val (.int l1), .val (.int l2), .val (.int (1 : Int32)), .val (.int tt), .val (.int (0 : Int32)), .val (.int (0 : Int32)), .unset, .unset, .unset, .unset, .unset] [(.ref ob7)]) _ _ _
      refine own_to (fun t k => XS.astore X7.here hx rfl (hb hby at_75) rfl rfl (l' := #[.val (.int x0), .val (.int x1), .val (.int x2), .val (.int x3), .val (.int (0 : Int32)), .val (.int l1), .val (.int l2), .val (.int (1 : Int32)), .val (.int tt), .val (.int (0 : Int32)), .val (.int (0 : Int32)), .val (.ref ob7), .unset, .unset, .unset, .unset]) rfl k) ?_
      show own_Out p e below _ T7 (mkF m 77 #[.val (.int x0), .val (.int x1), .val (.int x2), .val (.int x3), .val (.int (0 : Int32)), .val (.int l1), .val (.int l2), .val (.int (1 : Int32)), .val (.int tt), .val (.int (0 : Int32)), .val (.int (0 : Int32)), .val (.ref ob7), .unset, .unset, .unset, .unset] []) _ _ _
      refine own_to (fun t k => XS.iload X7.here hx rfl (hb hby at_77) rfl k) ?_
      show own_Out p e below _ T7 (mkF m 79 #[.val (.int x0), .val (.int x1), .val (.int x2), .val (.int x3), .val (.int (0 : Int32)), .val (.int l1), .val (.int l2), .val (.int (1 : Int32)), .val (.int tt), .val (.int (0 : Int32)), .val (.int (0 : Int32)), .val (.ref ob7), .unset, .unset, .unset, .unset] [(.int (0 : Int32))]) _ _ _
      refine own_to (fun t k => XS.iconst X7.here hx rfl (hb hby at_79) k) ?_
      show own_Out p e below _ T7 (mkF m 80 #[.val (.int x0), .val (.int x1), .val (.int x2), .val (.int x3), .val (.int (0 : Int32)), .val (.int l1), .val (.int l2), .val (.int (1 : Int32)), .val (.int tt), .val (.int (0 : Int32)), .val (.int (0 : Int32)), .val (.ref ob7), .unset, .unset, .unset, .unset] [(.int (1 : Int32)), (.int (0 : Int32))]) _ _ _
      have hc80 : (0 : Int32) < (1 : Int32) := by decide
      refine own_to (fun t k => XS.icmpYes X7.here hx rfl (pc0 := 80) (pc' := 97) rfl (hb hby at_80) rfl (tlt hc80).1 (by decide) (by decide) k) ?_
      show own_Out p e below _ T7 (mkF m 97 #[.val (.int x0), .val (.int x1), .val (.int x2), .val (.int x3), .val (.int (0 : Int32)), .val (.int l1), .val (.int l2), .val (.int (1 : Int32)), .val (.int tt), .val (.int (0 : Int32)), .val (.int (0 : Int32)), .val (.ref ob7), .unset, .unset, .unset, .unset] []) _ _ _
      refine own_to (fun t k => XS.iload X7.here hx rfl (hb hby at_97) rfl k) ?_
      show own_Out p e below _ T7 (mkF m 99 #[.val (.int x0), .val (.int x1), .val (.int x2), .val (.int x3), .val (.int (0 : Int32)), .val (.int l1), .val (.int l2), .val (.int (1 : Int32)), .val (.int tt), .val (.int (0 : Int32)), .val (.int (0 : Int32)), .val (.ref ob7), .unset, .unset, .unset, .unset] [(.int (0 : Int32))]) _ _ _
      refine own_to (fun t k => XS.iconst X7.here hx rfl (hb hby at_99) k) ?_
      show own_Out p e below _ T7 (mkF m 100 #[.val (.int x0), .val (.int x1), .val (.int x2), .val (.int x3), .val (.int (0 : Int32)), .val (.int l1), .val (.int l2), .val (.int (1 : Int32)), .val (.int tt), .val (.int (0 : Int32)), .val (.int (0 : Int32)), .val (.ref ob7), .unset, .unset, .unset, .unset] [(.int (2 : Int32)), (.int (0 : Int32))]) _ _ _
      have hc100 : (0 : Int32) < (2 : Int32) := by decide
      refine own_to (fun t k => XS.icmpYes X7.here hx rfl (pc0 := 100) (pc' := 121) rfl (hb hby at_100) rfl (tlt hc100).1 (by decide) (by decide) k) ?_
      show own_Out p e below _ T7 (mkF m 121 #[.val (.int x0), .val (.int x1), .val (.int x2), .val (.int x3), .val (.int (0 : Int32)), .val (.int l1), .val (.int l2), .val (.int (1 : Int32)), .val (.int tt), .val (.int (0 : Int32)), .val (.int (0 : Int32)), .val (.ref ob7), .unset, .unset, .unset, .unset] []) _ _ _
      refine own_to (fun t k => XS.iload X7.here hx rfl (hb hby at_121) rfl k) ?_
      show own_Out p e below _ T7 (mkF m 123 #[.val (.int x0), .val (.int x1), .val (.int x2), .val (.int x3), .val (.int (0 : Int32)), .val (.int l1), .val (.int l2), .val (.int (1 : Int32)), .val (.int tt), .val (.int (0 : Int32)), .val (.int (0 : Int32)), .val (.ref ob7), .unset, .unset, .unset, .unset] [(.int (1 : Int32))]) _ _ _
      refine own_to (fun t k => XS.iconst X7.here hx rfl (hb hby at_123) k) ?_
      show own_Out p e below _ T7 (mkF m 124 #[.val (.int x0), .val (.int x1), .val (.int x2), .val (.int x3), .val (.int (0 : Int32)), .val (.int l1), .val (.int l2), .val (.int (1 : Int32)), .val (.int tt), .val (.int (0 : Int32)), .val (.int (0 : Int32)), .val (.ref ob7), .unset, .unset, .unset, .unset] [(.int (1 : Int32)), (.int (1 : Int32))]) _ _ _
      have hc124 : (1 : Int32) = (1 : Int32) := by decide
      refine own_to (fun t k => XS.icmpNo X7.here hx rfl (hb hby at_124) rfl (teq hc124).2 k) ?_
      show own_Out p e below _ T7 (mkF m 127 #[.val (.int x0), .val (.int x1), .val (.int x2), .val (.int x3), .val (.int (0 : Int32)), .val (.int l1), .val (.int l2), .val (.int (1 : Int32)), .val (.int tt), .val (.int (0 : Int32)), .val (.int (0 : Int32)), .val (.ref ob7), .unset, .unset, .unset, .unset] []) _ _ _
      refine own_to (fun t k => XS.aload X7.here hx rfl (hb hby at_127) rfl rfl k) ?_
      show own_Out p e below _ T7 (mkF m 129 #[.val (.int x0), .val (.int x1), .val (.int x2), .val (.int x3), .val (.int (0 : Int32)), .val (.int l1), .val (.int l2), .val (.int (1 : Int32)), .val (.int tt), .val (.int (0 : Int32)), .val (.int (0 : Int32)), .val (.ref ob7), .unset, .unset, .unset, .unset] [(.ref ob7)]) _ _ _
      refine own_to (fun t k => XS.iload X7.here hx rfl (hb hby at_129) rfl k) ?_
      show own_Out p e below _ T7 (mkF m 131 #[.val (.int x0), .val (.int x1), .val (.int x2), .val (.int x3), .val (.int (0 : Int32)), .val (.int l1), .val (.int l2), .val (.int (1 : Int32)), .val (.int tt), .val (.int (0 : Int32)), .val (.int (0 : Int32)), .val (.ref ob7), .unset, .unset, .unset, .unset] [(.int (0 : Int32)), (.ref ob7)]) _ _ _
      refine own_to (fun t k => XS.iload X7.here hx rfl (hb hby at_131) rfl k) ?_
      show own_Out p e below _ T7 (mkF m 133 #[.val (.int x0), .val (.int x1), .val (.int x2), .val (.int x3), .val (.int (0 : Int32)), .val (.int l1), .val (.int l2), .val (.int (1 : Int32)), .val (.int tt), .val (.int (0 : Int32)), .val (.int (0 : Int32)), .val (.ref ob7), .unset, .unset, .unset, .unset] [(.int (0 : Int32)), (.int (0 : Int32)), (.ref ob7)]) _ _ _
      refine own_to (fun t k => XS.iadd X7.here hx rfl (hb hby at_133) rfl k) ?_
      show own_Out p e below _ T7 (mkF m 134 #[.val (.int x0), .val (.int x1), .val (.int x2), .val (.int x3), .val (.int (0 : Int32)), .val (.int l1), .val (.int l2), .val (.int (1 : Int32)), .val (.int tt), .val (.int (0 : Int32)), .val (.int (0 : Int32)), .val (.ref ob7), .unset, .unset, .unset, .unset] [(.int ((0 : Int32) + (0 : Int32))), (.ref ob7)]) _ _ _
      refine own_to (fun t k => XS.iload X7.here hx rfl (hb hby at_134) rfl k) ?_
      show own_Out p e below _ T7 (mkF m 136 #[.val (.int x0), .val (.int x1), .val (.int x2), .val (.int x3), .val (.int (0 : Int32)), .val (.int l1), .val (.int l2), .val (.int (1 : Int32)), .val (.int tt), .val (.int (0 : Int32)), .val (.int (0 : Int32)), .val (.ref ob7), .unset, .unset, .unset, .unset] [(.int tt), (.int ((0 : Int32) + (0 : Int32))), (.ref ob7)]) _ _ _
      refine own_to (fun t k => XS.i2b X7.here hx rfl (hb hby at_136) rfl k) ?_
      show own_Out p e below _ T7 (mkF m 137 #[.val (.int x0), .val (.int x1), .val (.int x2), .val (.int x3), .val (.int (0 : Int32)), .val (.int l1), .val (.int l2), .val (.int (1 : Int32)), .val (.int tt), .val (.int (0 : Int32)), .val (.int (0 : Int32)), .val (.ref ob7), .unset, .unset, .unset, .unset] [(.int (tt.toInt8.toInt32)), (.int ((0 : Int32) + (0 : Int32))), (.ref ob7)]) _ _ _
      refine own_stB X7 hx hZ e7 A_ob7 (by decide) (by decide) rfl rfl (hb hby at_137) fun T8 hh8 X8 e8 W8 A8 => ?_
      have A_ob7 := A8
      have Z0 := Nat.le_trans Z0 (Nat.le_of_eq W8.size.symm)
      have hk := Nat.le_trans hk (Nat.le_of_eq W8.size.symm)
      have N8 := own_fs (sl := Int32.toNatClampNeg ((0 : Int32) + (0 : Int32))) N1 g_ob7
      show own_Out p e below _ T8 (mkF m 138 #[.val (.int x0), .val (.int x1), .val (.int x2), .val (.int x3), .val (.int (0 : Int32)), .val (.int l1), .val (.int l2), .val (.int (1 : Int32)), .val (.int tt), .val (.int (0 : Int32)), .val (.int (0 : Int32)), .val (.ref ob7), .unset, .unset, .unset, .unset] []) _ _ _
      refine own_new X8 hx hZ hown (hw _ (List.mem_of_getElem? (i := 5) rfl)) (hw _ (List.mem_of_getElem? (i := 6) rfl)) (hw _ (List.mem_of_getElem? (i := 7) rfl)) e8 rfl (hb hby at_138) (by decide) (by decide) fun T9 hh9 ob9 gb9 X9 e9 E9 A9 D9 => ?_
      have ne_ob7_ob9 : ob7 ≠ ob9 := Nat.ne_of_lt (Nat.lt_of_lt_of_le A_ob7.lt (Nat.le_of_eq gb9.symm))
      have ne_ob9_ob7 := Ne.symm ne_ob7_ob9
      have g_ob9 : n0 ≤ ob9 := Nat.le_trans Z0 (Nat.le_of_eq gb9.symm)
      have A_ob7 := A_ob7.ext E9
      have Z0 := Nat.le_trans Z0 E9.1
      have hk := Nat.le_trans hk E9.1
      have E_ob9 := A9
      have F_ob9_bytes : Fld Z hh9 ob9 "com/example/pathwarden/pathwarden/util/DerReader" "bytes" "[B" .null := D9 (Or.inr (hw _ (List.mem_of_getElem? (i := 18) rfl))) (ty := (.array .byte)) (by decide)
      have F_ob9_position : Fld Z hh9 ob9 "com/example/pathwarden/pathwarden/util/DerReader" "position" "I" (.int (0 : Int32)) := D9 (Or.inl (hw _ (List.mem_of_getElem? (i := 20) rfl))) (ty := .int) (by decide)
      have F_ob9_end : Fld Z hh9 ob9 "com/example/pathwarden/pathwarden/util/DerReader" "end" "I" (.int (0 : Int32)) := D9 (Or.inr (hw _ (List.mem_of_getElem? (i := 22) rfl))) (ty := .int) (by decide)
      show own_Out p e below _ T9 (mkF m 141 #[.val (.int x0), .val (.int x1), .val (.int x2), .val (.int x3), .val (.int (0 : Int32)), .val (.int l1), .val (.int l2), .val (.int (1 : Int32)), .val (.int tt), .val (.int (0 : Int32)), .val (.int (0 : Int32)), .val (.ref ob7), .unset, .unset, .unset, .unset] [(.ref ob9)]) _ _ _
      refine own_to (fun t k => XS.dup X9.here hx rfl (hb hby at_141) rfl rfl k) ?_
      show own_Out p e below _ T9 (mkF m 142 #[.val (.int x0), .val (.int x1), .val (.int x2), .val (.int x3), .val (.int (0 : Int32)), .val (.int l1), .val (.int l2), .val (.int (1 : Int32)), .val (.int tt), .val (.int (0 : Int32)), .val (.int (0 : Int32)), .val (.ref ob7), .unset, .unset, .unset, .unset] [(.ref ob9), (.ref ob9)]) _ _ _
      refine own_to (fun t k => XS.aload X9.here hx rfl (hb hby at_142) rfl rfl k) ?_
      show own_Out p e below _ T9 (mkF m 144 #[.val (.int x0), .val (.int x1), .val (.int x2), .val (.int x3), .val (.int (0 : Int32)), .val (.int l1), .val (.int l2), .val (.int (1 : Int32)), .val (.int tt), .val (.int (0 : Int32)), .val (.int (0 : Int32)), .val (.ref ob7), .unset, .unset, .unset, .unset] [(.ref ob7), (.ref ob9), (.ref ob9)]) _ _ _
      refine own_callC X9 hx hZ hown (a := ob9) (argsL := [(.ref ob7)]) (rest := [(.ref ob9)]) rfl (hw _ (List.mem_of_getElem? (i := 8) rfl)) (hw _ (List.mem_of_getElem? (i := 9) rfl)) (hw _ (List.mem_of_getElem? (i := 7) rfl)) (hw _ (List.mem_of_getElem? (i := 10) rfl)) (by decide) (rm2 l Z a0 hw ob9 ob7 1 (own_upd (fun _ => 0) (((0 : Int32) + (0 : Int32)).toNatClampNeg) (nar .byte (tt.toInt8.toInt32))) hh9 n0 Z0 E_ob9 F_ob9_bytes F_ob9_position F_ob9_end g_ob9 A_ob7 ne_ob7_ob9) (by decide) (by decide) e9 rfl (by rw [hml]; rfl) (lenOf pd_5 rfl) rfl (W := 1) (by show 2 * 0 + _ ≤ _; exact Nat.le_of_eq rfl) (hb hby at_144) (by decide) (by decide) fun v10 T10 hh10 L10 X10 e10 hQ10 => ?_
      obtain ⟨rfl, NL10, KK10, P10_0, P10_1, P10_2⟩ := hQ10
      have A_ob7 := A_ob7.keep KK10 (by simp [ne_ob7_ob9])
      have E_ob9 := E_ob9.keep KK10
      have F_ob9_bytes := P10_0
      have F_ob9_position := P10_1
      have F_ob9_end := P10_2
      have Z0 := Nat.le_trans Z0 KK10.1
      have hk := Nat.le_trans hk KK10.1
      have N10 := Fr.app N8 NL10
      show own_Out p e below _ T10 (mkF m 147 #[.val (.int x0), .val (.int x1), .val (.int x2), .val (.int x3), .val (.int (0 : Int32)), .val (.int l1), .val (.int l2), .val (.int (1 : Int32)), .val (.int tt), .val (.int (0 : Int32)), .val (.int (0 : Int32)), .val (.ref ob7), .unset, .unset, .unset, .unset] [(.ref ob9)]) _ _ _
      rw [show (Nat.toInt32 1) = (1 : Int32) from by decide] at F_ob9_end
      refine own_to (fun t k => XS.astore X10.here hx rfl (hb hby at_147) rfl rfl (l' := #[.val (.int x0), .val (.int x1), .val (.int x2), .val (.int x3), .val (.int (0 : Int32)), .val (.int l1), .val (.int l2), .val (.int (1 : Int32)), .val (.int tt), .val (.int (0 : Int32)), .val (.int (0 : Int32)), .val (.ref ob7), .val (.ref ob9), .unset, .unset, .unset]) rfl k) ?_
      show own_Out p e below _ T10 (mkF m 149 #[.val (.int x0), .val (.int x1), .val (.int x2), .val (.int x3), .val (.int (0 : Int32)), .val (.int l1), .val (.int l2), .val (.int (1 : Int32)), .val (.int tt), .val (.int (0 : Int32)), .val (.int (0 : Int32)), .val (.ref ob7), .val (.ref ob9), .unset, .unset, .unset] []) _ _ _
      refine own_to (fun t k => XS.iload X10.here hx rfl (hb hby at_149) rfl k) ?_
      show own_Out p e below _ T10 (mkF m 151 #[.val (.int x0), .val (.int x1), .val (.int x2), .val (.int x3), .val (.int (0 : Int32)), .val (.int l1), .val (.int l2), .val (.int (1 : Int32)), .val (.int tt), .val (.int (0 : Int32)), .val (.int (0 : Int32)), .val (.ref ob7), .val (.ref ob9), .unset, .unset, .unset] [(.int (0 : Int32))]) _ _ _
      have hc151 : ¬ ((0 : Int32) < (0 : Int32)) := by decide
      refine own_to (fun t k => XS.ifNo X10.here hx rfl (hb hby at_151) rfl ((if0 _ _).trans (flt hc151).2.2.1) k) ?_
      show own_Out p e below _ T10 (mkF m 154 #[.val (.int x0), .val (.int x1), .val (.int x2), .val (.int x3), .val (.int (0 : Int32)), .val (.int l1), .val (.int l2), .val (.int (1 : Int32)), .val (.int tt), .val (.int (0 : Int32)), .val (.int (0 : Int32)), .val (.ref ob7), .val (.ref ob9), .unset, .unset, .unset] []) _ _ _
      refine own_to (fun t k => XS.iload X10.here hx rfl (hb hby at_154) rfl k) ?_
      show own_Out p e below _ T10 (mkF m 156 #[.val (.int x0), .val (.int x1), .val (.int x2), .val (.int x3), .val (.int (0 : Int32)), .val (.int l1), .val (.int l2), .val (.int (1 : Int32)), .val (.int tt), .val (.int (0 : Int32)), .val (.int (0 : Int32)), .val (.ref ob7), .val (.ref ob9), .unset, .unset, .unset] [(.int (1 : Int32))]) _ _ _
      refine own_to (fun t k => XS.iconst X10.here hx rfl (hb hby at_156) k) ?_
      show own_Out p e below _ T10 (mkF m 157 #[.val (.int x0), .val (.int x1), .val (.int x2), .val (.int x3), .val (.int (0 : Int32)), .val (.int l1), .val (.int l2), .val (.int (1 : Int32)), .val (.int tt), .val (.int (0 : Int32)), .val (.int (0 : Int32)), .val (.ref ob7), .val (.ref ob9), .unset, .unset, .unset] [(.int (1 : Int32)), (.int (1 : Int32))]) _ _ _
      have hc157 : (1 : Int32) = (1 : Int32) := by decide
      refine own_to (fun t k => XS.icmpNo X10.here hx rfl (hb hby at_157) rfl (teq hc157).2 k) ?_
      show own_Out p e below _ T10 (mkF m 160 #[.val (.int x0), .val (.int x1), .val (.int x2), .val (.int x3), .val (.int (0 : Int32)), .val (.int l1), .val (.int l2), .val (.int (1 : Int32)), .val (.int tt), .val (.int (0 : Int32)), .val (.int (0 : Int32)), .val (.ref ob7), .val (.ref ob9), .unset, .unset, .unset] []) _ _ _
      refine own_to (fun t k => XS.iconst X10.here hx rfl (hb hby at_160) k) ?_
      show own_Out p e below _ T10 (mkF m 161 #[.val (.int x0), .val (.int x1), .val (.int x2), .val (.int x3), .val (.int (0 : Int32)), .val (.int l1), .val (.int l2), .val (.int (1 : Int32)), .val (.int tt), .val (.int (0 : Int32)), .val (.int (0 : Int32)), .val (.ref ob7), .val (.ref ob9), .unset, .unset, .unset] [(.int (1 : Int32))]) _ _ _
      refine own_to (fun t k => XS.goto X10.here hx rfl (pc0 := 161) (pc' := 165) rfl (hb hby at_161) (by decide) (by decide) k) ?_
      show own_Out p e below _ T10 (mkF m 165 #[.val (.int x0), .val (.int x1), .val (.int x2), .val (.int x3), .val (.int (0 : Int32)), .val (.int l1), .val (.int l2), .val (.int (1 : Int32)), .val (.int tt), .val (.int (0 : Int32)), .val (.int (0 : Int32)), .val (.ref ob7), .val (.ref ob9), .unset, .unset, .unset] [(.int (1 : Int32))]) _ _ _
      refine own_to (fun t k => XS.istore X10.here hx rfl (hb hby at_165) rfl (l' := #[.val (.int x0), .val (.int x1), .val (.int x2), .val (.int x3), .val (.int (0 : Int32)), .val (.int l1), .val (.int l2), .val (.int (1 : Int32)), .val (.int tt), .val (.int (0 : Int32)), .val (.int (0 : Int32)), .val (.ref ob7), .val (.ref ob9), .val (.int (1 : Int32)), .unset, .unset]) rfl k) ?_
      show own_Out p e below _ T10 (mkF m 167 #[.val (.int x0), .val (.int x1), .val (.int x2), .val (.int x3), .val (.int (0 : Int32)), .val (.int l1), .val (.int l2), .val (.int (1 : Int32)), .val (.int tt), .val (.int (0 : Int32)), .val (.int (0 : Int32)), .val (.ref ob7), .val (.ref ob9), .val (.int (1 : Int32)), .unset, .unset] []) _ _ _
      refine own_to (fun t k => XS.aload X10.here hx rfl (hb hby at_167) rfl rfl k) ?_
      show own_Out p e below _ T10 (mkF m 169 #[.val (.int x0), .val (.int x1), .val (.int x2), .val (.int x3), .val (.int (0 : Int32)), .val (.int l1), .val (.int l2), .val (.int (1 : Int32)), .val (.int tt), .val (.int (0 : Int32)), .val (.int (0 : Int32)), .val (.ref ob7), .val (.ref ob9), .val (.int (1 : Int32)), .unset, .unset] [(.ref ob9)]) _ _ _
      refine own_callV X10 hx hZ hown (a := ob9) (argsL := []) (rest := []) (hw _ (List.mem_of_getElem? (i := 23) rfl)) (hw _ (List.mem_of_getElem? (i := 24) rfl)) (hw _ (List.mem_of_getElem? (i := 26) rfl)) (hw _ (List.mem_of_getElem? (i := 25) rfl)) (hw _ (List.mem_of_getElem? (i := 7) rfl)) (hw _ (List.mem_of_getElem? (i := 27) rfl)) (by decide) (rm5 l Z a0 hw ob9 (0 : Int32) (1 : Int32) hh10 n0 Z0 F_ob9_position F_ob9_end) (by decide) (by decide) e10 E_ob9 rfl (by rw [hml]; rfl) (lenOf pd_1 rfl) rfl (W := 0) (by show 2 * 0 + _ ≤ _; exact Nat.le_of_eq rfl) (hb hby at_169) (by decide) (by decide) fun v11 T11 hh11 L11 X11 e11 hQ11 => ?_
      obtain ⟨rfl, NL11, he11⟩ := hQ11
      replace e11 := e11.trans he11
      have N11 := Fr.app N10 NL11
      show own_Out p e below _ T11 (mkF m 172 #[.val (.int x0), .val (.int x1), .val (.int x2), .val (.int x3), .val (.int (0 : Int32)), .val (.int l1), .val (.int l2), .val (.int (1 : Int32)), .val (.int tt), .val (.int (0 : Int32)), .val (.int (0 : Int32)), .val (.ref ob7), .val (.ref ob9), .val (.int (1 : Int32)), .unset, .unset] [(.int (R5 ob9 (0 : Int32) (1 : Int32)))]) _ _ _
      refine own_to (fun t k => XS.iload X11.here hx rfl (hb hby at_172) rfl k) ?_
      show own_Out p e below _ T11 (mkF m 174 #[.val (.int x0), .val (.int x1), .val (.int x2), .val (.int x3), .val (.int (0 : Int32)), .val (.int l1), .val (.int l2), .val (.int (1 : Int32)), .val (.int tt), .val (.int (0 : Int32)), .val (.int (0 : Int32)), .val (.ref ob7), .val (.ref ob9), .val (.int (1 : Int32)), .unset, .unset] [(.int (1 : Int32)), (.int (R5 ob9 (0 : Int32) (1 : Int32)))]) _ _ _
      have hc174 : (R5 ob9 (0 : Int32) (1 : Int32)) = (1 : Int32) := own_hn1 _ _ _ (by decide)
      refine own_to (fun t k => XS.icmpNo X11.here hx rfl (hb hby at_174) rfl (teq hc174).2 k) ?_
      show own_Out p e below _ T11 (mkF m 177 #[.val (.int x0), .val (.int x1), .val (.int x2), .val (.int x3), .val (.int (0 : Int32)), .val (.int l1), .val (.int l2), .val (.int (1 : Int32)), .val (.int tt), .val (.int (0 : Int32)), .val (.int (0 : Int32)), .val (.ref ob7), .val (.ref ob9), .val (.int (1 : Int32)), .unset, .unset] []) _ _ _
      refine own_to (fun t k => XS.iconst X11.here hx rfl (hb hby at_177) k) ?_
      show own_Out p e below _ T11 (mkF m 178 #[.val (.int x0), .val (.int x1), .val (.int x2), .val (.int x3), .val (.int (0 : Int32)), .val (.int l1), .val (.int l2), .val (.int (1 : Int32)), .val (.int tt), .val (.int (0 : Int32)), .val (.int (0 : Int32)), .val (.ref ob7), .val (.ref ob9), .val (.int (1 : Int32)), .unset, .unset] [(.int (1 : Int32))]) _ _ _
      refine own_to (fun t k => XS.goto X11.here hx rfl (pc0 := 178) (pc' := 182) rfl (hb hby at_178) (by decide) (by decide) k) ?_
      show own_Out p e below _ T11 (mkF m 182 #[.val (.int x0), .val (.int x1), .val (.int x2), .val (.int x3), .val (.int (0 : Int32)), .val (.int l1), .val (.int l2), .val (.int (1 : Int32)), .val (.int tt), .val (.int (0 : Int32)), .val (.int (0 : Int32)), .val (.ref ob7), .val (.ref ob9), .val (.int (1 : Int32)), .unset, .unset] [(.int (1 : Int32))]) _ _ _
      refine own_to (fun t k => XS.istore X11.here hx rfl (hb hby at_182) rfl (l' := #[.val (.int x0), .val (.int x1), .val (.int x2), .val (.int x3), .val (.int (0 : Int32)), .val (.int l1), .val (.int l2), .val (.int (1 : Int32)), .val (.int tt), .val (.int (0 : Int32)), .val (.int (0 : Int32)), .val (.ref ob7), .val (.ref ob9), .val (.int (1 : Int32)), .val (.int (1 : Int32)), .unset]) rfl k) ?_
      show own_Out p e below _ T11 (mkF m 184 #[.val (.int x0), .val (.int x1), .val (.int x2), .val (.int x3), .val (.int (0 : Int32)), .val (.int l1), .val (.int l2), .val (.int (1 : Int32)), .val (.int tt), .val (.int (0 : Int32)), .val (.int (0 : Int32)), .val (.ref ob7), .val (.ref ob9), .val (.int (1 : Int32)), .val (.int (1 : Int32)), .unset] []) _ _ _
      refine own_to (fun t k => XS.iload X11.here hx rfl (hb hby at_184) rfl k) ?_
      show own_Out p e below _ T11 (mkF m 186 #[.val (.int x0), .val (.int x1), .val (.int x2), .val (.int x3), .val (.int (0 : Int32)), .val (.int l1), .val (.int l2), .val (.int (1 : Int32)), .val (.int tt), .val (.int (0 : Int32)), .val (.int (0 : Int32)), .val (.ref ob7), .val (.ref ob9), .val (.int (1 : Int32)), .val (.int (1 : Int32)), .unset] [(.int (1 : Int32))]) _ _ _
      have hc186 : ¬ ((1 : Int32) = (0 : Int32)) := by decide
      refine own_to (fun t k => XS.ifNo X11.here hx rfl (hb hby at_186) rfl ((if0 _ _).trans (feq hc186).1) k) ?_
      show own_Out p e below _ T11 (mkF m 189 #[.val (.int x0), .val (.int x1), .val (.int x2), .val (.int x3), .val (.int (0 : Int32)), .val (.int l1), .val (.int l2), .val (.int (1 : Int32)), .val (.int tt), .val (.int (0 : Int32)), .val (.int (0 : Int32)), .val (.ref ob7), .val (.ref ob9), .val (.int (1 : Int32)), .val (.int (1 : Int32)), .unset] []) _ _ _
      refine own_to (fun t k => XS.aload X11.here hx rfl (hb hby at_189) rfl rfl k) ?_
      show own_Out p e below _ T11 (mkF m 191 #[.val (.int x0), .val (.int x1), .val (.int x2), .val (.int x3), .val (.int (0 : Int32)), .val (.int l1), .val (.int l2), .val (.int (1 : Int32)), .val (.int tt), .val (.int (0 : Int32)), .val (.int (0 : Int32)), .val (.ref ob7), .val (.ref ob9), .val (.int (1 : Int32)), .val (.int (1 : Int32)), .unset] [(.ref ob9)]) _ _ _
      refine own_callV X11 hx hZ hown (a := ob9) (argsL := []) (rest := []) (hw _ (List.mem_of_getElem? (i := 23) rfl)) (hw _ (List.mem_of_getElem? (i := 24) rfl)) (hw _ (List.mem_of_getElem? (i := 26) rfl)) (hw _ (List.mem_of_getElem? (i := 25) rfl)) (hw _ (List.mem_of_getElem? (i := 7) rfl)) (hw _ (List.mem_of_getElem? (i := 27) rfl)) (by decide) (rm5 l Z a0 hw ob9 (0 : Int32) (1 : Int32) hh10 n0 Z0 F_ob9_position F_ob9_end) (by decide) (by decide) e11 E_ob9 rfl (by rw [hml]; rfl) (lenOf pd_1 rfl) rfl (W := 0) (by show 2 * 0 + _ ≤ _; exact Nat.le_of_eq rfl) (hb hby at_191) (by decide) (by decide) fun v12 T12 hh12 L12 X12 e12 hQ12 => ?_
      obtain ⟨rfl, NL12, he12⟩ := hQ12
      replace e12 := e12.trans he12
      have N12 := Fr.app N11 NL12
      show own_Out p e below _ T12 (mkF m 194 #[.val (.int x0), .val (.int x1), .val (.int x2), .val (.int x3), .val (.int (0 : Int32)), .val (.int l1), .val (.int l2), .val (.int (1 : Int32)), .val (.int tt), .val (.int (0 : Int32)), .val (.int (0 : Int32)), .val (.ref ob7), .val (.ref ob9), .val (.int (1 : Int32)), .val (.int (1 : Int32)), .unset] [(.int (R5 ob9 (0 : Int32) (1 : Int32)))]) _ _ _
      refine own_to (fun t k => XS.iload X12.here hx rfl (hb hby at_194) rfl k) ?_
      show own_Out p e below _ T12 (mkF m 196 #[.val (.int x0), .val (.int x1), .val (.int x2), .val (.int x3), .val (.int (0 : Int32)), .val (.int l1), .val (.int l2), .val (.int (1 : Int32)), .val (.int tt), .val (.int (0 : Int32)), .val (.int (0 : Int32)), .val (.ref ob7), .val (.ref ob9), .val (.int (1 : Int32)), .val (.int (1 : Int32)), .unset] [(.int (1 : Int32)), (.int (R5 ob9 (0 : Int32) (1 : Int32)))]) _ _ _
      have hc196 : (R5 ob9 (0 : Int32) (1 : Int32)) = (1 : Int32) := own_hn1 _ _ _ (by decide)
      refine own_to (fun t k => XS.icmpNo X12.here hx rfl (hb hby at_196) rfl (teq hc196).2 k) ?_
      show own_Out p e below _ T12 (mkF m 199 #[.val (.int x0), .val (.int x1), .val (.int x2), .val (.int x3), .val (.int (0 : Int32)), .val (.int l1), .val (.int l2), .val (.int (1 : Int32)), .val (.int tt), .val (.int (0 : Int32)), .val (.int (0 : Int32)), .val (.ref ob7), .val (.ref ob9), .val (.int (1 : Int32)), .val (.int (1 : Int32)), .unset] []) _ _ _
      refine own_to (fun t k => XS.iconst X12.here hx rfl (hb hby at_199) k) ?_
      show own_Out p e below _ T12 (mkF m 200 #[.val (.int x0), .val (.int x1), .val (.int x2), .val (.int x3), .val (.int (0 : Int32)), .val (.int l1), .val (.int l2), .val (.int (1 : Int32)), .val (.int tt), .val (.int (0 : Int32)), .val (.int (0 : Int32)), .val (.ref ob7), .val (.ref ob9), .val (.int (1 : Int32)), .val (.int (1 : Int32)), .unset] [(.int (1 : Int32))]) _ _ _
      refine own_to (fun t k => XS.goto X12.here hx rfl (pc0 := 200) (pc' := 204) rfl (hb hby at_200) (by decide) (by decide) k) ?_
      show own_Out p e below _ T12 (mkF m 204 #[.val (.int x0), .val (.int x1), .val (.int x2), .val (.int x3), .val (.int (0 : Int32)), .val (.int l1), .val (.int l2), .val (.int (1 : Int32)), .val (.int tt), .val (.int (0 : Int32)), .val (.int (0 : Int32)), .val (.ref ob7), .val (.ref ob9), .val (.int (1 : Int32)), .val (.int (1 : Int32)), .unset] [(.int (1 : Int32))]) _ _ _
      refine own_to (fun t k => XS.istore X12.here hx rfl (hb hby at_204) rfl (l' := #[.val (.int x0), .val (.int x1), .val (.int x2), .val (.int x3), .val (.int (0 : Int32)), .val (.int l1), .val (.int l2), .val (.int (1 : Int32)), .val (.int tt), .val (.int (0 : Int32)), .val (.int (0 : Int32)), .val (.ref ob7), .val (.ref ob9), .val (.int (1 : Int32)), .val (.int (1 : Int32)), .unset]) rfl k) ?_
      show own_Out p e below _ T12 (mkF m 206 #[.val (.int x0), .val (.int x1), .val (.int x2), .val (.int x3), .val (.int (0 : Int32)), .val (.int l1), .val (.int l2), .val (.int (1 : Int32)), .val (.int tt), .val (.int (0 : Int32)), .val (.int (0 : Int32)), .val (.ref ob7), .val (.ref ob9), .val (.int (1 : Int32)), .val (.int (1 : Int32)), .unset] []) _ _ _
      refine own_to (fun t k => XS.iload X12.here hx rfl (hb hby at_206) rfl k) ?_
      show own_Out p e below _ T12 (mkF m 208 #[.val (.int x0), .val (.int x1), .val (.int x2), .val (.int x3), .val (.int (0 : Int32)), .val (.int l1), .val (.int l2), .val (.int (1 : Int32)), .val (.int tt), .val (.int (0 : Int32)), .val (.int (0 : Int32)), .val (.ref ob7), .val (.ref ob9), .val (.int (1 : Int32)), .val (.int (1 : Int32)), .unset] [(.int (0 : Int32))]) _ _ _
      refine own_to (fun t k => XS.iconst X12.here hx rfl (hb hby at_208) k) ?_
      show own_Out p e below _ T12 (mkF m 209 #[.val (.int x0), .val (.int x1), .val (.int x2), .val (.int x3), .val (.int (0 : Int32)), .val (.int l1), .val (.int l2), .val (.int (1 : Int32)), .val (.int tt), .val (.int (0 : Int32)), .val (.int (0 : Int32)), .val (.ref ob7), .val (.ref ob9), .val (.int (1 : Int32)), .val (.int (1 : Int32)), .unset] [(.int (1 : Int32)), (.int (0 : Int32))]) _ _ _
      have hc209 : (0 : Int32) < (1 : Int32) := by decide
      refine own_to (fun t k => XS.icmpYes X12.here hx rfl (pc0 := 209) (pc' := 289) rfl (hb hby at_209) rfl (tlt hc209).1 (by decide) (by decide) k) ?_
      show own_Out p e below _ T12 (mkF m 289 #[.val (.int x0), .val (.int x1), .val (.int x2), .val (.int x3), .val (.int (0 : Int32)), .val (.int l1), .val (.int l2), .val (.int (1 : Int32)), .val (.int tt), .val (.int (0 : Int32)), .val (.int (0 : Int32)), .val (.ref ob7), .val (.ref ob9), .val (.int (1 : Int32)), .val (.int (1 : Int32)), .unset] []) _ _ _
      refine own_to (fun t k => XS.iload X12.here hx rfl (hb hby at_289) rfl k) ?_
      show own_Out p e below _ T12 (mkF m 291 #[.val (.int x0), .val (.int x1), .val (.int x2), .val (.int x3), .val (.int (0 : Int32)), .val (.int l1), .val (.int l2), .val (.int (1 : Int32)), .val (.int tt), .val (.int (0 : Int32)), .val (.int (0 : Int32)), .val (.ref ob7), .val (.ref ob9), .val (.int (1 : Int32)), .val (.int (1 : Int32)), .unset] [(.int (0 : Int32))]) _ _ _
      refine own_to (fun t k => XS.iconst X12.here hx rfl (hb hby at_291) k) ?_
      show own_Out p e below _ T12 (mkF m 292 #[.val (.int x0), .val (.int x1), .val (.int x2), .val (.int x3), .val (.int (0 : Int32)), .val (.int l1), .val (.int l2), .val (.int (1 : Int32)), .val (.int tt), .val (.int (0 : Int32)), .val (.int (0 : Int32)), .val (.ref ob7), .val (.ref ob9), .val (.int (1 : Int32)), .val (.int (1 : Int32)), .unset] [(.int (2 : Int32)), (.int (0 : Int32))]) _ _ _
      have hc292 : (0 : Int32) < (2 : Int32) := by decide
      refine own_to (fun t k => XS.icmpYes X12.here hx rfl (pc0 := 292) (pc' := 366) rfl (hb hby at_292) rfl (tlt hc292).1 (by decide) (by decide) k) ?_
      show own_Out p e below _ T12 (mkF m 366 #[.val (.int x0), .val (.int x1), .val (.int x2), .val (.int x3), .val (.int (0 : Int32)), .val (.int l1), .val (.int l2), .val (.int (1 : Int32)), .val (.int tt), .val (.int (0 : Int32)), .val (.int (0 : Int32)), .val (.ref ob7), .val (.ref ob9), .val (.int (1 : Int32)), .val (.int (1 : Int32)), .unset] []) _ _ _
      refine own_to (fun t k => XS.iload X12.here hx rfl (hb hby at_366) rfl k) ?_
      show own_Out p e below _ T12 (mkF m 368 #[.val (.int x0), .val (.int x1), .val (.int x2), .val (.int x3), .val (.int (0 : Int32)), .val (.int l1), .val (.int l2), .val (.int (1 : Int32)), .val (.int tt), .val (.int (0 : Int32)), .val (.int (0 : Int32)), .val (.ref ob7), .val (.ref ob9), .val (.int (1 : Int32)), .val (.int (1 : Int32)), .unset] [(.int (1 : Int32))]) _ _ _
      refine own_retVW X12 hS hk e12 hx hlk (w := .int (1 : Int32)) hret rfl (Or.inl ⟨rfl, by simp, _, rfl⟩) (hb hby at_368) (by decide) (by decide) ?_
      rw [e12]
      exact ⟨rfl, N12⟩
  · subst hk_kc
    show own_Out p e below _ T1 (mkF m 9 #[.val (.int x0), .val (.int x1), .val (.int x2), .val (.int x3), .val (.int (1 : Int32)), .unset, .unset, .unset, .unset, .unset, .unset, .unset, .unset, .unset, .unset, .unset] []) _ _ _
    refine own_to (fun t k => XS.iloadN X1.here hx rfl (hb hby at_9) rfl k) ?_
    show own_Out p e below _ T1 (mkF m 10 #[.val (.int x0), .val (.int x1), .val (.int x2), .val (.int x3), .val (.int (1 : Int32)), .unset, .unset, .unset, .unset, .unset, .unset, .unset, .unset, .unset, .unset, .unset] [(.int x1)]) _ _ _
    refine own_to (fun t k => XS.iconst X1.here hx rfl (hb hby at_10) k) ?_
    show own_Out p e below _ T1 (mkF m 11 #[.val (.int x0), .val (.int x1), .val (.int x2), .val (.int x3), .val (.int (1 : Int32)), .unset, .unset, .unset, .unset, .unset, .unset, .unset, .unset, .unset, .unset, .unset] [(.int (3 : Int32)), (.int x1)]) _ _ _
    refine own_to (fun t k => XS.iand X1.here hx rfl (hb hby at_11) rfl k) ?_
    show own_Out p e below _ T1 (mkF m 12 #[.val (.int x0), .val (.int x1), .val (.int x2), .val (.int x3), .val (.int (1 : Int32)), .unset, .unset, .unset, .unset, .unset, .unset, .unset, .unset, .unset, .unset, .unset] [(.int (x1 &&& (3 : Int32)))]) _ _ _
    refine own_to (fun t k => XS.istore X1.here hx rfl (hb hby at_12) rfl (l' := #[.val (.int x0), .val (.int x1), .val (.int x2), .val (.int x3), .val (.int (1 : Int32)), .val (.int (x1 &&& (3 : Int32))), .unset, .unset, .unset, .unset, .unset, .unset, .unset, .unset, .unset, .unset]) rfl k) ?_
    show own_Out p e below _ T1 (mkF m 14 #[.val (.int x0), .val (.int x1), .val (.int x2), .val (.int x3), .val (.int (1 : Int32)), .val (.int (x1 &&& (3 : Int32))), .unset, .unset, .unset, .unset, .unset, .unset, .unset, .unset, .unset, .unset] []) _ _ _
    generalize hv_l1 : (x1 &&& (3 : Int32)) = l1
    show own_Out p e below _ T1 (mkF m 14 #[.val (.int x0), .val (.int x1), .val (.int x2), .val (.int x3), .val (.int (1 : Int32)), .val (.int l1), .unset, .unset, .unset, .unset, .unset, .unset, .unset, .unset, .unset, .unset] []) _ _ _
    have b_l1 := own_k3 x1
    rw [hv_l1] at b_l1
    refine own_to (fun t k => XS.iloadN X1.here hx rfl (hb hby at_14) rfl k) ?_
    show own_Out p e below _ T1 (mkF m 15 #[.val (.int x0), .val (.int x1), .val (.int x2), .val (.int x3), .val (.int (1 : Int32)), .val (.int l1), .unset, .unset, .unset, .unset, .unset, .unset, .unset, .unset, .unset, .unset] [(.int x2)]) _ _ _
    refine own_to (fun t k => XS.iconst X1.here hx rfl (hb hby at_15) k) ?_
    show own_Out p e below _ T1 (mkF m 16 #[.val (.int x0), .val (.int x1), .val (.int x2), .val (.int x3), .val (.int (1 : Int32)), .val (.int l1), .unset, .unset, .unset, .unset, .unset, .unset, .unset, .unset, .unset, .unset] [(.int (3 : Int32)), (.int x2)]) _ _ _
    refine own_to (fun t k => XS.iand X1.here hx rfl (hb hby at_16) rfl k) ?_
    show own_Out p e below _ T1 (mkF m 17 #[.val (.int x0), .val (.int x1), .val (.int x2), .val (.int x3), .val (.int (1 : Int32)), .val (.int l1), .unset, .unset, .unset, .unset, .unset, .unset, .unset, .unset, .unset, .unset] [(.int (x2 &&& (3 : Int32)))]) _ _ _
    refine own_to (fun t k => XS.istore X1.here hx rfl (hb hby at_17) rfl (l' := #[.val (.int x0), .val (.int x1), .val (.int x2), .val (.int x3), .val (.int (1 : Int32)), .val (.int l1), .val (.int (x2 &&& (3 : Int32))), .unset, .unset, .unset, .unset, .unset, .unset, .unset, .unset, .unset]) rfl k) ?_
    show own_Out p e below _ T1 (mkF m 19 #[.val (.int x0), .val (.int x1), .val (.int x2), .val (.int x3), .val (.int (1 : Int32)), .val (.int l1), .val (.int (x2 &&& (3 : Int32))), .unset, .unset, .unset, .unset, .unset, .unset, .unset, .unset, .unset] []) _ _ _
    generalize hv_l2 : (x2 &&& (3 : Int32)) = l2
    show own_Out p e below _ T1 (mkF m 19 #[.val (.int x0), .val (.int x1), .val (.int x2), .val (.int x3), .val (.int (1 : Int32)), .val (.int l1), .val (.int l2), .unset, .unset, .unset, .unset, .unset, .unset, .unset, .unset, .unset] []) _ _ _
    have b_l2 := own_k3 x2
    rw [hv_l2] at b_l2
    refine own_to (fun t k => XS.iloadN X1.here hx rfl (hb hby at_19) rfl k) ?_
    show own_Out p e below _ T1 (mkF m 20 #[.val (.int x0), .val (.int x1), .val (.int x2), .val (.int x3), .val (.int (1 : Int32)), .val (.int l1), .val (.int l2), .unset, .unset, .unset, .unset, .unset, .unset, .unset, .unset, .unset] [(.int x3)]) _ _ _
    refine own_to (fun t k => XS.iconst X1.here hx rfl (hb hby at_20) k) ?_
    show own_Out p e below _ T1 (mkF m 21 #[.val (.int x0), .val (.int x1), .val (.int x2), .val (.int x3), .val (.int (1 : Int32)), .val (.int l1), .val (.int l2), .unset, .unset, .unset, .unset, .unset, .unset, .unset, .unset, .unset] [(.int (1 : Int32)), (.int x3)]) _ _ _
    refine own_to (fun t k => XS.iand X1.here hx rfl (hb hby at_21) rfl k) ?_
    show own_Out p e below _ T1 (mkF m 22 #[.val (.int x0), .val (.int x1), .val (.int x2), .val (.int x3), .val (.int (1 : Int32)), .val (.int l1), .val (.int l2), .unset, .unset, .unset, .unset, .unset, .unset, .unset, .unset, .unset] [(.int (x3 &&& (1 : Int32)))]) _ _ _
    refine own_to (fun t k => XS.istore X1.here hx rfl (hb hby at_22) rfl (l' := #[.val (.int x0), .val (.int x1), .val (.int x2), .val (.int x3), .val (.int (1 : Int32)), .val (.int l1), .val (.int l2), .val (.int (x3 &&& (1 : Int32))), .unset, .unset, .unset, .unset, .unset, .unset, .unset, .unset]) rfl k) ?_
    show own_Out p e below _ T1 (mkF m 24 #[.val (.int x0), .val (.int x1), .val (.int x2), .val (.int x3), .val (.int (1 : Int32)), .val (.int l1), .val (.int l2), .val (.int (x3 &&& (1 : Int32))), .unset, .unset, .unset, .unset, .unset, .unset, .unset, .unset] []) _ _ _
    generalize hv_tr : (x3 &&& (1 : Int32)) = tr
    show own_Out p e below _ T1 (mkF m 24 #[.val (.int x0), .val (.int x1), .val (.int x2), .val (.int x3), .val (.int (1 : Int32)), .val (.int l1), .val (.int l2), .val (.int tr), .unset, .unset, .unset, .unset, .unset, .unset, .unset, .unset] []) _ _ _
    have ht2 := own_tr x3
    rw [hv_tr] at ht2
    rcases ht2 with hk_tr | hk_tr
    · subst hk_tr
      show own_Out p e below _ T1 (mkF m 24 #[.val (.int x0), .val (.int x1), .val (.int x2), .val (.int x3), .val (.int (1 : Int32)), .val (.int l1), .val (.int l2), .val (.int (0 : Int32)), .unset, .unset, .unset, .unset, .unset, .unset, .unset, .unset] []) _ _ _
      refine own_to (fun t k => XS.iloadN X1.here hx rfl (hb hby at_24) rfl k) ?_
      show own_Out p e below _ T1 (mkF m 25 #[.val (.int x0), .val (.int x1), .val (.int x2), .val (.int x3), .val (.int (1 : Int32)), .val (.int l1), .val (.int l2), .val (.int (0 : Int32)), .unset, .unset, .unset, .unset, .unset, .unset, .unset, .unset] [(.int x3)]) _ _ _
      refine own_to (fun t k => XS.iconst X1.here hx rfl (hb hby at_25) k) ?_
      show own_Out p e below _ T1 (mkF m 26 #[.val (.int x0), .val (.int x1), .val (.int x2), .val (.int x3), .val (.int (1 : Int32)), .val (.int l1), .val (.int l2), .val (.int (0 : Int32)), .unset, .unset, .unset, .unset, .unset, .unset, .unset, .unset] [(.int (1 : Int32)), (.int x3)]) _ _ _
      refine own_to (fun t k => XS.iushr X1.here hx rfl (hb hby at_26) rfl k) ?_
      show own_Out p e below _ T1 (mkF m 27 #[.val (.int x0), .val (.int x1), .val (.int x2), .val (.int x3), .val (.int (1 : Int32)), .val (.int l1), .val (.int l2), .val (.int (0 : Int32)), .unset, .unset, .unset, .unset, .unset, .unset, .unset, .unset] [(.int ((x3.toUInt32 >>> ((1 : Int32) &&& 31).toUInt32).toInt32))]) _ _ _
      refine own_to (fun t k => XS.sipush X1.here hx rfl (hb hby at_27) k) ?_
      show own_Out p e below _ T1 (mkF m 30 #[.val (.int x0), .val (.int x1), .val (.int x2), .val (.int x3), .val (.int (1 : Int32)), .val (.int l1), .val (.int l2), .val (.int (0 : Int32)), .unset, .unset, .unset, .unset, .unset, .unset, .unset, .unset] [(.int (254 : Int32)), (.int ((x3.toUInt32 >>> ((1 : Int32) &&& 31).toUInt32).toInt32))]) _ _ _
      refine own_to (fun t k => XS.iand X1.here hx rfl (hb hby at_30) rfl k) ?_
      show own_Out p e below _ T1 (mkF m 31 #[.val (.int x0), .val (.int x1), .val (.int x2), .val (.int x3), .val (.int (1 : Int32)), .val (.int l1), .val (.int l2), .val (.int (0 : Int32)), .unset, .unset, .unset, .unset, .unset, .unset, .unset, .unset] [(.int (((x3.toUInt32 >>> ((1 : Int32) &&& 31).toUInt32).toInt32) &&& (254 : Int32)))]) _ _ _
      refine own_to (fun t k => XS.istore X1.here hx rfl (hb hby at_31) rfl (l' := #[.val (.int x0), .val (.int x1), .val (.int x2), .val (.int x3), .val (.int (1 : Int32)), .val (.int l1), .val (.int l2), .val (.int (0 : Int32)), .val (.int (((x3.toUInt32 >>> ((1 : Int32) &&& 31).toUInt32).toInt32) &&& (254 : Int32))), .unset, .unset, .unset, .unset, .unset, .unset, .unset]) rfl k) ?_
      show own_Out p e below _ T1 (mkF m 33 #[.val (.int x0), .val (.int x1), .val (.int x2), .val (.int x3), .val (.int (1 : Int32)), .val (.int l1), .val (.int l2), .val (.int (0 : Int32)), .val (.int (((x3.toUInt32 >>> ((1 : Int32) &&& 31).toUInt32).toInt32) &&& (254 : Int32))), .unset, .unset, .unset, .unset, .unset, .unset, .unset] []) _ _ _
      generalize hv_tt : (((x3.toUInt32 >>> ((1 : Int32) &&& 31).toUInt32).toInt32) &&& (254 : Int32)) = tt
      show own_Out p e below _ T1 (mkF m 33 #[.val (.int x0), .val (.int x1), .val (.int x2), .val (.int x3), .val (.int (1 : Int32)), .val (.int l1), .val (.int l2), .val (.int (0 : Int32)), .val (.int tt), .unset, .unset, .unset, .unset, .unset, .unset, .unset] []) _ _ _
      have htt := own_tgok ((x3.toUInt32 >>> ((1 : Int32) &&& 31).toUInt32).toInt32)
      rw [hv_tt] at htt
      refine own_to (fun t k => XS.iload X1.here hx rfl (hb hby at_33) rfl k) ?_
      show own_Out p e below _ T1 (mkF m 35 #[.val (.int x0), .val (.int x1), .val (.int x2), .val (.int x3), .val (.int (1 : Int32)), .val (.int l1), .val (.int l2), .val (.int (0 : Int32)), .val (.int tt), .unset, .unset, .unset, .unset, .unset, .unset, .unset] [(.int (1 : Int32))]) _ _ _
      refine own_to (fun t k => XS.iconst X1.here hx rfl (hb hby at_35) k) ?_
      show own_Out p e below _ T1 (mkF m 36 #[.val (.int x0), .val (.int x1), .val (.int x2), .val (.int x3), .val (.int (1 : Int32)), .val (.int l1), .val (.int l2), .val (.int (0 : Int32)), .val (.int tt), .unset, .unset, .unset, .unset, .unset, .unset, .unset] [(.int (1 : Int32)), (.int (1 : Int32))]) _ _ _
      have hc36 : ¬ ((1 : Int32) < (1 : Int32)) := by decide
      refine own_to (fun t k => XS.icmpNo X1.here hx rfl (hb hby at_36) rfl (flt hc36).1 k) ?_
      show own_Out p e below _ T1 (mkF m 39 #[.val (.int x0), .val (.int x1), .val (.int x2), .val (.int x3), .val (.int (1 : Int32)), .val (.int l1), .val (.int l2), .val (.int (0 : Int32)), .val (.int tt), .unset, .unset, .unset, .unset, .unset, .unset, .unset] []) _ _ _
      refine own_to (fun t k => XS.iconst X1.here hx rfl (hb hby at_39) k) ?_
      show own_Out p e below _ T1 (mkF m 40 #[.val (.int x0), .val (.int x1), .val (.int x2), .val (.int x3), .val (.int (1 : Int32)), .val (.int l1), .val (.int l2), .val (.int (0 : Int32)), .val (.int tt), .unset, .unset, .unset, .unset, .unset, .unset, .unset] [(.int (2 : Int32))]) _ _ _
      refine own_to (fun t k => XS.iload X1.here hx rfl (hb hby at_40) rfl k) ?_
      show own_Out p e below _ T1 (mkF m 42 #[.val (.int x0), .val (.int x1), .val (.int x2), .val (.int x3), .val (.int (1 : Int32)), .val (.int l1), .val (.int l2), .val (.int (0 : Int32)), .val (.int tt), .unset, .unset, .unset, .unset, .unset, .unset, .unset] [(.int l1), (.int (2 : Int32))]) _ _ _
      refine own_to (fun t k => XS.iadd X1.here hx rfl (hb hby at_42) rfl k) ?_
      show own_Out p e below _ T1 (mkF m 43 #[.val (.int x0), .val (.int x1), .val (.int x2), .val (.int x3), .val (.int (1 : Int32)), .val (.int l1), .val (.int l2), .val (.int (0 : Int32)), .val (.int tt), .unset, .unset, .unset, .unset, .unset, .unset, .unset] [(.int ((2 : Int32) + l1))]) _ _ _
      refine own_to (fun t k => XS.goto X1.here hx rfl (pc0 := 43) (pc' := 47) rfl (hb hby at_43) (by decide) (by decide) k) ?_
      show own_Out p e below _ T1 (mkF m 47 #[.val (.int x0), .val (.int x1), .val (.int x2), .val (.int x3), .val (.int (1 : Int32)), .val (.int l1), .val (.int l2), .val (.int (0 : Int32)), .val (.int tt), .unset, .unset, .unset, .unset, .unset, .unset, .unset] [(.int ((2 : Int32) + l1))]) _ _ _
      refine own_to (fun t k => XS.istore X1.here hx rfl (hb hby at_47) rfl (l' := #[.val (.int x0), .val (.int x1), .val (.int x2), .val (.int x3), .val (.int (1 : Int32)), .val (.int l1), .val (.int l2), .val (.int (0 : Int32)), .val (.int tt), .val (.int ((2 : Int32) + l1)), .unset, .unset, .unset, .unset, .unset, .unset]) rfl k) ?_
      show own_Out p e below _ T1 (mkF m 49 #[.val (.int x0), .val (.int x1), .val (.int x2), .val (.int x3), .val (.int (1 : Int32)), .val (.int l1), .val (.int l2), .val (.int (0 : Int32)), .val (.int tt), .val (.int ((2 : Int32) + l1)), .unset, .unset, .unset, .unset, .unset, .unset] []) _ _ _
      generalize hv_s1 : ((2 : Int32) + l1) = s1
      show own_Out p e below _ T1 (mkF m 49 #[.val (.int x0), .val (.int x1), .val (.int x2), .val (.int x3), .val (.int (1 : Int32)), .val (.int l1), .val (.int l2), .val (.int (0 : Int32)), .val (.int tt), .val (.int s1), .unset, .unset, .unset, .unset, .unset, .unset] []) _ _ _
      have h_s1 : s1.toInt = 2 + l1.toInt := by rw [← hv_s1, own_ad 2 l1 (by omega) (by omega), k2]
      have h_s1p := own_ad s1 1 (by omega) (by omega)
      rw [k1] at h_s1p
      refine own_to (fun t k => XS.iload X1.here hx rfl (hb hby at_49) rfl k) ?_
      show own_Out p e below _ T1 (mkF m 51 #[.val (.int x0), .val (.int x1), .val (.int x2), .val (.int x3), .val (.int (1 : Int32)), .val (.int l1), .val (.int l2), .val (.int (0 : Int32)), .val (.int tt), .val (.int s1), .unset, .unset, .unset, .unset, .unset, .unset] [(.int (1 : Int32))]) _ _ _
      refine own_to (fun t k => XS.iconst X1.here hx rfl (hb hby at_51) k) ?_
      show own_Out p e below _ T1 (mkF m 52 #[.val (.int x0), .val (.int x1), .val (.int x2), .val (.int x3), .val (.int (1 : Int32)), .val (.int l1), .val (.int l2), .val (.int (0 : Int32)), .val (.int tt), .val (.int s1), .unset, .unset, .unset, .unset, .unset, .unset] [(.int (2 : Int32)), (.int (1 : Int32))]) _ _ _
      have hc52 : (1 : Int32) < (2 : Int32) := by decide
      refine own_to (fun t k => XS.icmpYes X1.here hx rfl (pc0 := 52) (pc' := 62) rfl (hb hby at_52) rfl (tlt hc52).1 (by decide) (by decide) k) ?_
      show own_Out p e below _ T1 (mkF m 62 #[.val (.int x0), .val (.int x1), .val (.int x2), .val (.int x3), .val (.int (1 : Int32)), .val (.int l1), .val (.int l2), .val (.int (0 : Int32)), .val (.int tt), .val (.int s1), .unset, .unset, .unset, .unset, .unset, .unset] []) _ _ _
      refine own_to (fun t k => XS.iconst X1.here hx rfl (hb hby at_62) k) ?_
      show own_Out p e below _ T1 (mkF m 63 #[.val (.int x0), .val (.int x1), .val (.int x2), .val (.int x3), .val (.int (1 : Int32)), .val (.int l1), .val (.int l2), .val (.int (0 : Int32)), .val (.int tt), .val (.int s1), .unset, .unset, .unset, .unset, .unset, .unset] [(.int (0 : Int32))]) _ _ _
      refine own_to (fun t k => XS.istore X1.here hx rfl (hb hby at_63) rfl (l' := #[.val (.int x0), .val (.int x1), .val (.int x2), .val (.int x3), .val (.int (1 : Int32)), .val (.int l1), .val (.int l2), .val (.int (0 : Int32)), .val (.int tt), .val (.int s1), .val (.int (0 : Int32)), .unset, .unset, .unset, .unset, .unset]) rfl k) ?_
      show own_Out p e below _ T1 (mkF m 65 #[.val (.int x0), .val (.int x1), .val (.int x2), .val (.int x3), .val (.int (1 : Int32)), .val (.int l1), .val (.int l2), .val (.int (0 : Int32)), .val (.int tt), .val (.int s1), .val (.int (0 : Int32)), .unset, .unset, .unset, .unset, .unset] []) _ _ _
      refine own_to (fun t k => XS.iload X1.here hx rfl (hb hby at_65) rfl k) ?_
      show own_Out p e below _ T1 (mkF m 67 #[.val (.int x0), .val (.int x1), .val (.int x2), .val (.int x3), .val (.int (1 : Int32)), .val (.int l1), .val (.int l2), .val (.int (0 : Int32)), .val (.int tt), .val (.int s1), .val (.int (0 : Int32)), .unset, .unset, .unset, .unset, .unset] [(.int s1)]) _ _ _
      refine own_to (fun t k => XS.iload X1.here hx rfl (hb hby at_67) rfl k) ?_
      show own_Out p e below _ T1 (mkF m 69 #[.val (.int x0), .val (.int x1), .val (.int x2), .val (.int x3), .val (.int (1 : Int32)), .val (.int l1), .val (.int l2), .val (.int (0 : Int32)), .val (.int tt), .val (.int s1), .val (.int (0 : Int32)), .unset, .unset, .unset, .unset, .unset] [(.int (0 : Int32)), (.int s1)]) _ _ _
      refine own_to (fun t k => XS.iadd X1.here hx rfl (hb hby at_69) rfl k) ?_
      show own_Out p e below _ T1 (mkF m 70 #[.val (.int x0), .val (.int x1), .val (.int x2), .val (.int x3), .val (.int (1 : Int32)), .val (.int l1), .val (.int l2), .val (.int (0 : Int32)), .val (.int tt), .val (.int s1), .val (.int (0 : Int32)), .unset, .unset, .unset, .unset, .unset] [(.int (s1 + (0 : Int32)))]) _ _ _
      refine own_to (fun t k => XS.iload X1.here hx rfl (hb hby at_70) rfl k) ?_
      show own_Out p e below _ T1 (mkF m 72 #[.val (.int x0), .val (.int x1), .val (.int x2), .val (.int x3), .val (.int (1 : Int32)), .val (.int l1), .val (.int l2), .val (.int (0 : Int32)), .val (.int tt), .val (.int s1), .val (.int (0 : Int32)), .unset, .unset, .unset, .unset, .unset] [(.int (0 : Int32)), (.int (s1 + (0 : Int32)))]) _ _ _
      refine own_to (fun t k => XS.iadd X1.here hx rfl (hb hby at_72) rfl k) ?_
      show own_Out p e below _ T1 (mkF m 73 #[.val (.int x0), .val (.int x1), .val (.int x2), .val (.int x3), .val (.int (1 : Int32)), .val (.int l1), .val (.int l2), .val (.int (0 : Int32)), .val (.int tt), .val (.int s1), .val (.int (0 : Int32)), .unset, .unset, .unset, .unset, .unset] [(.int ((s1 + (0 : Int32)) + (0 : Int32)))]) _ _ _
      have h_a := own_ad s1 (0 : Int32) (by omega) (by omega)
      have h_b := own_ad (s1 + (0 : Int32)) (0 : Int32) (by omega) (by omega)
      generalize hv_nn : ((s1 + (0 : Int32)) + (0 : Int32)) = nn
      show own_Out p e below _ T1 (mkF m 73 #[.val (.int x0), .val (.int x1), .val (.int x2), .val (.int x3), .val (.int (1 : Int32)), .val (.int l1), .val (.int l2), .val (.int (0 : Int32)), .val (.int tt), .val (.int s1), .val (.int (0 : Int32)), .unset, .unset, .unset, .unset, .unset] [(.int nn)]) _ _ _
      rw [hv_nn] at h_b
      refine own_newA X1 hx hZ (hw _ (List.mem_of_getElem? (i := 4) rfl)) rfl e1 rfl (hb hby at_73) rfl (own_ge (by omega)) (cap := 12) (by rw [own_nn]; omega) (by decide) (by decide) (by decide) fun T13 hh13 ob13 gb13 X13 e13 E13 A13 => ?_
      have g_ob13 : n0 ≤ ob13 := Nat.le_trans Z0 (Nat.le_of_eq gb13.symm)
      have Z0 := Nat.le_trans Z0 E13.1
      have hk := Nat.le_trans hk E13.1
      have A_ob13 : own_A Z hh13 ob13 .byte nn.toNatClampNeg (fun _ => 0) := A13
      show own_Out p e below _ T13 (mkF m 75 #[.val (.int x0), .val (.int x1), .val (.int x2), .val (.int x3), .val (.int (1 : Int32)), .val (.int l1), .val (.int l2), .val (.int (0 : Int32)), .val (.int tt), .val (.int s1), .val (.int (0 : Int32)), .unset, .unset, .unset, .unset, .unset] [(.ref ob13)]) _ _ _
      refine own_to (fun t k => XS.astore X13.here hx rfl (hb hby at_75) rfl rfl (l' := #[.val (.int x0), .val (.int x1), .val (.int x2), .val (.int x3), .val (.int (1 : Int32)), .val (.int l1), .val (.int l2), .val (.int (0 : Int32)), .val (.int tt), .val (.int s1), .val (.int (0 : Int32)), .val (.ref ob13), .unset, .unset, .unset, .unset]) rfl k) ?_
      show own_Out p e below _ T13 (mkF m 77 #[.val (.int x0), .val (.int x1), .val (.int x2), .val (.int x3), .val (.int (1 : Int32)), .val (.int l1), .val (.int l2), .val (.int (0 : Int32)), .val (.int tt), .val (.int s1), .val (.int (0 : Int32)), .val (.ref ob13), .unset, .unset, .unset, .unset] []) _ _ _
      refine own_to (fun t k => XS.iload X13.here hx rfl (hb hby at_77) rfl k) ?_
      show own_Out p e below _ T13 (mkF m 79 #[.val (.int x0), .val (.int x1), .val (.int x2), .val (.int x3), .val (.int (1 : Int32)), .val (.int l1), .val (.int l2), .val (.int (0 : Int32)), .val (.int tt), .val (.int s1), .val (.int (0 : Int32)), .val (.ref ob13), .unset, .unset, .unset, .unset] [(.int (1 : Int32))]) _ _ _
      refine own_to (fun t k => XS.iconst X13.here hx rfl (hb hby at_79) k) ?_
      show own_Out p e below _ T13 (mkF m 80 #[.val (.int x0), .val (.int x1), .val (.int x2), .val (.int x3), .val (.int (1 : Int32)), .val (.int l1), .val (.int l2), .val (.int (0 : Int32)), .val (.int tt), .val (.int s1), .val (.int (0 : Int32)), .val (.ref ob13), .unset, .unset, .unset, .unset] [(.int (1 : Int32)), (.int (1 : Int32))]) _ _ _
      have hc80 : ¬ ((1 : Int32) < (1 : Int32)) := by decide
      refine own_to (fun t k => XS.icmpNo X13.here hx rfl (hb hby at_80) rfl (flt hc80).1 k) ?_
      show own_Out p e below _ T13 (mkF m 83 #[.val (.int x0), .val (.int x1), .val (.int x2), .val (.int x3), .val (.int (1 : Int32)), .val (.int l1), .val (.int l2), .val (.int (0 : Int32)), .val (.int tt), .val (.int s1), .val (.int (0 : Int32)), .val (.ref ob13), .unset, .unset, .unset, .unset] []) _ _ _
      refine own_to (fun t k => XS.aload X13.here hx rfl (hb hby at_83) rfl rfl k) ?_
      show own_Out p e below _ T13 (mkF m 85 #[.val (.int x0), .val (.int x1), .val (.int x2), .val (.int x3), .val (.int (1 : Int32)), .val (.int l1), .val (.int l2), .val (.int (0 : Int32)), .val (.int tt), .val (.int s1), .val (.int (0 : Int32)), .val (.ref ob13), .unset, .unset, .unset, .unset] [(.ref ob13)]) _ _ _
      refine own_to (fun t k => XS.iconst X13.here hx rfl (hb hby at_85) k) ?_
      show own_Out p e below _ T13 (mkF m 86 #[.val (.int x0), .val (.int x1), .val (.int x2), .val (.int x3), .val (.int (1 : Int32)), .val (.int l1), .val (.int l2), .val (.int (0 : Int32)), .val (.int tt), .val (.int s1), .val (.int (0 : Int32)), .val (.ref ob13), .unset, .unset, .unset, .unset] [(.int (0 : Int32)), (.ref ob13)]) _ _ _
      refine own_to (fun t k => XS.iload X13.here hx rfl (hb hby at_86) rfl k) ?_
      show own_Out p e below _ T13 (mkF m 88 #[.val (.int x0), .val (.int x1), .val (.int x2), .val (.int x3), .val (.int (1 : Int32)), .val (.int l1), .val (.int l2), .val (.int (0 : Int32)), .val (.int tt), .val (.int s1), .val (.int (0 : Int32)), .val (.ref ob13), .unset, .unset, .unset, .unset] [(.int tt), (.int (0 : Int32)), (.ref ob13)]) _ _ _
      refine own_to (fun t k => XS.i2b X13.here hx rfl (hb hby at_88) rfl k) ?_
      show own_Out p e below _ T13 (mkF m 89 #[.val (.int x0), .val (.int x1), .val (.int x2), .val (.int x3), .val (.int (1 : Int32)), .val (.int l1), .val (.int l2), .val (.int (0 : Int32)), .val (.int tt), .val (.int s1), .val (.int (0 : Int32)), .val (.ref ob13), .unset, .unset, .unset, .unset] [(.int (tt.toInt8.toInt32)), (.int (0 : Int32)), (.ref ob13)]) _ _ _
      refine own_stB X13 hx hZ e13 A_ob13 (own_ge (by omega)) (by simp only [own_nn] <;> omega) rfl rfl (hb hby at_89) fun T14 hh14 X14 e14 W14 A14 => ?_
      have A_ob13 := A14
      have Z0 := Nat.le_trans Z0 (Nat.le_of_eq W14.size.symm)
      have hk := Nat.le_trans hk (Nat.le_of_eq W14.size.symm)
      have N14 := own_fs (sl := Int32.toNatClampNeg (0 : Int32)) N1 g_ob13
      show own_Out p e below _ T14 (mkF m 90 #[.val (.int x0), .val (.int x1), .val (.int x2), .val (.int x3), .val (.int (1 : Int32)), .val (.int l1), .val (.int l2), .val (.int (0 : Int32)), .val (.int tt), .val (.int s1), .val (.int (0 : Int32)), .val (.ref ob13), .unset, .unset, .unset, .unset] []) _ _ _
      refine own_to (fun t k => XS.aload X14.here hx rfl (hb hby at_90) rfl rfl k) ?_
      show own_Out p e below _ T14 (mkF m 92 #[.val (.int x0), .val (.int x1), .val (.int x2), .val (.int x3), .val (.int (1 : Int32)), .val (.int l1), .val (.int l2), .val (.int (0 : Int32)), .val (.int tt), .val (.int s1), .val (.int (0 : Int32)), .val (.ref ob13), .unset, .unset, .unset, .unset] [(.ref ob13)]) _ _ _
      refine own_to (fun t k => XS.iconst X14.here hx rfl (hb hby at_92) k) ?_
      show own_Out p e below _ T14 (mkF m 93 #[.val (.int x0), .val (.int x1), .val (.int x2), .val (.int x3), .val (.int (1 : Int32)), .val (.int l1), .val (.int l2), .val (.int (0 : Int32)), .val (.int tt), .val (.int s1), .val (.int (0 : Int32)), .val (.ref ob13), .unset, .unset, .unset, .unset] [(.int (1 : Int32)), (.ref ob13)]) _ _ _
      refine own_to (fun t k => XS.iload X14.here hx rfl (hb hby at_93) rfl k) ?_
      show own_Out p e below _ T14 (mkF m 95 #[.val (.int x0), .val (.int x1), .val (.int x2), .val (.int x3), .val (.int (1 : Int32)), .val (.int l1), .val (.int l2), .val (.int (0 : Int32)), .val (.int tt), .val (.int s1), .val (.int (0 : Int32)), .val (.ref ob13), .unset, .unset, .unset, .unset] [(.int l1), (.int (1 : Int32)), (.ref ob13)]) _ _ _
      refine own_to (fun t k => XS.i2b X14.here hx rfl (hb hby at_95) rfl k) ?_
      show own_Out p e below _ T14 (mkF m 96 #[.val (.int x0), .val (.int x1), .val (.int x2), .val (.int x3), .val (.int (1 : Int32)), .val (.int l1), .val (.int l2), .val (.int (0 : Int32)), .val (.int tt), .val (.int s1), .val (.int (0 : Int32)), .val (.ref ob13), .unset, .unset, .unset, .unset] [(.int (l1.toInt8.toInt32)), (.int (1 : Int32)), (.ref ob13)]) _ _ _
      refine own_stB X14 hx hZ e14 A_ob13 (own_ge (by omega)) (by simp only [own_nn] <;> omega) rfl rfl (hb hby at_96) fun T15 hh15 X15 e15 W15 A15 => ?_
      have A_ob13 := A15
      have Z0 := Nat.le_trans Z0 (Nat.le_of_eq W15.size.symm)
      have hk := Nat.le_trans hk (Nat.le_of_eq W15.size.symm)
      have N15 := own_fs (sl := Int32.toNatClampNeg (1 : Int32)) N14 g_ob13
      show own_Out p e below _ T15 (mkF m 97 #[.val (.int x0), .val (.int x1), .val (.int x2), .val (.int x3), .val (.int (1 : Int32)), .val (.int l1), .val (.int l2), .val (.int (0 : Int32)), .val (.int tt), .val (.int s1), .val (.int (0 : Int32)), .val (.ref ob13), .unset, .unset, .unset, .unset] []) _ _ _
      refine own_to (fun t k => XS.iload X15.here hx rfl (hb hby at_97) rfl k) ?_
      show own_Out p e below _ T15 (mkF m 99 #[.val (.int x0), .val (.int x1), .val (.int x2), .val (.int x3), .val (.int (1 : Int32)), .val (.int l1), .val (.int l2), .val (.int (0 : Int32)), .val (.int tt), .val (.int s1), .val (.int (0 : Int32)), .val (.ref ob13), .unset, .unset, .unset, .unset] [(.int (1 : Int32))]) _ _ _
      refine own_to (fun t k => XS.iconst X15.here hx rfl (hb hby at_99) k) ?_
      show own_Out p e below _ T15 (mkF m 100 #[.val (.int x0), .val (.int x1), .val (.int x2), .val (.int x3), .val (.int (1 : Int32)), .val (.int l1), .val (.int l2), .val (.int (0 : Int32)), .val (.int tt), .val (.int s1), .val (.int (0 : Int32)), .val (.ref ob13), .unset, .unset, .unset, .unset] [(.int (2 : Int32)), (.int (1 : Int32))]) _ _ _
      have hc100 : (1 : Int32) < (2 : Int32) := by decide
      refine own_to (fun t k => XS.icmpYes X15.here hx rfl (pc0 := 100) (pc' := 121) rfl (hb hby at_100) rfl (tlt hc100).1 (by decide) (by decide) k) ?_
      show own_Out p e below _ T15 (mkF m 121 #[.val (.int x0), .val (.int x1), .val (.int x2), .val (.int x3), .val (.int (1 : Int32)), .val (.int l1), .val (.int l2), .val (.int (0 : Int32)), .val (.int tt), .val (.int s1), .val (.int (0 : Int32)), .val (.ref ob13), .unset, .unset, .unset, .unset] []) _ _ _
      refine own_to (fun t k => XS.iload X15.here hx rfl (hb hby at_121) rfl k) ?_
      show own_Out p e below _ T15 (mkF m 123 #[.val (.int x0), .val (.int x1), .val (.int x2), .val (.int x3), .val (.int (1 : Int32)), .val (.int l1), .val (.int l2), .val (.int (0 : Int32)), .val (.int tt), .val (.int s1), .val (.int (0 : Int32)), .val (.ref ob13), .unset, .unset, .unset, .unset] [(.int (0 : Int32))]) _ _ _
      refine own_to (fun t k => XS.iconst X15.here hx rfl (hb hby at_123) k) ?_
      show own_Out p e below _ T15 (mkF m 124 #[.val (.int x0), .val (.int x1), .val (.int x2), .val (.int x3), .val (.int (1 : Int32)), .val (.int l1), .val (.int l2), .val (.int (0 : Int32)), .val (.int tt), .val (.int s1), .val (.int (0 : Int32)), .val (.ref ob13), .unset, .unset, .unset, .unset] [(.int (1 : Int32)), (.int (0 : Int32))]) _ _ _
      have hc124 : ¬ ((0 : Int32) = (1 : Int32)) := by decide
      refine own_to (fun t k => XS.icmpYes X15.here hx rfl (pc0 := 124) (pc' := 138) rfl (hb hby at_124) rfl (feq hc124).2 (by decide) (by decide) k) ?_
      show own_Out p e below _ T15 (mkF m 138 #[.val (.int x0), .val (.int x1), .val (.int x2), .val (.int x3), .val (.int (1 : Int32)), .val (.int l1), .val (.int l2), .val (.int (0 : Int32)), .val (.int tt), .val (.int s1), .val (.int (0 : Int32)), .val (.ref ob13), .unset, .unset, .unset, .unset] []) _ _ _
      refine own_new X15 hx hZ hown (hw _ (List.mem_of_getElem? (i := 5) rfl)) (hw _ (List.mem_of_getElem? (i := 6) rfl)) (hw _ (List.mem_of_getElem? (i := 7) rfl)) e15 rfl (hb hby at_138) (by decide) (by decide) fun T16 hh16 ob16 gb16 X16 e16 E16 A16 D16 => ?_
      have ne_ob13_ob16 : ob13 ≠ ob16 := Nat.ne_of_lt (Nat.lt_of_lt_of_le A_ob13.lt (Nat.le_of_eq gb16.symm))
      have ne_ob16_ob13 := Ne.symm ne_ob13_ob16
      have g_ob16 : n0 ≤ ob16 := Nat.le_trans Z0 (Nat.le_of_eq gb16.symm)
      have A_ob13 := A_ob13.ext E16
      have Z0 := Nat.le_trans Z0 E16.1
      have hk := Nat.le_trans hk E16.1
      have E_ob16 := A16
      have F_ob16_bytes : Fld Z hh16 ob16 "com/example/pathwarden/pathwarden/util/DerReader" "bytes" "[B" .null := D16 (Or.inr (hw _ (List.mem_of_getElem? (i := 18) rfl))) (ty := (.array .byte)) (by decide)
      have F_ob16_position : Fld Z hh16 ob16 "com/example/pathwarden/pathwarden/util/DerReader" "position" "I" (.int (0 : Int32)) := D16 (Or.inl (hw _ (List.mem_of_getElem? (i := 20) rfl))) (ty := .int) (by decide)
      have F_ob16_end : Fld Z hh16 ob16 "com/example/pathwarden/pathwarden/util/DerReader" "end" "I" (.int (0 : Int32)) := D16 (Or.inr (hw _ (List.mem_of_getElem? (i := 22) rfl))) (ty := .int) (by decide)
      show own_Out p e below _ T16 (mkF m 141 #[.val (.int x0), .val (.int x1), .val (.int x2), .val (.int x3), .val (.int (1 : Int32)), .val (.int l1), .val (.int l2), .val (.int (0 : Int32)), .val (.int tt), .val (.int s1), .val (.int (0 : Int32)), .val (.ref ob13), .unset, .unset, .unset, .unset] [(.ref ob16)]) _ _ _
      refine own_to (fun t k => XS.dup X16.here hx rfl (hb hby at_141) rfl rfl k) ?_
      show own_Out p e below _ T16 (mkF m 142 #[.val (.int x0), .val (.int x1), .val (.int x2), .val (.int x3), .val (.int (1 : Int32)), .val (.int l1), .val (.int l2), .val (.int (0 : Int32)), .val (.int tt), .val (.int s1), .val (.int (0 : Int32)), .val (.ref ob13), .unset, .unset, .unset, .unset] [(.ref ob16), (.ref ob16)]) _ _ _
      refine own_to (fun t k => XS.aload X16.here hx rfl (hb hby at_142) rfl rfl k) ?_
      show own_Out p e below _ T16 (mkF m 144 #[.val (.int x0), .val (.int x1), .val (.int x2), .val (.int x3), .val (.int (1 : Int32)), .val (.int l1), .val (.int l2), .val (.int (0 : Int32)), .val (.int tt), .val (.int s1), .val (.int (0 : Int32)), .val (.ref ob13), .unset, .unset, .unset, .unset] [(.ref ob13), (.ref ob16), (.ref ob16)]) _ _ _
      refine own_callC X16 hx hZ hown (a := ob16) (argsL := [(.ref ob13)]) (rest := [(.ref ob16)]) rfl (hw _ (List.mem_of_getElem? (i := 8) rfl)) (hw _ (List.mem_of_getElem? (i := 9) rfl)) (hw _ (List.mem_of_getElem? (i := 7) rfl)) (hw _ (List.mem_of_getElem? (i := 10) rfl)) (by decide) (rm2 l Z a0 hw ob16 ob13 (nn.toNatClampNeg) (own_upd (own_upd (fun _ => 0) ((0 : Int32).toNatClampNeg) (nar .byte (tt.toInt8.toInt32))) ((1 : Int32).toNatClampNeg) (nar .byte (l1.toInt8.toInt32))) hh16 n0 Z0 E_ob16 F_ob16_bytes F_ob16_position F_ob16_end g_ob16 A_ob13 ne_ob13_ob16) (by decide) (by decide) e16 rfl (by rw [hml]; rfl) (lenOf pd_5 rfl) rfl (W := 1) (by show 2 * 0 + _ ≤ _; exact Nat.le_of_eq rfl) (hb hby at_144) (by decide) (by decide) fun v17 T17 hh17 L17 X17 e17 hQ17 => ?_
      obtain ⟨rfl, NL17, KK17, P17_0, P17_1, P17_2⟩ := hQ17
      have A_ob13 := A_ob13.keep KK17 (by simp [ne_ob13_ob16])
      have E_ob16 := E_ob16.keep KK17
      have F_ob16_bytes := P17_0
      have F_ob16_position := P17_1
      have F_ob16_end := P17_2
      have Z0 := Nat.le_trans Z0 KK17.1
      have hk := Nat.le_trans hk KK17.1
      have N17 := Fr.app N15 NL17
      show own_Out p e below _ T17 (mkF m 147 #[.val (.int x0), .val (.int x1), .val (.int x2), .val (.int x3), .val (.int (1 : Int32)), .val (.int l1), .val (.int l2), .val (.int (0 : Int32)), .val (.int tt), .val (.int s1), .val (.int (0 : Int32)), .val (.ref ob13), .unset, .unset, .unset, .unset] [(.ref ob16)]) _ _ _
      rw [(back32 (n := nn) (own_ge (by omega))).1] at F_ob16_end
      refine own_to (fun t k => XS.astore X17.here hx rfl (hb hby at_147) rfl rfl (l' := #[.val (.int x0), .val (.int x1), .val (.int x2), .val (.int x3), .val (.int (1 : Int32)), .val (.int l1), .val (.int l2), .val (.int (0 : Int32)), .val (.int tt), .val (.int s1), .val (.int (0 : Int32)), .val (.ref ob13), .val (.ref ob16), .unset, .unset, .unset]) rfl k) ?_
      show own_Out p e below _ T17 (mkF m 149 #[.val (.int x0), .val (.int x1), .val (.int x2), .val (.int x3), .val (.int (1 : Int32)), .val (.int l1), .val (.int l2), .val (.int (0 : Int32)), .val (.int tt), .val (.int s1), .val (.int (0 : Int32)), .val (.ref ob13), .val (.ref ob16), .unset, .unset, .unset] []) _ _ _
      refine own_to (fun t k => XS.iload X17.here hx rfl (hb hby at_149) rfl k) ?_
      show own_Out p e below _ T17 (mkF m 151 #[.val (.int x0), .val (.int x1), .val (.int x2), .val (.int x3), .val (.int (1 : Int32)), .val (.int l1), .val (.int l2), .val (.int (0 : Int32)), .val (.int tt), .val (.int s1), .val (.int (0 : Int32)), .val (.ref ob13), .val (.ref ob16), .unset, .unset, .unset] [(.int (1 : Int32))]) _ _ _
      have hc151 : (0 : Int32) < (1 : Int32) := by decide
      refine own_to (fun t k => XS.ifYes X17.here hx rfl (pc0 := 151) (pc' := 160) rfl (hb hby at_151) rfl ((if0 _ _).trans (tlt hc151).2.2.1) (by decide) (by decide) k) ?_
      show own_Out p e below _ T17 (mkF m 160 #[.val (.int x0), .val (.int x1), .val (.int x2), .val (.int x3), .val (.int (1 : Int32)), .val (.int l1), .val (.int l2), .val (.int (0 : Int32)), .val (.int tt), .val (.int s1), .val (.int (0 : Int32)), .val (.ref ob13), .val (.ref ob16), .unset, .unset, .unset] []) _ _ _
      refine own_to (fun t k => XS.iconst X17.here hx rfl (hb hby at_160) k) ?_
      show own_Out p e below _ T17 (mkF m 161 #[.val (.int x0), .val (.int x1), .val (.int x2), .val (.int x3), .val (.int (1 : Int32)), .val (.int l1), .val (.int l2), .val (.int (0 : Int32)), .val (.int tt), .val (.int s1), .val (.int (0 : Int32)), .val (.ref ob13), .val (.ref ob16), .unset, .unset, .unset] [(.int (1 : Int32))]) _ _ _
      refine own_to (fun t k => XS.goto X17.here hx rfl (pc0 := 161) (pc' := 165) rfl (hb hby at_161) (by decide) (by decide) k) ?_
      show own_Out p e below _ T17 (mkF m 165 #[.val (.int x0), .val (.int x1), .val (.int x2), .val (.int x3), .val (.int (1 : Int32)), .val (.int l1), .val (.int l2), .val (.int (0 : Int32)), .val (.int tt), .val (.int s1), .val (.int (0 : Int32)), .val (.ref ob13), .val (.ref ob16), .unset, .unset, .unset] [(.int (1 : Int32))]) _ _ _
      refine own_to (fun t k => XS.istore X17.here hx rfl (hb hby at_165) rfl (l' := #[.val (.int x0), .val (.int x1), .val (.int x2), .val (.int x3), .val (.int (1 : Int32)), .val (.int l1), .val (.int l2), .val (.int (0 : Int32)), .val (.int tt), .val (.int s1), .val (.int (0 : Int32)), .val (.ref ob13), .val (.ref ob16), .val (.int (1 : Int32)), .unset, .unset]) rfl k) ?_
      show own_Out p e below _ T17 (mkF m 167 #[.val (.int x0), .val (.int x1), .val (.int x2), .val (.int x3), .val (.int (1 : Int32)), .val (.int l1), .val (.int l2), .val (.int (0 : Int32)), .val (.int tt), .val (.int s1), .val (.int (0 : Int32)), .val (.ref ob13), .val (.ref ob16), .val (.int (1 : Int32)), .unset, .unset] []) _ _ _
      refine own_to (fun t k => XS.aload X17.here hx rfl (hb hby at_167) rfl rfl k) ?_
      show own_Out p e below _ T17 (mkF m 169 #[.val (.int x0), .val (.int x1), .val (.int x2), .val (.int x3), .val (.int (1 : Int32)), .val (.int l1), .val (.int l2), .val (.int (0 : Int32)), .val (.int tt), .val (.int s1), .val (.int (0 : Int32)), .val (.ref ob13), .val (.ref ob16), .val (.int (1 : Int32)), .unset, .unset] [(.ref ob16)]) _ _ _
      refine own_callV X17 hx hZ hown (a := ob16) (argsL := []) (rest := []) (hw _ (List.mem_of_getElem? (i := 23) rfl)) (hw _ (List.mem_of_getElem? (i := 24) rfl)) (hw _ (List.mem_of_getElem? (i := 26) rfl)) (hw _ (List.mem_of_getElem? (i := 25) rfl)) (hw _ (List.mem_of_getElem? (i := 7) rfl)) (hw _ (List.mem_of_getElem? (i := 27) rfl)) (by decide) (rm5 l Z a0 hw ob16 (0 : Int32) nn hh17 n0 Z0 F_ob16_position F_ob16_end) (by decide) (by decide) e17 E_ob16 rfl (by rw [hml]; rfl) (lenOf pd_1 rfl) rfl (W := 0) (by show 2 * 0 + _ ≤ _; exact Nat.le_of_eq rfl) (hb hby at_169) (by decide) (by decide) fun v18 T18 hh18 L18 X18 e18 hQ18 => ?_
      obtain ⟨rfl, NL18, he18⟩ := hQ18
      replace e18 := e18.trans he18
      have N18 := Fr.app N17 NL18
      show own_Out p e below _ T18 (mkF m 172 #[.val (.int x0), .val (.int x1), .val (.int x2), .val (.int x3), .val (.int (1 : Int32)), .val (.int l1), .val (.int l2), .val (.int (0 : Int32)), .val (.int tt), .val (.int s1), .val (.int (0 : Int32)), .val (.ref ob13), .val (.ref ob16), .val (.int (1 : Int32)), .unset, .unset] [(.int (R5 ob16 (0 : Int32) nn))]) _ _ _
      refine own_to (fun t k => XS.iload X18.here hx rfl (hb hby at_172) rfl k) ?_
      show own_Out p e below _ T18 (mkF m 174 #[.val (.int x0), .val (.int x1), .val (.int x2), .val (.int x3), .val (.int (1 : Int32)), .val (.int l1), .val (.int l2), .val (.int (0 : Int32)), .val (.int tt), .val (.int s1), .val (.int (0 : Int32)), .val (.ref ob13), .val (.ref ob16), .val (.int (1 : Int32)), .unset, .unset] [(.int (1 : Int32)), (.int (R5 ob16 (0 : Int32) nn))]) _ _ _
      have hc174 : (R5 ob16 (0 : Int32) nn) = (1 : Int32) := own_hn1 _ _ _ (by rw [own_lt]; omega)
      refine own_to (fun t k => XS.icmpNo X18.here hx rfl (hb hby at_174) rfl (teq hc174).2 k) ?_
      show own_Out p e below _ T18 (mkF m 177 #[.val (.int x0), .val (.int x1), .val (.int x2), .val (.int x3), .val (.int (1 : Int32)), .val (.int l1), .val (.int l2), .val (.int (0 : Int32)), .val (.int tt), .val (.int s1), .val (.int (0 : Int32)), .val (.ref ob13), .val (.ref ob16), .val (.int (1 : Int32)), .unset, .unset] []) _ _ _
      refine own_to (fun t k => XS.iconst X18.here hx rfl (hb hby at_177) k) ?_
      show own_Out p e below _ T18 (mkF m 178 #[.val (.int x0), .val (.int x1), .val (.int x2), .val (.int x3), .val (.int (1 : Int32)), .val (.int l1), .val (.int l2), .val (.int (0 : Int32)), .val (.int tt), .val (.int s1), .val (.int (0 : Int32)), .val (.ref ob13), .val (.ref ob16), .val (.int (1 : Int32)), .unset, .unset] [(.int (1 : Int32))]) _ _ _
      refine own_to (fun t k => XS.goto X18.here hx rfl (pc0 := 178) (pc' := 182) rfl (hb hby at_178) (by decide) (by decide) k) ?_
      show own_Out p e below _ T18 (mkF m 182 #[.val (.int x0), .val (.int x1), .val (.int x2), .val (.int x3), .val (.int (1 : Int32)), .val (.int l1), .val (.int l2), .val (.int (0 : Int32)), .val (.int tt), .val (.int s1), .val (.int (0 : Int32)), .val (.ref ob13), .val (.ref ob16), .val (.int (1 : Int32)), .unset, .unset] [(.int (1 : Int32))]) _ _ _
      refine own_to (fun t k => XS.istore X18.here hx rfl (hb hby at_182) rfl (l' := #[.val (.int x0), .val (.int x1), .val (.int x2), .val (.int x3), .val (.int (1 : Int32)), .val (.int l1), .val (.int l2), .val (.int (0 : Int32)), .val (.int tt), .val (.int s1), .val (.int (0 : Int32)), .val (.ref ob13), .val (.ref ob16), .val (.int (1 : Int32)), .val (.int (1 : Int32)), .unset]) rfl k) ?_
      show own_Out p e below _ T18 (mkF m 184 #[.val (.int x0), .val (.int x1), .val (.int x2), .val (.int x3), .val (.int (1 : Int32)), .val (.int l1), .val (.int l2), .val (.int (0 : Int32)), .val (.int tt), .val (.int s1), .val (.int (0 : Int32)), .val (.ref ob13), .val (.ref ob16), .val (.int (1 : Int32)), .val (.int (1 : Int32)), .unset] []) _ _ _
      refine own_to (fun t k => XS.iload X18.here hx rfl (hb hby at_184) rfl k) ?_
      show own_Out p e below _ T18 (mkF m 186 #[.val (.int x0), .val (.int x1), .val (.int x2), .val (.int x3), .val (.int (1 : Int32)), .val (.int l1), .val (.int l2), .val (.int (0 : Int32)), .val (.int tt), .val (.int s1), .val (.int (0 : Int32)), .val (.ref ob13), .val (.ref ob16), .val (.int (1 : Int32)), .val (.int (1 : Int32)), .unset] [(.int (1 : Int32))]) _ _ _
      have hc186 : ¬ ((1 : Int32) = (0 : Int32)) := by decide
      refine own_to (fun t k => XS.ifNo X18.here hx rfl (hb hby at_186) rfl ((if0 _ _).trans (feq hc186).1) k) ?_
      show own_Out p e below _ T18 (mkF m 189 #[.val (.int x0), .val (.int x1), .val (.int x2), .val (.int x3), .val (.int (1 : Int32)), .val (.int l1), .val (.int l2), .val (.int (0 : Int32)), .val (.int tt), .val (.int s1), .val (.int (0 : Int32)), .val (.ref ob13), .val (.ref ob16), .val (.int (1 : Int32)), .val (.int (1 : Int32)), .unset] []) _ _ _
      refine own_to (fun t k => XS.aload X18.here hx rfl (hb hby at_189) rfl rfl k) ?_
      show own_Out p e below _ T18 (mkF m 191 #[.val (.int x0), .val (.int x1), .val (.int x2), .val (.int x3), .val (.int (1 : Int32)), .val (.int l1), .val (.int l2), .val (.int (0 : Int32)), .val (.int tt), .val (.int s1), .val (.int (0 : Int32)), .val (.ref ob13), .val (.ref ob16), .val (.int (1 : Int32)), .val (.int (1 : Int32)), .unset] [(.ref ob16)]) _ _ _
      refine own_callV X18 hx hZ hown (a := ob16) (argsL := []) (rest := []) (hw _ (List.mem_of_getElem? (i := 23) rfl)) (hw _ (List.mem_of_getElem? (i := 24) rfl)) (hw _ (List.mem_of_getElem? (i := 26) rfl)) (hw _ (List.mem_of_getElem? (i := 25) rfl)) (hw _ (List.mem_of_getElem? (i := 7) rfl)) (hw _ (List.mem_of_getElem? (i := 27) rfl)) (by decide) (rm5 l Z a0 hw ob16 (0 : Int32) nn hh17 n0 Z0 F_ob16_position F_ob16_end) (by decide) (by decide) e18 E_ob16 rfl (by rw [hml]; rfl) (lenOf pd_1 rfl) rfl (W := 0) (by show 2 * 0 + _ ≤ _; exact Nat.le_of_eq rfl) (hb hby at_191) (by decide) (by decide) fun v19 T19 hh19 L19 X19 e19 hQ19 => ?_
      obtain ⟨rfl, NL19, he19⟩ := hQ19
      replace e19 := e19.trans he19
      have N19 := Fr.app N18 NL19
      show own_Out p e below _ T19 (mkF m 194 #[.val (.int x0), .val (.int x1), .val (.int x2), .val (.int x3), .val (.int (1 : Int32)), .val (.int l1), .val (.int l2), .val (.int (0 : Int32)), .val (.int tt), .val (.int s1), .val (.int (0 : Int32)), .val (.ref ob13), .val (.ref ob16), .val (.int (1 : Int32)), .val (.int (1 : Int32)), .unset] [(.int (R5 ob16 (0 : Int32) nn))]) _ _ _
      refine own_to (fun t k => XS.iload X19.here hx rfl (hb hby at_194) rfl k) ?_
      show own_Out p e below _ T19 (mkF m 196 #[.val (.int x0), .val (.int x1), .val (.int x2), .val (.int x3), .val (.int (1 : Int32)), .val (.int l1), .val (.int l2), .val (.int (0 : Int32)), .val (.int tt), .val (.int s1), .val (.int (0 : Int32)), .val (.ref ob13), .val (.ref ob16), .val (.int (1 : Int32)), .val (.int (1 : Int32)), .unset] [(.int (1 : Int32)), (.int (R5 ob16 (0 : Int32) nn))]) _ _ _
      have hc196 : (R5 ob16 (0 : Int32) nn) = (1 : Int32) := own_hn1 _ _ _ (by rw [own_lt]; omega)
      refine own_to (fun t k => XS.icmpNo X19.here hx rfl (hb hby at_196) rfl (teq hc196).2 k) ?_
      show own_Out p e below _ T19 (mkF m 199 #[.val (.int x0), .val (.int x1), .val (.int x2), .val (.int x3), .val (.int (1 : Int32)), .val (.int l1), .val (.int l2), .val (.int (0 : Int32)), .val (.int tt), .val (.int s1), .val (.int (0 : Int32)), .val (.ref ob13), .val (.ref ob16), .val (.int (1 : Int32)), .val (.int (1 : Int32)), .unset] []) _ _ _
      refine own_to (fun t k => XS.iconst X19.here hx rfl (hb hby at_199) k) ?_
      show own_Out p e below _ T19 (mkF m 200 #[.val (.int x0), .val (.int x1), .val (.int x2), .val (.int x3), .val (.int (1 : Int32)), .val (.int l1), .val (.int l2), .val (.int (0 : Int32)), .val (.int tt), .val (.int s1), .val (.int (0 : Int32)), .val (.ref ob13), .val (.ref ob16), .val (.int (1 : Int32)), .val (.int (1 : Int32)), .unset] [(.int (1 : Int32))]) _ _ _
      refine own_to (fun t k => XS.goto X19.here hx rfl (pc0 := 200) (pc' := 204) rfl (hb hby at_200) (by decide) (by decide) k) ?_
      show own_Out p e below _ T19 (mkF m 204 #[.val (.int x0), .val (.int x1), .val (.int x2), .val (.int x3), .val (.int (1 : Int32)), .val (.int l1), .val (.int l2), .val (.int (0 : Int32)), .val (.int tt), .val (.int s1), .val (.int (0 : Int32)), .val (.ref ob13), .val (.ref ob16), .val (.int (1 : Int32)), .val (.int (1 : Int32)), .unset] [(.int (1 : Int32))]) _ _ _
      refine own_to (fun t k => XS.istore X19.here hx rfl (hb hby at_204) rfl (l' := #[.val (.int x0), .val (.int x1), .val (.int x2), .val (.int x3), .val (.int (1 : Int32)), .val (.int l1), .val (.int l2), .val (.int (0 : Int32)), .val (.int tt), .val (.int s1), .val (.int (0 : Int32)), .val (.ref ob13), .val (.ref ob16), .val (.int (1 : Int32)), .val (.int (1 : Int32)), .unset]) rfl k) ?_
      show own_Out p e below _ T19 (mkF m 206 #[.val (.int x0), .val (.int x1), .val (.int x2), .val (.int x3), .val (.int (1 : Int32)), .val (.int l1), .val (.int l2), .val (.int (0 : Int32)), .val (.int tt), .val (.int s1), .val (.int (0 : Int32)), .val (.ref ob13), .val (.ref ob16), .val (.int (1 : Int32)), .val (.int (1 : Int32)), .unset] []) _ _ _
      refine own_to (fun t k => XS.iload X19.here hx rfl (hb hby at_206) rfl k) ?_
      show own_Out p e below _ T19 (mkF m 208 #[.val (.int x0), .val (.int x1), .val (.int x2), .val (.int x3), .val (.int (1 : Int32)), .val (.int l1), .val (.int l2), .val (.int (0 : Int32)), .val (.int tt), .val (.int s1), .val (.int (0 : Int32)), .val (.ref ob13), .val (.ref ob16), .val (.int (1 : Int32)), .val (.int (1 : Int32)), .unset] [(.int (1 : Int32))]) _ _ _
      refine own_to (fun t k => XS.iconst X19.here hx rfl (hb hby at_208) k) ?_
      show own_Out p e below _ T19 (mkF m 209 #[.val (.int x0), .val (.int x1), .val (.int x2), .val (.int x3), .val (.int (1 : Int32)), .val (.int l1), .val (.int l2), .val (.int (0 : Int32)), .val (.int tt), .val (.int s1), .val (.int (0 : Int32)), .val (.ref ob13), .val (.ref ob16), .val (.int (1 : Int32)), .val (.int (1 : Int32)), .unset] [(.int (1 : Int32)), (.int (1 : Int32))]) _ _ _
      have hc209 : ¬ ((1 : Int32) < (1 : Int32)) := by decide
      refine own_to (fun t k => XS.icmpNo X19.here hx rfl (hb hby at_209) rfl (flt hc209).1 k) ?_
      show own_Out p e below _ T19 (mkF m 212 #[.val (.int x0), .val (.int x1), .val (.int x2), .val (.int x3), .val (.int (1 : Int32)), .val (.int l1), .val (.int l2), .val (.int (0 : Int32)), .val (.int tt), .val (.int s1), .val (.int (0 : Int32)), .val (.ref ob13), .val (.ref ob16), .val (.int (1 : Int32)), .val (.int (1 : Int32)), .unset] []) _ _ _
      refine own_to (fun t k => XS.aload X19.here hx rfl (hb hby at_212) rfl rfl k) ?_
      show own_Out p e below _ T19 (mkF m 214 #[.val (.int x0), .val (.int x1), .val (.int x2), .val (.int x3), .val (.int (1 : Int32)), .val (.int l1), .val (.int l2), .val (.int (0 : Int32)), .val (.int tt), .val (.int s1), .val (.int (0 : Int32)), .val (.ref ob13), .val (.ref ob16), .val (.int (1 : Int32)), .val (.int (1 : Int32)), .unset] [(.ref ob16)]) _ _ _
      refine own_callVW X19 hx hZ hown hS hk (a := ob16) (argsL := []) (rest := []) (hw _ (List.mem_of_getElem? (i := 28) rfl)) (hw _ (List.mem_of_getElem? (i := 29) rfl)) (hw _ (List.mem_of_getElem? (i := 31) rfl)) (hw _ (List.mem_of_getElem? (i := 30) rfl)) (hw _ (List.mem_of_getElem? (i := 7) rfl)) (hw _ (List.mem_of_getElem? (i := 32) rfl)) (by decide) (rm6 l Z a0 hw ob16 (0 : Int32) nn ob13 (nn.toNatClampNeg) (own_upd (own_upd (fun _ => 0) ((0 : Int32).toNatClampNeg) (nar .byte (tt.toInt8.toInt32))) ((1 : Int32).toNatClampNeg) (nar .byte (l1.toInt8.toInt32))) (tt &&& (255 : Int32)) l1 hh17 n0 Z0 E_ob16 F_ob16_bytes F_ob16_position F_ob16_end A_ob13 g_ob16 ne_ob13_ob16 (by rw [own_lt]; omega) (⟨own_ge (by omega), (by simp only [own_nn] <;> omega)⟩) ((congrArg (fun z => z &&& (255 : Int32)) ((own_miss (by simp only [own_nn] <;> omega)).trans (own_hit (by simp only [own_nn] <;> omega)))).trans (own_by tt)).symm (by rw [own_lt]; omega) (⟨own_ge (by omega), (by simp only [own_nn] <;> omega)⟩) (((congrArg (fun z => z &&& (255 : Int32)) (own_hit (by simp only [own_nn] <;> omega))).trans (own_by l1)).trans (own_l255 l1 b_l1)).symm htt (own_l128 l1 b_l1) (own_wide _ _ (by have q := own_sb nn (((0 : Int32) + (1 : Int32)) + (1 : Int32)) (by omega) (by omega); omega))) (by decide) (by decide) e19 E_ob16 rfl (by rw [hml]; rfl) (lenOf pd_6 rfl) rfl (W := 0) (by show 2 * 0 + _ ≤ _; exact Nat.le_of_eq rfl) (hb hby at_214) (by decide) (by decide) fun v20 T20 hh20 L20 X20 e20 hQ20 hZ hown hS => ?_
      obtain ⟨NL20, KK20, ob20el, rfl, szc_ob20el, P20_0, P20_1, P20_2, P20_3, P20_4, P20_5, P20_6, P20_7, P20_8⟩ := hQ20
      have ne_ob13_ob20el : ob13 ≠ ob20el := Nat.ne_of_lt (Nat.lt_of_lt_of_le A_ob13.lt szc_ob20el)
      have ne_ob20el_ob13 := Ne.symm ne_ob13_ob20el
      have ne_ob16_ob20el : ob16 ≠ ob20el := Nat.ne_of_lt (Nat.lt_of_lt_of_le E_ob16.lt szc_ob20el)
      have ne_ob20el_ob16 := Ne.symm ne_ob16_ob20el
      have g_ob20el : n0 ≤ ob20el := Nat.le_trans Z0 szc_ob20el
      have A_ob13 := A_ob13.keep KK20 (by simp [ne_ob13_ob16])
      have E_ob16 := E_ob16.keep KK20
      have F_ob16_bytes := P20_0
      have F_ob16_position := P20_1
      have F_ob16_end := P20_2
      have E_ob20el := P20_3
      have F_ob20el_bytes := P20_4
      have F_ob20el_tag := P20_5
      have F_ob20el_start := P20_6
      have F_ob20el_contents := P20_7
      have F_ob20el_end := P20_8
      have Z0 := Nat.le_trans Z0 KK20.1
      have hk := Nat.le_refl hh20.size
      have N20 := Fr.app N19 NL20
      show own_Out p e below _ T20 (mkF m 217 #[.val (.int x0), .val (.int x1), .val (.int x2), .val (.int x3), .val (.int (1 : Int32)), .val (.int l1), .val (.int l2), .val (.int (0 : Int32)), .val (.int tt), .val (.int s1), .val (.int (0 : Int32)), .val (.ref ob13), .val (.ref ob16), .val (.int (1 : Int32)), .val (.int (1 : Int32)), .unset] [(.ref ob20el)]) _ _ _
      have h_p1 : ((((0 : Int32) + (1 : Int32)) + (1 : Int32)) + ((l1.toInt64).toInt32)) = s1 := by rw [own_bk]; apply Int32.toInt_inj.mp; rw [own_ad _ _ (by omega) (by omega)]; omega
      rw [h_p1] at F_ob16_position
      rw [h_p1] at F_ob20el_end
      refine own_to (fun t k => XS.astore X20.here hx rfl (hb hby at_217) rfl rfl (l' := #[.val (.int x0), .val (.int x1), .val (.int x2), .val (.int x3), .val (.int (1 : Int32)), .val (.int l1), .val (.int l2), .val (.int (0 : Int32)), .val (.int tt), .val (.int s1), .val (.int (0 : Int32)), .val (.ref ob13), .val (.ref ob16), .val (.int (1 : Int32)), .val (.int (1 : Int32)), .val (.ref ob20el)]) rfl k) ?_
      show own_Out p e below _ T20 (mkF m 219 #[.val (.int x0), .val (.int x1), .val (.int x2), .val (.int x3), .val (.int (1 : Int32)), .val (.int l1), .val (.int l2), .val (.int (0 : Int32)), .val (.int tt), .val (.int s1), .val (.int (0 : Int32)), .val (.ref ob13), .val (.ref ob16), .val (.int (1 : Int32)), .val (.int (1 : Int32)), .val (.ref ob20el)] []) _ _ _
      refine own_to (fun t k => XS.iload X20.here hx rfl (hb hby at_219) rfl k) ?_
      show own_Out p e below _ T20 (mkF m 221 #[.val (.int x0), .val (.int x1), .val (.int x2), .val (.int x3), .val (.int (1 : Int32)), .val (.int l1), .val (.int l2), .val (.int (0 : Int32)), .val (.int tt), .val (.int s1), .val (.int (0 : Int32)), .val (.ref ob13), .val (.ref ob16), .val (.int (1 : Int32)), .val (.int (1 : Int32)), .val (.ref ob20el)] [(.int (1 : Int32))]) _ _ _
      have hc221 : ¬ ((1 : Int32) = (0 : Int32)) := by decide
      refine own_to (fun t k => XS.ifNo X20.here hx rfl (hb hby at_221) rfl ((if0 _ _).trans (feq hc221).1) k) ?_
      show own_Out p e below _ T20 (mkF m 224 #[.val (.int x0), .val (.int x1), .val (.int x2), .val (.int x3), .val (.int (1 : Int32)), .val (.int l1), .val (.int l2), .val (.int (0 : Int32)), .val (.int tt), .val (.int s1), .val (.int (0 : Int32)), .val (.ref ob13), .val (.ref ob16), .val (.int (1 : Int32)), .val (.int (1 : Int32)), .val (.ref ob20el)] []) _ _ _
      refine own_to (fun t k => XS.aload X20.here hx rfl (hb hby at_224) rfl rfl k) ?_
      show own_Out p e below _ T20 (mkF m 226 #[.val (.int x0), .val (.int x1), .val (.int x2), .val (.int x3), .val (.int (1 : Int32)), .val (.int l1), .val (.int l2), .val (.int (0 : Int32)), .val (.int tt), .val (.int s1), .val (.int (0 : Int32)), .val (.ref ob13), .val (.ref ob16), .val (.int (1 : Int32)), .val (.int (1 : Int32)), .val (.ref ob20el)] [(.ref ob16)]) _ _ _
      refine own_callV X20 hx hZ hown (a := ob16) (argsL := []) (rest := []) (hw _ (List.mem_of_getElem? (i := 23) rfl)) (hw _ (List.mem_of_getElem? (i := 24) rfl)) (hw _ (List.mem_of_getElem? (i := 26) rfl)) (hw _ (List.mem_of_getElem? (i := 25) rfl)) (hw _ (List.mem_of_getElem? (i := 7) rfl)) (hw _ (List.mem_of_getElem? (i := 27) rfl)) (by decide) (rm5 l Z a0 hw ob16 s1 nn hh20 n0 Z0 F_ob16_position F_ob16_end) (by decide) (by decide) e20 E_ob16 rfl (by rw [hml]; rfl) (lenOf pd_1 rfl) rfl (W := 0) (by show 2 * 0 + _ ≤ _; exact Nat.le_of_eq rfl) (hb hby at_226) (by decide) (by decide) fun v21 T21 hh21 L21 X21 e21 hQ21 => ?_
      obtain ⟨rfl, NL21, he21⟩ := hQ21
      replace e21 := e21.trans he21
      have N21 := Fr.app N20 NL21
      show own_Out p e below _ T21 (mkF m 229 #[.val (.int x0), .val (.int x1), .val (.int x2), .val (.int x3), .val (.int (1 : Int32)), .val (.int l1), .val (.int l2), .val (.int (0 : Int32)), .val (.int tt), .val (.int s1), .val (.int (0 : Int32)), .val (.ref ob13), .val (.ref ob16), .val (.int (1 : Int32)), .val (.int (1 : Int32)), .val (.ref ob20el)] [(.int (R5 ob16 s1 nn))]) _ _ _
      refine own_to (fun t k => XS.iload X21.here hx rfl (hb hby at_229) rfl k) ?_
      show own_Out p e below _ T21 (mkF m 231 #[.val (.int x0), .val (.int x1), .val (.int x2), .val (.int x3), .val (.int (1 : Int32)), .val (.int l1), .val (.int l2), .val (.int (0 : Int32)), .val (.int tt), .val (.int s1), .val (.int (0 : Int32)), .val (.ref ob13), .val (.ref ob16), .val (.int (1 : Int32)), .val (.int (1 : Int32)), .val (.ref ob20el)] [(.int (1 : Int32)), (.int (R5 ob16 s1 nn))]) _ _ _
      refine own_to (fun t k => XS.iconst X21.here hx rfl (hb hby at_231) k) ?_
      show own_Out p e below _ T21 (mkF m 232 #[.val (.int x0), .val (.int x1), .val (.int x2), .val (.int x3), .val (.int (1 : Int32)), .val (.int l1), .val (.int l2), .val (.int (0 : Int32)), .val (.int tt), .val (.int s1), .val (.int (0 : Int32)), .val (.ref ob13), .val (.ref ob16), .val (.int (1 : Int32)), .val (.int (1 : Int32)), .val (.ref ob20el)] [(.int (2 : Int32)), (.int (1 : Int32)), (.int (R5 ob16 s1 nn))]) _ _ _
      have hc232 : (1 : Int32) < (2 : Int32) := by decide
      refine own_to (fun t k => XS.icmpNo X21.here hx rfl (hb hby at_232) rfl (tlt hc232).2.1 k) ?_
      show own_Out p e below _ T21 (mkF m 235 #[.val (.int x0), .val (.int x1), .val (.int x2), .val (.int x3), .val (.int (1 : Int32)), .val (.int l1), .val (.int l2), .val (.int (0 : Int32)), .val (.int tt), .val (.int s1), .val (.int (0 : Int32)), .val (.ref ob13), .val (.ref ob16), .val (.int (1 : Int32)), .val (.int (1 : Int32)), .val (.ref ob20el)] [(.int (R5 ob16 s1 nn))]) _ _ _
      refine own_to (fun t k => XS.iload X21.here hx rfl (hb hby at_235) rfl k) ?_
      show own_Out p e below _ T21 (mkF m 237 #[.val (.int x0), .val (.int x1), .val (.int x2), .val (.int x3), .val (.int (1 : Int32)), .val (.int l1), .val (.int l2), .val (.int (0 : Int32)), .val (.int tt), .val (.int s1), .val (.int (0 : Int32)), .val (.ref ob13), .val (.ref ob16), .val (.int (1 : Int32)), .val (.int (1 : Int32)), .val (.ref ob20el)] [(.int (0 : Int32)), (.int (R5 ob16 s1 nn))]) _ _ _
      refine own_to (fun t k => XS.iconst X21.here hx rfl (hb hby at_237) k) ?_
      show own_Out p e below _ T21 (mkF m 238 #[.val (.int x0), .val (.int x1), .val (.int x2), .val (.int x3), .val (.int (1 : Int32)), .val (.int l1), .val (.int l2), .val (.int (0 : Int32)), .val (.int tt), .val (.int s1), .val (.int (0 : Int32)), .val (.ref ob13), .val (.ref ob16), .val (.int (1 : Int32)), .val (.int (1 : Int32)), .val (.ref ob20el)] [(.int (1 : Int32)), (.int (0 : Int32)), (.int (R5 ob16 s1 nn))]) _ _ _
      have hc238 : ¬ ((0 : Int32) = (1 : Int32)) := by decide
      refine own_to (fun t k => XS.icmpYes X21.here hx rfl (pc0 := 238) (pc' := 245) rfl (hb hby at_238) rfl (feq hc238).2 (by decide) (by decide) k) ?_
      show own_Out p e below _ T21 (mkF m 245 #[.val (.int x0), .val (.int x1), .val (.int x2), .val (.int x3), .val (.int (1 : Int32)), .val (.int l1), .val (.int l2), .val (.int (0 : Int32)), .val (.int tt), .val (.int s1), .val (.int (0 : Int32)), .val (.ref ob13), .val (.ref ob16), .val (.int (1 : Int32)), .val (.int (1 : Int32)), .val (.ref ob20el)] [(.int (R5 ob16 s1 nn))]) _ _ _
      refine own_to (fun t k => XS.iconst X21.here hx rfl (hb hby at_245) k) ?_
      show own_Out p e below _ T21 (mkF m 246 #[.val (.int x0), .val (.int x1), .val (.int x2), .val (.int x3), .val (.int (1 : Int32)), .val (.int l1), .val (.int l2), .val (.int (0 : Int32)), .val (.int tt), .val (.int s1), .val (.int (0 : Int32)), .val (.ref ob13), .val (.ref ob16), .val (.int (1 : Int32)), .val (.int (1 : Int32)), .val (.ref ob20el)] [(.int (0 : Int32)), (.int (R5 ob16 s1 nn))]) _ _ _
      have hc246 : (R5 ob16 s1 nn) = (0 : Int32) := own_hn0 _ _ _ (by rw [own_lt]; omega)
      refine own_to (fun t k => XS.icmpNo X21.here hx rfl (hb hby at_246) rfl (teq hc246).2 k) ?_
      show own_Out p e below _ T21 (mkF m 249 #[.val (.int x0), .val (.int x1), .val (.int x2), .val (.int x3), .val (.int (1 : Int32)), .val (.int l1), .val (.int l2), .val (.int (0 : Int32)), .val (.int tt), .val (.int s1), .val (.int (0 : Int32)), .val (.ref ob13), .val (.ref ob16), .val (.int (1 : Int32)), .val (.int (1 : Int32)), .val (.ref ob20el)] []) _ _ _
      refine own_to (fun t k => XS.iconst X21.here hx rfl (hb hby at_249) k) ?_
      show own_Out p e below _ T21 (mkF m 250 #[.val (.int x0), .val (.int x1), .val (.int x2), .val (.int x3), .val (.int (1 : Int32)), .val (.int l1), .val (.int l2), .val (.int (0 : Int32)), .val (.int tt), .val (.int s1), .val (.int (0 : Int32)), .val (.ref ob13), .val (.ref ob16), .val (.int (1 : Int32)), .val (.int (1 : Int32)), .val (.ref ob20el)] [(.int (1 : Int32))]) _ _ _
      refine own_to (fun t k => XS.goto X21.here hx rfl (pc0 := 250) (pc' := 254) rfl (hb hby at_250) (by decide) (by decide) k) ?_
      show own_Out p e below _ T21 (mkF m 254 #[.val (.int x0), .val (.int x1), .val (.int x2), .val (.int x3), .val (.int (1 : Int32)), .val (.int l1), .val (.int l2), .val (.int (0 : Int32)), .val (.int tt), .val (.int s1), .val (.int (0 : Int32)), .val (.ref ob13), .val (.ref ob16), .val (.int (1 : Int32)), .val (.int (1 : Int32)), .val (.ref ob20el)] [(.int (1 : Int32))]) _ _ _
      refine own_to (fun t k => XS.istore X21.here hx rfl (hb hby at_254) rfl (l' := #[.val (.int x0), .val (.int x1), .val (.int x2), .val (.int x3), .val (.int (1 : Int32)), .val (.int l1), .val (.int l2), .val (.int (0 : Int32)), .val (.int tt), .val (.int s1), .val (.int (0 : Int32)), .val (.ref ob13), .val (.ref ob16), .val (.int (1 : Int32)), .val (.int (1 : Int32)), .val (.ref ob20el)]) rfl k) ?_
      show own_Out p e below _ T21 (mkF m 256 #[.val (.int x0), .val (.int x1), .val (.int x2), .val (.int x3), .val (.int (1 : Int32)), .val (.int l1), .val (.int l2), .val (.int (0 : Int32)), .val (.int tt), .val (.int s1), .val (.int (0 : Int32)), .val (.ref ob13), .val (.ref ob16), .val (.int (1 : Int32)), .val (.int (1 : Int32)), .val (.ref ob20el)] []) _ _ _
      refine own_to (fun t k => XS.iload X21.here hx rfl (hb hby at_256) rfl k) ?_
      show own_Out p e below _ T21 (mkF m 258 #[.val (.int x0), .val (.int x1), .val (.int x2), .val (.int x3), .val (.int (1 : Int32)), .val (.int l1), .val (.int l2), .val (.int (0 : Int32)), .val (.int tt), .val (.int s1), .val (.int (0 : Int32)), .val (.ref ob13), .val (.ref ob16), .val (.int (1 : Int32)), .val (.int (1 : Int32)), .val (.ref ob20el)] [(.int (1 : Int32))]) _ _ _
      have hc258 : ¬ ((1 : Int32) = (0 : Int32)) := by decide
      refine own_to (fun t k => XS.ifNo X21.here hx rfl (hb hby at_258) rfl ((if0 _ _).trans (feq hc258).1) k) ?_
      show own_Out p e below _ T21 (mkF m 261 #[.val (.int x0), .val (.int x1), .val (.int x2), .val (.int x3), .val (.int (1 : Int32)), .val (.int l1), .val (.int l2), .val (.int (0 : Int32)), .val (.int tt), .val (.int s1), .val (.int (0 : Int32)), .val (.ref ob13), .val (.ref ob16), .val (.int (1 : Int32)), .val (.int (1 : Int32)), .val (.ref ob20el)] []) _ _ _
      refine own_to (fun t k => XS.aload X21.here hx rfl (hb hby at_261) rfl rfl k) ?_
      show own_Out p e below _ T21 (mkF m 263 #[.val (.int x0), .val (.int x1), .val (.int x2), .val (.int x3), .val (.int (1 : Int32)), .val (.int l1), .val (.int l2), .val (.int (0 : Int32)), .val (.int tt), .val (.int s1), .val (.int (0 : Int32)), .val (.ref ob13), .val (.ref ob16), .val (.int (1 : Int32)), .val (.int (1 : Int32)), .val (.ref ob20el)] [(.ref ob20el)]) _ _ _
      refine own_callV X21 hx hZ hown (a := ob20el) (argsL := []) (rest := []) (hw _ (List.mem_of_getElem? (i := 64) rfl)) (hw _ (List.mem_of_getElem? (i := 65) rfl)) (hw _ (List.mem_of_getElem? (i := 67) rfl)) (hw _ (List.mem_of_getElem? (i := 66) rfl)) (hw _ (List.mem_of_getElem? (i := 49) rfl)) (hw _ (List.mem_of_getElem? (i := 68) rfl)) (by decide) (rm9 l Z a0 hw ob20el ob13 (((0 : Int32) + (1 : Int32)) + (1 : Int32)) s1 hh20 n0 Z0 F_ob20el_bytes F_ob20el_contents F_ob20el_end) (by decide) (by decide) e21 E_ob20el rfl (by rw [hml]; rfl) (lenOf pd_7 rfl) rfl (W := 0) (by show 2 * 0 + _ ≤ _; exact Nat.le_of_eq rfl) (hb hby at_263) (by decide) (by decide) fun v22 T22 hh22 L22 X22 e22 hQ22 => ?_
      obtain ⟨NL22, KK22, ob22rd, rfl, szc_ob22rd, P22_0, P22_1, P22_2, P22_3⟩ := hQ22
      have ne_ob13_ob22rd : ob13 ≠ ob22rd := Nat.ne_of_lt (Nat.lt_of_lt_of_le A_ob13.lt szc_ob22rd)
      have ne_ob22rd_ob13 := Ne.symm ne_ob13_ob22rd
      have ne_ob16_ob22rd : ob16 ≠ ob22rd := Nat.ne_of_lt (Nat.lt_of_lt_of_le E_ob16.lt szc_ob22rd)
      have ne_ob22rd_ob16 := Ne.symm ne_ob16_ob22rd
      have ne_ob20el_ob22rd : ob20el ≠ ob22rd := Nat.ne_of_lt (Nat.lt_of_lt_of_le E_ob20el.lt szc_ob22rd)
      have ne_ob22rd_ob20el := Ne.symm ne_ob20el_ob22rd
      have g_ob22rd : n0 ≤ ob22rd := Nat.le_trans Z0 szc_ob22rd
      have A_ob13 := A_ob13.keep KK22 (by simp [])
      have E_ob16 := E_ob16.keep KK22
      have F_ob16_bytes := F_ob16_bytes.keep KK22 (by simp [])
      have F_ob16_position := F_ob16_position.keep KK22 (by simp [])
      have F_ob16_end := F_ob16_end.keep KK22 (by simp [])
      have E_ob20el := E_ob20el.keep KK22
      have F_ob20el_bytes := F_ob20el_bytes.keep KK22 (by simp [])
      have F_ob20el_tag := F_ob20el_tag.keep KK22 (by simp [])
      have F_ob20el_start := F_ob20el_start.keep KK22 (by simp [])
      have F_ob20el_contents := F_ob20el_contents.keep KK22 (by simp [])
      have F_ob20el_end := F_ob20el_end.keep KK22 (by simp [])
      have E_ob22rd := P22_0
      have F_ob22rd_bytes := P22_1
      have F_ob22rd_position := P22_2
      have F_ob22rd_end := P22_3
      have Z0 := Nat.le_trans Z0 KK22.1
      have hk := Nat.le_trans hk KK22.1
      have N22 := Fr.app N21 NL22
      show own_Out p e below _ T22 (mkF m 266 #[.val (.int x0), .val (.int x1), .val (.int x2), .val (.int x3), .val (.int (1 : Int32)), .val (.int l1), .val (.int l2), .val (.int (0 : Int32)), .val (.int tt), .val (.int s1), .val (.int (0 : Int32)), .val (.ref ob13), .val (.ref ob16), .val (.int (1 : Int32)), .val (.int (1 : Int32)), .val (.ref ob20el)] [(.ref ob22rd)]) _ _ _
      refine own_callV X22 hx hZ hown (a := ob22rd) (argsL := []) (rest := []) (hw _ (List.mem_of_getElem? (i := 23) rfl)) (hw _ (List.mem_of_getElem? (i := 24) rfl)) (hw _ (List.mem_of_getElem? (i := 26) rfl)) (hw _ (List.mem_of_getElem? (i := 25) rfl)) (hw _ (List.mem_of_getElem? (i := 7) rfl)) (hw _ (List.mem_of_getElem? (i := 27) rfl)) (by decide) (rm5 l Z a0 hw ob22rd (((0 : Int32) + (1 : Int32)) + (1 : Int32)) s1 hh22 n0 Z0 F_ob22rd_position F_ob22rd_end) (by decide) (by decide) e22 E_ob22rd rfl (by rw [hml]; rfl) (lenOf pd_1 rfl) rfl (W := 0) (by show 2 * 0 + _ ≤ _; exact Nat.le_of_eq rfl) (hb hby at_266) (by decide) (by decide) fun v23 T23 hh23 L23 X23 e23 hQ23 => ?_
      obtain ⟨rfl, NL23, he23⟩ := hQ23
      replace e23 := e23.trans he23
      have N23 := Fr.app N22 NL23
      show own_Out p e below _ T23 (mkF m 269 #[.val (.int x0), .val (.int x1), .val (.int x2), .val (.int x3), .val (.int (1 : Int32)), .val (.int l1), .val (.int l2), .val (.int (0 : Int32)), .val (.int tt), .val (.int s1), .val (.int (0 : Int32)), .val (.ref ob13), .val (.ref ob16), .val (.int (1 : Int32)), .val (.int (1 : Int32)), .val (.ref ob20el)] [(.int (R5 ob22rd (((0 : Int32) + (1 : Int32)) + (1 : Int32)) s1))]) _ _ _
      refine own_to (fun t k => XS.iload X23.here hx rfl (hb hby at_269) rfl k) ?_
      show own_Out p e below _ T23 (mkF m 271 #[.val (.int x0), .val (.int x1), .val (.int x2), .val (.int x3), .val (.int (1 : Int32)), .val (.int l1), .val (.int l2), .val (.int (0 : Int32)), .val (.int tt), .val (.int s1), .val (.int (0 : Int32)), .val (.ref ob13), .val (.ref ob16), .val (.int (1 : Int32)), .val (.int (1 : Int32)), .val (.ref ob20el)] [(.int l1), (.int (R5 ob22rd (((0 : Int32) + (1 : Int32)) + (1 : Int32)) s1))]) _ _ _
      by_cases hc271 : (0 : Int32) < l1
      · refine own_to (fun t k => XS.ifNo X23.here hx rfl (hb hby at_271) rfl ((if0 _ _).trans (tlt hc271).2.2.2) k) ?_
        show own_Out p e below _ T23 (mkF m 274 #[.val (.int x0), .val (.int x1), .val (.int x2), .val (.int x3), .val (.int (1 : Int32)), .val (.int l1), .val (.int l2), .val (.int (0 : Int32)), .val (.int tt), .val (.int s1), .val (.int (0 : Int32)), .val (.ref ob13), .val (.ref ob16), .val (.int (1 : Int32)), .val (.int (1 : Int32)), .val (.ref ob20el)] [(.int (R5 ob22rd (((0 : Int32) + (1 : Int32)) + (1 : Int32)) s1))]) _ _ _
        refine own_to (fun t k => XS.iconst X23.here hx rfl (hb hby at_274) k) ?_
        show own_Out p e below _ T23 (mkF m 275 #[.val (.int x0), .val (.int x1), .val (.int x2), .val (.int x3), .val (.int (1 : Int32)), .val (.int l1), .val (.int l2), .val (.int (0 : Int32)), .val (.int tt), .val (.int s1), .val (.int (0 : Int32)), .val (.ref ob13), .val (.ref ob16), .val (.int (1 : Int32)), .val (.int (1 : Int32)), .val (.ref ob20el)] [(.int (1 : Int32)), (.int (R5 ob22rd (((0 : Int32) + (1 : Int32)) + (1 : Int32)) s1))]) _ _ _
        refine own_to (fun t k => XS.goto X23.here hx rfl (pc0 := 275) (pc' := 279) rfl (hb hby at_275) (by decide) (by decide) k) ?_
        show own_Out p e below _ T23 (mkF m 279 #[.val (.int x0), .val (.int x1), .val (.int x2), .val (.int x3), .val (.int (1 : Int32)), .val (.int l1), .val (.int l2), .val (.int (0 : Int32)), .val (.int tt), .val (.int s1), .val (.int (0 : Int32)), .val (.ref ob13), .val (.ref ob16), .val (.int (1 : Int32)), .val (.int (1 : Int32)), .val (.ref ob20el)] [(.int (1 : Int32)), (.int (R5 ob22rd (((0 : Int32) + (1 : Int32)) + (1 : Int32)) s1))]) _ _ _
        have hc279 : (R5 ob22rd (((0 : Int32) + (1 : Int32)) + (1 : Int32)) s1) = (1 : Int32) := own_hn1 _ _ _ (by rw [own_lt] at hc271 ⊢; omega)
        refine own_to (fun t k => XS.icmpNo X23.here hx rfl (hb hby at_279) rfl (teq hc279).2 k) ?_
        show own_Out p e below _ T23 (mkF m 282 #[.val (.int x0), .val (.int x1), .val (.int x2), .val (.int x3), .val (.int (1 : Int32)), .val (.int l1), .val (.int l2), .val (.int (0 : Int32)), .val (.int tt), .val (.int s1), .val (.int (0 : Int32)), .val (.ref ob13), .val (.ref ob16), .val (.int (1 : Int32)), .val (.int (1 : Int32)), .val (.ref ob20el)] []) _ _ _
        refine own_to (fun t k => XS.iconst X23.here hx rfl (hb hby at_282) k) ?_
        show own_Out p e below _ T23 (mkF m 283 #[.val (.int x0), .val (.int x1), .val (.int x2), .val (.int x3), .val (.int (1 : Int32)), .val (.int l1), .val (.int l2), .val (.int (0 : Int32)), .val (.int tt), .val (.int s1), .val (.int (0 : Int32)), .val (.ref ob13), .val (.ref ob16), .val (.int (1 : Int32)), .val (.int (1 : Int32)), .val (.ref ob20el)] [(.int (1 : Int32))]) _ _ _
        refine own_to (fun t k => XS.goto X23.here hx rfl (pc0 := 283) (pc' := 287) rfl (hb hby at_283) (by decide) (by decide) k) ?_
        show own_Out p e below _ T23 (mkF m 287 #[.val (.int x0), .val (.int x1), .val (.int x2), .val (.int x3), .val (.int (1 : Int32)), .val (.int l1), .val (.int l2), .val (.int (0 : Int32)), .val (.int tt), .val (.int s1), .val (.int (0 : Int32)), .val (.ref ob13), .val (.ref ob16), .val (.int (1 : Int32)), .val (.int (1 : Int32)), .val (.ref ob20el)] [(.int (1 : Int32))]) _ _ _
        refine own_to (fun t k => XS.istore X23.here hx rfl (hb hby at_287) rfl (l' := #[.val (.int x0), .val (.int x1), .val (.int x2), .val (.int x3), .val (.int (1 : Int32)), .val (.int l1), .val (.int l2), .val (.int (0 : Int32)), .val (.int tt), .val (.int s1), .val (.int (0 : Int32)), .val (.ref ob13), .val (.ref ob16), .val (.int (1 : Int32)), .val (.int (1 : Int32)), .val (.ref ob20el)]) rfl k) ?_
        show own_Out p e below _ T23 (mkF m 289 #[.val (.int x0), .val (.int x1), .val (.int x2), .val (.int x3), .val (.int (1 : Int32)), .val (.int l1), .val (.int l2), .val (.int (0 : Int32)), .val (.int tt), .val (.int s1), .val (.int (0 : Int32)), .val (.ref ob13), .val (.ref ob16), .val (.int (1 : Int32)), .val (.int (1 : Int32)), .val (.ref ob20el)] []) _ _ _
        refine own_to (fun t k => XS.iload X23.here hx rfl (hb hby at_289) rfl k) ?_
        show own_Out p e below _ T23 (mkF m 291 #[.val (.int x0), .val (.int x1), .val (.int x2), .val (.int x3), .val (.int (1 : Int32)), .val (.int l1), .val (.int l2), .val (.int (0 : Int32)), .val (.int tt), .val (.int s1), .val (.int (0 : Int32)), .val (.ref ob13), .val (.ref ob16), .val (.int (1 : Int32)), .val (.int (1 : Int32)), .val (.ref ob20el)] [(.int (1 : Int32))]) _ _ _
        refine own_to (fun t k => XS.iconst X23.here hx rfl (hb hby at_291) k) ?_
        show own_Out p e below _ T23 (mkF m 292 #[.val (.int x0), .val (.int x1), .val (.int x2), .val (.int x3), .val (.int (1 : Int32)), .val (.int l1), .val (.int l2), .val (.int (0 : Int32)), .val (.int tt), .val (.int s1), .val (.int (0 : Int32)), .val (.ref ob13), .val (.ref ob16), .val (.int (1 : Int32)), .val (.int (1 : Int32)), .val (.ref ob20el)] [(.int (2 : Int32)), (.int (1 : Int32))]) _ _ _
        have hc292 : (1 : Int32) < (2 : Int32) := by decide
        refine own_to (fun t k => XS.icmpYes X23.here hx rfl (pc0 := 292) (pc' := 366) rfl (hb hby at_292) rfl (tlt hc292).1 (by decide) (by decide) k) ?_
        show own_Out p e below _ T23 (mkF m 366 #[.val (.int x0), .val (.int x1), .val (.int x2), .val (.int x3), .val (.int (1 : Int32)), .val (.int l1), .val (.int l2), .val (.int (0 : Int32)), .val (.int tt), .val (.int s1), .val (.int (0 : Int32)), .val (.ref ob13), .val (.ref ob16), .val (.int (1 : Int32)), .val (.int (1 : Int32)), .val (.ref ob20el)] []) _ _ _
        refine own_to (fun t k => XS.iload X23.here hx rfl (hb hby at_366) rfl k) ?_
        show own_Out p e below _ T23 (mkF m 368 #[.val (.int x0), .val (.int x1), .val (.int x2), .val (.int x3), .val (.int (1 : Int32)), .val (.int l1), .val (.int l2), .val (.int (0 : Int32)), .val (.int tt), .val (.int s1), .val (.int (0 : Int32)), .val (.ref ob13), .val (.ref ob16), .val (.int (1 : Int32)), .val (.int (1 : Int32)), .val (.ref ob20el)] [(.int (1 : Int32))]) _ _ _
        refine own_retVW X23 hS hk e23 hx hlk (w := .int (1 : Int32)) hret rfl (Or.inl ⟨rfl, by simp, _, rfl⟩) (hb hby at_368) (by decide) (by decide) ?_
        rw [e23]
        exact ⟨rfl, N23⟩
      · refine own_to (fun t k => XS.ifYes X23.here hx rfl (pc0 := 271) (pc' := 278) rfl (hb hby at_271) rfl ((if0 _ _).trans (flt hc271).2.2.2) (by decide) (by decide) k) ?_
        show own_Out p e below _ T23 (mkF m 278 #[.val (.int x0), .val (.int x1), .val (.int x2), .val (.int x3), .val (.int (1 : Int32)), .val (.int l1), .val (.int l2), .val (.int (0 : Int32)), .val (.int tt), .val (.int s1), .val (.int (0 : Int32)), .val (.ref ob13), .val (.ref ob16), .val (.int (1 : Int32)), .val (.int (1 : Int32)), .val (.ref ob20el)] [(.int (R5 ob22rd (((0 : Int32) + (1 : Int32)) + (1 : Int32)) s1))]) _ _ _
        refine own_to (fun t k => XS.iconst X23.here hx rfl (hb hby at_278) k) ?_
        show own_Out p e below _ T23 (mkF m 279 #[.val (.int x0), .val (.int x1), .val (.int x2), .val (.int x3), .val (.int (1 : Int32)), .val (.int l1), .val (.int l2), .val (.int (0 : Int32)), .val (.int tt), .val (.int s1), .val (.int (0 : Int32)), .val (.ref ob13), .val (.ref ob16), .val (.int (1 : Int32)), .val (.int (1 : Int32)), .val (.ref ob20el)] [(.int (0 : Int32)), (.int (R5 ob22rd (((0 : Int32) + (1 : Int32)) + (1 : Int32)) s1))]) _ _ _
        have hc279 : (R5 ob22rd (((0 : Int32) + (1 : Int32)) + (1 : Int32)) s1) = (0 : Int32) := own_hn0 _ _ _ (by rw [own_lt] at hc271 ⊢; omega)
        refine own_to (fun t k => XS.icmpNo X23.here hx rfl (hb hby at_279) rfl (teq hc279).2 k) ?_
        show own_Out p e below _ T23 (mkF m 282 #[.val (.int x0), .val (.int x1), .val (.int x2), .val (.int x3), .val (.int (1 : Int32)), .val (.int l1), .val (.int l2), .val (.int (0 : Int32)), .val (.int tt), .val (.int s1), .val (.int (0 : Int32)), .val (.ref ob13), .val (.ref ob16), .val (.int (1 : Int32)), .val (.int (1 : Int32)), .val (.ref ob20el)] []) _ _ _
        refine own_to (fun t k => XS.iconst X23.here hx rfl (hb hby at_282) k) ?_
        show own_Out p e below _ T23 (mkF m 283 #[.val (.int x0), .val (.int x1), .val (.int x2), .val (.int x3), .val (.int (1 : Int32)), .val (.int l1), .val (.int l2), .val (.int (0 : Int32)), .val (.int tt), .val (.int s1), .val (.int (0 : Int32)), .val (.ref ob13), .val (.ref ob16), .val (.int (1 : Int32)), .val (.int (1 : Int32)), .val (.ref ob20el)] [(.int (1 : Int32))]) _ _ _
        refine own_to (fun t k => XS.goto X23.here hx rfl (pc0 := 283) (pc' := 287) rfl (hb hby at_283) (by decide) (by decide) k) ?_
        show own_Out p e below _ T23 (mkF m 287 #[.val (.int x0), .val (.int x1), .val (.int x2), .val (.int x3), .val (.int (1 : Int32)), .val (.int l1), .val (.int l2), .val (.int (0 : Int32)), .val (.int tt), .val (.int s1), .val (.int (0 : Int32)), .val (.ref ob13), .val (.ref ob16), .val (.int (1 : Int32)), .val (.int (1 : Int32)), .val (.ref ob20el)] [(.int (1 : Int32))]) _ _ _
        refine own_to (fun t k => XS.istore X23.here hx rfl (hb hby at_287) rfl (l' := #[.val (.int x0), .val (.int x1), .val (.int x2), .val (.int x3), .val (.int (1 : Int32)), .val (.int l1), .val (.int l2), .val (.int (0 : Int32)), .val (.int tt), .val (.int s1), .val (.int (0 : Int32)), .val (.ref ob13), .val (.ref ob16), .val (.int (1 : Int32)), .val (.int (1 : Int32)), .val (.ref ob20el)]) rfl k) ?_
        show own_Out p e below _ T23 (mkF m 289 #[.val (.int x0), .val (.int x1), .val (.int x2), .val (.int x3), .val (.int (1 : Int32)), .val (.int l1), .val (.int l2), .val (.int (0 : Int32)), .val (.int tt), .val (.int s1), .val (.int (0 : Int32)), .val (.ref ob13), .val (.ref ob16), .val (.int (1 : Int32)), .val (.int (1 : Int32)), .val (.ref ob20el)] []) _ _ _
        refine own_to (fun t k => XS.iload X23.here hx rfl (hb hby at_289) rfl k) ?_
        show own_Out p e below _ T23 (mkF m 291 #[.val (.int x0), .val (.int x1), .val (.int x2), .val (.int x3), .val (.int (1 : Int32)), .val (.int l1), .val (.int l2), .val (.int (0 : Int32)), .val (.int tt), .val (.int s1), .val (.int (0 : Int32)), .val (.ref ob13), .val (.ref ob16), .val (.int (1 : Int32)), .val (.int (1 : Int32)), .val (.ref ob20el)] [(.int (1 : Int32))]) _ _ _
        refine own_to (fun t k => XS.iconst X23.here hx rfl (hb hby at_291) k) ?_
        show own_Out p e below _ T23 (mkF m 292 #[.val (.int x0), .val (.int x1), .val (.int x2), .val (.int x3), .val (.int (1 : Int32)), .val (.int l1), .val (.int l2), .val (.int (0 : Int32)), .val (.int tt), .val (.int s1), .val (.int (0 : Int32)), .val (.ref ob13), .val (.ref ob16), .val (.int (1 : Int32)), .val (.int (1 : Int32)), .val (.ref ob20el)] [(.int (2 : Int32)), (.int (1 : Int32))]) _ _ _
        have hc292 : (1 : Int32) < (2 : Int32) := by decide
        refine own_to (fun t k => XS.icmpYes X23.here hx rfl (pc0 := 292) (pc' := 366) rfl (hb hby at_292) rfl (tlt hc292).1 (by decide) (by decide) k) ?_
        show own_Out p e below _ T23 (mkF m 366 #[.val (.int x0), .val (.int x1), .val (.int x2), .val (.int x3), .val (.int (1 : Int32)), .val (.int l1), .val (.int l2), .val (.int (0 : Int32)), .val (.int tt), .val (.int s1), .val (.int (0 : Int32)), .val (.ref ob13), .val (.ref ob16), .val (.int (1 : Int32)), .val (.int (1 : Int32)), .val (.ref ob20el)] []) _ _ _
        refine own_to (fun t k => XS.iload X23.here hx rfl (hb hby at_366) rfl k) ?_
        show own_Out p e below _ T23 (mkF m 368 #[.val (.int x0), .val (.int x1), .val (.int x2), .val (.int x3), .val (.int (1 : Int32)), .val (.int l1), .val (.int l2), .val (.int (0 : Int32)), .val (.int tt), .val (.int s1), .val (.int (0 : Int32)), .val (.ref ob13), .val (.ref ob16), .val (.int (1 : Int32)), .val (.int (1 : Int32)), .val (.ref ob20el)] [(.int (1 : Int32))]) _ _ _
        refine own_retVW X23 hS hk e23 hx hlk (w := .int (1 : Int32)) hret rfl (Or.inl ⟨rfl, by simp, _, rfl⟩) (hb hby at_368) (by decide) (by decide) ?_
        rw [e23]
        exact ⟨rfl, N23⟩
    · subst hk_tr
      show own_Out p e below _ T1 (mkF m 24 #[.val (.int x0), .val (.int x1), .val (.int x2), .val (.int x3), .val (.int (1 : Int32)), .val (.int l1), .val (.int l2), .val (.int (1 : Int32)), .unset, .unset, .unset, .unset, .unset, .unset, .unset, .unset] []) _ _ _
      refine own_to (fun t k => XS.iloadN X1.here hx rfl (hb hby at_24) rfl k) ?_
      show own_Out p e below _ T1 (mkF m 25 #[.val (.int x0), .val (.int x1), .val (.int x2), .val (.int x3), .val (.int (1 : Int32)), .val (.int l1), .val (.int l2), .val (.int (1 : Int32)), .unset, .unset, .unset, .unset, .unset, .unset, .unset, .unset] [(.int x3)]) _ _ _
      refine own_to (fun t k => XS.iconst X1.here hx rfl (hb hby at_25) k) ?_
      show own_Out p e below _ T1 (mkF m 26 #[.val (.int x0), .val (.int x1), .val (.int x2), .val (.int x3), .val (.int (1 : Int32)), .val (.int l1), .val (.int l2), .val (.int (1 : Int32)), .unset, .unset, .unset, .unset, .unset, .unset, .unset, .unset] [(.int (1 : Int32)), (.int x3)]) _ _ _
      refine own_to (fun t k => XS.iushr X1.here hx rfl (hb hby at_26) rfl k) ?_
      show own_Out p e below _ T1 (mkF m 27 #[.val (.int x0), .val (.int x1), .val (.int x2), .val (.int x3), .val (.int (1 : Int32)), .val (.int l1), .val (.int l2), .val (.int (1 : Int32)), .unset, .unset, .unset, .unset, .unset, .unset, .unset, .unset] [(.int ((x3.toUInt32 >>> ((1 : Int32) &&& 31).toUInt32).toInt32))]) _ _ _
      refine own_to (fun t k => XS.sipush X1.here hx rfl (hb hby at_27) k) ?_
      show own_Out p e below _ T1 (mkF m 30 #[.val (.int x0), .val (.int x1), .val (.int x2), .val (.int x3), .val (.int (1 : Int32)), .val (.int l1), .val (.int l2), .val (.int (1 : Int32)), .unset, .unset, .unset, .unset, .unset, .unset, .unset, .unset] [(.int (254 : Int32)), (.int ((x3.toUInt32 >>> ((1 : Int32) &&& 31).toUInt32).toInt32))]) _ _ _
      refine own_to (fun t k => XS.iand X1.here hx rfl (hb hby at_30) rfl k) ?_
      show own_Out p e below _ T1 (mkF m 31 #[.val (.int x0), .val (.int x1), .val (.int x2), .val (.int x3), .val (.int (1 : Int32)), .val (.int l1), .val (.int l2), .val (.int (1 : Int32)), .unset, .unset, .unset, .unset, .unset, .unset, .unset, .unset] [(.int (((x3.toUInt32 >>> ((1 : Int32) &&& 31).toUInt32).toInt32) &&& (254 : Int32)))]) _ _ _
      refine own_to (fun t k => XS.istore X1.here hx rfl (hb hby at_31) rfl (l' := #[.val (.int x0), .val (.int x1), .val (.int x2), .val (.int x3), .val (.int (1 : Int32)), .val (.int l1), .val (.int l2), .val (.int (1 : Int32)), .val (.int (((x3.toUInt32 >>> ((1 : Int32) &&& 31).toUInt32).toInt32) &&& (254 : Int32))), .unset, .unset, .unset, .unset, .unset, .unset, .unset]) rfl k) ?_
      show own_Out p e below _ T1 (mkF m 33 #[.val (.int x0), .val (.int x1), .val (.int x2), .val (.int x3), .val (.int (1 : Int32)), .val (.int l1), .val (.int l2), .val (.int (1 : Int32)), .val (.int (((x3.toUInt32 >>> ((1 : Int32) &&& 31).toUInt32).toInt32) &&& (254 : Int32))), .unset, .unset, .unset, .unset, .unset, .unset, .unset] []) _ _ _
      generalize hv_tt : (((x3.toUInt32 >>> ((1 : Int32) &&& 31).toUInt32).toInt32) &&& (254 : Int32)) = tt
      show own_Out p e below _ T1 (mkF m 33 #[.val (.int x0), .val (.int x1), .val (.int x2), .val (.int x3), .val (.int (1 : Int32)), .val (.int l1), .val (.int l2), .val (.int (1 : Int32)), .val (.int tt), .unset, .unset, .unset, .unset, .unset, .unset, .unset] []) _ _ _
      have htt := own_tgok ((x3.toUInt32 >>> ((1 : Int32) &&& 31).toUInt32).toInt32)
      rw [hv_tt] at htt
      refine own_to (fun t k => XS.iload X1.here hx rfl (hb hby at_33) rfl k) ?_
      show own_Out p e below _ T1 (mkF m 35 #[.val (.int x0), .val (.int x1), .val (.int x2), .val (.int x3), .val (.int (1 : Int32)), .val (.int l1), .val (.int l2), .val (.int (1 : Int32)), .val (.int tt), .unset, .unset, .unset, .unset, .unset, .unset, .unset] [(.int (1 : Int32))]) _ _ _
      refine own_to (fun t k => XS.iconst X1.here hx rfl (hb hby at_35) k) ?_
      show own_Out p e below _ T1 (mkF m 36 #[.val (.int x0), .val (.int x1), .val (.int x2), .val (.int x3), .val (.int (1 : Int32)), .val (.int l1), .val (.int l2), .val (.int (1 : Int32)), .val (.int tt), .unset, .unset, .unset, .unset, .unset, .unset, .unset] [(.int (1 : Int32)), (.int (1 : Int32))]) _ _ _
      have hc36 : ¬ ((1 : Int32) < (1 : Int32)) := by decide
      refine own_to (fun t k => XS.icmpNo X1.here hx rfl (hb hby at_36) rfl (flt hc36).1 k) ?_
      show own_Out p e below _ T1 (mkF m 39 #[.val (.int x0), .val (.int x1), .val (.int x2), .val (.int x3), .val (.int (1 : Int32)), .val (.int l1), .val (.int l2), .val (.int (1 : Int32)), .val (.int tt), .unset, .unset, .unset, .unset, .unset, .unset, .unset] []) _ _ _
      refine own_to (fun t k => XS.iconst X1.here hx rfl (hb hby at_39) k) ?_
      show own_Out p e below _ T1 (mkF m 40 #[.val (.int x0), .val (.int x1), .val (.int x2), .val (.int x3), .val (.int (1 : Int32)), .val (.int l1), .val (.int l2), .val (.int (1 : Int32)), .val (.int tt), .unset, .unset, .unset, .unset, .unset, .unset, .unset] [(.int (2 : Int32))]) _ _ _
      refine own_to (fun t k => XS.iload X1.here hx rfl (hb hby at_40) rfl k) ?_
      show own_Out p e below _ T1 (mkF m 42 #[.val (.int x0), .val (.int x1), .val (.int x2), .val (.int x3), .val (.int (1 : Int32)), .val (.int l1), .val (.int l2), .val (.int (1 : Int32)), .val (.int tt), .unset, .unset, .unset, .unset, .unset, .unset, .unset] [(.int l1), (.int (2 : Int32))]) _ _ _
      refine own_to (fun t k => XS.iadd X1.here hx rfl (hb hby at_42) rfl k) ?_
      show own_Out p e below _ T1 (mkF m 43 #[.val (.int x0), .val (.int x1), .val (.int x2), .val (.int x3), .val (.int (1 : Int32)), .val (.int l1), .val (.int l2), .val (.int (1 : Int32)), .val (.int tt), .unset, .unset, .unset, .unset, .unset, .unset, .unset] [(.int ((2 : Int32) + l1))]) _ _ _
      refine own_to (fun t k => XS.goto X1.here hx rfl (pc0 := 43) (pc' := 47) rfl (hb hby at_43) (by decide) (by decide) k) ?_
      show own_Out p e below _ T1 (mkF m 47 #[.val (.int x0), .val (.int x1), .val (.int x2), .val (.int x3), .val (.int (1 : Int32)), .val (.int l1), .val (.int l2), .val (.int (1 : Int32)), .val (.int tt), .unset, .unset, .unset, .unset, .unset, .unset, .unset] [(.int ((2 : Int32) + l1))]) _ _ _
      refine own_to (fun t k => XS.istore X1.here hx rfl (hb hby at_47) rfl (l' := #[.val (.int x0), .val (.int x1), .val (.int x2), .val (.int x3), .val (.int (1 : Int32)), .val (.int l1), .val (.int l2), .val (.int (1 : Int32)), .val (.int tt), .val (.int ((2 : Int32) + l1)), .unset, .unset, .unset, .unset, .unset, .unset]) rfl k) ?_
      show own_Out p e below _ T1 (mkF m 49 #[.val (.int x0), .val (.int x1), .val (.int x2), .val (.int x3), .val (.int (1 : Int32)), .val (.int l1), .val (.int l2), .val (.int (1 : Int32)), .val (.int tt), .val (.int ((2 : Int32) + l1)), .unset, .unset, .unset, .unset, .unset, .unset] []) _ _ _
      generalize hv_s1 : ((2 : Int32) + l1) = s1
      show own_Out p e below _ T1 (mkF m 49 #[.val (.int x0), .val (.int x1), .val (.int x2), .val (.int x3), .val (.int (1 : Int32)), .val (.int l1), .val (.int l2), .val (.int (1 : Int32)), .val (.int tt), .val (.int s1), .unset, .unset, .unset, .unset, .unset, .unset] []) _ _ _
      have h_s1 : s1.toInt = 2 + l1.toInt := by rw [← hv_s1, own_ad 2 l1 (by omega) (by omega), k2]
      have h_s1p := own_ad s1 1 (by omega) (by omega)
      rw [k1] at h_s1p
      refine own_to (fun t k => XS.iload X1.here hx rfl (hb hby at_49) rfl k) ?_
      show own_Out p e below _ T1 (mkF m 51 #[.val (.int x0), .val (.int x1), .val (.int x2), .val (.int x3), .val (.int (1 : Int32)), .val (.int l1), .val (.int l2), .val (.int (1 : Int32)), .val (.int tt), .val (.int s1), .unset, .unset, .unset, .unset, .unset, .unset] [(.int (1 : Int32))]) _ _ _
      refine own_to (fun t k => XS.iconst X1.here hx rfl (hb hby at_51) k) ?_
      show own_Out p e below _ T1 (mkF m 52 #[.val (.int x0), .val (.int x1), .val (.int x2), .val (.int x3), .val (.int (1 : Int32)), .val (.int l1), .val (.int l2), .val (.int (1 : Int32)), .val (.int tt), .val (.int s1), .unset, .unset, .unset, .unset, .unset, .unset] [(.int (2 : Int32)), (.int (1 : Int32))]) _ _ _
      have hc52 : (1 : Int32) < (2 : Int32) := by decide
      refine own_to (fun t k => XS.icmpYes X1.here hx rfl (pc0 := 52) (pc' := 62) rfl (hb hby at_52) rfl (tlt hc52).1 (by decide) (by decide) k) ?_
      show own_Out p e below _ T1 (mkF m 62 #[.val (.int x0), .val (.int x1), .val (.int x2), .val (.int x3), .val (.int (1 : Int32)), .val (.int l1), .val (.int l2), .val (.int (1 : Int32)), .val (.int tt), .val (.int s1), .unset, .unset, .unset, .unset, .unset, .unset] []) _ _ _
      refine own_to (fun t k => XS.iconst X1.here hx rfl (hb hby at_62) k) ?_
      show own_Out p e below _ T1 (mkF m 63 #[.val (.int x0), .val (.int x1), .val (.int x2), .val (.int x3), .val (.int (1 : Int32)), .val (.int l1), .val (.int l2), .val (.int (1 : Int32)), .val (.int tt), .val (.int s1), .unset, .unset, .unset, .unset, .unset, .unset] [(.int (0 : Int32))]) _ _ _
      refine own_to (fun t k => XS.istore X1.here hx rfl (hb hby at_63) rfl (l' := #[.val (.int x0), .val (.int x1), .val (.int x2), .val (.int x3), .val (.int (1 : Int32)), .val (.int l1), .val (.int l2), .val (.int (1 : Int32)), .val (.int tt), .val (.int s1), .val (.int (0 : Int32)), .unset, .unset, .unset, .unset, .unset]) rfl k) ?_
      show own_Out p e below _ T1 (mkF m 65 #[.val (.int x0), .val (.int x1), .val (.int x2), .val (.int x3), .val (.int (1 : Int32)), .val (.int l1), .val (.int l2), .val (.int (1 : Int32)), .val (.int tt), .val (.int s1), .val (.int (0 : Int32)), .unset, .unset, .unset, .unset, .unset] []) _ _ _
      refine own_to (fun t k => XS.iload X1.here hx rfl (hb hby at_65) rfl k) ?_
      show own_Out p e below _ T1 (mkF m 67 #[.val (.int x0), .val (.int x1), .val (.int x2), .val (.int x3), .val (.int (1 : Int32)), .val (.int l1), .val (.int l2), .val (.int (1 : Int32)), .val (.int tt), .val (.int s1), .val (.int (0 : Int32)), .unset, .unset, .unset, .unset, .unset] [(.int s1)]) _ _ _
      refine own_to (fun t k => XS.iload X1.here hx rfl (hb hby at_67) rfl k) ?_
      show own_Out p e below _ T1 (mkF m 69 #[.val (.int x0), .val (.int x1), .val (.int x2), .val (.int x3), .val (.int (1 : Int32)), .val (.int l1), .val (.int l2), .val (.int (1 : Int32)), .val (.int tt), .val (.int s1), .val (.int (0 : Int32)), .unset, .unset, .unset, .unset, .unset] [(.int (0 : Int32)), (.int s1)]) _ _ _
      refine own_to (fun t k => XS.iadd X1.here hx rfl (hb hby at_69) rfl k) ?_
      show own_Out p e below _ T1 (mkF m 70 #[.val (.int x0), .val (.int x1), .val (.int x2), .val (.int x3), .val (.int (1 : Int32)), .val (.int l1), .val (.int l2), .val (.int (1 : Int32)), .val (.int tt), .val (.int s1), .val (.int (0 : Int32)), .unset, .unset, .unset, .unset, .unset] [(.int (s1 + (0 : Int32)))]) _ _ _
      refine own_to (fun t k => XS.iload X1.here hx rfl (hb hby at_70) rfl k) ?_
      show own_Out p e below _ T1 (mkF m 72 #[.val (.int x0), .val (.int x1), .val (.int x2), .val (.int x3), .val (.int (1 : Int32)), .val (.int l1), .val (.int l2), .val (.int (1 : Int32)), .val (.int tt), .val (.int s1), .val (.int (0 : Int32)), .unset, .unset, .unset, .unset, .unset] [(.int (1 : Int32)), (.int (s1 + (0 : Int32)))]) _ _ _
      refine own_to (fun t k => XS.iadd X1.here hx rfl (hb hby at_72) rfl k) ?_
      show own_Out p e below _ T1 (mkF m 73 #[.val (.int x0), .val (.int x1), .val (.int x2), .val (.int x3), .val (.int (1 : Int32)), .val (.int l1), .val (.int l2), .val (.int (1 : Int32)), .val (.int tt), .val (.int s1), .val (.int (0 : Int32)), .unset, .unset, .unset, .unset, .unset] [(.int ((s1 + (0 : Int32)) + (1 : Int32)))]) _ _ _
      have h_a := own_ad s1 (0 : Int32) (by omega) (by omega)
      have h_b := own_ad (s1 + (0 : Int32)) (1 : Int32) (by omega) (by omega)
      generalize hv_nn : ((s1 + (0 : Int32)) + (1 : Int32)) = nn
      show own_Out p e below _ T1 (mkF m 73 #[.val (.int x0), .val (.int x1), .val (.int x2), .val (.int x3), .val (.int (1 : Int32)), .val (.int l1), .val (.int l2), .val (.int (1 : Int32)), .val (.int tt), .val (.int s1), .val (.int (0 : Int32)), .unset, .unset, .unset, .unset, .unset] [(.int nn)]) _ _ _
      rw [hv_nn] at h_b
      refine own_newA X1 hx hZ (hw _ (List.mem_of_getElem? (i := 4) rfl)) rfl e1 rfl (hb hby at_73) rfl (own_ge (by omega)) (cap := 12) (by rw [own_nn]; omega) (by decide) (by decide) (by decide) fun T24 hh24 ob24 gb24 X24 e24 E24 A24 => ?_
      have g_ob24 : n0 ≤ ob24 := Nat.le_trans Z0 (Nat.le_of_eq gb24.symm)
      have Z0 := Nat.le_trans Z0 E24.1
      have hk := Nat.le_trans hk E24.1
      have A_ob24 : own_A Z hh24 ob24 .byte nn.toNatClampNeg (fun _ => 0) := A24
      show own_Out p e below _ T24 (mkF m 75 #[.val (.int x0), .val (.int x1), .val (.int x2), .val (.int x3), .val (.int (1 : Int32)), .val (.int l1), .val (.int l2), .val (.int (1 : Int32)), .val (.int tt), .val (.int s1), .val (.int (0 : Int32)), .unset, .unset, .unset, .unset, .unset] [(.ref ob24)]) _ _ _
      refine own_to (fun t k => XS.astore X24.here hx rfl (hb hby at_75) rfl rfl (l' := #[.val (.int x0), .val (.int x1), .val (.int x2), .val (.int x3), .val (.int (1 : Int32)), .val (.int l1), .val (.int l2), .val (.int (1 : Int32)), .val (.int tt), .val (.int s1), .val (.int (0 : Int32)), .val (.ref ob24), .unset, .unset, .unset, .unset]) rfl k) ?_
      show own_Out p e below _ T24 (mkF m 77 #[.val (.int x0), .val (.int x1), .val (.int x2), .val (.int x3), .val (.int (1 : Int32)), .val (.int l1), .val (.int l2), .val (.int (1 : Int32)), .val (.int tt), .val (.int s1), .val (.int (0 : Int32)), .val (.ref ob24), .unset, .unset, .unset, .unset] []) _ _ _
      refine own_to (fun t k => XS.iload X24.here hx rfl (hb hby at_77) rfl k) ?_
      show own_Out p e below _ T24 (mkF m 79 #[.val (.int x0), .val (.int x1), .val (.int x2), .val (.int x3), .val (.int (1 : Int32)), .val (.int l1), .val (.int l2), .val (.int (1 : Int32)), .val (.int tt), .val (.int s1), .val (.int (0 : Int32)), .val (.ref ob24), .unset, .unset, .unset, .unset] [(.int (1 : Int32))]) _ _ _
      refine own_to (fun t k => XS.iconst X24.here hx rfl (hb hby at_79) k) ?_
      show own_Out p e below _ T24 (mkF m 80 #[.val (.int x0), .val (.int x1), .val (.int x2), .val (.int x3), .val (.int (1 : Int32)), .val (.int l1), .val (.int l2), .val (.int (1 : Int32)), .val (.int tt), .val (.int s1), .val (.int (0 : Int32)), .val (.ref ob24), .unset, .unset, .unset, .unset] [(.int (1 : Int32)), (.int (1 : Int32))]) _ _ _
      have hc80 : ¬ ((1 : Int32) < (1 : Int32)) := by decide
      refine own_to (fun t k => XS.icmpNo X24.here hx rfl (hb hby at_80) rfl (flt hc80).1 k) ?_
      show own_Out p e below _ T24 (mkF m 83 #[.val (.int x0), .val (.int x1), .val (.int x2), .val (.int x3), .val (.int (1 : Int32)), .val (.int l1), .val (.int l2), .val (.int (1 : Int32)), .val (.int tt), .val (.int s1), .val (.int (0 : Int32)), .val (.ref ob24), .unset, .unset, .unset, .unset] []) _ _ _
      refine own_to (fun t k => XS.aload X24.here hx rfl (hb hby at_83) rfl rfl k) ?_
      show own_Out p e below _ T24 (mkF m 85 #[.val (.int x0), .val (.int x1), .val (.int x2), .val (.int x3), .val (.int (1 : Int32)), .val (.int l1), .val (.int l2), .val (.int (1 : Int32)), .val (.int tt), .val (.int s1), .val (.int (0 : Int32)), .val (.ref ob24), .unset, .unset, .unset, .unset] [(.ref ob24)]) _ _ _
      refine own_to (fun t k => XS.iconst X24.here hx rfl (hb hby at_85) k) ?_
      show own_Out p e below _ T24 (mkF m 86 #[.val (.int x0), .val (.int x1), .val (.int x2), .val (.int x3), .val (.int (1 : Int32)), .val (.int l1), .val (.int l2), .val (.int (1 : Int32)), .val (.int tt), .val (.int s1), .val (.int (0 : Int32)), .val (.ref ob24), .unset, .unset, .unset, .unset] [(.int (0 : Int32)), (.ref ob24)]) _ _ _
      refine own_to (fun t k => XS.iload X24.here hx rfl (hb hby at_86) rfl k) ?_
      show own_Out p e below _ T24 (mkF m 88 #[.val (.int x0), .val (.int x1), .val (.int x2), .val (.int x3), .val (.int (1 : Int32)), .val (.int l1), .val (.int l2), .val (.int (1 : Int32)), .val (.int tt), .val (.int s1), .val (.int (0 : Int32)), .val (.ref ob24), .unset, .unset, .unset, .unset] [(.int tt), (.int (0 : Int32)), (.ref ob24)]) _ _ _
      refine own_to (fun t k => XS.i2b X24.here hx rfl (hb hby at_88) rfl k) ?_
      show own_Out p e below _ T24 (mkF m 89 #[.val (.int x0), .val (.int x1), .val (.int x2), .val (.int x3), .val (.int (1 : Int32)), .val (.int l1), .val (.int l2), .val (.int (1 : Int32)), .val (.int tt), .val (.int s1), .val (.int (0 : Int32)), .val (.ref ob24), .unset, .unset, .unset, .unset] [(.int (tt.toInt8.toInt32)), (.int (0 : Int32)), (.ref ob24)]) _ _ _
      refine own_stB X24 hx hZ e24 A_ob24 (own_ge (by omega)) (by simp only [own_nn] <;> omega) rfl rfl (hb hby at_89) fun T25 hh25 X25 e25 W25 A25 => ?_
      have A_ob24 := A25
      have Z0 := Nat.le_trans Z0 (Nat.le_of_eq W25.size.symm)
      have hk := Nat.le_trans hk (Nat.le_of_eq W25.size.symm)
      have N25 := own_fs (sl := Int32.toNatClampNeg (0 : Int32)) N1 g_ob24
      show own_Out p e below _ T25 (mkF m 90 #[.val (.int x0), .val (.int x1), .val (.int x2), .val (.int x3), .val (.int (1 : Int32)), .val (.int l1), .val (.int l2), .val (.int (1 : Int32)), .val (.int tt), .val (.int s1), .val (.int (0 : Int32)), .val (.ref ob24), .unset, .unset, .unset, .unset] []) _ _ _
      refine own_to (fun t k => XS.aload X25.here hx rfl (hb hby at_90) rfl rfl k) ?_
      show own_Out p e below _ T25 (mkF m 92 #[.val (.int x0), .val (.int x1), .val (.int x2), .val (.int x3), .val (.int (1 : Int32)), .val (.int l1), .val (.int l2), .val (.int (1 : Int32)), .val (.int tt), .val (.int s1), .val (.int (0 : Int32)), .val (.ref ob24), .unset, .unset, .unset, .unset] [(.ref ob24)]) _ _ _
      refine own_to (fun t k => XS.iconst X25.here hx rfl (hb hby at_92) k) ?_
      show own_Out p e below _ T25 (mkF m 93 #[.val (.int x0), .val (.int x1), .val (.int x2), .val (.int x3), .val (.int (1 : Int32)), .val (.int l1), .val (.int l2), .val (.int (1 : Int32)), .val (.int tt), .val (.int s1), .val (.int (0 : Int32)), .val (.ref ob24), .unset, .unset, .unset, .unset] [(.int (1 : Int32)), (.ref ob24)]) _ _ _
      refine own_to (fun t k => XS.iload X25.here hx rfl (hb hby at_93) rfl k) ?_
      show own_Out p e below _ T25 (mkF m 95 #[.val (.int x0), .val (.int x1), .val (.int x2), .val (.int x3), .val (.int (1 : Int32)), .val (.int l1), .val (.int l2), .val (.int (1 : Int32)), .val (.int tt), .val (.int s1), .val (.int (0 : Int32)), .val (.ref ob24), .unset, .unset, .unset, .unset] [(.int l1), (.int (1 : Int32)), (.ref ob24)]) _ _ _
      refine own_to (fun t k => XS.i2b X25.here hx rfl (hb hby at_95) rfl k) ?_
      show own_Out p e below _ T25 (mkF m 96 #[.val (.int x0), .val (.int x1), .val (.int x2), .val (.int x3), .val (.int (1 : Int32)), .val (.int l1), .val (.int l2), .val (.int (1 : Int32)), .val (.int tt), .val (.int s1), .val (.int (0 : Int32)), .val (.ref ob24), .unset, .unset, .unset, .unset] [(.int (l1.toInt8.toInt32)), (.int (1 : Int32)), (.ref ob24)]) _ _ _
      refine own_stB X25 hx hZ e25 A_ob24 (own_ge (by omega)) (by simp only [own_nn] <;> omega) rfl rfl (hb hby at_96) fun T26 hh26 X26 e26 W26 A26 => ?_
      have A_ob24 := A26
      have Z0 := Nat.le_trans Z0 (Nat.le_of_eq W26.size.symm)
      have hk := Nat.le_trans hk (Nat.le_of_eq W26.size.symm)
      have N26 := own_fs (sl := Int32.toNatClampNeg (1 : Int32)) N25 g_ob24
      show own_Out p e below _ T26 (mkF m 97 #[.val (.int x0), .val (.int x1), .val (.int x2), .val (.int x3), .val (.int (1 : Int32)), .val (.int l1), .val (.int l2), .val (.int (1 : Int32)), .val (.int tt), .val (.int s1), .val (.int (0 : Int32)), .val (.ref ob24), .unset, .unset, .unset, .unset] []) _ _ _
      refine own_to (fun t k => XS.iload X26.here hx rfl (hb hby at_97) rfl k) ?_
      show own_Out p e below _ T26 (mkF m 99 #[.val (.int x0), .val (.int x1), .val (.int x2), .val (.int x3), .val (.int (1 : Int32)), .val (.int l1), .val (.int l2), .val (.int (1 : Int32)), .val (.int tt), .val (.int s1), .val (.int (0 : Int32)), .val (.ref ob24), .unset, .unset, .unset, .unset] [(.int (1 : Int32))]) _ _ _
      refine own_to (fun t k => XS.iconst X26.here hx rfl (hb hby at_99) k) ?_
      show own_Out p e below _ T26 (mkF m 100 #[.val (.int x0), .val (.int x1), .val (.int x2), .val (.int x3), .val (.int (1 : Int32)), .val (.int l1), .val (.int l2), .val (.int (1 : Int32)), .val (.int tt), .val (.int s1), .val (.int (0 : Int32)), .val (.ref ob24), .unset, .unset, .unset, .unset] [(.int (2 : Int32)), (.int (1 : Int32))]) _ _ _
      have hc100 : (1 : Int32) < (2 : Int32) := by decide
      refine own_to (fun t k => XS.icmpYes X26.here hx rfl (pc0 := 100) (pc' := 121) rfl (hb hby at_100) rfl (tlt hc100).1 (by decide) (by decide) k) ?_
      show own_Out p e below _ T26 (mkF m 121 #[.val (.int x0), .val (.int x1), .val (.int x2), .val (.int x3), .val (.int (1 : Int32)), .val (.int l1), .val (.int l2), .val (.int (1 : Int32)), .val (.int tt), .val (.int s1), .val (.int (0 : Int32)), .val (.ref ob24), .unset, .unset, .unset, .unset] []) _ _ _
      refine own_to (fun t k => XS.iload X26.here hx rfl (hb hby at_121) rfl k) ?_
      show own_Out p e below _ T26 (mkF m 123 #[.val (.int x0), .val (.int x1), .val (.int x2), .val (.int x3), .val (.int (1 : Int32)), .val (.int l1), .val (.int l2), .val (.int (1 : Int32)), .val (.int tt), .val (.int s1), .val (.int (0 : Int32)), .val (.ref ob24), .unset, .unset, .unset, .unset] [(.int (1 : Int32))]) _ _ _
      refine own_to (fun t k => XS.iconst X26.here hx rfl (hb hby at_123) k) ?_
      show own_Out p e below _ T26 (mkF m 124 #[.val (.int x0), .val (.int x1), .val (.int x2), .val (.int x3), .val (.int (1 : Int32)), .val (.int l1), .val (.int l2), .val (.int (1 : Int32)), .val (.int tt), .val (.int s1), .val (.int (0 : Int32)), .val (.ref ob24), .unset, .unset, .unset, .unset] [(.int (1 : Int32)), (.int (1 : Int32))]) _ _ _
      have hc124 : (1 : Int32) = (1 : Int32) := by decide
      refine own_to (fun t k => XS.icmpNo X26.here hx rfl (hb hby at_124) rfl (teq hc124).2 k) ?_
      show own_Out p e below _ T26 (mkF m 127 #[.val (.int x0), .val (.int x1), .val (.int x2), .val (.int x3), .val (.int (1 : Int32)), .val (.int l1), .val (.int l2), .val (.int (1 : Int32)), .val (.int tt), .val (.int s1), .val (.int (0 : Int32)), .val (.ref ob24), .unset, .unset, .unset, .unset] []) _ _ _
      refine own_to (fun t k => XS.aload X26.here hx rfl (hb hby at_127) rfl rfl k) ?_
      show own_Out p e below _ T26 (mkF m 129 #[.val (.int x0), .val (.int x1), .val (.int x2), .val (.int x3), .val (.int (1 : Int32)), .val (.int l1), .val (.int l2), .val (.int (1 : Int32)), .val (.int tt), .val (.int s1), .val (.int (0 : Int32)), .val (.ref ob24), .unset, .unset, .unset, .unset] [(.ref ob24)]) _ _ _
      refine own_to (fun t k => XS.iload X26.here hx rfl (hb hby at_129) rfl k) ?_
      show own_Out p e below _ T26 (mkF m 131 #[.val (.int x0), .val (.int x1), .val (.int x2), .val (.int x3), .val (.int (1 : Int32)), .val (.int l1), .val (.int l2), .val (.int (1 : Int32)), .val (.int tt), .val (.int s1), .val (.int (0 : Int32)), .val (.ref ob24), .unset, .unset, .unset, .unset] [(.int s1), (.ref ob24)]) _ _ _
      refine own_to (fun t k => XS.iload X26.here hx rfl (hb hby at_131) rfl k) ?_
      show own_Out p e below _ T26 (mkF m 133 #[.val (.int x0), .val (.int x1), .val (.int x2), .val (.int x3), .val (.int (1 : Int32)), .val (.int l1), .val (.int l2), .val (.int (1 : Int32)), .val (.int tt), .val (.int s1), .val (.int (0 : Int32)), .val (.ref ob24), .unset, .unset, .unset, .unset] [(.int (0 : Int32)), (.int s1), (.ref ob24)]) _ _ _
      refine own_to (fun t k => XS.iadd X26.here hx rfl (hb hby at_133) rfl k) ?_
      show own_Out p e below _ T26 (mkF m 134 #[.val (.int x0), .val (.int x1), .val (.int x2), .val (.int x3), .val (.int (1 : Int32)), .val (.int l1), .val (.int l2), .val (.int (1 : Int32)), .val (.int tt), .val (.int s1), .val (.int (0 : Int32)), .val (.ref ob24), .unset, .unset, .unset, .unset] [(.int (s1 + (0 : Int32))), (.ref ob24)]) _ _ _
      refine own_to (fun t k => XS.iload X26.here hx rfl (hb hby at_134) rfl k) ?_
      show own_Out p e below _ T26 (mkF m 136 #[.val (.int x0), .val (.int x1), .val (.int x2), .val (.int x3), .val (.int (1 : Int32)), .val (.int l1), .val (.int l2), .val (.int (1 : Int32)), .val (.int tt), .val (.int s1), .val (.int (0 : Int32)), .val (.ref ob24), .unset, .unset, .unset, .unset] [(.int tt), (.int (s1 + (0 : Int32))), (.ref ob24)]) _ _ _
      refine own_to (fun t k => XS.i2b X26.here hx rfl (hb hby at_136) rfl k) ?_
      show own_Out p e below _ T26 (mkF m 137 #[.val (.int x0), .val (.int x1), .val (.int x2), .val (.int x3), .val (.int (1 : Int32)), .val (.int l1), .val (.int l2), .val (.int (1 : Int32)), .val (.int tt), .val (.int s1), .val (.int (0 : Int32)), .val (.ref ob24), .unset, .unset, .unset, .unset] [(.int (tt.toInt8.toInt32)), (.int (s1 + (0 : Int32))), (.ref ob24)]) _ _ _
      refine own_stB X26 hx hZ e26 A_ob24 (own_ge (by omega)) (by simp only [own_nn] <;> omega) rfl rfl (hb hby at_137) fun T27 hh27 X27 e27 W27 A27 => ?_
      have A_ob24 := A27
      have Z0 := Nat.le_trans Z0 (Nat.le_of_eq W27.size.symm)
      have hk := Nat.le_trans hk (Nat.le_of_eq W27.size.symm)
      have N27 := own_fs (sl := Int32.toNatClampNeg (s1 + (0 : Int32))) N26 g_ob24
      show own_Out p e below _ T27 (mkF m 138 #[.val (.int x0), .val (.int x1), .val (.int x2), .val (.int x3), .val (.int (1 : Int32)), .val (.int l1), .val (.int l2), .val (.int (1 : Int32)), .val (.int tt), .val (.int s1), .val (.int (0 : Int32)), .val (.ref ob24), .unset, .unset, .unset, .unset] []) _ _ _
      refine own_new X27 hx hZ hown (hw _ (List.mem_of_getElem? (i := 5) rfl)) (hw _ (List.mem_of_getElem? (i := 6) rfl)) (hw _ (List.mem_of_getElem? (i := 7) rfl)) e27 rfl (hb hby at_138) (by decide) (by decide) fun T28 hh28 ob28 gb28 X28 e28 E28 A28 D28 => ?_
      have ne_ob24_ob28 : ob24 ≠ ob28 := Nat.ne_of_lt (Nat.lt_of_lt_of_le A_ob24.lt (Nat.le_of_eq gb28.symm))
      have ne_ob28_ob24 := Ne.symm ne_ob24_ob28
      have g_ob28 : n0 ≤ ob28 := Nat.le_trans Z0 (Nat.le_of_eq gb28.symm)
      have A_ob24 := A_ob24.ext E28
      have Z0 := Nat.le_trans Z0 E28.1
      have hk := Nat.le_trans hk E28.1
      have E_ob28 := A28
      have F_ob28_bytes : Fld Z hh28 ob28 "com/example/pathwarden/pathwarden/util/DerReader" "bytes" "[B" .null := D28 (Or.inr (hw _ (List.mem_of_getElem? (i := 18) rfl))) (ty := (.array .byte)) (by decide)
      have F_ob28_position : Fld Z hh28 ob28 "com/example/pathwarden/pathwarden/util/DerReader" "position" "I" (.int (0 : Int32)) := D28 (Or.inl (hw _ (List.mem_of_getElem? (i := 20) rfl))) (ty := .int) (by decide)
      have F_ob28_end : Fld Z hh28 ob28 "com/example/pathwarden/pathwarden/util/DerReader" "end" "I" (.int (0 : Int32)) := D28 (Or.inr (hw _ (List.mem_of_getElem? (i := 22) rfl))) (ty := .int) (by decide)
      show own_Out p e below _ T28 (mkF m 141 #[.val (.int x0), .val (.int x1), .val (.int x2), .val (.int x3), .val (.int (1 : Int32)), .val (.int l1), .val (.int l2), .val (.int (1 : Int32)), .val (.int tt), .val (.int s1), .val (.int (0 : Int32)), .val (.ref ob24), .unset, .unset, .unset, .unset] [(.ref ob28)]) _ _ _
      refine own_to (fun t k => XS.dup X28.here hx rfl (hb hby at_141) rfl rfl k) ?_
      show own_Out p e below _ T28 (mkF m 142 #[.val (.int x0), .val (.int x1), .val (.int x2), .val (.int x3), .val (.int (1 : Int32)), .val (.int l1), .val (.int l2), .val (.int (1 : Int32)), .val (.int tt), .val (.int s1), .val (.int (0 : Int32)), .val (.ref ob24), .unset, .unset, .unset, .unset] [(.ref ob28), (.ref ob28)]) _ _ _
      refine own_to (fun t k => XS.aload X28.here hx rfl (hb hby at_142) rfl rfl k) ?_
      show own_Out p e below _ T28 (mkF m 144 #[.val (.int x0), .val (.int x1), .val (.int x2), .val (.int x3), .val (.int (1 : Int32)), .val (.int l1), .val (.int l2), .val (.int (1 : Int32)), .val (.int tt), .val (.int s1), .val (.int (0 : Int32)), .val (.ref ob24), .unset, .unset, .unset, .unset] [(.ref ob24), (.ref ob28), (.ref ob28)]) _ _ _
      refine own_callC X28 hx hZ hown (a := ob28) (argsL := [(.ref ob24)]) (rest := [(.ref ob28)]) rfl (hw _ (List.mem_of_getElem? (i := 8) rfl)) (hw _ (List.mem_of_getElem? (i := 9) rfl)) (hw _ (List.mem_of_getElem? (i := 7) rfl)) (hw _ (List.mem_of_getElem? (i := 10) rfl)) (by decide) (rm2 l Z a0 hw ob28 ob24 (nn.toNatClampNeg) (own_upd (own_upd (own_upd (fun _ => 0) ((0 : Int32).toNatClampNeg) (nar .byte (tt.toInt8.toInt32))) ((1 : Int32).toNatClampNeg) (nar .byte (l1.toInt8.toInt32))) ((s1 + (0 : Int32)).toNatClampNeg) (nar .byte (tt.toInt8.toInt32))) hh28 n0 Z0 E_ob28 F_ob28_bytes F_ob28_position F_ob28_end g_ob28 A_ob24 ne_ob24_ob28) (by decide) (by decide) e28 rfl (by rw [hml]; rfl) (lenOf pd_5 rfl) rfl (W := 1) (by show 2 * 0 + _ ≤ _; exact Nat.le_of_eq rfl) (hb hby at_144) (by decide) (by decide) fun v29 T29 hh29 L29 X29 e29 hQ29 => ?_
      obtain ⟨rfl, NL29, KK29, P29_0, P29_1, P29_2⟩ := hQ29
      have A_ob24 := A_ob24.keep KK29 (by simp [ne_ob24_ob28])
      have E_ob28 := E_ob28.keep KK29
      have F_ob28_bytes := P29_0
      have F_ob28_position := P29_1
      have F_ob28_end := P29_2
      have Z0 := Nat.le_trans Z0 KK29.1
      have hk := Nat.le_trans hk KK29.1
      have N29 := Fr.app N27 NL29
      show own_Out p e below _ T29 (mkF m 147 #[.val (.int x0), .val (.int x1), .val (.int x2), .val (.int x3), .val (.int (1 : Int32)), .val (.int l1), .val (.int l2), .val (.int (1 : Int32)), .val (.int tt), .val (.int s1), .val (.int (0 : Int32)), .val (.ref ob24), .unset, .unset, .unset, .unset] [(.ref ob28)]) _ _ _
      rw [(back32 (n := nn) (own_ge (by omega))).1] at F_ob28_end
      refine own_to (fun t k => XS.astore X29.here hx rfl (hb hby at_147) rfl rfl (l' := #[.val (.int x0), .val (.int x1), .val (.int x2), .val (.int x3), .val (.int (1 : Int32)), .val (.int l1), .val (.int l2), .val (.int (1 : Int32)), .val (.int tt), .val (.int s1), .val (.int (0 : Int32)), .val (.ref ob24), .val (.ref ob28), .unset, .unset, .unset]) rfl k) ?_
      show own_Out p e below _ T29 (mkF m 149 #[.val (.int x0), .val (.int x1), .val (.int x2), .val (.int x3), .val (.int (1 : Int32)), .val (.int l1), .val (.int l2), .val (.int (1 : Int32)), .val (.int tt), .val (.int s1), .val (.int (0 : Int32)), .val (.ref ob24), .val (.ref ob28), .unset, .unset, .unset] []) _ _ _
      refine own_to (fun t k => XS.iload X29.here hx rfl (hb hby at_149) rfl k) ?_
      show own_Out p e below _ T29 (mkF m 151 #[.val (.int x0), .val (.int x1), .val (.int x2), .val (.int x3), .val (.int (1 : Int32)), .val (.int l1), .val (.int l2), .val (.int (1 : Int32)), .val (.int tt), .val (.int s1), .val (.int (0 : Int32)), .val (.ref ob24), .val (.ref ob28), .unset, .unset, .unset] [(.int (1 : Int32))]) _ _ _
      have hc151 : (0 : Int32) < (1 : Int32) := by decide
      refine own_to (fun t k => XS.ifYes X29.here hx rfl (pc0 := 151) (pc' := 160) rfl (hb hby at_151) rfl ((if0 _ _).trans (tlt hc151).2.2.1) (by decide) (by decide) k) ?_
      show own_Out p e below _ T29 (mkF m 160 #[.val (.int x0), .val (.int x1), .val (.int x2), .val (.int x3), .val (.int (1 : Int32)), .val (.int l1), .val (.int l2), .val (.int (1 : Int32)), .val (.int tt), .val (.int s1), .val (.int (0 : Int32)), .val (.ref ob24), .val (.ref ob28), .unset, .unset, .unset] []) _ _ _
      refine own_to (fun t k => XS.iconst X29.here hx rfl (hb hby at_160) k) ?_
      show own_Out p e below _ T29 (mkF m 161 #[.val (.int x0), .val (.int x1), .val (.int x2), .val (.int x3), .val (.int (1 : Int32)), .val (.int l1), .val (.int l2), .val (.int (1 : Int32)), .val (.int tt), .val (.int s1), .val (.int (0 : Int32)), .val (.ref ob24), .val (.ref ob28), .unset, .unset, .unset] [(.int (1 : Int32))]) _ _ _
      refine own_to (fun t k => XS.goto X29.here hx rfl (pc0 := 161) (pc' := 165) rfl (hb hby at_161) (by decide) (by decide) k) ?_
      show own_Out p e below _ T29 (mkF m 165 #[.val (.int x0), .val (.int x1), .val (.int x2), .val (.int x3), .val (.int (1 : Int32)), .val (.int l1), .val (.int l2), .val (.int (1 : Int32)), .val (.int tt), .val (.int s1), .val (.int (0 : Int32)), .val (.ref ob24), .val (.ref ob28), .unset, .unset, .unset] [(.int (1 : Int32))]) _ _ _
      refine own_to (fun t k => XS.istore X29.here hx rfl (hb hby at_165) rfl (l' := #[.val (.int x0), .val (.int x1), .val (.int x2), .val (.int x3), .val (.int (1 : Int32)), .val (.int l1), .val (.int l2), .val (.int (1 : Int32)), .val (.int tt), .val (.int s1), .val (.int (0 : Int32)), .val (.ref ob24), .val (.ref ob28), .val (.int (1 : Int32)), .unset, .unset]) rfl k) ?_
      show own_Out p e below _ T29 (mkF m 167 #[.val (.int x0), .val (.int x1), .val (.int x2), .val (.int x3), .val (.int (1 : Int32)), .val (.int l1), .val (.int l2), .val (.int (1 : Int32)), .val (.int tt), .val (.int s1), .val (.int (0 : Int32)), .val (.ref ob24), .val (.ref ob28), .val (.int (1 : Int32)), .unset, .unset] []) _ _ _
      refine own_to (fun t k => XS.aload X29.here hx rfl (hb hby at_167) rfl rfl k) ?_
      show own_Out p e below _ T29 (mkF m 169 #[.val (.int x0), .val (.int x1), .val (.int x2), .val (.int x3), .val (.int (1 : Int32)), .val (.int l1), .val (.int l2), .val (.int (1 : Int32)), .val (.int tt), .val (.int s1), .val (.int (0 : Int32)), .val (.ref ob24), .val (.ref ob28), .val (.int (1 : Int32)), .unset, .unset] [(.ref ob28)]) _ _ _
      refine own_callV X29 hx hZ hown (a := ob28) (argsL := []) (rest := []) (hw _ (List.mem_of_getElem? (i := 23) rfl)) (hw _ (List.mem_of_getElem? (i := 24) rfl)) (hw _ (List.mem_of_getElem? (i := 26) rfl)) (hw _ (List.mem_of_getElem? (i := 25) rfl)) (hw _ (List.mem_of_getElem? (i := 7) rfl)) (hw _ (List.mem_of_getElem? (i := 27) rfl)) (by decide) (rm5 l Z a0 hw ob28 (0 : Int32) nn hh29 n0 Z0 F_ob28_position F_ob28_end) (by decide) (by decide) e29 E_ob28 rfl (by rw [hml]; rfl) (lenOf pd_1 rfl) rfl (W := 0) (by show 2 * 0 + _ ≤ _; exact Nat.le_of_eq rfl) (hb hby at_169) (by decide) (by decide) fun v30 T30 hh30 L30 X30 e30 hQ30 => ?_
      obtain ⟨rfl, NL30, he30⟩ := hQ30
      replace e30 := e30.trans he30
      have N30 := Fr.app N29 NL30
      show own_Out p e below _ T30 (mkF m 172 #[.val (.int x0), .val (.int x1), .val (.int x2), .val (.int x3), .val (.int (1 : Int32)), .val (.int l1), .val (.int l2), .val (.int (1 : Int32)), .val (.int tt), .val (.int s1), .val (.int (0 : Int32)), .val (.ref ob24), .val (.ref ob28), .val (.int (1 : Int32)), .unset, .unset] [(.int (R5 ob28 (0 : Int32) nn))]) _ _ _
      refine own_to (fun t k => XS.iload X30.here hx rfl (hb hby at_172) rfl k) ?_
      show own_Out p e below _ T30 (mkF m 174 #[.val (.int x0), .val (.int x1), .val (.int x2), .val (.int x3), .val (.int (1 : Int32)), .val (.int l1), .val (.int l2), .val (.int (1 : Int32)), .val (.int tt), .val (.int s1), .val (.int (0 : Int32)), .val (.ref ob24), .val (.ref ob28), .val (.int (1 : Int32)), .unset, .unset] [(.int (1 : Int32)), (.int (R5 ob28 (0 : Int32) nn))]) _ _ _
      have hc174 : (R5 ob28 (0 : Int32) nn) = (1 : Int32) := own_hn1 _ _ _ (by rw [own_lt]; omega)
      refine own_to (fun t k => XS.icmpNo X30.here hx rfl (hb hby at_174) rfl (teq hc174).2 k) ?_
      show own_Out p e below _ T30 (mkF m 177 #[.val (.int x0), .val (.int x1), .val (.int x2), .val (.int x3), .val (.int (1 : Int32)), .val (.int l1), .val (.int l2), .val (.int (1 : Int32)), .val (.int tt), .val (.int s1), .val (.int (0 : Int32)), .val (.ref ob24), .val (.ref ob28), .val (.int (1 : Int32)), .unset, .unset] []) _ _ _
      refine own_to (fun t k => XS.iconst X30.here hx rfl (hb hby at_177) k) ?_
      show own_Out p e below _ T30 (mkF m 178 #[.val (.int x0), .val (.int x1), .val (.int x2), .val (.int x3), .val (.int (1 : Int32)), .val (.int l1), .val (.int l2), .val (.int (1 : Int32)), .val (.int tt), .val (.int s1), .val (.int (0 : Int32)), .val (.ref ob24), .val (.ref ob28), .val (.int (1 : Int32)), .unset, .unset] [(.int (1 : Int32))]) _ _ _
      refine own_to (fun t k => XS.goto X30.here hx rfl (pc0 := 178) (pc' := 182) rfl (hb hby at_178) (by decide) (by decide) k) ?_
      show own_Out p e below _ T30 (mkF m 182 #[.val (.int x0), .val (.int x1), .val (.int x2), .val (.int x3), .val (.int (1 : Int32)), .val (.int l1), .val (.int l2), .val (.int (1 : Int32)), .val (.int tt), .val (.int s1), .val (.int (0 : Int32)), .val (.ref ob24), .val (.ref ob28), .val (.int (1 : Int32)), .unset, .unset] [(.int (1 : Int32))]) _ _ _
      refine own_to (fun t k => XS.istore X30.here hx rfl (hb hby at_182) rfl (l' := #[.val (.int x0), .val (.int x1), .val (.int x2), .val (.int x3), .val (.int (1 : Int32)), .val (.int l1), .val (.int l2), .val (.int (1 : Int32)), .val (.int tt), .val (.int s1), .val (.int (0 : Int32)), .val (.ref ob24), .val (.ref ob28), .val (.int (1 : Int32)), .val (.int (1 : Int32)), .unset]) rfl k) ?_
      show own_Out p e below _ T30 (mkF m 184 #[.val (.int x0), .val (.int x1), .val (.int x2), .val (.int x3), .val (.int (1 : Int32)), .val (.int l1), .val (.int l2), .val (.int (1 : Int32)), .val (.int tt), .val (.int s1), .val (.int (0 : Int32)), .val (.ref ob24), .val (.ref ob28), .val (.int (1 : Int32)), .val (.int (1 : Int32)), .unset] []) _ _ _
      refine own_to (fun t k => XS.iload X30.here hx rfl (hb hby at_184) rfl k) ?_
      show own_Out p e below _ T30 (mkF m 186 #[.val (.int x0), .val (.int x1), .val (.int x2), .val (.int x3), .val (.int (1 : Int32)), .val (.int l1), .val (.int l2), .val (.int (1 : Int32)), .val (.int tt), .val (.int s1), .val (.int (0 : Int32)), .val (.ref ob24), .val (.ref ob28), .val (.int (1 : Int32)), .val (.int (1 : Int32)), .unset] [(.int (1 : Int32))]) _ _ _
      have hc186 : ¬ ((1 : Int32) = (0 : Int32)) := by decide
      refine own_to (fun t k => XS.ifNo X30.here hx rfl (hb hby at_186) rfl ((if0 _ _).trans (feq hc186).1) k) ?_
      show own_Out p e below _ T30 (mkF m 189 #[.val (.int x0), .val (.int x1), .val (.int x2), .val (.int x3), .val (.int (1 : Int32)), .val (.int l1), .val (.int l2), .val (.int (1 : Int32)), .val (.int tt), .val (.int s1), .val (.int (0 : Int32)), .val (.ref ob24), .val (.ref ob28), .val (.int (1 : Int32)), .val (.int (1 : Int32)), .unset] []) _ _ _
      refine own_to (fun t k => XS.aload X30.here hx rfl (hb hby at_189) rfl rfl k) ?_
      show own_Out p e below _ T30 (mkF m 191 #[.val (.int x0), .val (.int x1), .val (.int x2), .val (.int x3), .val (.int (1 : Int32)), .val (.int l1), .val (.int l2), .val (.int (1 : Int32)), .val (.int tt), .val (.int s1), .val (.int (0 : Int32)), .val (.ref ob24), .val (.ref ob28), .val (.int (1 : Int32)), .val (.int (1 : Int32)), .unset] [(.ref ob28)]) _ _ _
      refine own_callV X30 hx hZ hown (a := ob28) (argsL := []) (rest := []) (hw _ (List.mem_of_getElem? (i := 23) rfl)) (hw _ (List.mem_of_getElem? (i := 24) rfl)) (hw _ (List.mem_of_getElem? (i := 26) rfl)) (hw _ (List.mem_of_getElem? (i := 25) rfl)) (hw _ (List.mem_of_getElem? (i := 7) rfl)) (hw _ (List.mem_of_getElem? (i := 27) rfl)) (by decide) (rm5 l Z a0 hw ob28 (0 : Int32) nn hh29 n0 Z0 F_ob28_position F_ob28_end) (by decide) (by decide) e30 E_ob28 rfl (by rw [hml]; rfl) (lenOf pd_1 rfl) rfl (W := 0) (by show 2 * 0 + _ ≤ _; exact Nat.le_of_eq rfl) (hb hby at_191) (by decide) (by decide) fun v31 T31 hh31 L31 X31 e31 hQ31 => ?_
      obtain ⟨rfl, NL31, he31⟩ := hQ31
      replace e31 := e31.trans he31
      have N31 := Fr.app N30 NL31
      show own_Out p e below _ T31 (mkF m 194 #[.val (.int x0), .val (.int x1), .val (.int x2), .val (.int x3), .val (.int (1 : Int32)), .val (.int l1), .val (.int l2), .val (.int (1 : Int32)), .val (.int tt), .val (.int s1), .val (.int (0 : Int32)), .val (.ref ob24), .val (.ref ob28), .val (.int (1 : Int32)), .val (.int (1 : Int32)), .unset] [(.int (R5 ob28 (0 : Int32) nn))]) _ _ _
      refine own_to (fun t k => XS.iload X31.here hx rfl (hb hby at_194) rfl k) ?_
      show own_Out p e below _ T31 (mkF m 196 #[.val (.int x0), .val (.int x1), .val (.int x2), .val (.int x3), .val (.int (1 : Int32)), .val (.int l1), .val (.int l2), .val (.int (1 : Int32)), .val (.int tt), .val (.int s1), .val (.int (0 : Int32)), .val (.ref ob24), .val (.ref ob28), .val (.int (1 : Int32)), .val (.int (1 : Int32)), .unset] [(.int (1 : Int32)), (.int (R5 ob28 (0 : Int32) nn))]) _ _ _
      have hc196 : (R5 ob28 (0 : Int32) nn) = (1 : Int32) := own_hn1 _ _ _ (by rw [own_lt]; omega)
      refine own_to (fun t k => XS.icmpNo X31.here hx rfl (hb hby at_196) rfl (teq hc196).2 k) ?_
      show own_Out p e below _ T31 (mkF m 199 #[.val (.int x0), .val (.int x1), .val (.int x2), .val (.int x3), .val (.int (1 : Int32)), .val (.int l1), .val (.int l2), .val (.int (1 : Int32)), .val (.int tt), .val (.int s1), .val (.int (0 : Int32)), .val (.ref ob24), .val (.ref ob28), .val (.int (1 : Int32)), .val (.int (1 : Int32)), .unset] []) _ _ _
      refine own_to (fun t k => XS.iconst X31.here hx rfl (hb hby at_199) k) ?_
      show own_Out p e below _ T31 (mkF m 200 #[.val (.int x0), .val (.int x1), .val (.int x2), .val (.int x3), .val (.int (1 : Int32)), .val (.int l1), .val (.int l2), .val (.int (1 : Int32)), .val (.int tt), .val (.int s1), .val (.int (0 : Int32)), .val (.ref ob24), .val (.ref ob28), .val (.int (1 : Int32)), .val (.int (1 : Int32)), .unset] [(.int (1 : Int32))]) _ _ _
      refine own_to (fun t k => XS.goto X31.here hx rfl (pc0 := 200) (pc' := 204) rfl (hb hby at_200) (by decide) (by decide) k) ?_
      show own_Out p e below _ T31 (mkF m 204 #[.val (.int x0), .val (.int x1), .val (.int x2), .val (.int x3), .val (.int (1 : Int32)), .val (.int l1), .val (.int l2), .val (.int (1 : Int32)), .val (.int tt), .val (.int s1), .val (.int (0 : Int32)), .val (.ref ob24), .val (.ref ob28), .val (.int (1 : Int32)), .val (.int (1 : Int32)), .unset] [(.int (1 : Int32))]) _ _ _
      refine own_to (fun t k => XS.istore X31.here hx rfl (hb hby at_204) rfl (l' := #[.val (.int x0), .val (.int x1), .val (.int x2), .val (.int x3), .val (.int (1 : Int32)), .val (.int l1), .val (.int l2), .val (.int (1 : Int32)), .val (.int tt), .val (.int s1), .val (.int (0 : Int32)), .val (.ref ob24), .val (.ref ob28), .val (.int (1 : Int32)), .val (.int (1 : Int32)), .unset]) rfl k) ?_
      show own_Out p e below _ T31 (mkF m 206 #[.val (.int x0), .val (.int x1), .val (.int x2), .val (.int x3), .val (.int (1 : Int32)), .val (.int l1), .val (.int l2), .val (.int (1 : Int32)), .val (.int tt), .val (.int s1), .val (.int (0 : Int32)), .val (.ref ob24), .val (.ref ob28), .val (.int (1 : Int32)), .val (.int (1 : Int32)), .unset] []) _ _ _
      refine own_to (fun t k => XS.iload X31.here hx rfl (hb hby at_206) rfl k) ?_
      show own_Out p e below _ T31 (mkF m 208 #[.val (.int x0), .val (.int x1), .val (.int x2), .val (.int x3), .val (.int (1 : Int32)), .val (.int l1), .val (.int l2), .val (.int (1 : Int32)), .val (.int tt), .val (.int s1), .val (.int (0 : Int32)), .val (.ref ob24), .val (.ref ob28), .val (.int (1 : Int32)), .val (.int (1 : Int32)), .unset] [(.int (1 : Int32))]) _ _ _
      refine own_to (fun t k => XS.iconst X31.here hx rfl (hb hby at_208) k) ?_
      show own_Out p e below _ T31 (mkF m 209 #[.val (.int x0), .val (.int x1), .val (.int x2), .val (.int x3), .val (.int (1 : Int32)), .val (.int l1), .val (.int l2), .val (.int (1 : Int32)), .val (.int tt), .val (.int s1), .val (.int (0 : Int32)), .val (.ref ob24), .val (.ref ob28), .val (.int (1 : Int32)), .val (.int (1 : Int32)), .unset] [(.int (1 : Int32)), (.int (1 : Int32))]) _ _ _
      have hc209 : ¬ ((1 : Int32) < (1 : Int32)) := by decide
      refine own_to (fun t k => XS.icmpNo X31.here hx rfl (hb hby at_209) rfl (flt hc209).1 k) ?_
      show own_Out p e below _ T31 (mkF m 212 #[.val (.int x0), .val (.int x1), .val (.int x2), .val (.int x3), .val (.int (1 : Int32)), .val (.int l1), .val (.int l2), .val (.int (1 : Int32)), .val (.int tt), .val (.int s1), .val (.int (0 : Int32)), .val (.ref ob24), .val (.ref ob28), .val (.int (1 : Int32)), .val (.int (1 : Int32)), .unset] []) _ _ _
      refine own_to (fun t k => XS.aload X31.here hx rfl (hb hby at_212) rfl rfl k) ?_
      show own_Out p e below _ T31 (mkF m 214 #[.val (.int x0), .val (.int x1), .val (.int x2), .val (.int x3), .val (.int (1 : Int32)), .val (.int l1), .val (.int l2), .val (.int (1 : Int32)), .val (.int tt), .val (.int s1), .val (.int (0 : Int32)), .val (.ref ob24), .val (.ref ob28), .val (.int (1 : Int32)), .val (.int (1 : Int32)), .unset] [(.ref ob28)]) _ _ _
      refine own_callVW X31 hx hZ hown hS hk (a := ob28) (argsL := []) (rest := []) (hw _ (List.mem_of_getElem? (i := 28) rfl)) (hw _ (List.mem_of_getElem? (i := 29) rfl)) (hw _ (List.mem_of_getElem? (i := 31) rfl)) (hw _ (List.mem_of_getElem? (i := 30) rfl)) (hw _ (List.mem_of_getElem? (i := 7) rfl)) (hw _ (List.mem_of_getElem? (i := 32) rfl)) (by decide) (rm6 l Z a0 hw ob28 (0 : Int32) nn ob24 (nn.toNatClampNeg) (own_upd (own_upd (own_upd (fun _ => 0) ((0 : Int32).toNatClampNeg) (nar .byte (tt.toInt8.toInt32))) ((1 : Int32).toNatClampNeg) (nar .byte (l1.toInt8.toInt32))) ((s1 + (0 : Int32)).toNatClampNeg) (nar .byte (tt.toInt8.toInt32))) (tt &&& (255 : Int32)) l1 hh29 n0 Z0 E_ob28 F_ob28_bytes F_ob28_position F_ob28_end A_ob24 g_ob28 ne_ob24_ob28 (by rw [own_lt]; omega) (⟨own_ge (by omega), (by simp only [own_nn] <;> omega)⟩) ((congrArg (fun z => z &&& (255 : Int32)) ((own_miss (by simp only [own_nn] <;> omega)).trans ((own_miss (by simp only [own_nn] <;> omega)).trans (own_hit (by simp only [own_nn] <;> omega))))).trans (own_by tt)).symm (by rw [own_lt]; omega) (⟨own_ge (by omega), (by simp only [own_nn] <;> omega)⟩) (((congrArg (fun z => z &&& (255 : Int32)) ((own_miss (by simp only [own_nn] <;> omega)).trans (own_hit (by simp only [own_nn] <;> omega)))).trans (own_by l1)).trans (own_l255 l1 b_l1)).symm htt (own_l128 l1 b_l1) (own_wide _ _ (by have q := own_sb nn (((0 : Int32) + (1 : Int32)) + (1 : Int32)) (by omega) (by omega); omega))) (by decide) (by decide) e31 E_ob28 rfl (by rw [hml]; rfl) (lenOf pd_6 rfl) rfl (W := 0) (by show 2 * 0 + _ ≤ _; exact Nat.le_of_eq rfl) (hb hby at_214) (by decide) (by decide) fun v32 T32 hh32 L32 X32 e32 hQ32 hZ hown hS => ?_
      obtain ⟨NL32, KK32, ob32el, rfl, szc_ob32el, P32_0, P32_1, P32_2, P32_3, P32_4, P32_5, P32_6, P32_7, P32_8⟩ := hQ32
      have ne_ob24_ob32el : ob24 ≠ ob32el := Nat.ne_of_lt (Nat.lt_of_lt_of_le A_ob24.lt szc_ob32el)
      have ne_ob32el_ob24 := Ne.symm ne_ob24_ob32el
      have ne_ob28_ob32el : ob28 ≠ ob32el := Nat.ne_of_lt (Nat.lt_of_lt_of_le E_ob28.lt szc_ob32el)
      have ne_ob32el_ob28 := Ne.symm ne_ob28_ob32el
      have g_ob32el : n0 ≤ ob32el := Nat.le_trans Z0 szc_ob32el
      have A_ob24 := A_ob24.keep KK32 (by simp [ne_ob24_ob28])
      have E_ob28 := E_ob28.keep KK32
      have F_ob28_bytes := P32_0
      have F_ob28_position := P32_1
      have F_ob28_end := P32_2
      have E_ob32el := P32_3
      have F_ob32el_bytes := P32_4
      have F_ob32el_tag := P32_5
      have F_ob32el_start := P32_6
      have F_ob32el_contents := P32_7
      have F_ob32el_end := P32_8
      have Z0 := Nat.le_trans Z0 KK32.1
      have hk := Nat.le_refl hh32.size
      have N32 := Fr.app N31 NL32
      show own_Out p e below _ T32 (mkF m 217 #[.val (.int x0), .val (.int x1), .val (.int x2), .val (.int x3), .val (.int (1 : Int32)), .val (.int l1), .val (.int l2), .val (.int (1 : Int32)), .val (.int tt), .val (.int s1), .val (.int (0 : Int32)), .val (.ref ob24), .val (.ref ob28), .val (.int (1 : Int32)), .val (.int (1 : Int32)), .unset] [(.ref ob32el)]) _ _ _
      have h_p1 : ((((0 : Int32) + (1 : Int32)) + (1 : Int32)) + ((l1.toInt64).toInt32)) = s1 := by rw [own_bk]; apply Int32.toInt_inj.mp; rw [own_ad _ _ (by omega) (by omega)]; omega
      rw [h_p1] at F_ob28_position
      rw [h_p1] at F_ob32el_end
      refine own_to (fun t k => XS.astore X32.here hx rfl (hb hby at_217) rfl rfl (l' := #[.val (.int x0), .val (.int x1), .val (.int x2), .val (.int x3), .val (.int (1 : Int32)), .val (.int l1), .val (.int l2), .val (.int (1 : Int32)), .val (.int tt), .val (.int s1), .val (.int (0 : Int32)), .val (.ref ob24), .val (.ref ob28), .val (.int (1 : Int32)), .val (.int (1 : Int32)), .val (.ref ob32el)]) rfl k) ?_
      show own_Out p e below _ T32 (mkF m 219 #[.val (.int x0), .val (.int x1), .val (.int x2), .val (.int x3), .val (.int (1 : Int32)), .val (.int l1), .val (.int l2), .val (.int (1 : Int32)), .val (.int tt), .val (.int s1), .val (.int (0 : Int32)), .val (.ref ob24), .val (.ref ob28), .val (.int (1 : Int32)), .val (.int (1 : Int32)), .val (.ref ob32el)] []) _ _ _
      refine own_to (fun t k => XS.iload X32.here hx rfl (hb hby at_219) rfl k) ?_
      show own_Out p e below _ T32 (mkF m 221 #[.val (.int x0), .val (.int x1), .val (.int x2), .val (.int x3), .val (.int (1 : Int32)), .val (.int l1), .val (.int l2), .val (.int (1 : Int32)), .val (.int tt), .val (.int s1), .val (.int (0 : Int32)), .val (.ref ob24), .val (.ref ob28), .val (.int (1 : Int32)), .val (.int (1 : Int32)), .val (.ref ob32el)] [(.int (1 : Int32))]) _ _ _
      have hc221 : ¬ ((1 : Int32) = (0 : Int32)) := by decide
      refine own_to (fun t k => XS.ifNo X32.here hx rfl (hb hby at_221) rfl ((if0 _ _).trans (feq hc221).1) k) ?_
      show own_Out p e below _ T32 (mkF m 224 #[.val (.int x0), .val (.int x1), .val (.int x2), .val (.int x3), .val (.int (1 : Int32)), .val (.int l1), .val (.int l2), .val (.int (1 : Int32)), .val (.int tt), .val (.int s1), .val (.int (0 : Int32)), .val (.ref ob24), .val (.ref ob28), .val (.int (1 : Int32)), .val (.int (1 : Int32)), .val (.ref ob32el)] []) _ _ _
      refine own_to (fun t k => XS.aload X32.here hx rfl (hb hby at_224) rfl rfl k) ?_
      show own_Out p e below _ T32 (mkF m 226 #[.val (.int x0), .val (.int x1), .val (.int x2), .val (.int x3), .val (.int (1 : Int32)), .val (.int l1), .val (.int l2), .val (.int (1 : Int32)), .val (.int tt), .val (.int s1), .val (.int (0 : Int32)), .val (.ref ob24), .val (.ref ob28), .val (.int (1 : Int32)), .val (.int (1 : Int32)), .val (.ref ob32el)] [(.ref ob28)]) _ _ _
      refine own_callV X32 hx hZ hown (a := ob28) (argsL := []) (rest := []) (hw _ (List.mem_of_getElem? (i := 23) rfl)) (hw _ (List.mem_of_getElem? (i := 24) rfl)) (hw _ (List.mem_of_getElem? (i := 26) rfl)) (hw _ (List.mem_of_getElem? (i := 25) rfl)) (hw _ (List.mem_of_getElem? (i := 7) rfl)) (hw _ (List.mem_of_getElem? (i := 27) rfl)) (by decide) (rm5 l Z a0 hw ob28 s1 nn hh32 n0 Z0 F_ob28_position F_ob28_end) (by decide) (by decide) e32 E_ob28 rfl (by rw [hml]; rfl) (lenOf pd_1 rfl) rfl (W := 0) (by show 2 * 0 + _ ≤ _; exact Nat.le_of_eq rfl) (hb hby at_226) (by decide) (by decide) fun v33 T33 hh33 L33 X33 e33 hQ33 => ?_
      obtain ⟨rfl, NL33, he33⟩ := hQ33
      replace e33 := e33.trans he33
      have N33 := Fr.app N32 NL33
      show own_Out p e below _ T33 (mkF m 229 #[.val (.int x0), .val (.int x1), .val (.int x2), .val (.int x3), .val (.int (1 : Int32)), .val (.int l1), .val (.int l2), .val (.int (1 : Int32)), .val (.int tt), .val (.int s1), .val (.int (0 : Int32)), .val (.ref ob24), .val (.ref ob28), .val (.int (1 : Int32)), .val (.int (1 : Int32)), .val (.ref ob32el)] [(.int (R5 ob28 s1 nn))]) _ _ _
      refine own_to (fun t k => XS.iload X33.here hx rfl (hb hby at_229) rfl k) ?_
      show own_Out p e below _ T33 (mkF m 231 #[.val (.int x0), .val (.int x1), .val (.int x2), .val (.int x3), .val (.int (1 : Int32)), .val (.int l1), .val (.int l2), .val (.int (1 : Int32)), .val (.int tt), .val (.int s1), .val (.int (0 : Int32)), .val (.ref ob24), .val (.ref ob28), .val (.int (1 : Int32)), .val (.int (1 : Int32)), .val (.ref ob32el)] [(.int (1 : Int32)), (.int (R5 ob28 s1 nn))]) _ _ _
      refine own_to (fun t k => XS.iconst X33.here hx rfl (hb hby at_231) k) ?_
      show own_Out p e below _ T33 (mkF m 232 #[.val (.int x0), .val (.int x1), .val (.int x2), .val (.int x3), .val (.int (1 : Int32)), .val (.int l1), .val (.int l2), .val (.int (1 : Int32)), .val (.int tt), .val (.int s1), .val (.int (0 : Int32)), .val (.ref ob24), .val (.ref ob28), .val (.int (1 : Int32)), .val (.int (1 : Int32)), .val (.ref ob32el)] [(.int (2 : Int32)), (.int (1 : Int32)), (.int (R5 ob28 s1 nn))]) _ _ _
      have hc232 : (1 : Int32) < (2 : Int32) := by decide
      refine own_to (fun t k => XS.icmpNo X33.here hx rfl (hb hby at_232) rfl (tlt hc232).2.1 k) ?_
      show own_Out p e below _ T33 (mkF m 235 #[.val (.int x0), .val (.int x1), .val (.int x2), .val (.int x3), .val (.int (1 : Int32)), .val (.int l1), .val (.int l2), .val (.int (1 : Int32)), .val (.int tt), .val (.int s1), .val (.int (0 : Int32)), .val (.ref ob24), .val (.ref ob28), .val (.int (1 : Int32)), .val (.int (1 : Int32)), .val (.ref ob32el)] [(.int (R5 ob28 s1 nn))]) _ _ _
      refine own_to (fun t k => XS.iload X33.here hx rfl (hb hby at_235) rfl k) ?_
      show own_Out p e below _ T33 (mkF m 237 #[.val (.int x0), .val (.int x1), .val (.int x2), .val (.int x3), .val (.int (1 : Int32)), .val (.int l1), .val (.int l2), .val (.int (1 : Int32)), .val (.int tt), .val (.int s1), .val (.int (0 : Int32)), .val (.ref ob24), .val (.ref ob28), .val (.int (1 : Int32)), .val (.int (1 : Int32)), .val (.ref ob32el)] [(.int (1 : Int32)), (.int (R5 ob28 s1 nn))]) _ _ _
      refine own_to (fun t k => XS.iconst X33.here hx rfl (hb hby at_237) k) ?_
      show own_Out p e below _ T33 (mkF m 238 #[.val (.int x0), .val (.int x1), .val (.int x2), .val (.int x3), .val (.int (1 : Int32)), .val (.int l1), .val (.int l2), .val (.int (1 : Int32)), .val (.int tt), .val (.int s1), .val (.int (0 : Int32)), .val (.ref ob24), .val (.ref ob28), .val (.int (1 : Int32)), .val (.int (1 : Int32)), .val (.ref ob32el)] [(.int (1 : Int32)), (.int (1 : Int32)), (.int (R5 ob28 s1 nn))]) _ _ _
      have hc238 : (1 : Int32) = (1 : Int32) := by decide
      refine own_to (fun t k => XS.icmpNo X33.here hx rfl (hb hby at_238) rfl (teq hc238).2 k) ?_
      show own_Out p e below _ T33 (mkF m 241 #[.val (.int x0), .val (.int x1), .val (.int x2), .val (.int x3), .val (.int (1 : Int32)), .val (.int l1), .val (.int l2), .val (.int (1 : Int32)), .val (.int tt), .val (.int s1), .val (.int (0 : Int32)), .val (.ref ob24), .val (.ref ob28), .val (.int (1 : Int32)), .val (.int (1 : Int32)), .val (.ref ob32el)] [(.int (R5 ob28 s1 nn))]) _ _ _
      refine own_to (fun t k => XS.iconst X33.here hx rfl (hb hby at_241) k) ?_
      show own_Out p e below _ T33 (mkF m 242 #[.val (.int x0), .val (.int x1), .val (.int x2), .val (.int x3), .val (.int (1 : Int32)), .val (.int l1), .val (.int l2), .val (.int (1 : Int32)), .val (.int tt), .val (.int s1), .val (.int (0 : Int32)), .val (.ref ob24), .val (.ref ob28), .val (.int (1 : Int32)), .val (.int (1 : Int32)), .val (.ref ob32el)] [(.int (1 : Int32)), (.int (R5 ob28 s1 nn))]) _ _ _
      refine own_to (fun t k => XS.goto X33.here hx rfl (pc0 := 242) (pc' := 246) rfl (hb hby at_242) (by decide) (by decide) k) ?_
      show own_Out p e below _ T33 (mkF m 246 #[.val (.int x0), .val (.int x1), .val (.int x2), .val (.int x3), .val (.int (1 : Int32)), .val (.int l1), .val (.int l2), .val (.int (1 : Int32)), .val (.int tt), .val (.int s1), .val (.int (0 : Int32)), .val (.ref ob24), .val (.ref ob28), .val (.int (1 : Int32)), .val (.int (1 : Int32)), .val (.ref ob32el)] [(.int (1 : Int32)), (.int (R5 ob28 s1 nn))]) _ _ _
      have hc246 : (R5 ob28 s1 nn) = (1 : Int32) := own_hn1 _ _ _ (by rw [own_lt]; omega)
      refine own_to (fun t k => XS.icmpNo X33.here hx rfl (hb hby at_246) rfl (teq hc246).2 k) ?_
      show own_Out p e below _ T33 (mkF m 249 #[.val (.int x0), .val (.int x1), .val (.int x2), .val (.int x3), .val (.int (1 : Int32)), .val (.int l1), .val (.int l2), .val (.int (1 : Int32)), .val (.int tt), .val (.int s1), .val (.int (0 : Int32)), .val (.ref ob24), .val (.ref ob28), .val (.int (1 : Int32)), .val (.int (1 : Int32)), .val (.ref ob32el)] []) _ _ _
      refine own_to (fun t k => XS.iconst X33.here hx rfl (hb hby at_249) k) ?_
      show own_Out p e below _ T33 (mkF m 250 #[.val (.int x0), .val (.int x1), .val (.int x2), .val (.int x3), .val (.int (1 : Int32)), .val (.int l1), .val (.int l2), .val (.int (1 : Int32)), .val (.int tt), .val (.int s1), .val (.int (0 : Int32)), .val (.ref ob24), .val (.ref ob28), .val (.int (1 : Int32)), .val (.int (1 : Int32)), .val (.ref ob32el)] [(.int (1 : Int32))]) _ _ _
      refine own_to (fun t k => XS.goto X33.here hx rfl (pc0 := 250) (pc' := 254) rfl (hb hby at_250) (by decide) (by decide) k) ?_
      show own_Out p e below _ T33 (mkF m 254 #[.val (.int x0), .val (.int x1), .val (.int x2), .val (.int x3), .val (.int (1 : Int32)), .val (.int l1), .val (.int l2), .val (.int (1 : Int32)), .val (.int tt), .val (.int s1), .val (.int (0 : Int32)), .val (.ref ob24), .val (.ref ob28), .val (.int (1 : Int32)), .val (.int (1 : Int32)), .val (.ref ob32el)] [(.int (1 : Int32))]) _ _ _
      refine own_to (fun t k => XS.istore X33.here hx rfl (hb hby at_254) rfl (l' := #[.val (.int x0), .val (.int x1), .val (.int x2), .val (.int x3), .val (.int (1 : Int32)), .val (.int l1), .val (.int l2), .val (.int (1 : Int32)), .val (.int tt), .val (.int s1), .val (.int (0 : Int32)), .val (.ref ob24), .val (.ref ob28), .val (.int (1 : Int32)), .val (.int (1 : Int32)), .val (.ref ob32el)]) rfl k) ?_
      show own_Out p e below _ T33 (mkF m 256 #[.val (.int x0), .val (.int x1), .val (.int x2), .val (.int x3), .val (.int (1 : Int32)), .val (.int l1), .val (.int l2), .val (.int (1 : Int32)), .val (.int tt), .val (.int s1), .val (.int (0 : Int32)), .val (.ref ob24), .val (.ref ob28), .val (.int (1 : Int32)), .val (.int (1 : Int32)), .val (.ref ob32el)] []) _ _ _
      refine own_to (fun t k => XS.iload X33.here hx rfl (hb hby at_256) rfl k) ?_
      show own_Out p e below _ T33 (mkF m 258 #[.val (.int x0), .val (.int x1), .val (.int x2), .val (.int x3), .val (.int (1 : Int32)), .val (.int l1), .val (.int l2), .val (.int (1 : Int32)), .val (.int tt), .val (.int s1), .val (.int (0 : Int32)), .val (.ref ob24), .val (.ref ob28), .val (.int (1 : Int32)), .val (.int (1 : Int32)), .val (.ref ob32el)] [(.int (1 : Int32))]) _ _ _
      have hc258 : ¬ ((1 : Int32) = (0 : Int32)) := by decide
      refine own_to (fun t k => XS.ifNo X33.here hx rfl (hb hby at_258) rfl ((if0 _ _).trans (feq hc258).1) k) ?_
      show own_Out p e below _ T33 (mkF m 261 #[.val (.int x0), .val (.int x1), .val (.int x2), .val (.int x3), .val (.int (1 : Int32)), .val (.int l1), .val (.int l2), .val (.int (1 : Int32)), .val (.int tt), .val (.int s1), .val (.int (0 : Int32)), .val (.ref ob24), .val (.ref ob28), .val (.int (1 : Int32)), .val (.int (1 : Int32)), .val (.ref ob32el)] []) _ _ _
      refine own_to (fun t k => XS.aload X33.here hx rfl (hb hby at_261) rfl rfl k) ?_
      show own_Out p e below _ T33 (mkF m 263 #[.val (.int x0), .val (.int x1), .val (.int x2), .val (.int x3), .val (.int (1 : Int32)), .val (.int l1), .val (.int l2), .val (.int (1 : Int32)), .val (.int tt), .val (.int s1), .val (.int (0 : Int32)), .val (.ref ob24), .val (.ref ob28), .val (.int (1 : Int32)), .val (.int (1 : Int32)), .val (.ref ob32el)] [(.ref ob32el)]) _ _ _
      refine own_callV X33 hx hZ hown (a := ob32el) (argsL := []) (rest := []) (hw _ (List.mem_of_getElem? (i := 64) rfl)) (hw _ (List.mem_of_getElem? (i := 65) rfl)) (hw _ (List.mem_of_getElem? (i := 67) rfl)) (hw _ (List.mem_of_getElem? (i := 66) rfl)) (hw _ (List.mem_of_getElem? (i := 49) rfl)) (hw _ (List.mem_of_getElem? (i := 68) rfl)) (by decide) (rm9 l Z a0 hw ob32el ob24 (((0 : Int32) + (1 : Int32)) + (1 : Int32)) s1 hh32 n0 Z0 F_ob32el_bytes F_ob32el_contents F_ob32el_end) (by decide) (by decide) e33 E_ob32el rfl (by rw [hml]; rfl) (lenOf pd_7 rfl) rfl (W := 0) (by show 2 * 0 + _ ≤ _; exact Nat.le_of_eq rfl) (hb hby at_263) (by decide) (by decide) fun v34 T34 hh34 L34 X34 e34 hQ34 => ?_
      obtain ⟨NL34, KK34, ob34rd, rfl, szc_ob34rd, P34_0, P34_1, P34_2, P34_3⟩ := hQ34
      have ne_ob24_ob34rd : ob24 ≠ ob34rd := Nat.ne_of_lt (Nat.lt_of_lt_of_le A_ob24.lt szc_ob34rd)
      have ne_ob34rd_ob24 := Ne.symm ne_ob24_ob34rd
      have ne_ob28_ob34rd : ob28 ≠ ob34rd := Nat.ne_of_lt (Nat.lt_of_lt_of_le E_ob28.lt szc_ob34rd)
      have ne_ob34rd_ob28 := Ne.symm ne_ob28_ob34rd
      have ne_ob32el_ob34rd : ob32el ≠ ob34rd := Nat.ne_of_lt (Nat.lt_of_lt_of_le E_ob32el.lt szc_ob34rd)
      have ne_ob34rd_ob32el := Ne.symm ne_ob32el_ob34rd
      have g_ob34rd : n0 ≤ ob34rd := Nat.le_trans Z0 szc_ob34rd
      have A_ob24 := A_ob24.keep KK34 (by simp [])
      have E_ob28 := E_ob28.keep KK34
      have F_ob28_bytes := F_ob28_bytes.keep KK34 (by simp [])
      have F_ob28_position := F_ob28_position.keep KK34 (by simp [])
      have F_ob28_end := F_ob28_end.keep KK34 (by simp [])
      have E_ob32el := E_ob32el.keep KK34
      have F_ob32el_bytes := F_ob32el_bytes.keep KK34 (by simp [])
      have F_ob32el_tag := F_ob32el_tag.keep KK34 (by simp [])
      have F_ob32el_start := F_ob32el_start.keep KK34 (by simp [])
      have F_ob32el_contents := F_ob32el_contents.keep KK34 (by simp [])
      have F_ob32el_end := F_ob32el_end.keep KK34 (by simp [])
      have E_ob34rd := P34_0
      have F_ob34rd_bytes := P34_1
      have F_ob34rd_position := P34_2
      have F_ob34rd_end := P34_3
      have Z0 := Nat.le_trans Z0 KK34.1
      have hk := Nat.le_trans hk KK34.1
      have N34 := Fr.app N33 NL34
      show own_Out p e below _ T34 (mkF m 266 #[.val (.int x0), .val (.int x1), .val (.int x2), .val (.int x3), .val (.int (1 : Int32)), .val (.int l1), .val (.int l2), .val (.int (1 : Int32)), .val (.int tt), .val (.int s1), .val (.int (0 : Int32)), .val (.ref ob24), .val (.ref ob28), .val (.int (1 : Int32)), .val (.int (1 : Int32)), .val (.ref ob32el)] [(.ref ob34rd)]) _ _ _
      refine own_callV X34 hx hZ hown (a := ob34rd) (argsL := []) (rest := []) (hw _ (List.mem_of_getElem? (i := 23) rfl)) (hw _ (List.mem_of_getElem? (i := 24) rfl)) (hw _ (List.mem_of_getElem? (i := 26) rfl)) (hw _ (List.mem_of_getElem? (i := 25) rfl)) (hw _ (List.mem_of_getElem? (i := 7) rfl)) (hw _ (List.mem_of_getElem? (i := 27) rfl)) (by decide) (rm5 l Z a0 hw ob34rd (((0 : Int32) + (1 : Int32)) + (1 : Int32)) s1 hh34 n0 Z0 F_ob34rd_position F_ob34rd_end) (by decide) (by decide) e34 E_ob34rd rfl (by rw [hml]; rfl) (lenOf pd_1 rfl) rfl (W := 0) (by show 2 * 0 + _ ≤ _; exact Nat.le_of_eq rfl) (hb hby at_266) (by decide) (by decide) fun v35 T35 hh35 L35 X35 e35 hQ35 => ?_
      obtain ⟨rfl, NL35, he35⟩ := hQ35
      replace e35 := e35.trans he35
      have N35 := Fr.app N34 NL35
      show own_Out p e below _ T35 (mkF m 269 #[.val (.int x0), .val (.int x1), .val (.int x2), .val (.int x3), .val (.int (1 : Int32)), .val (.int l1), .val (.int l2), .val (.int (1 : Int32)), .val (.int tt), .val (.int s1), .val (.int (0 : Int32)), .val (.ref ob24), .val (.ref ob28), .val (.int (1 : Int32)), .val (.int (1 : Int32)), .val (.ref ob32el)] [(.int (R5 ob34rd (((0 : Int32) + (1 : Int32)) + (1 : Int32)) s1))]) _ _ _
      refine own_to (fun t k => XS.iload X35.here hx rfl (hb hby at_269) rfl k) ?_
      show own_Out p e below _ T35 (mkF m 271 #[.val (.int x0), .val (.int x1), .val (.int x2), .val (.int x3), .val (.int (1 : Int32)), .val (.int l1), .val (.int l2), .val (.int (1 : Int32)), .val (.int tt), .val (.int s1), .val (.int (0 : Int32)), .val (.ref ob24), .val (.ref ob28), .val (.int (1 : Int32)), .val (.int (1 : Int32)), .val (.ref ob32el)] [(.int l1), (.int (R5 ob34rd (((0 : Int32) + (1 : Int32)) + (1 : Int32)) s1))]) _ _ _
      by_cases hc271 : (0 : Int32) < l1
      · refine own_to (fun t k => XS.ifNo X35.here hx rfl (hb hby at_271) rfl ((if0 _ _).trans (tlt hc271).2.2.2) k) ?_
        show own_Out p e below _ T35 (mkF m 274 #[.val (.int x0), .val (.int x1), .val (.int x2), .val (.int x3), .val (.int (1 : Int32)), .val (.int l1), .val (.int l2), .val (.int (1 : Int32)), .val (.int tt), .val (.int s1), .val (.int (0 : Int32)), .val (.ref ob24), .val (.ref ob28), .val (.int (1 : Int32)), .val (.int (1 : Int32)), .val (.ref ob32el)] [(.int (R5 ob34rd (((0 : Int32) + (1 : Int32)) + (1 : Int32)) s1))]) _ _ _
        refine own_to (fun t k => XS.iconst X35.here hx rfl (hb hby at_274) k) ?_
        show own_Out p e below _ T35 (mkF m 275 #[.val (.int x0), .val (.int x1), .val (.int x2), .val (.int x3), .val (.int (1 : Int32)), .val (.int l1), .val (.int l2), .val (.int (1 : Int32)), .val (.int tt), .val (.int s1), .val (.int (0 : Int32)), .val (.ref ob24), .val (.ref ob28), .val (.int (1 : Int32)), .val (.int (1 : Int32)), .val (.ref ob32el)] [(.int (1 : Int32)), (.int (R5 ob34rd (((0 : Int32) + (1 : Int32)) + (1 : Int32)) s1))]) _ _ _
        refine own_to (fun t k => XS.goto X35.here hx rfl (pc0 := 275) (pc' := 279) rfl (hb hby at_275) (by decide) (by decide) k) ?_
        show own_Out p e below _ T35 (mkF m 279 #[.val (.int x0), .val (.int x1), .val (.int x2), .val (.int x3), .val (.int (1 : Int32)), .val (.int l1), .val (.int l2), .val (.int (1 : Int32)), .val (.int tt), .val (.int s1), .val (.int (0 : Int32)), .val (.ref ob24), .val (.ref ob28), .val (.int (1 : Int32)), .val (.int (1 : Int32)), .val (.ref ob32el)] [(.int (1 : Int32)), (.int (R5 ob34rd (((0 : Int32) + (1 : Int32)) + (1 : Int32)) s1))]) _ _ _
        have hc279 : (R5 ob34rd (((0 : Int32) + (1 : Int32)) + (1 : Int32)) s1) = (1 : Int32) := own_hn1 _ _ _ (by rw [own_lt] at hc271 ⊢; omega)
        refine own_to (fun t k => XS.icmpNo X35.here hx rfl (hb hby at_279) rfl (teq hc279).2 k) ?_
        show own_Out p e below _ T35 (mkF m 282 #[.val (.int x0), .val (.int x1), .val (.int x2), .val (.int x3), .val (.int (1 : Int32)), .val (.int l1), .val (.int l2), .val (.int (1 : Int32)), .val (.int tt), .val (.int s1), .val (.int (0 : Int32)), .val (.ref ob24), .val (.ref ob28), .val (.int (1 : Int32)), .val (.int (1 : Int32)), .val (.ref ob32el)] []) _ _ _
        refine own_to (fun t k => XS.iconst X35.here hx rfl (hb hby at_282) k) ?_
        show own_Out p e below _ T35 (mkF m 283 #[.val (.int x0), .val (.int x1), .val (.int x2), .val (.int x3), .val (.int (1 : Int32)), .val (.int l1), .val (.int l2), .val (.int (1 : Int32)), .val (.int tt), .val (.int s1), .val (.int (0 : Int32)), .val (.ref ob24), .val (.ref ob28), .val (.int (1 : Int32)), .val (.int (1 : Int32)), .val (.ref ob32el)] [(.int (1 : Int32))]) _ _ _
        refine own_to (fun t k => XS.goto X35.here hx rfl (pc0 := 283) (pc' := 287) rfl (hb hby at_283) (by decide) (by decide) k) ?_
        show own_Out p e below _ T35 (mkF m 287 #[.val (.int x0), .val (.int x1), .val (.int x2), .val (.int x3), .val (.int (1 : Int32)), .val (.int l1), .val (.int l2), .val (.int (1 : Int32)), .val (.int tt), .val (.int s1), .val (.int (0 : Int32)), .val (.ref ob24), .val (.ref ob28), .val (.int (1 : Int32)), .val (.int (1 : Int32)), .val (.ref ob32el)] [(.int (1 : Int32))]) _ _ _
        refine own_to (fun t k => XS.istore X35.here hx rfl (hb hby at_287) rfl (l' := #[.val (.int x0), .val (.int x1), .val (.int x2), .val (.int x3), .val (.int (1 : Int32)), .val (.int l1), .val (.int l2), .val (.int (1 : Int32)), .val (.int tt), .val (.int s1), .val (.int (0 : Int32)), .val (.ref ob24), .val (.ref ob28), .val (.int (1 : Int32)), .val (.int (1 : Int32)), .val (.ref ob32el)]) rfl k) ?_
        show own_Out p e below _ T35 (mkF m 289 #[.val (.int x0), .val (.int x1), .val (.int x2), .val (.int x3), .val (.int (1 : Int32)), .val (.int l1), .val (.int l2), .val (.int (1 : Int32)), .val (.int tt), .val (.int s1), .val (.int (0 : Int32)), .val (.ref ob24), .val (.ref ob28), .val (.int (1 : Int32)), .val (.int (1 : Int32)), .val (.ref ob32el)] []) _ _ _
        refine own_to (fun t k => XS.iload X35.here hx rfl (hb hby at_289) rfl k) ?_
        show own_Out p e below _ T35 (mkF m 291 #[.val (.int x0), .val (.int x1), .val (.int x2), .val (.int x3), .val (.int (1 : Int32)), .val (.int l1), .val (.int l2), .val (.int (1 : Int32)), .val (.int tt), .val (.int s1), .val (.int (0 : Int32)), .val (.ref ob24), .val (.ref ob28), .val (.int (1 : Int32)), .val (.int (1 : Int32)), .val (.ref ob32el)] [(.int (1 : Int32))]) _ _ _
        refine own_to (fun t k => XS.iconst X35.here hx rfl (hb hby at_291) k) ?_
        show own_Out p e below _ T35 (mkF m 292 #[.val (.int x0), .val (.int x1), .val (.int x2), .val (.int x3), .val (.int (1 : Int32)), .val (.int l1), .val (.int l2), .val (.int (1 : Int32)), .val (.int tt), .val (.int s1), .val (.int (0 : Int32)), .val (.ref ob24), .val (.ref ob28), .val (.int (1 : Int32)), .val (.int (1 : Int32)), .val (.ref ob32el)] [(.int (2 : Int32)), (.int (1 : Int32))]) _ _ _
        have hc292 : (1 : Int32) < (2 : Int32) := by decide
        refine own_to (fun t k => XS.icmpYes X35.here hx rfl (pc0 := 292) (pc' := 366) rfl (hb hby at_292) rfl (tlt hc292).1 (by decide) (by decide) k) ?_
        show own_Out p e below _ T35 (mkF m 366 #[.val (.int x0), .val (.int x1), .val (.int x2), .val (.int x3), .val (.int (1 : Int32)), .val (.int l1), .val (.int l2), .val (.int (1 : Int32)), .val (.int tt), .val (.int s1), .val (.int (0 : Int32)), .val (.ref ob24), .val (.ref ob28), .val (.int (1 : Int32)), .val (.int (1 : Int32)), .val (.ref ob32el)] []) _ _ _
        refine own_to (fun t k => XS.iload X35.here hx rfl (hb hby at_366) rfl k) ?_
        show own_Out p e below _ T35 (mkF m 368 #[.val (.int x0), .val (.int x1), .val (.int x2), .val (.int x3), .val (.int (1 : Int32)), .val (.int l1), .val (.int l2), .val (.int (1 : Int32)), .val (.int tt), .val (.int s1), .val (.int (0 : Int32)), .val (.ref ob24), .val (.ref ob28), .val (.int (1 : Int32)), .val (.int (1 : Int32)), .val (.ref ob32el)] [(.int (1 : Int32))]) _ _ _
        refine own_retVW X35 hS hk e35 hx hlk (w := .int (1 : Int32)) hret rfl (Or.inl ⟨rfl, by simp, _, rfl⟩) (hb hby at_368) (by decide) (by decide) ?_
        rw [e35]
        exact ⟨rfl, N35⟩
      · refine own_to (fun t k => XS.ifYes X35.here hx rfl (pc0 := 271) (pc' := 278) rfl (hb hby at_271) rfl ((if0 _ _).trans (flt hc271).2.2.2) (by decide) (by decide) k) ?_
        show own_Out p e below _ T35 (mkF m 278 #[.val (.int x0), .val (.int x1), .val (.int x2), .val (.int x3), .val (.int (1 : Int32)), .val (.int l1), .val (.int l2), .val (.int (1 : Int32)), .val (.int tt), .val (.int s1), .val (.int (0 : Int32)), .val (.ref ob24), .val (.ref ob28), .val (.int (1 : Int32)), .val (.int (1 : Int32)), .val (.ref ob32el)] [(.int (R5 ob34rd (((0 : Int32) + (1 : Int32)) + (1 : Int32)) s1))]) _ _ _
        refine own_to (fun t k => XS.iconst X35.here hx rfl (hb hby at_278) k) ?_
        show own_Out p e below _ T35 (mkF m 279 #[.val (.int x0), .val (.int x1), .val (.int x2), .val (.int x3), .val (.int (1 : Int32)), .val (.int l1), .val (.int l2), .val (.int (1 : Int32)), .val (.int tt), .val (.int s1), .val (.int (0 : Int32)), .val (.ref ob24), .val (.ref ob28), .val (.int (1 : Int32)), .val (.int (1 : Int32)), .val (.ref ob32el)] [(.int (0 : Int32)), (.int (R5 ob34rd (((0 : Int32) + (1 : Int32)) + (1 : Int32)) s1))]) _ _ _
        have hc279 : (R5 ob34rd (((0 : Int32) + (1 : Int32)) + (1 : Int32)) s1) = (0 : Int32) := own_hn0 _ _ _ (by rw [own_lt] at hc271 ⊢; omega)
        refine own_to (fun t k => XS.icmpNo X35.here hx rfl (hb hby at_279) rfl (teq hc279).2 k) ?_
        show own_Out p e below _ T35 (mkF m 282 #[.val (.int x0), .val (.int x1), .val (.int x2), .val (.int x3), .val (.int (1 : Int32)), .val (.int l1), .val (.int l2), .val (.int (1 : Int32)), .val (.int tt), .val (.int s1), .val (.int (0 : Int32)), .val (.ref ob24), .val (.ref ob28), .val (.int (1 : Int32)), .val (.int (1 : Int32)), .val (.ref ob32el)] []) _ _ _
        refine own_to (fun t k => XS.iconst X35.here hx rfl (hb hby at_282) k) ?_
        show own_Out p e below _ T35 (mkF m 283 #[.val (.int x0), .val (.int x1), .val (.int x2), .val (.int x3), .val (.int (1 : Int32)), .val (.int l1), .val (.int l2), .val (.int (1 : Int32)), .val (.int tt), .val (.int s1), .val (.int (0 : Int32)), .val (.ref ob24), .val (.ref ob28), .val (.int (1 : Int32)), .val (.int (1 : Int32)), .val (.ref ob32el)] [(.int (1 : Int32))]) _ _ _
        refine own_to (fun t k => XS.goto X35.here hx rfl (pc0 := 283) (pc' := 287) rfl (hb hby at_283) (by decide) (by decide) k) ?_
        show own_Out p e below _ T35 (mkF m 287 #[.val (.int x0), .val (.int x1), .val (.int x2), .val (.int x3), .val (.int (1 : Int32)), .val (.int l1), .val (.int l2), .val (.int (1 : Int32)), .val (.int tt), .val (.int s1), .val (.int (0 : Int32)), .val (.ref ob24), .val (.ref ob28), .val (.int (1 : Int32)), .val (.int (1 : Int32)), .val (.ref ob32el)] [(.int (1 : Int32))]) _ _ _
        refine own_to (fun t k => XS.istore X35.here hx rfl (hb hby at_287) rfl (l' := #[.val (.int x0), .val (.int x1), .val (.int x2), .val (.int x3), .val (.int (1 : Int32)), .val (.int l1), .val (.int l2), .val (.int (1 : Int32)), .val (.int tt), .val (.int s1), .val (.int (0 : Int32)), .val (.ref ob24), .val (.ref ob28), .val (.int (1 : Int32)), .val (.int (1 : Int32)), .val (.ref ob32el)]) rfl k) ?_
        show own_Out p e below _ T35 (mkF m 289 #[.val (.int x0), .val (.int x1), .val (.int x2), .val (.int x3), .val (.int (1 : Int32)), .val (.int l1), .val (.int l2), .val (.int (1 : Int32)), .val (.int tt), .val (.int s1), .val (.int (0 : Int32)), .val (.ref ob24), .val (.ref ob28), .val (.int (1 : Int32)), .val (.int (1 : Int32)), .val (.ref ob32el)] []) _ _ _
        refine own_to (fun t k => XS.iload X35.here hx rfl (hb hby at_289) rfl k) ?_
        show own_Out p e below _ T35 (mkF m 291 #[.val (.int x0), .val (.int x1), .val (.int x2), .val (.int x3), .val (.int (1 : Int32)), .val (.int l1), .val (.int l2), .val (.int (1 : Int32)), .val (.int tt), .val (.int s1), .val (.int (0 : Int32)), .val (.ref ob24), .val (.ref ob28), .val (.int (1 : Int32)), .val (.int (1 : Int32)), .val (.ref ob32el)] [(.int (1 : Int32))]) _ _ _
        refine own_to (fun t k => XS.iconst X35.here hx rfl (hb hby at_291) k) ?_
        show own_Out p e below _ T35 (mkF m 292 #[.val (.int x0), .val (.int x1), .val (.int x2), .val (.int x3), .val (.int (1 : Int32)), .val (.int l1), .val (.int l2), .val (.int (1 : Int32)), .val (.int tt), .val (.int s1), .val (.int (0 : Int32)), .val (.ref ob24), .val (.ref ob28), .val (.int (1 : Int32)), .val (.int (1 : Int32)), .val (.ref ob32el)] [(.int (2 : Int32)), (.int (1 : Int32))]) _ _ _
        have hc292 : (1 : Int32) < (2 : Int32) := by decide
        refine own_to (fun t k => XS.icmpYes X35.here hx rfl (pc0 := 292) (pc' := 366) rfl (hb hby at_292) rfl (tlt hc292).1 (by decide) (by decide) k) ?_
        show own_Out p e below _ T35 (mkF m 366 #[.val (.int x0), .val (.int x1), .val (.int x2), .val (.int x3), .val (.int (1 : Int32)), .val (.int l1), .val (.int l2), .val (.int (1 : Int32)), .val (.int tt), .val (.int s1), .val (.int (0 : Int32)), .val (.ref ob24), .val (.ref ob28), .val (.int (1 : Int32)), .val (.int (1 : Int32)), .val (.ref ob32el)] []) _ _ _
        refine own_to (fun t k => XS.iload X35.here hx rfl (hb hby at_366) rfl k) ?_
        show own_Out p e below _ T35 (mkF m 368 #[.val (.int x0), .val (.int x1), .val (.int x2), .val (.int x3), .val (.int (1 : Int32)), .val (.int l1), .val (.int l2), .val (.int (1 : Int32)), .val (.int tt), .val (.int s1), .val (.int (0 : Int32)), .val (.ref ob24), .val (.ref ob28), .val (.int (1 : Int32)), .val (.int (1 : Int32)), .val (.ref ob32el)] [(.int (1 : Int32))]) _ _ _
        refine own_retVW X35 hS hk e35 hx hlk (w := .int (1 : Int32)) hret rfl (Or.inl ⟨rfl, by simp, _, rfl⟩) (hb hby at_368) (by decide) (by decide) ?_
        rw [e35]
        exact ⟨rfl, N35⟩
  · subst hk_kc
    show own_Out p e below _ T1 (mkF m 9 #[.val (.int x0), .val (.int x1), .val (.int x2), .val (.int x3), .val (.int (2 : Int32)), .unset, .unset, .unset, .unset, .unset, .unset, .unset, .unset, .unset, .unset, .unset] []) _ _ _
    refine own_to (fun t k => XS.iloadN X1.here hx rfl (hb hby at_9) rfl k) ?_
    show own_Out p e below _ T1 (mkF m 10 #[.val (.int x0), .val (.int x1), .val (.int x2), .val (.int x3), .val (.int (2 : Int32)), .unset, .unset, .unset, .unset, .unset, .unset, .unset, .unset, .unset, .unset, .unset] [(.int x1)]) _ _ _
    refine own_to (fun t k => XS.iconst X1.here hx rfl (hb hby at_10) k) ?_
    show own_Out p e below _ T1 (mkF m 11 #[.val (.int x0), .val (.int x1), .val (.int x2), .val (.int x3), .val (.int (2 : Int32)), .unset, .unset, .unset, .unset, .unset, .unset, .unset, .unset, .unset, .unset, .unset] [(.int (3 : Int32)), (.int x1)]) _ _ _
    refine own_to (fun t k => XS.iand X1.here hx rfl (hb hby at_11) rfl k) ?_
    show own_Out p e below _ T1 (mkF m 12 #[.val (.int x0), .val (.int x1), .val (.int x2), .val (.int x3), .val (.int (2 : Int32)), .unset, .unset, .unset, .unset, .unset, .unset, .unset, .unset, .unset, .unset, .unset] [(.int (x1 &&& (3 : Int32)))]) _ _ _
    refine own_to (fun t k => XS.istore X1.here hx rfl (hb hby at_12) rfl (l' := #[.val (.int x0), .val (.int x1), .val (.int x2), .val (.int x3), .val (.int (2 : Int32)), .val (.int (x1 &&& (3 : Int32))), .unset, .unset, .unset, .unset, .unset, .unset, .unset, .unset, .unset, .unset]) rfl k) ?_
    show own_Out p e below _ T1 (mkF m 14 #[.val (.int x0), .val (.int x1), .val (.int x2), .val (.int x3), .val (.int (2 : Int32)), .val (.int (x1 &&& (3 : Int32))), .unset, .unset, .unset, .unset, .unset, .unset, .unset, .unset, .unset, .unset] []) _ _ _
    generalize hv_l1 : (x1 &&& (3 : Int32)) = l1
    show own_Out p e below _ T1 (mkF m 14 #[.val (.int x0), .val (.int x1), .val (.int x2), .val (.int x3), .val (.int (2 : Int32)), .val (.int l1), .unset, .unset, .unset, .unset, .unset, .unset, .unset, .unset, .unset, .unset] []) _ _ _
    have b_l1 := own_k3 x1
    rw [hv_l1] at b_l1
    refine own_to (fun t k => XS.iloadN X1.here hx rfl (hb hby at_14) rfl k) ?_
    show own_Out p e below _ T1 (mkF m 15 #[.val (.int x0), .val (.int x1), .val (.int x2), .val (.int x3), .val (.int (2 : Int32)), .val (.int l1), .unset, .unset, .unset, .unset, .unset, .unset, .unset, .unset, .unset, .unset] [(.int x2)]) _ _ _
    refine own_to (fun t k => XS.iconst X1.here hx rfl (hb hby at_15) k) ?_
    show own_Out p e below _ T1 (mkF m 16 #[.val (.int x0), .val (.int x1), .val (.int x2), .val (.int x3), .val (.int (2 : Int32)), .val (.int l1), .unset, .unset, .unset, .unset, .unset, .unset, .unset, .unset, .unset, .unset] [(.int (3 : Int32)), (.int x2)]) _ _ _
    refine own_to (fun t k => XS.iand X1.here hx rfl (hb hby at_16) rfl k) ?_
    show own_Out p e below _ T1 (mkF m 17 #[.val (.int x0), .val (.int x1), .val (.int x2), .val (.int x3), .val (.int (2 : Int32)), .val (.int l1), .unset, .unset, .unset, .unset, .unset, .unset, .unset, .unset, .unset, .unset] [(.int (x2 &&& (3 : Int32)))]) _ _ _
    refine own_to (fun t k => XS.istore X1.here hx rfl (hb hby at_17) rfl (l' := #[.val (.int x0), .val (.int x1), .val (.int x2), .val (.int x3), .val (.int (2 : Int32)), .val (.int l1), .val (.int (x2 &&& (3 : Int32))), .unset, .unset, .unset, .unset, .unset, .unset, .unset, .unset, .unset]) rfl k) ?_
    show own_Out p e below _ T1 (mkF m 19 #[.val (.int x0), .val (.int x1), .val (.int x2), .val (.int x3), .val (.int (2 : Int32)), .val (.int l1), .val (.int (x2 &&& (3 : Int32))), .unset, .unset, .unset, .unset, .unset, .unset, .unset, .unset, .unset] []) _ _ _
    generalize hv_l2 : (x2 &&& (3 : Int32)) = l2
    show own_Out p e below _ T1 (mkF m 19 #[.val (.int x0), .val (.int x1), .val (.int x2), .val (.int x3), .val (.int (2 : Int32)), .val (.int l1), .val (.int l2), .unset, .unset, .unset, .unset, .unset, .unset, .unset, .unset, .unset] []) _ _ _
    have b_l2 := own_k3 x2
    rw [hv_l2] at b_l2
    refine own_to (fun t k => XS.iloadN X1.here hx rfl (hb hby at_19) rfl k) ?_
    show own_Out p e below _ T1 (mkF m 20 #[.val (.int x0), .val (.int x1), .val (.int x2), .val (.int x3), .val (.int (2 : Int32)), .val (.int l1), .val (.int l2), .unset, .unset, .unset, .unset, .unset, .unset, .unset, .unset, .unset] [(.int x3)]) _ _ _
    refine own_to (fun t k => XS.iconst X1.here hx rfl (hb hby at_20) k) ?_
    show own_Out p e below _ T1 (mkF m 21 #[.val (.int x0), .val (.int x1), .val (.int x2), .val (.int x3), .val (.int (2 : Int32)), .val (.int l1), .val (.int l2), .unset, .unset, .unset, .unset, .unset, .unset, .unset, .unset, .unset] [(.int (1 : Int32)), (.int x3)]) _ _ _
    refine own_to (fun t k => XS.iand X1.here hx rfl (hb hby at_21) rfl k) ?_
    show own_Out p e below _ T1 (mkF m 22 #[.val (.int x0), .val (.int x1), .val (.int x2), .val (.int x3), .val (.int (2 : Int32)), .val (.int l1), .val (.int l2), .unset, .unset, .unset, .unset, .unset, .unset, .unset, .unset, .unset] [(.int (x3 &&& (1 : Int32)))]) _ _ _
    refine own_to (fun t k => XS.istore X1.here hx rfl (hb hby at_22) rfl (l' := #[.val (.int x0), .val (.int x1), .val (.int x2), .val (.int x3), .val (.int (2 : Int32)), .val (.int l1), .val (.int l2), .val (.int (x3 &&& (1 : Int32))), .unset, .unset, .unset, .unset, .unset, .unset, .unset, .unset]) rfl k) ?_
    show own_Out p e below _ T1 (mkF m 24 #[.val (.int x0), .val (.int x1), .val (.int x2), .val (.int x3), .val (.int (2 : Int32)), .val (.int l1), .val (.int l2), .val (.int (x3 &&& (1 : Int32))), .unset, .unset, .unset, .unset, .unset, .unset, .unset, .unset] []) _ _ _
    generalize hv_tr : (x3 &&& (1 : Int32)) = tr
    show own_Out p e below _ T1 (mkF m 24 #[.val (.int x0), .val (.int x1), .val (.int x2), .val (.int x3), .val (.int (2 : Int32)), .val (.int l1), .val (.int l2), .val (.int tr), .unset, .unset, .unset, .unset, .unset, .unset, .unset, .unset] []) _ _ _
    have ht2 := own_tr x3
    rw [hv_tr] at ht2
    rcases ht2 with hk_tr | hk_tr
    · subst hk_tr
      show own_Out p e below _ T1 (mkF m 24 #[.val (.int x0), .val (.int x1), .val (.int x2), .val (.int x3), .val (.int (2 : Int32)), .val (.int l1), .val (.int l2), .val (.int (0 : Int32)), .unset, .unset, .unset, .unset, .unset, .unset, .unset, .unset] []) _ _ _
      refine own_to (fun t k => XS.iloadN X1.here hx rfl (hb hby at_24) rfl k) ?_
      show own_Out p e below _ T1 (mkF m 25 #[.val (.int x0), .val (.int x1), .val (.int x2), .val (.int x3), .val (.int (2 : Int32)), .val (.int l1), .val (.int l2), .val (.int (0 : Int32)), .unset, .unset, .unset, .unset, .unset, .unset, .unset, .unset] [(.int x3)]) _ _ _
      refine own_to (fun t k => XS.iconst X1.here hx rfl (hb hby at_25) k) ?_
      show own_Out p e below _ T1 (mkF m 26 #[.val (.int x0), .val (.int x1), .val (.int x2), .val (.int x3), .val (.int (2 : Int32)), .val (.int l1), .val (.int l2), .val (.int (0 : Int32)), .unset, .unset, .unset, .unset, .unset, .unset, .unset, .unset] [(.int (1 : Int32)), (.int x3)]) _ _ _
      refine own_to (fun t k => XS.iushr X1.here hx rfl (hb hby at_26) rfl k) ?_
      show own_Out p e below _ T1 (mkF m 27 #[.val (.int x0), .val (.int x1), .val (.int x2), .val (.int x3), .val (.int (2 : Int32)), .val (.int l1), .val (.int l2), .val (.int (0 : Int32)), .unset, .unset, .unset, .unset, .unset, .unset, .unset, .unset] [(.int ((x3.toUInt32 >>> ((1 : Int32) &&& 31).toUInt32).toInt32))]) _ _ _
      refine own_to (fun t k => XS.sipush X1.here hx rfl (hb hby at_27) k) ?_
      show own_Out p e below _ T1 (mkF m 30 #[.val (.int x0), .val (.int x1), .val (.int x2), .val (.int x3), .val (.int (2 : Int32)), .val (.int l1), .val (.int l2), .val (.int (0 : Int32)), .unset, .unset, .unset, .unset, .unset, .unset, .unset, .unset] [(.int (254 : Int32)), (.int ((x3.toUInt32 >>> ((1 : Int32) &&& 31).toUInt32).toInt32))]) _ _ _
      refine own_to (fun t k => XS.iand X1.here hx rfl (hb hby at_30) rfl k) ?_
      show own_Out p e below _ T1 (mkF m 31 #[.val (.int x0), .val (.int x1), .val (.int x2), .val (.int x3), .val (.int (2 : Int32)), .val (.int l1), .val (.int l2), .val (.int (0 : Int32)), .unset, .unset, .unset, .unset, .unset, .unset, .unset, .unset] [(.int (((x3.toUInt32 >>> ((1 : Int32) &&& 31).toUInt32).toInt32) &&& (254 : Int32)))]) _ _ _
      refine own_to (fun t k => XS.istore X1.here hx rfl (hb hby at_31) rfl (l' := #[.val (.int x0), .val (.int x1), .val (.int x2), .val (.int x3), .val (.int (2 : Int32)), .val (.int l1), .val (.int l2), .val (.int (0 : Int32)), .val (.int (((x3.toUInt32 >>> ((1 : Int32) &&& 31).toUInt32).toInt32) &&& (254 : Int32))), .unset, .unset, .unset, .unset, .unset, .unset, .unset]) rfl k) ?_
      show own_Out p e below _ T1 (mkF m 33 #[.val (.int x0), .val (.int x1), .val (.int x2), .val (.int x3), .val (.int (2 : Int32)), .val (.int l1), .val (.int l2), .val (.int (0 : Int32)), .val (.int (((x3.toUInt32 >>> ((1 : Int32) &&& 31).toUInt32).toInt32) &&& (254 : Int32))), .unset, .unset, .unset, .unset, .unset, .unset, .unset] []) _ _ _
      generalize hv_tt : (((x3.toUInt32 >>> ((1 : Int32) &&& 31).toUInt32).toInt32) &&& (254 : Int32)) = tt
      show own_Out p e below _ T1 (mkF m 33 #[.val (.int x0), .val (.int x1), .val (.int x2), .val (.int x3), .val (.int (2 : Int32)), .val (.int l1), .val (.int l2), .val (.int (0 : Int32)), .val (.int tt), .unset, .unset, .unset, .unset, .unset, .unset, .unset] []) _ _ _
      have htt := own_tgok ((x3.toUInt32 >>> ((1 : Int32) &&& 31).toUInt32).toInt32)
      rw [hv_tt] at htt
      refine own_to (fun t k => XS.iload X1.here hx rfl (hb hby at_33) rfl k) ?_
      show own_Out p e below _ T1 (mkF m 35 #[.val (.int x0), .val (.int x1), .val (.int x2), .val (.int x3), .val (.int (2 : Int32)), .val (.int l1), .val (.int l2), .val (.int (0 : Int32)), .val (.int tt), .unset, .unset, .unset, .unset, .unset, .unset, .unset] [(.int (2 : Int32))]) _ _ _
      refine own_to (fun t k => XS.iconst X1.here hx rfl (hb hby at_35) k) ?_
      show own_Out p e below _ T1 (mkF m 36 #[.val (.int x0), .val (.int x1), .val (.int x2), .val (.int x3), .val (.int (2 : Int32)), .val (.int l1), .val (.int l2), .val (.int (0 : Int32)), .val (.int tt), .unset, .unset, .unset, .unset, .unset, .unset, .unset] [(.int (1 : Int32)), (.int (2 : Int32))]) _ _ _
      have hc36 : ¬ ((2 : Int32) < (1 : Int32)) := by decide
      refine own_to (fun t k => XS.icmpNo X1.here hx rfl (hb hby at_36) rfl (flt hc36).1 k) ?_
      show own_Out p e below _ T1 (mkF m 39 #[.val (.int x0), .val (.int x1), .val (.int x2), .val (.int x3), .val (.int (2 : Int32)), .val (.int l1), .val (.int l2), .val (.int (0 : Int32)), .val (.int tt), .unset, .unset, .unset, .unset, .unset, .unset, .unset] []) _ _ _
      refine own_to (fun t k => XS.iconst X1.here hx rfl (hb hby at_39) k) ?_
      show own_Out p e below _ T1 (mkF m 40 #[.val (.int x0), .val (.int x1), .val (.int x2), .val (.int x3), .val (.int (2 : Int32)), .val (.int l1), .val (.int l2), .val (.int (0 : Int32)), .val (.int tt), .unset, .unset, .unset, .unset, .unset, .unset, .unset] [(.int (2 : Int32))]) _ _ _
      refine own_to (fun t k => XS.iload X1.here hx rfl (hb hby at_40) rfl k) ?_
      show own_Out p e below _ T1 (mkF m 42 #[.val (.int x0), .val (.int x1), .val (.int x2), .val (.int x3), .val (.int (2 : Int32)), .val (.int l1), .val (.int l2), .val (.int (0 : Int32)), .val (.int tt), .unset, .unset, .unset, .unset, .unset, .unset, .unset] [(.int l1), (.int (2 : Int32))]) _ _ _
      refine own_to (fun t k => XS.iadd X1.here hx rfl (hb hby at_42) rfl k) ?_
      show own_Out p e below _ T1 (mkF m 43 #[.val (.int x0), .val (.int x1), .val (.int x2), .val (.int x3), .val (.int (2 : Int32)), .val (.int l1), .val (.int l2), .val (.int (0 : Int32)), .val (.int tt), .unset, .unset, .unset, .unset, .unset, .unset, .unset] [(.int ((2 : Int32) + l1))]) _ _ _
      refine own_to (fun t k => XS.goto X1.here hx rfl (pc0 := 43) (pc' := 47) rfl (hb hby at_43) (by decide) (by decide) k) ?_
      show own_Out p e below _ T1 (mkF m 47 #[.val (.int x0), .val (.int x1), .val (.int x2), .val (.int x3), .val (.int (2 : Int32)), .val (.int l1), .val (.int l2), .val (.int (0 : Int32)), .val (.int tt), .unset, .unset, .unset, .unset, .unset, .unset, .unset] [(.int ((2 : Int32) + l1))]) _ _ _
      refine own_to (fun t k => XS.istore X1.here hx rfl (hb hby at_47) rfl (l' := #[.val (.int x0), .val (.int x1), .val (.int x2), .val (.int x3), .val (.int (2 : Int32)), .val (.int l1), .val (.int l2), .val (.int (0 : Int32)), .val (.int tt), .val (.int ((2 : Int32) + l1)), .unset, .unset, .unset, .unset, .unset, .unset]) rfl k) ?_
      show own_Out p e below _ T1 (mkF m 49 #[.val (.int x0), .val (.int x1), .val (.int x2), .val (.int x3), .val (.int (2 : Int32)), .val (.int l1), .val (.int l2), .val (.int (0 : Int32)), .val (.int tt), .val (.int ((2 : Int32) + l1)), .unset, .unset, .unset, .unset, .unset, .unset] []) _ _ _
      generalize hv_s1 : ((2 : Int32) + l1) = s1
      show own_Out p e below _ T1 (mkF m 49 #[.val (.int x0), .val (.int x1), .val (.int x2), .val (.int x3), .val (.int (2 : Int32)), .val (.int l1), .val (.int l2), .val (.int (0 : Int32)), .val (.int tt), .val (.int s1), .unset, .unset, .unset, .unset, .unset, .unset] []) _ _ _
      have h_s1 : s1.toInt = 2 + l1.toInt := by rw [← hv_s1, own_ad 2 l1 (by omega) (by omega), k2]
      have h_s1p := own_ad s1 1 (by omega) (by omega)
      rw [k1] at h_s1p
      refine own_to (fun t k => XS.iload X1.here hx rfl (hb hby at_49) rfl k) ?_
      show own_Out p e below _ T1 (mkF m 51 #[.val (.int x0), .val (.int x1), .val (.int x2), .val (.int x3), .val (.int (2 : Int32)), .val (.int l1), .val (.int l2), .val (.int (0 : Int32)), .val (.int tt), .val (.int s1), .unset, .unset, .unset, .unset, .unset, .unset] [(.int (2 : Int32))]) _ _ _
      refine own_to (fun t k => XS.iconst X1.here hx rfl (hb hby at_51) k) ?_
      show own_Out p e below _ T1 (mkF m 52 #[.val (.int x0), .val (.int x1), .val (.int x2), .val (.int x3), .val (.int (2 : Int32)), .val (.int l1), .val (.int l2), .val (.int (0 : Int32)), .val (.int tt), .val (.int s1), .unset, .unset, .unset, .unset, .unset, .unset] [(.int (2 : Int32)), (.int (2 : Int32))]) _ _ _
      have hc52 : ¬ ((2 : Int32) < (2 : Int32)) := by decide
      refine own_to (fun t k => XS.icmpNo X1.here hx rfl (hb hby at_52) rfl (flt hc52).1 k) ?_
      show own_Out p e below _ T1 (mkF m 55 #[.val (.int x0), .val (.int x1), .val (.int x2), .val (.int x3), .val (.int (2 : Int32)), .val (.int l1), .val (.int l2), .val (.int (0 : Int32)), .val (.int tt), .val (.int s1), .unset, .unset, .unset, .unset, .unset, .unset] []) _ _ _
      refine own_to (fun t k => XS.iconst X1.here hx rfl (hb hby at_55) k) ?_
      show own_Out p e below _ T1 (mkF m 56 #[.val (.int x0), .val (.int x1), .val (.int x2), .val (.int x3), .val (.int (2 : Int32)), .val (.int l1), .val (.int l2), .val (.int (0 : Int32)), .val (.int tt), .val (.int s1), .unset, .unset, .unset, .unset, .unset, .unset] [(.int (2 : Int32))]) _ _ _
      refine own_to (fun t k => XS.iload X1.here hx rfl (hb hby at_56) rfl k) ?_
      show own_Out p e below _ T1 (mkF m 58 #[.val (.int x0), .val (.int x1), .val (.int x2), .val (.int x3), .val (.int (2 : Int32)), .val (.int l1), .val (.int l2), .val (.int (0 : Int32)), .val (.int tt), .val (.int s1), .unset, .unset, .unset, .unset, .unset, .unset] [(.int l2), (.int (2 : Int32))]) _ _ _
      refine own_to (fun t k => XS.iadd X1.here hx rfl (hb hby at_58) rfl k) ?_
      show own_Out p e below _ T1 (mkF m 59 #[.val (.int x0), .val (.int x1), .val (.int x2), .val (.int x3), .val (.int (2 : Int32)), .val (.int l1), .val (.int l2), .val (.int (0 : Int32)), .val (.int tt), .val (.int s1), .unset, .unset, .unset, .unset, .unset, .unset] [(.int ((2 : Int32) + l2))]) _ _ _
      refine own_to (fun t k => XS.goto X1.here hx rfl (pc0 := 59) (pc' := 63) rfl (hb hby at_59) (by decide) (by decide) k) ?_
      show own_Out p e below _ T1 (mkF m 63 #[.val (.int x0), .val (.int x1), .val (.int x2), .val (.int x3), .val (.int (2 : Int32)), .val (.int l1), .val (.int l2), .val (.int (0 : Int32)), .val (.int tt), .val (.int s1), .unset, .unset, .unset, .unset, .unset, .unset] [(.int ((2 : Int32) + l2))]) _ _ _
      refine own_to (fun t k => XS.istore X1.here hx rfl (hb hby at_63) rfl (l' := #[.val (.int x0), .val (.int x1), .val (.int x2), .val (.int x3), .val (.int (2 : Int32)), .val (.int l1), .val (.int l2), .val (.int (0 : Int32)), .val (.int tt), .val (.int s1), .val (.int ((2 : Int32) + l2)), .unset, .unset, .unset, .unset, .unset]) rfl k) ?_
      show own_Out p e below _ T1 (mkF m 65 #[.val (.int x0), .val (.int x1), .val (.int x2), .val (.int x3), .val (.int (2 : Int32)), .val (.int l1), .val (.int l2), .val (.int (0 : Int32)), .val (.int tt), .val (.int s1), .val (.int ((2 : Int32) + l2)), .unset, .unset, .unset, .unset, .unset] []) _ _ _
      generalize hv_s2 : ((2 : Int32) + l2) = s2
      show own_Out p e below _ T1 (mkF m 65 #[.val (.int x0), .val (.int x1), .val (.int x2), .val (.int x3), .val (.int (2 : Int32)), .val (.int l1), .val (.int l2), .val (.int (0 : Int32)), .val (.int tt), .val (.int s1), .val (.int s2), .unset, .unset, .unset, .unset, .unset] []) _ _ _
      have h_s2 : s2.toInt = 2 + l2.toInt := by rw [← hv_s2, own_ad 2 l2 (by omega) (by omega), k2]
      have h_s12 := own_ad s1 s2 (by omega) (by omega)
      refine own_to (fun t k => XS.iload X1.here hx rfl (hb hby at_65) rfl k) ?_
      show own_Out p e below _ T1 (mkF m 67 #[.val (.int x0), .val (.int x1), .val (.int x2), .val (.int x3), .val (.int (2 : Int32)), .val (.int l1), .val (.int l2), .val (.int (0 : Int32)), .val (.int tt), .val (.int s1), .val (.int s2), .unset, .unset, .unset, .unset, .unset] [(.int s1)]) _ _ _
      refine own_to (fun t k => XS.iload X1.here hx rfl (hb hby at_67) rfl k) ?_
      show own_Out p e below _ T1 (mkF m 69 #[.val (.int x0), .val (.int x1), .val (.int x2), .val (.int x3), .val (.int (2 : Int32)), .val (.int l1), .val (.int l2), .val (.int (0 : Int32)), .val (.int tt), .val (.int s1), .val (.int s2), .unset, .unset, .unset, .unset, .unset] [(.int s2), (.int s1)]) _ _ _
      refine own_to (fun t k => XS.iadd X1.here hx rfl (hb hby at_69) rfl k) ?_
      show own_Out p e below _ T1 (mkF m 70 #[.val (.int x0), .val (.int x1), .val (.int x2), .val (.int x3), .val (.int (2 : Int32)), .val (.int l1), .val (.int l2), .val (.int (0 : Int32)), .val (.int tt), .val (.int s1), .val (.int s2), .unset, .unset, .unset, .unset, .unset] [(.int (s1 + s2))]) _ _ _
      refine own_to (fun t k => XS.iload X1.here hx rfl (hb hby at_70) rfl k) ?_
      show own_Out p e below _ T1 (mkF m 72 #[.val (.int x0), .val (.int x1), .val (.int x2), .val (.int x3), .val (.int (2 : Int32)), .val (.int l1), .val (.int l2), .val (.int (0 : Int32)), .val (.int tt), .val (.int s1), .val (.int s2), .unset, .unset, .unset, .unset, .unset] [(.int (0 : Int32)), (.int (s1 + s2))]) _ _ _
      refine own_to (fun t k => XS.iadd X1.here hx rfl (hb hby at_72) rfl k) ?_
      show own_Out p e below _ T1 (mkF m 73 #[.val (.int x0), .val (.int x1), .val (.int x2), .val (.int x3), .val (.int (2 : Int32)), .val (.int l1), .val (.int l2), .val (.int (0 : Int32)), .val (.int tt), .val (.int s1), .val (.int s2), .unset, .unset, .unset, .unset, .unset] [(.int ((s1 + s2) + (0 : Int32)))]) _ _ _
      have h_a := own_ad s1 s2 (by omega) (by omega)
      have h_b := own_ad (s1 + s2) (0 : Int32) (by omega) (by omega)
      generalize hv_nn : ((s1 + s2) + (0 : Int32)) = nn
      show own_Out p e below _ T1 (mkF m 73 #[.val (.int x0), .val (.int x1), .val (.int x2), .val (.int x3), .val (.int (2 : Int32)), .val (.int l1), .val (.int l2), .val (.int (0 : Int32)), .val (.int tt), .val (.int s1), .val (.int s2), .unset, .unset, .unset, .unset, .unset] [(.int nn)]) _ _ _
      rw [hv_nn] at h_b
      refine own_newA X1 hx hZ (hw _ (List.mem_of_getElem? (i := 4) rfl)) rfl e1 rfl (hb hby at_73) rfl (own_ge (by omega)) (cap := 12) (by rw [own_nn]; omega) (by decide) (by decide) (by decide) fun T36 hh36 ob36 gb36 X36 e36 E36 A36 => ?_
      have g_ob36 : n0 ≤ ob36 := Nat.le_trans Z0 (Nat.le_of_eq gb36.symm)
      have Z0 := Nat.le_trans Z0 E36.1
      have hk := Nat.le_trans hk E36.1
      have A_ob36 : own_A Z hh36 ob36 .byte nn.toNatClampNeg (fun _ => 0) := A36
      show own_Out p e below _ T36 (mkF m 75 #[.val (.int x0), .val (.int x1), .val (.int x2), .val (.int x3), .val (.int (2 : Int32)), .val (.int l1), .val (.int l2), .val (.int (0 : Int32)), .val (.int tt), .val (.int s1), .val (.int s2), .unset, .unset, .unset, .unset, .unset] [(.ref ob36)]) _ _ _
      refine own_to (fun t k => XS.astore X36.here hx rfl (hb hby at_75) rfl rfl (l' := #[.val (.int x0), .val (.int x1), .val (.int x2), .val (.int x3), .val (.int (2 : Int32)), .val (.int l1), .val (.int l2), .val (.int (0 : Int32)), .val (.int tt), .val (.int s1), .val (.int s2), .val (.ref ob36), .unset, .unset, .unset, .unset]) rfl k) ?_
      show own_Out p e below _ T36 (mkF m 77 #[.val (.int x0), .val (.int x1), .val (.int x2), .val (.int x3), .val (.int (2 : Int32)), .val (.int l1), .val (.int l2), .val (.int (0 : Int32)), .val (.int tt), .val (.int s1), .val (.int s2), .val (.ref ob36), .unset, .unset, .unset, .unset] []) _ _ _
      refine own_to (fun t k => XS.iload X36.here hx rfl (hb hby at_77) rfl k) ?_
      show own_Out p e below _ T36 (mkF m 79 #[.val (.int x0), .val (.int x1), .val (.int x2), .val (.int x3), .val (.int (2 : Int32)), .val (.int l1), .val (.int l2), .val (.int (0 : Int32)), .val (.int tt), .val (.int s1), .val (.int s2), .val (.ref ob36), .unset, .unset, .unset, .unset] [(.int (2 : Int32))]) _ _ _
      refine own_to (fun t k => XS.iconst X36.here hx rfl (hb hby at_79) k) ?_
      show own_Out p e below _ T36 (mkF m 80 #[.val (.int x0), .val (.int x1), .val (.int x2), .val (.int x3), .val (.int (2 : Int32)), .val (.int l1), .val (.int l2), .val (.int (0 : Int32)), .val (.int tt), .val (.int s1), .val (.int s2), .val (.ref ob36), .unset, .unset, .unset, .unset] [(.int (1 : Int32)), (.int (2 : Int32))]) _ _ _
      have hc80 : ¬ ((2 : Int32) < (1 : Int32)) := by decide
      refine own_to (fun t k => XS.icmpNo X36.here hx rfl (hb hby at_80) rfl (flt hc80).1 k) ?_
      show own_Out p e below _ T36 (mkF m 83 #[.val (.int x0), .val (.int x1), .val (.int x2), .val (.int x3), .val (.int (2 : Int32)), .val (.int l1), .val (.int l2), .val (.int (0 : Int32)), .val (.int tt), .val (.int s1), .val (.int s2), .val (.ref ob36), .unset, .unset, .unset, .unset] []) _ _ _
      refine own_to (fun t k => XS.aload X36.here hx rfl (hb hby at_83) rfl rfl k) ?_
      show own_Out p e below _ T36 (mkF m 85 #[.val (.int x0), .val (.int x1), .val (.int x2), .val (.int x3), .val (.int (2 : Int32)), .val (.int l1), .val (.int l2), .val (.int (0 : Int32)), .val (.int tt), .val (.int s1), .val (.int s2), .val (.ref ob36), .unset, .unset, .unset, .unset] [(.ref ob36)]) _ _ _
      refine own_to (fun t k => XS.iconst X36.here hx rfl (hb hby at_85) k) ?_
      show own_Out p e below _ T36 (mkF m 86 #[.val (.int x0), .val (.int x1), .val (.int x2), .val (.int x3), .val (.int (2 : Int32)), .val (.int l1), .val (.int l2), .val (.int (0 : Int32)), .val (.int tt), .val (.int s1), .val (.int s2), .val (.ref ob36), .unset, .unset, .unset, .unset] [(.int (0 : Int32)), (.ref ob36)]) _ _ _
      refine own_to (fun t k => XS.iload X36.here hx rfl (hb hby at_86) rfl k) ?_
      show own_Out p e below _ T36 (mkF m 88 #[.val (.int x0), .val (.int x1), .val (.int x2), .val (.int x3), .val (.int (2 : Int32)), .val (.int l1), .val (.int l2), .val (.int (0 : Int32)), .val (.int tt), .val (.int s1), .val (.int s2), .val (.ref ob36), .unset, .unset, .unset, .unset] [(.int tt), (.int (0 : Int32)), (.ref ob36)]) _ _ _
      refine own_to (fun t k => XS.i2b X36.here hx rfl (hb hby at_88) rfl k) ?_
      show own_Out p e below _ T36 (mkF m 89 #[.val (.int x0), .val (.int x1), .val (.int x2), .val (.int x3), .val (.int (2 : Int32)), .val (.int l1), .val (.int l2), .val (.int (0 : Int32)), .val (.int tt), .val (.int s1), .val (.int s2), .val (.ref ob36), .unset, .unset, .unset, .unset] [(.int (tt.toInt8.toInt32)), (.int (0 : Int32)), (.ref ob36)]) _ _ _
      refine own_stB X36 hx hZ e36 A_ob36 (own_ge (by omega)) (by simp only [own_nn] <;> omega) rfl rfl (hb hby at_89) fun T37 hh37 X37 e37 W37 A37 => ?_
      have A_ob36 := A37
      have Z0 := Nat.le_trans Z0 (Nat.le_of_eq W37.size.symm)
      have hk := Nat.le_trans hk (Nat.le_of_eq W37.size.symm)
      have N37 := own_fs (sl := Int32.toNatClampNeg (0 : Int32)) N1 g_ob36
      show own_Out p e below _ T37 (mkF m 90 #[.val (.int x0), .val (.int x1), .val (.int x2), .val (.int x3), .val (.int (2 : Int32)), .val (.int l1), .val (.int l2), .val (.int (0 : Int32)), .val (.int tt), .val (.int s1), .val (.int s2), .val (.ref ob36), .unset, .unset, .unset, .unset] []) _ _ _
      refine own_to (fun t k => XS.aload X37.here hx rfl (hb hby at_90) rfl rfl k) ?_
      show own_Out p e below _ T37 (mkF m 92 #[.val (.int x0), .val (.int x1), .val (.int x2), .val (.int x3), .val (.int (2 : Int32)), .val (.int l1), .val (.int l2), .val (.int (0 : Int32)), .val (.int tt), .val (.int s1), .val (.int s2), .val (.ref ob36), .unset, .unset, .unset, .unset] [(.ref ob36)]) _ _ _
      refine own_to (fun t k => XS.iconst X37.here hx rfl (hb hby at_92) k) ?_
      show own_Out p e below _ T37 (mkF m 93 #[.val (.int x0), .val (.int x1), .val (.int x2), .val (.int x3), .val (.int (2 : Int32)), .val (.int l1), .val (.int l2), .val (.int (0 : Int32)), .val (.int tt), .val (.int s1), .val (.int s2), .val (.ref ob36), .unset, .unset, .unset, .unset] [(.int (1 : Int32)), (.ref ob36)]) _ _ _
      refine own_to (fun t k => XS.iload X37.here hx rfl (hb hby at_93) rfl k) ?_
      show own_Out p e below _ T37 (mkF m 95 #[.val (.int x0), .val (.int x1), .val (.int x2), .val (.int x3), .val (.int (2 : Int32)), .val (.int l1), .val (.int l2), .val (.int (0 : Int32)), .val (.int tt), .val (.int s1), .val (.int s2), .val (.ref ob36), .unset, .unset, .unset, .unset] [(.int l1), (.int (1 : Int32)), (.ref ob36)]) _ _ _
      refine own_to (fun t k => XS.i2b X37.here hx rfl (hb hby at_95) rfl k) ?_
      show own_Out p e below _ T37 (mkF m 96 #[.val (.int x0), .val (.int x1), .val (.int x2), .val (.int x3), .val (.int (2 : Int32)), .val (.int l1), .val (.int l2), .val (.int (0 : Int32)), .val (.int tt), .val (.int s1), .val (.int s2), .val (.ref ob36), .unset, .unset, .unset, .unset] [(.int (l1.toInt8.toInt32)), (.int (1 : Int32)), (.ref ob36)]) _ _ _
      refine own_stB X37 hx hZ e37 A_ob36 (own_ge (by omega)) (by simp only [own_nn] <;> omega) rfl rfl (hb hby at_96) fun T38 hh38 X38 e38 W38 A38 => ?_
      have A_ob36 := A38
      have Z0 := Nat.le_trans Z0 (Nat.le_of_eq W38.size.symm)
      have hk := Nat.le_trans hk (Nat.le_of_eq W38.size.symm)
      have N38 := own_fs (sl := Int32.toNatClampNeg (1 : Int32)) N37 g_ob36
      show own_Out p e below _ T38 (mkF m 97 #[.val (.int x0), .val (.int x1), .val (.int x2), .val (.int x3), .val (.int (2 : Int32)), .val (.int l1), .val (.int l2), .val (.int (0 : Int32)), .val (.int tt), .val (.int s1), .val (.int s2), .val (.ref ob36), .unset, .unset, .unset, .unset] []) _ _ _
      refine own_to (fun t k => XS.iload X38.here hx rfl (hb hby at_97) rfl k) ?_
      show own_Out p e below _ T38 (mkF m 99 #[.val (.int x0), .val (.int x1), .val (.int x2), .val (.int x3), .val (.int (2 : Int32)), .val (.int l1), .val (.int l2), .val (.int (0 : Int32)), .val (.int tt), .val (.int s1), .val (.int s2), .val (.ref ob36), .unset, .unset, .unset, .unset] [(.int (2 : Int32))]) _ _ _
      refine own_to (fun t k => XS.iconst X38.here hx rfl (hb hby at_99) k) ?_
      show own_Out p e below _ T38 (mkF m 100 #[.val (.int x0), .val (.int x1), .val (.int x2), .val (.int x3), .val (.int (2 : Int32)), .val (.int l1), .val (.int l2), .val (.int (0 : Int32)), .val (.int tt), .val (.int s1), .val (.int s2), .val (.ref ob36), .unset, .unset, .unset, .unset] [(.int (2 : Int32)), (.int (2 : Int32))]) _ _ _
      have hc100 : ¬ ((2 : Int32) < (2 : Int32)) := by decide
      refine own_to (fun t k => XS.icmpNo X38.here hx rfl (hb hby at_100) rfl (flt hc100).1 k) ?_
      show own_Out p e below _ T38 (mkF m 103 #[.val (.int x0), .val (.int x1), .val (.int x2), .val (.int x3), .val (.int (2 : Int32)), .val (.int l1), .val (.int l2), .val (.int (0 : Int32)), .val (.int tt), .val (.int s1), .val (.int s2), .val (.ref ob36), .unset, .unset, .unset, .unset] []) _ _ _
      refine own_to (fun t k => XS.aload X38.here hx rfl (hb hby at_103) rfl rfl k) ?_
      show own_Out p e below _ T38 (mkF m 105 #[.val (.int x0), .val (.int x1), .val (.int x2), .val (.int x3), .val (.int (2 : Int32)), .val (.int l1), .val (.int l2), .val (.int (0 : Int32)), .val (.int tt), .val (.int s1), .val (.int s2), .val (.ref ob36), .unset, .unset, .unset, .unset] [(.ref ob36)]) _ _ _
      refine own_to (fun t k => XS.iload X38.here hx rfl (hb hby at_105) rfl k) ?_
      show own_Out p e below _ T38 (mkF m 107 #[.val (.int x0), .val (.int x1), .val (.int x2), .val (.int x3), .val (.int (2 : Int32)), .val (.int l1), .val (.int l2), .val (.int (0 : Int32)), .val (.int tt), .val (.int s1), .val (.int s2), .val (.ref ob36), .unset, .unset, .unset, .unset] [(.int s1), (.ref ob36)]) _ _ _
      refine own_to (fun t k => XS.iload X38.here hx rfl (hb hby at_107) rfl k) ?_
      show own_Out p e below _ T38 (mkF m 109 #[.val (.int x0), .val (.int x1), .val (.int x2), .val (.int x3), .val (.int (2 : Int32)), .val (.int l1), .val (.int l2), .val (.int (0 : Int32)), .val (.int tt), .val (.int s1), .val (.int s2), .val (.ref ob36), .unset, .unset, .unset, .unset] [(.int tt), (.int s1), (.ref ob36)]) _ _ _
      refine own_to (fun t k => XS.i2b X38.here hx rfl (hb hby at_109) rfl k) ?_
      show own_Out p e below _ T38 (mkF m 110 #[.val (.int x0), .val (.int x1), .val (.int x2), .val (.int x3), .val (.int (2 : Int32)), .val (.int l1), .val (.int l2), .val (.int (0 : Int32)), .val (.int tt), .val (.int s1), .val (.int s2), .val (.ref ob36), .unset, .unset, .unset, .unset] [(.int (tt.toInt8.toInt32)), (.int s1), (.ref ob36)]) _ _ _
      refine own_stB X38 hx hZ e38 A_ob36 (own_ge (by omega)) (by simp only [own_nn] <;> omega) rfl rfl (hb hby at_110) fun T39 hh39 X39 e39 W39 A39 => ?_
      have A_ob36 := A39
      have Z0 := Nat.le_trans Z0 (Nat.le_of_eq W39.size.symm)
      have hk := Nat.le_trans hk (Nat.le_of_eq W39.size.symm)
      have N39 := own_fs (sl := Int32.toNatClampNeg s1) N38 g_ob36
      show own_Out p e below _ T39 (mkF m 111 #[.val (.int x0), .val (.int x1), .val (.int x2), .val (.int x3), .val (.int (2 : Int32)), .val (.int l1), .val (.int l2), .val (.int (0 : Int32)), .val (.int tt), .val (.int s1), .val (.int s2), .val (.ref ob36), .unset, .unset, .unset, .unset] []) _ _ _
      refine own_to (fun t k => XS.aload X39.here hx rfl (hb hby at_111) rfl rfl k) ?_
      show own_Out p e below _ T39 (mkF m 113 #[.val (.int x0), .val (.int x1), .val (.int x2), .val (.int x3), .val (.int (2 : Int32)), .val (.int l1), .val (.int l2), .val (.int (0 : Int32)), .val (.int tt), .val (.int s1), .val (.int s2), .val (.ref ob36), .unset, .unset, .unset, .unset] [(.ref ob36)]) _ _ _
      refine own_to (fun t k => XS.iload X39.here hx rfl (hb hby at_113) rfl k) ?_
      show own_Out p e below _ T39 (mkF m 115 #[.val (.int x0), .val (.int x1), .val (.int x2), .val (.int x3), .val (.int (2 : Int32)), .val (.int l1), .val (.int l2), .val (.int (0 : Int32)), .val (.int tt), .val (.int s1), .val (.int s2), .val (.ref ob36), .unset, .unset, .unset, .unset] [(.int s1), (.ref ob36)]) _ _ _
      refine own_to (fun t k => XS.iconst X39.here hx rfl (hb hby at_115) k) ?_
      show own_Out p e below _ T39 (mkF m 116 #[.val (.int x0), .val (.int x1), .val (.int x2), .val (.int x3), .val (.int (2 : Int32)), .val (.int l1), .val (.int l2), .val (.int (0 : Int32)), .val (.int tt), .val (.int s1), .val (.int s2), .val (.ref ob36), .unset, .unset, .unset, .unset] [(.int (1 : Int32)), (.int s1), (.ref ob36)]) _ _ _
      refine own_to (fun t k => XS.iadd X39.here hx rfl (hb hby at_116) rfl k) ?_
      show own_Out p e below _ T39 (mkF m 117 #[.val (.int x0), .val (.int x1), .val (.int x2), .val (.int x3), .val (.int (2 : Int32)), .val (.int l1), .val (.int l2), .val (.int (0 : Int32)), .val (.int tt), .val (.int s1), .val (.int s2), .val (.ref ob36), .unset, .unset, .unset, .unset] [(.int (s1 + (1 : Int32))), (.ref ob36)]) _ _ _
      refine own_to (fun t k => XS.iload X39.here hx rfl (hb hby at_117) rfl k) ?_
      show own_Out p e below _ T39 (mkF m 119 #[.val (.int x0), .val (.int x1), .val (.int x2), .val (.int x3), .val (.int (2 : Int32)), .val (.int l1), .val (.int l2), .val (.int (0 : Int32)), .val (.int tt), .val (.int s1), .val (.int s2), .val (.ref ob36), .unset, .unset, .unset, .unset] [(.int l2), (.int (s1 + (1 : Int32))), (.ref ob36)]) _ _ _
      refine own_to (fun t k => XS.i2b X39.here hx rfl (hb hby at_119) rfl k) ?_
      show own_Out p e below _ T39 (mkF m 120 #[.val (.int x0), .val (.int x1), .val (.int x2), .val (.int x3), .val (.int (2 : Int32)), .val (.int l1), .val (.int l2), .val (.int (0 : Int32)), .val (.int tt), .val (.int s1), .val (.int s2), .val (.ref ob36), .unset, .unset, .unset, .unset] [(.int (l2.toInt8.toInt32)), (.int (s1 + (1 : Int32))), (.ref ob36)]) _ _ _
      refine own_stB X39 hx hZ e39 A_ob36 (own_ge (by omega)) (by simp only [own_nn] <;> omega) rfl rfl (hb hby at_120) fun T40 hh40 X40 e40 W40 A40 => ?_
      have A_ob36 := A40
      have Z0 := Nat.le_trans Z0 (Nat.le_of_eq W40.size.symm)
      have hk := Nat.le_trans hk (Nat.le_of_eq W40.size.symm)
      have N40 := own_fs (sl := Int32.toNatClampNeg (s1 + (1 : Int32))) N39 g_ob36
      show own_Out p e below _ T40 (mkF m 121 #[.val (.int x0), .val (.int x1), .val (.int x2), .val (.int x3), .val (.int (2 : Int32)), .val (.int l1), .val (.int l2), .val (.int (0 : Int32)), .val (.int tt), .val (.int s1), .val (.int s2), .val (.ref ob36), .unset, .unset, .unset, .unset] []) _ _ _
      refine own_to (fun t k => XS.iload X40.here hx rfl (hb hby at_121) rfl k) ?_
      show own_Out p e below _ T40 (mkF m 123 #[.val (.int x0), .val (.int x1), .val (.int x2), .val (.int x3), .val (.int (2 : Int32)), .val (.int l1), .val (.int l2), .val (.int (0 : Int32)), .val (.int tt), .val (.int s1), .val (.int s2), .val (.ref ob36), .unset, .unset, .unset, .unset] [(.int (0 : Int32))]) _ _ _
      refine own_to (fun t k => XS.iconst X40.here hx rfl (hb hby at_123) k) ?_
      show own_Out p e below _ T40 (mkF m 124 #[.val (.int x0), .val (.int x1), .val (.int x2), .val (.int x3), .val (.int (2 : Int32)), .val (.int l1), .val (.int l2), .val (.int (0 : Int32)), .val (.int tt), .val (.int s1), .val (.int s2), .val (.ref ob36), .unset, .unset, .unset, .unset] [(.int (1 : Int32)), (.int (0 : Int32))]) _ _ _
      have hc124 : ¬ ((0 : Int32) = (1 : Int32)) := by decide
      refine own_to (fun t k => XS.icmpYes X40.here hx rfl (pc0 := 124) (pc' := 138) rfl (hb hby at_124) rfl (feq hc124).2 (by decide) (by decide) k) ?_
      show own_Out p e below _ T40 (mkF m 138 #[.val (.int x0), .val (.int x1), .val (.int x2), .val (.int x3), .val (.int (2 : Int32)), .val (.int l1), .val (.int l2), .val (.int (0 : Int32)), .val (.int tt), .val (.int s1), .val (.int s2), .val (.ref ob36), .unset, .unset, .unset, .unset] []) _ _ _
      refine own_new X40 hx hZ hown (hw _ (List.mem_of_getElem? (i := 5) rfl)) (hw _ (List.mem_of_getElem? (i := 6) rfl)) (hw _ (List.mem_of_getElem? (i := 7) rfl)) e40 rfl (hb hby at_138) (by decide) (by decide) fun T41 hh41 ob41 gb41 X41 e41 E41 A41 D41 => ?_
      have ne_ob36_ob41 : ob36 ≠ ob41 := Nat.ne_of_lt (Nat.lt_of_lt_of_le A_ob36.lt (Nat.le_of_eq gb41.symm))
      have ne_ob41_ob36 := Ne.symm ne_ob36_ob41
      have g_ob41 : n0 ≤ ob41 := Nat.le_trans Z0 (Nat.le_of_eq gb41.symm)
      have A_ob36 := A_ob36.ext E41
      have Z0 := Nat.le_trans Z0 E41.1
      have hk := Nat.le_trans hk E41.1
      have E_ob41 := A41
      have F_ob41_bytes : Fld Z hh41 ob41 "com/example/pathwarden/pathwarden/util/DerReader" "bytes" "[B" .null := D41 (Or.inr (hw _ (List.mem_of_getElem? (i := 18) rfl))) (ty := (.array .byte)) (by decide)
      have F_ob41_position : Fld Z hh41 ob41 "com/example/pathwarden/pathwarden/util/DerReader" "position" "I" (.int (0 : Int32)) := D41 (Or.inl (hw _ (List.mem_of_getElem? (i := 20) rfl))) (ty := .int) (by decide)
      have F_ob41_end : Fld Z hh41 ob41 "com/example/pathwarden/pathwarden/util/DerReader" "end" "I" (.int (0 : Int32)) := D41 (Or.inr (hw _ (List.mem_of_getElem? (i := 22) rfl))) (ty := .int) (by decide)
      show own_Out p e below _ T41 (mkF m 141 #[.val (.int x0), .val (.int x1), .val (.int x2), .val (.int x3), .val (.int (2 : Int32)), .val (.int l1), .val (.int l2), .val (.int (0 : Int32)), .val (.int tt), .val (.int s1), .val (.int s2), .val (.ref ob36), .unset, .unset, .unset, .unset] [(.ref ob41)]) _ _ _
      refine own_to (fun t k => XS.dup X41.here hx rfl (hb hby at_141) rfl rfl k) ?_
      show own_Out p e below _ T41 (mkF m 142 #[.val (.int x0), .val (.int x1), .val (.int x2), .val (.int x3), .val (.int (2 : Int32)), .val (.int l1), .val (.int l2), .val (.int (0 : Int32)), .val (.int tt), .val (.int s1), .val (.int s2), .val (.ref ob36), .unset, .unset, .unset, .unset] [(.ref ob41), (.ref ob41)]) _ _ _
      refine own_to (fun t k => XS.aload X41.here hx rfl (hb hby at_142) rfl rfl k) ?_
      show own_Out p e below _ T41 (mkF m 144 #[.val (.int x0), .val (.int x1), .val (.int x2), .val (.int x3), .val (.int (2 : Int32)), .val (.int l1), .val (.int l2), .val (.int (0 : Int32)), .val (.int tt), .val (.int s1), .val (.int s2), .val (.ref ob36), .unset, .unset, .unset, .unset] [(.ref ob36), (.ref ob41), (.ref ob41)]) _ _ _
      refine own_callC X41 hx hZ hown (a := ob41) (argsL := [(.ref ob36)]) (rest := [(.ref ob41)]) rfl (hw _ (List.mem_of_getElem? (i := 8) rfl)) (hw _ (List.mem_of_getElem? (i := 9) rfl)) (hw _ (List.mem_of_getElem? (i := 7) rfl)) (hw _ (List.mem_of_getElem? (i := 10) rfl)) (by decide) (rm2 l Z a0 hw ob41 ob36 (nn.toNatClampNeg) (own_upd (own_upd (own_upd (own_upd (fun _ => 0) ((0 : Int32).toNatClampNeg) (nar .byte (tt.toInt8.toInt32))) ((1 : Int32).toNatClampNeg) (nar .byte (l1.toInt8.toInt32))) (s1.toNatClampNeg) (nar .byte (tt.toInt8.toInt32))) ((s1 + (1 : Int32)).toNatClampNeg) (nar .byte (l2.toInt8.toInt32))) hh41 n0 Z0 E_ob41 F_ob41_bytes F_ob41_position F_ob41_end g_ob41 A_ob36 ne_ob36_ob41) (by decide) (by decide) e41 rfl (by rw [hml]; rfl) (lenOf pd_5 rfl) rfl (W := 1) (by show 2 * 0 + _ ≤ _; exact Nat.le_of_eq rfl) (hb hby at_144) (by decide) (by decide) fun v42 T42 hh42 L42 X42 e42 hQ42 => ?_
      obtain ⟨rfl, NL42, KK42, P42_0, P42_1, P42_2⟩ := hQ42
      have A_ob36 := A_ob36.keep KK42 (by simp [ne_ob36_ob41])
      have E_ob41 := E_ob41.keep KK42
      have F_ob41_bytes := P42_0
      have F_ob41_position := P42_1
      have F_ob41_end := P42_2
      have Z0 := Nat.le_trans Z0 KK42.1
      have hk := Nat.le_trans hk KK42.1
      have N42 := Fr.app N40 NL42
      show own_Out p e below _ T42 (mkF m 147 #[.val (.int x0), .val (.int x1), .val (.int x2), .val (.int x3), .val (.int (2 : Int32)), .val (.int l1), .val (.int l2), .val (.int (0 : Int32)), .val (.int tt), .val (.int s1), .val (.int s2), .val (.ref ob36), .unset, .unset, .unset, .unset] [(.ref ob41)]) _ _ _
      rw [(back32 (n := nn) (own_ge (by omega))).1] at F_ob41_end
      refine own_to (fun t k => XS.astore X42.here hx rfl (hb hby at_147) rfl rfl (l' := #[.val (.int x0), .val (.int x1), .val (.int x2), .val (.int x3), .val (.int (2 : Int32)), .val (.int l1), .val (.int l2), .val (.int (0 : Int32)), .val (.int tt), .val (.int s1), .val (.int s2), .val (.ref ob36), .val (.ref ob41), .unset, .unset, .unset]) rfl k) ?_
      show own_Out p e below _ T42 (mkF m 149 #[.val (.int x0), .val (.int x1), .val (.int x2), .val (.int x3), .val (.int (2 : Int32)), .val (.int l1), .val (.int l2), .val (.int (0 : Int32)), .val (.int tt), .val (.int s1), .val (.int s2), .val (.ref ob36), .val (.ref ob41), .unset, .unset, .unset] []) _ _ _
      refine own_to (fun t k => XS.iload X42.here hx rfl (hb hby at_149) rfl k) ?_
      show own_Out p e below _ T42 (mkF m 151 #[.val (.int x0), .val (.int x1), .val (.int x2), .val (.int x3), .val (.int (2 : Int32)), .val (.int l1), .val (.int l2), .val (.int (0 : Int32)), .val (.int tt), .val (.int s1), .val (.int s2), .val (.ref ob36), .val (.ref ob41), .unset, .unset, .unset] [(.int (2 : Int32))]) _ _ _
      have hc151 : (0 : Int32) < (2 : Int32) := by decide
      refine own_to (fun t k => XS.ifYes X42.here hx rfl (pc0 := 151) (pc' := 160) rfl (hb hby at_151) rfl ((if0 _ _).trans (tlt hc151).2.2.1) (by decide) (by decide) k) ?_
      show own_Out p e below _ T42 (mkF m 160 #[.val (.int x0), .val (.int x1), .val (.int x2), .val (.int x3), .val (.int (2 : Int32)), .val (.int l1), .val (.int l2), .val (.int (0 : Int32)), .val (.int tt), .val (.int s1), .val (.int s2), .val (.ref ob36), .val (.ref ob41), .unset, .unset, .unset] []) _ _ _
      refine own_to (fun t k => XS.iconst X42.here hx rfl (hb hby at_160) k) ?_
      show own_Out p e below _ T42 (mkF m 161 #[.val (.int x0), .val (.int x1), .val (.int x2), .val (.int x3), .val (.int (2 : Int32)), .val (.int l1), .val (.int l2), .val (.int (0 : Int32)), .val (.int tt), .val (.int s1), .val (.int s2), .val (.ref ob36), .val (.ref ob41), .unset, .unset, .unset] [(.int (1 : Int32))]) _ _ _
      refine own_to (fun t k => XS.goto X42.here hx rfl (pc0 := 161) (pc' := 165) rfl (hb hby at_161) (by decide) (by decide) k) ?_
      show own_Out p e below _ T42 (mkF m 165 #[.val (.int x0), .val (.int x1), .val (.int x2), .val (.int x3), .val (.int (2 : Int32)), .val (.int l1), .val (.int l2), .val (.int (0 : Int32)), .val (.int tt), .val (.int s1), .val (.int s2), .val (.ref ob36), .val (.ref ob41), .unset, .unset, .unset] [(.int (1 : Int32))]) _ _ _
      refine own_to (fun t k => XS.istore X42.here hx rfl (hb hby at_165) rfl (l' := #[.val (.int x0), .val (.int x1), .val (.int x2), .val (.int x3), .val (.int (2 : Int32)), .val (.int l1), .val (.int l2), .val (.int (0 : Int32)), .val (.int tt), .val (.int s1), .val (.int s2), .val (.ref ob36), .val (.ref ob41), .val (.int (1 : Int32)), .unset, .unset]) rfl k) ?_
      show own_Out p e below _ T42 (mkF m 167 #[.val (.int x0), .val (.int x1), .val (.int x2), .val (.int x3), .val (.int (2 : Int32)), .val (.int l1), .val (.int l2), .val (.int (0 : Int32)), .val (.int tt), .val (.int s1), .val (.int s2), .val (.ref ob36), .val (.ref ob41), .val (.int (1 : Int32)), .unset, .unset] []) _ _ _
      refine own_to (fun t k => XS.aload X42.here hx rfl (hb hby at_167) rfl rfl k) ?_
      show own_Out p e below _ T42 (mkF m 169 #[.val (.int x0), .val (.int x1), .val (.int x2), .val (.int x3), .val (.int (2 : Int32)), .val (.int l1), .val (.int l2), .val (.int (0 : Int32)), .val (.int tt), .val (.int s1), .val (.int s2), .val (.ref ob36), .val (.ref ob41), .val (.int (1 : Int32)), .unset, .unset] [(.ref ob41)]) _ _ _
      refine own_callV X42 hx hZ hown (a := ob41) (argsL := []) (rest := []) (hw _ (List.mem_of_getElem? (i := 23) rfl)) (hw _ (List.mem_of_getElem? (i := 24) rfl)) (hw _ (List.mem_of_getElem? (i := 26) rfl)) (hw _ (List.mem_of_getElem? (i := 25) rfl)) (hw _ (List.mem_of_getElem? (i := 7) rfl)) (hw _ (List.mem_of_getElem? (i := 27) rfl)) (by decide) (rm5 l Z a0 hw ob41 (0 : Int32) nn hh42 n0 Z0 F_ob41_position F_ob41_end) (by decide) (by decide) e42 E_ob41 rfl (by rw [hml]; rfl) (lenOf pd_1 rfl) rfl (W := 0) (by show 2 * 0 + _ ≤ _; exact Nat.le_of_eq rfl) (hb hby at_169) (by decide) (by decide) fun v43 T43 hh43 L43 X43 e43 hQ43 => ?_
      obtain ⟨rfl, NL43, he43⟩ := hQ43
      replace e43 := e43.trans he43
      have N43 := Fr.app N42 NL43
      show own_Out p e below _ T43 (mkF m 172 #[.val (.int x0), .val (.int x1), .val (.int x2), .val (.int x3), .val (.int (2 : Int32)), .val (.int l1), .val (.int l2), .val (.int (0 : Int32)), .val (.int tt), .val (.int s1), .val (.int s2), .val (.ref ob36), .val (.ref ob41), .val (.int (1 : Int32)), .unset, .unset] [(.int (R5 ob41 (0 : Int32) nn))]) _ _ _
      refine own_to (fun t k => XS.iload X43.here hx rfl (hb hby at_172) rfl k) ?_
      show own_Out p e below _ T43 (mkF m 174 #[.val (.int x0), .val (.int x1), .val (.int x2), .val (.int x3), .val (.int (2 : Int32)), .val (.int l1), .val (.int l2), .val (.int (0 : Int32)), .val (.int tt), .val (.int s1), .val (.int s2), .val (.ref ob36), .val (.ref ob41), .val (.int (1 : Int32)), .unset, .unset] [(.int (1 : Int32)), (.int (R5 ob41 (0 : Int32) nn))]) _ _ _
      have hc174 : (R5 ob41 (0 : Int32) nn) = (1 : Int32) := own_hn1 _ _ _ (by rw [own_lt]; omega)
      refine own_to (fun t k => XS.icmpNo X43.here hx rfl (hb hby at_174) rfl (teq hc174).2 k) ?_
      show own_Out p e below _ T43 (mkF m 177 #[.val (.int x0), .val (.int x1), .val (.int x2), .val (.int x3), .val (.int (2 : Int32)), .val (.int l1), .val (.int l2), .val (.int (0 : Int32)), .val (.int tt), .val (.int s1), .val (.int s2), .val (.ref ob36), .val (.ref ob41), .val (.int (1 : Int32)), .unset, .unset] []) _ _ _
      refine own_to (fun t k => XS.iconst X43.here hx rfl (hb hby at_177) k) ?_
      show own_Out p e below _ T43 (mkF m 178 #[.val (.int x0), .val (.int x1), .val (.int x2), .val (.int x3), .val (.int (2 : Int32)), .val (.int l1), .val (.int l2), .val (.int (0 : Int32)), .val (.int tt), .val (.int s1), .val (.int s2), .val (.ref ob36), .val (.ref ob41), .val (.int (1 : Int32)), .unset, .unset] [(.int (1 : Int32))]) _ _ _
      refine own_to (fun t k => XS.goto X43.here hx rfl (pc0 := 178) (pc' := 182) rfl (hb hby at_178) (by decide) (by decide) k) ?_
      show own_Out p e below _ T43 (mkF m 182 #[.val (.int x0), .val (.int x1), .val (.int x2), .val (.int x3), .val (.int (2 : Int32)), .val (.int l1), .val (.int l2), .val (.int (0 : Int32)), .val (.int tt), .val (.int s1), .val (.int s2), .val (.ref ob36), .val (.ref ob41), .val (.int (1 : Int32)), .unset, .unset] [(.int (1 : Int32))]) _ _ _
      refine own_to (fun t k => XS.istore X43.here hx rfl (hb hby at_182) rfl (l' := #[.val (.int x0), .val (.int x1), .val (.int x2), .val (.int x3), .val (.int (2 : Int32)), .val (.int l1), .val (.int l2), .val (.int (0 : Int32)), .val (.int tt), .val (.int s1), .val (.int s2), .val (.ref ob36), .val (.ref ob41), .val (.int (1 : Int32)), .val (.int (1 : Int32)), .unset]) rfl k) ?_
      show own_Out p e below _ T43 (mkF m 184 #[.val (.int x0), .val (.int x1), .val (.int x2), .val (.int x3), .val (.int (2 : Int32)), .val (.int l1), .val (.int l2), .val (.int (0 : Int32)), .val (.int tt), .val (.int s1), .val (.int s2), .val (.ref ob36), .val (.ref ob41), .val (.int (1 : Int32)), .val (.int (1 : Int32)), .unset] []) _ _ _
      refine own_to (fun t k => XS.iload X43.here hx rfl (hb hby at_184) rfl k) ?_
      show own_Out p e below _ T43 (mkF m 186 #[.val (.int x0), .val (.int x1), .val (.int x2), .val (.int x3), .val (.int (2 : Int32)), .val (.int l1), .val (.int l2), .val (.int (0 : Int32)), .val (.int tt), .val (.int s1), .val (.int s2), .val (.ref ob36), .val (.ref ob41), .val (.int (1 : Int32)), .val (.int (1 : Int32)), .unset] [(.int (1 : Int32))]) _ _ _
      have hc186 : ¬ ((1 : Int32) = (0 : Int32)) := by decide
      refine own_to (fun t k => XS.ifNo X43.here hx rfl (hb hby at_186) rfl ((if0 _ _).trans (feq hc186).1) k) ?_
      show own_Out p e below _ T43 (mkF m 189 #[.val (.int x0), .val (.int x1), .val (.int x2), .val (.int x3), .val (.int (2 : Int32)), .val (.int l1), .val (.int l2), .val (.int (0 : Int32)), .val (.int tt), .val (.int s1), .val (.int s2), .val (.ref ob36), .val (.ref ob41), .val (.int (1 : Int32)), .val (.int (1 : Int32)), .unset] []) _ _ _
      refine own_to (fun t k => XS.aload X43.here hx rfl (hb hby at_189) rfl rfl k) ?_
      show own_Out p e below _ T43 (mkF m 191 #[.val (.int x0), .val (.int x1), .val (.int x2), .val (.int x3), .val (.int (2 : Int32)), .val (.int l1), .val (.int l2), .val (.int (0 : Int32)), .val (.int tt), .val (.int s1), .val (.int s2), .val (.ref ob36), .val (.ref ob41), .val (.int (1 : Int32)), .val (.int (1 : Int32)), .unset] [(.ref ob41)]) _ _ _
      refine own_callV X43 hx hZ hown (a := ob41) (argsL := []) (rest := []) (hw _ (List.mem_of_getElem? (i := 23) rfl)) (hw _ (List.mem_of_getElem? (i := 24) rfl)) (hw _ (List.mem_of_getElem? (i := 26) rfl)) (hw _ (List.mem_of_getElem? (i := 25) rfl)) (hw _ (List.mem_of_getElem? (i := 7) rfl)) (hw _ (List.mem_of_getElem? (i := 27) rfl)) (by decide) (rm5 l Z a0 hw ob41 (0 : Int32) nn hh42 n0 Z0 F_ob41_position F_ob41_end) (by decide) (by decide) e43 E_ob41 rfl (by rw [hml]; rfl) (lenOf pd_1 rfl) rfl (W := 0) (by show 2 * 0 + _ ≤ _; exact Nat.le_of_eq rfl) (hb hby at_191) (by decide) (by decide) fun v44 T44 hh44 L44 X44 e44 hQ44 => ?_
      obtain ⟨rfl, NL44, he44⟩ := hQ44
      replace e44 := e44.trans he44
      have N44 := Fr.app N43 NL44
      show own_Out p e below _ T44 (mkF m 194 #[.val (.int x0), .val (.int x1), .val (.int x2), .val (.int x3), .val (.int (2 : Int32)), .val (.int l1), .val (.int l2), .val (.int (0 : Int32)), .val (.int tt), .val (.int s1), .val (.int s2), .val (.ref ob36), .val (.ref ob41), .val (.int (1 : Int32)), .val (.int (1 : Int32)), .unset] [(.int (R5 ob41 (0 : Int32) nn))]) _ _ _
      refine own_to (fun t k => XS.iload X44.here hx rfl (hb hby at_194) rfl k) ?_
      show own_Out p e below _ T44 (mkF m 196 #[.val (.int x0), .val (.int x1), .val (.int x2), .val (.int x3), .val (.int (2 : Int32)), .val (.int l1), .val (.int l2), .val (.int (0 : Int32)), .val (.int tt), .val (.int s1), .val (.int s2), .val (.ref ob36), .val (.ref ob41), .val (.int (1 : Int32)), .val (.int (1 : Int32)), .unset] [(.int (1 : Int32)), (.int (R5 ob41 (0 : Int32) nn))]) _ _ _
      have hc196 : (R5 ob41 (0 : Int32) nn) = (1 : Int32) := own_hn1 _ _ _ (by rw [own_lt]; omega)
      refine own_to (fun t k => XS.icmpNo X44.here hx rfl (hb hby at_196) rfl (teq hc196).2 k) ?_
      show own_Out p e below _ T44 (mkF m 199 #[.val (.int x0), .val (.int x1), .val (.int x2), .val (.int x3), .val (.int (2 : Int32)), .val (.int l1), .val (.int l2), .val (.int (0 : Int32)), .val (.int tt), .val (.int s1), .val (.int s2), .val (.ref ob36), .val (.ref ob41), .val (.int (1 : Int32)), .val (.int (1 : Int32)), .unset] []) _ _ _
      refine own_to (fun t k => XS.iconst X44.here hx rfl (hb hby at_199) k) ?_
      show own_Out p e below _ T44 (mkF m 200 #[.val (.int x0), .val (.int x1), .val (.int x2), .val (.int x3), .val (.int (2 : Int32)), .val (.int l1), .val (.int l2), .val (.int (0 : Int32)), .val (.int tt), .val (.int s1), .val (.int s2), .val (.ref ob36), .val (.ref ob41), .val (.int (1 : Int32)), .val (.int (1 : Int32)), .unset] [(.int (1 : Int32))]) _ _ _
      refine own_to (fun t k => XS.goto X44.here hx rfl (pc0 := 200) (pc' := 204) rfl (hb hby at_200) (by decide) (by decide) k) ?_
      show own_Out p e below _ T44 (mkF m 204 #[.val (.int x0), .val (.int x1), .val (.int x2), .val (.int x3), .val (.int (2 : Int32)), .val (.int l1), .val (.int l2), .val (.int (0 : Int32)), .val (.int tt), .val (.int s1), .val (.int s2), .val (.ref ob36), .val (.ref ob41), .val (.int (1 : Int32)), .val (.int (1 : Int32)), .unset] [(.int (1 : Int32))]) _ _ _
      refine own_to (fun t k => XS.istore X44.here hx rfl (hb hby at_204) rfl (l' := #[.val (.int x0), .val (.int x1), .val (.int x2), .val (.int x3), .val (.int (2 : Int32)), .val (.int l1), .val (.int l2), .val (.int (0 : Int32)), .val (.int tt), .val (.int s1), .val (.int s2), .val (.ref ob36), .val (.ref ob41), .val (.int (1 : Int32)), .val (.int (1 : Int32)), .unset]) rfl k) ?_
      show own_Out p e below _ T44 (mkF m 206 #[.val (.int x0), .val (.int x1), .val (.int x2), .val (.int x3), .val (.int (2 : Int32)), .val (.int l1), .val (.int l2), .val (.int (0 : Int32)), .val (.int tt), .val (.int s1), .val (.int s2), .val (.ref ob36), .val (.ref ob41), .val (.int (1 : Int32)), .val (.int (1 : Int32)), .unset] []) _ _ _
      refine own_to (fun t k => XS.iload X44.here hx rfl (hb hby at_206) rfl k) ?_
      show own_Out p e below _ T44 (mkF m 208 #[.val (.int x0), .val (.int x1), .val (.int x2), .val (.int x3), .val (.int (2 : Int32)), .val (.int l1), .val (.int l2), .val (.int (0 : Int32)), .val (.int tt), .val (.int s1), .val (.int s2), .val (.ref ob36), .val (.ref ob41), .val (.int (1 : Int32)), .val (.int (1 : Int32)), .unset] [(.int (2 : Int32))]) _ _ _
      refine own_to (fun t k => XS.iconst X44.here hx rfl (hb hby at_208) k) ?_
      show own_Out p e below _ T44 (mkF m 209 #[.val (.int x0), .val (.int x1), .val (.int x2), .val (.int x3), .val (.int (2 : Int32)), .val (.int l1), .val (.int l2), .val (.int (0 : Int32)), .val (.int tt), .val (.int s1), .val (.int s2), .val (.ref ob36), .val (.ref ob41), .val (.int (1 : Int32)), .val (.int (1 : Int32)), .unset] [(.int (1 : Int32)), (.int (2 : Int32))]) _ _ _
      have hc209 : ¬ ((2 : Int32) < (1 : Int32)) := by decide
      refine own_to (fun t k => XS.icmpNo X44.here hx rfl (hb hby at_209) rfl (flt hc209).1 k) ?_
      show own_Out p e below _ T44 (mkF m 212 #[.val (.int x0), .val (.int x1), .val (.int x2), .val (.int x3), .val (.int (2 : Int32)), .val (.int l1), .val (.int l2), .val (.int (0 : Int32)), .val (.int tt), .val (.int s1), .val (.int s2), .val (.ref ob36), .val (.ref ob41), .val (.int (1 : Int32)), .val (.int (1 : Int32)), .unset] []) _ _ _
      refine own_to (fun t k => XS.aload X44.here hx rfl (hb hby at_212) rfl rfl k) ?_
      show own_Out p e below _ T44 (mkF m 214 #[.val (.int x0), .val (.int x1), .val (.int x2), .val (.int x3), .val (.int (2 : Int32)), .val (.int l1), .val (.int l2), .val (.int (0 : Int32)), .val (.int tt), .val (.int s1), .val (.int s2), .val (.ref ob36), .val (.ref ob41), .val (.int (1 : Int32)), .val (.int (1 : Int32)), .unset] [(.ref ob41)]) _ _ _
      refine own_callVW X44 hx hZ hown hS hk (a := ob41) (argsL := []) (rest := []) (hw _ (List.mem_of_getElem? (i := 28) rfl)) (hw _ (List.mem_of_getElem? (i := 29) rfl)) (hw _ (List.mem_of_getElem? (i := 31) rfl)) (hw _ (List.mem_of_getElem? (i := 30) rfl)) (hw _ (List.mem_of_getElem? (i := 7) rfl)) (hw _ (List.mem_of_getElem? (i := 32) rfl)) (by decide) (rm6 l Z a0 hw ob41 (0 : Int32) nn ob36 (nn.toNatClampNeg) (own_upd (own_upd (own_upd (own_upd (fun _ => 0) ((0 : Int32).toNatClampNeg) (nar .byte (tt.toInt8.toInt32))) ((1 : Int32).toNatClampNeg) (nar .byte (l1.toInt8.toInt32))) (s1.toNatClampNeg) (nar .byte (tt.toInt8.toInt32))) ((s1 + (1 : Int32)).toNatClampNeg) (nar .byte (l2.toInt8.toInt32))) (tt &&& (255 : Int32)) l1 hh42 n0 Z0 E_ob41 F_ob41_bytes F_ob41_position F_ob41_end A_ob36 g_ob41 ne_ob36_ob41 (by rw [own_lt]; omega) (⟨own_ge (by omega), (by simp only [own_nn] <;> omega)⟩) ((congrArg (fun z => z &&& (255 : Int32)) ((own_miss (by simp only [own_nn] <;> omega)).trans ((own_miss (by simp only [own_nn] <;> omega)).trans ((own_miss (by simp only [own_nn] <;> omega)).trans (own_hit (by simp only [own_nn] <;> omega)))))).trans (own_by tt)).symm (by rw [own_lt]; omega) (⟨own_ge (by omega), (by simp only [own_nn] <;> omega)⟩) (((congrArg (fun z => z &&& (255 : Int32)) ((own_miss (by simp only [own_nn] <;> omega)).trans ((own_miss (by simp only [own_nn] <;> omega)).trans (own_hit (by simp only [own_nn] <;> omega))))).trans (own_by l1)).trans (own_l255 l1 b_l1)).symm htt (own_l128 l1 b_l1) (own_wide _ _ (by have q := own_sb nn (((0 : Int32) + (1 : Int32)) + (1 : Int32)) (by omega) (by omega); omega))) (by decide) (by decide) e44 E_ob41 rfl (by rw [hml]; rfl) (lenOf pd_6 rfl) rfl (W := 0) (by show 2 * 0 + _ ≤ _; exact Nat.le_of_eq rfl) (hb hby at_214) (by decide) (by decide) fun v45 T45 hh45 L45 X45 e45 hQ45 hZ hown hS => ?_
      obtain ⟨NL45, KK45, ob45el, rfl, szc_ob45el, P45_0, P45_1, P45_2, P45_3, P45_4, P45_5, P45_6, P45_7, P45_8⟩ := hQ45
      have ne_ob36_ob45el : ob36 ≠ ob45el := Nat.ne_of_lt (Nat.lt_of_lt_of_le A_ob36.lt szc_ob45el)
      have ne_ob45el_ob36 := Ne.symm ne_ob36_ob45el
      have ne_ob41_ob45el : ob41 ≠ ob45el := Nat.ne_of_lt (Nat.lt_of_lt_of_le E_ob41.lt szc_ob45el)
      have ne_ob45el_ob41 := Ne.symm ne_ob41_ob45el
      have g_ob45el : n0 ≤ ob45el := Nat.le_trans Z0 szc_ob45el
      have A_ob36 := A_ob36.keep KK45 (by simp [ne_ob36_ob41])
      have E_ob41 := E_ob41.keep KK45
      have F_ob41_bytes := P45_0
      have F_ob41_position := P45_1
      have F_ob41_end := P45_2
      have E_ob45el := P45_3
      have F_ob45el_bytes := P45_4
      have F_ob45el_tag := P45_5
      have F_ob45el_start := P45_6
      have F_ob45el_contents := P45_7
      have F_ob45el_end := P45_8
      have Z0 := Nat.le_trans Z0 KK45.1
      have hk := Nat.le_refl hh45.size
      have N45 := Fr.app N44 NL45
      show own_Out p e below _ T45 (mkF m 217 #[.val (.int x0), .val (.int x1), .val (.int x2), .val (.int x3), .val (.int (2 : Int32)), .val (.int l1), .val (.int l2), .val (.int (0 : Int32)), .val (.int tt), .val (.int s1), .val (.int s2), .val (.ref ob36), .val (.ref ob41), .val (.int (1 : Int32)), .val (.int (1 : Int32)), .unset] [(.ref ob45el)]) _ _ _
      have h_p1 : ((((0 : Int32) + (1 : Int32)) + (1 : Int32)) + ((l1.toInt64).toInt32)) = s1 := by rw [own_bk]; apply Int32.toInt_inj.mp; rw [own_ad _ _ (by omega) (by omega)]; omega
      rw [h_p1] at F_ob41_position
      rw [h_p1] at F_ob45el_end
      refine own_to (fun t k => XS.astore X45.here hx rfl (hb hby at_217) rfl rfl (l' := #[.val (.int x0), .val (.int x1), .val (.int x2), .val (.int x3), .val (.int (2 : Int32)), .val (.int l1), .val (.int l2), .val (.int (0 : Int32)), .val (.int tt), .val (.int s1), .val (.int s2), .val (.ref ob36), .val (.ref ob41), .val (.int (1 : Int32)), .val (.int (1 : Int32)), .val (.ref ob45el)]) rfl k) ?_
      show own_Out p e below _ T45 (mkF m 219 #[.val (.int x0), .val (.int x1), .val (.int x2), .val (.int x3), .val (.int (2 : Int32)), .val (.int l1), .val (.int l2), .val (.int (0 : Int32)), .val (.int tt), .val (.int s1), .val (.int s2), .val (.ref ob36), .val (.ref ob41), .val (.int (1 : Int32)), .val (.int (1 : Int32)), .val (.ref ob45el)] []) _ _ _
      refine own_to (fun t k => XS.iload X45.here hx rfl (hb hby at_219) rfl k) ?_
      show own_Out p e below _ T45 (mkF m 221 #[.val (.int x0), .val (.int x1), .val (.int x2), .val (.int x3), .val (.int (2 : Int32)), .val (.int l1), .val (.int l2), .val (.int (0 : Int32)), .val (.int tt), .val (.int s1), .val (.int s2), .val (.ref ob36), .val (.ref ob41), .val (.int (1 : Int32)), .val (.int (1 : Int32)), .val (.ref ob45el)] [(.int (1 : Int32))]) _ _ _
      have hc221 : ¬ ((1 : Int32) = (0 : Int32)) := by decide
      refine own_to (fun t k => XS.ifNo X45.here hx rfl (hb hby at_221) rfl ((if0 _ _).trans (feq hc221).1) k) ?_
      show own_Out p e below _ T45 (mkF m 224 #[.val (.int x0), .val (.int x1), .val (.int x2), .val (.int x3), .val (.int (2 : Int32)), .val (.int l1), .val (.int l2), .val (.int (0 : Int32)), .val (.int tt), .val (.int s1), .val (.int s2), .val (.ref ob36), .val (.ref ob41), .val (.int (1 : Int32)), .val (.int (1 : Int32)), .val (.ref ob45el)] []) _ _ _
      refine own_to (fun t k => XS.aload X45.here hx rfl (hb hby at_224) rfl rfl k) ?_
      show own_Out p e below _ T45 (mkF m 226 #[.val (.int x0), .val (.int x1), .val (.int x2), .val (.int x3), .val (.int (2 : Int32)), .val (.int l1), .val (.int l2), .val (.int (0 : Int32)), .val (.int tt), .val (.int s1), .val (.int s2), .val (.ref ob36), .val (.ref ob41), .val (.int (1 : Int32)), .val (.int (1 : Int32)), .val (.ref ob45el)] [(.ref ob41)]) _ _ _
      refine own_callV X45 hx hZ hown (a := ob41) (argsL := []) (rest := []) (hw _ (List.mem_of_getElem? (i := 23) rfl)) (hw _ (List.mem_of_getElem? (i := 24) rfl)) (hw _ (List.mem_of_getElem? (i := 26) rfl)) (hw _ (List.mem_of_getElem? (i := 25) rfl)) (hw _ (List.mem_of_getElem? (i := 7) rfl)) (hw _ (List.mem_of_getElem? (i := 27) rfl)) (by decide) (rm5 l Z a0 hw ob41 s1 nn hh45 n0 Z0 F_ob41_position F_ob41_end) (by decide) (by decide) e45 E_ob41 rfl (by rw [hml]; rfl) (lenOf pd_1 rfl) rfl (W := 0) (by show 2 * 0 + _ ≤ _; exact Nat.le_of_eq rfl) (hb hby at_226) (by decide) (by decide) fun v46 T46 hh46 L46 X46 e46 hQ46 => ?_
      obtain ⟨rfl, NL46, he46⟩ := hQ46
      replace e46 := e46.trans he46
      have N46 := Fr.app N45 NL46
      show own_Out p e below _ T46 (mkF m 229 #[.val (.int x0), .val (.int x1), .val (.int x2), .val (.int x3), .val (.int (2 : Int32)), .val (.int l1), .val (.int l2), .val (.int (0 : Int32)), .val (.int tt), .val (.int s1), .val (.int s2), .val (.ref ob36), .val (.ref ob41), .val (.int (1 : Int32)), .val (.int (1 : Int32)), .val (.ref ob45el)] [(.int (R5 ob41 s1 nn))]) _ _ _
      refine own_to (fun t k => XS.iload X46.here hx rfl (hb hby at_229) rfl k) ?_
      show own_Out p e below _ T46 (mkF m 231 #[.val (.int x0), .val (.int x1), .val (.int x2), .val (.int x3), .val (.int (2 : Int32)), .val (.int l1), .val (.int l2), .val (.int (0 : Int32)), .val (.int tt), .val (.int s1), .val (.int s2), .val (.ref ob36), .val (.ref ob41), .val (.int (1 : Int32)), .val (.int (1 : Int32)), .val (.ref ob45el)] [(.int (2 : Int32)), (.int (R5 ob41 s1 nn))]) _ _ _
      refine own_to (fun t k => XS.iconst X46.here hx rfl (hb hby at_231) k) ?_
      show own_Out p e below _ T46 (mkF m 232 #[.val (.int x0), .val (.int x1), .val (.int x2), .val (.int x3), .val (.int (2 : Int32)), .val (.int l1), .val (.int l2), .val (.int (0 : Int32)), .val (.int tt), .val (.int s1), .val (.int s2), .val (.ref ob36), .val (.ref ob41), .val (.int (1 : Int32)), .val (.int (1 : Int32)), .val (.ref ob45el)] [(.int (2 : Int32)), (.int (2 : Int32)), (.int (R5 ob41 s1 nn))]) _ _ _
      have hc232 : ¬ ((2 : Int32) < (2 : Int32)) := by decide
      refine own_to (fun t k => XS.icmpYes X46.here hx rfl (pc0 := 232) (pc' := 241) rfl (hb hby at_232) rfl (flt hc232).2.1 (by decide) (by decide) k) ?_
      show own_Out p e below _ T46 (mkF m 241 #[.val (.int x0), .val (.int x1), .val (.int x2), .val (.int x3), .val (.int (2 : Int32)), .val (.int l1), .val (.int l2), .val (.int (0 : Int32)), .val (.int tt), .val (.int s1), .val (.int s2), .val (.ref ob36), .val (.ref ob41), .val (.int (1 : Int32)), .val (.int (1 : Int32)), .val (.ref ob45el)] [(.int (R5 ob41 s1 nn))]) _ _ _
      refine own_to (fun t k => XS.iconst X46.here hx rfl (hb hby at_241) k) ?_
      show own_Out p e below _ T46 (mkF m 242 #[.val (.int x0), .val (.int x1), .val (.int x2), .val (.int x3), .val (.int (2 : Int32)), .val (.int l1), .val (.int l2), .val (.int (0 : Int32)), .val (.int tt), .val (.int s1), .val (.int s2), .val (.ref ob36), .val (.ref ob41), .val (.int (1 : Int32)), .val (.int (1 : Int32)), .val (.ref ob45el)] [(.int (1 : Int32)), (.int (R5 ob41 s1 nn))]) _ _ _
      refine own_to (fun t k => XS.goto X46.here hx rfl (pc0 := 242) (pc' := 246) rfl (hb hby at_242) (by decide) (by decide) k) ?_
      show own_Out p e below _ T46 (mkF m 246 #[.val (.int x0), .val (.int x1), .val (.int x2), .val (.int x3), .val (.int (2 : Int32)), .val (.int l1), .val (.int l2), .val (.int (0 : Int32)), .val (.int tt), .val (.int s1), .val (.int s2), .val (.ref ob36), .val (.ref ob41), .val (.int (1 : Int32)), .val (.int (1 : Int32)), .val (.ref ob45el)] [(.int (1 : Int32)), (.int (R5 ob41 s1 nn))]) _ _ _
      have hc246 : (R5 ob41 s1 nn) = (1 : Int32) := own_hn1 _ _ _ (by rw [own_lt]; omega)
      refine own_to (fun t k => XS.icmpNo X46.here hx rfl (hb hby at_246) rfl (teq hc246).2 k) ?_
      show own_Out p e below _ T46 (mkF m 249 #[.val (.int x0), .val (.int x1), .val (.int x2), .val (.int x3), .val (.int (2 : Int32)), .val (.int l1), .val (.int l2), .val (.int (0 : Int32)), .val (.int tt), .val (.int s1), .val (.int s2), .val (.ref ob36), .val (.ref ob41), .val (.int (1 : Int32)), .val (.int (1 : Int32)), .val (.ref ob45el)] []) _ _ _
      refine own_to (fun t k => XS.iconst X46.here hx rfl (hb hby at_249) k) ?_
      show own_Out p e below _ T46 (mkF m 250 #[.val (.int x0), .val (.int x1), .val (.int x2), .val (.int x3), .val (.int (2 : Int32)), .val (.int l1), .val (.int l2), .val (.int (0 : Int32)), .val (.int tt), .val (.int s1), .val (.int s2), .val (.ref ob36), .val (.ref ob41), .val (.int (1 : Int32)), .val (.int (1 : Int32)), .val (.ref ob45el)] [(.int (1 : Int32))]) _ _ _
      refine own_to (fun t k => XS.goto X46.here hx rfl (pc0 := 250) (pc' := 254) rfl (hb hby at_250) (by decide) (by decide) k) ?_
      show own_Out p e below _ T46 (mkF m 254 #[.val (.int x0), .val (.int x1), .val (.int x2), .val (.int x3), .val (.int (2 : Int32)), .val (.int l1), .val (.int l2), .val (.int (0 : Int32)), .val (.int tt), .val (.int s1), .val (.int s2), .val (.ref ob36), .val (.ref ob41), .val (.int (1 : Int32)), .val (.int (1 : Int32)), .val (.ref ob45el)] [(.int (1 : Int32))]) _ _ _
      refine own_to (fun t k => XS.istore X46.here hx rfl (hb hby at_254) rfl (l' := #[.val (.int x0), .val (.int x1), .val (.int x2), .val (.int x3), .val (.int (2 : Int32)), .val (.int l1), .val (.int l2), .val (.int (0 : Int32)), .val (.int tt), .val (.int s1), .val (.int s2), .val (.ref ob36), .val (.ref ob41), .val (.int (1 : Int32)), .val (.int (1 : Int32)), .val (.ref ob45el)]) rfl k) ?_
      show own_Out p e below _ T46 (mkF m 256 #[.val (.int x0), .val (.int x1), .val (.int x2), .val (.int x3), .val (.int (2 : Int32)), .val (.int l1), .val (.int l2), .val (.int (0 : Int32)), .val (.int tt), .val (.int s1), .val (.int s2), .val (.ref ob36), .val (.ref ob41), .val (.int (1 : Int32)), .val (.int (1 : Int32)), .val (.ref ob45el)] []) _ _ _
      refine own_to (fun t k => XS.iload X46.here hx rfl (hb hby at_256) rfl k) ?_
      show own_Out p e below _ T46 (mkF m 258 #[.val (.int x0), .val (.int x1), .val (.int x2), .val (.int x3), .val (.int (2 : Int32)), .val (.int l1), .val (.int l2), .val (.int (0 : Int32)), .val (.int tt), .val (.int s1), .val (.int s2), .val (.ref ob36), .val (.ref ob41), .val (.int (1 : Int32)), .val (.int (1 : Int32)), .val (.ref ob45el)] [(.int (1 : Int32))]) _ _ _
      have hc258 : ¬ ((1 : Int32) = (0 : Int32)) := by decide
      refine own_to (fun t k => XS.ifNo X46.here hx rfl (hb hby at_258) rfl ((if0 _ _).trans (feq hc258).1) k) ?_
      show own_Out p e below _ T46 (mkF m 261 #[.val (.int x0), .val (.int x1), .val (.int x2), .val (.int x3), .val (.int (2 : Int32)), .val (.int l1), .val (.int l2), .val (.int (0 : Int32)), .val (.int tt), .val (.int s1), .val (.int s2), .val (.ref ob36), .val (.ref ob41), .val (.int (1 : Int32)), .val (.int (1 : Int32)), .val (.ref ob45el)] []) _ _ _
      refine own_to (fun t k => XS.aload X46.here hx rfl (hb hby at_261) rfl rfl k) ?_
      show own_Out p e below _ T46 (mkF m 263 #[.val (.int x0), .val (.int x1), .val (.int x2), .val (.int x3), .val (.int (2 : Int32)), .val (.int l1), .val (.int l2), .val (.int (0 : Int32)), .val (.int tt), .val (.int s1), .val (.int s2), .val (.ref ob36), .val (.ref ob41), .val (.int (1 : Int32)), .val (.int (1 : Int32)), .val (.ref ob45el)] [(.ref ob45el)]) _ _ _
      refine own_callV X46 hx hZ hown (a := ob45el) (argsL := []) (rest := []) (hw _ (List.mem_of_getElem? (i := 64) rfl)) (hw _ (List.mem_of_getElem? (i := 65) rfl)) (hw _ (List.mem_of_getElem? (i := 67) rfl)) (hw _ (List.mem_of_getElem? (i := 66) rfl)) (hw _ (List.mem_of_getElem? (i := 49) rfl)) (hw _ (List.mem_of_getElem? (i := 68) rfl)) (by decide) (rm9 l Z a0 hw ob45el ob36 (((0 : Int32) + (1 : Int32)) + (1 : Int32)) s1 hh45 n0 Z0 F_ob45el_bytes F_ob45el_contents F_ob45el_end) (by decide) (by decide) e46 E_ob45el rfl (by rw [hml]; rfl) (lenOf pd_7 rfl) rfl (W := 0) (by show 2 * 0 + _ ≤ _; exact Nat.le_of_eq rfl) (hb hby at_263) (by decide) (by decide) fun v47 T47 hh47 L47 X47 e47 hQ47 => ?_
      obtain ⟨NL47, KK47, ob47rd, rfl, szc_ob47rd, P47_0, P47_1, P47_2, P47_3⟩ := hQ47
      have ne_ob36_ob47rd : ob36 ≠ ob47rd := Nat.ne_of_lt (Nat.lt_of_lt_of_le A_ob36.lt szc_ob47rd)
      have ne_ob47rd_ob36 := Ne.symm ne_ob36_ob47rd
      have ne_ob41_ob47rd : ob41 ≠ ob47rd := Nat.ne_of_lt (Nat.lt_of_lt_of_le E_ob41.lt szc_ob47rd)
      have ne_ob47rd_ob41 := Ne.symm ne_ob41_ob47rd
      have ne_ob45el_ob47rd : ob45el ≠ ob47rd := Nat.ne_of_lt (Nat.lt_of_lt_of_le E_ob45el.lt szc_ob47rd)
      have ne_ob47rd_ob45el := Ne.symm ne_ob45el_ob47rd
      have g_ob47rd : n0 ≤ ob47rd := Nat.le_trans Z0 szc_ob47rd
      have A_ob36 := A_ob36.keep KK47 (by simp [])
      have E_ob41 := E_ob41.keep KK47
      have F_ob41_bytes := F_ob41_bytes.keep KK47 (by simp [])
      have F_ob41_position := F_ob41_position.keep KK47 (by simp [])
      have F_ob41_end := F_ob41_end.keep KK47 (by simp [])
      have E_ob45el := E_ob45el.keep KK47
      have F_ob45el_bytes := F_ob45el_bytes.keep KK47 (by simp [])
      have F_ob45el_tag := F_ob45el_tag.keep KK47 (by simp [])
      have F_ob45el_start := F_ob45el_start.keep KK47 (by simp [])
      have F_ob45el_contents := F_ob45el_contents.keep KK47 (by simp [])
      have F_ob45el_end := F_ob45el_end.keep KK47 (by simp [])
      have E_ob47rd := P47_0
      have F_ob47rd_bytes := P47_1
      have F_ob47rd_position := P47_2
      have F_ob47rd_end := P47_3
      have Z0 := Nat.le_trans Z0 KK47.1
      have hk := Nat.le_trans hk KK47.1
      have N47 := Fr.app N46 NL47
      show own_Out p e below _ T47 (mkF m 266 #[.val (.int x0), .val (.int x1), .val (.int x2), .val (.int x3), .val (.int (2 : Int32)), .val (.int l1), .val (.int l2), .val (.int (0 : Int32)), .val (.int tt), .val (.int s1), .val (.int s2), .val (.ref ob36), .val (.ref ob41), .val (.int (1 : Int32)), .val (.int (1 : Int32)), .val (.ref ob45el)] [(.ref ob47rd)]) _ _ _
      refine own_callV X47 hx hZ hown (a := ob47rd) (argsL := []) (rest := []) (hw _ (List.mem_of_getElem? (i := 23) rfl)) (hw _ (List.mem_of_getElem? (i := 24) rfl)) (hw _ (List.mem_of_getElem? (i := 26) rfl)) (hw _ (List.mem_of_getElem? (i := 25) rfl)) (hw _ (List.mem_of_getElem? (i := 7) rfl)) (hw _ (List.mem_of_getElem? (i := 27) rfl)) (by decide) (rm5 l Z a0 hw ob47rd (((0 : Int32) + (1 : Int32)) + (1 : Int32)) s1 hh47 n0 Z0 F_ob47rd_position F_ob47rd_end) (by decide) (by decide) e47 E_ob47rd rfl (by rw [hml]; rfl) (lenOf pd_1 rfl) rfl (W := 0) (by show 2 * 0 + _ ≤ _; exact Nat.le_of_eq rfl) (hb hby at_266) (by decide) (by decide) fun v48 T48 hh48 L48 X48 e48 hQ48 => ?_
      obtain ⟨rfl, NL48, he48⟩ := hQ48
      replace e48 := e48.trans he48
      have N48 := Fr.app N47 NL48
      show own_Out p e below _ T48 (mkF m 269 #[.val (.int x0), .val (.int x1), .val (.int x2), .val (.int x3), .val (.int (2 : Int32)), .val (.int l1), .val (.int l2), .val (.int (0 : Int32)), .val (.int tt), .val (.int s1), .val (.int s2), .val (.ref ob36), .val (.ref ob41), .val (.int (1 : Int32)), .val (.int (1 : Int32)), .val (.ref ob45el)] [(.int (R5 ob47rd (((0 : Int32) + (1 : Int32)) + (1 : Int32)) s1))]) _ _ _
      refine own_to (fun t k => XS.iload X48.here hx rfl (hb hby at_269) rfl k) ?_
      show own_Out p e below _ T48 (mkF m 271 #[.val (.int x0), .val (.int x1), .val (.int x2), .val (.int x3), .val (.int (2 : Int32)), .val (.int l1), .val (.int l2), .val (.int (0 : Int32)), .val (.int tt), .val (.int s1), .val (.int s2), .val (.ref ob36), .val (.ref ob41), .val (.int (1 : Int32)), .val (.int (1 : Int32)), .val (.ref ob45el)] [(.int l1), (.int (R5 ob47rd (((0 : Int32) + (1 : Int32)) + (1 : Int32)) s1))]) _ _ _
      by_cases hc271 : (0 : Int32) < l1
      · refine own_to (fun t k => XS.ifNo X48.here hx rfl (hb hby at_271) rfl ((if0 _ _).trans (tlt hc271).2.2.2) k) ?_
        show own_Out p e below _ T48 (mkF m 274 #[.val (.int x0), .val (.int x1), .val (.int x2), .val (.int x3), .val (.int (2 : Int32)), .val (.int l1), .val (.int l2), .val (.int (0 : Int32)), .val (.int tt), .val (.int s1), .val (.int s2), .val (.ref ob36), .val (.ref ob41), .val (.int (1 : Int32)), .val (.int (1 : Int32)), .val (.ref ob45el)] [(.int (R5 ob47rd (((0 : Int32) + (1 : Int32)) + (1 : Int32)) s1))]) _ _ _
        refine own_to (fun t k => XS.iconst X48.here hx rfl (hb hby at_274) k) ?_
        show own_Out p e below _ T48 (mkF m 275 #[.val (.int x0), .val (.int x1), .val (.int x2), .val (.int x3), .val (.int (2 : Int32)), .val (.int l1), .val (.int l2), .val (.int (0 : Int32)), .val (.int tt), .val (.int s1), .val (.int s2), .val (.ref ob36), .val (.ref ob41), .val (.int (1 : Int32)), .val (.int (1 : Int32)), .val (.ref ob45el)] [(.int (1 : Int32)), (.int (R5 ob47rd (((0 : Int32) + (1 : Int32)) + (1 : Int32)) s1))]) _ _ _
        refine own_to (fun t k => XS.goto X48.here hx rfl (pc0 := 275) (pc' := 279) rfl (hb hby at_275) (by decide) (by decide) k) ?_
        show own_Out p e below _ T48 (mkF m 279 #[.val (.int x0), .val (.int x1), .val (.int x2), .val (.int x3), .val (.int (2 : Int32)), .val (.int l1), .val (.int l2), .val (.int (0 : Int32)), .val (.int tt), .val (.int s1), .val (.int s2), .val (.ref ob36), .val (.ref ob41), .val (.int (1 : Int32)), .val (.int (1 : Int32)), .val (.ref ob45el)] [(.int (1 : Int32)), (.int (R5 ob47rd (((0 : Int32) + (1 : Int32)) + (1 : Int32)) s1))]) _ _ _
        have hc279 : (R5 ob47rd (((0 : Int32) + (1 : Int32)) + (1 : Int32)) s1) = (1 : Int32) := own_hn1 _ _ _ (by rw [own_lt] at hc271 ⊢; omega)
        refine own_to (fun t k => XS.icmpNo X48.here hx rfl (hb hby at_279) rfl (teq hc279).2 k) ?_
        show own_Out p e below _ T48 (mkF m 282 #[.val (.int x0), .val (.int x1), .val (.int x2), .val (.int x3), .val (.int (2 : Int32)), .val (.int l1), .val (.int l2), .val (.int (0 : Int32)), .val (.int tt), .val (.int s1), .val (.int s2), .val (.ref ob36), .val (.ref ob41), .val (.int (1 : Int32)), .val (.int (1 : Int32)), .val (.ref ob45el)] []) _ _ _
        refine own_to (fun t k => XS.iconst X48.here hx rfl (hb hby at_282) k) ?_
        show own_Out p e below _ T48 (mkF m 283 #[.val (.int x0), .val (.int x1), .val (.int x2), .val (.int x3), .val (.int (2 : Int32)), .val (.int l1), .val (.int l2), .val (.int (0 : Int32)), .val (.int tt), .val (.int s1), .val (.int s2), .val (.ref ob36), .val (.ref ob41), .val (.int (1 : Int32)), .val (.int (1 : Int32)), .val (.ref ob45el)] [(.int (1 : Int32))]) _ _ _
        refine own_to (fun t k => XS.goto X48.here hx rfl (pc0 := 283) (pc' := 287) rfl (hb hby at_283) (by decide) (by decide) k) ?_
        show own_Out p e below _ T48 (mkF m 287 #[.val (.int x0), .val (.int x1), .val (.int x2), .val (.int x3), .val (.int (2 : Int32)), .val (.int l1), .val (.int l2), .val (.int (0 : Int32)), .val (.int tt), .val (.int s1), .val (.int s2), .val (.ref ob36), .val (.ref ob41), .val (.int (1 : Int32)), .val (.int (1 : Int32)), .val (.ref ob45el)] [(.int (1 : Int32))]) _ _ _
        refine own_to (fun t k => XS.istore X48.here hx rfl (hb hby at_287) rfl (l' := #[.val (.int x0), .val (.int x1), .val (.int x2), .val (.int x3), .val (.int (2 : Int32)), .val (.int l1), .val (.int l2), .val (.int (0 : Int32)), .val (.int tt), .val (.int s1), .val (.int s2), .val (.ref ob36), .val (.ref ob41), .val (.int (1 : Int32)), .val (.int (1 : Int32)), .val (.ref ob45el)]) rfl k) ?_
        show own_Out p e below _ T48 (mkF m 289 #[.val (.int x0), .val (.int x1), .val (.int x2), .val (.int x3), .val (.int (2 : Int32)), .val (.int l1), .val (.int l2), .val (.int (0 : Int32)), .val (.int tt), .val (.int s1), .val (.int s2), .val (.ref ob36), .val (.ref ob41), .val (.int (1 : Int32)), .val (.int (1 : Int32)), .val (.ref ob45el)] []) _ _ _
        refine own_to (fun t k => XS.iload X48.here hx rfl (hb hby at_289) rfl k) ?_
        show own_Out p e below _ T48 (mkF m 291 #[.val (.int x0), .val (.int x1), .val (.int x2), .val (.int x3), .val (.int (2 : Int32)), .val (.int l1), .val (.int l2), .val (.int (0 : Int32)), .val (.int tt), .val (.int s1), .val (.int s2), .val (.ref ob36), .val (.ref ob41), .val (.int (1 : Int32)), .val (.int (1 : Int32)), .val (.ref ob45el)] [(.int (2 : Int32))]) _ _ _
        refine own_to (fun t k => XS.iconst X48.here hx rfl (hb hby at_291) k) ?_
        show own_Out p e below _ T48 (mkF m 292 #[.val (.int x0), .val (.int x1), .val (.int x2), .val (.int x3), .val (.int (2 : Int32)), .val (.int l1), .val (.int l2), .val (.int (0 : Int32)), .val (.int tt), .val (.int s1), .val (.int s2), .val (.ref ob36), .val (.ref ob41), .val (.int (1 : Int32)), .val (.int (1 : Int32)), .val (.ref ob45el)] [(.int (2 : Int32)), (.int (2 : Int32))]) _ _ _
        have hc292 : ¬ ((2 : Int32) < (2 : Int32)) := by decide
        refine own_to (fun t k => XS.icmpNo X48.here hx rfl (hb hby at_292) rfl (flt hc292).1 k) ?_
        show own_Out p e below _ T48 (mkF m 295 #[.val (.int x0), .val (.int x1), .val (.int x2), .val (.int x3), .val (.int (2 : Int32)), .val (.int l1), .val (.int l2), .val (.int (0 : Int32)), .val (.int tt), .val (.int s1), .val (.int s2), .val (.ref ob36), .val (.ref ob41), .val (.int (1 : Int32)), .val (.int (1 : Int32)), .val (.ref ob45el)] []) _ _ _
        refine own_to (fun t k => XS.aload X48.here hx rfl (hb hby at_295) rfl rfl k) ?_
        show own_Out p e below _ T48 (mkF m 297 #[.val (.int x0), .val (.int x1), .val (.int x2), .val (.int x3), .val (.int (2 : Int32)), .val (.int l1), .val (.int l2), .val (.int (0 : Int32)), .val (.int tt), .val (.int s1), .val (.int s2), .val (.ref ob36), .val (.ref ob41), .val (.int (1 : Int32)), .val (.int (1 : Int32)), .val (.ref ob45el)] [(.ref ob41)]) _ _ _
        have h_s1q := own_ad (s1 + 1) 1 (by omega) (by omega)
        rw [k1] at h_s1q
        refine own_callVW X48 hx hZ hown hS hk (a := ob41) (argsL := []) (rest := []) (hw _ (List.mem_of_getElem? (i := 28) rfl)) (hw _ (List.mem_of_getElem? (i := 29) rfl)) (hw _ (List.mem_of_getElem? (i := 31) rfl)) (hw _ (List.mem_of_getElem? (i := 30) rfl)) (hw _ (List.mem_of_getElem? (i := 7) rfl)) (hw _ (List.mem_of_getElem? (i := 32) rfl)) (by decide) (rm6 l Z a0 hw ob41 s1 nn ob36 (nn.toNatClampNeg) (own_upd (own_upd (own_upd (own_upd (fun _ => 0) ((0 : Int32).toNatClampNeg) (nar .byte (tt.toInt8.toInt32))) ((1 : Int32).toNatClampNeg) (nar .byte (l1.toInt8.toInt32))) (s1.toNatClampNeg) (nar .byte (tt.toInt8.toInt32))) ((s1 + (1 : Int32)).toNatClampNeg) (nar .byte (l2.toInt8.toInt32))) (tt &&& (255 : Int32)) l2 hh47 n0 Z0 E_ob41 F_ob41_bytes F_ob41_position F_ob41_end A_ob36 g_ob41 ne_ob36_ob41 (by rw [own_lt]; omega) (⟨own_ge (by omega), (by simp only [own_nn] <;> omega)⟩) ((congrArg (fun z => z &&& (255 : Int32)) ((own_miss (by simp only [own_nn] <;> omega)).trans (own_hit (by simp only [own_nn] <;> omega)))).trans (own_by tt)).symm (by rw [own_lt]; omega) (⟨own_ge (by omega), (by simp only [own_nn] <;> omega)⟩) (((congrArg (fun z => z &&& (255 : Int32)) (own_hit (by simp only [own_nn] <;> omega))).trans (own_by l2)).trans (own_l255 l2 b_l2)).symm htt (own_l128 l2 b_l2) (own_wide _ _ (by have q := own_sb nn ((s1 + (1 : Int32)) + (1 : Int32)) (by omega) (by omega); omega))) (by decide) (by decide) e48 E_ob41 rfl (by rw [hml]; rfl) (lenOf pd_6 rfl) rfl (W := 0) (by show 2 * 0 + _ ≤ _; exact Nat.le_of_eq rfl) (hb hby at_297) (by decide) (by decide) fun v49 T49 hh49 L49 X49 e49 hQ49 hZ hown hS => ?_
        obtain ⟨NL49, KK49, ob49el, rfl, szc_ob49el, P49_0, P49_1, P49_2, P49_3, P49_4, P49_5, P49_6, P49_7, P49_8⟩ := hQ49
        have ne_ob36_ob49el : ob36 ≠ ob49el := Nat.ne_of_lt (Nat.lt_of_lt_of_le A_ob36.lt szc_ob49el)
        have ne_ob49el_ob36 := Ne.symm ne_ob36_ob49el
        have ne_ob41_ob49el : ob41 ≠ ob49el := Nat.ne_of_lt (Nat.lt_of_lt_of_le E_ob41.lt szc_ob49el)
        have ne_ob49el_ob41 := Ne.symm ne_ob41_ob49el
        have ne_ob45el_ob49el : ob45el ≠ ob49el := Nat.ne_of_lt (Nat.lt_of_lt_of_le E_ob45el.lt szc_ob49el)
        have ne_ob49el_ob45el := Ne.symm ne_ob45el_ob49el
        have ne_ob47rd_ob49el : ob47rd ≠ ob49el := Nat.ne_of_lt (Nat.lt_of_lt_of_le E_ob47rd.lt szc_ob49el)
        have ne_ob49el_ob47rd := Ne.symm ne_ob47rd_ob49el
        have g_ob49el : n0 ≤ ob49el := Nat.le_trans Z0 szc_ob49el
        have A_ob36 := A_ob36.keep KK49 (by simp [ne_ob36_ob41])
        have E_ob41 := E_ob41.keep KK49
        have E_ob45el := E_ob45el.keep KK49
        have F_ob45el_bytes := F_ob45el_bytes.keep KK49 (by simp [ne_ob45el_ob41])
        have F_ob45el_tag := F_ob45el_tag.keep KK49 (by simp [ne_ob45el_ob41])
        have F_ob45el_start := F_ob45el_start.keep KK49 (by simp [ne_ob45el_ob41])
        have F_ob45el_contents := F_ob45el_contents.keep KK49 (by simp [ne_ob45el_ob41])
        have F_ob45el_end := F_ob45el_end.keep KK49 (by simp [ne_ob45el_ob41])
        have E_ob47rd := E_ob47rd.keep KK49
        have F_ob47rd_bytes := F_ob47rd_bytes.keep KK49 (by simp [ne_ob47rd_ob41])
        have F_ob47rd_position := F_ob47rd_position.keep KK49 (by simp [ne_ob47rd_ob41])
        have F_ob47rd_end := F_ob47rd_end.keep KK49 (by simp [ne_ob47rd_ob41])
        have F_ob41_bytes := P49_0
        have F_ob41_position := P49_1
        have F_ob41_end := P49_2
        have E_ob49el := P49_3
        have F_ob49el_bytes := P49_4
        have F_ob49el_tag := P49_5
        have F_ob49el_start := P49_6
        have F_ob49el_contents := P49_7
        have F_ob49el_end := P49_8
        have Z0 := Nat.le_trans Z0 KK49.1
        have hk := Nat.le_refl hh49.size
        have N49 := Fr.app N48 NL49
        show own_Out p e below _ T49 (mkF m 300 #[.val (.int x0), .val (.int x1), .val (.int x2), .val (.int x3), .val (.int (2 : Int32)), .val (.int l1), .val (.int l2), .val (.int (0 : Int32)), .val (.int tt), .val (.int s1), .val (.int s2), .val (.ref ob36), .val (.ref ob41), .val (.int (1 : Int32)), .val (.int (1 : Int32)), .val (.ref ob45el)] [(.ref ob49el)]) _ _ _
        have h_p2 : (((s1 + (1 : Int32)) + (1 : Int32)) + ((l2.toInt64).toInt32)) = (s1 + s2) := by rw [own_bk]; apply Int32.toInt_inj.mp; rw [own_ad _ _ (by omega) (by omega)]; omega
        rw [h_p2] at F_ob41_position
        rw [h_p2] at F_ob49el_end
        refine own_to (fun t k => XS.astore X49.here hx rfl (hb hby at_300) rfl rfl (l' := #[.val (.int x0), .val (.int x1), .val (.int x2), .val (.int x3), .val (.int (2 : Int32)), .val (.int l1), .val (.int l2), .val (.int (0 : Int32)), .val (.int tt), .val (.int s1), .val (.int s2), .val (.ref ob36), .val (.ref ob41), .val (.int (1 : Int32)), .val (.int (1 : Int32)), .val (.ref ob49el)]) rfl k) ?_
        show own_Out p e below _ T49 (mkF m 302 #[.val (.int x0), .val (.int x1), .val (.int x2), .val (.int x3), .val (.int (2 : Int32)), .val (.int l1), .val (.int l2), .val (.int (0 : Int32)), .val (.int tt), .val (.int s1), .val (.int s2), .val (.ref ob36), .val (.ref ob41), .val (.int (1 : Int32)), .val (.int (1 : Int32)), .val (.ref ob49el)] []) _ _ _
        refine own_to (fun t k => XS.iload X49.here hx rfl (hb hby at_302) rfl k) ?_
        show own_Out p e below _ T49 (mkF m 304 #[.val (.int x0), .val (.int x1), .val (.int x2), .val (.int x3), .val (.int (2 : Int32)), .val (.int l1), .val (.int l2), .val (.int (0 : Int32)), .val (.int tt), .val (.int s1), .val (.int s2), .val (.ref ob36), .val (.ref ob41), .val (.int (1 : Int32)), .val (.int (1 : Int32)), .val (.ref ob49el)] [(.int (1 : Int32))]) _ _ _
        have hc304 : ¬ ((1 : Int32) = (0 : Int32)) := by decide
        refine own_to (fun t k => XS.ifNo X49.here hx rfl (hb hby at_304) rfl ((if0 _ _).trans (feq hc304).1) k) ?_
        show own_Out p e below _ T49 (mkF m 307 #[.val (.int x0), .val (.int x1), .val (.int x2), .val (.int x3), .val (.int (2 : Int32)), .val (.int l1), .val (.int l2), .val (.int (0 : Int32)), .val (.int tt), .val (.int s1), .val (.int s2), .val (.ref ob36), .val (.ref ob41), .val (.int (1 : Int32)), .val (.int (1 : Int32)), .val (.ref ob49el)] []) _ _ _
        refine own_to (fun t k => XS.aload X49.here hx rfl (hb hby at_307) rfl rfl k) ?_
        show own_Out p e below _ T49 (mkF m 309 #[.val (.int x0), .val (.int x1), .val (.int x2), .val (.int x3), .val (.int (2 : Int32)), .val (.int l1), .val (.int l2), .val (.int (0 : Int32)), .val (.int tt), .val (.int s1), .val (.int s2), .val (.ref ob36), .val (.ref ob41), .val (.int (1 : Int32)), .val (.int (1 : Int32)), .val (.ref ob49el)] [(.ref ob41)]) _ _ _
        refine own_callV X49 hx hZ hown (a := ob41) (argsL := []) (rest := []) (hw _ (List.mem_of_getElem? (i := 23) rfl)) (hw _ (List.mem_of_getElem? (i := 24) rfl)) (hw _ (List.mem_of_getElem? (i := 26) rfl)) (hw _ (List.mem_of_getElem? (i := 25) rfl)) (hw _ (List.mem_of_getElem? (i := 7) rfl)) (hw _ (List.mem_of_getElem? (i := 27) rfl)) (by decide) (rm5 l Z a0 hw ob41 (s1 + s2) nn hh49 n0 Z0 F_ob41_position F_ob41_end) (by decide) (by decide) e49 E_ob41 rfl (by rw [hml]; rfl) (lenOf pd_1 rfl) rfl (W := 0) (by show 2 * 0 + _ ≤ _; exact Nat.le_of_eq rfl) (hb hby at_309) (by decide) (by decide) fun v50 T50 hh50 L50 X50 e50 hQ50 => ?_
        obtain ⟨rfl, NL50, he50⟩ := hQ50
        replace e50 := e50.trans he50
        have N50 := Fr.app N49 NL50
        show own_Out p e below _ T50 (mkF m 312 #[.val (.int x0), .val (.int x1), .val (.int x2), .val (.int x3), .val (.int (2 : Int32)), .val (.int l1), .val (.int l2), .val (.int (0 : Int32)), .val (.int tt), .val (.int s1), .val (.int s2), .val (.ref ob36), .val (.ref ob41), .val (.int (1 : Int32)), .val (.int (1 : Int32)), .val (.ref ob49el)] [(.int (R5 ob41 (s1 + s2) nn))]) _ _ _
        refine own_to (fun t k => XS.iload X50.here hx rfl (hb hby at_312) rfl k) ?_
        show own_Out p e below _ T50 (mkF m 314 #[.val (.int x0), .val (.int x1), .val (.int x2), .val (.int x3), .val (.int (2 : Int32)), .val (.int l1), .val (.int l2), .val (.int (0 : Int32)), .val (.int tt), .val (.int s1), .val (.int s2), .val (.ref ob36), .val (.ref ob41), .val (.int (1 : Int32)), .val (.int (1 : Int32)), .val (.ref ob49el)] [(.int (0 : Int32)), (.int (R5 ob41 (s1 + s2) nn))]) _ _ _
        refine own_to (fun t k => XS.iconst X50.here hx rfl (hb hby at_314) k) ?_
        show own_Out p e below _ T50 (mkF m 315 #[.val (.int x0), .val (.int x1), .val (.int x2), .val (.int x3), .val (.int (2 : Int32)), .val (.int l1), .val (.int l2), .val (.int (0 : Int32)), .val (.int tt), .val (.int s1), .val (.int s2), .val (.ref ob36), .val (.ref ob41), .val (.int (1 : Int32)), .val (.int (1 : Int32)), .val (.ref ob49el)] [(.int (1 : Int32)), (.int (0 : Int32)), (.int (R5 ob41 (s1 + s2) nn))]) _ _ _
        have hc315 : ¬ ((0 : Int32) = (1 : Int32)) := by decide
        refine own_to (fun t k => XS.icmpYes X50.here hx rfl (pc0 := 315) (pc' := 322) rfl (hb hby at_315) rfl (feq hc315).2 (by decide) (by decide) k) ?_
        show own_Out p e below _ T50 (mkF m 322 #[.val (.int x0), .val (.int x1), .val (.int x2), .val (.int x3), .val (.int (2 : Int32)), .val (.int l1), .val (.int l2), .val (.int (0 : Int32)), .val (.int tt), .val (.int s1), .val (.int s2), .val (.ref ob36), .val (.ref ob41), .val (.int (1 : Int32)), .val (.int (1 : Int32)), .val (.ref ob49el)] [(.int (R5 ob41 (s1 + s2) nn))]) _ _ _
        refine own_to (fun t k => XS.iconst X50.here hx rfl (hb hby at_322) k) ?_
        show own_Out p e below _ T50 (mkF m 323 #[.val (.int x0), .val (.int x1), .val (.int x2), .val (.int x3), .val (.int (2 : Int32)), .val (.int l1), .val (.int l2), .val (.int (0 : Int32)), .val (.int tt), .val (.int s1), .val (.int s2), .val (.ref ob36), .val (.ref ob41), .val (.int (1 : Int32)), .val (.int (1 : Int32)), .val (.ref ob49el)] [(.int (0 : Int32)), (.int (R5 ob41 (s1 + s2) nn))]) _ _ _
        have hc323 : (R5 ob41 (s1 + s2) nn) = (0 : Int32) := own_hn0 _ _ _ (by rw [own_lt]; omega)
        refine own_to (fun t k => XS.icmpNo X50.here hx rfl (hb hby at_323) rfl (teq hc323).2 k) ?_
        show own_Out p e below _ T50 (mkF m 326 #[.val (.int x0), .val (.int x1), .val (.int x2), .val (.int x3), .val (.int (2 : Int32)), .val (.int l1), .val (.int l2), .val (.int (0 : Int32)), .val (.int tt), .val (.int s1), .val (.int s2), .val (.ref ob36), .val (.ref ob41), .val (.int (1 : Int32)), .val (.int (1 : Int32)), .val (.ref ob49el)] []) _ _ _
        refine own_to (fun t k => XS.iconst X50.here hx rfl (hb hby at_326) k) ?_
        show own_Out p e below _ T50 (mkF m 327 #[.val (.int x0), .val (.int x1), .val (.int x2), .val (.int x3), .val (.int (2 : Int32)), .val (.int l1), .val (.int l2), .val (.int (0 : Int32)), .val (.int tt), .val (.int s1), .val (.int s2), .val (.ref ob36), .val (.ref ob41), .val (.int (1 : Int32)), .val (.int (1 : Int32)), .val (.ref ob49el)] [(.int (1 : Int32))]) _ _ _
        refine own_to (fun t k => XS.goto X50.here hx rfl (pc0 := 327) (pc' := 331) rfl (hb hby at_327) (by decide) (by decide) k) ?_
        show own_Out p e below _ T50 (mkF m 331 #[.val (.int x0), .val (.int x1), .val (.int x2), .val (.int x3), .val (.int (2 : Int32)), .val (.int l1), .val (.int l2), .val (.int (0 : Int32)), .val (.int tt), .val (.int s1), .val (.int s2), .val (.ref ob36), .val (.ref ob41), .val (.int (1 : Int32)), .val (.int (1 : Int32)), .val (.ref ob49el)] [(.int (1 : Int32))]) _ _ _
        refine own_to (fun t k => XS.istore X50.here hx rfl (hb hby at_331) rfl (l' := #[.val (.int x0), .val (.int x1), .val (.int x2), .val (.int x3), .val (.int (2 : Int32)), .val (.int l1), .val (.int l2), .val (.int (0 : Int32)), .val (.int tt), .val (.int s1), .val (.int s2), .val (.ref ob36), .val (.ref ob41), .val (.int (1 : Int32)), .val (.int (1 : Int32)), .val (.ref ob49el)]) rfl k) ?_
        show own_Out p e below _ T50 (mkF m 333 #[.val (.int x0), .val (.int x1), .val (.int x2), .val (.int x3), .val (.int (2 : Int32)), .val (.int l1), .val (.int l2), .val (.int (0 : Int32)), .val (.int tt), .val (.int s1), .val (.int s2), .val (.ref ob36), .val (.ref ob41), .val (.int (1 : Int32)), .val (.int (1 : Int32)), .val (.ref ob49el)] []) _ _ _
        refine own_to (fun t k => XS.iload X50.here hx rfl (hb hby at_333) rfl k) ?_
        show own_Out p e below _ T50 (mkF m 335 #[.val (.int x0), .val (.int x1), .val (.int x2), .val (.int x3), .val (.int (2 : Int32)), .val (.int l1), .val (.int l2), .val (.int (0 : Int32)), .val (.int tt), .val (.int s1), .val (.int s2), .val (.ref ob36), .val (.ref ob41), .val (.int (1 : Int32)), .val (.int (1 : Int32)), .val (.ref ob49el)] [(.int (1 : Int32))]) _ _ _
        have hc335 : ¬ ((1 : Int32) = (0 : Int32)) := by decide
        refine own_to (fun t k => XS.ifNo X50.here hx rfl (hb hby at_335) rfl ((if0 _ _).trans (feq hc335).1) k) ?_
        show own_Out p e below _ T50 (mkF m 338 #[.val (.int x0), .val (.int x1), .val (.int x2), .val (.int x3), .val (.int (2 : Int32)), .val (.int l1), .val (.int l2), .val (.int (0 : Int32)), .val (.int tt), .val (.int s1), .val (.int s2), .val (.ref ob36), .val (.ref ob41), .val (.int (1 : Int32)), .val (.int (1 : Int32)), .val (.ref ob49el)] []) _ _ _
        refine own_to (fun t k => XS.aload X50.here hx rfl (hb hby at_338) rfl rfl k) ?_
        show own_Out p e below _ T50 (mkF m 340 #[.val (.int x0), .val (.int x1), .val (.int x2), .val (.int x3), .val (.int (2 : Int32)), .val (.int l1), .val (.int l2), .val (.int (0 : Int32)), .val (.int tt), .val (.int s1), .val (.int s2), .val (.ref ob36), .val (.ref ob41), .val (.int (1 : Int32)), .val (.int (1 : Int32)), .val (.ref ob49el)] [(.ref ob49el)]) _ _ _
        refine own_callV X50 hx hZ hown (a := ob49el) (argsL := []) (rest := []) (hw _ (List.mem_of_getElem? (i := 64) rfl)) (hw _ (List.mem_of_getElem? (i := 65) rfl)) (hw _ (List.mem_of_getElem? (i := 67) rfl)) (hw _ (List.mem_of_getElem? (i := 66) rfl)) (hw _ (List.mem_of_getElem? (i := 49) rfl)) (hw _ (List.mem_of_getElem? (i := 68) rfl)) (by decide) (rm9 l Z a0 hw ob49el ob36 ((s1 + (1 : Int32)) + (1 : Int32)) (s1 + s2) hh49 n0 Z0 F_ob49el_bytes F_ob49el_contents F_ob49el_end) (by decide) (by decide) e50 E_ob49el rfl (by rw [hml]; rfl) (lenOf pd_7 rfl) rfl (W := 0) (by show 2 * 0 + _ ≤ _; exact Nat.le_of_eq rfl) (hb hby at_340) (by decide) (by decide) fun v51 T51 hh51 L51 X51 e51 hQ51 => ?_
        obtain ⟨NL51, KK51, ob51rd, rfl, szc_ob51rd, P51_0, P51_1, P51_2, P51_3⟩ := hQ51
        have ne_ob36_ob51rd : ob36 ≠ ob51rd := Nat.ne_of_lt (Nat.lt_of_lt_of_le A_ob36.lt szc_ob51rd)
        have ne_ob51rd_ob36 := Ne.symm ne_ob36_ob51rd
        have ne_ob41_ob51rd : ob41 ≠ ob51rd := Nat.ne_of_lt (Nat.lt_of_lt_of_le E_ob41.lt szc_ob51rd)
        have ne_ob51rd_ob41 := Ne.symm ne_ob41_ob51rd
        have ne_ob45el_ob51rd : ob45el ≠ ob51rd := Nat.ne_of_lt (Nat.lt_of_lt_of_le E_ob45el.lt szc_ob51rd)
        have ne_ob51rd_ob45el := Ne.symm ne_ob45el_ob51rd
        have ne_ob47rd_ob51rd : ob47rd ≠ ob51rd := Nat.ne_of_lt (Nat.lt_of_lt_of_le E_ob47rd.lt szc_ob51rd)
        have ne_ob51rd_ob47rd := Ne.symm ne_ob47rd_ob51rd
        have ne_ob49el_ob51rd : ob49el ≠ ob51rd := Nat.ne_of_lt (Nat.lt_of_lt_of_le E_ob49el.lt szc_ob51rd)
        have ne_ob51rd_ob49el := Ne.symm ne_ob49el_ob51rd
        have g_ob51rd : n0 ≤ ob51rd := Nat.le_trans Z0 szc_ob51rd
        have A_ob36 := A_ob36.keep KK51 (by simp [])
        have E_ob41 := E_ob41.keep KK51
        have E_ob45el := E_ob45el.keep KK51
        have F_ob45el_bytes := F_ob45el_bytes.keep KK51 (by simp [])
        have F_ob45el_tag := F_ob45el_tag.keep KK51 (by simp [])
        have F_ob45el_start := F_ob45el_start.keep KK51 (by simp [])
        have F_ob45el_contents := F_ob45el_contents.keep KK51 (by simp [])
        have F_ob45el_end := F_ob45el_end.keep KK51 (by simp [])
        have E_ob47rd := E_ob47rd.keep KK51
        have F_ob47rd_bytes := F_ob47rd_bytes.keep KK51 (by simp [])
        have F_ob47rd_position := F_ob47rd_position.keep KK51 (by simp [])
        have F_ob47rd_end := F_ob47rd_end.keep KK51 (by simp [])
        have F_ob41_bytes := F_ob41_bytes.keep KK51 (by simp [])
        have F_ob41_position := F_ob41_position.keep KK51 (by simp [])
        have F_ob41_end := F_ob41_end.keep KK51 (by simp [])
        have E_ob49el := E_ob49el.keep KK51
        have F_ob49el_bytes := F_ob49el_bytes.keep KK51 (by simp [])
        have F_ob49el_tag := F_ob49el_tag.keep KK51 (by simp [])
        have F_ob49el_start := F_ob49el_start.keep KK51 (by simp [])
        have F_ob49el_contents := F_ob49el_contents.keep KK51 (by simp [])
        have F_ob49el_end := F_ob49el_end.keep KK51 (by simp [])
        have E_ob51rd := P51_0
        have F_ob51rd_bytes := P51_1
        have F_ob51rd_position := P51_2
        have F_ob51rd_end := P51_3
        have Z0 := Nat.le_trans Z0 KK51.1
        have hk := Nat.le_trans hk KK51.1
        have N51 := Fr.app N50 NL51
        show own_Out p e below _ T51 (mkF m 343 #[.val (.int x0), .val (.int x1), .val (.int x2), .val (.int x3), .val (.int (2 : Int32)), .val (.int l1), .val (.int l2), .val (.int (0 : Int32)), .val (.int tt), .val (.int s1), .val (.int s2), .val (.ref ob36), .val (.ref ob41), .val (.int (1 : Int32)), .val (.int (1 : Int32)), .val (.ref ob49el)] [(.ref ob51rd)]) _ _ _
        refine own_callV X51 hx hZ hown (a := ob51rd) (argsL := []) (rest := []) (hw _ (List.mem_of_getElem? (i := 23) rfl)) (hw _ (List.mem_of_getElem? (i := 24) rfl)) (hw _ (List.mem_of_getElem? (i := 26) rfl)) (hw _ (List.mem_of_getElem? (i := 25) rfl)) (hw _ (List.mem_of_getElem? (i := 7) rfl)) (hw _ (List.mem_of_getElem? (i := 27) rfl)) (by decide) (rm5 l Z a0 hw ob51rd ((s1 + (1 : Int32)) + (1 : Int32)) (s1 + s2) hh51 n0 Z0 F_ob51rd_position F_ob51rd_end) (by decide) (by decide) e51 E_ob51rd rfl (by rw [hml]; rfl) (lenOf pd_1 rfl) rfl (W := 0) (by show 2 * 0 + _ ≤ _; exact Nat.le_of_eq rfl) (hb hby at_343) (by decide) (by decide) fun v52 T52 hh52 L52 X52 e52 hQ52 => ?_
        obtain ⟨rfl, NL52, he52⟩ := hQ52
        replace e52 := e52.trans he52
        have N52 := Fr.app N51 NL52
        show own_Out p e below _ T52 (mkF m 346 #[.val (.int x0), .val (.int x1), .val (.int x2), .val (.int x3), .val (.int (2 : Int32)), .val (.int l1), .val (.int l2), .val (.int (0 : Int32)), .val (.int tt), .val (.int s1), .val (.int s2), .val (.ref ob36), .val (.ref ob41), .val (.int (1 : Int32)), .val (.int (1 : Int32)), .val (.ref ob49el)] [(.int (R5 ob51rd ((s1 + (1 : Int32)) + (1 : Int32)) (s1 + s2)))]) _ _ _
        refine own_to (fun t k => XS.iload X52.here hx rfl (hb hby at_346) rfl k) ?_
        show own_Out p e below _ T52 (mkF m 348 #[.val (.int x0), .val (.int x1), .val (.int x2), .val (.int x3), .val (.int (2 : Int32)), .val (.int l1), .val (.int l2), .val (.int (0 : Int32)), .val (.int tt), .val (.int s1), .val (.int s2), .val (.ref ob36), .val (.ref ob41), .val (.int (1 : Int32)), .val (.int (1 : Int32)), .val (.ref ob49el)] [(.int l2), (.int (R5 ob51rd ((s1 + (1 : Int32)) + (1 : Int32)) (s1 + s2)))]) _ _ _
        by_cases hc348 : (0 : Int32) < l2
        · refine own_to (fun t k => XS.ifNo X52.here hx rfl (hb hby at_348) rfl ((if0 _ _).trans (tlt hc348).2.2.2) k) ?_
          show own_Out p e below _ T52 (mkF m 351 #[.val (.int x0), .val (.int x1), .val (.int x2), .val (.int x3), .val (.int (2 : Int32)), .val (.int l1), .val (.int l2), .val (.int (0 : Int32)), .val (.int tt), .val (.int s1), .val (.int s2), .val (.ref ob36), .val (.ref ob41), .val (.int (1 : Int32)), .val (.int (1 : Int32)), .val (.ref ob49el)] [(.int (R5 ob51rd ((s1 + (1 : Int32)) + (1 : Int32)) (s1 + s2)))]) _ _ _
          refine own_to (fun t k => XS.iconst X52.here hx rfl (hb hby at_351) k) ?_
          show own_Out p e below _ T52 (mkF m 352 #[.val (.int x0), .val (.int x1), .val (.int x2), .val (.int x3), .val (.int (2 : Int32)), .val (.int l1), .val (.int l2), .val (.int (0 : Int32)), .val (.int tt), .val (.int s1), .val (.int s2), .val (.ref ob36), .val (.ref ob41), .val (.int (1 : Int32)), .val (.int (1 : Int32)), .val (.ref ob49el)] [(.int (1 : Int32)), (.int (R5 ob51rd ((s1 + (1 : Int32)) + (1 : Int32)) (s1 + s2)))]) _ _ _
          refine own_to (fun t k => XS.goto X52.here hx rfl (pc0 := 352) (pc' := 356) rfl (hb hby at_352) (by decide) (by decide) k) ?_
          show own_Out p e below _ T52 (mkF m 356 #[.val (.int x0), .val (.int x1), .val (.int x2), .val (.int x3), .val (.int (2 : Int32)), .val (.int l1), .val (.int l2), .val (.int (0 : Int32)), .val (.int tt), .val (.int s1), .val (.int s2), .val (.ref ob36), .val (.ref ob41), .val (.int (1 : Int32)), .val (.int (1 : Int32)), .val (.ref ob49el)] [(.int (1 : Int32)), (.int (R5 ob51rd ((s1 + (1 : Int32)) + (1 : Int32)) (s1 + s2)))]) _ _ _
          have hc356 : (R5 ob51rd ((s1 + (1 : Int32)) + (1 : Int32)) (s1 + s2)) = (1 : Int32) := own_hn1 _ _ _ (by rw [own_lt] at hc348 ⊢; omega)
          refine own_to (fun t k => XS.icmpNo X52.here hx rfl (hb hby at_356) rfl (teq hc356).2 k) ?_
          show own_Out p e below _ T52 (mkF m 359 #[.val (.int x0), .val (.int x1), .val (.int x2), .val (.int x3), .val (.int (2 : Int32)), .val (.int l1), .val (.int l2), .val (.int (0 : Int32)), .val (.int tt), .val (.int s1), .val (.int s2), .val (.ref ob36), .val (.ref ob41), .val (.int (1 : Int32)), .val (.int (1 : Int32)), .val (.ref ob49el)] []) _ _ _
          refine own_to (fun t k => XS.iconst X52.here hx rfl (hb hby at_359) k) ?_
          show own_Out p e below _ T52 (mkF m 360 #[.val (.int x0), .val (.int x1), .val (.int x2), .val (.int x3), .val (.int (2 : Int32)), .val (.int l1), .val (.int l2), .val (.int (0 : Int32)), .val (.int tt), .val (.int s1), .val (.int s2), .val (.ref ob36), .val (.ref ob41), .val (.int (1 : Int32)), .val (.int (1 : Int32)), .val (.ref ob49el)] [(.int (1 : Int32))]) _ _ _
          refine own_to (fun t k => XS.goto X52.here hx rfl (pc0 := 360) (pc' := 364) rfl (hb hby at_360) (by decide) (by decide) k) ?_
          show own_Out p e below _ T52 (mkF m 364 #[.val (.int x0), .val (.int x1), .val (.int x2), .val (.int x3), .val (.int (2 : Int32)), .val (.int l1), .val (.int l2), .val (.int (0 : Int32)), .val (.int tt), .val (.int s1), .val (.int s2), .val (.ref ob36), .val (.ref ob41), .val (.int (1 : Int32)), .val (.int (1 : Int32)), .val (.ref ob49el)] [(.int (1 : Int32))]) _ _ _
          refine own_to (fun t k => XS.istore X52.here hx rfl (hb hby at_364) rfl (l' := #[.val (.int x0), .val (.int x1), .val (.int x2), .val (.int x3), .val (.int (2 : Int32)), .val (.int l1), .val (.int l2), .val (.int (0 : Int32)), .val (.int tt), .val (.int s1), .val (.int s2), .val (.ref ob36), .val (.ref ob41), .val (.int (1 : Int32)), .val (.int (1 : Int32)), .val (.ref ob49el)]) rfl k) ?_
          show own_Out p e below _ T52 (mkF m 366 #[.val (.int x0), .val (.int x1), .val (.int x2), .val (.int x3), .val (.int (2 : Int32)), .val (.int l1), .val (.int l2), .val (.int (0 : Int32)), .val (.int tt), .val (.int s1), .val (.int s2), .val (.ref ob36), .val (.ref ob41), .val (.int (1 : Int32)), .val (.int (1 : Int32)), .val (.ref ob49el)] []) _ _ _
          refine own_to (fun t k => XS.iload X52.here hx rfl (hb hby at_366) rfl k) ?_
          show own_Out p e below _ T52 (mkF m 368 #[.val (.int x0), .val (.int x1), .val (.int x2), .val (.int x3), .val (.int (2 : Int32)), .val (.int l1), .val (.int l2), .val (.int (0 : Int32)), .val (.int tt), .val (.int s1), .val (.int s2), .val (.ref ob36), .val (.ref ob41), .val (.int (1 : Int32)), .val (.int (1 : Int32)), .val (.ref ob49el)] [(.int (1 : Int32))]) _ _ _
          refine own_retVW X52 hS hk e52 hx hlk (w := .int (1 : Int32)) hret rfl (Or.inl ⟨rfl, by simp, _, rfl⟩) (hb hby at_368) (by decide) (by decide) ?_
          rw [e52]
          exact ⟨rfl, N52⟩
        · refine own_to (fun t k => XS.ifYes X52.here hx rfl (pc0 := 348) (pc' := 355) rfl (hb hby at_348) rfl ((if0 _ _).trans (flt hc348).2.2.2) (by decide) (by decide) k) ?_
          show own_Out p e below _ T52 (mkF m 355 #[.val (.int x0), .val (.int x1), .val (.int x2), .val (.int x3), .val (.int (2 : Int32)), .val (.int l1), .val (.int l2), .val (.int (0 : Int32)), .val (.int tt), .val (.int s1), .val (.int s2), .val (.ref ob36), .val (.ref ob41), .val (.int (1 : Int32)), .val (.int (1 : Int32)), .val (.ref ob49el)] [(.int (R5 ob51rd ((s1 + (1 : Int32)) + (1 : Int32)) (s1 + s2)))]) _ _ _
          refine own_to (fun t k => XS.iconst X52.here hx rfl (hb hby at_355) k) ?_
          show own_Out p e below _ T52 (mkF m 356 #[.val (.int x0), .val (.int x1), .val (.int x2), .val (.int x3), .val (.int (2 : Int32)), .val (.int l1), .val (.int l2), .val (.int (0 : Int32)), .val (.int tt), .val (.int s1), .val (.int s2), .val (.ref ob36), .val (.ref ob41), .val (.int (1 : Int32)), .val (.int (1 : Int32)), .val (.ref ob49el)] [(.int (0 : Int32)), (.int (R5 ob51rd ((s1 + (1 : Int32)) + (1 : Int32)) (s1 + s2)))]) _ _ _
          have hc356 : (R5 ob51rd ((s1 + (1 : Int32)) + (1 : Int32)) (s1 + s2)) = (0 : Int32) := own_hn0 _ _ _ (by rw [own_lt] at hc348 ⊢; omega)
          refine own_to (fun t k => XS.icmpNo X52.here hx rfl (hb hby at_356) rfl (teq hc356).2 k) ?_
          show own_Out p e below _ T52 (mkF m 359 #[.val (.int x0), .val (.int x1), .val (.int x2), .val (.int x3), .val (.int (2 : Int32)), .val (.int l1), .val (.int l2), .val (.int (0 : Int32)), .val (.int tt), .val (.int s1), .val (.int s2), .val (.ref ob36), .val (.ref ob41), .val (.int (1 : Int32)), .val (.int (1 : Int32)), .val (.ref ob49el)] []) _ _ _
          refine own_to (fun t k => XS.iconst X52.here hx rfl (hb hby at_359) k) ?_
          show own_Out p e below _ T52 (mkF m 360 #[.val (.int x0), .val (.int x1), .val (.int x2), .val (.int x3), .val (.int (2 : Int32)), .val (.int l1), .val (.int l2), .val (.int (0 : Int32)), .val (.int tt), .val (.int s1), .val (.int s2), .val (.ref ob36), .val (.ref ob41), .val (.int (1 : Int32)), .val (.int (1 : Int32)), .val (.ref ob49el)] [(.int (1 : Int32))]) _ _ _
          refine own_to (fun t k => XS.goto X52.here hx rfl (pc0 := 360) (pc' := 364) rfl (hb hby at_360) (by decide) (by decide) k) ?_
          show own_Out p e below _ T52 (mkF m 364 #[.val (.int x0), .val (.int x1), .val (.int x2), .val (.int x3), .val (.int (2 : Int32)), .val (.int l1), .val (.int l2), .val (.int (0 : Int32)), .val (.int tt), .val (.int s1), .val (.int s2), .val (.ref ob36), .val (.ref ob41), .val (.int (1 : Int32)), .val (.int (1 : Int32)), .val (.ref ob49el)] [(.int (1 : Int32))]) _ _ _
          refine own_to (fun t k => XS.istore X52.here hx rfl (hb hby at_364) rfl (l' := #[.val (.int x0), .val (.int x1), .val (.int x2), .val (.int x3), .val (.int (2 : Int32)), .val (.int l1), .val (.int l2), .val (.int (0 : Int32)), .val (.int tt), .val (.int s1), .val (.int s2), .val (.ref ob36), .val (.ref ob41), .val (.int (1 : Int32)), .val (.int (1 : Int32)), .val (.ref ob49el)]) rfl k) ?_
          show own_Out p e below _ T52 (mkF m 366 #[.val (.int x0), .val (.int x1), .val (.int x2), .val (.int x3), .val (.int (2 : Int32)), .val (.int l1), .val (.int l2), .val (.int (0 : Int32)), .val (.int tt), .val (.int s1), .val (.int s2), .val (.ref ob36), .val (.ref ob41), .val (.int (1 : Int32)), .val (.int (1 : Int32)), .val (.ref ob49el)] []) _ _ _
          refine own_to (fun t k => XS.iload X52.here hx rfl (hb hby at_366) rfl k) ?_
          show own_Out p e below _ T52 (mkF m 368 #[.val (.int x0), .val (.int x1), .val (.int x2), .val (.int x3), .val (.int (2 : Int32)), .val (.int l1), .val (.int l2), .val (.int (0 : Int32)), .val (.int tt), .val (.int s1), .val (.int s2), .val (.ref ob36), .val (.ref ob41), .val (.int (1 : Int32)), .val (.int (1 : Int32)), .val (.ref ob49el)] [(.int (1 : Int32))]) _ _ _
          refine own_retVW X52 hS hk e52 hx hlk (w := .int (1 : Int32)) hret rfl (Or.inl ⟨rfl, by simp, _, rfl⟩) (hb hby at_368) (by decide) (by decide) ?_
          rw [e52]
          exact ⟨rfl, N52⟩
      · refine own_to (fun t k => XS.ifYes X48.here hx rfl (pc0 := 271) (pc' := 278) rfl (hb hby at_271) rfl ((if0 _ _).trans (flt hc271).2.2.2) (by decide) (by decide) k) ?_
        show own_Out p e below _ T48 (mkF m 278 #[.val (.int x0), .val (.int x1), .val (.int x2), .val (.int x3), .val (.int (2 : Int32)), .val (.int l1), .val (.int l2), .val (.int (0 : Int32)), .val (.int tt), .val (.int s1), .val (.int s2), .val (.ref ob36), .val (.ref ob41), .val (.int (1 : Int32)), .val (.int (1 : Int32)), .val (.ref ob45el)] [(.int (R5 ob47rd (((0 : Int32) + (1 : Int32)) + (1 : Int32)) s1))]) _ _ _
        refine own_to (fun t k => XS.iconst X48.here hx rfl (hb hby at_278) k) ?_
        show own_Out p e below _ T48 (mkF m 279 #[.val (.int x0), .val (.int x1), .val (.int x2), .val (.int x3), .val (.int (2 : Int32)), .val (.int l1), .val (.int l2), .val (.int (0 : Int32)), .val (.int tt), .val (.int s1), .val (.int s2), .val (.ref ob36), .val (.ref ob41), .val (.int (1 : Int32)), .val (.int (1 : Int32)), .val (.ref ob45el)] [(.int (0 : Int32)), (.int (R5 ob47rd (((0 : Int32) + (1 : Int32)) + (1 : Int32)) s1))]) _ _ _
        have hc279 : (R5 ob47rd (((0 : Int32) + (1 : Int32)) + (1 : Int32)) s1) = (0 : Int32) := own_hn0 _ _ _ (by rw [own_lt] at hc271 ⊢; omega)
        refine own_to (fun t k => XS.icmpNo X48.here hx rfl (hb hby at_279) rfl (teq hc279).2 k) ?_
        show own_Out p e below _ T48 (mkF m 282 #[.val (.int x0), .val (.int x1), .val (.int x2), .val (.int x3), .val (.int (2 : Int32)), .val (.int l1), .val (.int l2), .val (.int (0 : Int32)), .val (.int tt), .val (.int s1), .val (.int s2), .val (.ref ob36), .val (.ref ob41), .val (.int (1 : Int32)), .val (.int (1 : Int32)), .val (.ref ob45el)] []) _ _ _
        refine own_to (fun t k => XS.iconst X48.here hx rfl (hb hby at_282) k) ?_
        show own_Out p e below _ T48 (mkF m 283 #[.val (.int x0), .val (.int x1), .val (.int x2), .val (.int x3), .val (.int (2 : Int32)), .val (.int l1), .val (.int l2), .val (.int (0 : Int32)), .val (.int tt), .val (.int s1), .val (.int s2), .val (.ref ob36), .val (.ref ob41), .val (.int (1 : Int32)), .val (.int (1 : Int32)), .val (.ref ob45el)] [(.int (1 : Int32))]) _ _ _
        refine own_to (fun t k => XS.goto X48.here hx rfl (pc0 := 283) (pc' := 287) rfl (hb hby at_283) (by decide) (by decide) k) ?_
        show own_Out p e below _ T48 (mkF m 287 #[.val (.int x0), .val (.int x1), .val (.int x2), .val (.int x3), .val (.int (2 : Int32)), .val (.int l1), .val (.int l2), .val (.int (0 : Int32)), .val (.int tt), .val (.int s1), .val (.int s2), .val (.ref ob36), .val (.ref ob41), .val (.int (1 : Int32)), .val (.int (1 : Int32)), .val (.ref ob45el)] [(.int (1 : Int32))]) _ _ _
        refine own_to (fun t k => XS.istore X48.here hx rfl (hb hby at_287) rfl (l' := #[.val (.int x0), .val (.int x1), .val (.int x2), .val (.int x3), .val (.int (2 : Int32)), .val (.int l1), .val (.int l2), .val (.int (0 : Int32)), .val (.int tt), .val (.int s1), .val (.int s2), .val (.ref ob36), .val (.ref ob41), .val (.int (1 : Int32)), .val (.int (1 : Int32)), .val (.ref ob45el)]) rfl k) ?_
        show own_Out p e below _ T48 (mkF m 289 #[.val (.int x0), .val (.int x1), .val (.int x2), .val (.int x3), .val (.int (2 : Int32)), .val (.int l1), .val (.int l2), .val (.int (0 : Int32)), .val (.int tt), .val (.int s1), .val (.int s2), .val (.ref ob36), .val (.ref ob41), .val (.int (1 : Int32)), .val (.int (1 : Int32)), .val (.ref ob45el)] []) _ _ _
        refine own_to (fun t k => XS.iload X48.here hx rfl (hb hby at_289) rfl k) ?_
        show own_Out p e below _ T48 (mkF m 291 #[.val (.int x0), .val (.int x1), .val (.int x2), .val (.int x3), .val (.int (2 : Int32)), .val (.int l1), .val (.int l2), .val (.int (0 : Int32)), .val (.int tt), .val (.int s1), .val (.int s2), .val (.ref ob36), .val (.ref ob41), .val (.int (1 : Int32)), .val (.int (1 : Int32)), .val (.ref ob45el)] [(.int (2 : Int32))]) _ _ _
        refine own_to (fun t k => XS.iconst X48.here hx rfl (hb hby at_291) k) ?_
        show own_Out p e below _ T48 (mkF m 292 #[.val (.int x0), .val (.int x1), .val (.int x2), .val (.int x3), .val (.int (2 : Int32)), .val (.int l1), .val (.int l2), .val (.int (0 : Int32)), .val (.int tt), .val (.int s1), .val (.int s2), .val (.ref ob36), .val (.ref ob41), .val (.int (1 : Int32)), .val (.int (1 : Int32)), .val (.ref ob45el)] [(.int (2 : Int32)), (.int (2 : Int32))]) _ _ _
        have hc292 : ¬ ((2 : Int32) < (2 : Int32)) := by decide
        refine own_to (fun t k => XS.icmpNo X48.here hx rfl (hb hby at_292) rfl (flt hc292).1 k) ?_
        show own_Out p e below _ T48 (mkF m 295 #[.val (.int x0), .val (.int x1), .val (.int x2), .val (.int x3), .val (.int (2 : Int32)), .val (.int l1), .val (.int l2), .val (.int (0 : Int32)), .val (.int tt), .val (.int s1), .val (.int s2), .val (.ref ob36), .val (.ref ob41), .val (.int (1 : Int32)), .val (.int (1 : Int32)), .val (.ref ob45el)] []) _ _ _
        refine own_to (fun t k => XS.aload X48.here hx rfl (hb hby at_295) rfl rfl k) ?_
        show own_Out p e below _ T48 (mkF m 297 #[.val (.int x0), .val (.int x1), .val (.int x2), .val (.int x3), .val (.int (2 : Int32)), .val (.int l1), .val (.int l2), .val (.int (0 : Int32)), .val (.int tt), .val (.int s1), .val (.int s2), .val (.ref ob36), .val (.ref ob41), .val (.int (1 : Int32)), .val (.int (1 : Int32)), .val (.ref ob45el)] [(.ref ob41)]) _ _ _
        have h_s1q := own_ad (s1 + 1) 1 (by omega) (by omega)
        rw [k1] at h_s1q
        refine own_callVW X48 hx hZ hown hS hk (a := ob41) (argsL := []) (rest := []) (hw _ (List.mem_of_getElem? (i := 28) rfl)) (hw _ (List.mem_of_getElem? (i := 29) rfl)) (hw _ (List.mem_of_getElem? (i := 31) rfl)) (hw _ (List.mem_of_getElem? (i := 30) rfl)) (hw _ (List.mem_of_getElem? (i := 7) rfl)) (hw _ (List.mem_of_getElem? (i := 32) rfl)) (by decide) (rm6 l Z a0 hw ob41 s1 nn ob36 (nn.toNatClampNeg) (own_upd (own_upd (own_upd (own_upd (fun _ => 0) ((0 : Int32).toNatClampNeg) (nar .byte (tt.toInt8.toInt32))) ((1 : Int32).toNatClampNeg) (nar .byte (l1.toInt8.toInt32))) (s1.toNatClampNeg) (nar .byte (tt.toInt8.toInt32))) ((s1 + (1 : Int32)).toNatClampNeg) (nar .byte (l2.toInt8.toInt32))) (tt &&& (255 : Int32)) l2 hh47 n0 Z0 E_ob41 F_ob41_bytes F_ob41_position F_ob41_end A_ob36 g_ob41 ne_ob36_ob41 (by rw [own_lt]; omega) (⟨own_ge (by omega), (by simp only [own_nn] <;> omega)⟩) ((congrArg (fun z => z &&& (255 : Int32)) ((own_miss (by simp only [own_nn] <;> omega)).trans (own_hit (by simp only [own_nn] <;> omega)))).trans (own_by tt)).symm (by rw [own_lt]; omega) (⟨own_ge (by omega), (by simp only [own_nn] <;> omega)⟩) (((congrArg (fun z => z &&& (255 : Int32)) (own_hit (by simp only [own_nn] <;> omega))).trans (own_by l2)).trans (own_l255 l2 b_l2)).symm htt (own_l128 l2 b_l2) (own_wide _ _ (by have q := own_sb nn ((s1 + (1 : Int32)) + (1 : Int32)) (by omega) (by omega); omega))) (by decide) (by decide) e48 E_ob41 rfl (by rw [hml]; rfl) (lenOf pd_6 rfl) rfl (W := 0) (by show 2 * 0 + _ ≤ _; exact Nat.le_of_eq rfl) (hb hby at_297) (by decide) (by decide) fun v53 T53 hh53 L53 X53 e53 hQ53 hZ hown hS => ?_
        obtain ⟨NL53, KK53, ob53el, rfl, szc_ob53el, P53_0, P53_1, P53_2, P53_3, P53_4, P53_5, P53_6, P53_7, P53_8⟩ := hQ53
        have ne_ob36_ob53el : ob36 ≠ ob53el := Nat.ne_of_lt (Nat.lt_of_lt_of_le A_ob36.lt szc_ob53el)
        have ne_ob53el_ob36 := Ne.symm ne_ob36_ob53el
        have ne_ob41_ob53el : ob41 ≠ ob53el := Nat.ne_of_lt (Nat.lt_of_lt_of_le E_ob41.lt szc_ob53el)
        have ne_ob53el_ob41 := Ne.symm ne_ob41_ob53el
        have ne_ob45el_ob53el : ob45el ≠ ob53el := Nat.ne_of_lt (Nat.lt_of_lt_of_le E_ob45el.lt szc_ob53el)
        have ne_ob53el_ob45el := Ne.symm ne_ob45el_ob53el
        have ne_ob47rd_ob53el : ob47rd ≠ ob53el := Nat.ne_of_lt (Nat.lt_of_lt_of_le E_ob47rd.lt szc_ob53el)
        have ne_ob53el_ob47rd := Ne.symm ne_ob47rd_ob53el
        have g_ob53el : n0 ≤ ob53el := Nat.le_trans Z0 szc_ob53el
        have A_ob36 := A_ob36.keep KK53 (by simp [ne_ob36_ob41])
        have E_ob41 := E_ob41.keep KK53
        have E_ob45el := E_ob45el.keep KK53
        have F_ob45el_bytes := F_ob45el_bytes.keep KK53 (by simp [ne_ob45el_ob41])
        have F_ob45el_tag := F_ob45el_tag.keep KK53 (by simp [ne_ob45el_ob41])
        have F_ob45el_start := F_ob45el_start.keep KK53 (by simp [ne_ob45el_ob41])
        have F_ob45el_contents := F_ob45el_contents.keep KK53 (by simp [ne_ob45el_ob41])
        have F_ob45el_end := F_ob45el_end.keep KK53 (by simp [ne_ob45el_ob41])
        have E_ob47rd := E_ob47rd.keep KK53
        have F_ob47rd_bytes := F_ob47rd_bytes.keep KK53 (by simp [ne_ob47rd_ob41])
        have F_ob47rd_position := F_ob47rd_position.keep KK53 (by simp [ne_ob47rd_ob41])
        have F_ob47rd_end := F_ob47rd_end.keep KK53 (by simp [ne_ob47rd_ob41])
        have F_ob41_bytes := P53_0
        have F_ob41_position := P53_1
        have F_ob41_end := P53_2
        have E_ob53el := P53_3
        have F_ob53el_bytes := P53_4
        have F_ob53el_tag := P53_5
        have F_ob53el_start := P53_6
        have F_ob53el_contents := P53_7
        have F_ob53el_end := P53_8
        have Z0 := Nat.le_trans Z0 KK53.1
        have hk := Nat.le_refl hh53.size
        have N53 := Fr.app N48 NL53
        show own_Out p e below _ T53 (mkF m 300 #[.val (.int x0), .val (.int x1), .val (.int x2), .val (.int x3), .val (.int (2 : Int32)), .val (.int l1), .val (.int l2), .val (.int (0 : Int32)), .val (.int tt), .val (.int s1), .val (.int s2), .val (.ref ob36), .val (.ref ob41), .val (.int (1 : Int32)), .val (.int (1 : Int32)), .val (.ref ob45el)] [(.ref ob53el)]) _ _ _
        have h_p2 : (((s1 + (1 : Int32)) + (1 : Int32)) + ((l2.toInt64).toInt32)) = (s1 + s2) := by rw [own_bk]; apply Int32.toInt_inj.mp; rw [own_ad _ _ (by omega) (by omega)]; omega
        rw [h_p2] at F_ob41_position
        rw [h_p2] at F_ob53el_end
        refine own_to (fun t k => XS.astore X53.here hx rfl (hb hby at_300) rfl rfl (l' := #[.val (.int x0), .val (.int x1), .val (.int x2), .val (.int x3), .val (.int (2 : Int32)), .val (.int l1), .val (.int l2), .val (.int (0 : Int32)), .val (.int tt), .val (.int s1), .val (.int s2), .val (.ref ob36), .val (.ref ob41), .val (.int (1 : Int32)), .val (.int (1 : Int32)), .val (.ref ob53el)]) rfl k) ?_
        show own_Out p e below _ T53 (mkF m 302 #[.val (.int x0), .val (.int x1), .val (.int x2), .val (.int x3), .val (.int (2 : Int32)), .val (.int l1), .val (.int l2), .val (.int (0 : Int32)), .val (.int tt), .val (.int s1), .val (.int s2), .val (.ref ob36), .val (.ref ob41), .val (.int (1 : Int32)), .val (.int (1 : Int32)), .val (.ref ob53el)] []) _ _ _
        refine own_to (fun t k => XS.iload X53.here hx rfl (hb hby at_302) rfl k) ?_
        show own_Out p e below _ T53 (mkF m 304 #[.val (.int x0), .val (.int x1), .val (.int x2), .val (.int x3), .val (.int (2 : Int32)), .val (.int l1), .val (.int l2), .val (.int (0 : Int32)), .val (.int tt), .val (.int s1), .val (.int s2), .val (.ref ob36), .val (.ref ob41), .val (.int (1 : Int32)), .val (.int (1 : Int32)), .val (.ref ob53el)] [(.int (1 : Int32))]) _ _ _
        have hc304 : ¬ ((1 : Int32) = (0 : Int32)) := by decide
        refine own_to (fun t k => XS.ifNo X53.here hx rfl (hb hby at_304) rfl ((if0 _ _).trans (feq hc304).1) k) ?_
        show own_Out p e below _ T53 (mkF m 307 #[.val (.int x0), .val (.int x1), .val (.int x2), .val (.int x3), .val (.int (2 : Int32)), .val (.int l1), .val (.int l2), .val (.int (0 : Int32)), .val (.int tt), .val (.int s1), .val (.int s2), .val (.ref ob36), .val (.ref ob41), .val (.int (1 : Int32)), .val (.int (1 : Int32)), .val (.ref ob53el)] []) _ _ _
        refine own_to (fun t k => XS.aload X53.here hx rfl (hb hby at_307) rfl rfl k) ?_
        show own_Out p e below _ T53 (mkF m 309 #[.val (.int x0), .val (.int x1), .val (.int x2), .val (.int x3), .val (.int (2 : Int32)), .val (.int l1), .val (.int l2), .val (.int (0 : Int32)), .val (.int tt), .val (.int s1), .val (.int s2), .val (.ref ob36), .val (.ref ob41), .val (.int (1 : Int32)), .val (.int (1 : Int32)), .val (.ref ob53el)] [(.ref ob41)]) _ _ _
        refine own_callV X53 hx hZ hown (a := ob41) (argsL := []) (rest := []) (hw _ (List.mem_of_getElem? (i := 23) rfl)) (hw _ (List.mem_of_getElem? (i := 24) rfl)) (hw _ (List.mem_of_getElem? (i := 26) rfl)) (hw _ (List.mem_of_getElem? (i := 25) rfl)) (hw _ (List.mem_of_getElem? (i := 7) rfl)) (hw _ (List.mem_of_getElem? (i := 27) rfl)) (by decide) (rm5 l Z a0 hw ob41 (s1 + s2) nn hh53 n0 Z0 F_ob41_position F_ob41_end) (by decide) (by decide) e53 E_ob41 rfl (by rw [hml]; rfl) (lenOf pd_1 rfl) rfl (W := 0) (by show 2 * 0 + _ ≤ _; exact Nat.le_of_eq rfl) (hb hby at_309) (by decide) (by decide) fun v54 T54 hh54 L54 X54 e54 hQ54 => ?_
        obtain ⟨rfl, NL54, he54⟩ := hQ54
        replace e54 := e54.trans he54
        have N54 := Fr.app N53 NL54
        show own_Out p e below _ T54 (mkF m 312 #[.val (.int x0), .val (.int x1), .val (.int x2), .val (.int x3), .val (.int (2 : Int32)), .val (.int l1), .val (.int l2), .val (.int (0 : Int32)), .val (.int tt), .val (.int s1), .val (.int s2), .val (.ref ob36), .val (.ref ob41), .val (.int (1 : Int32)), .val (.int (1 : Int32)), .val (.ref ob53el)] [(.int (R5 ob41 (s1 + s2) nn))]) _ _ _
        refine own_to (fun t k => XS.iload X54.here hx rfl (hb hby at_312) rfl k) ?_
        show own_Out p e below _ T54 (mkF m 314 #[.val (.int x0), .val (.int x1), .val (.int x2), .val (.int x3), .val (.int (2 : Int32)), .val (.int l1), .val (.int l2), .val (.int (0 : Int32)), .val (.int tt), .val (.int s1), .val (.int s2), .val (.ref ob36), .val (.ref ob41), .val (.int (1 : Int32)), .val (.int (1 : Int32)), .val (.ref ob53el)] [(.int (0 : Int32)), (.int (R5 ob41 (s1 + s2) nn))]) _ _ _
        refine own_to (fun t k => XS.iconst X54.here hx rfl (hb hby at_314) k) ?_
        show own_Out p e below _ T54 (mkF m 315 #[.val (.int x0), .val (.int x1), .val (.int x2), .val (.int x3), .val (.int (2 : Int32)), .val (.int l1), .val (.int l2), .val (.int (0 : Int32)), .val (.int tt), .val (.int s1), .val (.int s2), .val (.ref ob36), .val (.ref ob41), .val (.int (1 : Int32)), .val (.int (1 : Int32)), .val (.ref ob53el)] [(.int (1 : Int32)), (.int (0 : Int32)), (.int (R5 ob41 (s1 + s2) nn))]) _ _ _
        have hc315 : ¬ ((0 : Int32) = (1 : Int32)) := by decide
        refine own_to (fun t k => XS.icmpYes X54.here hx rfl (pc0 := 315) (pc' := 322) rfl (hb hby at_315) rfl (feq hc315).2 (by decide) (by decide) k) ?_
        show own_Out p e below _ T54 (mkF m 322 #[.val (.int x0), .val (.int x1), .val (.int x2), .val (.int x3), .val (.int (2 : Int32)), .val (.int l1), .val (.int l2), .val (.int (0 : Int32)), .val (.int tt), .val (.int s1), .val (.int s2), .val (.ref ob36), .val (.ref ob41), .val (.int (1 : Int32)), .val (.int (1 : Int32)), .val (.ref ob53el)] [(.int (R5 ob41 (s1 + s2) nn))]) _ _ _
        refine own_to (fun t k => XS.iconst X54.here hx rfl (hb hby at_322) k) ?_
        show own_Out p e below _ T54 (mkF m 323 #[.val (.int x0), .val (.int x1), .val (.int x2), .val (.int x3), .val (.int (2 : Int32)), .val (.int l1), .val (.int l2), .val (.int (0 : Int32)), .val (.int tt), .val (.int s1), .val (.int s2), .val (.ref ob36), .val (.ref ob41), .val (.int (1 : Int32)), .val (.int (1 : Int32)), .val (.ref ob53el)] [(.int (0 : Int32)), (.int (R5 ob41 (s1 + s2) nn))]) _ _ _
        have hc323 : (R5 ob41 (s1 + s2) nn) = (0 : Int32) := own_hn0 _ _ _ (by rw [own_lt]; omega)
        refine own_to (fun t k => XS.icmpNo X54.here hx rfl (hb hby at_323) rfl (teq hc323).2 k) ?_
        show own_Out p e below _ T54 (mkF m 326 #[.val (.int x0), .val (.int x1), .val (.int x2), .val (.int x3), .val (.int (2 : Int32)), .val (.int l1), .val (.int l2), .val (.int (0 : Int32)), .val (.int tt), .val (.int s1), .val (.int s2), .val (.ref ob36), .val (.ref ob41), .val (.int (1 : Int32)), .val (.int (1 : Int32)), .val (.ref ob53el)] []) _ _ _
        refine own_to (fun t k => XS.iconst X54.here hx rfl (hb hby at_326) k) ?_
        show own_Out p e below _ T54 (mkF m 327 #[.val (.int x0), .val (.int x1), .val (.int x2), .val (.int x3), .val (.int (2 : Int32)), .val (.int l1), .val (.int l2), .val (.int (0 : Int32)), .val (.int tt), .val (.int s1), .val (.int s2), .val (.ref ob36), .val (.ref ob41), .val (.int (1 : Int32)), .val (.int (1 : Int32)), .val (.ref ob53el)] [(.int (1 : Int32))]) _ _ _
        refine own_to (fun t k => XS.goto X54.here hx rfl (pc0 := 327) (pc' := 331) rfl (hb hby at_327) (by decide) (by decide) k) ?_
        show own_Out p e below _ T54 (mkF m 331 #[.val (.int x0), .val (.int x1), .val (.int x2), .val (.int x3), .val (.int (2 : Int32)), .val (.int l1), .val (.int l2), .val (.int (0 : Int32)), .val (.int tt), .val (.int s1), .val (.int s2), .val (.ref ob36), .val (.ref ob41), .val (.int (1 : Int32)), .val (.int (1 : Int32)), .val (.ref ob53el)] [(.int (1 : Int32))]) _ _ _
        refine own_to (fun t k => XS.istore X54.here hx rfl (hb hby at_331) rfl (l' := #[.val (.int x0), .val (.int x1), .val (.int x2), .val (.int x3), .val (.int (2 : Int32)), .val (.int l1), .val (.int l2), .val (.int (0 : Int32)), .val (.int tt), .val (.int s1), .val (.int s2), .val (.ref ob36), .val (.ref ob41), .val (.int (1 : Int32)), .val (.int (1 : Int32)), .val (.ref ob53el)]) rfl k) ?_
        show own_Out p e below _ T54 (mkF m 333 #[.val (.int x0), .val (.int x1), .val (.int x2), .val (.int x3), .val (.int (2 : Int32)), .val (.int l1), .val (.int l2), .val (.int (0 : Int32)), .val (.int tt), .val (.int s1), .val (.int s2), .val (.ref ob36), .val (.ref ob41), .val (.int (1 : Int32)), .val (.int (1 : Int32)), .val (.ref ob53el)] []) _ _ _
        refine own_to (fun t k => XS.iload X54.here hx rfl (hb hby at_333) rfl k) ?_
        show own_Out p e below _ T54 (mkF m 335 #[.val (.int x0), .val (.int x1), .val (.int x2), .val (.int x3), .val (.int (2 : Int32)), .val (.int l1), .val (.int l2), .val (.int (0 : Int32)), .val (.int tt), .val (.int s1), .val (.int s2), .val (.ref ob36), .val (.ref ob41), .val (.int (1 : Int32)), .val (.int (1 : Int32)), .val (.ref ob53el)] [(.int (1 : Int32))]) _ _ _
        have hc335 : ¬ ((1 : Int32) = (0 : Int32)) := by decide
        refine own_to (fun t k => XS.ifNo X54.here hx rfl (hb hby at_335) rfl ((if0 _ _).trans (feq hc335).1) k) ?_
        show own_Out p e below _ T54 (mkF m 338 #[.val (.int x0), .val (.int x1), .val (.int x2), .val (.int x3), .val (.int (2 : Int32)), .val (.int l1), .val (.int l2), .val (.int (0 : Int32)), .val (.int tt), .val (.int s1), .val (.int s2), .val (.ref ob36), .val (.ref ob41), .val (.int (1 : Int32)), .val (.int (1 : Int32)), .val (.ref ob53el)] []) _ _ _
        refine own_to (fun t k => XS.aload X54.here hx rfl (hb hby at_338) rfl rfl k) ?_
        show own_Out p e below _ T54 (mkF m 340 #[.val (.int x0), .val (.int x1), .val (.int x2), .val (.int x3), .val (.int (2 : Int32)), .val (.int l1), .val (.int l2), .val (.int (0 : Int32)), .val (.int tt), .val (.int s1), .val (.int s2), .val (.ref ob36), .val (.ref ob41), .val (.int (1 : Int32)), .val (.int (1 : Int32)), .val (.ref ob53el)] [(.ref ob53el)]) _ _ _
        refine own_callV X54 hx hZ hown (a := ob53el) (argsL := []) (rest := []) (hw _ (List.mem_of_getElem? (i := 64) rfl)) (hw _ (List.mem_of_getElem? (i := 65) rfl)) (hw _ (List.mem_of_getElem? (i := 67) rfl)) (hw _ (List.mem_of_getElem? (i := 66) rfl)) (hw _ (List.mem_of_getElem? (i := 49) rfl)) (hw _ (List.mem_of_getElem? (i := 68) rfl)) (by decide) (rm9 l Z a0 hw ob53el ob36 ((s1 + (1 : Int32)) + (1 : Int32)) (s1 + s2) hh53 n0 Z0 F_ob53el_bytes F_ob53el_contents F_ob53el_end) (by decide) (by decide) e54 E_ob53el rfl (by rw [hml]; rfl) (lenOf pd_7 rfl) rfl (W := 0) (by show 2 * 0 + _ ≤ _; exact Nat.le_of_eq rfl) (hb hby at_340) (by decide) (by decide) fun v55 T55 hh55 L55 X55 e55 hQ55 => ?_
        obtain ⟨NL55, KK55, ob55rd, rfl, szc_ob55rd, P55_0, P55_1, P55_2, P55_3⟩ := hQ55
        have ne_ob36_ob55rd : ob36 ≠ ob55rd := Nat.ne_of_lt (Nat.lt_of_lt_of_le A_ob36.lt szc_ob55rd)
        have ne_ob55rd_ob36 := Ne.symm ne_ob36_ob55rd
        have ne_ob41_ob55rd : ob41 ≠ ob55rd := Nat.ne_of_lt (Nat.lt_of_lt_of_le E_ob41.lt szc_ob55rd)
        have ne_ob55rd_ob41 := Ne.symm ne_ob41_ob55rd
        have ne_ob45el_ob55rd : ob45el ≠ ob55rd := Nat.ne_of_lt (Nat.lt_of_lt_of_le E_ob45el.lt szc_ob55rd)
        have ne_ob55rd_ob45el := Ne.symm ne_ob45el_ob55rd
        have ne_ob47rd_ob55rd : ob47rd ≠ ob55rd := Nat.ne_of_lt (Nat.lt_of_lt_of_le E_ob47rd.lt szc_ob55rd)
        have ne_ob55rd_ob47rd := Ne.symm ne_ob47rd_ob55rd
        have ne_ob53el_ob55rd : ob53el ≠ ob55rd := Nat.ne_of_lt (Nat.lt_of_lt_of_le E_ob53el.lt szc_ob55rd)
        have ne_ob55rd_ob53el := Ne.symm ne_ob53el_ob55rd
        have g_ob55rd : n0 ≤ ob55rd := Nat.le_trans Z0 szc_ob55rd
        have A_ob36 := A_ob36.keep KK55 (by simp [])
        have E_ob41 := E_ob41.keep KK55
        have E_ob45el := E_ob45el.keep KK55
        have F_ob45el_bytes := F_ob45el_bytes.keep KK55 (by simp [])
        have F_ob45el_tag := F_ob45el_tag.keep KK55 (by simp [])
        have F_ob45el_start := F_ob45el_start.keep KK55 (by simp [])
        have F_ob45el_contents := F_ob45el_contents.keep KK55 (by simp [])
        have F_ob45el_end := F_ob45el_end.keep KK55 (by simp [])
        have E_ob47rd := E_ob47rd.keep KK55
        have F_ob47rd_bytes := F_ob47rd_bytes.keep KK55 (by simp [])
        have F_ob47rd_position := F_ob47rd_position.keep KK55 (by simp [])
        have F_ob47rd_end := F_ob47rd_end.keep KK55 (by simp [])
        have F_ob41_bytes := F_ob41_bytes.keep KK55 (by simp [])
        have F_ob41_position := F_ob41_position.keep KK55 (by simp [])
        have F_ob41_end := F_ob41_end.keep KK55 (by simp [])
        have E_ob53el := E_ob53el.keep KK55
        have F_ob53el_bytes := F_ob53el_bytes.keep KK55 (by simp [])
        have F_ob53el_tag := F_ob53el_tag.keep KK55 (by simp [])
        have F_ob53el_start := F_ob53el_start.keep KK55 (by simp [])
        have F_ob53el_contents := F_ob53el_contents.keep KK55 (by simp [])
        have F_ob53el_end := F_ob53el_end.keep KK55 (by simp [])
        have E_ob55rd := P55_0
        have F_ob55rd_bytes := P55_1
        have F_ob55rd_position := P55_2
        have F_ob55rd_end := P55_3
        have Z0 := Nat.le_trans Z0 KK55.1
        have hk := Nat.le_trans hk KK55.1
        have N55 := Fr.app N54 NL55
        show own_Out p e below _ T55 (mkF m 343 #[.val (.int x0), .val (.int x1), .val (.int x2), .val (.int x3), .val (.int (2 : Int32)), .val (.int l1), .val (.int l2), .val (.int (0 : Int32)), .val (.int tt), .val (.int s1), .val (.int s2), .val (.ref ob36), .val (.ref ob41), .val (.int (1 : Int32)), .val (.int (1 : Int32)), .val (.ref ob53el)] [(.ref ob55rd)]) _ _ _
        refine own_callV X55 hx hZ hown (a := ob55rd) (argsL := []) (rest := []) (hw _ (List.mem_of_getElem? (i := 23) rfl)) (hw _ (List.mem_of_getElem? (i := 24) rfl)) (hw _ (List.mem_of_getElem? (i := 26) rfl)) (hw _ (List.mem_of_getElem? (i := 25) rfl)) (hw _ (List.mem_of_getElem? (i := 7) rfl)) (hw _ (List.mem_of_getElem? (i := 27) rfl)) (by decide) (rm5 l Z a0 hw ob55rd ((s1 + (1 : Int32)) + (1 : Int32)) (s1 + s2) hh55 n0 Z0 F_ob55rd_position F_ob55rd_end) (by decide) (by decide) e55 E_ob55rd rfl (by rw [hml]; rfl) (lenOf pd_1 rfl) rfl (W := 0) (by show 2 * 0 + _ ≤ _; exact Nat.le_of_eq rfl) (hb hby at_343) (by decide) (by decide) fun v56 T56 hh56 L56 X56 e56 hQ56 => ?_
        obtain ⟨rfl, NL56, he56⟩ := hQ56
        replace e56 := e56.trans he56
        have N56 := Fr.app N55 NL56
        show own_Out p e below _ T56 (mkF m 346 #[.val (.int x0), .val (.int x1), .val (.int x2), .val (.int x3), .val (.int (2 : Int32)), .val (.int l1), .val (.int l2), .val (.int (0 : Int32)), .val (.int tt), .val (.int s1), .val (.int s2), .val (.ref ob36), .val (.ref ob41), .val (.int (1 : Int32)), .val (.int (1 : Int32)), .val (.ref ob53el)] [(.int (R5 ob55rd ((s1 + (1 : Int32)) + (1 : Int32)) (s1 + s2)))]) _ _ _
        refine own_to (fun t k => XS.iload X56.here hx rfl (hb hby at_346) rfl k) ?_
        show own_Out p e below _ T56 (mkF m 348 #[.val (.int x0), .val (.int x1), .val (.int x2), .val (.int x3), .val (.int (2 : Int32)), .val (.int l1), .val (.int l2), .val (.int (0 : Int32)), .val (.int tt), .val (.int s1), .val (.int s2), .val (.ref ob36), .val (.ref ob41), .val (.int (1 : Int32)), .val (.int (1 : Int32)), .val (.ref ob53el)] [(.int l2), (.int (R5 ob55rd ((s1 + (1 : Int32)) + (1 : Int32)) (s1 + s2)))]) _ _ _
        by_cases hc348 : (0 : Int32) < l2
        · refine own_to (fun t k => XS.ifNo X56.here hx rfl (hb hby at_348) rfl ((if0 _ _).trans (tlt hc348).2.2.2) k) ?_
          show own_Out p e below _ T56 (mkF m 351 #[.val (.int x0), .val (.int x1), .val (.int x2), .val (.int x3), .val (.int (2 : Int32)), .val (.int l1), .val (.int l2), .val (.int (0 : Int32)), .val (.int tt), .val (.int s1), .val (.int s2), .val (.ref ob36), .val (.ref ob41), .val (.int (1 : Int32)), .val (.int (1 : Int32)), .val (.ref ob53el)] [(.int (R5 ob55rd ((s1 + (1 : Int32)) + (1 : Int32)) (s1 + s2)))]) _ _ _
          refine own_to (fun t k => XS.iconst X56.here hx rfl (hb hby at_351) k) ?_
          show own_Out p e below _ T56 (mkF m 352 #[.val (.int x0), .val (.int x1), .val (.int x2), .val (.int x3), .val (.int (2 : Int32)), .val (.int l1), .val (.int l2), .val (.int (0 : Int32)), .val (.int tt), .val (.int s1), .val (.int s2), .val (.ref ob36), .val (.ref ob41), .val (.int (1 : Int32)), .val (.int (1 : Int32)), .val (.ref ob53el)] [(.int (1 : Int32)), (.int (R5 ob55rd ((s1 + (1 : Int32)) + (1 : Int32)) (s1 + s2)))]) _ _ _
          refine own_to (fun t k => XS.goto X56.here hx rfl (pc0 := 352) (pc' := 356) rfl (hb hby at_352) (by decide) (by decide) k) ?_
          show own_Out p e below _ T56 (mkF m 356 #[.val (.int x0), .val (.int x1), .val (.int x2), .val (.int x3), .val (.int (2 : Int32)), .val (.int l1), .val (.int l2), .val (.int (0 : Int32)), .val (.int tt), .val (.int s1), .val (.int s2), .val (.ref ob36), .val (.ref ob41), .val (.int (1 : Int32)), .val (.int (1 : Int32)), .val (.ref ob53el)] [(.int (1 : Int32)), (.int (R5 ob55rd ((s1 + (1 : Int32)) + (1 : Int32)) (s1 + s2)))]) _ _ _
          have hc356 : (R5 ob55rd ((s1 + (1 : Int32)) + (1 : Int32)) (s1 + s2)) = (1 : Int32) := own_hn1 _ _ _ (by rw [own_lt] at hc348 ⊢; omega)
          refine own_to (fun t k => XS.icmpNo X56.here hx rfl (hb hby at_356) rfl (teq hc356).2 k) ?_
          show own_Out p e below _ T56 (mkF m 359 #[.val (.int x0), .val (.int x1), .val (.int x2), .val (.int x3), .val (.int (2 : Int32)), .val (.int l1), .val (.int l2), .val (.int (0 : Int32)), .val (.int tt), .val (.int s1), .val (.int s2), .val (.ref ob36), .val (.ref ob41), .val (.int (1 : Int32)), .val (.int (1 : Int32)), .val (.ref ob53el)] []) _ _ _
          refine own_to (fun t k => XS.iconst X56.here hx rfl (hb hby at_359) k) ?_
          show own_Out p e below _ T56 (mkF m 360 #[.val (.int x0), .val (.int x1), .val (.int x2), .val (.int x3), .val (.int (2 : Int32)), .val (.int l1), .val (.int l2), .val (.int (0 : Int32)), .val (.int tt), .val (.int s1), .val (.int s2), .val (.ref ob36), .val (.ref ob41), .val (.int (1 : Int32)), .val (.int (1 : Int32)), .val (.ref ob53el)] [(.int (1 : Int32))]) _ _ _
          refine own_to (fun t k => XS.goto X56.here hx rfl (pc0 := 360) (pc' := 364) rfl (hb hby at_360) (by decide) (by decide) k) ?_
          show own_Out p e below _ T56 (mkF m 364 #[.val (.int x0), .val (.int x1), .val (.int x2), .val (.int x3), .val (.int (2 : Int32)), .val (.int l1), .val (.int l2), .val (.int (0 : Int32)), .val (.int tt), .val (.int s1), .val (.int s2), .val (.ref ob36), .val (.ref ob41), .val (.int (1 : Int32)), .val (.int (1 : Int32)), .val (.ref ob53el)] [(.int (1 : Int32))]) _ _ _
          refine own_to (fun t k => XS.istore X56.here hx rfl (hb hby at_364) rfl (l' := #[.val (.int x0), .val (.int x1), .val (.int x2), .val (.int x3), .val (.int (2 : Int32)), .val (.int l1), .val (.int l2), .val (.int (0 : Int32)), .val (.int tt), .val (.int s1), .val (.int s2), .val (.ref ob36), .val (.ref ob41), .val (.int (1 : Int32)), .val (.int (1 : Int32)), .val (.ref ob53el)]) rfl k) ?_
          show own_Out p e below _ T56 (mkF m 366 #[.val (.int x0), .val (.int x1), .val (.int x2), .val (.int x3), .val (.int (2 : Int32)), .val (.int l1), .val (.int l2), .val (.int (0 : Int32)), .val (.int tt), .val (.int s1), .val (.int s2), .val (.ref ob36), .val (.ref ob41), .val (.int (1 : Int32)), .val (.int (1 : Int32)), .val (.ref ob53el)] []) _ _ _
          refine own_to (fun t k => XS.iload X56.here hx rfl (hb hby at_366) rfl k) ?_
          show own_Out p e below _ T56 (mkF m 368 #[.val (.int x0), .val (.int x1), .val (.int x2), .val (.int x3), .val (.int (2 : Int32)), .val (.int l1), .val (.int l2), .val (.int (0 : Int32)), .val (.int tt), .val (.int s1), .val (.int s2), .val (.ref ob36), .val (.ref ob41), .val (.int (1 : Int32)), .val (.int (1 : Int32)), .val (.ref ob53el)] [(.int (1 : Int32))]) _ _ _
          refine own_retVW X56 hS hk e56 hx hlk (w := .int (1 : Int32)) hret rfl (Or.inl ⟨rfl, by simp, _, rfl⟩) (hb hby at_368) (by decide) (by decide) ?_
          rw [e56]
          exact ⟨rfl, N56⟩
        · refine own_to (fun t k => XS.ifYes X56.here hx rfl (pc0 := 348) (pc' := 355) rfl (hb hby at_348) rfl ((if0 _ _).trans (flt hc348).2.2.2) (by decide) (by decide) k) ?_
          show own_Out p e below _ T56 (mkF m 355 #[.val (.int x0), .val (.int x1), .val (.int x2), .val (.int x3), .val (.int (2 : Int32)), .val (.int l1), .val (.int l2), .val (.int (0 : Int32)), .val (.int tt), .val (.int s1), .val (.int s2), .val (.ref ob36), .val (.ref ob41), .val (.int (1 : Int32)), .val (.int (1 : Int32)), .val (.ref ob53el)] [(.int (R5 ob55rd ((s1 + (1 : Int32)) + (1 : Int32)) (s1 + s2)))]) _ _ _
          refine own_to (fun t k => XS.iconst X56.here hx rfl (hb hby at_355) k) ?_
          show own_Out p e below _ T56 (mkF m 356 #[.val (.int x0), .val (.int x1), .val (.int x2), .val (.int x3), .val (.int (2 : Int32)), .val (.int l1), .val (.int l2), .val (.int (0 : Int32)), .val (.int tt), .val (.int s1), .val (.int s2), .val (.ref ob36), .val (.ref ob41), .val (.int (1 : Int32)), .val (.int (1 : Int32)), .val (.ref ob53el)] [(.int (0 : Int32)), (.int (R5 ob55rd ((s1 + (1 : Int32)) + (1 : Int32)) (s1 + s2)))]) _ _ _
          have hc356 : (R5 ob55rd ((s1 + (1 : Int32)) + (1 : Int32)) (s1 + s2)) = (0 : Int32) := own_hn0 _ _ _ (by rw [own_lt] at hc348 ⊢; omega)
          refine own_to (fun t k => XS.icmpNo X56.here hx rfl (hb hby at_356) rfl (teq hc356).2 k) ?_
          show own_Out p e below _ T56 (mkF m 359 #[.val (.int x0), .val (.int x1), .val (.int x2), .val (.int x3), .val (.int (2 : Int32)), .val (.int l1), .val (.int l2), .val (.int (0 : Int32)), .val (.int tt), .val (.int s1), .val (.int s2), .val (.ref ob36), .val (.ref ob41), .val (.int (1 : Int32)), .val (.int (1 : Int32)), .val (.ref ob53el)] []) _ _ _
          refine own_to (fun t k => XS.iconst X56.here hx rfl (hb hby at_359) k) ?_
          show own_Out p e below _ T56 (mkF m 360 #[.val (.int x0), .val (.int x1), .val (.int x2), .val (.int x3), .val (.int (2 : Int32)), .val (.int l1), .val (.int l2), .val (.int (0 : Int32)), .val (.int tt), .val (.int s1), .val (.int s2), .val (.ref ob36), .val (.ref ob41), .val (.int (1 : Int32)), .val (.int (1 : Int32)), .val (.ref ob53el)] [(.int (1 : Int32))]) _ _ _
          refine own_to (fun t k => XS.goto X56.here hx rfl (pc0 := 360) (pc' := 364) rfl (hb hby at_360) (by decide) (by decide) k) ?_
          show own_Out p e below _ T56 (mkF m 364 #[.val (.int x0), .val (.int x1), .val (.int x2), .val (.int x3), .val (.int (2 : Int32)), .val (.int l1), .val (.int l2), .val (.int (0 : Int32)), .val (.int tt), .val (.int s1), .val (.int s2), .val (.ref ob36), .val (.ref ob41), .val (.int (1 : Int32)), .val (.int (1 : Int32)), .val (.ref ob53el)] [(.int (1 : Int32))]) _ _ _
          refine own_to (fun t k => XS.istore X56.here hx rfl (hb hby at_364) rfl (l' := #[.val (.int x0), .val (.int x1), .val (.int x2), .val (.int x3), .val (.int (2 : Int32)), .val (.int l1), .val (.int l2), .val (.int (0 : Int32)), .val (.int tt), .val (.int s1), .val (.int s2), .val (.ref ob36), .val (.ref ob41), .val (.int (1 : Int32)), .val (.int (1 : Int32)), .val (.ref ob53el)]) rfl k) ?_
          show own_Out p e below _ T56 (mkF m 366 #[.val (.int x0), .val (.int x1), .val (.int x2), .val (.int x3), .val (.int (2 : Int32)), .val (.int l1), .val (.int l2), .val (.int (0 : Int32)), .val (.int tt), .val (.int s1), .val (.int s2), .val (.ref ob36), .val (.ref ob41), .val (.int (1 : Int32)), .val (.int (1 : Int32)), .val (.ref ob53el)] []) _ _ _
          refine own_to (fun t k => XS.iload X56.here hx rfl (hb hby at_366) rfl k) ?_
          show own_Out p e below _ T56 (mkF m 368 #[.val (.int x0), .val (.int x1), .val (.int x2), .val (.int x3), .val (.int (2 : Int32)), .val (.int l1), .val (.int l2), .val (.int (0 : Int32)), .val (.int tt), .val (.int s1), .val (.int s2), .val (.ref ob36), .val (.ref ob41), .val (.int (1 : Int32)), .val (.int (1 : Int32)), .val (.ref ob53el)] [(.int (1 : Int32))]) _ _ _
          refine own_retVW X56 hS hk e56 hx hlk (w := .int (1 : Int32)) hret rfl (Or.inl ⟨rfl, by simp, _, rfl⟩) (hb hby at_368) (by decide) (by decide) ?_
          rw [e56]
          exact ⟨rfl, N56⟩
    · subst hk_tr
      show own_Out p e below _ T1 (mkF m 24 #[.val (.int x0), .val (.int x1), .val (.int x2), .val (.int x3), .val (.int (2 : Int32)), .val (.int l1), .val (.int l2), .val (.int (1 : Int32)), .unset, .unset, .unset, .unset, .unset, .unset, .unset, .unset] []) _ _ _
      refine own_to (fun t k => XS.iloadN X1.here hx rfl (hb hby at_24) rfl k) ?_
      show own_Out p e below _ T1 (mkF m 25 #[.val (.int x0), .val (.int x1), .val (.int x2), .val (.int x3), .val (.int (2 : Int32)), .val (.int l1), .val (.int l2), .val (.int (1 : Int32)), .unset, .unset, .unset, .unset, .unset, .unset, .unset, .unset] [(.int x3)]) _ _ _
      refine own_to (fun t k => XS.iconst X1.here hx rfl (hb hby at_25) k) ?_
      show own_Out p e below _ T1 (mkF m 26 #[.val (.int x0), .val (.int x1), .val (.int x2), .val (.int x3), .val (.int (2 : Int32)), .val (.int l1), .val (.int l2), .val (.int (1 : Int32)), .unset, .unset, .unset, .unset, .unset, .unset, .unset, .unset] [(.int (1 : Int32)), (.int x3)]) _ _ _
      refine own_to (fun t k => XS.iushr X1.here hx rfl (hb hby at_26) rfl k) ?_
      show own_Out p e below _ T1 (mkF m 27 #[.val (.int x0), .val (.int x1), .val (.int x2), .val (.int x3), .val (.int (2 : Int32)), .val (.int l1), .val (.int l2), .val (.int (1 : Int32)), .unset, .unset, .unset, .unset, .unset, .unset, .unset, .unset] [(.int ((x3.toUInt32 >>> ((1 : Int32) &&& 31).toUInt32).toInt32))]) _ _ _
      refine own_to (fun t k => XS.sipush X1.here hx rfl (hb hby at_27) k) ?_
      show own_Out p e below _ T1 (mkF m 30 #[.val (.int x0), .val (.int x1), .val (.int x2), .val (.int x3), .val (.int (2 : Int32)), .val (.int l1), .val (.int l2), .val (.int (1 : Int32)), .unset, .unset, .unset, .unset, .unset, .unset, .unset, .unset] [(.int (254 : Int32)), (.int ((x3.toUInt32 >>> ((1 : Int32) &&& 31).toUInt32).toInt32))]) _ _ _
      refine own_to (fun t k => XS.iand X1.here hx rfl (hb hby at_30) rfl k) ?_
      show own_Out p e below _ T1 (mkF m 31 #[.val (.int x0), .val (.int x1), .val (.int x2), .val (.int x3), .val (.int (2 : Int32)), .val (.int l1), .val (.int l2), .val (.int (1 : Int32)), .unset, .unset, .unset, .unset, .unset, .unset, .unset, .unset] [(.int (((x3.toUInt32 >>> ((1 : Int32) &&& 31).toUInt32).toInt32) &&& (254 : Int32)))]) _ _ _
      refine own_to (fun t k => XS.istore X1.here hx rfl (hb hby at_31) rfl (l' := #[.val (.int x0), .val (.int x1), .val (.int x2), .val (.int x3), .val (.int (2 : Int32)), .val (.int l1), .val (.int l2), .val (.int (1 : Int32)), .val (.int (((x3.toUInt32 >>> ((1 : Int32) &&& 31).toUInt32).toInt32) &&& (254 : Int32))), .unset, .unset, .unset, .unset, .unset, .unset, .unset]) rfl k) ?_
      show own_Out p e below _ T1 (mkF m 33 #[.val (.int x0), .val (.int x1), .val (.int x2), .val (.int x3), .val (.int (2 : Int32)), .val (.int l1), .val (.int l2), .val (.int (1 : Int32)), .val (.int (((x3.toUInt32 >>> ((1 : Int32) &&& 31).toUInt32).toInt32) &&& (254 : Int32))), .unset, .unset, .unset, .unset, .unset, .unset, .unset] []) _ _ _
      generalize hv_tt : (((x3.toUInt32 >>> ((1 : Int32) &&& 31).toUInt32).toInt32) &&& (254 : Int32)) = tt
      show own_Out p e below _ T1 (mkF m 33 #[.val (.int x0), .val (.int x1), .val (.int x2), .val (.int x3), .val (.int (2 : Int32)), .val (.int l1), .val (.int l2), .val (.int (1 : Int32)), .val (.int tt), .unset, .unset, .unset, .unset, .unset, .unset, .unset] []) _ _ _
      have htt := own_tgok ((x3.toUInt32 >>> ((1 : Int32) &&& 31).toUInt32).toInt32)
      rw [hv_tt] at htt
      refine own_to (fun t k => XS.iload X1.here hx rfl (hb hby at_33) rfl k) ?_
      show own_Out p e below _ T1 (mkF m 35 #[.val (.int x0), .val (.int x1), .val (.int x2), .val (.int x3), .val (.int (2 : Int32)), .val (.int l1), .val (.int l2), .val (.int (1 : Int32)), .val (.int tt), .unset, .unset, .unset, .unset, .unset, .unset, .unset] [(.int (2 : Int32))]) _ _ _
      refine own_to (fun t k => XS.iconst X1.here hx rfl (hb hby at_35) k) ?_
      show own_Out p e below _ T1 (mkF m 36 #[.val (.int x0), .val (.int x1), .val (.int x2), .val (.int x3), .val (.int (2 : Int32)), .val (.int l1), .val (.int l2), .val (.int (1 : Int32)), .val (.int tt), .unset, .unset, .unset, .unset, .unset, .unset, .unset] [(.int (1 : Int32)), (.int (2 : Int32))]) _ _ _
      have hc36 : ¬ ((2 : Int32) < (1 : Int32)) := by decide
      refine own_to (fun t k => XS.icmpNo X1.here hx rfl (hb hby at_36) rfl (flt hc36).1 k) ?_
      show own_Out p e below _ T1 (mkF m 39 #[.val (.int x0), .val (.int x1), .val (.int x2), .val (.int x3), .val (.int (2 : Int32)), .val (.int l1), .val (.int l2), .val (.int (1 : Int32)), .val (.int tt), .unset, .unset, .unset, .unset, .unset, .unset, .unset] []) _ _ _
      refine own_to (fun t k => XS.iconst X1.here hx rfl (hb hby at_39) k) ?_
      show own_Out p e below _ T1 (mkF m 40 #[.val (.int x0), .val (.int x1), .val (.int x2), .val (.int x3), .val (.int (2 : Int32)), .val (.int l1), .val (.int l2), .val (.int (1 : Int32)), .val (.int tt), .unset, .unset, .unset, .unset, .unset, .unset, .unset] [(.int (2 : Int32))]) _ _ _
      refine own_to (fun t k => XS.iload X1.here hx rfl (hb hby at_40) rfl k) ?_
      show own_Out p e below _ T1 (mkF m 42 #[.val (.int x0), .val (.int x1), .val (.int x2), .val (.int x3), .val (.int (2 : Int32)), .val (.int l1), .val (.int l2), .val (.int (1 : Int32)), .val (.int tt), .unset, .unset, .unset, .unset, .unset, .unset, .unset] [(.int l1), (.int (2 : Int32))]) _ _ _
      refine own_to (fun t k => XS.iadd X1.here hx rfl (hb hby at_42) rfl k) ?_
      show own_Out p e below _ T1 (mkF m 43 #[.val (.int x0), .val (.int x1), .val (.int x2), .val (.int x3), .val (.int (2 : Int32)), .val (.int l1), .val (.int l2), .val (.int (1 : Int32)), .val (.int tt), .unset, .unset, .unset, .unset, .unset, .unset, .unset] [(.int ((2 : Int32) + l1))]) _ _ _
      refine own_to (fun t k => XS.goto X1.here hx rfl (pc0 := 43) (pc' := 47) rfl (hb hby at_43) (by decide) (by decide) k) ?_
      show own_Out p e below _ T1 (mkF m 47 #[.val (.int x0), .val (.int x1), .val (.int x2), .val (.int x3), .val (.int (2 : Int32)), .val (.int l1), .val (.int l2), .val (.int (1 : Int32)), .val (.int tt), .unset, .unset, .unset, .unset, .unset, .unset, .unset] [(.int ((2 : Int32) + l1))]) _ _ _
      refine own_to (fun t k => XS.istore X1.here hx rfl (hb hby at_47) rfl (l' := #[.val (.int x0), .val (.int x1), .val (.int x2), .val (.int x3), .val (.int (2 : Int32)), .val (.int l1), .val (.int l2), .val (.int (1 : Int32)), .val (.int tt), .val (.int ((2 : Int32) + l1)), .unset, .unset, .unset, .unset, .unset, .unset]) rfl k) ?_
      show own_Out p e below _ T1 (mkF m 49 #[.val (.int x0), .val (.int x1), .val (.int x2), .val (.int x3), .val (.int (2 : Int32)), .val (.int l1), .val (.int l2), .val (.int (1 : Int32)), .val (.int tt), .val (.int ((2 : Int32) + l1)), .unset, .unset, .unset, .unset, .unset, .unset] []) _ _ _
      generalize hv_s1 : ((2 : Int32) + l1) = s1
      show own_Out p e below _ T1 (mkF m 49 #[.val (.int x0), .val (.int x1), .val (.int x2), .val (.int x3), .val (.int (2 : Int32)), .val (.int l1), .val (.int l2), .val (.int (1 : Int32)), .val (.int tt), .val (.int s1), .unset, .unset, .unset, .unset, .unset, .unset] []) _ _ _
      have h_s1 : s1.toInt = 2 + l1.toInt := by rw [← hv_s1, own_ad 2 l1 (by omega) (by omega), k2]
      have h_s1p := own_ad s1 1 (by omega) (by omega)
      rw [k1] at h_s1p
      refine own_to (fun t k => XS.iload X1.here hx rfl (hb hby at_49) rfl k) ?_
      show own_Out p e below _ T1 (mkF m 51 #[.val (.int x0), .val (.int x1), .val (.int x2), .val (.int x3), .val (.int (2 : Int32)), .val (.int l1), .val (.int l2), .val (.int (1 : Int32)), .val (.int tt), .val (.int s1), .unset, .unset, .unset, .unset, .unset, .unset] [(.int (2 : Int32))]) _ _ _
      refine own_to (fun t k => XS.iconst X1.here hx rfl (hb hby at_51) k) ?_
      show own_Out p e below _ T1 (mkF m 52 #[.val (.int x0), .val (.int x1), .val (.int x2), .val (.int x3), .val (.int (2 : Int32)), .val (.int l1), .val (.int l2), .val (.int (1 : Int32)), .val (.int tt), .val (.int s1), .unset, .unset, .unset, .unset, .unset, .unset] [(.int (2 : Int32)), (.int (2 : Int32))]) _ _ _
      have hc52 : ¬ ((2 : Int32) < (2 : Int32)) := by decide
      refine own_to (fun t k => XS.icmpNo X1.here hx rfl (hb hby at_52) rfl (flt hc52).1 k) ?_
      show own_Out p e below _ T1 (mkF m 55 #[.val (.int x0), .val (.int x1), .val (.int x2), .val (.int x3), .val (.int (2 : Int32)), .val (.int l1), .val (.int l2), .val (.int (1 : Int32)), .val (.int tt), .val (.int s1), .unset, .unset, .unset, .unset, .unset, .unset] []) _ _ _
      refine own_to (fun t k => XS.iconst X1.here hx rfl (hb hby at_55) k) ?_
      show own_Out p e below _ T1 (mkF m 56 #[.val (.int x0), .val (.int x1), .val (.int x2), .val (.int x3), .val (.int (2 : Int32)), .val (.int l1), .val (.int l2), .val (.int (1 : Int32)), .val (.int tt), .val (.int s1), .unset, .unset, .unset, .unset, .unset, .unset] [(.int (2 : Int32))]) _ _ _
      refine own_to (fun t k => XS.iload X1.here hx rfl (hb hby at_56) rfl k) ?_
      show own_Out p e below _ T1 (mkF m 58 #[.val (.int x0), .val (.int x1), .val (.int x2), .val (.int x3), .val (.int (2 : Int32)), .val (.int l1), .val (.int l2), .val (.int (1 : Int32)), .val (.int tt), .val (.int s1), .unset, .unset, .unset, .unset, .unset, .unset] [(.int l2), (.int (2 : Int32))]) _ _ _
      refine own_to (fun t k => XS.iadd X1.here hx rfl (hb hby at_58) rfl k) ?_
      show own_Out p e below _ T1 (mkF m 59 #[.val (.int x0), .val (.int x1), .val (.int x2), .val (.int x3), .val (.int (2 : Int32)), .val (.int l1), .val (.int l2), .val (.int (1 : Int32)), .val (.int tt), .val (.int s1), .unset, .unset, .unset, .unset, .unset, .unset] [(.int ((2 : Int32) + l2))]) _ _ _
      refine own_to (fun t k => XS.goto X1.here hx rfl (pc0 := 59) (pc' := 63) rfl (hb hby at_59) (by decide) (by decide) k) ?_
      show own_Out p e below _ T1 (mkF m 63 #[.val (.int x0), .val (.int x1), .val (.int x2), .val (.int x3), .val (.int (2 : Int32)), .val (.int l1), .val (.int l2), .val (.int (1 : Int32)), .val (.int tt), .val (.int s1), .unset, .unset, .unset, .unset, .unset, .unset] [(.int ((2 : Int32) + l2))]) _ _ _
      refine own_to (fun t k => XS.istore X1.here hx rfl (hb hby at_63) rfl (l' := #[.val (.int x0), .val (.int x1), .val (.int x2), .val (.int x3), .val (.int (2 : Int32)), .val (.int l1), .val (.int l2), .val (.int (1 : Int32)), .val (.int tt), .val (.int s1), .val (.int ((2 : Int32) + l2)), .unset, .unset, .unset, .unset, .unset]) rfl k) ?_
      show own_Out p e below _ T1 (mkF m 65 #[.val (.int x0), .val (.int x1), .val (.int x2), .val (.int x3), .val (.int (2 : Int32)), .val (.int l1), .val (.int l2), .val (.int (1 : Int32)), .val (.int tt), .val (.int s1), .val (.int ((2 : Int32) + l2)), .unset, .unset, .unset, .unset, .unset] []) _ _ _
      generalize hv_s2 : ((2 : Int32) + l2) = s2
      show own_Out p e below _ T1 (mkF m 65 #[.val (.int x0), .val (.int x1), .val (.int x2), .val (.int x3), .val (.int (2 : Int32)), .val (.int l1), .val (.int l2), .val (.int (1 : Int32)), .val (.int tt), .val (.int s1), .val (.int s2), .unset, .unset, .unset, .unset, .unset] []) _ _ _
      have h_s2 : s2.toInt = 2 + l2.toInt := by rw [← hv_s2, own_ad 2 l2 (by omega) (by omega), k2]
      have h_s12 := own_ad s1 s2 (by omega) (by omega)
      refine own_to (fun t k => XS.iload X1.here hx rfl (hb hby at_65) rfl k) ?_
      show own_Out p e below _ T1 (mkF m 67 #[.val (.int x0), .val (.int x1), .val (.int x2), .val (.int x3), .val (.int (2 : Int32)), .val (.int l1), .val (.int l2), .val (.int (1 : Int32)), .val (.int tt), .val (.int s1), .val (.int s2), .unset, .unset, .unset, .unset, .unset] [(.int s1)]) _ _ _
      refine own_to (fun t k => XS.iload X1.here hx rfl (hb hby at_67) rfl k) ?_
      show own_Out p e below _ T1 (mkF m 69 #[.val (.int x0), .val (.int x1), .val (.int x2), .val (.int x3), .val (.int (2 : Int32)), .val (.int l1), .val (.int l2), .val (.int (1 : Int32)), .val (.int tt), .val (.int s1), .val (.int s2), .unset, .unset, .unset, .unset, .unset] [(.int s2), (.int s1)]) _ _ _
      refine own_to (fun t k => XS.iadd X1.here hx rfl (hb hby at_69) rfl k) ?_
      show own_Out p e below _ T1 (mkF m 70 #[.val (.int x0), .val (.int x1), .val (.int x2), .val (.int x3), .val (.int (2 : Int32)), .val (.int l1), .val (.int l2), .val (.int (1 : Int32)), .val (.int tt), .val (.int s1), .val (.int s2), .unset, .unset, .unset, .unset, .unset] [(.int (s1 + s2))]) _ _ _
      refine own_to (fun t k => XS.iload X1.here hx rfl (hb hby at_70) rfl k) ?_
      show own_Out p e below _ T1 (mkF m 72 #[.val (.int x0), .val (.int x1), .val (.int x2), .val (.int x3), .val (.int (2 : Int32)), .val (.int l1), .val (.int l2), .val (.int (1 : Int32)), .val (.int tt), .val (.int s1), .val (.int s2), .unset, .unset, .unset, .unset, .unset] [(.int (1 : Int32)), (.int (s1 + s2))]) _ _ _
      refine own_to (fun t k => XS.iadd X1.here hx rfl (hb hby at_72) rfl k) ?_
      show own_Out p e below _ T1 (mkF m 73 #[.val (.int x0), .val (.int x1), .val (.int x2), .val (.int x3), .val (.int (2 : Int32)), .val (.int l1), .val (.int l2), .val (.int (1 : Int32)), .val (.int tt), .val (.int s1), .val (.int s2), .unset, .unset, .unset, .unset, .unset] [(.int ((s1 + s2) + (1 : Int32)))]) _ _ _
      have h_a := own_ad s1 s2 (by omega) (by omega)
      have h_b := own_ad (s1 + s2) (1 : Int32) (by omega) (by omega)
      generalize hv_nn : ((s1 + s2) + (1 : Int32)) = nn
      show own_Out p e below _ T1 (mkF m 73 #[.val (.int x0), .val (.int x1), .val (.int x2), .val (.int x3), .val (.int (2 : Int32)), .val (.int l1), .val (.int l2), .val (.int (1 : Int32)), .val (.int tt), .val (.int s1), .val (.int s2), .unset, .unset, .unset, .unset, .unset] [(.int nn)]) _ _ _
      rw [hv_nn] at h_b
      refine own_newA X1 hx hZ (hw _ (List.mem_of_getElem? (i := 4) rfl)) rfl e1 rfl (hb hby at_73) rfl (own_ge (by omega)) (cap := 12) (by rw [own_nn]; omega) (by decide) (by decide) (by decide) fun T57 hh57 ob57 gb57 X57 e57 E57 A57 => ?_
      have g_ob57 : n0 ≤ ob57 := Nat.le_trans Z0 (Nat.le_of_eq gb57.symm)
      have Z0 := Nat.le_trans Z0 E57.1
      have hk := Nat.le_trans hk E57.1
      have A_ob57 : own_A Z hh57 ob57 .byte nn.toNatClampNeg (fun _ => 0) := A57
      show own_Out p e below _ T57 (mkF m 75 #[.val (.int x0), .val (.int x1), .val (.int x2), .val (.int x3), .val (.int (2 : Int32)), .val (.int l1), .val (.int l2), .val (.int (1 : Int32)), .val (.int tt), .val (.int s1), .val (.int s2), .unset, .unset, .unset, .unset, .unset] [(.ref ob57)]) _ _ _
      refine own_to (fun t k => XS.astore X57.here hx rfl (hb hby at_75) rfl rfl (l' := #[.val (.int x0), .val (.int x1), .val (.int x2), .val (.int x3), .val (.int (2 : Int32)), .val (.int l1), .val (.int l2), .val (.int (1 : Int32)), .val (.int tt), .val (.int s1), .val (.int s2), .val (.ref ob57), .unset, .unset, .unset, .unset]) rfl k) ?_
      show own_Out p e below _ T57 (mkF m 77 #[.val (.int x0), .val (.int x1), .val (.int x2), .val (.int x3), .val (.int (2 : Int32)), .val (.int l1), .val (.int l2), .val (.int (1 : Int32)), .val (.int tt), .val (.int s1), .val (.int s2), .val (.ref ob57), .unset, .unset, .unset, .unset] []) _ _ _
      refine own_to (fun t k => XS.iload X57.here hx rfl (hb hby at_77) rfl k) ?_
      show own_Out p e below _ T57 (mkF m 79 #[.val (.int x0), .val (.int x1), .val (.int x2), .val (.int x3), .val (.int (2 : Int32)), .val (.int l1), .val (.int l2), .val (.int (1 : Int32)), .val (.int tt), .val (.int s1), .val (.int s2), .val (.ref ob57), .unset, .unset, .unset, .unset] [(.int (2 : Int32))]) _ _ _
      refine own_to (fun t k => XS.iconst X57.here hx rfl (hb hby at_79) k) ?_
      show own_Out p e below _ T57 (mkF m 80 #[.val (.int x0), .val (.int x1), .val (.int x2), .val (.int x3), .val (.int (2 : Int32)), .val (.int l1), .val (.int l2), .val (.int (1 : Int32)), .val (.int tt), .val (.int s1), .val (.int s2), .val (.ref ob57), .unset, .unset, .unset, .unset] [(.int (1 : Int32)), (.int (2 : Int32))]) _ _ _
      have hc80 : ¬ ((2 : Int32) < (1 : Int32)) := by decide
      refine own_to (fun t k => XS.icmpNo X57.here hx rfl (hb hby at_80) rfl (flt hc80).1 k) ?_
      show own_Out p e below _ T57 (mkF m 83 #[.val (.int x0), .val (.int x1), .val (.int x2), .val (.int x3), .val (.int (2 : Int32)), .val (.int l1), .val (.int l2), .val (.int (1 : Int32)), .val (.int tt), .val (.int s1), .val (.int s2), .val (.ref ob57), .unset, .unset, .unset, .unset] []) _ _ _
      refine own_to (fun t k => XS.aload X57.here hx rfl (hb hby at_83) rfl rfl k) ?_
      show own_Out p e below _ T57 (mkF m 85 #[.val (.int x0), .val (.int x1), .val (.int x2), .val (.int x3), .val (.int (2 : Int32)), .val (.int l1), .val (.int l2), .val (.int (1 : Int32)), .val (.int tt), .val (.int s1), .val (.int s2), .val (.ref ob57), .unset, .unset, .unset, .unset] [(.ref ob57)]) _ _ _
      refine own_to (fun t k => XS.iconst X57.here hx rfl (hb hby at_85) k) ?_
      show own_Out p e below _ T57 (mkF m 86 #[.val (.int x0), .val (.int x1), .val (.int x2), .val (.int x3), .val (.int (2 : Int32)), .val (.int l1), .val (.int l2), .val (.int (1 : Int32)), .val (.int tt), .val (.int s1), .val (.int s2), .val (.ref ob57), .unset, .unset, .unset, .unset] [(.int (0 : Int32)), (.ref ob57)]) _ _ _
      refine own_to (fun t k => XS.iload X57.here hx rfl (hb hby at_86) rfl k) ?_
      show own_Out p e below _ T57 (mkF m 88 #[.val (.int x0), .val (.int x1), .val (.int x2), .val (.int x3), .val (.int (2 : Int32)), .val (.int l1), .val (.int l2), .val (.int (1 : Int32)), .val (.int tt), .val (.int s1), .val (.int s2), .val (.ref ob57), .unset, .unset, .unset, .unset] [(.int tt), (.int (0 : Int32)), (.ref ob57)]) _ _ _
      refine own_to (fun t k => XS.i2b X57.here hx rfl (hb hby at_88) rfl k) ?_
      show own_Out p e below _ T57 (mkF m 89 #[.val (.int x0), .val (.int x1), .val (.int x2), .val (.int x3), .val (.int (2 : Int32)), .val (.int l1), .val (.int l2), .val (.int (1 : Int32)), .val (.int tt), .val (.int s1), .val (.int s2), .val (.ref ob57), .unset, .unset, .unset, .unset] [(.int (tt.toInt8.toInt32)), (.int (0 : Int32)), (.ref ob57)]) _ _ _
      refine own_stB X57 hx hZ e57 A_ob57 (own_ge (by omega)) (by simp only [own_nn] <;> omega) rfl rfl (hb hby at_89) fun T58 hh58 X58 e58 W58 A58 => ?_
      have A_ob57 := A58
      have Z0 := Nat.le_trans Z0 (Nat.le_of_eq W58.size.symm)
      have hk := Nat.le_trans hk (Nat.le_of_eq W58.size.symm)
      have N58 := own_fs (sl := Int32.toNatClampNeg (0 : Int32)) N1 g_ob57
      show own_Out p e below _ T58 (mkF m 90 #[.val (.int x0), .val (.int x1), .val (.int x2), .val (.int x3), .val (.int (2 : Int32)), .val (.int l1), .val (.int l2), .val (.int (1 : Int32)), .val (.int tt), .val (.int s1), .val (.int s2), .val (.ref ob57), .unset, .unset, .unset, .unset] []) _ _ _
      refine own_to (fun t k => XS.aload X58.here hx rfl (hb hby at_90) rfl rfl k) ?_
      show own_Out p e below _ T58 (mkF m 92 #[.val (.int x0), .val (.int x1), .val (.int x2), .val (.int x3), .val (.int (2 : Int32)), .val (.int l1), .val (.int l2), .val (.int (1 : Int32)), .val (.int tt), .val (.int s1), .val (.int s2), .val (.ref ob57), .unset, .unset, .unset, .unset] [(.ref ob57)]) _ _ _
      refine own_to (fun t k => XS.iconst X58.here hx rfl (hb hby at_92) k) ?_
      show own_Out p e below _ T58 (mkF m 93 #[.val (.int x0), .val (.int x1), .val (.int x2), .val (.int x3), .val (.int (2 : Int32)), .val (.int l1), .val (.int l2), .val (.int (1 : Int32)), .val (.int tt), .val (.int s1), .val (.int s2), .val (.ref ob57), .unset, .unset, .unset, .unset] [(.int (1 : Int32)), (.ref ob57)]) _ _ _
      refine own_to (fun t k => XS.iload X58.here hx rfl (hb hby at_93) rfl k) ?_
      show own_Out p e below _ T58 (mkF m 95 #[.val (.int x0), .val (.int x1), .val (.int x2), .val (.int x3), .val (.int (2 : Int32)), .val (.int l1), .val (.int l2), .val (.int (1 : Int32)), .val (.int tt), .val (.int s1), .val (.int s2), .val (.ref ob57), .unset, .unset, .unset, .unset] [(.int l1), (.int (1 : Int32)), (.ref ob57)]) _ _ _
      refine own_to (fun t k => XS.i2b X58.here hx rfl (hb hby at_95) rfl k) ?_
      show own_Out p e below _ T58 (mkF m 96 #[.val (.int x0), .val (.int x1), .val (.int x2), .val (.int x3), .val (.int (2 : Int32)), .val (.int l1), .val (.int l2), .val (.int (1 : Int32)), .val (.int tt), .val (.int s1), .val (.int s2), .val (.ref ob57), .unset, .unset, .unset, .unset] [(.int (l1.toInt8.toInt32)), (.int (1 : Int32)), (.ref ob57)]) _ _ _
      refine own_stB X58 hx hZ e58 A_ob57 (own_ge (by omega)) (by simp only [own_nn] <;> omega) rfl rfl (hb hby at_96) fun T59 hh59 X59 e59 W59 A59 => ?_
      have A_ob57 := A59
      have Z0 := Nat.le_trans Z0 (Nat.le_of_eq W59.size.symm)
      have hk := Nat.le_trans hk (Nat.le_of_eq W59.size.symm)
      have N59 := own_fs (sl := Int32.toNatClampNeg (1 : Int32)) N58 g_ob57
      show own_Out p e below _ T59 (mkF m 97 #[.val (.int x0), .val (.int x1), .val (.int x2), .val (.int x3), .val (.int (2 : Int32)), .val (.int l1), .val (.int l2), .val (.int (1 : Int32)), .val (.int tt), .val (.int s1), .val (.int s2), .val (.ref ob57), .unset, .unset, .unset, .unset] []) _ _ _
      refine own_to (fun t k => XS.iload X59.here hx rfl (hb hby at_97) rfl k) ?_
      show own_Out p e below _ T59 (mkF m 99 #[.val (.int x0), .val (.int x1), .val (.int x2), .val (.int x3), .val (.int (2 : Int32)), .val (.int l1), .val (.int l2), .val (.int (1 : Int32)), .val (.int tt), .val (.int s1), .val (.int s2), .val (.ref ob57), .unset, .unset, .unset, .unset] [(.int (2 : Int32))]) _ _ _
      refine own_to (fun t k => XS.iconst X59.here hx rfl (hb hby at_99) k) ?_
      show own_Out p e below _ T59 (mkF m 100 #[.val (.int x0), .val (.int x1), .val (.int x2), .val (.int x3), .val (.int (2 : Int32)), .val (.int l1), .val (.int l2), .val (.int (1 : Int32)), .val (.int tt), .val (.int s1), .val (.int s2), .val (.ref ob57), .unset, .unset, .unset, .unset] [(.int (2 : Int32)), (.int (2 : Int32))]) _ _ _
      have hc100 : ¬ ((2 : Int32) < (2 : Int32)) := by decide
      refine own_to (fun t k => XS.icmpNo X59.here hx rfl (hb hby at_100) rfl (flt hc100).1 k) ?_
      show own_Out p e below _ T59 (mkF m 103 #[.val (.int x0), .val (.int x1), .val (.int x2), .val (.int x3), .val (.int (2 : Int32)), .val (.int l1), .val (.int l2), .val (.int (1 : Int32)), .val (.int tt), .val (.int s1), .val (.int s2), .val (.ref ob57), .unset, .unset, .unset, .unset] []) _ _ _
      refine own_to (fun t k => XS.aload X59.here hx rfl (hb hby at_103) rfl rfl k) ?_
      show own_Out p e below _ T59 (mkF m 105 #[.val (.int x0), .val (.int x1), .val (.int x2), .val (.int x3), .val (.int (2 : Int32)), .val (.int l1), .val (.int l2), .val (.int (1 : Int32)), .val (.int tt), .val (.int s1), .val (.int s2), .val (.ref ob57), .unset, .unset, .unset, .unset] [(.ref ob57)]) _ _ _
      refine own_to (fun t k => XS.iload X59.here hx rfl (hb hby at_105) rfl k) ?_
      show own_Out p e below _ T59 (mkF m 107 #[.val (.int x0), .val (.int x1), .val (.int x2), .val (.int x3), .val (.int (2 : Int32)), .val (.int l1), .val (.int l2), .val (.int (1 : Int32)), .val (.int tt), .val (.int s1), .val (.int s2), .val (.ref ob57), .unset, .unset, .unset, .unset] [(.int s1), (.ref ob57)]) _ _ _
      refine own_to (fun t k => XS.iload X59.here hx rfl (hb hby at_107) rfl k) ?_
      show own_Out p e below _ T59 (mkF m 109 #[.val (.int x0), .val (.int x1), .val (.int x2), .val (.int x3), .val (.int (2 : Int32)), .val (.int l1), .val (.int l2), .val (.int (1 : Int32)), .val (.int tt), .val (.int s1), .val (.int s2), .val (.ref ob57), .unset, .unset, .unset, .unset] [(.int tt), (.int s1), (.ref ob57)]) _ _ _
      refine own_to (fun t k => XS.i2b X59.here hx rfl (hb hby at_109) rfl k) ?_
      show own_Out p e below _ T59 (mkF m 110 #[.val (.int x0), .val (.int x1), .val (.int x2), .val (.int x3), .val (.int (2 : Int32)), .val (.int l1), .val (.int l2), .val (.int (1 : Int32)), .val (.int tt), .val (.int s1), .val (.int s2), .val (.ref ob57), .unset, .unset, .unset, .unset] [(.int (tt.toInt8.toInt32)), (.int s1), (.ref ob57)]) _ _ _
      refine own_stB X59 hx hZ e59 A_ob57 (own_ge (by omega)) (by simp only [own_nn] <;> omega) rfl rfl (hb hby at_110) fun T60 hh60 X60 e60 W60 A60 => ?_
      have A_ob57 := A60
      have Z0 := Nat.le_trans Z0 (Nat.le_of_eq W60.size.symm)
      have hk := Nat.le_trans hk (Nat.le_of_eq W60.size.symm)
      have N60 := own_fs (sl := Int32.toNatClampNeg s1) N59 g_ob57
      show own_Out p e below _ T60 (mkF m 111 #[.val (.int x0), .val (.int x1), .val (.int x2), .val (.int x3), .val (.int (2 : Int32)), .val (.int l1), .val (.int l2), .val (.int (1 : Int32)), .val (.int tt), .val (.int s1), .val (.int s2), .val (.ref ob57), .unset, .unset, .unset, .unset] []) _ _ _
      refine own_to (fun t k => XS.aload X60.here hx rfl (hb hby at_111) rfl rfl k) ?_
      show own_Out p e below _ T60 (mkF m 113 #[.val (.int x0), .val (.int x1), .val (.int x2), .val (.int x3), .val (.int (2 : Int32)), .val (.int l1), .val (.int l2), .val (.int (1 : Int32)), .val (.int tt), .val (.int s1), .val (.int s2), .val (.ref ob57), .unset, .unset, .unset, .unset] [(.ref ob57)]) _ _ _
      refine own_to (fun t k => XS.iload X60.here hx rfl (hb hby at_113) rfl k) ?_
      show own_Out p e below _ T60 (mkF m 115 #[.val (.int x0), .val (.int x1), .val (.int x2), .val (.int x3), .val (.int (2 : Int32)), .val (.int l1), .val (.int l2), .val (.int (1 : Int32)), .val (.int tt), .val (.int s1), .val (.int s2), .val (.ref ob57), .unset, .unset, .unset, .unset] [(.int s1), (.ref ob57)]) _ _ _
      refine own_to (fun t k => XS.iconst X60.here hx rfl (hb hby at_115) k) ?_
      show own_Out p e below _ T60 (mkF m 116 #[.val (.int x0), .val (.int x1), .val (.int x2), .val (.int x3), .val (.int (2 : Int32)), .val (.int l1), .val (.int l2), .val (.int (1 : Int32)), .val (.int tt), .val (.int s1), .val (.int s2), .val (.ref ob57), .unset, .unset, .unset, .unset] [(.int (1 : Int32)), (.int s1), (.ref ob57)]) _ _ _
      refine own_to (fun t k => XS.iadd X60.here hx rfl (hb hby at_116) rfl k) ?_
      show own_Out p e below _ T60 (mkF m 117 #[.val (.int x0), .val (.int x1), .val (.int x2), .val (.int x3), .val (.int (2 : Int32)), .val (.int l1), .val (.int l2), .val (.int (1 : Int32)), .val (.int tt), .val (.int s1), .val (.int s2), .val (.ref ob57), .unset, .unset, .unset, .unset] [(.int (s1 + (1 : Int32))), (.ref ob57)]) _ _ _
      refine own_to (fun t k => XS.iload X60.here hx rfl (hb hby at_117) rfl k) ?_
      show own_Out p e below _ T60 (mkF m 119 #[.val (.int x0), .val (.int x1), .val (.int x2), .val (.int x3), .val (.int (2 : Int32)), .val (.int l1), .val (.int l2), .val (.int (1 : Int32)), .val (.int tt), .val (.int s1), .val (.int s2), .val (.ref ob57), .unset, .unset, .unset, .unset] [(.int l2), (.int (s1 + (1 : Int32))), (.ref ob57)]) _ _ _
      refine own_to (fun t k => XS.i2b X60.here hx rfl (hb hby at_119) rfl k) ?_
      show own_Out p e below _ T60 (mkF m 120 #[.val (.int x0), .val (.int x1), .val (.int x2), .val (.int x3), .val (.int (2 : Int32)), .val (.int l1), .val (.int l2), .val (.int (1 : Int32)), .val (.int tt), .val (.int s1), .val (.int s2), .val (.ref ob57), .unset, .unset, .unset, .unset] [(.int (l2.toInt8.toInt32)), (.int (s1 + (1 : Int32))), (.ref ob57)]) _ _ _
      refine own_stB X60 hx hZ e60 A_ob57 (own_ge (by omega)) (by simp only [own_nn] <;> omega) rfl rfl (hb hby at_120) fun T61 hh61 X61 e61 W61 A61 => ?_
      have A_ob57 := A61
      have Z0 := Nat.le_trans Z0 (Nat.le_of_eq W61.size.symm)
      have hk := Nat.le_trans hk (Nat.le_of_eq W61.size.symm)
      have N61 := own_fs (sl := Int32.toNatClampNeg (s1 + (1 : Int32))) N60 g_ob57
      show own_Out p e below _ T61 (mkF m 121 #[.val (.int x0), .val (.int x1), .val (.int x2), .val (.int x3), .val (.int (2 : Int32)), .val (.int l1), .val (.int l2), .val (.int (1 : Int32)), .val (.int tt), .val (.int s1), .val (.int s2), .val (.ref ob57), .unset, .unset, .unset, .unset] []) _ _ _
      refine own_to (fun t k => XS.iload X61.here hx rfl (hb hby at_121) rfl k) ?_
      show own_Out p e below _ T61 (mkF m 123 #[.val (.int x0), .val (.int x1), .val (.int x2), .val (.int x3), .val (.int (2 : Int32)), .val (.int l1), .val (.int l2), .val (.int (1 : Int32)), .val (.int tt), .val (.int s1), .val (.int s2), .val (.ref ob57), .unset, .unset, .unset, .unset] [(.int (1 : Int32))]) _ _ _
      refine own_to (fun t k => XS.iconst X61.here hx rfl (hb hby at_123) k) ?_
      show own_Out p e below _ T61 (mkF m 124 #[.val (.int x0), .val (.int x1), .val (.int x2), .val (.int x3), .val (.int (2 : Int32)), .val (.int l1), .val (.int l2), .val (.int (1 : Int32)), .val (.int tt), .val (.int s1), .val (.int s2), .val (.ref ob57), .unset, .unset, .unset, .unset] [(.int (1 : Int32)), (.int (1 : Int32))]) _ _ _
      have hc124 : (1 : Int32) = (1 : Int32) := by decide
      refine own_to (fun t k => XS.icmpNo X61.here hx rfl (hb hby at_124) rfl (teq hc124).2 k) ?_
      show own_Out p e below _ T61 (mkF m 127 #[.val (.int x0), .val (.int x1), .val (.int x2), .val (.int x3), .val (.int (2 : Int32)), .val (.int l1), .val (.int l2), .val (.int (1 : Int32)), .val (.int tt), .val (.int s1), .val (.int s2), .val (.ref ob57), .unset, .unset, .unset, .unset] []) _ _ _
      refine own_to (fun t k => XS.aload X61.here hx rfl (hb hby at_127) rfl rfl k) ?_
      show own_Out p e below _ T61 (mkF m 129 #[.val (.int x0), .val (.int x1), .val (.int x2), .val (.int x3), .val (.int (2 : Int32)), .val (.int l1), .val (.int l2), .val (.int (1 : Int32)), .val (.int tt), .val (.int s1), .val (.int s2), .val (.ref ob57), .unset, .unset, .unset, .unset] [(.ref ob57)]) _ _ _
      refine own_to (fun t k => XS.iload X61.here hx rfl (hb hby at_129) rfl k) ?_
      show own_Out p e below _ T61 (mkF m 131 #[.val (.int x0), .val (.int x1), .val (.int x2), .val (.int x3), .val (.int (2 : Int32)), .val (.int l1), .val (.int l2), .val (.int (1 : Int32)), .val (.int tt), .val (.int s1), .val (.int s2), .val (.ref ob57), .unset, .unset, .unset, .unset] [(.int s1), (.ref ob57)]) _ _ _
      refine own_to (fun t k => XS.iload X61.here hx rfl (hb hby at_131) rfl k) ?_
      show own_Out p e below _ T61 (mkF m 133 #[.val (.int x0), .val (.int x1), .val (.int x2), .val (.int x3), .val (.int (2 : Int32)), .val (.int l1), .val (.int l2), .val (.int (1 : Int32)), .val (.int tt), .val (.int s1), .val (.int s2), .val (.ref ob57), .unset, .unset, .unset, .unset] [(.int s2), (.int s1), (.ref ob57)]) _ _ _
      refine own_to (fun t k => XS.iadd X61.here hx rfl (hb hby at_133) rfl k) ?_
      show own_Out p e below _ T61 (mkF m 134 #[.val (.int x0), .val (.int x1), .val (.int x2), .val (.int x3), .val (.int (2 : Int32)), .val (.int l1), .val (.int l2), .val (.int (1 : Int32)), .val (.int tt), .val (.int s1), .val (.int s2), .val (.ref ob57), .unset, .unset, .unset, .unset] [(.int (s1 + s2)), (.ref ob57)]) _ _ _
      refine own_to (fun t k => XS.iload X61.here hx rfl (hb hby at_134) rfl k) ?_
      show own_Out p e below _ T61 (mkF m 136 #[.val (.int x0), .val (.int x1), .val (.int x2), .val (.int x3), .val (.int (2 : Int32)), .val (.int l1), .val (.int l2), .val (.int (1 : Int32)), .val (.int tt), .val (.int s1), .val (.int s2), .val (.ref ob57), .unset, .unset, .unset, .unset] [(.int tt), (.int (s1 + s2)), (.ref ob57)]) _ _ _
      refine own_to (fun t k => XS.i2b X61.here hx rfl (hb hby at_136) rfl k) ?_
      show own_Out p e below _ T61 (mkF m 137 #[.val (.int x0), .val (.int x1), .val (.int x2), .val (.int x3), .val (.int (2 : Int32)), .val (.int l1), .val (.int l2), .val (.int (1 : Int32)), .val (.int tt), .val (.int s1), .val (.int s2), .val (.ref ob57), .unset, .unset, .unset, .unset] [(.int (tt.toInt8.toInt32)), (.int (s1 + s2)), (.ref ob57)]) _ _ _
      refine own_stB X61 hx hZ e61 A_ob57 (own_ge (by omega)) (by simp only [own_nn] <;> omega) rfl rfl (hb hby at_137) fun T62 hh62 X62 e62 W62 A62 => ?_
      have A_ob57 := A62
      have Z0 := Nat.le_trans Z0 (Nat.le_of_eq W62.size.symm)
      have hk := Nat.le_trans hk (Nat.le_of_eq W62.size.symm)
      have N62 := own_fs (sl := Int32.toNatClampNeg (s1 + s2)) N61 g_ob57
      show own_Out p e below _ T62 (mkF m 138 #[.val (.int x0), .val (.int x1), .val (.int x2), .val (.int x3), .val (.int (2 : Int32)), .val (.int l1), .val (.int l2), .val (.int (1 : Int32)), .val (.int tt), .val (.int s1), .val (.int s2), .val (.ref ob57), .unset, .unset, .unset, .unset] []) _ _ _
      refine own_new X62 hx hZ hown (hw _ (List.mem_of_getElem? (i := 5) rfl)) (hw _ (List.mem_of_getElem? (i := 6) rfl)) (hw _ (List.mem_of_getElem? (i := 7) rfl)) e62 rfl (hb hby at_138) (by decide) (by decide) fun T63 hh63 ob63 gb63 X63 e63 E63 A63 D63 => ?_
      have ne_ob57_ob63 : ob57 ≠ ob63 := Nat.ne_of_lt (Nat.lt_of_lt_of_le A_ob57.lt (Nat.le_of_eq gb63.symm))
      have ne_ob63_ob57 := Ne.symm ne_ob57_ob63
      have g_ob63 : n0 ≤ ob63 := Nat.le_trans Z0 (Nat.le_of_eq gb63.symm)
      have A_ob57 := A_ob57.ext E63
      have Z0 := Nat.le_trans Z0 E63.1
      have hk := Nat.le_trans hk E63.1
      have E_ob63 := A63
      have F_ob63_bytes : Fld Z hh63 ob63 "com/example/pathwarden/pathwarden/util/DerReader" "bytes" "[B" .null := D63 (Or.inr (hw _ (List.mem_of_getElem? (i := 18) rfl))) (ty := (.array .byte)) (by decide)
      have F_ob63_position : Fld Z hh63 ob63 "com/example/pathwarden/pathwarden/util/DerReader" "position" "I" (.int (0 : Int32)) := D63 (Or.inl (hw _ (List.mem_of_getElem? (i := 20) rfl))) (ty := .int) (by decide)
      have F_ob63_end : Fld Z hh63 ob63 "com/example/pathwarden/pathwarden/util/DerReader" "end" "I" (.int (0 : Int32)) := D63 (Or.inr (hw _ (List.mem_of_getElem? (i := 22) rfl))) (ty := .int) (by decide)
      show own_Out p e below _ T63 (mkF m 141 #[.val (.int x0), .val (.int x1), .val (.int x2), .val (.int x3), .val (.int (2 : Int32)), .val (.int l1), .val (.int l2), .val (.int (1 : Int32)), .val (.int tt), .val (.int s1), .val (.int s2), .val (.ref ob57), .unset, .unset, .unset, .unset] [(.ref ob63)]) _ _ _
      refine own_to (fun t k => XS.dup X63.here hx rfl (hb hby at_141) rfl rfl k) ?_
      show own_Out p e below _ T63 (mkF m 142 #[.val (.int x0), .val (.int x1), .val (.int x2), .val (.int x3), .val (.int (2 : Int32)), .val (.int l1), .val (.int l2), .val (.int (1 : Int32)), .val (.int tt), .val (.int s1), .val (.int s2), .val (.ref ob57), .unset, .unset, .unset, .unset] [(.ref ob63), (.ref ob63)]) _ _ _
      refine own_to (fun t k => XS.aload X63.here hx rfl (hb hby at_142) rfl rfl k) ?_
      show own_Out p e below _ T63 (mkF m 144 #[.val (.int x0), .val (.int x1), .val (.int x2), .val (.int x3), .val (.int (2 : Int32)), .val (.int l1), .val (.int l2), .val (.int (1 : Int32)), .val (.int tt), .val (.int s1), .val (.int s2), .val (.ref ob57), .unset, .unset, .unset, .unset] [(.ref ob57), (.ref ob63), (.ref ob63)]) _ _ _
      refine own_callC X63 hx hZ hown (a := ob63) (argsL := [(.ref ob57)]) (rest := [(.ref ob63)]) rfl (hw _ (List.mem_of_getElem? (i := 8) rfl)) (hw _ (List.mem_of_getElem? (i := 9) rfl)) (hw _ (List.mem_of_getElem? (i := 7) rfl)) (hw _ (List.mem_of_getElem? (i := 10) rfl)) (by decide) (rm2 l Z a0 hw ob63 ob57 (nn.toNatClampNeg) (own_upd (own_upd (own_upd (own_upd (own_upd (fun _ => 0) ((0 : Int32).toNatClampNeg) (nar .byte (tt.toInt8.toInt32))) ((1 : Int32).toNatClampNeg) (nar .byte (l1.toInt8.toInt32))) (s1.toNatClampNeg) (nar .byte (tt.toInt8.toInt32))) ((s1 + (1 : Int32)).toNatClampNeg) (nar .byte (l2.toInt8.toInt32))) ((s1 + s2).toNatClampNeg) (nar .byte (tt.toInt8.toInt32))) hh63 n0 Z0 E_ob63 F_ob63_bytes F_ob63_position F_ob63_end g_ob63 A_ob57 ne_ob57_ob63) (by decide) (by decide) e63 rfl (by rw [hml]; rfl) (lenOf pd_5 rfl) rfl (W := 1) (by show 2 * 0 + _ ≤ _; exact Nat.le_of_eq rfl) (hb hby at_144) (by decide) (by decide) fun v64 T64 hh64 L64 X64 e64 hQ64 => ?_
      obtain ⟨rfl, NL64, KK64, P64_0, P64_1, P64_2⟩ := hQ64
      have A_ob57 := A_ob57.keep KK64 (by simp [ne_ob57_ob63])
      have E_ob63 := E_ob63.keep KK64
      have F_ob63_bytes := P64_0
      have F_ob63_position := P64_1
      have F_ob63_end := P64_2
      have Z0 := Nat.le_trans Z0 KK64.1
      have hk := Nat.le_trans hk KK64.1
      have N64 := Fr.app N62 NL64
      show own_Out p e below _ T64 (mkF m 147 #[.val (.int x0), .val (.int x1), .val (.int x2), .val (.int x3), .val (.int (2 : Int32)), .val (.int l1), .val (.int l2), .val (.int (1 : Int32)), .val (.int tt), .val (.int s1), .val (.int s2), .val (.ref ob57), .unset, .unset, .unset, .unset] [(.ref ob63)]) _ _ _
      rw [(back32 (n := nn) (own_ge (by omega))).1] at F_ob63_end
      refine own_to (fun t k => XS.astore X64.here hx rfl (hb hby at_147) rfl rfl (l' := #[.val (.int x0), .val (.int x1), .val (.int x2), .val (.int x3), .val (.int (2 : Int32)), .val (.int l1), .val (.int l2), .val (.int (1 : Int32)), .val (.int tt), .val (.int s1), .val (.int s2), .val (.ref ob57), .val (.ref ob63), .unset, .unset, .unset]) rfl k) ?_
      show own_Out p e below _ T64 (mkF m 149 #[.val (.int x0), .val (.int x1), .val (.int x2), .val (.int x3), .val (.int (2 : Int32)), .val (.int l1), .val (.int l2), .val (.int (1 : Int32)), .val (.int tt), .val (.int s1), .val (.int s2), .val (.ref ob57), .val (.ref ob63), .unset, .unset, .unset] []) _ _ _
      refine own_to (fun t k => XS.iload X64.here hx rfl (hb hby at_149) rfl k) ?_
      show own_Out p e below _ T64 (mkF m 151 #[.val (.int x0), .val (.int x1), .val (.int x2), .val (.int x3), .val (.int (2 : Int32)), .val (.int l1), .val (.int l2), .val (.int (1 : Int32)), .val (.int tt), .val (.int s1), .val (.int s2), .val (.ref ob57), .val (.ref ob63), .unset, .unset, .unset] [(.int (2 : Int32))]) _ _ _
      have hc151 : (0 : Int32) < (2 : Int32) := by decide
      refine own_to (fun t k => XS.ifYes X64.here hx rfl (pc0 := 151) (pc' := 160) rfl (hb hby at_151) rfl ((if0 _ _).trans (tlt hc151).2.2.1) (by decide) (by decide) k) ?_
      show own_Out p e below _ T64 (mkF m 160 #[.val (.int x0), .val (.int x1), .val (.int x2), .val (.int x3), .val (.int (2 : Int32)), .val (.int l1), .val (.int l2), .val (.int (1 : Int32)), .val (.int tt), .val (.int s1), .val (.int s2), .val (.ref ob57), .val (.ref ob63), .unset, .unset, .unset] []) _ _ _
      refine own_to (fun t k => XS.iconst X64.here hx rfl (hb hby at_160) k) ?_
      show own_Out p e below _ T64 (mkF m 161 #[.val (.int x0), .val (.int x1), .val (.int x2), .val (.int x3), .val (.int (2 : Int32)), .val (.int l1), .val (.int l2), .val (.int (1 : Int32)), .val (.int tt), .val (.int s1), .val (.int s2), .val (.ref ob57), .val (.ref ob63), .unset, .unset, .unset] [(.int (1 : Int32))]) _ _ _
      refine own_to (fun t k => XS.goto X64.here hx rfl (pc0 := 161) (pc' := 165) rfl (hb hby at_161) (by decide) (by decide) k) ?_
      show own_Out p e below _ T64 (mkF m 165 #[.val (.int x0), .val (.int x1), .val (.int x2), .val (.int x3), .val (.int (2 : Int32)), .val (.int l1), .val (.int l2), .val (.int (1 : Int32)), .val (.int tt), .val (.int s1), .val (.int s2), .val (.ref ob57), .val (.ref ob63), .unset, .unset, .unset] [(.int (1 : Int32))]) _ _ _
      refine own_to (fun t k => XS.istore X64.here hx rfl (hb hby at_165) rfl (l' := #[.val (.int x0), .val (.int x1), .val (.int x2), .val (.int x3), .val (.int (2 : Int32)), .val (.int l1), .val (.int l2), .val (.int (1 : Int32)), .val (.int tt), .val (.int s1), .val (.int s2), .val (.ref ob57), .val (.ref ob63), .val (.int (1 : Int32)), .unset, .unset]) rfl k) ?_
      show own_Out p e below _ T64 (mkF m 167 #[.val (.int x0), .val (.int x1), .val (.int x2), .val (.int x3), .val (.int (2 : Int32)), .val (.int l1), .val (.int l2), .val (.int (1 : Int32)), .val (.int tt), .val (.int s1), .val (.int s2), .val (.ref ob57), .val (.ref ob63), .val (.int (1 : Int32)), .unset, .unset] []) _ _ _
      refine own_to (fun t k => XS.aload X64.here hx rfl (hb hby at_167) rfl rfl k) ?_
      show own_Out p e below _ T64 (mkF m 169 #[.val (.int x0), .val (.int x1), .val (.int x2), .val (.int x3), .val (.int (2 : Int32)), .val (.int l1), .val (.int l2), .val (.int (1 : Int32)), .val (.int tt), .val (.int s1), .val (.int s2), .val (.ref ob57), .val (.ref ob63), .val (.int (1 : Int32)), .unset, .unset] [(.ref ob63)]) _ _ _
      refine own_callV X64 hx hZ hown (a := ob63) (argsL := []) (rest := []) (hw _ (List.mem_of_getElem? (i := 23) rfl)) (hw _ (List.mem_of_getElem? (i := 24) rfl)) (hw _ (List.mem_of_getElem? (i := 26) rfl)) (hw _ (List.mem_of_getElem? (i := 25) rfl)) (hw _ (List.mem_of_getElem? (i := 7) rfl)) (hw _ (List.mem_of_getElem? (i := 27) rfl)) (by decide) (rm5 l Z a0 hw ob63 (0 : Int32) nn hh64 n0 Z0 F_ob63_position F_ob63_end) (by decide) (by decide) e64 E_ob63 rfl (by rw [hml]; rfl) (lenOf pd_1 rfl) rfl (W := 0) (by show 2 * 0 + _ ≤ _; exact Nat.le_of_eq rfl) (hb hby at_169) (by decide) (by decide) fun v65 T65 hh65 L65 X65 e65 hQ65 => ?_
      obtain ⟨rfl, NL65, he65⟩ := hQ65
      replace e65 := e65.trans he65
      have N65 := Fr.app N64 NL65
      show own_Out p e below _ T65 (mkF m 172 #[.val (.int x0), .val (.int x1), .val (.int x2), .val (.int x3), .val (.int (2 : Int32)), .val (.int l1), .val (.int l2), .val (.int (1 : Int32)), .val (.int tt), .val (.int s1), .val (.int s2), .val (.ref ob57), .val (.ref ob63), .val (.int (1 : Int32)), .unset, .unset] [(.int (R5 ob63 (0 : Int32) nn))]) _ _ _
      refine own_to (fun t k => XS.iload X65.here hx rfl (hb hby at_172) rfl k) ?_
      show own_Out p e below _ T65 (mkF m 174 #[.val (.int x0), .val (.int x1), .val (.int x2), .val (.int x3), .val (.int (2 : Int32)), .val (.int l1), .val (.int l2), .val (.int (1 : Int32)), .val (.int tt), .val (.int s1), .val (.int s2), .val (.ref ob57), .val (.ref ob63), .val (.int (1 : Int32)), .unset, .unset] [(.int (1 : Int32)), (.int (R5 ob63 (0 : Int32) nn))]) _ _ _
      have hc174 : (R5 ob63 (0 : Int32) nn) = (1 : Int32) := own_hn1 _ _ _ (by rw [own_lt]; omega)
      refine own_to (fun t k => XS.icmpNo X65.here hx rfl (hb hby at_174) rfl (teq hc174).2 k) ?_
      show own_Out p e below _ T65 (mkF m 177 #[.val (.int x0), .val (.int x1), .val (.int x2), .val (.int x3), .val (.int (2 : Int32)), .val (.int l1), .val (.int l2), .val (.int (1 : Int32)), .val (.int tt), .val (.int s1), .val (.int s2), .val (.ref ob57), .val (.ref ob63), .val (.int (1 : Int32)), .unset, .unset] []) _ _ _
      refine own_to (fun t k => XS.iconst X65.here hx rfl (hb hby at_177) k) ?_
      show own_Out p e below _ T65 (mkF m 178 #[.val (.int x0), .val (.int x1), .val (.int x2), .val (.int x3), .val (.int (2 : Int32)), .val (.int l1), .val (.int l2), .val (.int (1 : Int32)), .val (.int tt), .val (.int s1), .val (.int s2), .val (.ref ob57), .val (.ref ob63), .val (.int (1 : Int32)), .unset, .unset] [(.int (1 : Int32))]) _ _ _
      refine own_to (fun t k => XS.goto X65.here hx rfl (pc0 := 178) (pc' := 182) rfl (hb hby at_178) (by decide) (by decide) k) ?_
      show own_Out p e below _ T65 (mkF m 182 #[.val (.int x0), .val (.int x1), .val (.int x2), .val (.int x3), .val (.int (2 : Int32)), .val (.int l1), .val (.int l2), .val (.int (1 : Int32)), .val (.int tt), .val (.int s1), .val (.int s2), .val (.ref ob57), .val (.ref ob63), .val (.int (1 : Int32)), .unset, .unset] [(.int (1 : Int32))]) _ _ _
      refine own_to (fun t k => XS.istore X65.here hx rfl (hb hby at_182) rfl (l' := #[.val (.int x0), .val (.int x1), .val (.int x2), .val (.int x3), .val (.int (2 : Int32)), .val (.int l1), .val (.int l2), .val (.int (1 : Int32)), .val (.int tt), .val (.int s1), .val (.int s2), .val (.ref ob57), .val (.ref ob63), .val (.int (1 : Int32)), .val (.int (1 : Int32)), .unset]) rfl k) ?_
      show own_Out p e below _ T65 (mkF m 184 #[.val (.int x0), .val (.int x1), .val (.int x2), .val (.int x3), .val (.int (2 : Int32)), .val (.int l1), .val (.int l2), .val (.int (1 : Int32)), .val (.int tt), .val (.int s1), .val (.int s2), .val (.ref ob57), .val (.ref ob63), .val (.int (1 : Int32)), .val (.int (1 : Int32)), .unset] []) _ _ _
      refine own_to (fun t k => XS.iload X65.here hx rfl (hb hby at_184) rfl k) ?_
      show own_Out p e below _ T65 (mkF m 186 #[.val (.int x0), .val (.int x1), .val (.int x2), .val (.int x3), .val (.int (2 : Int32)), .val (.int l1), .val (.int l2), .val (.int (1 : Int32)), .val (.int tt), .val (.int s1), .val (.int s2), .val (.ref ob57), .val (.ref ob63), .val (.int (1 : Int32)), .val (.int (1 : Int32)), .unset] [(.int (1 : Int32))]) _ _ _
      have hc186 : ¬ ((1 : Int32) = (0 : Int32)) := by decide
      refine own_to (fun t k => XS.ifNo X65.here hx rfl (hb hby at_186) rfl ((if0 _ _).trans (feq hc186).1) k) ?_
      show own_Out p e below _ T65 (mkF m 189 #[.val (.int x0), .val (.int x1), .val (.int x2), .val (.int x3), .val (.int (2 : Int32)), .val (.int l1), .val (.int l2), .val (.int (1 : Int32)), .val (.int tt), .val (.int s1), .val (.int s2), .val (.ref ob57), .val (.ref ob63), .val (.int (1 : Int32)), .val (.int (1 : Int32)), .unset] []) _ _ _
      refine own_to (fun t k => XS.aload X65.here hx rfl (hb hby at_189) rfl rfl k) ?_
      show own_Out p e below _ T65 (mkF m 191 #[.val (.int x0), .val (.int x1), .val (.int x2), .val (.int x3), .val (.int (2 : Int32)), .val (.int l1), .val (.int l2), .val (.int (1 : Int32)), .val (.int tt), .val (.int s1), .val (.int s2), .val (.ref ob57), .val (.ref ob63), .val (.int (1 : Int32)), .val (.int (1 : Int32)), .unset] [(.ref ob63)]) _ _ _
      refine own_callV X65 hx hZ hown (a := ob63) (argsL := []) (rest := []) (hw _ (List.mem_of_getElem? (i := 23) rfl)) (hw _ (List.mem_of_getElem? (i := 24) rfl)) (hw _ (List.mem_of_getElem? (i := 26) rfl)) (hw _ (List.mem_of_getElem? (i := 25) rfl)) (hw _ (List.mem_of_getElem? (i := 7) rfl)) (hw _ (List.mem_of_getElem? (i := 27) rfl)) (by decide) (rm5 l Z a0 hw ob63 (0 : Int32) nn hh64 n0 Z0 F_ob63_position F_ob63_end) (by decide) (by decide) e65 E_ob63 rfl (by rw [hml]; rfl) (lenOf pd_1 rfl) rfl (W := 0) (by show 2 * 0 + _ ≤ _; exact Nat.le_of_eq rfl) (hb hby at_191) (by decide) (by decide) fun v66 T66 hh66 L66 X66 e66 hQ66 => ?_
      obtain ⟨rfl, NL66, he66⟩ := hQ66
      replace e66 := e66.trans he66
      have N66 := Fr.app N65 NL66
      show own_Out p e below _ T66 (mkF m 194 #[.val (.int x0), .val (.int x1), .val (.int x2), .val (.int x3), .val (.int (2 : Int32)), .val (.int l1), .val (.int l2), .val (.int (1 : Int32)), .val (.int tt), .val (.int s1), .val (.int s2), .val (.ref ob57), .val (.ref ob63), .val (.int (1 : Int32)), .val (.int (1 : Int32)), .unset] [(.int (R5 ob63 (0 : Int32) nn))]) _ _ _
      refine own_to (fun t k => XS.iload X66.here hx rfl (hb hby at_194) rfl k) ?_
      show own_Out p e below _ T66 (mkF m 196 #[.val (.int x0), .val (.int x1), .val (.int x2), .val (.int x3), .val (.int (2 : Int32)), .val (.int l1), .val (.int l2), .val (.int (1 : Int32)), .val (.int tt), .val (.int s1), .val (.int s2), .val (.ref ob57), .val (.ref ob63), .val (.int (1 : Int32)), .val (.int (1 : Int32)), .unset] [(.int (1 : Int32)), (.int (R5 ob63 (0 : Int32) nn))]) _ _ _
      have hc196 : (R5 ob63 (0 : Int32) nn) = (1 : Int32) := own_hn1 _ _ _ (by rw [own_lt]; omega)
      refine own_to (fun t k => XS.icmpNo X66.here hx rfl (hb hby at_196) rfl (teq hc196).2 k) ?_
      show own_Out p e below _ T66 (mkF m 199 #[.val (.int x0), .val (.int x1), .val (.int x2), .val (.int x3), .val (.int (2 : Int32)), .val (.int l1), .val (.int l2), .val (.int (1 : Int32)), .val (.int tt), .val (.int s1), .val (.int s2), .val (.ref ob57), .val (.ref ob63), .val (.int (1 : Int32)), .val (.int (1 : Int32)), .unset] []) _ _ _
      refine own_to (fun t k => XS.iconst X66.here hx rfl (hb hby at_199) k) ?_
      show own_Out p e below _ T66 (mkF m 200 #[.val (.int x0), .val (.int x1), .val (.int x2), .val (.int x3), .val (.int (2 : Int32)), .val (.int l1), .val (.int l2), .val (.int (1 : Int32)), .val (.int tt), .val (.int s1), .val (.int s2), .val (.ref ob57), .val (.ref ob63), .val (.int (1 : Int32)), .val (.int (1 : Int32)), .unset] [(.int (1 : Int32))]) _ _ _
      refine own_to (fun t k => XS.goto X66.here hx rfl (pc0 := 200) (pc' := 204) rfl (hb hby at_200) (by decide) (by decide) k) ?_
      show own_Out p e below _ T66 (mkF m 204 #[.val (.int x0), .val (.int x1), .val (.int x2), .val (.int x3), .val (.int (2 : Int32)), .val (.int l1), .val (.int l2), .val (.int (1 : Int32)), .val (.int tt), .val (.int s1), .val (.int s2), .val (.ref ob57), .val (.ref ob63), .val (.int (1 : Int32)), .val (.int (1 : Int32)), .unset] [(.int (1 : Int32))]) _ _ _
      refine own_to (fun t k => XS.istore X66.here hx rfl (hb hby at_204) rfl (l' := #[.val (.int x0), .val (.int x1), .val (.int x2), .val (.int x3), .val (.int (2 : Int32)), .val (.int l1), .val (.int l2), .val (.int (1 : Int32)), .val (.int tt), .val (.int s1), .val (.int s2), .val (.ref ob57), .val (.ref ob63), .val (.int (1 : Int32)), .val (.int (1 : Int32)), .unset]) rfl k) ?_
      show own_Out p e below _ T66 (mkF m 206 #[.val (.int x0), .val (.int x1), .val (.int x2), .val (.int x3), .val (.int (2 : Int32)), .val (.int l1), .val (.int l2), .val (.int (1 : Int32)), .val (.int tt), .val (.int s1), .val (.int s2), .val (.ref ob57), .val (.ref ob63), .val (.int (1 : Int32)), .val (.int (1 : Int32)), .unset] []) _ _ _
      refine own_to (fun t k => XS.iload X66.here hx rfl (hb hby at_206) rfl k) ?_
      show own_Out p e below _ T66 (mkF m 208 #[.val (.int x0), .val (.int x1), .val (.int x2), .val (.int x3), .val (.int (2 : Int32)), .val (.int l1), .val (.int l2), .val (.int (1 : Int32)), .val (.int tt), .val (.int s1), .val (.int s2), .val (.ref ob57), .val (.ref ob63), .val (.int (1 : Int32)), .val (.int (1 : Int32)), .unset] [(.int (2 : Int32))]) _ _ _
      refine own_to (fun t k => XS.iconst X66.here hx rfl (hb hby at_208) k) ?_
      show own_Out p e below _ T66 (mkF m 209 #[.val (.int x0), .val (.int x1), .val (.int x2), .val (.int x3), .val (.int (2 : Int32)), .val (.int l1), .val (.int l2), .val (.int (1 : Int32)), .val (.int tt), .val (.int s1), .val (.int s2), .val (.ref ob57), .val (.ref ob63), .val (.int (1 : Int32)), .val (.int (1 : Int32)), .unset] [(.int (1 : Int32)), (.int (2 : Int32))]) _ _ _
      have hc209 : ¬ ((2 : Int32) < (1 : Int32)) := by decide
      refine own_to (fun t k => XS.icmpNo X66.here hx rfl (hb hby at_209) rfl (flt hc209).1 k) ?_
      show own_Out p e below _ T66 (mkF m 212 #[.val (.int x0), .val (.int x1), .val (.int x2), .val (.int x3), .val (.int (2 : Int32)), .val (.int l1), .val (.int l2), .val (.int (1 : Int32)), .val (.int tt), .val (.int s1), .val (.int s2), .val (.ref ob57), .val (.ref ob63), .val (.int (1 : Int32)), .val (.int (1 : Int32)), .unset] []) _ _ _
      refine own_to (fun t k => XS.aload X66.here hx rfl (hb hby at_212) rfl rfl k) ?_
      show own_Out p e below _ T66 (mkF m 214 #[.val (.int x0), .val (.int x1), .val (.int x2), .val (.int x3), .val (.int (2 : Int32)), .val (.int l1), .val (.int l2), .val (.int (1 : Int32)), .val (.int tt), .val (.int s1), .val (.int s2), .val (.ref ob57), .val (.ref ob63), .val (.int (1 : Int32)), .val (.int (1 : Int32)), .unset] [(.ref ob63)]) _ _ _
      refine own_callVW X66 hx hZ hown hS hk (a := ob63) (argsL := []) (rest := []) (hw _ (List.mem_of_getElem? (i := 28) rfl)) (hw _ (List.mem_of_getElem? (i := 29) rfl)) (hw _ (List.mem_of_getElem? (i := 31) rfl)) (hw _ (List.mem_of_getElem? (i := 30) rfl)) (hw _ (List.mem_of_getElem? (i := 7) rfl)) (hw _ (List.mem_of_getElem? (i := 32) rfl)) (by decide) (rm6 l Z a0 hw ob63 (0 : Int32) nn ob57 (nn.toNatClampNeg) (own_upd (own_upd (own_upd (own_upd (own_upd (fun _ => 0) ((0 : Int32).toNatClampNeg) (nar .byte (tt.toInt8.toInt32))) ((1 : Int32).toNatClampNeg) (nar .byte (l1.toInt8.toInt32))) (s1.toNatClampNeg) (nar .byte (tt.toInt8.toInt32))) ((s1 + (1 : Int32)).toNatClampNeg) (nar .byte (l2.toInt8.toInt32))) ((s1 + s2).toNatClampNeg) (nar .byte (tt.toInt8.toInt32))) (tt &&& (255 : Int32)) l1 hh64 n0 Z0 E_ob63 F_ob63_bytes F_ob63_position F_ob63_end A_ob57 g_ob63 ne_ob57_ob63 (by rw [own_lt]; omega) (⟨own_ge (by omega), (by simp only [own_nn] <;> omega)⟩) ((congrArg (fun z => z &&& (255 : Int32)) ((own_miss (by simp only [own_nn] <;> omega)).trans ((own_miss (by simp only [own_nn] <;> omega)).trans ((own_miss (by simp only [own_nn] <;> omega)).trans ((own_miss (by simp only [own_nn] <;> omega)).trans (own_hit (by simp only [own_nn] <;> omega))))))).trans (own_by tt)).symm (by rw [own_lt]; omega) (⟨own_ge (by omega), (by simp only [own_nn] <;> omega)⟩) (((congrArg (fun z => z &&& (255 : Int32)) ((own_miss (by simp only [own_nn] <;> omega)).trans ((own_miss (by simp only [own_nn] <;> omega)).trans ((own_miss (by simp only [own_nn] <;> omega)).trans (own_hit (by simp only [own_nn] <;> omega)))))).trans (own_by l1)).trans (own_l255 l1 b_l1)).symm htt (own_l128 l1 b_l1) (own_wide _ _ (by have q := own_sb nn (((0 : Int32) + (1 : Int32)) + (1 : Int32)) (by omega) (by omega); omega))) (by decide) (by decide) e66 E_ob63 rfl (by rw [hml]; rfl) (lenOf pd_6 rfl) rfl (W := 0) (by show 2 * 0 + _ ≤ _; exact Nat.le_of_eq rfl) (hb hby at_214) (by decide) (by decide) fun v67 T67 hh67 L67 X67 e67 hQ67 hZ hown hS => ?_
      obtain ⟨NL67, KK67, ob67el, rfl, szc_ob67el, P67_0, P67_1, P67_2, P67_3, P67_4, P67_5, P67_6, P67_7, P67_8⟩ := hQ67
      have ne_ob57_ob67el : ob57 ≠ ob67el := Nat.ne_of_lt (Nat.lt_of_lt_of_le A_ob57.lt szc_ob67el)
      have ne_ob67el_ob57 := Ne.symm ne_ob57_ob67el
      have ne_ob63_ob67el : ob63 ≠ ob67el := Nat.ne_of_lt (Nat.lt_of_lt_of_le E_ob63.lt szc_ob67el)
      have ne_ob67el_ob63 := Ne.symm ne_ob63_ob67el
      have g_ob67el : n0 ≤ ob67el := Nat.le_trans Z0 szc_ob67el
      have A_ob57 := A_ob57.keep KK67 (by simp [ne_ob57_ob63])
      have E_ob63 := E_ob63.keep KK67
      have F_ob63_bytes := P67_0
      have F_ob63_position := P67_1
      have F_ob63_end := P67_2
      have E_ob67el := P67_3
      have F_ob67el_bytes := P67_4
      have F_ob67el_tag := P67_5
      have F_ob67el_start := P67_6
      have F_ob67el_contents := P67_7
      have F_ob67el_end := P67_8
      have Z0 := Nat.le_trans Z0 KK67.1
      have hk := Nat.le_refl hh67.size
      have N67 := Fr.app N66 NL67
      show own_Out p e below _ T67 (mkF m 217 #[.val (.int x0), .val (.int x1), .val (.int x2), .val (.int x3), .val (.int (2 : Int32)), .val (.int l1), .val (.int l2), .val (.int (1 : Int32)), .val (.int tt), .val (.int s1), .val (.int s2), .val (.ref ob57), .val (.ref ob63), .val (.int (1 : Int32)), .val (.int (1 : Int32)), .unset] [(.ref ob67el)]) _ _ _
      have h_p1 : ((((0 : Int32) + (1 : Int32)) + (1 : Int32)) + ((l1.toInt64).toInt32)) = s1 := by rw [own_bk]; apply Int32.toInt_inj.mp; rw [own_ad _ _ (by omega) (by omega)]; omega
      rw [h_p1] at F_ob63_position
      rw [h_p1] at F_ob67el_end
      refine own_to (fun t k => XS.astore X67.here hx rfl (hb hby at_217) rfl rfl (l' := #[.val (.int x0), .val (.int x1), .val (.int x2), .val (.int x3), .val (.int (2 : Int32)), .val (.int l1), .val (.int l2), .val (.int (1 : Int32)), .val (.int tt), .val (.int s1), .val (.int s2), .val (.ref ob57), .val (.ref ob63), .val (.int (1 : Int32)), .val (.int (1 : Int32)), .val (.ref ob67el)]) rfl k) ?_
      show own_Out p e below _ T67 (mkF m 219 #[.val (.int x0), .val (.int x1), .val (.int x2), .val (.int x3), .val (.int (2 : Int32)), .val (.int l1), .val (.int l2), .val (.int (1 : Int32)), .val (.int tt), .val (.int s1), .val (.int s2), .val (.ref ob57), .val (.ref ob63), .val (.int (1 : Int32)), .val (.int (1 : Int32)), .val (.ref ob67el)] []) _ _ _
      refine own_to (fun t k => XS.iload X67.here hx rfl (hb hby at_219) rfl k) ?_
      show own_Out p e below _ T67 (mkF m 221 #[.val (.int x0), .val (.int x1), .val (.int x2), .val (.int x3), .val (.int (2 : Int32)), .val (.int l1), .val (.int l2), .val (.int (1 : Int32)), .val (.int tt), .val (.int s1), .val (.int s2), .val (.ref ob57), .val (.ref ob63), .val (.int (1 : Int32)), .val (.int (1 : Int32)), .val (.ref ob67el)] [(.int (1 : Int32))]) _ _ _
      have hc221 : ¬ ((1 : Int32) = (0 : Int32)) := by decide
      refine own_to (fun t k => XS.ifNo X67.here hx rfl (hb hby at_221) rfl ((if0 _ _).trans (feq hc221).1) k) ?_
      show own_Out p e below _ T67 (mkF m 224 #[.val (.int x0), .val (.int x1), .val (.int x2), .val (.int x3), .val (.int (2 : Int32)), .val (.int l1), .val (.int l2), .val (.int (1 : Int32)), .val (.int tt), .val (.int s1), .val (.int s2), .val (.ref ob57), .val (.ref ob63), .val (.int (1 : Int32)), .val (.int (1 : Int32)), .val (.ref ob67el)] []) _ _ _
      refine own_to (fun t k => XS.aload X67.here hx rfl (hb hby at_224) rfl rfl k) ?_
      show own_Out p e below _ T67 (mkF m 226 #[.val (.int x0), .val (.int x1), .val (.int x2), .val (.int x3), .val (.int (2 : Int32)), .val (.int l1), .val (.int l2), .val (.int (1 : Int32)), .val (.int tt), .val (.int s1), .val (.int s2), .val (.ref ob57), .val (.ref ob63), .val (.int (1 : Int32)), .val (.int (1 : Int32)), .val (.ref ob67el)] [(.ref ob63)]) _ _ _
      refine own_callV X67 hx hZ hown (a := ob63) (argsL := []) (rest := []) (hw _ (List.mem_of_getElem? (i := 23) rfl)) (hw _ (List.mem_of_getElem? (i := 24) rfl)) (hw _ (List.mem_of_getElem? (i := 26) rfl)) (hw _ (List.mem_of_getElem? (i := 25) rfl)) (hw _ (List.mem_of_getElem? (i := 7) rfl)) (hw _ (List.mem_of_getElem? (i := 27) rfl)) (by decide) (rm5 l Z a0 hw ob63 s1 nn hh67 n0 Z0 F_ob63_position F_ob63_end) (by decide) (by decide) e67 E_ob63 rfl (by rw [hml]; rfl) (lenOf pd_1 rfl) rfl (W := 0) (by show 2 * 0 + _ ≤ _; exact Nat.le_of_eq rfl) (hb hby at_226) (by decide) (by decide) fun v68 T68 hh68 L68 X68 e68 hQ68 => ?_
      obtain ⟨rfl, NL68, he68⟩ := hQ68
      replace e68 := e68.trans he68
      have N68 := Fr.app N67 NL68
      show own_Out p e below _ T68 (mkF m 229 #[.val (.int x0), .val (.int x1), .val (.int x2), .val (.int x3), .val (.int (2 : Int32)), .val (.int l1), .val (.int l2), .val (.int (1 : Int32)), .val (.int tt), .val (.int s1), .val (.int s2), .val (.ref ob57), .val (.ref ob63), .val (.int (1 : Int32)), .val (.int (1 : Int32)), .val (.ref ob67el)] [(.int (R5 ob63 s1 nn))]) _ _ _
      refine own_to (fun t k => XS.iload X68.here hx rfl (hb hby at_229) rfl k) ?_
      show own_Out p e below _ T68 (mkF m 231 #[.val (.int x0), .val (.int x1), .val (.int x2), .val (.int x3), .val (.int (2 : Int32)), .val (.int l1), .val (.int l2), .val (.int (1 : Int32)), .val (.int tt), .val (.int s1), .val (.int s2), .val (.ref ob57), .val (.ref ob63), .val (.int (1 : Int32)), .val (.int (1 : Int32)), .val (.ref ob67el)] [(.int (2 : Int32)), (.int (R5 ob63 s1 nn))]) _ _ _
      refine own_to (fun t k => XS.iconst X68.here hx rfl (hb hby at_231) k) ?_
      show own_Out p e below _ T68 (mkF m 232 #[.val (.int x0), .val (.int x1), .val (.int x2), .val (.int x3), .val (.int (2 : Int32)), .val (.int l1), .val (.int l2), .val (.int (1 : Int32)), .val (.int tt), .val (.int s1), .val (.int s2), .val (.ref ob57), .val (.ref ob63), .val (.int (1 : Int32)), .val (.int (1 : Int32)), .val (.ref ob67el)] [(.int (2 : Int32)), (.int (2 : Int32)), (.int (R5 ob63 s1 nn))]) _ _ _
      have hc232 : ¬ ((2 : Int32) < (2 : Int32)) := by decide
      refine own_to (fun t k => XS.icmpYes X68.here hx rfl (pc0 := 232) (pc' := 241) rfl (hb hby at_232) rfl (flt hc232).2.1 (by decide) (by decide) k) ?_
      show own_Out p e below _ T68 (mkF m 241 #[.val (.int x0), .val (.int x1), .val (.int x2), .val (.int x3), .val (.int (2 : Int32)), .val (.int l1), .val (.int l2), .val (.int (1 : Int32)), .val (.int tt), .val (.int s1), .val (.int s2), .val (.ref ob57), .val (.ref ob63), .val (.int (1 : Int32)), .val (.int (1 : Int32)), .val (.ref ob67el)] [(.int (R5 ob63 s1 nn))]) _ _ _
      refine own_to (fun t k => XS.iconst X68.here hx rfl (hb hby at_241) k) ?_
      show own_Out p e below _ T68 (mkF m 242 #[.val (.int x0), .val (.int x1), .val (.int x2), .val (.int x3), .val (.int (2 : Int32)), .val (.int l1), .val (.int l2), .val (.int (1 : Int32)), .val (.int tt), .val (.int s1), .val (.int s2), .val (.ref ob57), .val (.ref ob63), .val (.int (1 : Int32)), .val (.int (1 : Int32)), .val (.ref ob67el)] [(.int (1 : Int32)), (.int (R5 ob63 s1 nn))]) _ _ _
      refine own_to (fun t k => XS.goto X68.here hx rfl (pc0 := 242) (pc' := 246) rfl (hb hby at_242) (by decide) (by decide) k) ?_
      show own_Out p e below _ T68 (mkF m 246 #[.val (.int x0), .val (.int x1), .val (.int x2), .val (.int x3), .val (.int (2 : Int32)), .val (.int l1), .val (.int l2), .val (.int (1 : Int32)), .val (.int tt), .val (.int s1), .val (.int s2), .val (.ref ob57), .val (.ref ob63), .val (.int (1 : Int32)), .val (.int (1 : Int32)), .val (.ref ob67el)] [(.int (1 : Int32)), (.int (R5 ob63 s1 nn))]) _ _ _
      have hc246 : (R5 ob63 s1 nn) = (1 : Int32) := own_hn1 _ _ _ (by rw [own_lt]; omega)
      refine own_to (fun t k => XS.icmpNo X68.here hx rfl (hb hby at_246) rfl (teq hc246).2 k) ?_
      show own_Out p e below _ T68 (mkF m 249 #[.val (.int x0), .val (.int x1), .val (.int x2), .val (.int x3), .val (.int (2 : Int32)), .val (.int l1), .val (.int l2), .val (.int (1 : Int32)), .val (.int tt), .val (.int s1), .val (.int s2), .val (.ref ob57), .val (.ref ob63), .val (.int (1 : Int32)), .val (.int (1 : Int32)), .val (.ref ob67el)] []) _ _ _
      refine own_to (fun t k => XS.iconst X68.here hx rfl (hb hby at_249) k) ?_
      show own_Out p e below _ T68 (mkF m 250 #[.val (.int x0), .val (.int x1), .val (.int x2), .val (.int x3), .val (.int (2 : Int32)), .val (.int l1), .val (.int l2), .val (.int (1 : Int32)), .val (.int tt), .val (.int s1), .val (.int s2), .val (.ref ob57), .val (.ref ob63), .val (.int (1 : Int32)), .val (.int (1 : Int32)), .val (.ref ob67el)] [(.int (1 : Int32))]) _ _ _
      refine own_to (fun t k => XS.goto X68.here hx rfl (pc0 := 250) (pc' := 254) rfl (hb hby at_250) (by decide) (by decide) k) ?_
      show own_Out p e below _ T68 (mkF m 254 #[.val (.int x0), .val (.int x1), .val (.int x2), .val (.int x3), .val (.int (2 : Int32)), .val (.int l1), .val (.int l2), .val (.int (1 : Int32)), .val (.int tt), .val (.int s1), .val (.int s2), .val (.ref ob57), .val (.ref ob63), .val (.int (1 : Int32)), .val (.int (1 : Int32)), .val (.ref ob67el)] [(.int (1 : Int32))]) _ _ _
      refine own_to (fun t k => XS.istore X68.here hx rfl (hb hby at_254) rfl (l' := #[.val (.int x0), .val (.int x1), .val (.int x2), .val (.int x3), .val (.int (2 : Int32)), .val (.int l1), .val (.int l2), .val (.int (1 : Int32)), .val (.int tt), .val (.int s1), .val (.int s2), .val (.ref ob57), .val (.ref ob63), .val (.int (1 : Int32)), .val (.int (1 : Int32)), .val (.ref ob67el)]) rfl k) ?_
      show own_Out p e below _ T68 (mkF m 256 #[.val (.int x0), .val (.int x1), .val (.int x2), .val (.int x3), .val (.int (2 : Int32)), .val (.int l1), .val (.int l2), .val (.int (1 : Int32)), .val (.int tt), .val (.int s1), .val (.int s2), .val (.ref ob57), .val (.ref ob63), .val (.int (1 : Int32)), .val (.int (1 : Int32)), .val (.ref ob67el)] []) _ _ _
      refine own_to (fun t k => XS.iload X68.here hx rfl (hb hby at_256) rfl k) ?_
      show own_Out p e below _ T68 (mkF m 258 #[.val (.int x0), .val (.int x1), .val (.int x2), .val (.int x3), .val (.int (2 : Int32)), .val (.int l1), .val (.int l2), .val (.int (1 : Int32)), .val (.int tt), .val (.int s1), .val (.int s2), .val (.ref ob57), .val (.ref ob63), .val (.int (1 : Int32)), .val (.int (1 : Int32)), .val (.ref ob67el)] [(.int (1 : Int32))]) _ _ _
      have hc258 : ¬ ((1 : Int32) = (0 : Int32)) := by decide
      refine own_to (fun t k => XS.ifNo X68.here hx rfl (hb hby at_258) rfl ((if0 _ _).trans (feq hc258).1) k) ?_
      show own_Out p e below _ T68 (mkF m 261 #[.val (.int x0), .val (.int x1), .val (.int x2), .val (.int x3), .val (.int (2 : Int32)), .val (.int l1), .val (.int l2), .val (.int (1 : Int32)), .val (.int tt), .val (.int s1), .val (.int s2), .val (.ref ob57), .val (.ref ob63), .val (.int (1 : Int32)), .val (.int (1 : Int32)), .val (.ref ob67el)] []) _ _ _
      refine own_to (fun t k => XS.aload X68.here hx rfl (hb hby at_261) rfl rfl k) ?_
      show own_Out p e below _ T68 (mkF m 263 #[.val (.int x0), .val (.int x1), .val (.int x2), .val (.int x3), .val (.int (2 : Int32)), .val (.int l1), .val (.int l2), .val (.int (1 : Int32)), .val (.int tt), .val (.int s1), .val (.int s2), .val (.ref ob57), .val (.ref ob63), .val (.int (1 : Int32)), .val (.int (1 : Int32)), .val (.ref ob67el)] [(.ref ob67el)]) _ _ _
      refine own_callV X68 hx hZ hown (a := ob67el) (argsL := []) (rest := []) (hw _ (List.mem_of_getElem? (i := 64) rfl)) (hw _ (List.mem_of_getElem? (i := 65) rfl)) (hw _ (List.mem_of_getElem? (i := 67) rfl)) (hw _ (List.mem_of_getElem? (i := 66) rfl)) (hw _ (List.mem_of_getElem? (i := 49) rfl)) (hw _ (List.mem_of_getElem? (i := 68) rfl)) (by decide) (rm9 l Z a0 hw ob67el ob57 (((0 : Int32) + (1 : Int32)) + (1 : Int32)) s1 hh67 n0 Z0 F_ob67el_bytes F_ob67el_contents F_ob67el_end) (by decide) (by decide) e68 E_ob67el rfl (by rw [hml]; rfl) (lenOf pd_7 rfl) rfl (W := 0) (by show 2 * 0 + _ ≤ _; exact Nat.le_of_eq rfl) (hb hby at_263) (by decide) (by decide) fun v69 T69 hh69 L69 X69 e69 hQ69 => ?_
      obtain ⟨NL69, KK69, ob69rd, rfl, szc_ob69rd, P69_0, P69_1, P69_2, P69_3⟩ := hQ69
      have ne_ob57_ob69rd : ob57 ≠ ob69rd := Nat.ne_of_lt (Nat.lt_of_lt_of_le A_ob57.lt szc_ob69rd)
      have ne_ob69rd_ob57 := Ne.symm ne_ob57_ob69rd
      have ne_ob63_ob69rd : ob63 ≠ ob69rd := Nat.ne_of_lt (Nat.lt_of_lt_of_le E_ob63.lt szc_ob69rd)
      have ne_ob69rd_ob63 := Ne.symm ne_ob63_ob69rd
      have ne_ob67el_ob69rd : ob67el ≠ ob69rd := Nat.ne_of_lt (Nat.lt_of_lt_of_le E_ob67el.lt szc_ob69rd)
      have ne_ob69rd_ob67el := Ne.symm ne_ob67el_ob69rd
      have g_ob69rd : n0 ≤ ob69rd := Nat.le_trans Z0 szc_ob69rd
      have A_ob57 := A_ob57.keep KK69 (by simp [])
      have E_ob63 := E_ob63.keep KK69
      have F_ob63_bytes := F_ob63_bytes.keep KK69 (by simp [])
      have F_ob63_position := F_ob63_position.keep KK69 (by simp [])
      have F_ob63_end := F_ob63_end.keep KK69 (by simp [])
      have E_ob67el := E_ob67el.keep KK69
      have F_ob67el_bytes := F_ob67el_bytes.keep KK69 (by simp [])
      have F_ob67el_tag := F_ob67el_tag.keep KK69 (by simp [])
      have F_ob67el_start := F_ob67el_start.keep KK69 (by simp [])
      have F_ob67el_contents := F_ob67el_contents.keep KK69 (by simp [])
      have F_ob67el_end := F_ob67el_end.keep KK69 (by simp [])
      have E_ob69rd := P69_0
      have F_ob69rd_bytes := P69_1
      have F_ob69rd_position := P69_2
      have F_ob69rd_end := P69_3
      have Z0 := Nat.le_trans Z0 KK69.1
      have hk := Nat.le_trans hk KK69.1
      have N69 := Fr.app N68 NL69
      show own_Out p e below _ T69 (mkF m 266 #[.val (.int x0), .val (.int x1), .val (.int x2), .val (.int x3), .val (.int (2 : Int32)), .val (.int l1), .val (.int l2), .val (.int (1 : Int32)), .val (.int tt), .val (.int s1), .val (.int s2), .val (.ref ob57), .val (.ref ob63), .val (.int (1 : Int32)), .val (.int (1 : Int32)), .val (.ref ob67el)] [(.ref ob69rd)]) _ _ _
      refine own_callV X69 hx hZ hown (a := ob69rd) (argsL := []) (rest := []) (hw _ (List.mem_of_getElem? (i := 23) rfl)) (hw _ (List.mem_of_getElem? (i := 24) rfl)) (hw _ (List.mem_of_getElem? (i := 26) rfl)) (hw _ (List.mem_of_getElem? (i := 25) rfl)) (hw _ (List.mem_of_getElem? (i := 7) rfl)) (hw _ (List.mem_of_getElem? (i := 27) rfl)) (by decide) (rm5 l Z a0 hw ob69rd (((0 : Int32) + (1 : Int32)) + (1 : Int32)) s1 hh69 n0 Z0 F_ob69rd_position F_ob69rd_end) (by decide) (by decide) e69 E_ob69rd rfl (by rw [hml]; rfl) (lenOf pd_1 rfl) rfl (W := 0) (by show 2 * 0 + _ ≤ _; exact Nat.le_of_eq rfl) (hb hby at_266) (by decide) (by decide) fun v70 T70 hh70 L70 X70 e70 hQ70 => ?_
      obtain ⟨rfl, NL70, he70⟩ := hQ70
      replace e70 := e70.trans he70
      have N70 := Fr.app N69 NL70
      show own_Out p e below _ T70 (mkF m 269 #[.val (.int x0), .val (.int x1), .val (.int x2), .val (.int x3), .val (.int (2 : Int32)), .val (.int l1), .val (.int l2), .val (.int (1 : Int32)), .val (.int tt), .val (.int s1), .val (.int s2), .val (.ref ob57), .val (.ref ob63), .val (.int (1 : Int32)), .val (.int (1 : Int32)), .val (.ref ob67el)] [(.int (R5 ob69rd (((0 : Int32) + (1 : Int32)) + (1 : Int32)) s1))]) _ _ _
      refine own_to (fun t k => XS.iload X70.here hx rfl (hb hby at_269) rfl k) ?_
      show own_Out p e below _ T70 (mkF m 271 #[.val (.int x0), .val (.int x1), .val (.int x2), .val (.int x3), .val (.int (2 : Int32)), .val (.int l1), .val (.int l2), .val (.int (1 : Int32)), .val (.int tt), .val (.int s1), .val (.int s2), .val (.ref ob57), .val (.ref ob63), .val (.int (1 : Int32)), .val (.int (1 : Int32)), .val (.ref ob67el)] [(.int l1), (.int (R5 ob69rd (((0 : Int32) + (1 : Int32)) + (1 : Int32)) s1))]) _ _ _
      by_cases hc271 : (0 : Int32) < l1
      · refine own_to (fun t k => XS.ifNo X70.here hx rfl (hb hby at_271) rfl ((if0 _ _).trans (tlt hc271).2.2.2) k) ?_
        show own_Out p e below _ T70 (mkF m 274 #[.val (.int x0), .val (.int x1), .val (.int x2), .val (.int x3), .val (.int (2 : Int32)), .val (.int l1), .val (.int l2), .val (.int (1 : Int32)), .val (.int tt), .val (.int s1), .val (.int s2), .val (.ref ob57), .val (.ref ob63), .val (.int (1 : Int32)), .val (.int (1 : Int32)), .val (.ref ob67el)] [(.int (R5 ob69rd (((0 : Int32) + (1 : Int32)) + (1 : Int32)) s1))]) _ _ _
        refine own_to (fun t k => XS.iconst X70.here hx rfl (hb hby at_274) k) ?_
        show own_Out p e below _ T70 (mkF m 275 #[.val (.int x0), .val (.int x1), .val (.int x2), .val (.int x3), .val (.int (2 : Int32)), .val (.int l1), .val (.int l2), .val (.int (1 : Int32)), .val (.int tt), .val (.int s1), .val (.int s2), .val (.ref ob57), .val (.ref ob63), .val (.int (1 : Int32)), .val (.int (1 : Int32)), .val (.ref ob67el)] [(.int (1 : Int32)), (.int (R5 ob69rd (((0 : Int32) + (1 : Int32)) + (1 : Int32)) s1))]) _ _ _
        refine own_to (fun t k => XS.goto X70.here hx rfl (pc0 := 275) (pc' := 279) rfl (hb hby at_275) (by decide) (by decide) k) ?_
        show own_Out p e below _ T70 (mkF m 279 #[.val (.int x0), .val (.int x1), .val (.int x2), .val (.int x3), .val (.int (2 : Int32)), .val (.int l1), .val (.int l2), .val (.int (1 : Int32)), .val (.int tt), .val (.int s1), .val (.int s2), .val (.ref ob57), .val (.ref ob63), .val (.int (1 : Int32)), .val (.int (1 : Int32)), .val (.ref ob67el)] [(.int (1 : Int32)), (.int (R5 ob69rd (((0 : Int32) + (1 : Int32)) + (1 : Int32)) s1))]) _ _ _
        have hc279 : (R5 ob69rd (((0 : Int32) + (1 : Int32)) + (1 : Int32)) s1) = (1 : Int32) := own_hn1 _ _ _ (by rw [own_lt] at hc271 ⊢; omega)
        refine own_to (fun t k => XS.icmpNo X70.here hx rfl (hb hby at_279) rfl (teq hc279).2 k) ?_
        show own_Out p e below _ T70 (mkF m 282 #[.val (.int x0), .val (.int x1), .val (.int x2), .val (.int x3), .val (.int (2 : Int32)), .val (.int l1), .val (.int l2), .val (.int (1 : Int32)), .val (.int tt), .val (.int s1), .val (.int s2), .val (.ref ob57), .val (.ref ob63), .val (.int (1 : Int32)), .val (.int (1 : Int32)), .val (.ref ob67el)] []) _ _ _
        refine own_to (fun t k => XS.iconst X70.here hx rfl (hb hby at_282) k) ?_
        show own_Out p e below _ T70 (mkF m 283 #[.val (.int x0), .val (.int x1), .val (.int x2), .val (.int x3), .val (.int (2 : Int32)), .val (.int l1), .val (.int l2), .val (.int (1 : Int32)), .val (.int tt), .val (.int s1), .val (.int s2), .val (.ref ob57), .val (.ref ob63), .val (.int (1 : Int32)), .val (.int (1 : Int32)), .val (.ref ob67el)] [(.int (1 : Int32))]) _ _ _
        refine own_to (fun t k => XS.goto X70.here hx rfl (pc0 := 283) (pc' := 287) rfl (hb hby at_283) (by decide) (by decide) k) ?_
        show own_Out p e below _ T70 (mkF m 287 #[.val (.int x0), .val (.int x1), .val (.int x2), .val (.int x3), .val (.int (2 : Int32)), .val (.int l1), .val (.int l2), .val (.int (1 : Int32)), .val (.int tt), .val (.int s1), .val (.int s2), .val (.ref ob57), .val (.ref ob63), .val (.int (1 : Int32)), .val (.int (1 : Int32)), .val (.ref ob67el)] [(.int (1 : Int32))]) _ _ _
        refine own_to (fun t k => XS.istore X70.here hx rfl (hb hby at_287) rfl (l' := #[.val (.int x0), .val (.int x1), .val (.int x2), .val (.int x3), .val (.int (2 : Int32)), .val (.int l1), .val (.int l2), .val (.int (1 : Int32)), .val (.int tt), .val (.int s1), .val (.int s2), .val (.ref ob57), .val (.ref ob63), .val (.int (1 : Int32)), .val (.int (1 : Int32)), .val (.ref ob67el)]) rfl k) ?_
        show own_Out p e below _ T70 (mkF m 289 #[.val (.int x0), .val (.int x1), .val (.int x2), .val (.int x3), .val (.int (2 : Int32)), .val (.int l1), .val (.int l2), .val (.int (1 : Int32)), .val (.int tt), .val (.int s1), .val (.int s2), .val (.ref ob57), .val (.ref ob63), .val (.int (1 : Int32)), .val (.int (1 : Int32)), .val (.ref ob67el)] []) _ _ _
        refine own_to (fun t k => XS.iload X70.here hx rfl (hb hby at_289) rfl k) ?_
        show own_Out p e below _ T70 (mkF m 291 #[.val (.int x0), .val (.int x1), .val (.int x2), .val (.int x3), .val (.int (2 : Int32)), .val (.int l1), .val (.int l2), .val (.int (1 : Int32)), .val (.int tt), .val (.int s1), .val (.int s2), .val (.ref ob57), .val (.ref ob63), .val (.int (1 : Int32)), .val (.int (1 : Int32)), .val (.ref ob67el)] [(.int (2 : Int32))]) _ _ _
        refine own_to (fun t k => XS.iconst X70.here hx rfl (hb hby at_291) k) ?_
        show own_Out p e below _ T70 (mkF m 292 #[.val (.int x0), .val (.int x1), .val (.int x2), .val (.int x3), .val (.int (2 : Int32)), .val (.int l1), .val (.int l2), .val (.int (1 : Int32)), .val (.int tt), .val (.int s1), .val (.int s2), .val (.ref ob57), .val (.ref ob63), .val (.int (1 : Int32)), .val (.int (1 : Int32)), .val (.ref ob67el)] [(.int (2 : Int32)), (.int (2 : Int32))]) _ _ _
        have hc292 : ¬ ((2 : Int32) < (2 : Int32)) := by decide
        refine own_to (fun t k => XS.icmpNo X70.here hx rfl (hb hby at_292) rfl (flt hc292).1 k) ?_
        show own_Out p e below _ T70 (mkF m 295 #[.val (.int x0), .val (.int x1), .val (.int x2), .val (.int x3), .val (.int (2 : Int32)), .val (.int l1), .val (.int l2), .val (.int (1 : Int32)), .val (.int tt), .val (.int s1), .val (.int s2), .val (.ref ob57), .val (.ref ob63), .val (.int (1 : Int32)), .val (.int (1 : Int32)), .val (.ref ob67el)] []) _ _ _
        refine own_to (fun t k => XS.aload X70.here hx rfl (hb hby at_295) rfl rfl k) ?_
        show own_Out p e below _ T70 (mkF m 297 #[.val (.int x0), .val (.int x1), .val (.int x2), .val (.int x3), .val (.int (2 : Int32)), .val (.int l1), .val (.int l2), .val (.int (1 : Int32)), .val (.int tt), .val (.int s1), .val (.int s2), .val (.ref ob57), .val (.ref ob63), .val (.int (1 : Int32)), .val (.int (1 : Int32)), .val (.ref ob67el)] [(.ref ob63)]) _ _ _
        have h_s1q := own_ad (s1 + 1) 1 (by omega) (by omega)
        rw [k1] at h_s1q
        refine own_callVW X70 hx hZ hown hS hk (a := ob63) (argsL := []) (rest := []) (hw _ (List.mem_of_getElem? (i := 28) rfl)) (hw _ (List.mem_of_getElem? (i := 29) rfl)) (hw _ (List.mem_of_getElem? (i := 31) rfl)) (hw _ (List.mem_of_getElem? (i := 30) rfl)) (hw _ (List.mem_of_getElem? (i := 7) rfl)) (hw _ (List.mem_of_getElem? (i := 32) rfl)) (by decide) (rm6 l Z a0 hw ob63 s1 nn ob57 (nn.toNatClampNeg) (own_upd (own_upd (own_upd (own_upd (own_upd (fun _ => 0) ((0 : Int32).toNatClampNeg) (nar .byte (tt.toInt8.toInt32))) ((1 : Int32).toNatClampNeg) (nar .byte (l1.toInt8.toInt32))) (s1.toNatClampNeg) (nar .byte (tt.toInt8.toInt32))) ((s1 + (1 : Int32)).toNatClampNeg) (nar .byte (l2.toInt8.toInt32))) ((s1 + s2).toNatClampNeg) (nar .byte (tt.toInt8.toInt32))) (tt &&& (255 : Int32)) l2 hh69 n0 Z0 E_ob63 F_ob63_bytes F_ob63_position F_ob63_end A_ob57 g_ob63 ne_ob57_ob63 (by rw [own_lt]; omega) (⟨own_ge (by omega), (by simp only [own_nn] <;> omega)⟩) ((congrArg (fun z => z &&& (255 : Int32)) ((own_miss (by simp only [own_nn] <;> omega)).trans ((own_miss (by simp only [own_nn] <;> omega)).trans (own_hit (by simp only [own_nn] <;> omega))))).trans (own_by tt)).symm (by rw [own_lt]; omega) (⟨own_ge (by omega), (by simp only [own_nn] <;> omega)⟩) (((congrArg (fun z => z &&& (255 : Int32)) ((own_miss (by simp only [own_nn] <;> omega)).trans (own_hit (by simp only [own_nn] <;> omega)))).trans (own_by l2)).trans (own_l255 l2 b_l2)).symm htt (own_l128 l2 b_l2) (own_wide _ _ (by have q := own_sb nn ((s1 + (1 : Int32)) + (1 : Int32)) (by omega) (by omega); omega))) (by decide) (by decide) e70 E_ob63 rfl (by rw [hml]; rfl) (lenOf pd_6 rfl) rfl (W := 0) (by show 2 * 0 + _ ≤ _; exact Nat.le_of_eq rfl) (hb hby at_297) (by decide) (by decide) fun v71 T71 hh71 L71 X71 e71 hQ71 hZ hown hS => ?_
        obtain ⟨NL71, KK71, ob71el, rfl, szc_ob71el, P71_0, P71_1, P71_2, P71_3, P71_4, P71_5, P71_6, P71_7, P71_8⟩ := hQ71
        have ne_ob57_ob71el : ob57 ≠ ob71el := Nat.ne_of_lt (Nat.lt_of_lt_of_le A_ob57.lt szc_ob71el)
        have ne_ob71el_ob57 := Ne.symm ne_ob57_ob71el
        have ne_ob63_ob71el : ob63 ≠ ob71el := Nat.ne_of_lt (Nat.lt_of_lt_of_le E_ob63.lt szc_ob71el)
        have ne_ob71el_ob63 := Ne.symm ne_ob63_ob71el
        have ne_ob67el_ob71el : ob67el ≠ ob71el := Nat.ne_of_lt (Nat.lt_of_lt_of_le E_ob67el.lt szc_ob71el)
        have ne_ob71el_ob67el := Ne.symm ne_ob67el_ob71el
        have ne_ob69rd_ob71el : ob69rd ≠ ob71el := Nat.ne_of_lt (Nat.lt_of_lt_of_le E_ob69rd.lt szc_ob71el)
        have ne_ob71el_ob69rd := Ne.symm ne_ob69rd_ob71el
        have g_ob71el : n0 ≤ ob71el := Nat.le_trans Z0 szc_ob71el
        have A_ob57 := A_ob57.keep KK71 (by simp [ne_ob57_ob63])
        have E_ob63 := E_ob63.keep KK71
        have E_ob67el := E_ob67el.keep KK71
        have F_ob67el_bytes := F_ob67el_bytes.keep KK71 (by simp [ne_ob67el_ob63])
        have F_ob67el_tag := F_ob67el_tag.keep KK71 (by simp [ne_ob67el_ob63])
        have F_ob67el_start := F_ob67el_start.keep KK71 (by simp [ne_ob67el_ob63])
        have F_ob67el_contents := F_ob67el_contents.keep KK71 (by simp [ne_ob67el_ob63])
        have F_ob67el_end := F_ob67el_end.keep KK71 (by simp [ne_ob67el_ob63])
        have E_ob69rd := E_ob69rd.keep KK71
        have F_ob69rd_bytes := F_ob69rd_bytes.keep KK71 (by simp [ne_ob69rd_ob63])
        have F_ob69rd_position := F_ob69rd_position.keep KK71 (by simp [ne_ob69rd_ob63])
        have F_ob69rd_end := F_ob69rd_end.keep KK71 (by simp [ne_ob69rd_ob63])
        have F_ob63_bytes := P71_0
        have F_ob63_position := P71_1
        have F_ob63_end := P71_2
        have E_ob71el := P71_3
        have F_ob71el_bytes := P71_4
        have F_ob71el_tag := P71_5
        have F_ob71el_start := P71_6
        have F_ob71el_contents := P71_7
        have F_ob71el_end := P71_8
        have Z0 := Nat.le_trans Z0 KK71.1
        have hk := Nat.le_refl hh71.size
        have N71 := Fr.app N70 NL71
        show own_Out p e below _ T71 (mkF m 300 #[.val (.int x0), .val (.int x1), .val (.int x2), .val (.int x3), .val (.int (2 : Int32)), .val (.int l1), .val (.int l2), .val (.int (1 : Int32)), .val (.int tt), .val (.int s1), .val (.int s2), .val (.ref ob57), .val (.ref ob63), .val (.int (1 : Int32)), .val (.int (1 : Int32)), .val (.ref ob67el)] [(.ref ob71el)]) _ _ _
        have h_p2 : (((s1 + (1 : Int32)) + (1 : Int32)) + ((l2.toInt64).toInt32)) = (s1 + s2) := by rw [own_bk]; apply Int32.toInt_inj.mp; rw [own_ad _ _ (by omega) (by omega)]; omega
        rw [h_p2] at F_ob63_position
        rw [h_p2] at F_ob71el_end
        refine own_to (fun t k => XS.astore X71.here hx rfl (hb hby at_300) rfl rfl (l' := #[.val (.int x0), .val (.int x1), .val (.int x2), .val (.int x3), .val (.int (2 : Int32)), .val (.int l1), .val (.int l2), .val (.int (1 : Int32)), .val (.int tt), .val (.int s1), .val (.int s2), .val (.ref ob57), .val (.ref ob63), .val (.int (1 : Int32)), .val (.int (1 : Int32)), .val (.ref ob71el)]) rfl k) ?_
        show own_Out p e below _ T71 (mkF m 302 #[.val (.int x0), .val (.int x1), .val (.int x2), .val (.int x3), .val (.int (2 : Int32)), .val (.int l1), .val (.int l2), .val (.int (1 : Int32)), .val (.int tt), .val (.int s1), .val (.int s2), .val (.ref ob57), .val (.ref ob63), .val (.int (1 : Int32)), .val (.int (1 : Int32)), .val (.ref ob71el)] []) _ _ _
        refine own_to (fun t k => XS.iload X71.here hx rfl (hb hby at_302) rfl k) ?_
        show own_Out p e below _ T71 (mkF m 304 #[.val (.int x0), .val (.int x1), .val (.int x2), .val (.int x3), .val (.int (2 : Int32)), .val (.int l1), .val (.int l2), .val (.int (1 : Int32)), .val (.int tt), .val (.int s1), .val (.int s2), .val (.ref ob57), .val (.ref ob63), .val (.int (1 : Int32)), .val (.int (1 : Int32)), .val (.ref ob71el)] [(.int (1 : Int32))]) _ _ _
        have hc304 : ¬ ((1 : Int32) = (0 : Int32)) := by decide
        refine own_to (fun t k => XS.ifNo X71.here hx rfl (hb hby at_304) rfl ((if0 _ _).trans (feq hc304).1) k) ?_
        show own_Out p e below _ T71 (mkF m 307 #[.val (.int x0), .val (.int x1), .val (.int x2), .val (.int x3), .val (.int (2 : Int32)), .val (.int l1), .val (.int l2), .val (.int (1 : Int32)), .val (.int tt), .val (.int s1), .val (.int s2), .val (.ref ob57), .val (.ref ob63), .val (.int (1 : Int32)), .val (.int (1 : Int32)), .val (.ref ob71el)] []) _ _ _
        refine own_to (fun t k => XS.aload X71.here hx rfl (hb hby at_307) rfl rfl k) ?_
        show own_Out p e below _ T71 (mkF m 309 #[.val (.int x0), .val (.int x1), .val (.int x2), .val (.int x3), .val (.int (2 : Int32)), .val (.int l1), .val (.int l2), .val (.int (1 : Int32)), .val (.int tt), .val (.int s1), .val (.int s2), .val (.ref ob57), .val (.ref ob63), .val (.int (1 : Int32)), .val (.int (1 : Int32)), .val (.ref ob71el)] [(.ref ob63)]) _ _ _
        refine own_callV X71 hx hZ hown (a := ob63) (argsL := []) (rest := []) (hw _ (List.mem_of_getElem? (i := 23) rfl)) (hw _ (List.mem_of_getElem? (i := 24) rfl)) (hw _ (List.mem_of_getElem? (i := 26) rfl)) (hw _ (List.mem_of_getElem? (i := 25) rfl)) (hw _ (List.mem_of_getElem? (i := 7) rfl)) (hw _ (List.mem_of_getElem? (i := 27) rfl)) (by decide) (rm5 l Z a0 hw ob63 (s1 + s2) nn hh71 n0 Z0 F_ob63_position F_ob63_end) (by decide) (by decide) e71 E_ob63 rfl (by rw [hml]; rfl) (lenOf pd_1 rfl) rfl (W := 0) (by show 2 * 0 + _ ≤ _; exact Nat.le_of_eq rfl) (hb hby at_309) (by decide) (by decide) fun v72 T72 hh72 L72 X72 e72 hQ72 => ?_
        obtain ⟨rfl, NL72, he72⟩ := hQ72
        replace e72 := e72.trans he72
        have N72 := Fr.app N71 NL72
        show own_Out p e below _ T72 (mkF m 312 #[.val (.int x0), .val (.int x1), .val (.int x2), .val (.int x3), .val (.int (2 : Int32)), .val (.int l1), .val (.int l2), .val (.int (1 : Int32)), .val (.int tt), .val (.int s1), .val (.int s2), .val (.ref ob57), .val (.ref ob63), .val (.int (1 : Int32)), .val (.int (1 : Int32)), .val (.ref ob71el)] [(.int (R5 ob63 (s1 + s2) nn))]) _ _ _
        refine own_to (fun t k => XS.iload X72.here hx rfl (hb hby at_312) rfl k) ?_
        show own_Out p e below _ T72 (mkF m 314 #[.val (.int x0), .val (.int x1), .val (.int x2), .val (.int x3), .val (.int (2 : Int32)), .val (.int l1), .val (.int l2), .val (.int (1 : Int32)), .val (.int tt), .val (.int s1), .val (.int s2), .val (.ref ob57), .val (.ref ob63), .val (.int (1 : Int32)), .val (.int (1 : Int32)), .val (.ref ob71el)] [(.int (1 : Int32)), (.int (R5 ob63 (s1 + s2) nn))]) _ _ _
        refine own_to (fun t k => XS.iconst X72.here hx rfl (hb hby at_314) k) ?_
        show own_Out p e below _ T72 (mkF m 315 #[.val (.int x0), .val (.int x1), .val (.int x2), .val (.int x3), .val (.int (2 : Int32)), .val (.int l1), .val (.int l2), .val (.int (1 : Int32)), .val (.int tt), .val (.int s1), .val (.int s2), .val (.ref ob57), .val (.ref ob63), .val (.int (1 : Int32)), .val (.int (1 : Int32)), .val (.ref ob71el)] [(.int (1 : Int32)), (.int (1 : Int32)), (.int (R5 ob63 (s1 + s2) nn))]) _ _ _
        have hc315 : (1 : Int32) = (1 : Int32) := by decide
        refine own_to (fun t k => XS.icmpNo X72.here hx rfl (hb hby at_315) rfl (teq hc315).2 k) ?_
        show own_Out p e below _ T72 (mkF m 318 #[.val (.int x0), .val (.int x1), .val (.int x2), .val (.int x3), .val (.int (2 : Int32)), .val (.int l1), .val (.int l2), .val (.int (1 : Int32)), .val (.int tt), .val (.int s1), .val (.int s2), .val (.ref ob57), .val (.ref ob63), .val (.int (1 : Int32)), .val (.int (1 : Int32)), .val (.ref ob71el)] [(.int (R5 ob63 (s1 + s2) nn))]) _ _ _
        refine own_to (fun t k => XS.iconst X72.here hx rfl (hb hby at_318) k) ?_
        show own_Out p e below _ T72 (mkF m 319 #[.val (.int x0), .val (.int x1), .val (.int x2), .val (.int x3), .val (.int (2 : Int32)), .val (.int l1), .val (.int l2), .val (.int (1 : Int32)), .val (.int tt), .val (.int s1), .val (.int s2), .val (.ref ob57), .val (.ref ob63), .val (.int (1 : Int32)), .val (.int (1 : Int32)), .val (.ref ob71el)] [(.int (1 : Int32)), (.int (R5 ob63 (s1 + s2) nn))]) _ _ _
        refine own_to (fun t k => XS.goto X72.here hx rfl (pc0 := 319) (pc' := 323) rfl (hb hby at_319) (by decide) (by decide) k) ?_
        show own_Out p e below _ T72 (mkF m 323 #[.val (.int x0), .val (.int x1), .val (.int x2), .val (.int x3), .val (.int (2 : Int32)), .val (.int l1), .val (.int l2), .val (.int (1 : Int32)), .val (.int tt), .val (.int s1), .val (.int s2), .val (.ref ob57), .val (.ref ob63), .val (.int (1 : Int32)), .val (.int (1 : Int32)), .val (.ref ob71el)] [(.int (1 : Int32)), (.int (R5 ob63 (s1 + s2) nn))]) _ _ _
        have hc323 : (R5 ob63 (s1 + s2) nn) = (1 : Int32) := own_hn1 _ _ _ (by rw [own_lt]; omega)
        refine own_to (fun t k => XS.icmpNo X72.here hx rfl (hb hby at_323) rfl (teq hc323).2 k) ?_
        show own_Out p e below _ T72 (mkF m 326 #[.val (.int x0), .val (.int x1), .val (.int x2), .val (.int x3), .val (.int (2 : Int32)), .val (.int l1), .val (.int l2), .val (.int (1 : Int32)), .val (.int tt), .val (.int s1), .val (.int s2), .val (.ref ob57), .val (.ref ob63), .val (.int (1 : Int32)), .val (.int (1 : Int32)), .val (.ref ob71el)] []) _ _ _
        refine own_to (fun t k => XS.iconst X72.here hx rfl (hb hby at_326) k) ?_
        show own_Out p e below _ T72 (mkF m 327 #[.val (.int x0), .val (.int x1), .val (.int x2), .val (.int x3), .val (.int (2 : Int32)), .val (.int l1), .val (.int l2), .val (.int (1 : Int32)), .val (.int tt), .val (.int s1), .val (.int s2), .val (.ref ob57), .val (.ref ob63), .val (.int (1 : Int32)), .val (.int (1 : Int32)), .val (.ref ob71el)] [(.int (1 : Int32))]) _ _ _
        refine own_to (fun t k => XS.goto X72.here hx rfl (pc0 := 327) (pc' := 331) rfl (hb hby at_327) (by decide) (by decide) k) ?_
        show own_Out p e below _ T72 (mkF m 331 #[.val (.int x0), .val (.int x1), .val (.int x2), .val (.int x3), .val (.int (2 : Int32)), .val (.int l1), .val (.int l2), .val (.int (1 : Int32)), .val (.int tt), .val (.int s1), .val (.int s2), .val (.ref ob57), .val (.ref ob63), .val (.int (1 : Int32)), .val (.int (1 : Int32)), .val (.ref ob71el)] [(.int (1 : Int32))]) _ _ _
        refine own_to (fun t k => XS.istore X72.here hx rfl (hb hby at_331) rfl (l' := #[.val (.int x0), .val (.int x1), .val (.int x2), .val (.int x3), .val (.int (2 : Int32)), .val (.int l1), .val (.int l2), .val (.int (1 : Int32)), .val (.int tt), .val (.int s1), .val (.int s2), .val (.ref ob57), .val (.ref ob63), .val (.int (1 : Int32)), .val (.int (1 : Int32)), .val (.ref ob71el)]) rfl k) ?_
        show own_Out p e below _ T72 (mkF m 333 #[.val (.int x0), .val (.int x1), .val (.int x2), .val (.int x3), .val (.int (2 : Int32)), .val (.int l1), .val (.int l2), .val (.int (1 : Int32)), .val (.int tt), .val (.int s1), .val (.int s2), .val (.ref ob57), .val (.ref ob63), .val (.int (1 : Int32)), .val (.int (1 : Int32)), .val (.ref ob71el)] []) _ _ _
        refine own_to (fun t k => XS.iload X72.here hx rfl (hb hby at_333) rfl k) ?_
        show own_Out p e below _ T72 (mkF m 335 #[.val (.int x0), .val (.int x1), .val (.int x2), .val (.int x3), .val (.int (2 : Int32)), .val (.int l1), .val (.int l2), .val (.int (1 : Int32)), .val (.int tt), .val (.int s1), .val (.int s2), .val (.ref ob57), .val (.ref ob63), .val (.int (1 : Int32)), .val (.int (1 : Int32)), .val (.ref ob71el)] [(.int (1 : Int32))]) _ _ _
        have hc335 : ¬ ((1 : Int32) = (0 : Int32)) := by decide
        refine own_to (fun t k => XS.ifNo X72.here hx rfl (hb hby at_335) rfl ((if0 _ _).trans (feq hc335).1) k) ?_
        show own_Out p e below _ T72 (mkF m 338 #[.val (.int x0), .val (.int x1), .val (.int x2), .val (.int x3), .val (.int (2 : Int32)), .val (.int l1), .val (.int l2), .val (.int (1 : Int32)), .val (.int tt), .val (.int s1), .val (.int s2), .val (.ref ob57), .val (.ref ob63), .val (.int (1 : Int32)), .val (.int (1 : Int32)), .val (.ref ob71el)] []) _ _ _
        refine own_to (fun t k => XS.aload X72.here hx rfl (hb hby at_338) rfl rfl k) ?_
        show own_Out p e below _ T72 (mkF m 340 #[.val (.int x0), .val (.int x1), .val (.int x2), .val (.int x3), .val (.int (2 : Int32)), .val (.int l1), .val (.int l2), .val (.int (1 : Int32)), .val (.int tt), .val (.int s1), .val (.int s2), .val (.ref ob57), .val (.ref ob63), .val (.int (1 : Int32)), .val (.int (1 : Int32)), .val (.ref ob71el)] [(.ref ob71el)]) _ _ _
        refine own_callV X72 hx hZ hown (a := ob71el) (argsL := []) (rest := []) (hw _ (List.mem_of_getElem? (i := 64) rfl)) (hw _ (List.mem_of_getElem? (i := 65) rfl)) (hw _ (List.mem_of_getElem? (i := 67) rfl)) (hw _ (List.mem_of_getElem? (i := 66) rfl)) (hw _ (List.mem_of_getElem? (i := 49) rfl)) (hw _ (List.mem_of_getElem? (i := 68) rfl)) (by decide) (rm9 l Z a0 hw ob71el ob57 ((s1 + (1 : Int32)) + (1 : Int32)) (s1 + s2) hh71 n0 Z0 F_ob71el_bytes F_ob71el_contents F_ob71el_end) (by decide) (by decide) e72 E_ob71el rfl (by rw [hml]; rfl) (lenOf pd_7 rfl) rfl (W := 0) (by show 2 * 0 + _ ≤ _; exact Nat.le_of_eq rfl) (hb hby at_340) (by decide) (by decide) fun v73 T73 hh73 L73 X73 e73 hQ73 => ?_
        obtain ⟨NL73, KK73, ob73rd, rfl, szc_ob73rd, P73_0, P73_1, P73_2, P73_3⟩ := hQ73
        have ne_ob57_ob73rd : ob57 ≠ ob73rd := Nat.ne_of_lt (Nat.lt_of_lt_of_le A_ob57.lt szc_ob73rd)
        have ne_ob73rd_ob57 := Ne.symm ne_ob57_ob73rd
        have ne_ob63_ob73rd : ob63 ≠ ob73rd := Nat.ne_of_lt (Nat.lt_of_lt_of_le E_ob63.lt szc_ob73rd)
        have ne_ob73rd_ob63 := Ne.symm ne_ob63_ob73rd
        have ne_ob67el_ob73rd : ob67el ≠ ob73rd := Nat.ne_of_lt (Nat.lt_of_lt_of_le E_ob67el.lt szc_ob73rd)
        have ne_ob73rd_ob67el := Ne.symm ne_ob67el_ob73rd
        have ne_ob69rd_ob73rd : ob69rd ≠ ob73rd := Nat.ne_of_lt (Nat.lt_of_lt_of_le E_ob69rd.lt szc_ob73rd)
        have ne_ob73rd_ob69rd := Ne.symm ne_ob69rd_ob73rd
        have ne_ob71el_ob73rd : ob71el ≠ ob73rd := Nat.ne_of_lt (Nat.lt_of_lt_of_le E_ob71el.lt szc_ob73rd)
        have ne_ob73rd_ob71el := Ne.symm ne_ob71el_ob73rd
        have g_ob73rd : n0 ≤ ob73rd := Nat.le_trans Z0 szc_ob73rd
        have A_ob57 := A_ob57.keep KK73 (by simp [])
        have E_ob63 := E_ob63.keep KK73
        have E_ob67el := E_ob67el.keep KK73
        have F_ob67el_bytes := F_ob67el_bytes.keep KK73 (by simp [])
        have F_ob67el_tag := F_ob67el_tag.keep KK73 (by simp [])
        have F_ob67el_start := F_ob67el_start.keep KK73 (by simp [])
        have F_ob67el_contents := F_ob67el_contents.keep KK73 (by simp [])
        have F_ob67el_end := F_ob67el_end.keep KK73 (by simp [])
        have E_ob69rd := E_ob69rd.keep KK73
        have F_ob69rd_bytes := F_ob69rd_bytes.keep KK73 (by simp [])
        have F_ob69rd_position := F_ob69rd_position.keep KK73 (by simp [])
        have F_ob69rd_end := F_ob69rd_end.keep KK73 (by simp [])
        have F_ob63_bytes := F_ob63_bytes.keep KK73 (by simp [])
        have F_ob63_position := F_ob63_position.keep KK73 (by simp [])
        have F_ob63_end := F_ob63_end.keep KK73 (by simp [])
        have E_ob71el := E_ob71el.keep KK73
        have F_ob71el_bytes := F_ob71el_bytes.keep KK73 (by simp [])
        have F_ob71el_tag := F_ob71el_tag.keep KK73 (by simp [])
        have F_ob71el_start := F_ob71el_start.keep KK73 (by simp [])
        have F_ob71el_contents := F_ob71el_contents.keep KK73 (by simp [])
        have F_ob71el_end := F_ob71el_end.keep KK73 (by simp [])
        have E_ob73rd := P73_0
        have F_ob73rd_bytes := P73_1
        have F_ob73rd_position := P73_2
        have F_ob73rd_end := P73_3
        have Z0 := Nat.le_trans Z0 KK73.1
        have hk := Nat.le_trans hk KK73.1
        have N73 := Fr.app N72 NL73
        show own_Out p e below _ T73 (mkF m 343 #[.val (.int x0), .val (.int x1), .val (.int x2), .val (.int x3), .val (.int (2 : Int32)), .val (.int l1), .val (.int l2), .val (.int (1 : Int32)), .val (.int tt), .val (.int s1), .val (.int s2), .val (.ref ob57), .val (.ref ob63), .val (.int (1 : Int32)), .val (.int (1 : Int32)), .val (.ref ob71el)] [(.ref ob73rd)]) _ _ _
        refine own_callV X73 hx hZ hown (a := ob73rd) (argsL := []) (rest := []) (hw _ (List.mem_of_getElem? (i := 23) rfl)) (hw _ (List.mem_of_getElem? (i := 24) rfl)) (hw _ (List.mem_of_getElem? (i := 26) rfl)) (hw _ (List.mem_of_getElem? (i := 25) rfl)) (hw _ (List.mem_of_getElem? (i := 7) rfl)) (hw _ (List.mem_of_getElem? (i := 27) rfl)) (by decide) (rm5 l Z a0 hw ob73rd ((s1 + (1 : Int32)) + (1 : Int32)) (s1 + s2) hh73 n0 Z0 F_ob73rd_position F_ob73rd_end) (by decide) (by decide) e73 E_ob73rd rfl (by rw [hml]; rfl) (lenOf pd_1 rfl) rfl (W := 0) (by show 2 * 0 + _ ≤ _; exact Nat.le_of_eq rfl) (hb hby at_343) (by decide) (by decide) fun v74 T74 hh74 L74 X74 e74 hQ74 => ?_
        obtain ⟨rfl, NL74, he74⟩ := hQ74
        replace e74 := e74.trans he74
        have N74 := Fr.app N73 NL74
        show own_Out p e below _ T74 (mkF m 346 #[.val (.int x0), .val (.int x1), .val (.int x2), .val (.int x3), .val (.int (2 : Int32)), .val (.int l1), .val (.int l2), .val (.int (1 : Int32)), .val (.int tt), .val (.int s1), .val (.int s2), .val (.ref ob57), .val (.ref ob63), .val (.int (1 : Int32)), .val (.int (1 : Int32)), .val (.ref ob71el)] [(.int (R5 ob73rd ((s1 + (1 : Int32)) + (1 : Int32)) (s1 + s2)))]) _ _ _
        refine own_to (fun t k => XS.iload X74.here hx rfl (hb hby at_346) rfl k) ?_
        show own_Out p e below _ T74 (mkF m 348 #[.val (.int x0), .val (.int x1), .val (.int x2), .val (.int x3), .val (.int (2 : Int32)), .val (.int l1), .val (.int l2), .val (.int (1 : Int32)), .val (.int tt), .val (.int s1), .val (.int s2), .val (.ref ob57), .val (.ref ob63), .val (.int (1 : Int32)), .val (.int (1 : Int32)), .val (.ref ob71el)] [(.int l2), (.int (R5 ob73rd ((s1 + (1 : Int32)) + (1 : Int32)) (s1 + s2)))]) _ _ _
        by_cases hc348 : (0 : Int32) < l2
        · refine own_to (fun t k => XS.ifNo X74.here hx rfl (hb hby at_348) rfl ((if0 _ _).trans (tlt hc348).2.2.2) k) ?_
          show own_Out p e below _ T74 (mkF m 351 #[.val (.int x0), .val (.int x1), .val (.int x2), .val (.int x3), .val (.int (2 : Int32)), .val (.int l1), .val (.int l2), .val (.int (1 : Int32)), .val (.int tt), .val (.int s1), .val (.int s2), .val (.ref ob57), .val (.ref ob63), .val (.int (1 : Int32)), .val (.int (1 : Int32)), .val (.ref ob71el)] [(.int (R5 ob73rd ((s1 + (1 : Int32)) + (1 : Int32)) (s1 + s2)))]) _ _ _
          refine own_to (fun t k => XS.iconst X74.here hx rfl (hb hby at_351) k) ?_
          show own_Out p e below _ T74 (mkF m 352 #[.val (.int x0), .val (.int x1), .val (.int x2), .val (.int x3), .val (.int (2 : Int32)), .val (.int l1), .val (.int l2), .val (.int (1 : Int32)), .val (.int tt), .val (.int s1), .val (.int s2), .val (.ref ob57), .val (.ref ob63), .val (.int (1 : Int32)), .val (.int (1 : Int32)), .val (.ref ob71el)] [(.int (1 : Int32)), (.int (R5 ob73rd ((s1 + (1 : Int32)) + (1 : Int32)) (s1 + s2)))]) _ _ _
          refine own_to (fun t k => XS.goto X74.here hx rfl (pc0 := 352) (pc' := 356) rfl (hb hby at_352) (by decide) (by decide) k) ?_
          show own_Out p e below _ T74 (mkF m 356 #[.val (.int x0), .val (.int x1), .val (.int x2), .val (.int x3), .val (.int (2 : Int32)), .val (.int l1), .val (.int l2), .val (.int (1 : Int32)), .val (.int tt), .val (.int s1), .val (.int s2), .val (.ref ob57), .val (.ref ob63), .val (.int (1 : Int32)), .val (.int (1 : Int32)), .val (.ref ob71el)] [(.int (1 : Int32)), (.int (R5 ob73rd ((s1 + (1 : Int32)) + (1 : Int32)) (s1 + s2)))]) _ _ _
          have hc356 : (R5 ob73rd ((s1 + (1 : Int32)) + (1 : Int32)) (s1 + s2)) = (1 : Int32) := own_hn1 _ _ _ (by rw [own_lt] at hc348 ⊢; omega)
          refine own_to (fun t k => XS.icmpNo X74.here hx rfl (hb hby at_356) rfl (teq hc356).2 k) ?_
          show own_Out p e below _ T74 (mkF m 359 #[.val (.int x0), .val (.int x1), .val (.int x2), .val (.int x3), .val (.int (2 : Int32)), .val (.int l1), .val (.int l2), .val (.int (1 : Int32)), .val (.int tt), .val (.int s1), .val (.int s2), .val (.ref ob57), .val (.ref ob63), .val (.int (1 : Int32)), .val (.int (1 : Int32)), .val (.ref ob71el)] []) _ _ _
          refine own_to (fun t k => XS.iconst X74.here hx rfl (hb hby at_359) k) ?_
          show own_Out p e below _ T74 (mkF m 360 #[.val (.int x0), .val (.int x1), .val (.int x2), .val (.int x3), .val (.int (2 : Int32)), .val (.int l1), .val (.int l2), .val (.int (1 : Int32)), .val (.int tt), .val (.int s1), .val (.int s2), .val (.ref ob57), .val (.ref ob63), .val (.int (1 : Int32)), .val (.int (1 : Int32)), .val (.ref ob71el)] [(.int (1 : Int32))]) _ _ _
          refine own_to (fun t k => XS.goto X74.here hx rfl (pc0 := 360) (pc' := 364) rfl (hb hby at_360) (by decide) (by decide) k) ?_
          show own_Out p e below _ T74 (mkF m 364 #[.val (.int x0), .val (.int x1), .val (.int x2), .val (.int x3), .val (.int (2 : Int32)), .val (.int l1), .val (.int l2), .val (.int (1 : Int32)), .val (.int tt), .val (.int s1), .val (.int s2), .val (.ref ob57), .val (.ref ob63), .val (.int (1 : Int32)), .val (.int (1 : Int32)), .val (.ref ob71el)] [(.int (1 : Int32))]) _ _ _
          refine own_to (fun t k => XS.istore X74.here hx rfl (hb hby at_364) rfl (l' := #[.val (.int x0), .val (.int x1), .val (.int x2), .val (.int x3), .val (.int (2 : Int32)), .val (.int l1), .val (.int l2), .val (.int (1 : Int32)), .val (.int tt), .val (.int s1), .val (.int s2), .val (.ref ob57), .val (.ref ob63), .val (.int (1 : Int32)), .val (.int (1 : Int32)), .val (.ref ob71el)]) rfl k) ?_
          show own_Out p e below _ T74 (mkF m 366 #[.val (.int x0), .val (.int x1), .val (.int x2), .val (.int x3), .val (.int (2 : Int32)), .val (.int l1), .val (.int l2), .val (.int (1 : Int32)), .val (.int tt), .val (.int s1), .val (.int s2), .val (.ref ob57), .val (.ref ob63), .val (.int (1 : Int32)), .val (.int (1 : Int32)), .val (.ref ob71el)] []) _ _ _
          refine own_to (fun t k => XS.iload X74.here hx rfl (hb hby at_366) rfl k) ?_
          show own_Out p e below _ T74 (mkF m 368 #[.val (.int x0), .val (.int x1), .val (.int x2), .val (.int x3), .val (.int (2 : Int32)), .val (.int l1), .val (.int l2), .val (.int (1 : Int32)), .val (.int tt), .val (.int s1), .val (.int s2), .val (.ref ob57), .val (.ref ob63), .val (.int (1 : Int32)), .val (.int (1 : Int32)), .val (.ref ob71el)] [(.int (1 : Int32))]) _ _ _
          refine own_retVW X74 hS hk e74 hx hlk (w := .int (1 : Int32)) hret rfl (Or.inl ⟨rfl, by simp, _, rfl⟩) (hb hby at_368) (by decide) (by decide) ?_
          rw [e74]
          exact ⟨rfl, N74⟩
        · refine own_to (fun t k => XS.ifYes X74.here hx rfl (pc0 := 348) (pc' := 355) rfl (hb hby at_348) rfl ((if0 _ _).trans (flt hc348).2.2.2) (by decide) (by decide) k) ?_
          show own_Out p e below _ T74 (mkF m 355 #[.val (.int x0), .val (.int x1), .val (.int x2), .val (.int x3), .val (.int (2 : Int32)), .val (.int l1), .val (.int l2), .val (.int (1 : Int32)), .val (.int tt), .val (.int s1), .val (.int s2), .val (.ref ob57), .val (.ref ob63), .val (.int (1 : Int32)), .val (.int (1 : Int32)), .val (.ref ob71el)] [(.int (R5 ob73rd ((s1 + (1 : Int32)) + (1 : Int32)) (s1 + s2)))]) _ _ _
          refine own_to (fun t k => XS.iconst X74.here hx rfl (hb hby at_355) k) ?_
          show own_Out p e below _ T74 (mkF m 356 #[.val (.int x0), .val (.int x1), .val (.int x2), .val (.int x3), .val (.int (2 : Int32)), .val (.int l1), .val (.int l2), .val (.int (1 : Int32)), .val (.int tt), .val (.int s1), .val (.int s2), .val (.ref ob57), .val (.ref ob63), .val (.int (1 : Int32)), .val (.int (1 : Int32)), .val (.ref ob71el)] [(.int (0 : Int32)), (.int (R5 ob73rd ((s1 + (1 : Int32)) + (1 : Int32)) (s1 + s2)))]) _ _ _
          have hc356 : (R5 ob73rd ((s1 + (1 : Int32)) + (1 : Int32)) (s1 + s2)) = (0 : Int32) := own_hn0 _ _ _ (by rw [own_lt] at hc348 ⊢; omega)
          refine own_to (fun t k => XS.icmpNo X74.here hx rfl (hb hby at_356) rfl (teq hc356).2 k) ?_
          show own_Out p e below _ T74 (mkF m 359 #[.val (.int x0), .val (.int x1), .val (.int x2), .val (.int x3), .val (.int (2 : Int32)), .val (.int l1), .val (.int l2), .val (.int (1 : Int32)), .val (.int tt), .val (.int s1), .val (.int s2), .val (.ref ob57), .val (.ref ob63), .val (.int (1 : Int32)), .val (.int (1 : Int32)), .val (.ref ob71el)] []) _ _ _
          refine own_to (fun t k => XS.iconst X74.here hx rfl (hb hby at_359) k) ?_
          show own_Out p e below _ T74 (mkF m 360 #[.val (.int x0), .val (.int x1), .val (.int x2), .val (.int x3), .val (.int (2 : Int32)), .val (.int l1), .val (.int l2), .val (.int (1 : Int32)), .val (.int tt), .val (.int s1), .val (.int s2), .val (.ref ob57), .val (.ref ob63), .val (.int (1 : Int32)), .val (.int (1 : Int32)), .val (.ref ob71el)] [(.int (1 : Int32))]) _ _ _
          refine own_to (fun t k => XS.goto X74.here hx rfl (pc0 := 360) (pc' := 364) rfl (hb hby at_360) (by decide) (by decide) k) ?_
          show own_Out p e below _ T74 (mkF m 364 #[.val (.int x0), .val (.int x1), .val (.int x2), .val (.int x3), .val (.int (2 : Int32)), .val (.int l1), .val (.int l2), .val (.int (1 : Int32)), .val (.int tt), .val (.int s1), .val (.int s2), .val (.ref ob57), .val (.ref ob63), .val (.int (1 : Int32)), .val (.int (1 : Int32)), .val (.ref ob71el)] [(.int (1 : Int32))]) _ _ _
          refine own_to (fun t k => XS.istore X74.here hx rfl (hb hby at_364) rfl (l' := #[.val (.int x0), .val (.int x1), .val (.int x2), .val (.int x3), .val (.int (2 : Int32)), .val (.int l1), .val (.int l2), .val (.int (1 : Int32)), .val (.int tt), .val (.int s1), .val (.int s2), .val (.ref ob57), .val (.ref ob63), .val (.int (1 : Int32)), .val (.int (1 : Int32)), .val (.ref ob71el)]) rfl k) ?_
          show own_Out p e below _ T74 (mkF m 366 #[.val (.int x0), .val (.int x1), .val (.int x2), .val (.int x3), .val (.int (2 : Int32)), .val (.int l1), .val (.int l2), .val (.int (1 : Int32)), .val (.int tt), .val (.int s1), .val (.int s2), .val (.ref ob57), .val (.ref ob63), .val (.int (1 : Int32)), .val (.int (1 : Int32)), .val (.ref ob71el)] []) _ _ _
          refine own_to (fun t k => XS.iload X74.here hx rfl (hb hby at_366) rfl k) ?_
          show own_Out p e below _ T74 (mkF m 368 #[.val (.int x0), .val (.int x1), .val (.int x2), .val (.int x3), .val (.int (2 : Int32)), .val (.int l1), .val (.int l2), .val (.int (1 : Int32)), .val (.int tt), .val (.int s1), .val (.int s2), .val (.ref ob57), .val (.ref ob63), .val (.int (1 : Int32)), .val (.int (1 : Int32)), .val (.ref ob71el)] [(.int (1 : Int32))]) _ _ _
          refine own_retVW X74 hS hk e74 hx hlk (w := .int (1 : Int32)) hret rfl (Or.inl ⟨rfl, by simp, _, rfl⟩) (hb hby at_368) (by decide) (by decide) ?_
          rw [e74]
          exact ⟨rfl, N74⟩
      · refine own_to (fun t k => XS.ifYes X70.here hx rfl (pc0 := 271) (pc' := 278) rfl (hb hby at_271) rfl ((if0 _ _).trans (flt hc271).2.2.2) (by decide) (by decide) k) ?_
        show own_Out p e below _ T70 (mkF m 278 #[.val (.int x0), .val (.int x1), .val (.int x2), .val (.int x3), .val (.int (2 : Int32)), .val (.int l1), .val (.int l2), .val (.int (1 : Int32)), .val (.int tt), .val (.int s1), .val (.int s2), .val (.ref ob57), .val (.ref ob63), .val (.int (1 : Int32)), .val (.int (1 : Int32)), .val (.ref ob67el)] [(.int (R5 ob69rd (((0 : Int32) + (1 : Int32)) + (1 : Int32)) s1))]) _ _ _
        refine own_to (fun t k => XS.iconst X70.here hx rfl (hb hby at_278) k) ?_
        show own_Out p e below _ T70 (mkF m 279 #[.val (.int x0), .val (.int x1), .val (.int x2), .val (.int x3), .val (.int (2 : Int32)), .val (.int l1), .val (.int l2), .val (.int (1 : Int32)), .val (.int tt), .val (.int s1), .val (.int s2), .val (.ref ob57), .val (.ref ob63), .val (.int (1 : Int32)), .val (.int (1 : Int32)), .val (.ref ob67el)] [(.int (0 : Int32)), (.int (R5 ob69rd (((0 : Int32) + (1 : Int32)) + (1 : Int32)) s1))]) _ _ _
        have hc279 : (R5 ob69rd (((0 : Int32) + (1 : Int32)) + (1 : Int32)) s1) = (0 : Int32) := own_hn0 _ _ _ (by rw [own_lt] at hc271 ⊢; omega)
        refine own_to (fun t k => XS.icmpNo X70.here hx rfl (hb hby at_279) rfl (teq hc279).2 k) ?_
        show own_Out p e below _ T70 (mkF m 282 #[.val (.int x0), .val (.int x1), .val (.int x2), .val (.int x3), .val (.int (2 : Int32)), .val (.int l1), .val (.int l2), .val (.int (1 : Int32)), .val (.int tt), .val (.int s1), .val (.int s2), .val (.ref ob57), .val (.ref ob63), .val (.int (1 : Int32)), .val (.int (1 : Int32)), .val (.ref ob67el)] []) _ _ _
        refine own_to (fun t k => XS.iconst X70.here hx rfl (hb hby at_282) k) ?_
        show own_Out p e below _ T70 (mkF m 283 #[.val (.int x0), .val (.int x1), .val (.int x2), .val (.int x3), .val (.int (2 : Int32)), .val (.int l1), .val (.int l2), .val (.int (1 : Int32)), .val (.int tt), .val (.int s1), .val (.int s2), .val (.ref ob57), .val (.ref ob63), .val (.int (1 : Int32)), .val (.int (1 : Int32)), .val (.ref ob67el)] [(.int (1 : Int32))]) _ _ _
        refine own_to (fun t k => XS.goto X70.here hx rfl (pc0 := 283) (pc' := 287) rfl (hb hby at_283) (by decide) (by decide) k) ?_
        show own_Out p e below _ T70 (mkF m 287 #[.val (.int x0), .val (.int x1), .val (.int x2), .val (.int x3), .val (.int (2 : Int32)), .val (.int l1), .val (.int l2), .val (.int (1 : Int32)), .val (.int tt), .val (.int s1), .val (.int s2), .val (.ref ob57), .val (.ref ob63), .val (.int (1 : Int32)), .val (.int (1 : Int32)), .val (.ref ob67el)] [(.int (1 : Int32))]) _ _ _
        refine own_to (fun t k => XS.istore X70.here hx rfl (hb hby at_287) rfl (l' := #[.val (.int x0), .val (.int x1), .val (.int x2), .val (.int x3), .val (.int (2 : Int32)), .val (.int l1), .val (.int l2), .val (.int (1 : Int32)), .val (.int tt), .val (.int s1), .val (.int s2), .val (.ref ob57), .val (.ref ob63), .val (.int (1 : Int32)), .val (.int (1 : Int32)), .val (.ref ob67el)]) rfl k) ?_
        show own_Out p e below _ T70 (mkF m 289 #[.val (.int x0), .val (.int x1), .val (.int x2), .val (.int x3), .val (.int (2 : Int32)), .val (.int l1), .val (.int l2), .val (.int (1 : Int32)), .val (.int tt), .val (.int s1), .val (.int s2), .val (.ref ob57), .val (.ref ob63), .val (.int (1 : Int32)), .val (.int (1 : Int32)), .val (.ref ob67el)] []) _ _ _
        refine own_to (fun t k => XS.iload X70.here hx rfl (hb hby at_289) rfl k) ?_
        show own_Out p e below _ T70 (mkF m 291 #[.val (.int x0), .val (.int x1), .val (.int x2), .val (.int x3), .val (.int (2 : Int32)), .val (.int l1), .val (.int l2), .val (.int (1 : Int32)), .val (.int tt), .val (.int s1), .val (.int s2), .val (.ref ob57), .val (.ref ob63), .val (.int (1 : Int32)), .val (.int (1 : Int32)), .val (.ref ob67el)] [(.int (2 : Int32))]) _ _ _
        refine own_to (fun t k => XS.iconst X70.here hx rfl (hb hby at_291) k) ?_
        show own_Out p e below _ T70 (mkF m 292 #[.val (.int x0), .val (.int x1), .val (.int x2), .val (.int x3), .val (.int (2 : Int32)), .val (.int l1), .val (.int l2), .val (.int (1 : Int32)), .val (.int tt), .val (.int s1), .val (.int s2), .val (.ref ob57), .val (.ref ob63), .val (.int (1 : Int32)), .val (.int (1 : Int32)), .val (.ref ob67el)] [(.int (2 : Int32)), (.int (2 : Int32))]) _ _ _
        have hc292 : ¬ ((2 : Int32) < (2 : Int32)) := by decide
        refine own_to (fun t k => XS.icmpNo X70.here hx rfl (hb hby at_292) rfl (flt hc292).1 k) ?_
        show own_Out p e below _ T70 (mkF m 295 #[.val (.int x0), .val (.int x1), .val (.int x2), .val (.int x3), .val (.int (2 : Int32)), .val (.int l1), .val (.int l2), .val (.int (1 : Int32)), .val (.int tt), .val (.int s1), .val (.int s2), .val (.ref ob57), .val (.ref ob63), .val (.int (1 : Int32)), .val (.int (1 : Int32)), .val (.ref ob67el)] []) _ _ _
        refine own_to (fun t k => XS.aload X70.here hx rfl (hb hby at_295) rfl rfl k) ?_
        show own_Out p e below _ T70 (mkF m 297 #[.val (.int x0), .val (.int x1), .val (.int x2), .val (.int x3), .val (.int (2 : Int32)), .val (.int l1), .val (.int l2), .val (.int (1 : Int32)), .val (.int tt), .val (.int s1), .val (.int s2), .val (.ref ob57), .val (.ref ob63), .val (.int (1 : Int32)), .val (.int (1 : Int32)), .val (.ref ob67el)] [(.ref ob63)]) _ _ _
        have h_s1q := own_ad (s1 + 1) 1 (by omega) (by omega)
        rw [k1] at h_s1q
        refine own_callVW X70 hx hZ hown hS hk (a := ob63) (argsL := []) (rest := []) (hw _ (List.mem_of_getElem? (i := 28) rfl)) (hw _ (List.mem_of_getElem? (i := 29) rfl)) (hw _ (List.mem_of_getElem? (i := 31) rfl)) (hw _ (List.mem_of_getElem? (i := 30) rfl)) (hw _ (List.mem_of_getElem? (i := 7) rfl)) (hw _ (List.mem_of_getElem? (i := 32) rfl)) (by decide) (rm6 l Z a0 hw ob63 s1 nn ob57 (nn.toNatClampNeg) (own_upd (own_upd (own_upd (own_upd (own_upd (fun _ => 0) ((0 : Int32).toNatClampNeg) (nar .byte (tt.toInt8.toInt32))) ((1 : Int32).toNatClampNeg) (nar .byte (l1.toInt8.toInt32))) (s1.toNatClampNeg) (nar .byte (tt.toInt8.toInt32))) ((s1 + (1 : Int32)).toNatClampNeg) (nar .byte (l2.toInt8.toInt32))) ((s1 + s2).toNatClampNeg) (nar .byte (tt.toInt8.toInt32))) (tt &&& (255 : Int32)) l2 hh69 n0 Z0 E_ob63 F_ob63_bytes F_ob63_position F_ob63_end A_ob57 g_ob63 ne_ob57_ob63 (by rw [own_lt]; omega) (⟨own_ge (by omega), (by simp only [own_nn] <;> omega)⟩) ((congrArg (fun z => z &&& (255 : Int32)) ((own_miss (by simp only [own_nn] <;> omega)).trans ((own_miss (by simp only [own_nn] <;> omega)).trans (own_hit (by simp only [own_nn] <;> omega))))).trans (own_by tt)).symm (by rw [own_lt]; omega) (⟨own_ge (by omega), (by simp only [own_nn] <;> omega)⟩) (((congrArg (fun z => z &&& (255 : Int32)) ((own_miss (by simp only [own_nn] <;> omega)).trans (own_hit (by simp only [own_nn] <;> omega)))).trans (own_by l2)).trans (own_l255 l2 b_l2)).symm htt (own_l128 l2 b_l2) (own_wide _ _ (by have q := own_sb nn ((s1 + (1 : Int32)) + (1 : Int32)) (by omega) (by omega); omega))) (by decide) (by decide) e70 E_ob63 rfl (by rw [hml]; rfl) (lenOf pd_6 rfl) rfl (W := 0) (by show 2 * 0 + _ ≤ _; exact Nat.le_of_eq rfl) (hb hby at_297) (by decide) (by decide) fun v75 T75 hh75 L75 X75 e75 hQ75 hZ hown hS => ?_
        obtain ⟨NL75, KK75, ob75el, rfl, szc_ob75el, P75_0, P75_1, P75_2, P75_3, P75_4, P75_5, P75_6, P75_7, P75_8⟩ := hQ75
        have ne_ob57_ob75el : ob57 ≠ ob75el := Nat.ne_of_lt (Nat.lt_of_lt_of_le A_ob57.lt szc_ob75el)
        have ne_ob75el_ob57 := Ne.symm ne_ob57_ob75el
        have ne_ob63_ob75el : ob63 ≠ ob75el := Nat.ne_of_lt (Nat.lt_of_lt_of_le E_ob63.lt szc_ob75el)
        have ne_ob75el_ob63 := Ne.symm ne_ob63_ob75el
        have ne_ob67el_ob75el : ob67el ≠ ob75el := Nat.ne_of_lt (Nat.lt_of_lt_of_le E_ob67el.lt szc_ob75el)
        have ne_ob75el_ob67el := Ne.symm ne_ob67el_ob75el
        have ne_ob69rd_ob75el : ob69rd ≠ ob75el := Nat.ne_of_lt (Nat.lt_of_lt_of_le E_ob69rd.lt szc_ob75el)
        have ne_ob75el_ob69rd := Ne.symm ne_ob69rd_ob75el
        have g_ob75el : n0 ≤ ob75el := Nat.le_trans Z0 szc_ob75el
        have A_ob57 := A_ob57.keep KK75 (by simp [ne_ob57_ob63])
        have E_ob63 := E_ob63.keep KK75
        have E_ob67el := E_ob67el.keep KK75
        have F_ob67el_bytes := F_ob67el_bytes.keep KK75 (by simp [ne_ob67el_ob63])
        have F_ob67el_tag := F_ob67el_tag.keep KK75 (by simp [ne_ob67el_ob63])
        have F_ob67el_start := F_ob67el_start.keep KK75 (by simp [ne_ob67el_ob63])
        have F_ob67el_contents := F_ob67el_contents.keep KK75 (by simp [ne_ob67el_ob63])
        have F_ob67el_end := F_ob67el_end.keep KK75 (by simp [ne_ob67el_ob63])
        have E_ob69rd := E_ob69rd.keep KK75
        have F_ob69rd_bytes := F_ob69rd_bytes.keep KK75 (by simp [ne_ob69rd_ob63])
        have F_ob69rd_position := F_ob69rd_position.keep KK75 (by simp [ne_ob69rd_ob63])
        have F_ob69rd_end := F_ob69rd_end.keep KK75 (by simp [ne_ob69rd_ob63])
        have F_ob63_bytes := P75_0
        have F_ob63_position := P75_1
        have F_ob63_end := P75_2
        have E_ob75el := P75_3
        have F_ob75el_bytes := P75_4
        have F_ob75el_tag := P75_5
        have F_ob75el_start := P75_6
        have F_ob75el_contents := P75_7
        have F_ob75el_end := P75_8
        have Z0 := Nat.le_trans Z0 KK75.1
        have hk := Nat.le_refl hh75.size
        have N75 := Fr.app N70 NL75
        show own_Out p e below _ T75 (mkF m 300 #[.val (.int x0), .val (.int x1), .val (.int x2), .val (.int x3), .val (.int (2 : Int32)), .val (.int l1), .val (.int l2), .val (.int (1 : Int32)), .val (.int tt), .val (.int s1), .val (.int s2), .val (.ref ob57), .val (.ref ob63), .val (.int (1 : Int32)), .val (.int (1 : Int32)), .val (.ref ob67el)] [(.ref ob75el)]) _ _ _
        have h_p2 : (((s1 + (1 : Int32)) + (1 : Int32)) + ((l2.toInt64).toInt32)) = (s1 + s2) := by rw [own_bk]; apply Int32.toInt_inj.mp; rw [own_ad _ _ (by omega) (by omega)]; omega
        rw [h_p2] at F_ob63_position
        rw [h_p2] at F_ob75el_end
        refine own_to (fun t k => XS.astore X75.here hx rfl (hb hby at_300) rfl rfl (l' := #[.val (.int x0), .val (.int x1), .val (.int x2), .val (.int x3), .val (.int (2 : Int32)), .val (.int l1), .val (.int l2), .val (.int (1 : Int32)), .val (.int tt), .val (.int s1), .val (.int s2), .val (.ref ob57), .val (.ref ob63), .val (.int (1 : Int32)), .val (.int (1 : Int32)), .val (.ref ob75el)]) rfl k) ?_
        show own_Out p e below _ T75 (mkF m 302 #[.val (.int x0), .val (.int x1), .val (.int x2), .val (.int x3), .val (.int (2 : Int32)), .val (.int l1), .val (.int l2), .val (.int (1 : Int32)), .val (.int tt), .val (.int s1), .val (.int s2), .val (.ref ob57), .val (.ref ob63), .val (.int (1 : Int32)), .val (.int (1 : Int32)), .val (.ref ob75el)] []) _ _ _
        refine own_to (fun t k => XS.iload X75.here hx rfl (hb hby at_302) rfl k) ?_
        show own_Out p e below _ T75 (mkF m 304 #[.val (.int x0), .val (.int x1), .val (.int x2), .val (.int x3), .val (.int (2 : Int32)), .val (.int l1), .val (.int l2), .val (.int (1 : Int32)), .val (.int tt), .val (.int s1), .val (.int s2), .val (.ref ob57), .val (.ref ob63), .val (.int (1 : Int32)), .val (.int (1 : Int32)), .val (.ref ob75el)] [(.int (1 : Int32))]) _ _ _
        have hc304 : ¬ ((1 : Int32) = (0 : Int32)) := by decide
        refine own_to (fun t k => XS.ifNo X75.here hx rfl (hb hby at_304) rfl ((if0 _ _).trans (feq hc304).1) k) ?_
        show own_Out p e below _ T75 (mkF m 307 #[.val (.int x0), .val (.int x1), .val (.int x2), .val (.int x3), .val (.int (2 : Int32)), .val (.int l1), .val (.int l2), .val (.int (1 : Int32)), .val (.int tt), .val (.int s1), .val (.int s2), .val (.ref ob57), .val (.ref ob63), .val (.int (1 : Int32)), .val (.int (1 : Int32)), .val (.ref ob75el)] []) _ _ _
        refine own_to (fun t k => XS.aload X75.here hx rfl (hb hby at_307) rfl rfl k) ?_
        show own_Out p e below _ T75 (mkF m 309 #[.val (.int x0), .val (.int x1), .val (.int x2), .val (.int x3), .val (.int (2 : Int32)), .val (.int l1), .val (.int l2), .val (.int (1 : Int32)), .val (.int tt), .val (.int s1), .val (.int s2), .val (.ref ob57), .val (.ref ob63), .val (.int (1 : Int32)), .val (.int (1 : Int32)), .val (.ref ob75el)] [(.ref ob63)]) _ _ _
        refine own_callV X75 hx hZ hown (a := ob63) (argsL := []) (rest := []) (hw _ (List.mem_of_getElem? (i := 23) rfl)) (hw _ (List.mem_of_getElem? (i := 24) rfl)) (hw _ (List.mem_of_getElem? (i := 26) rfl)) (hw _ (List.mem_of_getElem? (i := 25) rfl)) (hw _ (List.mem_of_getElem? (i := 7) rfl)) (hw _ (List.mem_of_getElem? (i := 27) rfl)) (by decide) (rm5 l Z a0 hw ob63 (s1 + s2) nn hh75 n0 Z0 F_ob63_position F_ob63_end) (by decide) (by decide) e75 E_ob63 rfl (by rw [hml]; rfl) (lenOf pd_1 rfl) rfl (W := 0) (by show 2 * 0 + _ ≤ _; exact Nat.le_of_eq rfl) (hb hby at_309) (by decide) (by decide) fun v76 T76 hh76 L76 X76 e76 hQ76 => ?_
        obtain ⟨rfl, NL76, he76⟩ := hQ76
        replace e76 := e76.trans he76
        have N76 := Fr.app N75 NL76
        show own_Out p e below _ T76 (mkF m 312 #[.val (.int x0), .val (.int x1), .val (.int x2), .val (.int x3), .val (.int (2 : Int32)), .val (.int l1), .val (.int l2), .val (.int (1 : Int32)), .val (.int tt), .val (.int s1), .val (.int s2), .val (.ref ob57), .val (.ref ob63), .val (.int (1 : Int32)), .val (.int (1 : Int32)), .val (.ref ob75el)] [(.int (R5 ob63 (s1 + s2) nn))]) _ _ _
        refine own_to (fun t k => XS.iload X76.here hx rfl (hb hby at_312) rfl k) ?_
        show own_Out p e below _ T76 (mkF m 314 #[.val (.int x0), .val (.int x1), .val (.int x2), .val (.int x3), .val (.int (2 : Int32)), .val (.int l1), .val (.int l2), .val (.int (1 : Int32)), .val (.int tt), .val (.int s1), .val (.int s2), .val (.ref ob57), .val (.ref ob63), .val (.int (1 : Int32)), .val (.int (1 : Int32)), .val (.ref ob75el)] [(.int (1 : Int32)), (.int (R5 ob63 (s1 + s2) nn))]) _ _ _
        refine own_to (fun t k => XS.iconst X76.here hx rfl (hb hby at_314) k) ?_
        show own_Out p e below _ T76 (mkF m 315 #[.val (.int x0), .val (.int x1), .val (.int x2), .val (.int x3), .val (.int (2 : Int32)), .val (.int l1), .val (.int l2), .val (.int (1 : Int32)), .val (.int tt), .val (.int s1), .val (.int s2), .val (.ref ob57), .val (.ref ob63), .val (.int (1 : Int32)), .val (.int (1 : Int32)), .val (.ref ob75el)] [(.int (1 : Int32)), (.int (1 : Int32)), (.int (R5 ob63 (s1 + s2) nn))]) _ _ _
        have hc315 : (1 : Int32) = (1 : Int32) := by decide
        refine own_to (fun t k => XS.icmpNo X76.here hx rfl (hb hby at_315) rfl (teq hc315).2 k) ?_
        show own_Out p e below _ T76 (mkF m 318 #[.val (.int x0), .val (.int x1), .val (.int x2), .val (.int x3), .val (.int (2 : Int32)), .val (.int l1), .val (.int l2), .val (.int (1 : Int32)), .val (.int tt), .val (.int s1), .val (.int s2), .val (.ref ob57), .val (.ref ob63), .val (.int (1 : Int32)), .val (.int (1 : Int32)), .val (.ref ob75el)] [(.int (R5 ob63 (s1 + s2) nn))]) _ _ _
        refine own_to (fun t k => XS.iconst X76.here hx rfl (hb hby at_318) k) ?_
        show own_Out p e below _ T76 (mkF m 319 #[.val (.int x0), .val (.int x1), .val (.int x2), .val (.int x3), .val (.int (2 : Int32)), .val (.int l1), .val (.int l2), .val (.int (1 : Int32)), .val (.int tt), .val (.int s1), .val (.int s2), .val (.ref ob57), .val (.ref ob63), .val (.int (1 : Int32)), .val (.int (1 : Int32)), .val (.ref ob75el)] [(.int (1 : Int32)), (.int (R5 ob63 (s1 + s2) nn))]) _ _ _
        refine own_to (fun t k => XS.goto X76.here hx rfl (pc0 := 319) (pc' := 323) rfl (hb hby at_319) (by decide) (by decide) k) ?_
        show own_Out p e below _ T76 (mkF m 323 #[.val (.int x0), .val (.int x1), .val (.int x2), .val (.int x3), .val (.int (2 : Int32)), .val (.int l1), .val (.int l2), .val (.int (1 : Int32)), .val (.int tt), .val (.int s1), .val (.int s2), .val (.ref ob57), .val (.ref ob63), .val (.int (1 : Int32)), .val (.int (1 : Int32)), .val (.ref ob75el)] [(.int (1 : Int32)), (.int (R5 ob63 (s1 + s2) nn))]) _ _ _
        have hc323 : (R5 ob63 (s1 + s2) nn) = (1 : Int32) := own_hn1 _ _ _ (by rw [own_lt]; omega)
        refine own_to (fun t k => XS.icmpNo X76.here hx rfl (hb hby at_323) rfl (teq hc323).2 k) ?_
        show own_Out p e below _ T76 (mkF m 326 #[.val (.int x0), .val (.int x1), .val (.int x2), .val (.int x3), .val (.int (2 : Int32)), .val (.int l1), .val (.int l2), .val (.int (1 : Int32)), .val (.int tt), .val (.int s1), .val (.int s2), .val (.ref ob57), .val (.ref ob63), .val (.int (1 : Int32)), .val (.int (1 : Int32)), .val (.ref ob75el)] []) _ _ _
        refine own_to (fun t k => XS.iconst X76.here hx rfl (hb hby at_326) k) ?_
        show own_Out p e below _ T76 (mkF m 327 #[.val (.int x0), .val (.int x1), .val (.int x2), .val (.int x3), .val (.int (2 : Int32)), .val (.int l1), .val (.int l2), .val (.int (1 : Int32)), .val (.int tt), .val (.int s1), .val (.int s2), .val (.ref ob57), .val (.ref ob63), .val (.int (1 : Int32)), .val (.int (1 : Int32)), .val (.ref ob75el)] [(.int (1 : Int32))]) _ _ _
        refine own_to (fun t k => XS.goto X76.here hx rfl (pc0 := 327) (pc' := 331) rfl (hb hby at_327) (by decide) (by decide) k) ?_
        show own_Out p e below _ T76 (mkF m 331 #[.val (.int x0), .val (.int x1), .val (.int x2), .val (.int x3), .val (.int (2 : Int32)), .val (.int l1), .val (.int l2), .val (.int (1 : Int32)), .val (.int tt), .val (.int s1), .val (.int s2), .val (.ref ob57), .val (.ref ob63), .val (.int (1 : Int32)), .val (.int (1 : Int32)), .val (.ref ob75el)] [(.int (1 : Int32))]) _ _ _
        refine own_to (fun t k => XS.istore X76.here hx rfl (hb hby at_331) rfl (l' := #[.val (.int x0), .val (.int x1), .val (.int x2), .val (.int x3), .val (.int (2 : Int32)), .val (.int l1), .val (.int l2), .val (.int (1 : Int32)), .val (.int tt), .val (.int s1), .val (.int s2), .val (.ref ob57), .val (.ref ob63), .val (.int (1 : Int32)), .val (.int (1 : Int32)), .val (.ref ob75el)]) rfl k) ?_
        show own_Out p e below _ T76 (mkF m 333 #[.val (.int x0), .val (.int x1), .val (.int x2), .val (.int x3), .val (.int (2 : Int32)), .val (.int l1), .val (.int l2), .val (.int (1 : Int32)), .val (.int tt), .val (.int s1), .val (.int s2), .val (.ref ob57), .val (.ref ob63), .val (.int (1 : Int32)), .val (.int (1 : Int32)), .val (.ref ob75el)] []) _ _ _
        refine own_to (fun t k => XS.iload X76.here hx rfl (hb hby at_333) rfl k) ?_
        show own_Out p e below _ T76 (mkF m 335 #[.val (.int x0), .val (.int x1), .val (.int x2), .val (.int x3), .val (.int (2 : Int32)), .val (.int l1), .val (.int l2), .val (.int (1 : Int32)), .val (.int tt), .val (.int s1), .val (.int s2), .val (.ref ob57), .val (.ref ob63), .val (.int (1 : Int32)), .val (.int (1 : Int32)), .val (.ref ob75el)] [(.int (1 : Int32))]) _ _ _
        have hc335 : ¬ ((1 : Int32) = (0 : Int32)) := by decide
        refine own_to (fun t k => XS.ifNo X76.here hx rfl (hb hby at_335) rfl ((if0 _ _).trans (feq hc335).1) k) ?_
        show own_Out p e below _ T76 (mkF m 338 #[.val (.int x0), .val (.int x1), .val (.int x2), .val (.int x3), .val (.int (2 : Int32)), .val (.int l1), .val (.int l2), .val (.int (1 : Int32)), .val (.int tt), .val (.int s1), .val (.int s2), .val (.ref ob57), .val (.ref ob63), .val (.int (1 : Int32)), .val (.int (1 : Int32)), .val (.ref ob75el)] []) _ _ _
        refine own_to (fun t k => XS.aload X76.here hx rfl (hb hby at_338) rfl rfl k) ?_
        show own_Out p e below _ T76 (mkF m 340 #[.val (.int x0), .val (.int x1), .val (.int x2), .val (.int x3), .val (.int (2 : Int32)), .val (.int l1), .val (.int l2), .val (.int (1 : Int32)), .val (.int tt), .val (.int s1), .val (.int s2), .val (.ref ob57), .val (.ref ob63), .val (.int (1 : Int32)), .val (.int (1 : Int32)), .val (.ref ob75el)] [(.ref ob75el)]) _ _ _
        refine own_callV X76 hx hZ hown (a := ob75el) (argsL := []) (rest := []) (hw _ (List.mem_of_getElem? (i := 64) rfl)) (hw _ (List.mem_of_getElem? (i := 65) rfl)) (hw _ (List.mem_of_getElem? (i := 67) rfl)) (hw _ (List.mem_of_getElem? (i := 66) rfl)) (hw _ (List.mem_of_getElem? (i := 49) rfl)) (hw _ (List.mem_of_getElem? (i := 68) rfl)) (by decide) (rm9 l Z a0 hw ob75el ob57 ((s1 + (1 : Int32)) + (1 : Int32)) (s1 + s2) hh75 n0 Z0 F_ob75el_bytes F_ob75el_contents F_ob75el_end) (by decide) (by decide) e76 E_ob75el rfl (by rw [hml]; rfl) (lenOf pd_7 rfl) rfl (W := 0) (by show 2 * 0 + _ ≤ _; exact Nat.le_of_eq rfl) (hb hby at_340) (by decide) (by decide) fun v77 T77 hh77 L77 X77 e77 hQ77 => ?_
        obtain ⟨NL77, KK77, ob77rd, rfl, szc_ob77rd, P77_0, P77_1, P77_2, P77_3⟩ := hQ77
        have ne_ob57_ob77rd : ob57 ≠ ob77rd := Nat.ne_of_lt (Nat.lt_of_lt_of_le A_ob57.lt szc_ob77rd)
        have ne_ob77rd_ob57 := Ne.symm ne_ob57_ob77rd
        have ne_ob63_ob77rd : ob63 ≠ ob77rd := Nat.ne_of_lt (Nat.lt_of_lt_of_le E_ob63.lt szc_ob77rd)
        have ne_ob77rd_ob63 := Ne.symm ne_ob63_ob77rd
        have ne_ob67el_ob77rd : ob67el ≠ ob77rd := Nat.ne_of_lt (Nat.lt_of_lt_of_le E_ob67el.lt szc_ob77rd)
        have ne_ob77rd_ob67el := Ne.symm ne_ob67el_ob77rd
        have ne_ob69rd_ob77rd : ob69rd ≠ ob77rd := Nat.ne_of_lt (Nat.lt_of_lt_of_le E_ob69rd.lt szc_ob77rd)
        have ne_ob77rd_ob69rd := Ne.symm ne_ob69rd_ob77rd
        have ne_ob75el_ob77rd : ob75el ≠ ob77rd := Nat.ne_of_lt (Nat.lt_of_lt_of_le E_ob75el.lt szc_ob77rd)
        have ne_ob77rd_ob75el := Ne.symm ne_ob75el_ob77rd
        have g_ob77rd : n0 ≤ ob77rd := Nat.le_trans Z0 szc_ob77rd
        have A_ob57 := A_ob57.keep KK77 (by simp [])
        have E_ob63 := E_ob63.keep KK77
        have E_ob67el := E_ob67el.keep KK77
        have F_ob67el_bytes := F_ob67el_bytes.keep KK77 (by simp [])
        have F_ob67el_tag := F_ob67el_tag.keep KK77 (by simp [])
        have F_ob67el_start := F_ob67el_start.keep KK77 (by simp [])
        have F_ob67el_contents := F_ob67el_contents.keep KK77 (by simp [])
        have F_ob67el_end := F_ob67el_end.keep KK77 (by simp [])
        have E_ob69rd := E_ob69rd.keep KK77
        have F_ob69rd_bytes := F_ob69rd_bytes.keep KK77 (by simp [])
        have F_ob69rd_position := F_ob69rd_position.keep KK77 (by simp [])
        have F_ob69rd_end := F_ob69rd_end.keep KK77 (by simp [])
        have F_ob63_bytes := F_ob63_bytes.keep KK77 (by simp [])
        have F_ob63_position := F_ob63_position.keep KK77 (by simp [])
        have F_ob63_end := F_ob63_end.keep KK77 (by simp [])
        have E_ob75el := E_ob75el.keep KK77
        have F_ob75el_bytes := F_ob75el_bytes.keep KK77 (by simp [])
        have F_ob75el_tag := F_ob75el_tag.keep KK77 (by simp [])
        have F_ob75el_start := F_ob75el_start.keep KK77 (by simp [])
        have F_ob75el_contents := F_ob75el_contents.keep KK77 (by simp [])
        have F_ob75el_end := F_ob75el_end.keep KK77 (by simp [])
        have E_ob77rd := P77_0
        have F_ob77rd_bytes := P77_1
        have F_ob77rd_position := P77_2
        have F_ob77rd_end := P77_3
        have Z0 := Nat.le_trans Z0 KK77.1
        have hk := Nat.le_trans hk KK77.1
        have N77 := Fr.app N76 NL77
        show own_Out p e below _ T77 (mkF m 343 #[.val (.int x0), .val (.int x1), .val (.int x2), .val (.int x3), .val (.int (2 : Int32)), .val (.int l1), .val (.int l2), .val (.int (1 : Int32)), .val (.int tt), .val (.int s1), .val (.int s2), .val (.ref ob57), .val (.ref ob63), .val (.int (1 : Int32)), .val (.int (1 : Int32)), .val (.ref ob75el)] [(.ref ob77rd)]) _ _ _
        refine own_callV X77 hx hZ hown (a := ob77rd) (argsL := []) (rest := []) (hw _ (List.mem_of_getElem? (i := 23) rfl)) (hw _ (List.mem_of_getElem? (i := 24) rfl)) (hw _ (List.mem_of_getElem? (i := 26) rfl)) (hw _ (List.mem_of_getElem? (i := 25) rfl)) (hw _ (List.mem_of_getElem? (i := 7) rfl)) (hw _ (List.mem_of_getElem? (i := 27) rfl)) (by decide) (rm5 l Z a0 hw ob77rd ((s1 + (1 : Int32)) + (1 : Int32)) (s1 + s2) hh77 n0 Z0 F_ob77rd_position F_ob77rd_end) (by decide) (by decide) e77 E_ob77rd rfl (by rw [hml]; rfl) (lenOf pd_1 rfl) rfl (W := 0) (by show 2 * 0 + _ ≤ _; exact Nat.le_of_eq rfl) (hb hby at_343) (by decide) (by decide) fun v78 T78 hh78 L78 X78 e78 hQ78 => ?_
        obtain ⟨rfl, NL78, he78⟩ := hQ78
        replace e78 := e78.trans he78
        have N78 := Fr.app N77 NL78
        show own_Out p e below _ T78 (mkF m 346 #[.val (.int x0), .val (.int x1), .val (.int x2), .val (.int x3), .val (.int (2 : Int32)), .val (.int l1), .val (.int l2), .val (.int (1 : Int32)), .val (.int tt), .val (.int s1), .val (.int s2), .val (.ref ob57), .val (.ref ob63), .val (.int (1 : Int32)), .val (.int (1 : Int32)), .val (.ref ob75el)] [(.int (R5 ob77rd ((s1 + (1 : Int32)) + (1 : Int32)) (s1 + s2)))]) _ _ _
        refine own_to (fun t k => XS.iload X78.here hx rfl (hb hby at_346) rfl k) ?_
        show own_Out p e below _ T78 (mkF m 348 #[.val (.int x0), .val (.int x1), .val (.int x2), .val (.int x3), .val (.int (2 : Int32)), .val (.int l1), .val (.int l2), .val (.int (1 : Int32)), .val (.int tt), .val (.int s1), .val (.int s2), .val (.ref ob57), .val (.ref ob63), .val (.int (1 : Int32)), .val (.int (1 : Int32)), .val (.ref ob75el)] [(.int l2), (.int (R5 ob77rd ((s1 + (1 : Int32)) + (1 : Int32)) (s1 + s2)))]) _ _ _
        by_cases hc348 : (0 : Int32) < l2
        · refine own_to (fun t k => XS.ifNo X78.here hx rfl (hb hby at_348) rfl ((if0 _ _).trans (tlt hc348).2.2.2) k) ?_
          show own_Out p e below _ T78 (mkF m 351 #[.val (.int x0), .val (.int x1), .val (.int x2), .val (.int x3), .val (.int (2 : Int32)), .val (.int l1), .val (.int l2), .val (.int (1 : Int32)), .val (.int tt), .val (.int s1), .val (.int s2), .val (.ref ob57), .val (.ref ob63), .val (.int (1 : Int32)), .val (.int (1 : Int32)), .val (.ref ob75el)] [(.int (R5 ob77rd ((s1 + (1 : Int32)) + (1 : Int32)) (s1 + s2)))]) _ _ _
          refine own_to (fun t k => XS.iconst X78.here hx rfl (hb hby at_351) k) ?_
          show own_Out p e below _ T78 (mkF m 352 #[.val (.int x0), .val (.int x1), .val (.int x2), .val (.int x3), .val (.int (2 : Int32)), .val (.int l1), .val (.int l2), .val (.int (1 : Int32)), .val (.int tt), .val (.int s1), .val (.int s2), .val (.ref ob57), .val (.ref ob63), .val (.int (1 : Int32)), .val (.int (1 : Int32)), .val (.ref ob75el)] [(.int (1 : Int32)), (.int (R5 ob77rd ((s1 + (1 : Int32)) + (1 : Int32)) (s1 + s2)))]) _ _ _
          refine own_to (fun t k => XS.goto X78.here hx rfl (pc0 := 352) (pc' := 356) rfl (hb hby at_352) (by decide) (by decide) k) ?_
          show own_Out p e below _ T78 (mkF m 356 #[.val (.int x0), .val (.int x1), .val (.int x2), .val (.int x3), .val (.int (2 : Int32)), .val (.int l1), .val (.int l2), .val (.int (1 : Int32)), .val (.int tt), .val (.int s1), .val (.int s2), .val (.ref ob57), .val (.ref ob63), .val (.int (1 : Int32)), .val (.int (1 : Int32)), .val (.ref ob75el)] [(.int (1 : Int32)), (.int (R5 ob77rd ((s1 + (1 : Int32)) + (1 : Int32)) (s1 + s2)))]) _ _ _
          have hc356 : (R5 ob77rd ((s1 + (1 : Int32)) + (1 : Int32)) (s1 + s2)) = (1 : Int32) := own_hn1 _ _ _ (by rw [own_lt] at hc348 ⊢; omega)
          refine own_to (fun t k => XS.icmpNo X78.here hx rfl (hb hby at_356) rfl (teq hc356).2 k) ?_
          show own_Out p e below _ T78 (mkF m 359 #[.val (.int x0), .val (.int x1), .val (.int x2), .val (.int x3), .val (.int (2 : Int32)), .val (.int l1), .val (.int l2), .val (.int (1 : Int32)), .val (.int tt), .val (.int s1), .val (.int s2), .val (.ref ob57), .val (.ref ob63), .val (.int (1 : Int32)), .val (.int (1 : Int32)), .val (.ref ob75el)] []) _ _ _
          refine own_to (fun t k => XS.iconst X78.here hx rfl (hb hby at_359) k) ?_
          show own_Out p e below _ T78 (mkF m 360 #[.val (.int x0), .val (.int x1), .val (.int x2), .val (.int x3), .val (.int (2 : Int32)), .val (.int l1), .val (.int l2), .val (.int (1 : Int32)), .val (.int tt), .val (.int s1), .val (.int s2), .val (.ref ob57), .val (.ref ob63), .val (.int (1 : Int32)), .val (.int (1 : Int32)), .val (.ref ob75el)] [(.int (1 : Int32))]) _ _ _
          refine own_to (fun t k => XS.goto X78.here hx rfl (pc0 := 360) (pc' := 364) rfl (hb hby at_360) (by decide) (by decide) k) ?_
          show own_Out p e below _ T78 (mkF m 364 #[.val (.int x0), .val (.int x1), .val (.int x2), .val (.int x3), .val (.int (2 : Int32)), .val (.int l1), .val (.int l2), .val (.int (1 : Int32)), .val (.int tt), .val (.int s1), .val (.int s2), .val (.ref ob57), .val (.ref ob63), .val (.int (1 : Int32)), .val (.int (1 : Int32)), .val (.ref ob75el)] [(.int (1 : Int32))]) _ _ _
          refine own_to (fun t k => XS.istore X78.here hx rfl (hb hby at_364) rfl (l' := #[.val (.int x0), .val (.int x1), .val (.int x2), .val (.int x3), .val (.int (2 : Int32)), .val (.int l1), .val (.int l2), .val (.int (1 : Int32)), .val (.int tt), .val (.int s1), .val (.int s2), .val (.ref ob57), .val (.ref ob63), .val (.int (1 : Int32)), .val (.int (1 : Int32)), .val (.ref ob75el)]) rfl k) ?_
          show own_Out p e below _ T78 (mkF m 366 #[.val (.int x0), .val (.int x1), .val (.int x2), .val (.int x3), .val (.int (2 : Int32)), .val (.int l1), .val (.int l2), .val (.int (1 : Int32)), .val (.int tt), .val (.int s1), .val (.int s2), .val (.ref ob57), .val (.ref ob63), .val (.int (1 : Int32)), .val (.int (1 : Int32)), .val (.ref ob75el)] []) _ _ _
          refine own_to (fun t k => XS.iload X78.here hx rfl (hb hby at_366) rfl k) ?_
          show own_Out p e below _ T78 (mkF m 368 #[.val (.int x0), .val (.int x1), .val (.int x2), .val (.int x3), .val (.int (2 : Int32)), .val (.int l1), .val (.int l2), .val (.int (1 : Int32)), .val (.int tt), .val (.int s1), .val (.int s2), .val (.ref ob57), .val (.ref ob63), .val (.int (1 : Int32)), .val (.int (1 : Int32)), .val (.ref ob75el)] [(.int (1 : Int32))]) _ _ _
          refine own_retVW X78 hS hk e78 hx hlk (w := .int (1 : Int32)) hret rfl (Or.inl ⟨rfl, by simp, _, rfl⟩) (hb hby at_368) (by decide) (by decide) ?_
          rw [e78]
          exact ⟨rfl, N78⟩
        · refine own_to (fun t k => XS.ifYes X78.here hx rfl (pc0 := 348) (pc' := 355) rfl (hb hby at_348) rfl ((if0 _ _).trans (flt hc348).2.2.2) (by decide) (by decide) k) ?_
          show own_Out p e below _ T78 (mkF m 355 #[.val (.int x0), .val (.int x1), .val (.int x2), .val (.int x3), .val (.int (2 : Int32)), .val (.int l1), .val (.int l2), .val (.int (1 : Int32)), .val (.int tt), .val (.int s1), .val (.int s2), .val (.ref ob57), .val (.ref ob63), .val (.int (1 : Int32)), .val (.int (1 : Int32)), .val (.ref ob75el)] [(.int (R5 ob77rd ((s1 + (1 : Int32)) + (1 : Int32)) (s1 + s2)))]) _ _ _
          refine own_to (fun t k => XS.iconst X78.here hx rfl (hb hby at_355) k) ?_
          show own_Out p e below _ T78 (mkF m 356 #[.val (.int x0), .val (.int x1), .val (.int x2), .val (.int x3), .val (.int (2 : Int32)), .val (.int l1), .val (.int l2), .val (.int (1 : Int32)), .val (.int tt), .val (.int s1), .val (.int s2), .val (.ref ob57), .val (.ref ob63), .val (.int (1 : Int32)), .val (.int (1 : Int32)), .val (.ref ob75el)] [(.int (0 : Int32)), (.int (R5 ob77rd ((s1 + (1 : Int32)) + (1 : Int32)) (s1 + s2)))]) _ _ _
          have hc356 : (R5 ob77rd ((s1 + (1 : Int32)) + (1 : Int32)) (s1 + s2)) = (0 : Int32) := own_hn0 _ _ _ (by rw [own_lt] at hc348 ⊢; omega)
          refine own_to (fun t k => XS.icmpNo X78.here hx rfl (hb hby at_356) rfl (teq hc356).2 k) ?_
          show own_Out p e below _ T78 (mkF m 359 #[.val (.int x0), .val (.int x1), .val (.int x2), .val (.int x3), .val (.int (2 : Int32)), .val (.int l1), .val (.int l2), .val (.int (1 : Int32)), .val (.int tt), .val (.int s1), .val (.int s2), .val (.ref ob57), .val (.ref ob63), .val (.int (1 : Int32)), .val (.int (1 : Int32)), .val (.ref ob75el)] []) _ _ _
          refine own_to (fun t k => XS.iconst X78.here hx rfl (hb hby at_359) k) ?_
          show own_Out p e below _ T78 (mkF m 360 #[.val (.int x0), .val (.int x1), .val (.int x2), .val (.int x3), .val (.int (2 : Int32)), .val (.int l1), .val (.int l2), .val (.int (1 : Int32)), .val (.int tt), .val (.int s1), .val (.int s2), .val (.ref ob57), .val (.ref ob63), .val (.int (1 : Int32)), .val (.int (1 : Int32)), .val (.ref ob75el)] [(.int (1 : Int32))]) _ _ _
          refine own_to (fun t k => XS.goto X78.here hx rfl (pc0 := 360) (pc' := 364) rfl (hb hby at_360) (by decide) (by decide) k) ?_
          show own_Out p e below _ T78 (mkF m 364 #[.val (.int x0), .val (.int x1), .val (.int x2), .val (.int x3), .val (.int (2 : Int32)), .val (.int l1), .val (.int l2), .val (.int (1 : Int32)), .val (.int tt), .val (.int s1), .val (.int s2), .val (.ref ob57), .val (.ref ob63), .val (.int (1 : Int32)), .val (.int (1 : Int32)), .val (.ref ob75el)] [(.int (1 : Int32))]) _ _ _
          refine own_to (fun t k => XS.istore X78.here hx rfl (hb hby at_364) rfl (l' := #[.val (.int x0), .val (.int x1), .val (.int x2), .val (.int x3), .val (.int (2 : Int32)), .val (.int l1), .val (.int l2), .val (.int (1 : Int32)), .val (.int tt), .val (.int s1), .val (.int s2), .val (.ref ob57), .val (.ref ob63), .val (.int (1 : Int32)), .val (.int (1 : Int32)), .val (.ref ob75el)]) rfl k) ?_
          show own_Out p e below _ T78 (mkF m 366 #[.val (.int x0), .val (.int x1), .val (.int x2), .val (.int x3), .val (.int (2 : Int32)), .val (.int l1), .val (.int l2), .val (.int (1 : Int32)), .val (.int tt), .val (.int s1), .val (.int s2), .val (.ref ob57), .val (.ref ob63), .val (.int (1 : Int32)), .val (.int (1 : Int32)), .val (.ref ob75el)] []) _ _ _
          refine own_to (fun t k => XS.iload X78.here hx rfl (hb hby at_366) rfl k) ?_
          show own_Out p e below _ T78 (mkF m 368 #[.val (.int x0), .val (.int x1), .val (.int x2), .val (.int x3), .val (.int (2 : Int32)), .val (.int l1), .val (.int l2), .val (.int (1 : Int32)), .val (.int tt), .val (.int s1), .val (.int s2), .val (.ref ob57), .val (.ref ob63), .val (.int (1 : Int32)), .val (.int (1 : Int32)), .val (.ref ob75el)] [(.int (1 : Int32))]) _ _ _
          refine own_retVW X78 hS hk e78 hx hlk (w := .int (1 : Int32)) hret rfl (Or.inl ⟨rfl, by simp, _, rfl⟩) (hb hby at_368) (by decide) (by decide) ?_
          rw [e78]
          exact ⟨rfl, N78⟩
set_option maxRecDepth 65536 in
set_option maxHeartbeats 40000000 in
theorem comes_1 {Post : Tables → Env → Array Value → State → Outcome → State → Prop} (hpost : ∀ tb e args s v u, (limb_1_1.after args s (.returned v) u = true ∧ limb_1_2.after args s (.returned v) u = true ∧ True) → ReturnedEndW s (.returned v) u (Jvm.fieldLocs frame_1_writes args s ++ Jvm.arrayLocs frame_1_arrays args s ++ Jvm.staticLocs frame_1_statics s) 24 2240 → Post tb e args s (.returned v) u) :
    ArmFor flags0 classFile x code maxLocals ret World_1 tables_1 room_1 Calls_1 rest_1 Pre_1 Post := by
  intro l hfl _ _ p e ha hc hk s m args below hf hA hF happ hP
  obtain ⟨hcalls, hrest, hpre⟩ := hP
  obtain ⟨-, -, -, hnamed, -, -, -, hat⟩ := (Spec.applies_iff hf).mp happ
  obtain ⟨hg, hn⟩ := and_e (Cond.before_iff.mp (show (Jvm.Cond.and given_1 narrow_1).before args s = true from hpre))
  obtain ⟨gg2, gg3⟩ := and_e hg
  obtain ⟨gg4, gg5⟩ := and_e gg3
  obtain ⟨gg6, gg7⟩ := and_e gg5
  obtain ⟨gg8, gg9⟩ := and_e gg7
  obtain ⟨w0, w1, w2, w3, rfl⟩ : ∃ w0 w1 w2 w3 : Value, args = #[w0, w1, w2, w3] := by
    have hs : args.size = 4 := by simpa [Cond.value, given_1] using gg2
    obtain ⟨L⟩ := args
    match L, hs with
    | [w0, w1, w2, w3], _ => exact ⟨w0, w1, w2, w3, rfl⟩
  have hw := fun d (hd : d ∈ tables_1) => atoms_spec (ws := Jvm.Cond.code x code maxLocals ret :: tables_1) hat d (List.mem_cons_of_mem _ hd)
  have hfit : Fit s := fun {y c} hc i hi => by
    obtain ⟨ha, rfl⟩ := Array.getElem?_eq_some_iff.mp hc
    have q := List.all_eq_true.mp ((Array.all_eq_true_iff_forall_mem.mp hF) _ (Array.getElem_mem ha)) i (List.mem_range.mpr hi)
    simpa [Array.getElem?_eq_getElem hi] using q
  obtain ⟨i0, ei0⟩ := is_v gg4
  obtain rfl : w0 = (.int i0) := Option.some.inj ei0
  obtain ⟨i1, ei1⟩ := is_v gg6
  obtain rfl : w1 = (.int i1) := Option.some.inj ei1
  obtain ⟨i2, ei2⟩ := is_v gg8
  obtain rfl : w2 = (.int i2) := Option.some.inj ei2
  obtain ⟨i3, ei3⟩ := is_v gg9
  obtain rfl : w3 = (.int i3) := Option.some.inj ei3
  obtain ⟨n, o, h1, h2, h3, _, L, rfl, ⟨rfl, N⟩, hq⟩ := rm0 l s _ hw i0 i1 i2 i3 s.heap s.heap.size (Nat.le_refl _) tables_1 p e ha hc hk s m _ below hf ((Spec.applies_iff_loose hf).mp happ).1 ⟨rfl, State.Warmed39.refl s, rfl⟩ trivial
  refine ⟨n, _, h1, h2, h3, hpost _ _ _ _ _ _ ⟨Cond.after_iff.mpr rfl, Cond.after_iff.mpr (eq_i res_at (Term.int_eval (1)) rfl), trivial⟩ ⟨hq.1, hq.2.1, hq.2.2.1, (hq.2.2.2.sift fun y hy => Or.inr (N y hy)).mono (by decide) (by decide)⟩⟩
theorem main_1_1 : Claimed_1_1 := comes_1 fun _ _ _ _ _ _ h hF => ⟨h.1, hF⟩
theorem main_1_2 : Claimed_1_2 := comes_1 fun _ _ _ _ _ _ h hF => ⟨h.2.1, hF⟩
end Jvm.Pilot.@@N@@
namespace Jvm.Pilot.@@N@@
open Jvm Jvm.ClassFile Sem Op Lib Jvm.Free Jvm.Stand Jvm.Pilot.@@N@@.Jvm.D
/-! MADE BY PROGRAM (witnessworld.py) out of the Statement's table words and the real class files: 16 classes; the members and pool entries that the words name. The judged class is class 1, her method 1. -/
namespace start1
open Jvm.ClassFile
def u (s : String) : CpInfo := .utf8 (stringToUtf16 s)
/-- a pool by its gaps: so many unusable entries, then the entry; so many at the end -/
def gap : Nat → List CpInfo → List CpInfo
  | 0, r => r
  | n + 1, r => .unusable :: gap n r
def poolList (es : List (Nat × CpInfo)) (last : Nat) : List CpInfo := es.foldr (fun e r => gap e.1 (e.2 :: r)) (gap last [])
def pool (es : List (Nat × CpInfo)) (last : Nat) : Array CpInfo := ⟨poolList es last⟩
def fileOf (pool : Array CpInfo) (this : Nat) (attrs : Array Attribute := #[]) (ms : Array MethodInfo := #[]) (fl : Nat := 33) (sup : Nat := 0) (ifs : Array Nat := #[]) (fds : Array FieldInfo := #[]) : ClassFile where
  minorVersion := 0
  majorVersion := 65
  constantPool := pool
  accessFlags := fl
  thisClass := this
  superClass := sup
  interfaces := ifs
  fields := fds
  methods := ms
  attributes := attrs
def plain (name : String) (sup : Option ClassId) : Class where
  name := name
  kind := .ordinary
  loader := none
  accessFlags := 33
  super := sup
  interfaces := #[]
  cf := none
  fields := #[]
  methods := #[]
  instanceTypes := #[]
  staticTypes := #[]
  resolved := #[]
  callSites := []
  init := .initialized
  statics := none
  mirror := none

def pool0 : Array CpInfo := pool [(5, u "<init>"), (0, u "()V"), (1, .class_ 10), (1, u "java/lang/Object")] 113

def k0c0 : Code := { maxStack := 0, maxLocals := 1, code := object_method_1_code, exceptionTable := #[], attributes := #[] }
def k0m0 : Method := { name := "<init>", desc := "()V", sig := { parameters := [], returnType := none }, accessFlags := 1, code := some k0c0 }
/-- java/lang/Object -/
def k0 : Class := { plain "java/lang/Object" none with
  accessFlags := 33
  interfaces := #[]
  cf := some (fileOf pool0 8 #[] #[{ accessFlags := 1, nameIndex := 5, descriptorIndex := 6, attributes := #[] }] 33 0 #[] #[])
  fields := #[]
  methods := #[k0m0]
  instanceTypes := #[]
  staticTypes := #[]
  resolved := Array.replicate 124 none
  statics := none }

def pool1 : Array CpInfo := pool [(2, .class_ 4), (1, u "java/lang/Object"), (0, u "<init>"), (0, u "()V"), (0, .methodref 8 9), (0, .class_ 10), (0, .nameAndType 11 12), (0, u "java/lang/Math"), (0, u "min"), (0, u "(II)I"), (0, .class_ 14), (0, u "com/example/pathwarden/pathwarden/util/DerReader"), (0, .methodref 13 16), (0, .nameAndType 5 17), (0, u "([B)V"), (0, .methodref 13 19), (0, .nameAndType 20 21), (0, u "hasNext"), (0, u "()Z"), (0, .methodref 13 23), (0, .nameAndType 24 25), (0, u "next"), (0, u "()Lcom/example/pathwarden/pathwarden/util/DerReader$Element;"), (0, .methodref 27 28), (0, .class_ 29), (0, .nameAndType 30 31), (0, u "com/example/pathwarden/pathwarden/util/DerReader$Element"), (0, u "elements"), (0, u "()Lcom/example/pathwarden/pathwarden/util/DerReader;"), (0, .class_ 33), (0, u "com/example/pathwarden/pathwarden/util/DerReaderHasNextPinLaw"), (2, u "law"), (0, u "(IIII)Z")] 10

def k1m0 : Method := { name := "<init>", desc := "()V", sig := { parameters := [], returnType := none }, accessFlags := 1, code := none }
def k1c1 : Code := { maxStack := 3, maxLocals := 16, code := code, exceptionTable := #[], attributes := #[] }
def k1m1 : Method := { name := "law", desc := "(IIII)Z", sig := { parameters := [.int, .int, .int, .int], returnType := some .boolean }, accessFlags := 9, code := some k1c1 }
/-- com/example/pathwarden/pathwarden/util/DerReaderHasNextPinLaw -/
def k1 : Class := { plain "com/example/pathwarden/pathwarden/util/DerReaderHasNextPinLaw" (some 0) with
  accessFlags := 49
  interfaces := #[]
  cf := some (fileOf pool1 32 #[] #[{ accessFlags := 1, nameIndex := 5, descriptorIndex := 6, attributes := #[] }, { accessFlags := 9, nameIndex := 36, descriptorIndex := 37, attributes := #[] }] 49 2 #[] #[])
  fields := #[]
  methods := #[k1m0, k1m1]
  instanceTypes := #[]
  staticTypes := #[]
  resolved := Array.replicate 48 none
  statics := none }

def pool2 : Array CpInfo := pool [(1, .class_ 2), (0, u "java/lang/Math"), (1, .class_ 6), (1, u "java/lang/Object"), (0, u "<init>"), (0, u "()V"), (89, .class_ 100), (1, u "java/lang/Math$RandomNumberGeneratorHolder"), (71, u "negativeZeroFloatBits"), (0, u "J"), (2, u "negativeZeroDoubleBits"), (24, u "min"), (43, u "$assertionsDisabled"), (0, u "Z"), (88, u "(II)I"), (2, u "twoToTheDoubleScaleDown"), (0, u "D"), (4, u "twoToTheDoubleScaleUp"), (9, u "E"), (3, u "PI"), (2, u "TAU"), (2, u "DEGREES_TO_RADIANS"), (0, u "RADIANS_TO_DEGREES")] 94

def k2m0 : Method := { name := "<init>", desc := "()V", sig := { parameters := [], returnType := none }, accessFlags := 2, code := none }
def k2c1 : Code := { maxStack := 2, maxLocals := 2, code := jdk_29_method_69_code, exceptionTable := #[], attributes := #[] }
def k2m1 : Method := { name := "min", desc := "(II)I", sig := { parameters := [.int, .int], returnType := some .int }, accessFlags := 9, code := some k2c1 }
/-- java/lang/Math -/
def k2 : Class := { plain "java/lang/Math" (some 0) with
  accessFlags := 49
  interfaces := #[]
  cf := some (fileOf pool2 1 #[.nestMembers #[98]] #[{ accessFlags := 2, nameIndex := 7, descriptorIndex := 8, attributes := #[] }, { accessFlags := 9, nameIndex := 201, descriptorIndex := 335, attributes := #[] }] 49 4 #[] #[{ accessFlags := 25, nameIndex := 354, descriptorIndex := 339, attributes := #[] }, { accessFlags := 25, nameIndex := 358, descriptorIndex := 339, attributes := #[] }, { accessFlags := 25, nameIndex := 361, descriptorIndex := 339, attributes := #[] }, { accessFlags := 26, nameIndex := 364, descriptorIndex := 339, attributes := #[] }, { accessFlags := 26, nameIndex := 365, descriptorIndex := 339, attributes := #[] }, { accessFlags := 26, nameIndex := 172, descriptorIndex := 173, attributes := #[] }, { accessFlags := 26, nameIndex := 176, descriptorIndex := 173, attributes := #[] }, { accessFlags := 8, nameIndex := 344, descriptorIndex := 339, attributes := #[] }, { accessFlags := 8, nameIndex := 338, descriptorIndex := 339, attributes := #[] }, { accessFlags := 4120, nameIndex := 245, descriptorIndex := 246, attributes := #[] }])
  fields := #[{ name := "E", type := .double, accessFlags := 25, slot := 0, constantValue := 0 }, { name := "PI", type := .double, accessFlags := 25, slot := 1, constantValue := 0 }, { name := "TAU", type := .double, accessFlags := 25, slot := 2, constantValue := 0 }, { name := "DEGREES_TO_RADIANS", type := .double, accessFlags := 26, slot := 3, constantValue := 0 }, { name := "RADIANS_TO_DEGREES", type := .double, accessFlags := 26, slot := 4, constantValue := 0 }, { name := "negativeZeroFloatBits", type := .long, accessFlags := 26, slot := 5, constantValue := 0 }, { name := "negativeZeroDoubleBits", type := .long, accessFlags := 26, slot := 6, constantValue := 0 }, { name := "twoToTheDoubleScaleUp", type := .double, accessFlags := 8, slot := 7, constantValue := 0 }, { name := "twoToTheDoubleScaleDown", type := .double, accessFlags := 8, slot := 8, constantValue := 0 }, { name := "$assertionsDisabled", type := .boolean, accessFlags := 4120, slot := 9, constantValue := 0 }]
  methods := #[k2m0, k2m1]
  instanceTypes := #[]
  staticTypes := #[.double, .double, .double, .double, .double, .long, .long, .double, .double, .boolean]
  resolved := Array.replicate 460 none
  statics := none }

def pool3 : Array CpInfo := pool [(1, .methodref 2 3), (0, .class_ 4), (0, .nameAndType 5 6), (0, u "com/example/pathwarden/pathwarden/util/DerReader"), (0, u "<init>"), (0, u "([BII)V"), (0, .methodref 8 9), (0, .class_ 10), (0, .nameAndType 5 11), (0, u "java/lang/Object"), (0, u "()V"), (0, .fieldref 2 13), (0, .nameAndType 14 15), (0, u "bytes"), (0, u "[B"), (0, .fieldref 2 17), (0, .nameAndType 18 19), (0, u "position"), (0, u "I"), (0, .fieldref 2 21), (0, .nameAndType 22 19), (0, u "end"), (0, .methodref 2 24), (0, .nameAndType 25 26), (0, u "hasNext"), (0, u "()Z"), (0, .string 28), (0, u "a tag"), (0, .methodref 2 30), (0, .nameAndType 31 32), (0, u "octet"), (0, u "(Ljava/lang/String;)I"), (7, .string 41), (0, u "a length"), (0, .long 128), (15, .class_ 59), (0, u "com/example/pathwarden/pathwarden/util/DerReader$Element"), (0, .methodref 58 61), (0, .nameAndType 5 62), (0, u "([BIIII)V"), (2, u "next"), (0, u "()Lcom/example/pathwarden/pathwarden/util/DerReader$Element;"), (31, u "FIRST_ARC_FACTOR"), (0, u "Ljava/math/BigInteger;"), (0, u "MAX_OBJECT_IDENTIFIER_LENGTH"), (2, u "INTEGER"), (1, u "OCTET_STRING"), (1, u "OBJECT_IDENTIFIER"), (1, u "SEQUENCE"), (1, u "SET"), (1, u "HIGH_TAG_NUMBER"), (1, u "LONG_FORM"), (1, u "MORE_OCTETS"), (0, u "FIRST_BIT"), (0, u "([B)V")] 32

def k3c0 : Code := { maxStack := 4, maxLocals := 2, code := prog_57_method_1_code, exceptionTable := #[], attributes := #[] }
def k3m0 : Method := { name := "<init>", desc := "([B)V", sig := { parameters := [(.array .byte)], returnType := none }, accessFlags := 1, code := some k3c0 }
def k3c1 : Code := { maxStack := 2, maxLocals := 4, code := prog_57_method_2_code, exceptionTable := #[], attributes := #[] }
def k3m1 : Method := { name := "<init>", desc := "([BII)V", sig := { parameters := [(.array .byte), .int, .int], returnType := none }, accessFlags := 2, code := some k3c1 }
def k3c2 : Code := { maxStack := 2, maxLocals := 1, code := prog_57_method_3_code, exceptionTable := #[], attributes := #[] }
def k3m2 : Method := { name := "hasNext", desc := "()Z", sig := { parameters := [], returnType := some .boolean }, accessFlags := 1, code := some k3c2 }
def k3c3 : Code := { maxStack := 7, maxLocals := 7, code := prog_57_method_5_code, exceptionTable := #[], attributes := #[] }
def k3m3 : Method := { name := "next", desc := "()Lcom/example/pathwarden/pathwarden/util/DerReader$Element;", sig := { parameters := [], returnType := some (.object "com/example/pathwarden/pathwarden/util/DerReader$Element") }, accessFlags := 1, code := some k3c3 }
def k3c4 : Code := { maxStack := 5, maxLocals := 2, code := prog_57_method_8_code, exceptionTable := #[], attributes := #[] }
def k3m4 : Method := { name := "octet", desc := "(Ljava/lang/String;)I", sig := { parameters := [(.object "java/lang/String")], returnType := some .int }, accessFlags := 2, code := some k3c4 }
/-- com/example/pathwarden/pathwarden/util/DerReader -/
def k3 : Class := { plain "com/example/pathwarden/pathwarden/util/DerReader" (some 0) with
  accessFlags := 49
  interfaces := #[]
  cf := some (fileOf pool3 2 #[.nestMembers #[58]] #[{ accessFlags := 1, nameIndex := 5, descriptorIndex := 119, attributes := #[] }, { accessFlags := 2, nameIndex := 5, descriptorIndex := 6, attributes := #[] }, { accessFlags := 1, nameIndex := 25, descriptorIndex := 26, attributes := #[] }, { accessFlags := 1, nameIndex := 65, descriptorIndex := 66, attributes := #[] }, { accessFlags := 2, nameIndex := 31, descriptorIndex := 32, attributes := #[] }] 49 8 #[] #[{ accessFlags := 25, nameIndex := 100, descriptorIndex := 19, attributes := #[] }, { accessFlags := 25, nameIndex := 103, descriptorIndex := 19, attributes := #[] }, { accessFlags := 25, nameIndex := 105, descriptorIndex := 19, attributes := #[] }, { accessFlags := 25, nameIndex := 107, descriptorIndex := 19, attributes := #[] }, { accessFlags := 25, nameIndex := 109, descriptorIndex := 19, attributes := #[] }, { accessFlags := 25, nameIndex := 111, descriptorIndex := 19, attributes := #[] }, { accessFlags := 26, nameIndex := 113, descriptorIndex := 19, attributes := #[] }, { accessFlags := 26, nameIndex := 115, descriptorIndex := 19, attributes := #[] }, { accessFlags := 26, nameIndex := 117, descriptorIndex := 19, attributes := #[] }, { accessFlags := 26, nameIndex := 118, descriptorIndex := 19, attributes := #[] }, { accessFlags := 26, nameIndex := 98, descriptorIndex := 99, attributes := #[] }, { accessFlags := 18, nameIndex := 14, descriptorIndex := 15, attributes := #[] }, { accessFlags := 18, nameIndex := 22, descriptorIndex := 19, attributes := #[] }, { accessFlags := 2, nameIndex := 18, descriptorIndex := 19, attributes := #[] }])
  fields := #[{ name := "MAX_OBJECT_IDENTIFIER_LENGTH", type := .int, accessFlags := 25, slot := 0, constantValue := 0 }, { name := "INTEGER", type := .int, accessFlags := 25, slot := 1, constantValue := 0 }, { name := "OCTET_STRING", type := .int, accessFlags := 25, slot := 2, constantValue := 0 }, { name := "OBJECT_IDENTIFIER", type := .int, accessFlags := 25, slot := 3, constantValue := 0 }, { name := "SEQUENCE", type := .int, accessFlags := 25, slot := 4, constantValue := 0 }, { name := "SET", type := .int, accessFlags := 25, slot := 5, constantValue := 0 }, { name := "HIGH_TAG_NUMBER", type := .int, accessFlags := 26, slot := 6, constantValue := 0 }, { name := "LONG_FORM", type := .int, accessFlags := 26, slot := 7, constantValue := 0 }, { name := "MORE_OCTETS", type := .int, accessFlags := 26, slot := 8, constantValue := 0 }, { name := "FIRST_BIT", type := .int, accessFlags := 26, slot := 9, constantValue := 0 }, { name := "FIRST_ARC_FACTOR", type := (.object "java/math/BigInteger"), accessFlags := 26, slot := 10, constantValue := 0 }, { name := "bytes", type := (.array .byte), accessFlags := 18, slot := 0, constantValue := 0 }, { name := "end", type := .int, accessFlags := 18, slot := 1, constantValue := 0 }, { name := "position", type := .int, accessFlags := 2, slot := 2, constantValue := 0 }]
  methods := #[k3m0, k3m1, k3m2, k3m3, k3m4]
  instanceTypes := #[(.array .byte), .int, .int]
  staticTypes := #[.int, .int, .int, .int, .int, .int, .int, .int, .int, .int, (.object "java/math/BigInteger")]
  resolved := ((Array.replicate 152 none).setIfInBounds 58 (some (.cls 10))).setIfInBounds 60 (some (.method ⟨10, 0⟩))
  statics := none }

def pool4 : Array CpInfo := pool [(1, .class_ 2), (0, u "java/io/Serializable"), (0, .class_ 4), (0, u "java/lang/Object")] 2

/-- java/io/Serializable -/
def k4 : Class := { plain "java/io/Serializable" (some 0) with
  accessFlags := 1537
  interfaces := #[]
  cf := some (fileOf pool4 1 #[] #[] 1537 3 #[] #[])
  fields := #[]
  methods := #[]
  instanceTypes := #[]
  staticTypes := #[]
  resolved := Array.replicate 7 none
  statics := none }

def pool5 : Array CpInfo := pool [(1, .class_ 2), (0, u "java/lang/Comparable"), (0, .class_ 4), (0, u "java/lang/Object")] 7

/-- java/lang/Comparable -/
def k5 : Class := { plain "java/lang/Comparable" (some 0) with
  accessFlags := 1537
  interfaces := #[]
  cf := some (fileOf pool5 1 #[] #[] 1537 3 #[] #[])
  fields := #[]
  methods := #[]
  instanceTypes := #[]
  staticTypes := #[]
  resolved := Array.replicate 12 none
  statics := none }

def pool6 : Array CpInfo := pool [(2, .class_ 4), (1, u "java/lang/CharSequence"), (42, .class_ 48), (0, u "java/lang/CharSequence$1CodePointIterator"), (10, .class_ 60), (0, u "java/lang/CharSequence$1CharIterator"), (5, .class_ 67), (0, u "java/lang/Object")] 63

/-- java/lang/CharSequence -/
def k6 : Class := { plain "java/lang/CharSequence" (some 0) with
  accessFlags := 1537
  interfaces := #[]
  cf := some (fileOf pool6 2 #[.nestMembers #[47, 59]] #[] 1537 66 #[] #[])
  fields := #[]
  methods := #[]
  instanceTypes := #[]
  staticTypes := #[]
  resolved := Array.replicate 131 none
  statics := none }

def pool7 : Array CpInfo := pool [(1, .class_ 2), (0, u "java/lang/constant/Constable"), (0, .class_ 4), (0, u "java/lang/Object")] 6

/-- java/lang/constant/Constable -/
def k7 : Class := { plain "java/lang/constant/Constable" (some 0) with
  accessFlags := 1537
  interfaces := #[]
  cf := some (fileOf pool7 1 #[] #[] 1537 3 #[] #[])
  fields := #[]
  methods := #[]
  instanceTypes := #[]
  staticTypes := #[]
  resolved := Array.replicate 11 none
  statics := none }

def pool8 : Array CpInfo := pool [(1, .class_ 2), (0, u "java/lang/constant/ConstantDesc"), (0, .class_ 4), (0, u "java/lang/Object")] 32

/-- java/lang/constant/ConstantDesc -/
def k8 : Class := { plain "java/lang/constant/ConstantDesc" (some 0) with
  accessFlags := 1537
  interfaces := #[]
  cf := some (fileOf pool8 1 #[] #[] 1537 3 #[] #[])
  fields := #[]
  methods := #[]
  instanceTypes := #[]
  staticTypes := #[]
  resolved := Array.replicate 37 none
  statics := none }

def pool9 : Array CpInfo := pool [(2, .class_ 4), (1, u "java/lang/Object"), (0, u "<init>"), (0, u "()V"), (3, .class_ 12), (1, u "java/lang/String"), (0, u "value"), (0, u "[B"), (2, u "coder"), (0, u "B"), (2, u "hash"), (0, u "I"), (2, u "hashIsZero"), (0, u "Z"), (13, u "COMPACT_STRINGS"), (534, .class_ 576), (0, u "java/lang/CharSequence"), (22, u "CASE_INSENSITIVE_ORDER"), (0, u "Ljava/util/Comparator;"), (500, u "serialPersistentFields"), (0, u "[Ljava/io/ObjectStreamField;"), (0, .class_ 1104), (0, u "java/lang/String$CaseInsensitiveComparator"), (1, .class_ 1107), (0, u "java/io/Serializable"), (0, .class_ 1109), (0, u "java/lang/Comparable"), (0, .class_ 1111), (0, u "java/lang/constant/Constable"), (0, .class_ 1113), (0, u "java/lang/constant/ConstantDesc"), (2, u "serialVersionUID"), (0, u "J"), (3, u "REPL"), (0, u "C"), (2, u "LATIN1"), (1, u "UTF16")] 323

def k9m0 : Method := { name := "<init>", desc := "()V", sig := { parameters := [], returnType := none }, accessFlags := 1, code := none }
/-- java/lang/String -/
def k9 : Class := { plain "java/lang/String" (some 0) with
  accessFlags := 49
  interfaces := #[4, 5, 6, 7, 8]
  cf := some (fileOf pool9 10 #[.nestMembers #[1103]] #[{ accessFlags := 1, nameIndex := 5, descriptorIndex := 6, attributes := #[] }] 49 2 #[1106, 1108, 575, 1110, 1112] #[{ accessFlags := 18, nameIndex := 13, descriptorIndex := 14, attributes := #[] }, { accessFlags := 18, nameIndex := 17, descriptorIndex := 18, attributes := #[] }, { accessFlags := 2, nameIndex := 21, descriptorIndex := 22, attributes := #[] }, { accessFlags := 2, nameIndex := 25, descriptorIndex := 26, attributes := #[] }, { accessFlags := 26, nameIndex := 1116, descriptorIndex := 1117, attributes := #[] }, { accessFlags := 24, nameIndex := 40, descriptorIndex := 26, attributes := #[] }, { accessFlags := 26, nameIndex := 1101, descriptorIndex := 1102, attributes := #[] }, { accessFlags := 26, nameIndex := 1121, descriptorIndex := 1122, attributes := #[] }, { accessFlags := 25, nameIndex := 599, descriptorIndex := 600, attributes := #[] }, { accessFlags := 24, nameIndex := 1125, descriptorIndex := 18, attributes := #[] }, { accessFlags := 24, nameIndex := 1127, descriptorIndex := 18, attributes := #[] }])
  fields := #[{ name := "value", type := (.array .byte), accessFlags := 18, slot := 0, constantValue := 0 }, { name := "coder", type := .byte, accessFlags := 18, slot := 1, constantValue := 0 }, { name := "hash", type := .int, accessFlags := 2, slot := 2, constantValue := 0 }, { name := "hashIsZero", type := .boolean, accessFlags := 2, slot := 3, constantValue := 0 }, { name := "serialVersionUID", type := .long, accessFlags := 26, slot := 0, constantValue := 0 }, { name := "COMPACT_STRINGS", type := .boolean, accessFlags := 24, slot := 1, constantValue := 0 }, { name := "serialPersistentFields", type := (.array (.object "java/io/ObjectStreamField")), accessFlags := 26, slot := 2, constantValue := 0 }, { name := "REPL", type := .char, accessFlags := 26, slot := 3, constantValue := 0 }, { name := "CASE_INSENSITIVE_ORDER", type := (.object "java/util/Comparator"), accessFlags := 25, slot := 4, constantValue := 0 }, { name := "LATIN1", type := .byte, accessFlags := 24, slot := 5, constantValue := 0 }, { name := "UTF16", type := .byte, accessFlags := 24, slot := 6, constantValue := 0 }]
  methods := #[k9m0]
  instanceTypes := #[(.array .byte), .byte, .int, .boolean]
  staticTypes := #[.long, .boolean, (.array (.object "java/io/ObjectStreamField")), .char, (.object "java/util/Comparator"), .byte, .byte]
  resolved := Array.replicate 1451 none
  statics := none }

def pool10 : Array CpInfo := pool [(1, .class_ 2), (0, u "com/example/pathwarden/pathwarden/util/DerReader"), (0, .methodref 4 5), (0, .class_ 6), (0, .nameAndType 7 8), (0, u "java/lang/Object"), (0, u "<init>"), (0, u "()V"), (0, .fieldref 10 11), (0, .class_ 12), (0, .nameAndType 13 14), (0, u "com/example/pathwarden/pathwarden/util/DerReader$Element"), (0, u "bytes"), (0, u "[B"), (0, .fieldref 10 16), (0, .nameAndType 17 18), (0, u "tag"), (0, u "I"), (0, .fieldref 10 20), (0, .nameAndType 21 18), (0, u "start"), (0, .fieldref 10 23), (0, .nameAndType 24 18), (0, u "contents"), (0, .fieldref 10 26), (0, .nameAndType 27 18), (0, u "end"), (6, .methodref 1 35), (0, .nameAndType 7 36), (0, u "([BII)V"), (86, u "([BIIII)V"), (4, u "elements"), (0, u "()Lcom/example/pathwarden/pathwarden/util/DerReader;")] 30

def k10c0 : Code := { maxStack := 2, maxLocals := 6, code := prog_58_method_1_code, exceptionTable := #[], attributes := #[] }
def k10m0 : Method := { name := "<init>", desc := "([BIIII)V", sig := { parameters := [(.array .byte), .int, .int, .int, .int], returnType := none }, accessFlags := 2, code := some k10c0 }
def k10c1 : Code := { maxStack := 5, maxLocals := 1, code := prog_58_method_5_code, exceptionTable := #[], attributes := #[] }
def k10m1 : Method := { name := "elements", desc := "()Lcom/example/pathwarden/pathwarden/util/DerReader;", sig := { parameters := [], returnType := some (.object "com/example/pathwarden/pathwarden/util/DerReader") }, accessFlags := 1, code := some k10c1 }
/-- com/example/pathwarden/pathwarden/util/DerReader$Element -/
def k10 : Class := { plain "com/example/pathwarden/pathwarden/util/DerReader$Element" (some 0) with
  accessFlags := 49
  interfaces := #[]
  cf := some (fileOf pool10 10 #[.nestHost 1] #[{ accessFlags := 2, nameIndex := 7, descriptorIndex := 123, attributes := #[] }, { accessFlags := 1, nameIndex := 128, descriptorIndex := 129, attributes := #[] }] 49 4 #[] #[{ accessFlags := 18, nameIndex := 13, descriptorIndex := 14, attributes := #[] }, { accessFlags := 18, nameIndex := 17, descriptorIndex := 18, attributes := #[] }, { accessFlags := 18, nameIndex := 21, descriptorIndex := 18, attributes := #[] }, { accessFlags := 18, nameIndex := 24, descriptorIndex := 18, attributes := #[] }, { accessFlags := 18, nameIndex := 27, descriptorIndex := 18, attributes := #[] }])
  fields := #[{ name := "bytes", type := (.array .byte), accessFlags := 18, slot := 0, constantValue := 0 }, { name := "tag", type := .int, accessFlags := 18, slot := 1, constantValue := 0 }, { name := "start", type := .int, accessFlags := 18, slot := 2, constantValue := 0 }, { name := "contents", type := .int, accessFlags := 18, slot := 3, constantValue := 0 }, { name := "end", type := .int, accessFlags := 18, slot := 4, constantValue := 0 }]
  methods := #[k10m0, k10m1]
  instanceTypes := #[(.array .byte), .int, .int, .int, .int]
  staticTypes := #[]
  resolved := Array.replicate 160 none
  statics := none }

def pool11 : Array CpInfo := pool [(1, u "java/lang/Cloneable"), (0, .class_ 1), (0, u "java/lang/Object"), (0, .class_ 3)] 3

/-- java/lang/Cloneable -/
def k11 : Class := { plain "java/lang/Cloneable" (some 0) with
  accessFlags := 1537
  interfaces := #[]
  cf := some (fileOf pool11 2 #[] #[] 1537 4 #[] #[])
  fields := #[]
  methods := #[]
  instanceTypes := #[]
  staticTypes := #[]
  resolved := Array.replicate 8 none
  statics := none }

/-- the primitive byte -/
def k12 : Class := { plain "byte" none with kind := .primitive 'B', accessFlags := 0x411 }
/-- [B -/
def k13 : Class := { plain "[B" (some 0) with kind := .array 12 .byte, interfaces := #[11, 4], accessFlags := 1041 }

/-- the primitive int -/
def k14 : Class := { plain "int" none with kind := .primitive 'I', accessFlags := 0x411 }
/-- [I -/
def k15 : Class := { plain "[I" (some 0) with kind := .array 14 .int, interfaces := #[11, 4], accessFlags := 1041 }

def heap : Heap := #[]
def classes : Array Class := #[k0, k1, k2, k3, k4, k5, k6, k7, k8, k9, k10, k11, k12, k13, k14, k15]
def interned : List (Array UInt16 × Addr) := []
def slotsUsed : Nat := 0
def theMethod : MethodId := ⟨1, 1⟩
def args0 : Array Value := #[.int 5, .int 65, .int 1, .int 0]
def aboutOver (below : List Frame) : State where
  vm := { classes := classes, interned := interned.toArray }
  heap := heap
  slotsUsed := slotsUsed
  threads := #[{ frames := .invoking theMethod args0 :: below }]
def below0 : List Frame := [.native { method := ⟨0, 0⟩, args := #[] }]
def about1 : State := aboutOver below0
def p0 : Program := .bare "" "" ""
def e0 : Env := launch0.env 0 0 0
theorem w_frames : about1.frames = Frame.invoking theMethod args0 :: below0 := rfl
set_option maxRecDepth 65536 in
theorem w_args : argsFit about1.vm theMethod args0 = true := by decide +kernel
set_option maxRecDepth 65536 in
theorem w_heap : heapFits about1 = true := by decide +kernel
set_option maxRecDepth 65536 in
theorem w_runnable : about1.curStatus? = some .runnable := by decide +kernel
set_option maxRecDepth 65536 in
theorem w_alone : about1.alone = true := by decide +kernel
set_option maxRecDepth 65536 in
theorem w_named : about1.methodNamed? x = some theMethod := by decide +kernel
set_option maxRecDepth 65536 in
theorem w_hears : about1.hears theMethod below0 = true := by decide +kernel
set_option maxRecDepth 65536 in
theorem w_ripe : about1.ripe theMethod args0 below0 = true := by decide +kernel
theorem w_running : about1.status = .running := rfl
set_option maxRecDepth 65536 in
theorem w_room : about1.hasRoom e0.platform room_1 = true :=
  launch0.hasRoom_least _ room_1 (by decide +kernel) (by decide +kernel) (by decide +kernel) (by decide +kernel) (by decide +kernel) (by decide +kernel)
theorem allAtoms_all (ts : List Jvm.Cond) (a : Array Jvm.Value) (st : Jvm.State) : (allAtoms ts).before a st = ts.all (fun c => c.before a st) := by
  induction ts with
  | nil => rfl
  | cons c t ih =>
    show (Jvm.Cond.and c (allAtoms t)).before a st = _
    rw [Jvm.Cond.before_and, ih, List.all_cons]
def words1 : List Jvm.Cond := Jvm.Cond.code x code maxLocals ret :: tables_1
/-- a 'code' word, met by the world's own term for the bytes: nothing is compared byte by byte -/
theorem code_word {y : MethodName} {bytes : ByteArray} {mx : Nat} {rt : Option FieldType} {a : Array Value} {s : State} {m : MethodId} {meth : Method} {c : Code} (h1 : s.methodNamed? y = some m) (h2 : s.vm.method? m = some meth) (h3 : meth.code = some c) (h4 : c.code = bytes)
    (h5 : (c.maxLocals == mx && c.exceptionTable.isEmpty && decide (c.maxStack ≤ mostOperands) && decide (meth.sig.returnType = rt) && !meth.locks && decide (parseMethodDescriptor y.desc = some meth.sig)) = true) : (Jvm.Cond.code y bytes mx rt).before a s = true := by
  simp only [Bool.and_eq_true, beq_iff_eq, Bool.not_eq_true', decide_eq_true_eq] at h5
  obtain ⟨⟨⟨⟨⟨g1, g2⟩, g3⟩, g4⟩, g5⟩, g6⟩ := h5
  simp [Cond.before, Cond.holds, Cond.value, h1, h2, h3, h4, g1, g2, g3, g4, g5, g6]
def isCode : Jvm.Cond → Bool
  | .code _ _ _ _ => true
  | _ => false
theorem all_split {L : List Jvm.Cond} {P : Jvm.Cond → Bool} (h1 : L.all (fun c => isCode c || P c) = true) (h2 : ∀ c ∈ L.filter isCode, P c = true) : L.all P = true := by
  refine List.all_eq_true.mpr fun c hc => ?_
  have h := List.all_eq_true.mp h1 c hc
  rcases Bool.eq_false_or_eq_true (isCode c) with hi | hi
  · exact h2 c (List.mem_filter.mpr ⟨hc, hi⟩)
  · simpa [hi] using h
set_option maxRecDepth 65536 in
theorem w_c0 : (Jvm.Cond.code x code maxLocals ret).before args0 about1 = true := code_word (m := ⟨1, 1⟩) (meth := k1m1) (c := k1c1) (by decide +kernel) rfl rfl rfl (by decide +kernel)
set_option maxRecDepth 65536 in
theorem w_c1 : (Jvm.Cond.code ({ cls := "java/lang/Math", name := "min", desc := "(II)I" } : Jvm.MethodName) jdk_29_method_69_code (2 : Nat) (Option.some Jvm.ClassFile.FieldType.int)).before args0 about1 = true := code_word (m := ⟨2, 1⟩) (meth := k2m1) (c := k2c1) (by decide +kernel) rfl rfl rfl (by decide +kernel)
set_option maxRecDepth 65536 in
theorem w_c2 : (Jvm.Cond.code ({ cls := "com/example/pathwarden/pathwarden/util/DerReader", name := "<init>", desc := "([B)V" } : Jvm.MethodName) prog_57_method_1_code (2 : Nat) (Option.none : Option Jvm.ClassFile.FieldType)).before args0 about1 = true := code_word (m := ⟨3, 0⟩) (meth := k3m0) (c := k3c0) (by decide +kernel) rfl rfl rfl (by decide +kernel)
set_option maxRecDepth 65536 in
theorem w_c3 : (Jvm.Cond.code ({ cls := "com/example/pathwarden/pathwarden/util/DerReader", name := "<init>", desc := "([BII)V" } : Jvm.MethodName) prog_57_method_2_code (4 : Nat) (Option.none : Option Jvm.ClassFile.FieldType)).before args0 about1 = true := code_word (m := ⟨3, 1⟩) (meth := k3m1) (c := k3c1) (by decide +kernel) rfl rfl rfl (by decide +kernel)
set_option maxRecDepth 65536 in
theorem w_c4 : (Jvm.Cond.code ({ cls := "java/lang/Object", name := "<init>", desc := "()V" } : Jvm.MethodName) object_method_1_code (1 : Nat) (Option.none : Option Jvm.ClassFile.FieldType)).before args0 about1 = true := code_word (m := ⟨0, 0⟩) (meth := k0m0) (c := k0c0) (by decide +kernel) rfl rfl rfl (by decide +kernel)
set_option maxRecDepth 65536 in
theorem w_c5 : (Jvm.Cond.code ({ cls := "com/example/pathwarden/pathwarden/util/DerReader", name := "hasNext", desc := "()Z" } : Jvm.MethodName) prog_57_method_3_code (1 : Nat) (Option.some Jvm.ClassFile.FieldType.boolean)).before args0 about1 = true := code_word (m := ⟨3, 2⟩) (meth := k3m2) (c := k3c2) (by decide +kernel) rfl rfl rfl (by decide +kernel)
set_option maxRecDepth 65536 in
theorem w_c6 : (Jvm.Cond.code ({ cls := "com/example/pathwarden/pathwarden/util/DerReader", name := "next", desc := "()Lcom/example/pathwarden/pathwarden/util/DerReader$Element;" } : Jvm.MethodName) prog_57_method_5_code (7 : Nat) (Option.some (Jvm.ClassFile.FieldType.object "com/example/pathwarden/pathwarden/util/DerReader$Element"))).before args0 about1 = true := code_word (m := ⟨3, 3⟩) (meth := k3m3) (c := k3c3) (by decide +kernel) rfl rfl rfl (by decide +kernel)
set_option maxRecDepth 65536 in
theorem w_c7 : (Jvm.Cond.code ({ cls := "com/example/pathwarden/pathwarden/util/DerReader", name := "octet", desc := "(Ljava/lang/String;)I" } : Jvm.MethodName) prog_57_method_8_code (2 : Nat) (Option.some Jvm.ClassFile.FieldType.int)).before args0 about1 = true := code_word (m := ⟨3, 4⟩) (meth := k3m4) (c := k3c4) (by decide +kernel) rfl rfl rfl (by decide +kernel)
set_option maxRecDepth 65536 in
theorem w_c8 : (Jvm.Cond.code ({ cls := "com/example/pathwarden/pathwarden/util/DerReader$Element", name := "<init>", desc := "([BIIII)V" } : Jvm.MethodName) prog_58_method_1_code (6 : Nat) (Option.none : Option Jvm.ClassFile.FieldType)).before args0 about1 = true := code_word (m := ⟨10, 0⟩) (meth := k10m0) (c := k10c0) (by decide +kernel) rfl rfl rfl (by decide +kernel)
set_option maxRecDepth 65536 in
theorem w_c9 : (Jvm.Cond.code ({ cls := "com/example/pathwarden/pathwarden/util/DerReader$Element", name := "elements", desc := "()Lcom/example/pathwarden/pathwarden/util/DerReader;" } : Jvm.MethodName) prog_58_method_5_code (1 : Nat) (Option.some (Jvm.ClassFile.FieldType.object "com/example/pathwarden/pathwarden/util/DerReader"))).before args0 about1 = true := code_word (m := ⟨10, 1⟩) (meth := k10m1) (c := k10c1) (by decide +kernel) rfl rfl rfl (by decide +kernel)
def codes1 : List Jvm.Cond := [Jvm.Cond.code x code maxLocals ret, Jvm.Cond.code ({ cls := "java/lang/Math", name := "min", desc := "(II)I" } : Jvm.MethodName) jdk_29_method_69_code (2 : Nat) (Option.some Jvm.ClassFile.FieldType.int), Jvm.Cond.code ({ cls := "com/example/pathwarden/pathwarden/util/DerReader", name := "<init>", desc := "([B)V" } : Jvm.MethodName) prog_57_method_1_code (2 : Nat) (Option.none : Option Jvm.ClassFile.FieldType), Jvm.Cond.code ({ cls := "com/example/pathwarden/pathwarden/util/DerReader", name := "<init>", desc := "([BII)V" } : Jvm.MethodName) prog_57_method_2_code (4 : Nat) (Option.none : Option Jvm.ClassFile.FieldType), Jvm.Cond.code ({ cls := "java/lang/Object", name := "<init>", desc := "()V" } : Jvm.MethodName) object_method_1_code (1 : Nat) (Option.none : Option Jvm.ClassFile.FieldType), Jvm.Cond.code ({ cls := "com/example/pathwarden/pathwarden/util/DerReader", name := "hasNext", desc := "()Z" } : Jvm.MethodName) prog_57_method_3_code (1 : Nat) (Option.some Jvm.ClassFile.FieldType.boolean), Jvm.Cond.code ({ cls := "com/example/pathwarden/pathwarden/util/DerReader", name := "next", desc := "()Lcom/example/pathwarden/pathwarden/util/DerReader$Element;" } : Jvm.MethodName) prog_57_method_5_code (7 : Nat) (Option.some (Jvm.ClassFile.FieldType.object "com/example/pathwarden/pathwarden/util/DerReader$Element")), Jvm.Cond.code ({ cls := "com/example/pathwarden/pathwarden/util/DerReader", name := "octet", desc := "(Ljava/lang/String;)I" } : Jvm.MethodName) prog_57_method_8_code (2 : Nat) (Option.some Jvm.ClassFile.FieldType.int), Jvm.Cond.code ({ cls := "com/example/pathwarden/pathwarden/util/DerReader$Element", name := "<init>", desc := "([BIIII)V" } : Jvm.MethodName) prog_58_method_1_code (6 : Nat) (Option.none : Option Jvm.ClassFile.FieldType), Jvm.Cond.code ({ cls := "com/example/pathwarden/pathwarden/util/DerReader$Element", name := "elements", desc := "()Lcom/example/pathwarden/pathwarden/util/DerReader;" } : Jvm.MethodName) prog_58_method_5_code (1 : Nat) (Option.some (Jvm.ClassFile.FieldType.object "com/example/pathwarden/pathwarden/util/DerReader"))]
set_option maxRecDepth 65536 in
theorem codes_eq : words1.filter isCode = codes1 := rfl
theorem w_codes : ∀ c ∈ words1.filter isCode, c.before args0 about1 = true := by
  rw [codes_eq]
  intro c hc
  simp only [codes1, List.mem_cons, List.not_mem_nil, or_false] at hc
  rcases hc with rfl | rfl | rfl | rfl | rfl | rfl | rfl | rfl | rfl | rfl
  · exact w_c0
  · exact w_c1
  · exact w_c2
  · exact w_c3
  · exact w_c4
  · exact w_c5
  · exact w_c6
  · exact w_c7
  · exact w_c8
  · exact w_c9
set_option maxRecDepth 65536 in
theorem w_t1 : (words1.take 24).all (fun c => isCode c || c.before args0 about1) = true := by decide +kernel
set_option maxRecDepth 65536 in
theorem w_t2 : ((words1.drop 24).take 24).all (fun c => isCode c || c.before args0 about1) = true := by decide +kernel
set_option maxRecDepth 65536 in
theorem w_t3 : ((words1.drop 24).drop 24).all (fun c => isCode c || c.before args0 about1) = true := by decide +kernel
theorem w_tables : (allAtoms (Jvm.Cond.code x code maxLocals ret :: tables_1)).before args0 about1 = true := by
  rw [allAtoms_all]
  show words1.all (fun c => c.before args0 about1) = true
  refine all_split ?_ w_codes
  rw [← List.take_append_drop 24 words1, List.all_append, w_t1, ← List.take_append_drop 24 (words1.drop 24), List.all_append, w_t2, w_t3]
  rfl
set_option maxRecDepth 65536 in
theorem w_case : (Jvm.Cond.and given_1 narrow_1).before args0 about1 = true := by decide +kernel
theorem w_applies : (headSpec (Jvm.Cond.code x code maxLocals ret :: tables_1) room_1).applies x e0.platform about1 = true :=
  (Spec.applies_iff w_frames).mpr ⟨w_running, w_runnable, w_alone, w_named, w_hears, w_ripe, w_room, w_tables⟩
theorem atStart : AtStart classFile x code maxLocals ret World_1 tables_1 room_1 Calls_1 rest_1 Pre_1 launch0 p0 e0 about1 theMethod args0 below0 :=
  ⟨lists_1, trivial, launch0.admits_env _ _ _, launch0.least_env, fairChoices_fair.cas, fairChoices_fair.clock, w_frames, w_args, w_heap, w_applies, trivial, trivial, w_case⟩
end start1
theorem witness_1 : WitnessClaimed_1 := ⟨start1.p0, start1.e0, start1.about1, start1.theMethod, start1.args0, start1.below0, start1.atStart⟩
end Jvm.Pilot.@@N@@
