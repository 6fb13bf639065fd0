import JvmDerived
import JvmDerived.Pilot.@@N@@Statement
import JvmDerived.Pilot.@@N@@Code
set_option linter.unusedVariables false
set_option linter.unusedSimpArgs false
namespace Jvm.Pilot.@@N@@
open Jvm Jvm.ClassFile Sem Op Lib Jvm.Free Jvm.Stand Jvm.LawKit Jvm.RoadKit Bundle Jvm.Pilot.@@N@@.Jvm.D
section OwnKit
variable {p : Program} {l : Launch} {e : Env} {R : Room} {s : State} {m : MethodId} {args : Array Value} {below : List Frame} {meth : Method} {c : Code} {T T' : State} {locs : List Loc} {cells slots kc ks : Nat} {g g' : JFrame} {Q : Option Value → Heap → List Loc → Prop} {Z : State} {h h' : Heap} {a0 : Array Value} {En : Outcome → State → List Loc → Nat → Nat → Prop}
/-- from this frame the run comes to the method's end and leaves what Q says -/
def own_Out (p : Program) (e : Env) (below : List Frame) (En : Outcome → State → List Loc → Nat → Nat → Prop) (T : State) (g : JFrame) (Q : Option Value → Heap → List Loc → Prop) (kc ks : Nat) : Prop :=
  ∃ (t : State) (o : Outcome), Steps p.tables e below (T.setTop g) t ∧ t.status = .running ∧ Ended t below o ∧ ∃ (v : Option Value) (L : List Loc), o = .returned v ∧ Q v t.heap L ∧ En o t L kc ks
theorem own_to (st : ∀ t, Steps p.tables e below (T'.setTop g') t → Steps p.tables e below (T.setTop g) t) (k : own_Out p e below En T' g' Q kc ks) : own_Out p e below En T g Q kc ks := by
  obtain ⟨t, o, h1, h2⟩ := k
  exact ⟨t, o, st t h1, h2⟩
theorem own_cast (q : g = g') (k : own_Out p e below En T g' Q kc ks) : own_Out p e below En T g Q kc ks := q ▸ k
/-- a method's contract: called with these arguments over this heap it returns, and Q says what it leaves -/
def own_C (l : Launch) (Z : State) (y : MethodName) (bytes : ByteArray) (maxL : Nat) (ret : Option FieldType) (rm : Room) (as' : Array Value) (h0 : Heap) (Q : Option Value → Heap → List Loc → Prop) : Prop :=
  ∀ ws : List Jvm.Cond, MetFree l y (head1 (Jvm.Cond.code y bytes maxL ret :: ws) rm) (fun a U => a = as' ∧ Z.Warmed39 U.vm ∧ U.heap = h0) (fun _ _ _ _ _ => True) (fun _ U o U' => ∃ v L, o = .returned v ∧ Q v U'.heap L ∧ FrameEnd U o U' L rm.cells rm.slots)
theorem own_met {y : MethodName} {bytes : ByteArray} {maxL : Nat} {ret : Option FieldType} {rm : Room} {as' : Array Value} {h0 : Heap} (pl : plainFor y = true)
    (body : ∀ (p : Program) (e : Env) (s : State) (m : MethodId) (below : List Frame) (meth : Method) (c : Code) (s₁ : State), p.tables.exec = Jvm.exec → c.code = bytes → c.maxLocals = maxL → meth.sig.returnType = ret → meth.locks = false → s.vm.findClass y.cls = some m.cls → meth.name = y.name → Z.Warmed39 s.vm → Stand p l e rm s m as' below meth c s₁ [] 0 0 → s₁.heap = h0 → own_Out p e below (FrameEnd s) s₁ (entryFrame m as' maxL) Q rm.cells rm.slots) :
    own_C l Z y bytes maxL ret rm as' h0 Q := by
  intro ws
  refine MetFree.of_bodySF pl hisR ?_
  intro p e s m args below meth c s₁ Bd hml0 hP hK
  obtain ⟨rfl, hZ, hh⟩ := hP
  exact body p e s m below meth c s₁ Bd.exec Bd.bytes hml0 Bd.returns (BodyLoose.notSynchronized Bd) (findClass_of_methodNamed Bd.named) ((name_of_methodNamed Bd.named Bd.method).1) hZ (Stand.of_body Bd) (by rw [← hh, Bd.state]; rfl)
/-! returns -/
theorem own_retV (X : Stand p l e R s m args below meth c T locs cells slots) (hx : p.tables.exec = Jvm.exec) (hlk : meth.locks = false) {pc : Nat} {Ls : Array Slot} {w : Value} {t : FieldType} {i : Instr} {rest : List Value} (hret : meth.sig.returnType = some t) (hn : narrow t w = w)
    (hi : (i = .ireturn ∧ (t = .int ∨ t = .boolean ∨ t = .byte ∨ t = .char ∨ t = .short) ∧ ∃ z, w = .int z) ∨ (i = .lreturn ∧ t = .long ∧ ∃ z, w = .long z) ∨ (i = .dreturn ∧ t = .double ∧ ∃ z, w = .double z) ∨ (i = .freturn ∧ t = .float ∧ ∃ z, w = .float z) ∨ (i = .areturn ∧ t.isReference = true ∧ w.isRef = true))
    (hd : decode c.code pc = .ok (i, 1)) (hc : cells ≤ kc) (hs : slots ≤ ks) (hQ : Q (some w) T.heap locs) : own_Out p e below (FrameEnd s) T (mkF m pc Ls (w :: rest)) Q kc ks := by
  obtain ⟨fs, hr, hrun, hended, hW, hsame⟩ := X.leave (v := some w) (fun h => by rw [hret] at h; cases h) hlk
  exact ⟨_, _, retOut X hx hret hn hi hd hr, hrun, hended, _, _, rfl, hQ, ⟨_, rfl⟩, hW, hsame.mono hc hs⟩
theorem own_retI (X : Stand p l e R s m args below meth c T locs cells slots) (hx : p.tables.exec = Jvm.exec) (hlk : meth.locks = false) (hret : meth.sig.returnType = some .int) {pc : Nat} {Ls : Array Slot} {z : Int32} {rest : List Value}
    (hd : decode c.code pc = .ok (.ireturn, 1)) (hc : cells ≤ kc) (hs : slots ≤ ks) (hQ : Q (some (.int z)) T.heap locs) : own_Out p e below (FrameEnd s) T (mkF m pc Ls (.int z :: rest)) Q kc ks :=
  own_retV X hx hlk hret rfl (Or.inl ⟨rfl, Or.inl rfl, _, rfl⟩) hd hc hs hQ
theorem own_retJ (X : Stand p l e R s m args below meth c T locs cells slots) (hx : p.tables.exec = Jvm.exec) (hlk : meth.locks = false) (hret : meth.sig.returnType = some .long) {pc : Nat} {Ls : Array Slot} {z : Int64} {rest : List Value}
    (hd : decode c.code pc = .ok (.lreturn, 1)) (hc : cells ≤ kc) (hs : slots ≤ ks) (hQ : Q (some (.long z)) T.heap locs) : own_Out p e below (FrameEnd s) T (mkF m pc Ls (.long z :: rest)) Q kc ks :=
  own_retV X hx hlk hret rfl (Or.inr (Or.inl ⟨rfl, rfl, _, rfl⟩)) hd hc hs hQ
theorem own_retA (X : Stand p l e R s m args below meth c T locs cells slots) (hx : p.tables.exec = Jvm.exec) (hlk : meth.locks = false) {t : FieldType} (hret : meth.sig.returnType = some t) (ht : t.isReference = true) {pc : Nat} {Ls : Array Slot} {z : Addr} {rest : List Value}
    (hd : decode c.code pc = .ok (.areturn, 1)) (hc : cells ≤ kc) (hs : slots ≤ ks) (hQ : Q (some (.ref z)) T.heap locs) : own_Out p e below (FrameEnd s) T (mkF m pc Ls (.ref z :: rest)) Q kc ks :=
  own_retV X hx hlk hret (by cases t <;> rfl) (Or.inr (Or.inr (Or.inr (Or.inr ⟨rfl, ht, rfl⟩)))) hd hc hs hQ
/-- a boolean, byte, char or short: the value is narrowed -/
theorem own_retN (X : Stand p l e R s m args below meth c T locs cells slots) (hx : p.tables.exec = Jvm.exec) (hlk : meth.locks = false) {t : FieldType} (hret : meth.sig.returnType = some t) (ht : t = .boolean ∨ t = .byte ∨ t = .char ∨ t = .short) {pc : Nat} {Ls : Array Slot} {z : Int32} {rest : List Value}
    (hd : decode c.code pc = .ok (.ireturn, 1)) (hc : cells ≤ kc) (hs : slots ≤ ks) (hQ : Q (some (.int (nar t z))) T.heap locs) : own_Out p e below (FrameEnd s) T (mkF m pc Ls (.int z :: rest)) Q kc ks := by
  obtain ⟨fs, hr, hrun, hended, hW, hsame⟩ := X.leave (v := some (.int (nar t z))) (fun h => by rw [hret] at h; cases h) hlk
  exact ⟨_, _, retN X hx hret ht hd hr, hrun, hended, _, _, rfl, hQ, ⟨_, rfl⟩, hW, hsame.mono hc hs⟩
theorem own_ret0 (X : Stand p l e R s m args below meth c T locs cells slots) (hx : p.tables.exec = Jvm.exec) (hlk : meth.locks = false) (hret : meth.sig.returnType = none) {pc : Nat} {Ls : Array Slot}
    (hd : decode c.code pc = .ok (.return_, 1)) (hc : cells ≤ kc) (hs : slots ≤ ks) (hQ : Q none T.heap locs) : own_Out p e below (FrameEnd s) T (mkF m pc Ls []) Q kc ks := by
  obtain ⟨fs, hr, hrun, hended, hW, hsame⟩ := X.leave (v := none) (fun _ => rfl) hlk
  exact ⟨_, _, X.returnOut hx hret hd hr, hrun, hended, _, _, rfl, hQ, ⟨_, rfl⟩, hW, hsame.mono hc hs⟩
/-! calls -/
theorem own_callS (X : Stand p l e R s m args below meth c T locs cells slots) (hx : p.tables.exec = Jvm.exec) (hZ : Z.Warmed39 s.vm) {own : String} (hown : s.vm.findClass own = some m.cls) {index : Nat} {y : MethodName} {bytes : ByteArray} {maxL : Nat} {ret : Option FieldType} {rm : Room} {W : Nat} {Qc : Option Value → Heap → List Loc → Prop} {argsL rest : List Value}
    (w1 : (Jvm.Cond.methodLink own index y).before a0 Z = true) (w2 : (Jvm.Cond.static y).before a0 Z = true) (w3 : (Jvm.Cond.initialized y.cls).before a0 Z = true) (w4 : (Jvm.Cond.code y bytes maxL ret).before a0 Z = true) (hy : y.cls ≠ "java/lang/invoke/MethodHandle" ∧ y.cls ≠ "java/lang/invoke/VarHandle")
    (hM : own_C l Z y bytes maxL ret rm argsL.toArray h Qc) (hf : rm.frames + 1 ≤ R.frames) (hl : W + (maxL + 11) + rm.locals ≤ R.locals) (eT : T.heap = h) (hg : g.method = m) (hsize : g.locals.size = c.maxLocals) (hlen : ∀ sig, parseMethodDescriptor y.desc = some sig → argsL.length = sig.parameters.length)
    (hstack : g.stack = argsL.reverse ++ rest) (hW : 2 * g.monitorRoom + (rest.map fun v => v.category).sum ≤ W) (hd : decode c.code g.pc = .ok (.invokestatic index, 3)) (hc : cells + rm.cells ≤ R.cells) (hs : slots + rm.slots ≤ R.slots)
    (k : ∀ (v : Option Value) (T' : State) (h' : Heap) (L : List Loc), Stand p l e R s m args below meth c T' (locs ++ L) (cells + rm.cells) (slots + rm.slots) → T'.heap = h' → Qc v h' L → own_Out p e below En T' { g with pc := g.pc + 3, stack := v.toList ++ rest } Q kc ks) : own_Out p e below En T g Q kc ks := by
  obtain ⟨v, _, ⟨T', L', k', n'⟩, -, X', ⟨Lc, hQ, l1, l2, l3⟩, st⟩ := Jvm.LawKit.callS X hx hown (mvT hZ w1) (mvT hZ w2) (mvT hZ w3) (mvT hZ w4) hy (backOf (W := W) (hM []) hZ w4 w3 hf hl) hg hsize hlen hstack hW hd (fun _ _ => ⟨rfl, eT, hc, hs⟩)
  dsimp only [Pt.U, Pt.locs, Pt.cells, Pt.slots] at X' l1 l2 l3 st hQ
  subst l1 l2 l3
  exact own_to st (k v T' _ Lc X' rfl hQ)
/-- a constructor -/
theorem own_callC (X : Stand p l e R s m args below meth c T locs cells slots) (hx : p.tables.exec = Jvm.exec) (hZ : Z.Warmed39 s.vm) {own : String} (hown : s.vm.findClass own = some m.cls) {index : Nat} {y : MethodName} {bytes : ByteArray} {maxL : Nat} {rm : Room} {W : Nat} {Qc : Option Value → Heap → List Loc → Prop} {a : Addr} {argsL rest : List Value}
    (hy1 : y.name = "<init>") (w1 : (Jvm.Cond.methodLink own index y).before a0 Z = true) (w2 : (Jvm.Cond.instanceMethod y).before a0 Z = true) (w3 : (Jvm.Cond.initialized y.cls).before a0 Z = true) (w4 : (Jvm.Cond.code y bytes maxL none).before a0 Z = true) (hy : y.cls ≠ "java/lang/invoke/MethodHandle" ∧ y.cls ≠ "java/lang/invoke/VarHandle")
    (hM : own_C l Z y bytes maxL none rm (.ref a :: argsL).toArray h Qc) (hf : rm.frames + 1 ≤ R.frames) (hl : W + (maxL + 11) + rm.locals ≤ R.locals) (eT : T.heap = h) (hg : g.method = m) (hsize : g.locals.size = c.maxLocals) (hlen : ∀ sig, parseMethodDescriptor y.desc = some sig → argsL.length = sig.parameters.length)
    (hstack : g.stack = argsL.reverse ++ .ref a :: rest) (hW : 2 * g.monitorRoom + (rest.map fun v => v.category).sum ≤ W) (hd : decode c.code g.pc = .ok (.invokespecial index, 3)) (hc : cells + rm.cells ≤ R.cells) (hs : slots + rm.slots ≤ R.slots)
    (k : ∀ (v : Option Value) (T' : State) (h' : Heap) (L : List Loc), Stand p l e R s m args below meth c T' (locs ++ L) (cells + rm.cells) (slots + rm.slots) → T'.heap = h' → Qc v h' L → own_Out p e below En T' { g with pc := g.pc + 3, stack := v.toList ++ rest } Q kc ks) : own_Out p e below En T g Q kc ks := by
  obtain ⟨v, _, ⟨T', L', k', n'⟩, -, X', ⟨Lc, hQ, l1, l2, l3⟩, st⟩ := X.specialBack hx hy1 hown (mvT hZ w1) (mvT hZ w2) (mvT hZ w4) hy (backOf (W := W) (hM []) hZ w4 w3 hf hl) hg hsize (Steps.refl _) hlen hstack hW hd (fun _ _ => ⟨rfl, eT, hc, hs⟩)
  dsimp only [Pt.U, Pt.locs, Pt.cells, Pt.slots] at X' l1 l2 l3 st hQ
  subst l1 l2 l3
  exact own_to (fun t k => st.trans k) (k v T' _ Lc X' rfl hQ)
/-- an instance method of the object's own class -/
theorem own_callV (X : Stand p l e R s m args below meth c T locs cells slots) (hx : p.tables.exec = Jvm.exec) (hZ : Z.Warmed39 s.vm) {own C : String} (hown : s.vm.findClass own = some m.cls) {index : Nat} {y : MethodName} {bytes : ByteArray} {maxL : Nat} {ret : Option FieldType} {rm : Room} {W : Nat} {Qc : Option Value → Heap → List Loc → Prop} {a : Addr} {argsL rest : List Value}
    (w1 : (Jvm.Cond.methodLink own index y).before a0 Z = true) (w5 : (Jvm.Cond.declares y).before a0 Z = true) (w6 : (Jvm.Cond.selects C y y).before a0 Z = true) (w2 : (Jvm.Cond.instanceMethod y).before a0 Z = true) (w3 : (Jvm.Cond.initialized y.cls).before a0 Z = true) (w4 : (Jvm.Cond.code y bytes maxL ret).before a0 Z = true) (hy : y.cls ≠ "java/lang/invoke/MethodHandle" ∧ y.cls ≠ "java/lang/invoke/VarHandle")
    (hM : own_C l Z y bytes maxL ret rm (.ref a :: argsL).toArray h Qc) (hf : rm.frames + 1 ≤ R.frames) (hl : W + (maxL + 11) + rm.locals ≤ R.locals) (eT : T.heap = h) (E : Exa Z h a C) (hg : g.method = m) (hsize : g.locals.size = c.maxLocals) (hlen : ∀ sig, parseMethodDescriptor y.desc = some sig → argsL.length = sig.parameters.length)
    (hstack : g.stack = argsL.reverse ++ .ref a :: rest) (hW : 2 * g.monitorRoom + (rest.map fun v => v.category).sum ≤ W) (hd : decode c.code g.pc = .ok (.invokevirtual index, 3)) (hc : cells + rm.cells ≤ R.cells) (hs : slots + rm.slots ≤ R.slots)
    (k : ∀ (v : Option Value) (T' : State) (h' : Heap) (L : List Loc), Stand p l e R s m args below meth c T' (locs ++ L) (cells + rm.cells) (slots + rm.slots) → T'.heap = h' → Qc v h' L → own_Out p e below En T' { g with pc := g.pc + 3, stack := v.toList ++ rest } Q kc ks) : own_Out p e below En T g Q kc ks := by
  obtain ⟨cq, kq, qa, qb, qc⟩ := isOf hZ eT E
  obtain ⟨v, _, ⟨T', L', k', n'⟩, -, X', ⟨Lc, hQ, l1, l2, l3⟩, st⟩ := X.virtualBack hx hown (mvT hZ w1) (mvT hZ w5) (notFace_of_selects (args := #[]) (mvT hZ w6)) (mvT hZ w6) (mvT hZ w2) hy (backOf (W := W) (hM []) hZ w4 w3 hf hl) qa qc hg hsize (Steps.refl _) hlen hstack hW hd (fun _ _ => ⟨rfl, eT, hc, hs⟩)
  dsimp only [Pt.U, Pt.locs, Pt.cells, Pt.slots] at X' l1 l2 l3 st hQ
  subst l1 l2 l3
  exact own_to (fun t k => st.trans k) (k v T' _ Lc X' rfl hQ)
/-- a private method of the object's own class, by invokevirtual -/
theorem own_callP (X : Stand p l e R s m args below meth c T locs cells slots) (hx : p.tables.exec = Jvm.exec) (hZ : Z.Warmed39 s.vm) {own C : String} (hown : s.vm.findClass own = some m.cls) {index kk : Nat} {y : MethodName} {bytes : ByteArray} {maxL : Nat} {ret : Option FieldType} {rm : Room} {W : Nat} {Qc : Option Value → Heap → List Loc → Prop} {a : Addr} {argsL rest : List Value}
    (w1 : (Jvm.Cond.methodLink own index y).before a0 Z = true) (w5 : (Jvm.Cond.privateMethod y).before a0 Z = true) (w6 : (Jvm.Cond.instantiable y.cls kk).before a0 Z = true) (w2 : (Jvm.Cond.instanceMethod y).before a0 Z = true) (w3 : (Jvm.Cond.initialized y.cls).before a0 Z = true) (w4 : (Jvm.Cond.code y bytes maxL ret).before a0 Z = true) (hy : y.cls ≠ "java/lang/invoke/MethodHandle" ∧ y.cls ≠ "java/lang/invoke/VarHandle")
    (hM : own_C l Z y bytes maxL ret rm (.ref a :: argsL).toArray h Qc) (hf : rm.frames + 1 ≤ R.frames) (hl : W + (maxL + 11) + rm.locals ≤ R.locals) (eT : T.heap = h) (E : Exa Z h a C) (hg : g.method = m) (hsize : g.locals.size = c.maxLocals) (hlen : ∀ sig, parseMethodDescriptor y.desc = some sig → argsL.length = sig.parameters.length)
    (hstack : g.stack = argsL.reverse ++ .ref a :: rest) (hW : 2 * g.monitorRoom + (rest.map fun v => v.category).sum ≤ W) (hd : decode c.code g.pc = .ok (.invokevirtual index, 3)) (hc : cells + rm.cells ≤ R.cells) (hs : slots + rm.slots ≤ R.slots)
    (k : ∀ (v : Option Value) (T' : State) (h' : Heap) (L : List Loc), Stand p l e R s m args below meth c T' (locs ++ L) (cells + rm.cells) (slots + rm.slots) → T'.heap = h' → Qc v h' L → own_Out p e below En T' { g with pc := g.pc + 3, stack := v.toList ++ rest } Q kc ks) : own_Out p e below En T g Q kc ks := by
  obtain ⟨cq, q, q'⟩ := E.cell
  have hp : s.PrivateAt y := Cond.privateMethod_at (mvP hZ w5 (args := #[]))
  obtain ⟨cy, ky, f1, f2, -, f3, -⟩ := Cond.instantiable_spec (mvT (args := args) hZ w6)
  have hi : ky.isInterface = false := (Bool.or_eq_false_iff.mp f3).1
  have hse : (Jvm.Cond.selects y.cls y y).before args s = true := selects_self_of_private f1 f2 hi hp (mvT hZ w2) hy
  obtain ⟨v, _, ⟨T', L', k', n'⟩, -, X', ⟨Lc, hQ, l1, l2, l3⟩, st⟩ := X.privateBack hx hown (mvT hZ w1) (mvT hZ w2) hse hp (mvT hZ w4) hy (backOf (W := W) (hM []) hZ w4 w3 hf hl) hg hsize (Steps.refl _) (by rw [eT]; exact q) q' hlen hstack hW hd (fun _ _ => ⟨rfl, eT, hc, hs⟩)
  dsimp only [Pt.U, Pt.locs, Pt.cells, Pt.slots] at X' l1 l2 l3 st hQ
  subst l1 l2 l3
  exact own_to (fun t k => st.trans k) (k v T' _ Lc X' rfl hQ)
/-! the heap's steps -/
theorem own_getF (X : Stand p l e R s m args below meth c T locs cells slots) (hx : p.tables.exec = Jvm.exec) (hZ : Z.Warmed39 s.vm) {own O n d : String} {index : Nat} (hown : s.vm.findClass own = some m.cls) (w : (Jvm.Cond.fieldLink own index O n d).before a0 Z = true) (eT : T.heap = h) {a : Addr} {v : Value} (F : Fld Z h a O n d v)
    (hg : g.method = m) {rest : List Value} (hs : g.stack = .ref a :: rest) (hd : decode c.code g.pc = .ok (.getfield index, 3)) (k : ∀ T', Stand p l e R s m args below meth c T' locs cells slots → T'.heap = h → own_Out p e below En T' { g with pc := g.pc + 3, stack := v :: rest } Q kc ks) : own_Out p e below En T g Q kc ks := by
  obtain ⟨T', X', e', st⟩ := getF X hx hZ hown (host := "") (Or.inl w) Via.refl eT F hg hs hd
  exact own_to st (k T' X' e')
theorem own_putF (X : Stand p l e R s m args below meth c T locs cells slots) (hx : p.tables.exec = Jvm.exec) (hZ : Z.Warmed39 s.vm) {own O n d C : String} {index kk : Nat} {ty : FieldType} (hown : s.vm.findClass own = some m.cls) (w : (Jvm.Cond.fieldLink own index O n d).before a0 Z = true) (eT : T.heap = h) {a : Addr} {v old : Value} (F : Fld Z h a O n d old) (E : Exa Z h a C)
    (L : (Jvm.Cond.lays C O n d).before a0 Z = true ∨ ((Jvm.Cond.laysFinal C O n d).before a0 Z = true ∧ own = O ∧ meth.name = "<init>")) (wi : (Jvm.Cond.instantiable C kk).before a0 Z = true) (hty : parseFieldDescriptor d = some ty) (hn : narrow ty v = v) (hf : fits ty v = true)
    (hg : g.method = m) {rest : List Value} (hs : g.stack = v :: .ref a :: rest) (hd : decode c.code g.pc = .ok (.putfield index, 3)) (k : ∀ T' h', Stand p l e R s m args below meth c T' (locs ++ [⟨a, Jvm.RoadKit.slotOf Z O n d⟩]) cells slots → T'.heap = h' → Wr h h' a (Jvm.RoadKit.slotOf Z O n d) v → own_Out p e below En T' { g with pc := g.pc + 3, stack := rest } Q kc ks) : own_Out p e below En T g Q kc ks := by
  obtain ⟨T', h', X', e', W', st⟩ := putF X hx hZ hown (host := "") (Or.inl w) Via.refl eT F E L wi hty hn hf hg hs hd
  exact own_to st (k T' h' X' e' W')
theorem own_new (X : Stand p l e R s m args below meth c T locs cells slots) (hx : p.tables.exec = Jvm.exec) (hZ : Z.Warmed39 s.vm) {own C : String} {index n : Nat} (hown : s.vm.findClass own = some m.cls) (w : (Jvm.Cond.classLink own index C).before a0 Z = true) (wi : (Jvm.Cond.instantiable C n).before a0 Z = true) (wz : (Jvm.Cond.initialized C).before a0 Z = true) (eT : T.heap = h)
    (hg : g.method = m) (hd : decode c.code g.pc = .ok (.new index, 3)) (hc : cells + 1 ≤ R.cells) (hl : slots + n ≤ R.slots)
    (k : ∀ T' h' a, a = h.size → Stand p l e R s m args below meth c T' locs (cells + 1) (slots + n) → T'.heap = h' → Ext h h' → Exa Z h' a C → (∀ {O nm d : String} {ty : FieldType}, Laid Z a0 C O nm d → parseFieldDescriptor d = some ty → Fld Z h' a O nm d (defaultValue ty)) → own_Out p e below En T' { g with pc := g.pc + 3, stack := .ref a :: g.stack } Q kc ks) : own_Out p e below En T g Q kc ks := by
  obtain ⟨T', h', X', e', E', A', D', -, st⟩ := newO X hx hZ hown w wi wz eT hg hd hc hl
  exact own_to st (k T' h' _ rfl X' e' E' A' D')
/-! arrays of ints, bytes, booleans: how many places, and what each holds -/
def own_upd (f : Nat → Int32) (j : Nat) (x : Int32) : Nat → Int32 := fun i => if i = j then x else f i
def own_A (Z : State) (h : Heap) (a : Addr) (ty : FieldType) (n : Nat) (f : Nat → Int32) : Prop := ∃ cl : Cell, Arr Z h a cl ty ∧ cl.slots.size = n ∧ ∀ j, j < n → cl.slots[j]? = some (.int (f j))
variable {a b : Addr} {ty : FieldType} {n : Nat} {f : Nat → Int32} {ws : List Addr} {v : Value} {sl : Nat}
theorem own_A.lt (F : own_A Z h a ty n f) : a < h.size := by obtain ⟨_, A, -⟩ := F; exact A.lt
theorem own_A.ext (F : own_A Z h a ty n f) (E : Ext h h') : own_A Z h' a ty n f := by obtain ⟨cl, A, r⟩ := F; exact ⟨cl, A.ext E, r⟩
theorem own_A.other (F : own_A Z h b ty n f) (W : Wr h h' a sl v) (q : b ≠ a) : own_A Z h' b ty n f := by obtain ⟨cl, A, r⟩ := F; exact ⟨cl, A.other W q, r⟩
theorem own_A.keep (F : own_A Z h a ty n f) (K : Keep h h' ws) (q : a ∉ ws) : own_A Z h' a ty n f := by obtain ⟨cl, A, r⟩ := F; exact ⟨cl, ⟨K.2.1 a cl A.1 q, A.2⟩, r⟩
theorem own_A.congr {f' : Nat → Int32} (F : own_A Z h a ty n f) (q : ∀ j, j < n → f j = f' j) : own_A Z h a ty n f' := by obtain ⟨cl, A, r1, r2⟩ := F; exact ⟨cl, A, r1, fun j hj => by rw [r2 j hj, q j hj]⟩
theorem own_A.set {cl : Cell} {j : Nat} {x : Int32} (A : Arr Z h a cl ty) (q1 : cl.slots.size = n) (q2 : ∀ j, j < n → cl.slots[j]? = some (.int (f j))) (W : Wr h h' a j (.int x)) (hj : j < n) : own_A Z h' a ty n (own_upd f j x) := by
  refine ⟨_, A.same W, by rw [sz_set, q1], fun i hi => ?_⟩
  simp only [Cell.setSlot, Array.getElem?_setIfInBounds, own_upd]
  by_cases e : j = i
  · subst e
    simp [q1, hj]
  · rw [if_neg e, q2 i hi, if_neg (fun q => e q.symm)]
theorem own_in {j : Int32} {N : Nat} (h0 : ¬ j < 0) (h1 : j.toNatClampNeg < N) : ¬ (j < 0 ∨ N ≤ j.toNatClampNeg) := fun q => q.elim h0 (fun r => Nat.not_lt.mpr r h1)
theorem own_stI (X : Stand p l e R s m args below meth c T locs cells slots) (hx : p.tables.exec = Jvm.exec) (hZ : Z.Warmed39 s.vm) (eT : T.heap = h) (F : own_A Z h a .int n f) {j x : Int32} (h0 : ¬ j < 0) (h1 : j.toNatClampNeg < n) (hg : g.method = m) {rest : List Value} (hs : g.stack = .int x :: .int j :: .ref a :: rest) (hd : decode c.code g.pc = .ok (.iastore, 1))
    (k : ∀ T' h', Stand p l e R s m args below meth c T' (locs ++ [⟨a, j.toNatClampNeg⟩]) cells slots → T'.heap = h' → Wr h h' a j.toNatClampNeg (.int x) → own_A Z h' a .int n (own_upd f j.toNatClampNeg x) → own_Out p e below En T' { g with pc := g.pc + 1, stack := rest } Q kc ks) : own_Out p e below En T g Q kc ks := by
  obtain ⟨cl, A, q1, q2⟩ := F
  obtain ⟨T', h', X', e', W', st⟩ := stI X hx hZ eT A (own_in h0 (by rw [q1]; exact h1)) hg hs hd
  exact own_to st (k T' h' X' e' W' (own_A.set A q1 q2 W' h1))
theorem own_stZ (X : Stand p l e R s m args below meth c T locs cells slots) (hx : p.tables.exec = Jvm.exec) (hZ : Z.Warmed39 s.vm) (eT : T.heap = h) (F : own_A Z h a .boolean n f) {j x : Int32} (h0 : ¬ j < 0) (h1 : j.toNatClampNeg < n) (hg : g.method = m) {rest : List Value} (hs : g.stack = .int x :: .int j :: .ref a :: rest) (hd : decode c.code g.pc = .ok (.bastore, 1))
    (k : ∀ T' h', Stand p l e R s m args below meth c T' (locs ++ [⟨a, j.toNatClampNeg⟩]) cells slots → T'.heap = h' → Wr h h' a j.toNatClampNeg (.int (nar .boolean x)) → own_A Z h' a .boolean n (own_upd f j.toNatClampNeg (nar .boolean x)) → own_Out p e below En T' { g with pc := g.pc + 1, stack := rest } Q kc ks) : own_Out p e below En T g Q kc ks := by
  obtain ⟨cl, A, q1, q2⟩ := F
  obtain ⟨T', h', X', e', W', st⟩ := stZ X hx hZ eT A (own_in h0 (by rw [q1]; exact h1)) hg hs hd
  exact own_to st (k T' h' X' e' W' (own_A.set A q1 q2 W' h1))
theorem own_stB (X : Stand p l e R s m args below meth c T locs cells slots) (hx : p.tables.exec = Jvm.exec) (hZ : Z.Warmed39 s.vm) (eT : T.heap = h) (F : own_A Z h a .byte n f) {j x : Int32} (h0 : ¬ j < 0) (h1 : j.toNatClampNeg < n) (hg : g.method = m) {rest : List Value} (hs : g.stack = .int x :: .int j :: .ref a :: rest) (hd : decode c.code g.pc = .ok (.bastore, 1))
    (k : ∀ T' h', Stand p l e R s m args below meth c T' (locs ++ [⟨a, j.toNatClampNeg⟩]) cells slots → T'.heap = h' → Wr h h' a j.toNatClampNeg (.int (nar .byte x)) → own_A Z h' a .byte n (own_upd f j.toNatClampNeg (nar .byte x)) → own_Out p e below En T' { g with pc := g.pc + 1, stack := rest } Q kc ks) : own_Out p e below En T g Q kc ks := by
  obtain ⟨cl, A, q1, q2⟩ := F
  obtain ⟨T', h', X', e', W', st⟩ := stB X hx hZ eT A (own_in h0 (by rw [q1]; exact h1)) hg hs hd
  exact own_to st (k T' h' X' e' W' (own_A.set A q1 q2 W' h1))
theorem own_newA (X : Stand p l e R s m args below meth c T locs cells slots) (hx : p.tables.exec = Jvm.exec) (hZ : Z.Warmed39 s.vm) {aty : ArrayType} (w : (Jvm.Cond.arrayClass (newarray.typeOf aty)).before a0 Z = true) (hdef : defaultValue (newarray.typeOf aty) = .int 0) (eT : T.heap = h) (hg : g.method = m) (hd : decode c.code g.pc = .ok (.newarray aty, 2)) {N : Int32} {rest : List Value} (hs : g.stack = .int N :: rest)
    (hn : ¬ N < 0) {cap : Nat} (hcap : N.toNatClampNeg ≤ cap) (hb : cap * 8 ≤ 536870912) (hc : cells + 1 ≤ R.cells) (hl : slots + cap ≤ R.slots)
    (k : ∀ T' h' a, a = h.size → Stand p l e R s m args below meth c T' locs (cells + 1) (slots + cap) → T'.heap = h' → Ext h h' → own_A Z h' a (newarray.typeOf aty) N.toNatClampNeg (fun _ => 0) → own_Out p e below En T' { g with pc := g.pc + 2, stack := .ref a :: rest } Q kc ks) : own_Out p e below En T g Q kc ks := by
  obtain ⟨T', h', cA, X', e', E', A', st⟩ := newP X hx hZ w eT hg hd hs hn hcap hb hc hl
  refine own_to st (k T' h' _ rfl X' e' E' ⟨_, A', sz_new _ _ _, fun j hj => ?_⟩)
  simp [newA, hdef, hj]
theorem own_len (X : Stand p l e R s m args below meth c T locs cells slots) (hx : p.tables.exec = Jvm.exec) (hZ : Z.Warmed39 s.vm) (eT : T.heap = h) (F : own_A Z h a ty n f) (hg : g.method = m) {rest : List Value} (hs : g.stack = .ref a :: rest) (hd : decode c.code g.pc = .ok (.arraylength, 1))
    (k : own_Out p e below En T { g with pc := g.pc + 1, stack := .int n.toInt32 :: rest } Q kc ks) : own_Out p e below En T g Q kc ks := by
  obtain ⟨cl, A, q1, q2⟩ := F
  subst q1
  exact own_to (X.arraylength hx (by rw [eT]; exact A.1) (State.isArrayOf_alike hZ.alike A.2.1) hg hs hd) k
theorem own_ldI (X : Stand p l e R s m args below meth c T locs cells slots) (hx : p.tables.exec = Jvm.exec) (hZ : Z.Warmed39 s.vm) (eT : T.heap = h) (F : own_A Z h a .int n f) {j : Int32} (h0 : ¬ j < 0) (h1 : j.toNatClampNeg < n) (hg : g.method = m) {rest : List Value} (hs : g.stack = .int j :: .ref a :: rest) (hd : decode c.code g.pc = .ok (.iaload, 1))
    (k : ∀ w : Int32, w = f j.toNatClampNeg → own_Out p e below En T { g with pc := g.pc + 1, stack := .int w :: rest } Q kc ks) : own_Out p e below En T g Q kc ks := by
  obtain ⟨cl, A, q1, q2⟩ := F
  exact own_to (X.iaload hx (by rw [eT]; exact A.1) (State.isArrayOf_alike hZ.alike A.2.1) A.2.2 (own_in h0 (by rw [q1]; exact h1)) (q2 _ h1) hg hs hd) (k _ rfl)
theorem own_ldZ (X : Stand p l e R s m args below meth c T locs cells slots) (hx : p.tables.exec = Jvm.exec) (hZ : Z.Warmed39 s.vm) (eT : T.heap = h) (F : own_A Z h a .boolean n f) {j : Int32} (h0 : ¬ j < 0) (h1 : j.toNatClampNeg < n) (hg : g.method = m) {rest : List Value} (hs : g.stack = .int j :: .ref a :: rest) (hd : decode c.code g.pc = .ok (.baload, 1))
    (k : ∀ w : Int32, w = f j.toNatClampNeg → own_Out p e below En T { g with pc := g.pc + 1, stack := .int w :: rest } Q kc ks) : own_Out p e below En T g Q kc ks := by
  obtain ⟨cl, A, q1, q2⟩ := F
  exact own_to (X.baloadBooleans hx (by rw [eT]; exact A.1) (State.isArrayOf_alike hZ.alike A.2.1) A.2.2 (own_in h0 (by rw [q1]; exact h1)) (q2 _ h1) hg hs hd) (k _ rfl)
theorem own_ldB (X : Stand p l e R s m args below meth c T locs cells slots) (hx : p.tables.exec = Jvm.exec) (hZ : Z.Warmed39 s.vm) (eT : T.heap = h) (F : own_A Z h a .byte n f) {j : Int32} (h0 : ¬ j < 0) (h1 : j.toNatClampNeg < n) (hg : g.method = m) {rest : List Value} (hs : g.stack = .int j :: .ref a :: rest) (hd : decode c.code g.pc = .ok (.baload, 1))
    (k : ∀ w : Int32, w = f j.toNatClampNeg → own_Out p e below En T { g with pc := g.pc + 1, stack := .int w :: rest } Q kc ks) : own_Out p e below En T g Q kc ks := by
  obtain ⟨cl, A, q1, q2⟩ := F
  exact own_to (X.baloadBytes hx (by rw [eT]; exact A.1) (State.isArrayOf_alike hZ.alike A.2.1) A.2.2 (own_in h0 (by rw [q1]; exact h1)) (q2 _ h1) hg hs hd) (k _ rfl)
theorem own_idx (x n : Int32) (N : Nat) (hn : n.toInt = (N : Int)) (h0 : 0 < N) : ¬ ((x &&& (2147483647 : Int32)) % n < 0) ∧ ((x &&& (2147483647 : Int32)) % n).toNatClampNeg < N := by
  have h1 := c_mask x 2147483647 31 (by decide) (by decide)
  have h2 := c_irem (x &&& 2147483647) n N hn
  have k : (0 : Int32).toInt = 0 := by decide
  have h3 : ¬ ((x &&& (2147483647 : Int32)) % n < 0) := by
    rw [Int32.lt_iff_toInt_lt, k, h2.1 (by omega)]
    have := Int.emod_nonneg (x &&& 2147483647).toInt (show (N : Int) ≠ 0 by omega)
    omega
  have h4 := nat_of h3
  have h5 := Int.emod_lt_of_pos (x &&& 2147483647).toInt (show (0 : Int) < N by omega)
  rw [h2.1 (by omega)] at h4
  exact ⟨h3, by omega⟩
theorem own_fs {k : Nat} {L : List Loc} (N : Fr k L) (q : k ≤ a) : Fr k (L ++ [⟨a, sl⟩]) := N.app fun y hy => by cases List.mem_singleton.mp hy; exact q
end OwnKit
section OwnKitW
/-! the same where a String constant may be resolved on the way: the Stand is over 's.setVm vm0', 'Since' speaks of the true start -/
variable {p : Program} {l : Launch} {e : Env} {R : Room} {s : State} {m : MethodId} {args : Array Value} {below : List Frame} {meth : Method} {c : Code} {T T' : State} {locs : List Loc} {cells slots kc ks : Nat} {g g' : JFrame} {Q : Option Value → Heap → List Loc → Prop} {Z : State} {h h' : Heap} {a0 : Array Value} {En : Outcome → State → List Loc → Nat → Nat → Prop} {vm0 : Vm} {k0 : Nat}
theorem own_moreW {o : Outcome} {t : State} {L : List Loc} {k n k' n' : Nat} (hE : ReturnedEndW s o t L k n) (h1 : k ≤ k') (h2 : n ≤ n') : ReturnedEndW s o t L k' n' := ⟨hE.1, hE.2.1, hE.2.2.1, hE.2.2.2.mono h1 h2⟩
def own_CW (l : Launch) (Z : State) (y : MethodName) (bytes : ByteArray) (maxL : Nat) (ret : Option FieldType) (rm : Room) (as' : Array Value) (h0 : Heap) (Q : Option Value → Heap → List Loc → Prop) : Prop :=
  ∀ ws : List Jvm.Cond, MetFree l y (head1 (Jvm.Cond.code y bytes maxL ret :: ws) rm) (fun a U => a = as' ∧ Z.Warmed39 U.vm ∧ U.heap = h0) (fun _ _ _ _ _ => True) (fun _ U o U' => ∃ v L, o = .returned v ∧ Q v U'.heap L ∧ ReturnedEndW U o U' L rm.cells rm.slots)
theorem own_metW {y : MethodName} {bytes : ByteArray} {maxL : Nat} {ret : Option FieldType} {rm : Room} {as' : Array Value} {h0 : Heap} (pl : plainFor y = true)
    (body : ∀ (p : Program) (e : Env) (s : State) (m : MethodId) (below : List Frame) (meth : Method) (c : Code) (s₁ : State), p.tables.exec = Jvm.exec → c.code = bytes → c.maxLocals = maxL → meth.sig.returnType = ret → meth.locks = false → s.vm.findClass y.cls = some m.cls → meth.name = y.name → Z.Warmed39 s.vm → Stand p l e rm (s.setVm s.vm) m as' below meth c s₁ [] 0 0 → s₁.heap = h0 → s.Since s.vm 0 → 0 ≤ h0.size → own_Out p e below (ReturnedEndW s) s₁ (entryFrame m as' maxL) Q rm.cells rm.slots) :
    own_CW l Z y bytes maxL ret rm as' h0 Q := by
  intro ws
  refine MetFree.of_bodySF pl hisR ?_
  intro p e s m args below meth c s₁ Bd hml0 hP hK
  obtain ⟨rfl, hZ, hh⟩ := hP
  exact body p e s m below meth c s₁ Bd.exec Bd.bytes hml0 Bd.returns (BodyLoose.notSynchronized Bd) (findClass_of_methodNamed Bd.named) ((name_of_methodNamed Bd.named Bd.method).1) hZ (Stand.of_body Bd) (by rw [← hh, Bd.state]; rfl) ((State.WarmedH.refl s).since 0) (Nat.zero_le _)
/-! returns -/
theorem own_retVW (X : Stand p l e R (s.setVm vm0) m args below meth c T locs cells slots) (hS : s.Since vm0 k0) (hk : k0 ≤ h.size) (eT : T.heap = h) (hx : p.tables.exec = Jvm.exec) (hlk : meth.locks = false) {pc : Nat} {Ls : Array Slot} {w : Value} {t : FieldType} {i : Instr} {rest : List Value} (hret : meth.sig.returnType = some t) (hn : narrow t w = w)
    (hi : (i = .ireturn ∧ (t = .int ∨ t = .boolean ∨ t = .byte ∨ t = .char ∨ t = .short) ∧ ∃ z, w = .int z) ∨ (i = .lreturn ∧ t = .long ∧ ∃ z, w = .long z) ∨ (i = .dreturn ∧ t = .double ∧ ∃ z, w = .double z) ∨ (i = .freturn ∧ t = .float ∧ ∃ z, w = .float z) ∨ (i = .areturn ∧ t.isReference = true ∧ w.isRef = true))
    (hd : decode c.code pc = .ok (i, 1)) (hc : cells ≤ kc) (hs : slots ≤ ks) (hQ : Q (some w) T.heap locs) : own_Out p e below (ReturnedEndW s) T (mkF m pc Ls (w :: rest)) Q kc ks := by
  obtain ⟨fs, hr, hrun, hended, hE⟩ := X.leaveW hS (by rw [eT]; exact hk) (v := some w) (fun h => by rw [hret] at h; cases h) hlk
  exact ⟨_, _, retOut X hx hret hn hi hd hr, hrun, hended, _, _, rfl, hQ, own_moreW hE hc hs⟩
theorem own_retAW (X : Stand p l e R (s.setVm vm0) m args below meth c T locs cells slots) (hS : s.Since vm0 k0) (hk : k0 ≤ h.size) (eT : T.heap = h) (hx : p.tables.exec = Jvm.exec) (hlk : meth.locks = false) {t : FieldType} (hret : meth.sig.returnType = some t) (ht : t.isReference = true) {pc : Nat} {Ls : Array Slot} {z : Addr} {rest : List Value}
    (hd : decode c.code pc = .ok (.areturn, 1)) (hc : cells ≤ kc) (hs : slots ≤ ks) (hQ : Q (some (.ref z)) T.heap locs) : own_Out p e below (ReturnedEndW s) T (mkF m pc Ls (.ref z :: rest)) Q kc ks :=
  own_retVW X hS hk eT hx hlk hret (by cases t <;> rfl) (Or.inr (Or.inr (Or.inr (Or.inr ⟨rfl, ht, rfl⟩)))) hd hc hs hQ
theorem own_retNW (X : Stand p l e R (s.setVm vm0) m args below meth c T locs cells slots) (hS : s.Since vm0 k0) (hk : k0 ≤ h.size) (eT : T.heap = h) (hx : p.tables.exec = Jvm.exec) (hlk : meth.locks = false) {t : FieldType} (hret : meth.sig.returnType = some t) (ht : t = .boolean ∨ t = .byte ∨ t = .char ∨ t = .short) {pc : Nat} {Ls : Array Slot} {z : Int32} {rest : List Value}
    (hd : decode c.code pc = .ok (.ireturn, 1)) (hc : cells ≤ kc) (hs : slots ≤ ks) (hQ : Q (some (.int (nar t z))) T.heap locs) : own_Out p e below (ReturnedEndW s) T (mkF m pc Ls (.int z :: rest)) Q kc ks := by
  obtain ⟨fs, hr, hrun, hended, hE⟩ := X.leaveW hS (by rw [eT]; exact hk) (v := some (.int (nar t z))) (fun h => by rw [hret] at h; cases h) hlk
  exact ⟨_, _, retN X hx hret ht hd hr, hrun, hended, _, _, rfl, hQ, own_moreW hE hc hs⟩
theorem own_ret0W (X : Stand p l e R (s.setVm vm0) m args below meth c T locs cells slots) (hS : s.Since vm0 k0) (hk : k0 ≤ h.size) (eT : T.heap = h) (hx : p.tables.exec = Jvm.exec) (hlk : meth.locks = false) (hret : meth.sig.returnType = none) {pc : Nat} {Ls : Array Slot}
    (hd : decode c.code pc = .ok (.return_, 1)) (hc : cells ≤ kc) (hs : slots ≤ ks) (hQ : Q none T.heap locs) : own_Out p e below (ReturnedEndW s) T (mkF m pc Ls []) Q kc ks := by
  obtain ⟨fs, hr, hrun, hended, hE⟩ := X.leaveW hS (by rw [eT]; exact hk) (v := none) (fun _ => rfl) hlk
  exact ⟨_, _, X.returnOut hx hret hd hr, hrun, hended, _, _, rfl, hQ, own_moreW hE hc hs⟩
/-! a String constant -/
theorem own_ldcS (X : Stand p l e R (s.setVm vm0) m args below meth c T locs cells slots) (hx : p.tables.exec = Jvm.exec) (hZ : Z.Warmed39 vm0) {own text : String} {index : Nat} (hown : vm0.findClass own = some m.cls) (hS : s.Since vm0 k0) (hk : k0 ≤ h.size) (w : (Jvm.Cond.stringLink own index text).before a0 Z = true) (wS : ∀ a ∈ Bundle.stringAtoms, a.before a0 Z = true)
    (eT : T.heap = h) (hg : g.method = m) (hd : decode c.code g.pc = .ok (.ldc index, 2)) {n : Nat} (hn : 4 * text.toList.length ≤ n) (hbig : n ≤ 536870912) (hc : cells + 2 ≤ R.cells) (hl : slots + (n + 4) ≤ R.slots)
    (k : ∀ (a : Addr) (T' : State) (h' : Heap) (k1 : Nat), Stand p l e R (s.setVm T'.vm) m args below meth c T' locs (cells + 2) (slots + (n + 4)) → T'.heap = h' → Ext h h' → Z.Warmed39 T'.vm → T'.vm.findClass own = some m.cls → s.Since T'.vm k1 → k1 ≤ h'.size → own_Out p e below En T' { g with pc := g.pc + 2, stack := .ref a :: g.stack } Q kc ks) : own_Out p e below En T g Q kc ks := by
  obtain ⟨a, T', h', k1, X', e', E', S', K', Z', o', st⟩ := ldcS X hx hZ hown w wS eT hS hk hg hd hn hbig hc hl
  exact own_to st (k a T' h' k1 X' e' E' Z' o' S' K')
/-! calls of a method that may resolve a String constant -/
theorem own_fold {vm1 : Vm} {n1 : Nat} {own : String} (hZ : Z.Warmed39 vm0) (hown : vm0.findClass own = some m.cls) (hS : s.Since vm0 k0) (h2 : (s.setVm vm0).Since vm1 n1) (hk : k0 ≤ n1) : Z.Warmed39 vm1 ∧ vm1.findClass own = some m.cls ∧ s.Since vm1 n1 :=
  ⟨State.Warmed39.trans (t := s.setVm vm0) hZ h2.1, by rw [h2.1.alike.findClass]; exact hown, hS.trans h2 hk⟩
theorem own_callVW (X : Stand p l e R (s.setVm vm0) m args below meth c T locs cells slots) (hx : p.tables.exec = Jvm.exec) (hZ : Z.Warmed39 vm0) {own C : String} (hown : vm0.findClass own = some m.cls) (hS : s.Since vm0 k0) (hk : k0 ≤ h.size) {index : Nat} {y : MethodName} {bytes : ByteArray} {maxL : Nat} {ret : Option FieldType} {rm : Room} {W : Nat} {Qc : Option Value → Heap → List Loc → Prop} {a : Addr} {argsL rest : List Value}
    (w1 : (Jvm.Cond.methodLink own index y).before a0 Z = true) (w5 : (Jvm.Cond.declares y).before a0 Z = true) (w6 : (Jvm.Cond.selects C y y).before a0 Z = true) (w2 : (Jvm.Cond.instanceMethod y).before a0 Z = true) (w3 : (Jvm.Cond.initialized y.cls).before a0 Z = true) (w4 : (Jvm.Cond.code y bytes maxL ret).before a0 Z = true) (hy : y.cls ≠ "java/lang/invoke/MethodHandle" ∧ y.cls ≠ "java/lang/invoke/VarHandle")
    (hM : own_CW l Z y bytes maxL ret rm (.ref a :: argsL).toArray h Qc) (hf : rm.frames + 1 ≤ R.frames) (hl : W + (maxL + 11) + rm.locals ≤ R.locals) (eT : T.heap = h) (E : Exa Z h a C) (hg : g.method = m) (hsize : g.locals.size = c.maxLocals) (hlen : ∀ sig, parseMethodDescriptor y.desc = some sig → argsL.length = sig.parameters.length)
    (hstack : g.stack = argsL.reverse ++ .ref a :: rest) (hW : 2 * g.monitorRoom + (rest.map fun v => v.category).sum ≤ W) (hd : decode c.code g.pc = .ok (.invokevirtual index, 3)) (hc : cells + rm.cells ≤ R.cells) (hs : slots + rm.slots ≤ R.slots)
    (k : ∀ (v : Option Value) (T' : State) (h' : Heap) (L : List Loc), Stand p l e R (s.setVm T'.vm) m args below meth c T' (locs ++ L) (cells + rm.cells) (slots + rm.slots) → T'.heap = h' → Qc v h' L → Z.Warmed39 T'.vm → T'.vm.findClass own = some m.cls → s.Since T'.vm h'.size → own_Out p e below En T' { g with pc := g.pc + 3, stack := v.toList ++ rest } Q kc ks) : own_Out p e below En T g Q kc ks := by
  obtain ⟨cq, kq, qa, qb, qc⟩ := isOf (s := s.setVm vm0) hZ eT E
  obtain ⟨v, _, ⟨T', L', k', n'⟩, -, X', S', gr, ⟨Lc, hQ, l1, l2, l3⟩, st⟩ := X.virtualBackS hx hown (mvT (s := s.setVm vm0) hZ w1) (mvT (s := s.setVm vm0) hZ w5) (notFace_of_selects (args := #[]) (mvT (s := s.setVm vm0) hZ w6)) (mvT (s := s.setVm vm0) hZ w6) (mvT (s := s.setVm vm0) hZ w2) hy (backOfS (W := W) (hM []) hZ w4 w3 hf hl) qa qc hg hsize (Steps.refl _) hlen hstack hW hd (fun _ _ => ⟨rfl, eT, hc, hs⟩)
  dsimp only [Pt.U, Pt.locs, Pt.cells, Pt.slots] at X' l1 l2 l3 st hQ S' gr
  subst l1 l2 l3
  obtain ⟨f1, f2, f3⟩ := own_fold hZ hown hS S' (Nat.le_trans hk (by rw [← eT]; exact gr))
  exact own_to (fun t k => st.trans k) (k v T' _ Lc X' rfl hQ f1 f2 f3)
/-! a constructor named through a nest mate -/
theorem own_callCN (X : Stand p l e R s m args below meth c T locs cells slots) (hx : p.tables.exec = Jvm.exec) (hZ : Z.Warmed39 s.vm) {own host : String} (hown : s.vm.findClass own = some m.cls) {index : Nat} {y : MethodName} {bytes : ByteArray} {maxL : Nat} {rm : Room} {W : Nat} {Qc : Option Value → Heap → List Loc → Prop} {a : Addr} {argsL rest : List Value}
    (hy1 : y.name = "<init>") (w1 : (Jvm.Cond.methodLinkNest own index y host).before a0 Z = true) (w2 : (Jvm.Cond.instanceMethod y).before a0 Z = true) (w3 : (Jvm.Cond.initialized y.cls).before a0 Z = true) (w4 : (Jvm.Cond.code y bytes maxL none).before a0 Z = true) (hy : y.cls ≠ "java/lang/invoke/MethodHandle" ∧ y.cls ≠ "java/lang/invoke/VarHandle")
    (hM : own_C l Z y bytes maxL none rm (.ref a :: argsL).toArray h Qc) (hf : rm.frames + 1 ≤ R.frames) (hl : W + (maxL + 11) + rm.locals ≤ R.locals) (eT : T.heap = h) (hg : g.method = m) (hsize : g.locals.size = c.maxLocals) (hlen : ∀ sig, parseMethodDescriptor y.desc = some sig → argsL.length = sig.parameters.length)
    (hstack : g.stack = argsL.reverse ++ .ref a :: rest) (hW : 2 * g.monitorRoom + (rest.map fun v => v.category).sum ≤ W) (hd : decode c.code g.pc = .ok (.invokespecial index, 3)) (hc : cells + rm.cells ≤ R.cells) (hs : slots + rm.slots ≤ R.slots)
    (k : ∀ (v : Option Value) (T' : State) (h' : Heap) (L : List Loc), Stand p l e R s m args below meth c T' (locs ++ L) (cells + rm.cells) (slots + rm.slots) → T'.heap = h' → Qc v h' L → own_Out p e below En T' { g with pc := g.pc + 3, stack := v.toList ++ rest } Q kc ks) : own_Out p e below En T g Q kc ks := by
  have w1' : (Jvm.Cond.methodLinkNest own index y host).before args s = true := (Cond.methodLinkNest_wide hZ w1 :)
  obtain ⟨v, _, ⟨T', L', k', n'⟩, -, X', ⟨Lc, hQ, l1, l2, l3⟩, st⟩ := X.specialBackNest hx hy1 hown w1' (mvT hZ w2) (mvT hZ w4) hy (backOf (W := W) (hM []) hZ w4 w3 hf hl) hg hsize (Steps.refl _) hlen hstack hW hd (fun _ _ => ⟨rfl, eT, hc, hs⟩)
  dsimp only [Pt.U, Pt.locs, Pt.cells, Pt.slots] at X' l1 l2 l3 st hQ
  subst l1 l2 l3
  exact own_to (fun t k => st.trans k) (k v T' _ Lc X' rfl hQ)
/-! a constructor whose entry has been resolved -/
theorem own_pool (e : Env) {U : State} {own : String} {cur : ClassId} {idx : Nat} {t : MethodName} {tm : MethodId} (hown : U.vm.findClass own = some cur) (href : (Jvm.Cond.methodRef own idx t).before args U = true) (n1 : U.methodNamed? t = some tm) :
    ∃ (dk : Class) (cf : ClassFile) (ci nt : Nat), U.vm.classes[cur]? = some dk ∧ dk.cf = some cf ∧ (cf.constantPool[idx]? = some (.methodref ci nt) ∨ cf.constantPool[idx]? = some (.interfaceMethodref ci nt)) ∧ U.vm.classReady cur ci tm.cls := by
  obtain ⟨m', c', ci, b, q1, q2, q3, q4, q5⟩ := Cond.methodRef_spec (e := e) hown href
  have hnames : U.names own idx (.method t.cls t.name t.desc) = true := by
    simp only [Cond.before, Cond.holds, Cond.value, hown, q1] at href
    simp only [beq_iff_eq, Option.some.injEq, Bool.and_eq_true] at href
    exact href.1.1
  obtain ⟨cp, hcp, hn⟩ := State.names_spec hnames
  obtain ⟨ci', nt, hentry, hnt, -⟩ := namesOf?_method hn
  obtain ⟨k, cf, hk, hcf, rfl⟩ := State.poolOf?_spec hown hcp
  obtain ⟨b', hask⟩ := memberRef_ask' (e := e) hk hcf hentry hnt
  rw [hask] at q4
  cases q4
  have hcc : tm.cls = c' := Option.some.inj ((findClass_of_methodNamed n1).symm.trans q3)
  exact ⟨k, cf, _, nt, hk, hcf, hentry, hcc ▸ q5⟩
theorem own_initRef {tb : Tables} [Ours tb] {U : State} {mm : MethodId} {cc : Code} (h : At U mm cc below) (hexec : tb.exec = Jvm.exec) {own : String} (hown : U.vm.findClass own = some mm.cls) {idx : Nat} {t : MethodName} (ht1 : t.name = "<init>") (hnot : t.cls ≠ "java/lang/invoke/MethodHandle" ∧ t.cls ≠ "java/lang/invoke/VarHandle")
    {bytes : ByteArray} {maxL : Nat} (href : (Jvm.Cond.methodRef own idx t).before args U = true) (hinst : (Jvm.Cond.instanceMethod t).before args U = true) (hcode : (Jvm.Cond.code t bytes maxL none).before args U = true) {f : JFrame} (hf : f.method = mm) {a : Addr} {argsL rest : List Value}
    (hlen : ∀ sig, parseMethodDescriptor t.desc = some sig → argsL.length = sig.parameters.length) (hstack : f.stack = argsL.reverse ++ .ref a :: rest) (hd : decode cc.code f.pc = .ok (.invokespecial idx, 3)) :
    ∃ tm, U.methodNamed? t = some tm ∧ ∀ target, (∀ acts, Steps tb e below (doInvoke e (U.setTop { f with stack := rest }) acts tm (.ref a :: argsL).toArray).1 target) → Steps tb e below (U.setTop f) target := by
  subst hf
  obtain ⟨tm, mt, n1, n2, n3, n4⟩ := Cond.instanceMethod_spec hinst
  obtain ⟨mt', cd, n2', -, -, -, -, -, -, hsig⟩ := Cond.code_spec n1 hcode
  cases n2.symm.trans n2'
  obtain ⟨kt, hkt, -⟩ := className_of_methodNamed n1
  obtain ⟨hname, hdesc⟩ := name_of_methodNamed n1 n2
  have hfm := State.methodFound?_of_named n1 hnot
  obtain ⟨m', c', ci, b, q1, q2, q3, q4, q5⟩ := Cond.methodRef_spec (e := e) hown href
  cases hfm.symm.trans q1
  refine ⟨tm, n1, fun target hrest => ?_⟩
  have hfound : lookupSpecial U.vm tm.cls "<init>" mt.desc = .method tm := by rw [hdesc, ← ht1]; exact lookupSpecial_of_named n1 n2 n3
  have hpool := own_pool e hown href n1
  jvm_step h [hexec, hd, invokespecial.wp_init (e := e) (s := U) (k := kt) (meth := mt) (m := tm) (a := a) (args := argsL) (rest := rest) (f := f) h.top hpool q2 hkt n2 (by rw [hname]; exact ht1) n3 n4 hfound (hlen _ hsig) hstack]
  exact hrest
theorem own_callCR (X : Stand p l e R s m args below meth c T locs cells slots) (hx : p.tables.exec = Jvm.exec) (hZ : Z.Warmed39 s.vm) {own : String} (hown : s.vm.findClass own = some m.cls) {index : Nat} {y : MethodName} {bytes : ByteArray} {maxL : Nat} {rm : Room} {W : Nat} {Qc : Option Value → Heap → List Loc → Prop} {a : Addr} {argsL rest : List Value}
    (hy1 : y.name = "<init>") (w1 : (Jvm.Cond.methodRef own index y).before a0 Z = true) (w2 : (Jvm.Cond.instanceMethod y).before a0 Z = true) (w3 : (Jvm.Cond.initialized y.cls).before a0 Z = true) (w4 : (Jvm.Cond.code y bytes maxL none).before a0 Z = true) (hy : y.cls ≠ "java/lang/invoke/MethodHandle" ∧ y.cls ≠ "java/lang/invoke/VarHandle")
    (hM : own_C l Z y bytes maxL none rm (.ref a :: argsL).toArray h Qc) (hf : rm.frames + 1 ≤ R.frames) (hl : W + (maxL + 11) + rm.locals ≤ R.locals) (eT : T.heap = h) (hg : g.method = m) (hsize : g.locals.size = c.maxLocals) (hlen : ∀ sig, parseMethodDescriptor y.desc = some sig → argsL.length = sig.parameters.length)
    (hstack : g.stack = argsL.reverse ++ .ref a :: rest) (hW : 2 * g.monitorRoom + (rest.map fun v => v.category).sum ≤ W) (hd : decode c.code g.pc = .ok (.invokespecial index, 3)) (hc : cells + rm.cells ≤ R.cells) (hs : slots + rm.slots ≤ R.slots)
    (k : ∀ (v : Option Value) (T' : State) (h' : Heap) (L : List Loc), Stand p l e R s m args below meth c T' (locs ++ L) (cells + rm.cells) (slots + rm.slots) → T'.heap = h' → Qc v h' L → own_Out p e below En T' { g with pc := g.pc + 3, stack := v.toList ++ rest } Q kc ks) : own_Out p e below En T g Q kc ks := by
  have hT : Z.Warmed39 T.vm := wtrans hZ X.warmed
  obtain ⟨mz, _, nz, -⟩ := Cond.instanceMethod_spec w2
  have w1' : (Jvm.Cond.methodRef own index y).before a0 T = true := (Cond.methodRef_warmed39 hT nz hy w1 :)
  have hownT : T.vm.findClass own = some m.cls := by rw [X.warmed.alike.findClass]; exact hown
  obtain ⟨mk, n1, hstep⟩ := own_initRef (e := e) X.here hx hownT hy1 hy w1' (mvT hT w2) (mvT hT w4) (f := g) hg hlen hstack hd
  have hK := backOf (s := s) (p := p) (e := e) (below := below) (args := args) (len := 3) (R := R) (W := W) (hM []) hZ w4 w3 hf hl
  obtain ⟨v, ⟨T', L', k', n'⟩, X', ⟨Lc, hQ, l1, l2, l3⟩, hsteps⟩ := hK m meth c ⟨T, locs, cells, slots⟩ { g with stack := rest } (.invokespecial index) mk (.ref a :: argsL).toArray X hg hsize hd hW n1 ⟨rfl, eT, hc, hs⟩
  dsimp only [Pt.U, Pt.locs, Pt.cells, Pt.slots] at X' l1 l2 l3 hsteps hQ
  subst l1 l2 l3
  exact own_to (fun t k => (hstep _ fun acts => by rw [doInvoke_state]; exact Steps.refl _).trans (hsteps.trans k)) (k v T' _ Lc X' rfl hQ)
end OwnKitW
theorem own_atoms : ∀ a ∈ Bundle.stringAtoms, a ∈ tables_1 := by decide +kernel
theorem d2_0 : decode prog_57_method_2_code 0 = .ok (.aload_n 0, 1) := by decide +kernel
theorem d2_1 : decode prog_57_method_2_code 1 = .ok (.invokespecial 7, 3) := by decide +kernel
theorem d2_4 : decode prog_57_method_2_code 4 = .ok (.aload_n 0, 1) := by decide +kernel
theorem d2_5 : decode prog_57_method_2_code 5 = .ok (.aload_n 1, 1) := by decide +kernel
theorem d2_6 : decode prog_57_method_2_code 6 = .ok (.putfield 12, 3) := by decide +kernel
theorem d2_9 : decode prog_57_method_2_code 9 = .ok (.aload_n 0, 1) := by decide +kernel
theorem d2_10 : decode prog_57_method_2_code 10 = .ok (.iload_n 2, 1) := by decide +kernel
theorem d2_11 : decode prog_57_method_2_code 11 = .ok (.putfield 16, 3) := by decide +kernel
theorem d2_14 : decode prog_57_method_2_code 14 = .ok (.aload_n 0, 1) := by decide +kernel
theorem d2_15 : decode prog_57_method_2_code 15 = .ok (.iload_n 3, 1) := by decide +kernel
theorem d2_16 : decode prog_57_method_2_code 16 = .ok (.putfield 20, 3) := by decide +kernel
theorem d2_19 : decode prog_57_method_2_code 19 = .ok (.return_, 1) := by decide +kernel
theorem pn_0 : plainName "com/example/pathwarden/pathwarden/util/DerReader" = true := by first | (simp [plainName, overriddenIn]; done) | decide +kernel
theorem ef_2 (m : MethodId) (o0 : Addr) (ab : Addr) (u2 : Int32) (u3 : Int32) : entryFrame m #[(.ref o0), (.ref ab), (.int u2), (.int u3)] 4 = mkF m 0 #[.val (.ref o0), .val (.ref ab), .val (.int u2), .val (.int u3)] [] := by first | (simp [entryFrame, mkF, argsToLocals, Value.category]; done) | rfl
def Q2 (Z : State) (o0 : Addr) (ab : Addr) (u2 : Int32) (u3 : Int32) (h0 : Heap) (n0 : Nat) (v : Option Value) (h : Heap) (L : List Loc) : Prop := v = none ∧ Fr n0 L ∧ Keep h0 h [o0] ∧ Fld Z h o0 "com/example/pathwarden/pathwarden/util/DerReader" "bytes" "[B" (.ref ab) ∧ Fld Z h o0 "com/example/pathwarden/pathwarden/util/DerReader" "position" "I" (.int u2) ∧ Fld Z h o0 "com/example/pathwarden/pathwarden/util/DerReader" "end" "I" (.int u3)
set_option maxRecDepth 65536 in
set_option maxHeartbeats 40000000 in
theorem rm2 (l : Launch) (Z : State) (a0 : Array Value) (hw : ∀ d ∈ tables_1, d.before a0 Z = true) (o0 : Addr) (ab : Addr) (u2 : Int32) (u3 : Int32) (h0 : Heap) (n0 : Nat) (Z0 : n0 ≤ h0.size) (E_o0 : Exa Z h0 o0 "com/example/pathwarden/pathwarden/util/DerReader") (F_o0_bytes : Fld Z h0 o0 "com/example/pathwarden/pathwarden/util/DerReader" "bytes" "[B" .null) (F_o0_position : Fld Z h0 o0 "com/example/pathwarden/pathwarden/util/DerReader" "position" "I" (.int (0 : Int32))) (F_o0_end : Fld Z h0 o0 "com/example/pathwarden/pathwarden/util/DerReader" "end" "I" (.int (0 : Int32))) (g_o0 : n0 ≤ o0) :
    own_C l Z (⟨"com/example/pathwarden/pathwarden/util/DerReader", "<init>", "([BII)V"⟩ : MethodName) prog_57_method_2_code 4 none ({ frames := 1, cells := 0, slots := 0, locals := 12 } : Room) #[(.ref o0), (.ref ab), (.int u2), (.int u3)] h0 (Q2 Z o0 ab u2 u3 h0 n0) := by
  refine own_met (plainFor_of_name pn_0) ?_
  intro p e s m below meth c s₁ hx hby hml hret hlk hown hnm hZ X0 e0
  refine own_cast (ef_2 m o0 ab u2 u3) ?_
  have N0 := Fr.nil n0
  have K := Keep.refl h0 [o0]
  show own_Out p e below _ s₁ (mkF m 0 #[.val (.ref o0), .val (.ref ab), .val (.int u2), .val (.int u3)] []) _ _ _
  refine own_to (fun t k => XS.aloadN X0.here hx rfl (hb hby d2_0) rfl rfl k) ?_
  show own_Out p e below _ s₁ (mkF m 1 #[.val (.ref o0), .val (.ref ab), .val (.int u2), .val (.int u3)] [(.ref o0)]) _ _ _
  obtain ⟨T1, X1, e1, st1⟩ := initO X0 hx hZ hown (hw _ (List.mem_of_getElem? (i := 10) rfl)) (hw _ (List.mem_of_getElem? (i := 11) rfl)) (hw _ (List.mem_of_getElem? (i := 12) rfl)) e0 (g := (mkF m 1 #[.val (.ref o0), .val (.ref ab), .val (.int u2), .val (.int u3)] [(.ref o0)])) rfl (by rw [hml]; rfl) rfl (hb hby d2_1) (by decide) (W := 0) (by show 2 * 0 + _ ≤ _; exact Nat.le_of_eq rfl) (by decide)
  refine own_to st1 ?_
  show own_Out p e below _ T1 (mkF m 4 #[.val (.ref o0), .val (.ref ab), .val (.int u2), .val (.int u3)] []) _ _ _
  refine own_to (fun t k => XS.aloadN X1.here hx rfl (hb hby d2_4) rfl rfl k) ?_
  show own_Out p e below _ T1 (mkF m 5 #[.val (.ref o0), .val (.ref ab), .val (.int u2), .val (.int u3)] [(.ref o0)]) _ _ _
  refine own_to (fun t k => XS.aloadN X1.here hx rfl (hb hby d2_5) rfl rfl k) ?_
  show own_Out p e below _ T1 (mkF m 6 #[.val (.ref o0), .val (.ref ab), .val (.int u2), .val (.int u3)] [(.ref ab), (.ref o0)]) _ _ _
  refine own_putF X1 hx hZ hown (hw _ (List.mem_of_getElem? (i := 13) rfl)) e1 F_o0_bytes E_o0 (Or.inr ⟨(hw _ (List.mem_of_getElem? (i := 14) rfl)), rfl, hnm⟩) (hw _ (List.mem_of_getElem? (i := 1) rfl)) (ty := (.array .byte)) (by decide) rfl rfl rfl rfl (hb hby d2_6) fun T2 hh2 X2 e2 W2 => ?_
  have E_o0 := E_o0.wr W2
  have F_o0_bytes := F_o0_bytes.same W2
  have F_o0_position := F_o0_position.other W2 (Or.inr (slot_ne (Or.inl (hw _ (List.mem_of_getElem? (i := 16) rfl))) (Or.inr (hw _ (List.mem_of_getElem? (i := 14) rfl))) (by decide) (t := .int) (t' := (.array .byte)) (by decide) (by decide)))
  have F_o0_end := F_o0_end.other W2 (Or.inr (slot_ne (Or.inr (hw _ (List.mem_of_getElem? (i := 18) rfl))) (Or.inr (hw _ (List.mem_of_getElem? (i := 14) rfl))) (by decide) (t := .int) (t' := (.array .byte)) (by decide) (by decide)))
  have K := K.wr W2 (Or.inl (by simp))
  have Z0 := Nat.le_trans Z0 (Nat.le_of_eq W2.size.symm)
  have N2 := own_fs (sl := Jvm.RoadKit.slotOf Z "com/example/pathwarden/pathwarden/util/DerReader" "bytes" "[B") N0 g_o0
  show own_Out p e below _ T2 (mkF m 9 #[.val (.ref o0), .val (.ref ab), .val (.int u2), .val (.int u3)] []) _ _ _
  refine own_to (fun t k => XS.aloadN X2.here hx rfl (hb hby d2_9) rfl rfl k) ?_
  show own_Out p e below _ T2 (mkF m 10 #[.val (.ref o0), .val (.ref ab), .val (.int u2), .val (.int u3)] [(.ref o0)]) _ _ _
  refine own_to (fun t k => XS.iloadN X2.here hx rfl (hb hby d2_10) rfl k) ?_
  show own_Out p e below _ T2 (mkF m 11 #[.val (.ref o0), .val (.ref ab), .val (.int u2), .val (.int u3)] [(.int u2), (.ref o0)]) _ _ _
  refine own_putF X2 hx hZ hown (hw _ (List.mem_of_getElem? (i := 15) rfl)) e2 F_o0_position E_o0 (Or.inl (hw _ (List.mem_of_getElem? (i := 16) rfl))) (hw _ (List.mem_of_getElem? (i := 1) rfl)) (ty := .int) (by decide) rfl rfl rfl rfl (hb hby d2_11) fun T3 hh3 X3 e3 W3 => ?_
  have E_o0 := E_o0.wr W3
  have F_o0_bytes := F_o0_bytes.other W3 (Or.inr (slot_ne (Or.inr (hw _ (List.mem_of_getElem? (i := 14) rfl))) (Or.inl (hw _ (List.mem_of_getElem? (i := 16) rfl))) (by decide) (t := (.array .byte)) (t' := .int) (by decide) (by decide)))
  have F_o0_position := F_o0_position.same W3
  have F_o0_end := F_o0_end.other W3 (Or.inr (slot_ne (Or.inr (hw _ (List.mem_of_getElem? (i := 18) rfl))) (Or.inl (hw _ (List.mem_of_getElem? (i := 16) rfl))) (by decide) (t := .int) (t' := .int) (by decide) (by decide)))
  have K := K.wr W3 (Or.inl (by simp))
  have Z0 := Nat.le_trans Z0 (Nat.le_of_eq W3.size.symm)
  have N3 := own_fs (sl := Jvm.RoadKit.slotOf Z "com/example/pathwarden/pathwarden/util/DerReader" "position" "I") N2 g_o0
  show own_Out p e below _ T3 (mkF m 14 #[.val (.ref o0), .val (.ref ab), .val (.int u2), .val (.int u3)] []) _ _ _
  refine own_to (fun t k => XS.aloadN X3.here hx rfl (hb hby d2_14) rfl rfl k) ?_
  show own_Out p e below _ T3 (mkF m 15 #[.val (.ref o0), .val (.ref ab), .val (.int u2), .val (.int u3)] [(.ref o0)]) _ _ _
  refine own_to (fun t k => XS.iloadN X3.here hx rfl (hb hby d2_15) rfl k) ?_
  show own_Out p e below _ T3 (mkF m 16 #[.val (.ref o0), .val (.ref ab), .val (.int u2), .val (.int u3)] [(.int u3), (.ref o0)]) _ _ _
  refine own_putF X3 hx hZ hown (hw _ (List.mem_of_getElem? (i := 17) rfl)) e3 F_o0_end E_o0 (Or.inr ⟨(hw _ (List.mem_of_getElem? (i := 18) rfl)), rfl, hnm⟩) (hw _ (List.mem_of_getElem? (i := 1) rfl)) (ty := .int) (by decide) rfl rfl rfl rfl (hb hby d2_16) fun T4 hh4 X4 e4 W4 => ?_
  have E_o0 := E_o0.wr W4
  have F_o0_bytes := F_o0_bytes.other W4 (Or.inr (slot_ne (Or.inr (hw _ (List.mem_of_getElem? (i := 14) rfl))) (Or.inr (hw _ (List.mem_of_getElem? (i := 18) rfl))) (by decide) (t := (.array .byte)) (t' := .int) (by decide) (by decide)))
  have F_o0_position := F_o0_position.other W4 (Or.inr (slot_ne (Or.inl (hw _ (List.mem_of_getElem? (i := 16) rfl))) (Or.inr (hw _ (List.mem_of_getElem? (i := 18) rfl))) (by decide) (t := .int) (t' := .int) (by decide) (by decide)))
  have F_o0_end := F_o0_end.same W4
  have K := K.wr W4 (Or.inl (by simp))
  have Z0 := Nat.le_trans Z0 (Nat.le_of_eq W4.size.symm)
  have N4 := own_fs (sl := Jvm.RoadKit.slotOf Z "com/example/pathwarden/pathwarden/util/DerReader" "end" "I") N3 g_o0
  show own_Out p e below _ T4 (mkF m 19 #[.val (.ref o0), .val (.ref ab), .val (.int u2), .val (.int u3)] []) _ _ _
  refine own_ret0 X4 hx hlk hret (hb hby d2_19) (by decide) (by decide) ?_
  rw [e4]
  exact ⟨rfl, N4, K, F_o0_bytes, F_o0_position, F_o0_end⟩
theorem d1_0 : decode prog_57_method_1_code 0 = .ok (.aload_n 0, 1) := by decide +kernel
theorem d1_1 : decode prog_57_method_1_code 1 = .ok (.aload_n 1, 1) := by decide +kernel
theorem d1_2 : decode prog_57_method_1_code 2 = .ok (.iconst 0, 1) := by decide +kernel
theorem d1_3 : decode prog_57_method_1_code 3 = .ok (.aload_n 1, 1) := by decide +kernel
theorem d1_4 : decode prog_57_method_1_code 4 = .ok (.arraylength, 1) := by decide +kernel
theorem d1_5 : decode prog_57_method_1_code 5 = .ok (.invokespecial 1, 3) := by decide +kernel
theorem d1_8 : decode prog_57_method_1_code 8 = .ok (.return_, 1) := by decide +kernel
theorem ef_1 (m : MethodId) (o0 : Addr) (ab : Addr) : entryFrame m #[(.ref o0), (.ref ab)] 2 = mkF m 0 #[.val (.ref o0), .val (.ref ab)] [] := by first | (simp [entryFrame, mkF, argsToLocals, Value.category]; done) | rfl
def Q1 (Z : State) (o0 : Addr) (ab : Addr) (N : Nat) (fb : Nat → Int32) (h0 : Heap) (n0 : Nat) (v : Option Value) (h : Heap) (L : List Loc) : Prop := v = none ∧ Fr n0 L ∧ Keep h0 h [o0] ∧ Fld Z h o0 "com/example/pathwarden/pathwarden/util/DerReader" "bytes" "[B" (.ref ab) ∧ Fld Z h o0 "com/example/pathwarden/pathwarden/util/DerReader" "position" "I" (.int (0 : Int32)) ∧ Fld Z h o0 "com/example/pathwarden/pathwarden/util/DerReader" "end" "I" (.int (Nat.toInt32 N))
theorem pd_0 : parseMethodDescriptor "([BII)V" = some ⟨[(.array .byte), .int, .int], none⟩ := by decide +kernel
set_option maxRecDepth 65536 in
set_option maxHeartbeats 40000000 in
theorem rm1 (l : Launch) (Z : State) (a0 : Array Value) (hw : ∀ d ∈ tables_1, d.before a0 Z = true) (o0 : Addr) (ab : Addr) (N : Nat) (fb : Nat → Int32) (h0 : Heap) (n0 : Nat) (Z0 : n0 ≤ h0.size) (E_o0 : Exa Z h0 o0 "com/example/pathwarden/pathwarden/util/DerReader") (F_o0_bytes : Fld Z h0 o0 "com/example/pathwarden/pathwarden/util/DerReader" "bytes" "[B" .null) (F_o0_position : Fld Z h0 o0 "com/example/pathwarden/pathwarden/util/DerReader" "position" "I" (.int (0 : Int32))) (F_o0_end : Fld Z h0 o0 "com/example/pathwarden/pathwarden/util/DerReader" "end" "I" (.int (0 : Int32))) (g_o0 : n0 ≤ o0) (A_ab : own_A Z h0 ab .byte N fb) (ne_ab_o0 : ab ≠ o0) :
    own_C l Z (⟨"com/example/pathwarden/pathwarden/util/DerReader", "<init>", "([B)V"⟩ : MethodName) prog_57_method_1_code 2 none ({ frames := 2, cells := 0, slots := 0, locals := 27 } : Room) #[(.ref o0), (.ref ab)] h0 (Q1 Z o0 ab N fb h0 n0) := by
  refine own_met (plainFor_of_name pn_0) ?_
  intro p e s m below meth c s₁ hx hby hml hret hlk hown hnm hZ X0 e0
  refine own_cast (ef_1 m o0 ab) ?_
  have N0 := Fr.nil n0
  have ne_o0_ab := Ne.symm ne_ab_o0
  have K := Keep.refl h0 [o0]
  show own_Out p e below _ s₁ (mkF m 0 #[.val (.ref o0), .val (.ref ab)] []) _ _ _
  refine own_to (fun t k => XS.aloadN X0.here hx rfl (hb hby d1_0) rfl rfl k) ?_
  show own_Out p e below _ s₁ (mkF m 1 #[.val (.ref o0), .val (.ref ab)] [(.ref o0)]) _ _ _
  refine own_to (fun t k => XS.aloadN X0.here hx rfl (hb hby d1_1) rfl rfl k) ?_
  show own_Out p e below _ s₁ (mkF m 2 #[.val (.ref o0), .val (.ref ab)] [(.ref ab), (.ref o0)]) _ _ _
  refine own_to (fun t k => XS.iconst X0.here hx rfl (hb hby d1_2) k) ?_
  show own_Out p e below _ s₁ (mkF m 3 #[.val (.ref o0), .val (.ref ab)] [(.int (0 : Int32)), (.ref ab), (.ref o0)]) _ _ _
  refine own_to (fun t k => XS.aloadN X0.here hx rfl (hb hby d1_3) rfl rfl k) ?_
  show own_Out p e below _ s₁ (mkF m 4 #[.val (.ref o0), .val (.ref ab)] [(.ref ab), (.int (0 : Int32)), (.ref ab), (.ref o0)]) _ _ _
  refine own_len X0 hx hZ e0 A_ab rfl rfl (hb hby d1_4) ?_
  show own_Out p e below _ s₁ (mkF m 5 #[.val (.ref o0), .val (.ref ab)] [(.int (Nat.toInt32 N)), (.int (0 : Int32)), (.ref ab), (.ref o0)]) _ _ _
  refine own_callC X0 hx hZ hown (a := o0) (argsL := [(.ref ab), (.int (0 : Int32)), (.int (Nat.toInt32 N))]) (rest := []) rfl (hw _ (List.mem_of_getElem? (i := 7) rfl)) (hw _ (List.mem_of_getElem? (i := 8) rfl)) (hw _ (List.mem_of_getElem? (i := 2) rfl)) (hw _ (List.mem_of_getElem? (i := 9) rfl)) (by decide) (rm2 l Z a0 hw o0 ab (0 : Int32) (Nat.toInt32 N) h0 n0 Z0 E_o0 F_o0_bytes F_o0_position F_o0_end g_o0) (by decide) (by decide) e0 rfl (by rw [hml]; rfl) (lenOf pd_0 rfl) rfl (W := 0) (by show 2 * 0 + _ ≤ _; exact Nat.le_of_eq rfl) (hb hby d1_5) (by decide) (by decide) fun v1 T1 hh1 L1 X1 e1 hQ1 => ?_
  obtain ⟨rfl, NL1, KK1, P1_0, P1_1, P1_2⟩ := hQ1
  have E_o0 := E_o0.keep KK1
  have A_ab := A_ab.keep KK1 (by simp [ne_ab_o0])
  have F_o0_bytes := P1_0
  have F_o0_position := P1_1
  have F_o0_end := P1_2
  have K := K.trans KK1 (by intro z hz; simp only [List.mem_cons, List.not_mem_nil, or_false] at hz; subst hz; exact Or.inl (by simp))
  have Z0 := Nat.le_trans Z0 KK1.1
  have N1 := Fr.app N0 NL1
  show own_Out p e below _ T1 (mkF m 8 #[.val (.ref o0), .val (.ref ab)] []) _ _ _
  refine own_ret0 X1 hx hlk hret (hb hby d1_8) (by decide) (by decide) ?_
  rw [e1]
  exact ⟨rfl, N1, K, F_o0_bytes, F_o0_position, F_o0_end⟩
theorem d5_0 : decode prog_57_method_3_code 0 = .ok (.aload_n 0, 1) := by decide +kernel
theorem d5_1 : decode prog_57_method_3_code 1 = .ok (.getfield 16, 3) := by decide +kernel
theorem d5_4 : decode prog_57_method_3_code 4 = .ok (.aload_n 0, 1) := by decide +kernel
theorem d5_5 : decode prog_57_method_3_code 5 = .ok (.getfield 20, 3) := by decide +kernel
theorem d5_8 : decode prog_57_method_3_code 8 = .ok (.if_icmp .ge 7, 3) := by decide +kernel
theorem d5_11 : decode prog_57_method_3_code 11 = .ok (.iconst 1, 1) := by decide +kernel
theorem d5_12 : decode prog_57_method_3_code 12 = .ok (.goto 4, 3) := by decide +kernel
theorem d5_15 : decode prog_57_method_3_code 15 = .ok (.iconst 0, 1) := by decide +kernel
theorem d5_16 : decode prog_57_method_3_code 16 = .ok (.ireturn, 1) := by decide +kernel
theorem ef_5 (m : MethodId) (o0 : Addr) : entryFrame m #[(.ref o0)] 1 = mkF m 0 #[.val (.ref o0)] [] := by first | (simp [entryFrame, mkF, argsToLocals, Value.category]; done) | rfl
def R5 (o0 : Addr) (fp : Int32) (fq : Int32) : Int32 := (if fp < fq then (1 : Int32) else (0 : Int32))
def Q5 (Z : State) (o0 : Addr) (fp : Int32) (fq : Int32) (h0 : Heap) (n0 : Nat) (v : Option Value) (h : Heap) (L : List Loc) : Prop := v = some (.int (R5 o0 fp fq)) ∧ Fr n0 L ∧ h = h0
set_option maxRecDepth 65536 in
set_option maxHeartbeats 40000000 in
theorem rm5 (l : Launch) (Z : State) (a0 : Array Value) (hw : ∀ d ∈ tables_1, d.before a0 Z = true) (o0 : Addr) (fp : Int32) (fq : Int32) (h0 : Heap) (n0 : Nat) (Z0 : n0 ≤ h0.size) (F_o0_position : Fld Z h0 o0 "com/example/pathwarden/pathwarden/util/DerReader" "position" "I" (.int fp)) (F_o0_end : Fld Z h0 o0 "com/example/pathwarden/pathwarden/util/DerReader" "end" "I" (.int fq)) :
    own_C l Z (⟨"com/example/pathwarden/pathwarden/util/DerReader", "hasNext", "()Z"⟩ : MethodName) prog_57_method_3_code 1 (some .boolean) ({ frames := 0, cells := 0, slots := 0, locals := 0 } : Room) #[(.ref o0)] h0 (Q5 Z o0 fp fq h0 n0) := by
  refine own_met (plainFor_of_name pn_0) ?_
  intro p e s m below meth c s₁ hx hby hml hret hlk hown hnm hZ X0 e0
  refine own_cast (ef_5 m o0) ?_
  have N0 := Fr.nil n0
  show own_Out p e below _ s₁ (mkF m 0 #[.val (.ref o0)] []) _ _ _
  refine own_to (fun t k => XS.aloadN X0.here hx rfl (hb hby d5_0) rfl rfl k) ?_
  show own_Out p e below _ s₁ (mkF m 1 #[.val (.ref o0)] [(.ref o0)]) _ _ _
  refine own_getF X0 hx hZ hown (hw _ (List.mem_of_getElem? (i := 15) rfl)) e0 F_o0_position rfl rfl (hb hby d5_1) fun T1 X1 e1 => ?_
  show own_Out p e below _ T1 (mkF m 4 #[.val (.ref o0)] [(.int fp)]) _ _ _
  refine own_to (fun t k => XS.aloadN X1.here hx rfl (hb hby d5_4) rfl rfl k) ?_
  show own_Out p e below _ T1 (mkF m 5 #[.val (.ref o0)] [(.ref o0), (.int fp)]) _ _ _
  refine own_getF X1 hx hZ hown (hw _ (List.mem_of_getElem? (i := 17) rfl)) e1 F_o0_end rfl rfl (hb hby d5_5) fun T2 X2 e2 => ?_
  show own_Out p e below _ T2 (mkF m 8 #[.val (.ref o0)] [(.int fq), (.int fp)]) _ _ _
  by_cases hc8 : fp < fq
  · refine own_to (fun t k => XS.icmpNo X2.here hx rfl (hb hby d5_8) rfl (tlt hc8).2.1 k) ?_
    show own_Out p e below _ T2 (mkF m 11 #[.val (.ref o0)] []) _ _ _
    refine own_to (fun t k => XS.iconst X2.here hx rfl (hb hby d5_11) k) ?_
    show own_Out p e below _ T2 (mkF m 12 #[.val (.ref o0)] [(.int (1 : Int32))]) _ _ _
    refine own_to (fun t k => XS.goto X2.here hx rfl (pc0 := 12) (pc' := 16) rfl (hb hby d5_12) (by decide) (by decide) k) ?_
    show own_Out p e below _ T2 (mkF m 16 #[.val (.ref o0)] [(.int (1 : Int32))]) _ _ _
    refine own_retV X2 hx hlk (w := .int (1 : Int32)) hret rfl (Or.inl ⟨rfl, by simp, _, rfl⟩) (hb hby d5_16) (by decide) (by decide) ?_
    rw [e2]
    exact ⟨(by unfold R5; rw [if_pos hc8]), N0, rfl⟩
  · refine own_to (fun t k => XS.icmpYes X2.here hx rfl (pc0 := 8) (pc' := 15) rfl (hb hby d5_8) rfl (flt hc8).2.1 (by decide) (by decide) k) ?_
    show own_Out p e below _ T2 (mkF m 15 #[.val (.ref o0)] []) _ _ _
    refine own_to (fun t k => XS.iconst X2.here hx rfl (hb hby d5_15) k) ?_
    show own_Out p e below _ T2 (mkF m 16 #[.val (.ref o0)] [(.int (0 : Int32))]) _ _ _
    refine own_retV X2 hx hlk (w := .int (0 : Int32)) hret rfl (Or.inl ⟨rfl, by simp, _, rfl⟩) (hb hby d5_16) (by decide) (by decide) ?_
    rw [e2]
    exact ⟨(by unfold R5; rw [if_neg hc8]), N0, rfl⟩
theorem own_hn1 (o : Addr) (a b : Int32) (h : a < b) : R5 o a b = 1 := by unfold R5; rw [if_pos h]
theorem own_hn0 (o : Addr) (a b : Int32) (h : ¬ a < b) : R5 o a b = 0 := by unfold R5; rw [if_neg h]
theorem own_hit {f : Nat → Int32} {j i : Nat} {x : Int32} (h : i = j) : own_upd f j x i = x := if_pos h
theorem own_miss {f : Nat → Int32} {j i : Nat} {x : Int32} (h : i ≠ j) : own_upd f j x i = f i := if_neg h
theorem own_n0 : (0 : Int32).toNatClampNeg = 0 := by decide
theorem own_n1 : (1 : Int32).toNatClampNeg = 1 := by decide
theorem own_n2 : (2 : Int32).toNatClampNeg = 2 := by decide
theorem own_n3 : (3 : Int32).toNatClampNeg = 3 := by decide
theorem own_n4 : (4 : Int32).toNatClampNeg = 4 := by decide
theorem own_n5 : (5 : Int32).toNatClampNeg = 5 := by decide
theorem own_by (x : Int32) : (nar .byte (x.toInt8.toInt32) &&& (255 : Int32)) = (x &&& (255 : Int32)) := by
  have h1 := c_i2b x
  have h2 := c_i2b x.toInt8.toInt32
  have h3 := c_mask x 255 8 (by decide) (by decide)
  have h4 := c_mask (nar .byte x.toInt8.toInt32) 255 8 (by decide) (by decide)
  apply Int32.toInt_inj.mp
  rw [h3, h4]
  show x.toInt8.toInt32.toInt8.toInt32.toInt % _ = _
  omega
theorem d8_0 : decode prog_57_method_8_code 0 = .ok (.aload_n 0, 1) := by decide +kernel
theorem d8_1 : decode prog_57_method_8_code 1 = .ok (.invokevirtual 23, 3) := by decide +kernel
theorem d8_4 : decode prog_57_method_8_code 4 = .ok (.ifCond .ne 17, 3) := by decide +kernel
theorem d8_7 : decode prog_57_method_8_code 7 = .ok (.new 33, 3) := by decide +kernel
theorem d8_10 : decode prog_57_method_8_code 10 = .ok (.dup, 1) := by decide +kernel
theorem d8_11 : decode prog_57_method_8_code 11 = .ok (.aload_n 1, 1) := by decide +kernel
theorem d8_21 : decode prog_57_method_8_code 21 = .ok (.aload_n 0, 1) := by decide +kernel
theorem d8_22 : decode prog_57_method_8_code 22 = .ok (.getfield 12, 3) := by decide +kernel
theorem d8_25 : decode prog_57_method_8_code 25 = .ok (.aload_n 0, 1) := by decide +kernel
theorem d8_26 : decode prog_57_method_8_code 26 = .ok (.dup, 1) := by decide +kernel
theorem d8_27 : decode prog_57_method_8_code 27 = .ok (.getfield 16, 3) := by decide +kernel
theorem d8_30 : decode prog_57_method_8_code 30 = .ok (.dup_x1, 1) := by decide +kernel
theorem d8_31 : decode prog_57_method_8_code 31 = .ok (.iconst 1, 1) := by decide +kernel
theorem d8_32 : decode prog_57_method_8_code 32 = .ok (.iadd, 1) := by decide +kernel
theorem d8_33 : decode prog_57_method_8_code 33 = .ok (.putfield 16, 3) := by decide +kernel
theorem d8_36 : decode prog_57_method_8_code 36 = .ok (.baload, 1) := by decide +kernel
theorem d8_37 : decode prog_57_method_8_code 37 = .ok (.sipush 255, 3) := by decide +kernel
theorem d8_40 : decode prog_57_method_8_code 40 = .ok (.iand, 1) := by decide +kernel
theorem d8_41 : decode prog_57_method_8_code 41 = .ok (.ireturn, 1) := by decide +kernel
theorem ef_8 (m : MethodId) (o0 : Addr) (ar : Addr) : entryFrame m #[(.ref o0), (.ref ar)] 2 = mkF m 0 #[.val (.ref o0), .val (.ref ar)] [] := by first | (simp [entryFrame, mkF, argsToLocals, Value.category]; done) | rfl
def Q8 (Z : State) (o0 : Addr) (ar : Addr) (fp : Int32) (fq : Int32) (ab : Addr) (N : Nat) (fb : Nat → Int32) (tg : Int32) (h0 : Heap) (n0 : Nat) (v : Option Value) (h : Heap) (L : List Loc) : Prop := v = some (.int tg) ∧ Fr n0 L ∧ Keep h0 h [o0] ∧ Fld Z h o0 "com/example/pathwarden/pathwarden/util/DerReader" "bytes" "[B" (.ref ab) ∧ Fld Z h o0 "com/example/pathwarden/pathwarden/util/DerReader" "position" "I" (.int (fp + (1 : Int32))) ∧ Fld Z h o0 "com/example/pathwarden/pathwarden/util/DerReader" "end" "I" (.int fq)
theorem pd_1 : parseMethodDescriptor "()Z" = some ⟨[], some .boolean⟩ := by decide +kernel
set_option maxRecDepth 65536 in
set_option maxHeartbeats 40000000 in
theorem rm8 (l : Launch) (Z : State) (a0 : Array Value) (hw : ∀ d ∈ tables_1, d.before a0 Z = true) (o0 : Addr) (ar : Addr) (fp : Int32) (fq : Int32) (ab : Addr) (N : Nat) (fb : Nat → Int32) (tg : Int32) (h0 : Heap) (n0 : Nat) (Z0 : n0 ≤ h0.size) (E_o0 : Exa Z h0 o0 "com/example/pathwarden/pathwarden/util/DerReader") (F_o0_bytes : Fld Z h0 o0 "com/example/pathwarden/pathwarden/util/DerReader" "bytes" "[B" (.ref ab)) (F_o0_position : Fld Z h0 o0 "com/example/pathwarden/pathwarden/util/DerReader" "position" "I" (.int fp)) (F_o0_end : Fld Z h0 o0 "com/example/pathwarden/pathwarden/util/DerReader" "end" "I" (.int fq)) (A_ab : own_A Z h0 ab .byte N fb) (g_o0 : n0 ≤ o0) (ne_ab_o0 : ab ≠ o0) (hlt : fp < fq) (hin : ¬ fp < 0 ∧ fp.toNatClampNeg < N) (htg : tg = ((fb (fp).toNatClampNeg) &&& (255 : Int32))) :
    own_C l Z (⟨"com/example/pathwarden/pathwarden/util/DerReader", "octet", "(Ljava/lang/String;)I"⟩ : MethodName) prog_57_method_8_code 2 (some .int) ({ frames := 1, cells := 0, slots := 0, locals := 12 } : Room) #[(.ref o0), (.ref ar)] h0 (Q8 Z o0 ar fp fq ab N fb tg h0 n0) := by
  refine own_met (plainFor_of_name pn_0) ?_
  intro p e s m below meth c s₁ hx hby hml hret hlk hown hnm hZ X0 e0
  refine own_cast (ef_8 m o0 ar) ?_
  have N0 := Fr.nil n0
  have ne_o0_ab := Ne.symm ne_ab_o0
  have K := Keep.refl h0 [o0]
  show own_Out p e below _ s₁ (mkF m 0 #[.val (.ref o0), .val (.ref ar)] []) _ _ _
  refine own_to (fun t k => XS.aloadN X0.here hx rfl (hb hby d8_0) rfl rfl k) ?_
  show own_Out p e below _ s₁ (mkF m 1 #[.val (.ref o0), .val (.ref ar)] [(.ref o0)]) _ _ _
  refine own_callV X0 hx hZ hown (a := o0) (argsL := []) (rest := []) (hw _ (List.mem_of_getElem? (i := 24) rfl)) (hw _ (List.mem_of_getElem? (i := 25) rfl)) (hw _ (List.mem_of_getElem? (i := 27) rfl)) (hw _ (List.mem_of_getElem? (i := 26) rfl)) (hw _ (List.mem_of_getElem? (i := 2) rfl)) (hw _ (List.mem_of_getElem? (i := 28) rfl)) (by decide) (rm5 l Z a0 hw o0 fp fq h0 n0 Z0 F_o0_position F_o0_end) (by decide) (by decide) e0 E_o0 rfl (by rw [hml]; rfl) (lenOf pd_1 rfl) rfl (W := 0) (by show 2 * 0 + _ ≤ _; exact Nat.le_of_eq rfl) (hb hby d8_1) (by decide) (by decide) fun v1 T1 hh1 L1 X1 e1 hQ1 => ?_
  obtain ⟨rfl, NL1, he1⟩ := hQ1
  replace e1 := e1.trans he1
  have N1 := Fr.app N0 NL1
  show own_Out p e below _ T1 (mkF m 4 #[.val (.ref o0), .val (.ref ar)] [(.int (R5 o0 fp fq))]) _ _ _
  have hc4 : ¬ ((R5 o0 fp fq) = (0 : Int32)) := by rw [own_hn1 _ _ _ hlt]; decide
  refine own_to (fun t k => XS.ifYes X1.here hx rfl (pc0 := 4) (pc' := 21) rfl (hb hby d8_4) rfl ((if0 _ _).trans (feq hc4).2) (by decide) (by decide) k) ?_
  show own_Out p e below _ T1 (mkF m 21 #[.val (.ref o0), .val (.ref ar)] []) _ _ _
  refine own_to (fun t k => XS.aloadN X1.here hx rfl (hb hby d8_21) rfl rfl k) ?_
  show own_Out p e below _ T1 (mkF m 22 #[.val (.ref o0), .val (.ref ar)] [(.ref o0)]) _ _ _
  refine own_getF X1 hx hZ hown (hw _ (List.mem_of_getElem? (i := 13) rfl)) e1 F_o0_bytes rfl rfl (hb hby d8_22) fun T2 X2 e2 => ?_
  show own_Out p e below _ T2 (mkF m 25 #[.val (.ref o0), .val (.ref ar)] [(.ref ab)]) _ _ _
  refine own_to (fun t k => XS.aloadN X2.here hx rfl (hb hby d8_25) rfl rfl k) ?_
  show own_Out p e below _ T2 (mkF m 26 #[.val (.ref o0), .val (.ref ar)] [(.ref o0), (.ref ab)]) _ _ _
  refine own_to (fun t k => XS.dup X2.here hx rfl (hb hby d8_26) rfl rfl k) ?_
  show own_Out p e below _ T2 (mkF m 27 #[.val (.ref o0), .val (.ref ar)] [(.ref o0), (.ref o0), (.ref ab)]) _ _ _
  refine own_getF X2 hx hZ hown (hw _ (List.mem_of_getElem? (i := 15) rfl)) e2 F_o0_position rfl rfl (hb hby d8_27) fun T3 X3 e3 => ?_
  show own_Out p e below _ T3 (mkF m 30 #[.val (.ref o0), .val (.ref ar)] [(.int fp), (.ref o0), (.ref ab)]) _ _ _
  refine own_to (fun t k => XS.dupX1 X3.here hx rfl (hb hby d8_30) rfl rfl rfl k) ?_
  show own_Out p e below _ T3 (mkF m 31 #[.val (.ref o0), .val (.ref ar)] [(.int fp), (.ref o0), (.int fp), (.ref ab)]) _ _ _
  refine own_to (fun t k => XS.iconst X3.here hx rfl (hb hby d8_31) k) ?_
  show own_Out p e below _ T3 (mkF m 32 #[.val (.ref o0), .val (.ref ar)] [(.int (1 : Int32)), (.int fp), (.ref o0), (.int fp), (.ref ab)]) _ _ _
  refine own_to (fun t k => XS.iadd X3.here hx rfl (hb hby d8_32) rfl k) ?_
  show own_Out p e below _ T3 (mkF m 33 #[.val (.ref o0), .val (.ref ar)] [(.int (fp + (1 : Int32))), (.ref o0), (.int fp), (.ref ab)]) _ _ _
  refine own_putF X3 hx hZ hown (hw _ (List.mem_of_getElem? (i := 15) rfl)) e3 F_o0_position E_o0 (Or.inl (hw _ (List.mem_of_getElem? (i := 16) rfl))) (hw _ (List.mem_of_getElem? (i := 1) rfl)) (ty := .int) (by decide) rfl rfl rfl rfl (hb hby d8_33) fun T4 hh4 X4 e4 W4 => ?_
  have E_o0 := E_o0.wr W4
  have F_o0_bytes := F_o0_bytes.other W4 (Or.inr (slot_ne (Or.inr (hw _ (List.mem_of_getElem? (i := 14) rfl))) (Or.inl (hw _ (List.mem_of_getElem? (i := 16) rfl))) (by decide) (t := (.array .byte)) (t' := .int) (by decide) (by decide)))
  have F_o0_position := F_o0_position.same W4
  have F_o0_end := F_o0_end.other W4 (Or.inr (slot_ne (Or.inr (hw _ (List.mem_of_getElem? (i := 18) rfl))) (Or.inl (hw _ (List.mem_of_getElem? (i := 16) rfl))) (by decide) (t := .int) (t' := .int) (by decide) (by decide)))
  have A_ab := A_ab.other W4 ne_ab_o0
  have K := K.wr W4 (Or.inl (by simp))
  have Z0 := Nat.le_trans Z0 (Nat.le_of_eq W4.size.symm)
  have N4 := own_fs (sl := Jvm.RoadKit.slotOf Z "com/example/pathwarden/pathwarden/util/DerReader" "position" "I") N1 g_o0
  show own_Out p e below _ T4 (mkF m 36 #[.val (.ref o0), .val (.ref ar)] [(.int fp), (.ref ab)]) _ _ _
  refine own_ldB X4 hx hZ e4 A_ab hin.1 hin.2 rfl rfl (hb hby d8_36) fun w5 hw5 => ?_
  show own_Out p e below _ T4 (mkF m 37 #[.val (.ref o0), .val (.ref ar)] [(.int w5)]) _ _ _
  refine own_to (fun t k => XS.sipush X4.here hx rfl (hb hby d8_37) k) ?_
  show own_Out p e below _ T4 (mkF m 40 #[.val (.ref o0), .val (.ref ar)] [(.int (255 : Int32)), (.int w5)]) _ _ _
  refine own_to (fun t k => XS.iand X4.here hx rfl (hb hby d8_40) rfl k) ?_
  show own_Out p e below _ T4 (mkF m 41 #[.val (.ref o0), .val (.ref ar)] [(.int (w5 &&& (255 : Int32)))]) _ _ _
  refine own_retI X4 hx hlk hret (hb hby d8_41) (by decide) (by decide) ?_
  rw [e4]
  exact ⟨(by rw [htg, hw5]), N4, K, F_o0_bytes, F_o0_position, F_o0_end⟩
theorem d9_0 : decode prog_58_method_1_code 0 = .ok (.aload_n 0, 1) := by decide +kernel
theorem d9_1 : decode prog_58_method_1_code 1 = .ok (.invokespecial 3, 3) := by decide +kernel
theorem d9_4 : decode prog_58_method_1_code 4 = .ok (.aload_n 0, 1) := by decide +kernel
theorem d9_5 : decode prog_58_method_1_code 5 = .ok (.aload_n 1, 1) := by decide +kernel
theorem d9_6 : decode prog_58_method_1_code 6 = .ok (.putfield 9, 3) := by decide +kernel
theorem d9_9 : decode prog_58_method_1_code 9 = .ok (.aload_n 0, 1) := by decide +kernel
theorem d9_10 : decode prog_58_method_1_code 10 = .ok (.iload_n 2, 1) := by decide +kernel
theorem d9_11 : decode prog_58_method_1_code 11 = .ok (.putfield 15, 3) := by decide +kernel
theorem d9_14 : decode prog_58_method_1_code 14 = .ok (.aload_n 0, 1) := by decide +kernel
theorem d9_15 : decode prog_58_method_1_code 15 = .ok (.iload_n 3, 1) := by decide +kernel
theorem d9_16 : decode prog_58_method_1_code 16 = .ok (.putfield 19, 3) := by decide +kernel
theorem d9_19 : decode prog_58_method_1_code 19 = .ok (.aload_n 0, 1) := by decide +kernel
theorem d9_20 : decode prog_58_method_1_code 20 = .ok (.iload 4, 2) := by decide +kernel
theorem d9_22 : decode prog_58_method_1_code 22 = .ok (.putfield 22, 3) := by decide +kernel
theorem d9_25 : decode prog_58_method_1_code 25 = .ok (.aload_n 0, 1) := by decide +kernel
theorem d9_26 : decode prog_58_method_1_code 26 = .ok (.iload 5, 2) := by decide +kernel
theorem d9_28 : decode prog_58_method_1_code 28 = .ok (.putfield 25, 3) := by decide +kernel
theorem d9_31 : decode prog_58_method_1_code 31 = .ok (.return_, 1) := by decide +kernel
theorem pn_1 : plainName "com/example/pathwarden/pathwarden/util/DerReader$Element" = true := by first | (simp [plainName, overriddenIn]; done) | decide +kernel
theorem ef_9 (m : MethodId) (o0 : Addr) (ab : Addr) (u2 : Int32) (u3 : Int32) (u4 : Int32) (u5 : Int32) : entryFrame m #[(.ref o0), (.ref ab), (.int u2), (.int u3), (.int u4), (.int u5)] 6 = mkF m 0 #[.val (.ref o0), .val (.ref ab), .val (.int u2), .val (.int u3), .val (.int u4), .val (.int u5)] [] := by first | (simp [entryFrame, mkF, argsToLocals, Value.category]; done) | rfl
def Q9 (Z : State) (o0 : Addr) (ab : Addr) (u2 : Int32) (u3 : Int32) (u4 : Int32) (u5 : Int32) (h0 : Heap) (n0 : Nat) (v : Option Value) (h : Heap) (L : List Loc) : Prop := v = none ∧ Fr n0 L ∧ Keep h0 h [o0] ∧ Fld Z h o0 "com/example/pathwarden/pathwarden/util/DerReader$Element" "bytes" "[B" (.ref ab) ∧ Fld Z h o0 "com/example/pathwarden/pathwarden/util/DerReader$Element" "tag" "I" (.int u2) ∧ Fld Z h o0 "com/example/pathwarden/pathwarden/util/DerReader$Element" "start" "I" (.int u3) ∧ Fld Z h o0 "com/example/pathwarden/pathwarden/util/DerReader$Element" "contents" "I" (.int u4) ∧ Fld Z h o0 "com/example/pathwarden/pathwarden/util/DerReader$Element" "end" "I" (.int u5)
set_option maxRecDepth 65536 in
set_option maxHeartbeats 40000000 in
theorem rm9 (l : Launch) (Z : State) (a0 : Array Value) (hw : ∀ d ∈ tables_1, d.before a0 Z = true) (o0 : Addr) (ab : Addr) (u2 : Int32) (u3 : Int32) (u4 : Int32) (u5 : Int32) (h0 : Heap) (n0 : Nat) (Z0 : n0 ≤ h0.size) (E_o0 : Exa Z h0 o0 "com/example/pathwarden/pathwarden/util/DerReader$Element") (F_o0_bytes : Fld Z h0 o0 "com/example/pathwarden/pathwarden/util/DerReader$Element" "bytes" "[B" .null) (F_o0_tag : Fld Z h0 o0 "com/example/pathwarden/pathwarden/util/DerReader$Element" "tag" "I" (.int (0 : Int32))) (F_o0_start : Fld Z h0 o0 "com/example/pathwarden/pathwarden/util/DerReader$Element" "start" "I" (.int (0 : Int32))) (F_o0_contents : Fld Z h0 o0 "com/example/pathwarden/pathwarden/util/DerReader$Element" "contents" "I" (.int (0 : Int32))) (F_o0_end : Fld Z h0 o0 "com/example/pathwarden/pathwarden/util/DerReader$Element" "end" "I" (.int (0 : Int32))) (g_o0 : n0 ≤ o0) :
    own_C l Z (⟨"com/example/pathwarden/pathwarden/util/DerReader$Element", "<init>", "([BIIII)V"⟩ : MethodName) prog_58_method_1_code 6 none ({ frames := 1, cells := 0, slots := 0, locals := 12 } : Room) #[(.ref o0), (.ref ab), (.int u2), (.int u3), (.int u4), (.int u5)] h0 (Q9 Z o0 ab u2 u3 u4 u5 h0 n0) := by
  refine own_met (plainFor_of_name pn_1) ?_
  intro p e s m below meth c s₁ hx hby hml hret hlk hown hnm hZ X0 e0
  refine own_cast (ef_9 m o0 ab u2 u3 u4 u5) ?_
  have N0 := Fr.nil n0
  have K := Keep.refl h0 [o0]
  show own_Out p e below _ s₁ (mkF m 0 #[.val (.ref o0), .val (.ref ab), .val (.int u2), .val (.int u3), .val (.int u4), .val (.int u5)] []) _ _ _
  refine own_to (fun t k => XS.aloadN X0.here hx rfl (hb hby d9_0) rfl rfl k) ?_
  show own_Out p e below _ s₁ (mkF m 1 #[.val (.ref o0), .val (.ref ab), .val (.int u2), .val (.int u3), .val (.int u4), .val (.int u5)] [(.ref o0)]) _ _ _
  obtain ⟨T1, X1, e1, st1⟩ := initO X0 hx hZ hown (hw _ (List.mem_of_getElem? (i := 58) rfl)) (hw _ (List.mem_of_getElem? (i := 11) rfl)) (hw _ (List.mem_of_getElem? (i := 12) rfl)) e0 (g := (mkF m 1 #[.val (.ref o0), .val (.ref ab), .val (.int u2), .val (.int u3), .val (.int u4), .val (.int u5)] [(.ref o0)])) rfl (by rw [hml]; rfl) rfl (hb hby d9_1) (by decide) (W := 0) (by show 2 * 0 + _ ≤ _; exact Nat.le_of_eq rfl) (by decide)
  refine own_to st1 ?_
  show own_Out p e below _ T1 (mkF m 4 #[.val (.ref o0), .val (.ref ab), .val (.int u2), .val (.int u3), .val (.int u4), .val (.int u5)] []) _ _ _
  refine own_to (fun t k => XS.aloadN X1.here hx rfl (hb hby d9_4) rfl rfl k) ?_
  show own_Out p e below _ T1 (mkF m 5 #[.val (.ref o0), .val (.ref ab), .val (.int u2), .val (.int u3), .val (.int u4), .val (.int u5)] [(.ref o0)]) _ _ _
  refine own_to (fun t k => XS.aloadN X1.here hx rfl (hb hby d9_5) rfl rfl k) ?_
  show own_Out p e below _ T1 (mkF m 6 #[.val (.ref o0), .val (.ref ab), .val (.int u2), .val (.int u3), .val (.int u4), .val (.int u5)] [(.ref ab), (.ref o0)]) _ _ _
  refine own_putF X1 hx hZ hown (hw _ (List.mem_of_getElem? (i := 59) rfl)) e1 F_o0_bytes E_o0 (Or.inr ⟨(hw _ (List.mem_of_getElem? (i := 60) rfl)), rfl, hnm⟩) (hw _ (List.mem_of_getElem? (i := 53) rfl)) (ty := (.array .byte)) (by decide) rfl rfl rfl rfl (hb hby d9_6) fun T2 hh2 X2 e2 W2 => ?_
  have E_o0 := E_o0.wr W2
  have F_o0_bytes := F_o0_bytes.same W2
  have F_o0_tag := F_o0_tag.other W2 (Or.inr (slot_ne (Or.inr (hw _ (List.mem_of_getElem? (i := 62) rfl))) (Or.inr (hw _ (List.mem_of_getElem? (i := 60) rfl))) (by decide) (t := .int) (t' := (.array .byte)) (by decide) (by decide)))
  have F_o0_start := F_o0_start.other W2 (Or.inr (slot_ne (Or.inr (hw _ (List.mem_of_getElem? (i := 64) rfl))) (Or.inr (hw _ (List.mem_of_getElem? (i := 60) rfl))) (by decide) (t := .int) (t' := (.array .byte)) (by decide) (by decide)))
  have F_o0_contents := F_o0_contents.other W2 (Or.inr (slot_ne (Or.inr (hw _ (List.mem_of_getElem? (i := 66) rfl))) (Or.inr (hw _ (List.mem_of_getElem? (i := 60) rfl))) (by decide) (t := .int) (t' := (.array .byte)) (by decide) (by decide)))
  have F_o0_end := F_o0_end.other W2 (Or.inr (slot_ne (Or.inr (hw _ (List.mem_of_getElem? (i := 68) rfl))) (Or.inr (hw _ (List.mem_of_getElem? (i := 60) rfl))) (by decide) (t := .int) (t' := (.array .byte)) (by decide) (by decide)))
  have K := K.wr W2 (Or.inl (by simp))
  have Z0 := Nat.le_trans Z0 (Nat.le_of_eq W2.size.symm)
  have N2 := own_fs (sl := Jvm.RoadKit.slotOf Z "com/example/pathwarden/pathwarden/util/DerReader$Element" "bytes" "[B") N0 g_o0
  show own_Out p e below _ T2 (mkF m 9 #[.val (.ref o0), .val (.ref ab), .val (.int u2), .val (.int u3), .val (.int u4), .val (.int u5)] []) _ _ _
  refine own_to (fun t k => XS.aloadN X2.here hx rfl (hb hby d9_9) rfl rfl k) ?_
  show own_Out p e below _ T2 (mkF m 10 #[.val (.ref o0), .val (.ref ab), .val (.int u2), .val (.int u3), .val (.int u4), .val (.int u5)] [(.ref o0)]) _ _ _
  refine own_to (fun t k => XS.iloadN X2.here hx rfl (hb hby d9_10) rfl k) ?_
  show own_Out p e below _ T2 (mkF m 11 #[.val (.ref o0), .val (.ref ab), .val (.int u2), .val (.int u3), .val (.int u4), .val (.int u5)] [(.int u2), (.ref o0)]) _ _ _
  refine own_putF X2 hx hZ hown (hw _ (List.mem_of_getElem? (i := 61) rfl)) e2 F_o0_tag E_o0 (Or.inr ⟨(hw _ (List.mem_of_getElem? (i := 62) rfl)), rfl, hnm⟩) (hw _ (List.mem_of_getElem? (i := 53) rfl)) (ty := .int) (by decide) rfl rfl rfl rfl (hb hby d9_11) fun T3 hh3 X3 e3 W3 => ?_
  have E_o0 := E_o0.wr W3
  have F_o0_bytes := F_o0_bytes.other W3 (Or.inr (slot_ne (Or.inr (hw _ (List.mem_of_getElem? (i := 60) rfl))) (Or.inr (hw _ (List.mem_of_getElem? (i := 62) rfl))) (by decide) (t := (.array .byte)) (t' := .int) (by decide) (by decide)))
  have F_o0_tag := F_o0_tag.same W3
  have F_o0_start := F_o0_start.other W3 (Or.inr (slot_ne (Or.inr (hw _ (List.mem_of_getElem? (i := 64) rfl))) (Or.inr (hw _ (List.mem_of_getElem? (i := 62) rfl))) (by decide) (t := .int) (t' := .int) (by decide) (by decide)))
  have F_o0_contents := F_o0_contents.other W3 (Or.inr (slot_ne (Or.inr (hw _ (List.mem_of_getElem? (i := 66) rfl))) (Or.inr (hw _ (List.mem_of_getElem? (i := 62) rfl))) (by decide) (t := .int) (t' := .int) (by decide) (by decide)))
  have F_o0_end := F_o0_end.other W3 (Or.inr (slot_ne (Or.inr (hw _ (List.mem_of_getElem? (i := 68) rfl))) (Or.inr (hw _ (List.mem_of_getElem? (i := 62) rfl))) (by decide) (t := .int) (t' := .int) (by decide) (by decide)))
  have K := K.wr W3 (Or.inl (by simp))
  have Z0 := Nat.le_trans Z0 (Nat.le_of_eq W3.size.symm)
  have N3 := own_fs (sl := Jvm.RoadKit.slotOf Z "com/example/pathwarden/pathwarden/util/DerReader$Element" "tag" "I") N2 g_o0
  show own_Out p e below _ T3 (mkF m 14 #[.val (.ref o0), .val (.ref ab), .val (.int u2), .val (.int u3), .val (.int u4), .val (.int u5)] []) _ _ _
  refine own_to (fun t k => XS.aloadN X3.here hx rfl (hb hby d9_14) rfl rfl k) ?_
  show own_Out p e below _ T3 (mkF m 15 #[.val (.ref o0), .val (.ref ab), .val (.int u2), .val (.int u3), .val (.int u4), .val (.int u5)] [(.ref o0)]) _ _ _
  refine own_to (fun t k => XS.iloadN X3.here hx rfl (hb hby d9_15) rfl k) ?_
  show own_Out p e below _ T3 (mkF m 16 #[.val (.ref o0), .val (.ref ab), .val (.int u2), .val (.int u3), .val (.int u4), .val (.int u5)] [(.int u3), (.ref o0)]) _ _ _
  refine own_putF X3 hx hZ hown (hw _ (List.mem_of_getElem? (i := 63) rfl)) e3 F_o0_start E_o0 (Or.inr ⟨(hw _ (List.mem_of_getElem? (i := 64) rfl)), rfl, hnm⟩) (hw _ (List.mem_of_getElem? (i := 53) rfl)) (ty := .int) (by decide) rfl rfl rfl rfl (hb hby d9_16) fun T4 hh4 X4 e4 W4 => ?_
  have E_o0 := E_o0.wr W4
  have F_o0_bytes := F_o0_bytes.other W4 (Or.inr (slot_ne (Or.inr (hw _ (List.mem_of_getElem? (i := 60) rfl))) (Or.inr (hw _ (List.mem_of_getElem? (i := 64) rfl))) (by decide) (t := (.array .byte)) (t' := .int) (by decide) (by decide)))
  have F_o0_tag := F_o0_tag.other W4 (Or.inr (slot_ne (Or.inr (hw _ (List.mem_of_getElem? (i := 62) rfl))) (Or.inr (hw _ (List.mem_of_getElem? (i := 64) rfl))) (by decide) (t := .int) (t' := .int) (by decide) (by decide)))
  have F_o0_start := F_o0_start.same W4
  have F_o0_contents := F_o0_contents.other W4 (Or.inr (slot_ne (Or.inr (hw _ (List.mem_of_getElem? (i := 66) rfl))) (Or.inr (hw _ (List.mem_of_getElem? (i := 64) rfl))) (by decide) (t := .int) (t' := .int) (by decide) (by decide)))
  have F_o0_end := F_o0_end.other W4 (Or.inr (slot_ne (Or.inr (hw _ (List.mem_of_getElem? (i := 68) rfl))) (Or.inr (hw _ (List.mem_of_getElem? (i := 64) rfl))) (by decide) (t := .int) (t' := .int) (by decide) (by decide)))
  have K := K.wr W4 (Or.inl (by simp))
  have Z0 := Nat.le_trans Z0 (Nat.le_of_eq W4.size.symm)
  have N4 := own_fs (sl := Jvm.RoadKit.slotOf Z "com/example/pathwarden/pathwarden/util/DerReader$Element" "start" "I") N3 g_o0
  show own_Out p e below _ T4 (mkF m 19 #[.val (.ref o0), .val (.ref ab), .val (.int u2), .val (.int u3), .val (.int u4), .val (.int u5)] []) _ _ _
  refine own_to (fun t k => XS.aloadN X4.here hx rfl (hb hby d9_19) rfl rfl k) ?_
  show own_Out p e below _ T4 (mkF m 20 #[.val (.ref o0), .val (.ref ab), .val (.int u2), .val (.int u3), .val (.int u4), .val (.int u5)] [(.ref o0)]) _ _ _
  refine own_to (fun t k => XS.iload X4.here hx rfl (hb hby d9_20) rfl k) ?_
  show own_Out p e below _ T4 (mkF m 22 #[.val (.ref o0), .val (.ref ab), .val (.int u2), .val (.int u3), .val (.int u4), .val (.int u5)] [(.int u4), (.ref o0)]) _ _ _
  refine own_putF X4 hx hZ hown (hw _ (List.mem_of_getElem? (i := 65) rfl)) e4 F_o0_contents E_o0 (Or.inr ⟨(hw _ (List.mem_of_getElem? (i := 66) rfl)), rfl, hnm⟩) (hw _ (List.mem_of_getElem? (i := 53) rfl)) (ty := .int) (by decide) rfl rfl rfl rfl (hb hby d9_22) fun T5 hh5 X5 e5 W5 => ?_
  have E_o0 := E_o0.wr W5
  have F_o0_bytes := F_o0_bytes.other W5 (Or.inr (slot_ne (Or.inr (hw _ (List.mem_of_getElem? (i := 60) rfl))) (Or.inr (hw _ (List.mem_of_getElem? (i := 66) rfl))) (by decide) (t := (.array .byte)) (t' := .int) (by decide) (by decide)))
  have F_o0_tag := F_o0_tag.other W5 (Or.inr (slot_ne (Or.inr (hw _ (List.mem_of_getElem? (i := 62) rfl))) (Or.inr (hw _ (List.mem_of_getElem? (i := 66) rfl))) (by decide) (t := .int) (t' := .int) (by decide) (by decide)))
  have F_o0_start := F_o0_start.other W5 (Or.inr (slot_ne (Or.inr (hw _ (List.mem_of_getElem? (i := 64) rfl))) (Or.inr (hw _ (List.mem_of_getElem? (i := 66) rfl))) (by decide) (t := .int) (t' := .int) (by decide) (by decide)))
  have F_o0_contents := F_o0_contents.same W5
  have F_o0_end := F_o0_end.other W5 (Or.inr (slot_ne (Or.inr (hw _ (List.mem_of_getElem? (i := 68) rfl))) (Or.inr (hw _ (List.mem_of_getElem? (i := 66) rfl))) (by decide) (t := .int) (t' := .int) (by decide) (by decide)))
  have K := K.wr W5 (Or.inl (by simp))
  have Z0 := Nat.le_trans Z0 (Nat.le_of_eq W5.size.symm)
  have N5 := own_fs (sl := Jvm.RoadKit.slotOf Z "com/example/pathwarden/pathwarden/util/DerReader$Element" "contents" "I") N4 g_o0
  show own_Out p e below _ T5 (mkF m 25 #[.val (.ref o0), .val (.ref ab), .val (.int u2), .val (.int u3), .val (.int u4), .val (.int u5)] []) _ _ _
  refine own_to (fun t k => XS.aloadN X5.here hx rfl (hb hby d9_25) rfl rfl k) ?_
  show own_Out p e below _ T5 (mkF m 26 #[.val (.ref o0), .val (.ref ab), .val (.int u2), .val (.int u3), .val (.int u4), .val (.int u5)] [(.ref o0)]) _ _ _
  refine own_to (fun t k => XS.iload X5.here hx rfl (hb hby d9_26) rfl k) ?_
  show own_Out p e below _ T5 (mkF m 28 #[.val (.ref o0), .val (.ref ab), .val (.int u2), .val (.int u3), .val (.int u4), .val (.int u5)] [(.int u5), (.ref o0)]) _ _ _
  refine own_putF X5 hx hZ hown (hw _ (List.mem_of_getElem? (i := 67) rfl)) e5 F_o0_end E_o0 (Or.inr ⟨(hw _ (List.mem_of_getElem? (i := 68) rfl)), rfl, hnm⟩) (hw _ (List.mem_of_getElem? (i := 53) rfl)) (ty := .int) (by decide) rfl rfl rfl rfl (hb hby d9_28) fun T6 hh6 X6 e6 W6 => ?_
  have E_o0 := E_o0.wr W6
  have F_o0_bytes := F_o0_bytes.other W6 (Or.inr (slot_ne (Or.inr (hw _ (List.mem_of_getElem? (i := 60) rfl))) (Or.inr (hw _ (List.mem_of_getElem? (i := 68) rfl))) (by decide) (t := (.array .byte)) (t' := .int) (by decide) (by decide)))
  have F_o0_tag := F_o0_tag.other W6 (Or.inr (slot_ne (Or.inr (hw _ (List.mem_of_getElem? (i := 62) rfl))) (Or.inr (hw _ (List.mem_of_getElem? (i := 68) rfl))) (by decide) (t := .int) (t' := .int) (by decide) (by decide)))
  have F_o0_start := F_o0_start.other W6 (Or.inr (slot_ne (Or.inr (hw _ (List.mem_of_getElem? (i := 64) rfl))) (Or.inr (hw _ (List.mem_of_getElem? (i := 68) rfl))) (by decide) (t := .int) (t' := .int) (by decide) (by decide)))
  have F_o0_contents := F_o0_contents.other W6 (Or.inr (slot_ne (Or.inr (hw _ (List.mem_of_getElem? (i := 66) rfl))) (Or.inr (hw _ (List.mem_of_getElem? (i := 68) rfl))) (by decide) (t := .int) (t' := .int) (by decide) (by decide)))
  have F_o0_end := F_o0_end.same W6
  have K := K.wr W6 (Or.inl (by simp))
  have Z0 := Nat.le_trans Z0 (Nat.le_of_eq W6.size.symm)
  have N6 := own_fs (sl := Jvm.RoadKit.slotOf Z "com/example/pathwarden/pathwarden/util/DerReader$Element" "end" "I") N5 g_o0
  show own_Out p e below _ T6 (mkF m 31 #[.val (.ref o0), .val (.ref ab), .val (.int u2), .val (.int u3), .val (.int u4), .val (.int u5)] []) _ _ _
  refine own_ret0 X6 hx hlk hret (hb hby d9_31) (by decide) (by decide) ?_
  rw [e6]
  exact ⟨rfl, N6, K, F_o0_bytes, F_o0_tag, F_o0_start, F_o0_contents, F_o0_end⟩
theorem d7_0 : decode prog_57_method_5_code 0 = .ok (.aload_n 0, 1) := by decide +kernel
theorem d7_1 : decode prog_57_method_5_code 1 = .ok (.getfield 16, 3) := by decide +kernel
theorem d7_4 : decode prog_57_method_5_code 4 = .ok (.istore_n 1, 1) := by decide +kernel
theorem d7_5 : decode prog_57_method_5_code 5 = .ok (.aload_n 0, 1) := by decide +kernel
theorem d7_6 : decode prog_57_method_5_code 6 = .ok (.ldc 27, 2) := by decide +kernel
theorem d7_8 : decode prog_57_method_5_code 8 = .ok (.invokevirtual 29, 3) := by decide +kernel
theorem d7_11 : decode prog_57_method_5_code 11 = .ok (.istore_n 2, 1) := by decide +kernel
theorem d7_12 : decode prog_57_method_5_code 12 = .ok (.iload_n 2, 1) := by decide +kernel
theorem d7_13 : decode prog_57_method_5_code 13 = .ok (.bipush 31, 2) := by decide +kernel
theorem d7_15 : decode prog_57_method_5_code 15 = .ok (.iand, 1) := by decide +kernel
theorem d7_16 : decode prog_57_method_5_code 16 = .ok (.bipush 31, 2) := by decide +kernel
theorem d7_18 : decode prog_57_method_5_code 18 = .ok (.if_icmp .ne 13, 3) := by decide +kernel
theorem d7_21 : decode prog_57_method_5_code 21 = .ok (.new 33, 3) := by decide +kernel
theorem d7_24 : decode prog_57_method_5_code 24 = .ok (.dup, 1) := by decide +kernel
theorem d7_25 : decode prog_57_method_5_code 25 = .ok (.ldc 35, 2) := by decide +kernel
theorem d7_27 : decode prog_57_method_5_code 27 = .ok (.invokespecial 37, 3) := by decide +kernel
theorem d7_30 : decode prog_57_method_5_code 30 = .ok (.athrow, 1) := by decide +kernel
theorem d7_31 : decode prog_57_method_5_code 31 = .ok (.aload_n 0, 1) := by decide +kernel
theorem d7_32 : decode prog_57_method_5_code 32 = .ok (.ldc 40, 2) := by decide +kernel
theorem d7_34 : decode prog_57_method_5_code 34 = .ok (.invokevirtual 29, 3) := by decide +kernel
theorem d7_37 : decode prog_57_method_5_code 37 = .ok (.i2l, 1) := by decide +kernel
theorem d7_38 : decode prog_57_method_5_code 38 = .ok (.lstore_n 3, 1) := by decide +kernel
theorem d7_39 : decode prog_57_method_5_code 39 = .ok (.lload_n 3, 1) := by decide +kernel
theorem d7_40 : decode prog_57_method_5_code 40 = .ok (.ldc2_w 42, 3) := by decide +kernel
theorem d7_43 : decode prog_57_method_5_code 43 = .ok (.land, 1) := by decide +kernel
theorem d7_44 : decode prog_57_method_5_code 44 = .ok (.lconst 0, 1) := by decide +kernel
theorem d7_45 : decode prog_57_method_5_code 45 = .ok (.lcmp, 1) := by decide +kernel
theorem d7_46 : decode prog_57_method_5_code 46 = .ok (.ifCond .eq 73, 3) := by decide +kernel
theorem d7_49 : decode prog_57_method_5_code 49 = .ok (.lload_n 3, 1) := by decide +kernel
theorem d7_50 : decode prog_57_method_5_code 50 = .ok (.l2i, 1) := by decide +kernel
theorem d7_51 : decode prog_57_method_5_code 51 = .ok (.sipush (-129), 3) := by decide +kernel
theorem d7_54 : decode prog_57_method_5_code 54 = .ok (.iand, 1) := by decide +kernel
theorem d7_55 : decode prog_57_method_5_code 55 = .ok (.istore 5, 2) := by decide +kernel
theorem d7_57 : decode prog_57_method_5_code 57 = .ok (.iload 5, 2) := by decide +kernel
theorem d7_59 : decode prog_57_method_5_code 59 = .ok (.ifCond .ne 13, 3) := by decide +kernel
theorem d7_62 : decode prog_57_method_5_code 62 = .ok (.new 33, 3) := by decide +kernel
theorem d7_65 : decode prog_57_method_5_code 65 = .ok (.dup, 1) := by decide +kernel
theorem d7_66 : decode prog_57_method_5_code 66 = .ok (.ldc 44, 2) := by decide +kernel
theorem d7_68 : decode prog_57_method_5_code 68 = .ok (.invokespecial 37, 3) := by decide +kernel
theorem d7_71 : decode prog_57_method_5_code 71 = .ok (.athrow, 1) := by decide +kernel
theorem d7_72 : decode prog_57_method_5_code 72 = .ok (.iload 5, 2) := by decide +kernel
theorem d7_74 : decode prog_57_method_5_code 74 = .ok (.iconst 4, 1) := by decide +kernel
theorem d7_75 : decode prog_57_method_5_code 75 = .ok (.if_icmp .le 13, 3) := by decide +kernel
theorem d7_78 : decode prog_57_method_5_code 78 = .ok (.new 33, 3) := by decide +kernel
theorem d7_81 : decode prog_57_method_5_code 81 = .ok (.dup, 1) := by decide +kernel
theorem d7_82 : decode prog_57_method_5_code 82 = .ok (.ldc 48, 2) := by decide +kernel
theorem d7_84 : decode prog_57_method_5_code 84 = .ok (.invokespecial 37, 3) := by decide +kernel
theorem d7_87 : decode prog_57_method_5_code 87 = .ok (.athrow, 1) := by decide +kernel
theorem d7_88 : decode prog_57_method_5_code 88 = .ok (.lconst 0, 1) := by decide +kernel
theorem d7_89 : decode prog_57_method_5_code 89 = .ok (.lstore_n 3, 1) := by decide +kernel
theorem d7_90 : decode prog_57_method_5_code 90 = .ok (.iconst 0, 1) := by decide +kernel
theorem d7_91 : decode prog_57_method_5_code 91 = .ok (.istore 6, 2) := by decide +kernel
theorem d7_93 : decode prog_57_method_5_code 93 = .ok (.iload 6, 2) := by decide +kernel
theorem d7_95 : decode prog_57_method_5_code 95 = .ok (.iload 5, 2) := by decide +kernel
theorem d7_97 : decode prog_57_method_5_code 97 = .ok (.if_icmp .ge 22, 3) := by decide +kernel
theorem d7_100 : decode prog_57_method_5_code 100 = .ok (.lload_n 3, 1) := by decide +kernel
theorem d7_101 : decode prog_57_method_5_code 101 = .ok (.bipush 8, 2) := by decide +kernel
theorem d7_103 : decode prog_57_method_5_code 103 = .ok (.lshl, 1) := by decide +kernel
theorem d7_104 : decode prog_57_method_5_code 104 = .ok (.aload_n 0, 1) := by decide +kernel
theorem d7_105 : decode prog_57_method_5_code 105 = .ok (.ldc 52, 2) := by decide +kernel
theorem d7_107 : decode prog_57_method_5_code 107 = .ok (.invokevirtual 29, 3) := by decide +kernel
theorem d7_110 : decode prog_57_method_5_code 110 = .ok (.i2l, 1) := by decide +kernel
theorem d7_111 : decode prog_57_method_5_code 111 = .ok (.lor, 1) := by decide +kernel
theorem d7_112 : decode prog_57_method_5_code 112 = .ok (.lstore_n 3, 1) := by decide +kernel
theorem d7_113 : decode prog_57_method_5_code 113 = .ok (.iinc 6 1, 3) := by decide +kernel
theorem d7_116 : decode prog_57_method_5_code 116 = .ok (.goto (-23), 3) := by decide +kernel
theorem d7_119 : decode prog_57_method_5_code 119 = .ok (.lload_n 3, 1) := by decide +kernel
theorem d7_120 : decode prog_57_method_5_code 120 = .ok (.aload_n 0, 1) := by decide +kernel
theorem d7_121 : decode prog_57_method_5_code 121 = .ok (.getfield 20, 3) := by decide +kernel
theorem d7_124 : decode prog_57_method_5_code 124 = .ok (.aload_n 0, 1) := by decide +kernel
theorem d7_125 : decode prog_57_method_5_code 125 = .ok (.getfield 16, 3) := by decide +kernel
theorem d7_128 : decode prog_57_method_5_code 128 = .ok (.isub, 1) := by decide +kernel
theorem d7_129 : decode prog_57_method_5_code 129 = .ok (.i2l, 1) := by decide +kernel
theorem d7_130 : decode prog_57_method_5_code 130 = .ok (.lcmp, 1) := by decide +kernel
theorem d7_131 : decode prog_57_method_5_code 131 = .ok (.ifCond .le 17, 3) := by decide +kernel
theorem d7_134 : decode prog_57_method_5_code 134 = .ok (.new 33, 3) := by decide +kernel
theorem d7_137 : decode prog_57_method_5_code 137 = .ok (.dup, 1) := by decide +kernel
theorem d7_138 : decode prog_57_method_5_code 138 = .ok (.lload_n 3, 1) := by decide +kernel
theorem d7_148 : decode prog_57_method_5_code 148 = .ok (.aload_n 0, 1) := by decide +kernel
theorem d7_149 : decode prog_57_method_5_code 149 = .ok (.getfield 16, 3) := by decide +kernel
theorem d7_152 : decode prog_57_method_5_code 152 = .ok (.istore 5, 2) := by decide +kernel
theorem d7_154 : decode prog_57_method_5_code 154 = .ok (.aload_n 0, 1) := by decide +kernel
theorem d7_155 : decode prog_57_method_5_code 155 = .ok (.dup, 1) := by decide +kernel
theorem d7_156 : decode prog_57_method_5_code 156 = .ok (.getfield 16, 3) := by decide +kernel
theorem d7_159 : decode prog_57_method_5_code 159 = .ok (.lload_n 3, 1) := by decide +kernel
theorem d7_160 : decode prog_57_method_5_code 160 = .ok (.l2i, 1) := by decide +kernel
theorem d7_161 : decode prog_57_method_5_code 161 = .ok (.iadd, 1) := by decide +kernel
theorem d7_162 : decode prog_57_method_5_code 162 = .ok (.putfield 16, 3) := by decide +kernel
theorem d7_165 : decode prog_57_method_5_code 165 = .ok (.new 58, 3) := by decide +kernel
theorem d7_168 : decode prog_57_method_5_code 168 = .ok (.dup, 1) := by decide +kernel
theorem d7_169 : decode prog_57_method_5_code 169 = .ok (.aload_n 0, 1) := by decide +kernel
theorem d7_170 : decode prog_57_method_5_code 170 = .ok (.getfield 12, 3) := by decide +kernel
theorem d7_173 : decode prog_57_method_5_code 173 = .ok (.iload_n 2, 1) := by decide +kernel
theorem d7_174 : decode prog_57_method_5_code 174 = .ok (.iload_n 1, 1) := by decide +kernel
theorem d7_175 : decode prog_57_method_5_code 175 = .ok (.iload 5, 2) := by decide +kernel
theorem d7_177 : decode prog_57_method_5_code 177 = .ok (.aload_n 0, 1) := by decide +kernel
theorem d7_178 : decode prog_57_method_5_code 178 = .ok (.getfield 16, 3) := by decide +kernel
theorem d7_181 : decode prog_57_method_5_code 181 = .ok (.invokespecial 60, 3) := by decide +kernel
theorem d7_184 : decode prog_57_method_5_code 184 = .ok (.areturn, 1) := by decide +kernel
theorem ef_7 (m : MethodId) (o0 : Addr) : entryFrame m #[(.ref o0)] 7 = mkF m 0 #[.val (.ref o0), .unset, .unset, .unset, .unset, .unset, .unset] [] := by first | (simp [entryFrame, mkF, argsToLocals, Value.category]; done) | rfl
def Q7 (Z : State) (o0 : Addr) (fp : Int32) (fq : Int32) (ab : Addr) (N : Nat) (fb : Nat → Int32) (tg : Int32) (ln : Int32) (h0 : Heap) (n0 : Nat) (v : Option Value) (h : Heap) (L : List Loc) : Prop := Fr n0 L ∧ Keep h0 h [o0] ∧ ∃ el : Addr, v = some (.ref el) ∧ h0.size ≤ el ∧ Fld Z h o0 "com/example/pathwarden/pathwarden/util/DerReader" "bytes" "[B" (.ref ab) ∧ Fld Z h o0 "com/example/pathwarden/pathwarden/util/DerReader" "position" "I" (.int (((fp + (1 : Int32)) + (1 : Int32)) + ((ln.toInt64).toInt32))) ∧ Fld Z h o0 "com/example/pathwarden/pathwarden/util/DerReader" "end" "I" (.int fq) ∧ Exa Z h el "com/example/pathwarden/pathwarden/util/DerReader$Element" ∧ Fld Z h el "com/example/pathwarden/pathwarden/util/DerReader$Element" "bytes" "[B" (.ref ab) ∧ Fld Z h el "com/example/pathwarden/pathwarden/util/DerReader$Element" "tag" "I" (.int tg) ∧ Fld Z h el "com/example/pathwarden/pathwarden/util/DerReader$Element" "start" "I" (.int fp) ∧ Fld Z h el "com/example/pathwarden/pathwarden/util/DerReader$Element" "contents" "I" (.int ((fp + (1 : Int32)) + (1 : Int32))) ∧ Fld Z h el "com/example/pathwarden/pathwarden/util/DerReader$Element" "end" "I" (.int (((fp + (1 : Int32)) + (1 : Int32)) + ((ln.toInt64).toInt32)))
theorem pd_2 : parseMethodDescriptor "(Ljava/lang/String;)I" = some ⟨[(.object "java/lang/String")], some .int⟩ := by decide +kernel
theorem pd_3 : parseMethodDescriptor "([BIIII)V" = some ⟨[(.array .byte), .int, .int, .int, .int], none⟩ := by decide +kernel
set_option maxRecDepth 65536 in
set_option maxHeartbeats 40000000 in
theorem rm7 (l : Launch) (Z : State) (a0 : Array Value) (hw : ∀ d ∈ tables_1, d.before a0 Z = true) (o0 : Addr) (fp : Int32) (fq : Int32) (ab : Addr) (N : Nat) (fb : Nat → Int32) (tg : Int32) (ln : Int32) (h0 : Heap) (n0 : Nat) (Z0 : n0 ≤ h0.size) (E_o0 : Exa Z h0 o0 "com/example/pathwarden/pathwarden/util/DerReader") (F_o0_bytes : Fld Z h0 o0 "com/example/pathwarden/pathwarden/util/DerReader" "bytes" "[B" (.ref ab)) (F_o0_position : Fld Z h0 o0 "com/example/pathwarden/pathwarden/util/DerReader" "position" "I" (.int fp)) (F_o0_end : Fld Z h0 o0 "com/example/pathwarden/pathwarden/util/DerReader" "end" "I" (.int fq)) (A_ab : own_A Z h0 ab .byte N fb) (g_o0 : n0 ≤ o0) (ne_ab_o0 : ab ≠ o0) (h1 : fp < fq) (hi1 : ¬ fp < 0 ∧ fp.toNatClampNeg < N) (htg : tg = ((fb (fp).toNatClampNeg) &&& (255 : Int32))) (h2 : (fp + (1 : Int32)) < fq) (hi2 : ¬ (fp + (1 : Int32)) < 0 ∧ (fp + (1 : Int32)).toNatClampNeg < N) (hln : ln = ((fb ((fp + (1 : Int32))).toNatClampNeg) &&& (255 : Int32))) (ht : ¬ (tg &&& (31 : Int32)) = (31 : Int32)) (hl1 : ((ln.toInt64) &&& (128 : Int64)) = (0 : Int64)) (hl2 : ¬ ((fq - ((fp + (1 : Int32)) + (1 : Int32))).toInt64) < (ln.toInt64)) :
    own_CW l Z (⟨"com/example/pathwarden/pathwarden/util/DerReader", "next", "()Lcom/example/pathwarden/pathwarden/util/DerReader$Element;"⟩ : MethodName) prog_57_method_5_code 7 (some (.object "com/example/pathwarden/pathwarden/util/DerReader$Element")) ({ frames := 2, cells := 5, slots := 65, locals := 30 } : Room) #[(.ref o0)] h0 (Q7 Z o0 fp fq ab N fb tg ln h0 n0) := by
  refine own_metW (plainFor_of_name pn_0) ?_
  intro p e s m below meth c s₁ hx hby hml hret hlk hown hnm hZ X0 e0 hS hk
  refine own_cast (ef_7 m o0) ?_
  have N0 := Fr.nil n0
  have ne_o0_ab := Ne.symm ne_ab_o0
  have K := Keep.refl h0 [o0]
  show own_Out p e below _ s₁ (mkF m 0 #[.val (.ref o0), .unset, .unset, .unset, .unset, .unset, .unset] []) _ _ _
  refine own_to (fun t k => XS.aloadN X0.here hx rfl (hb hby d7_0) rfl rfl k) ?_
  show own_Out p e below _ s₁ (mkF m 1 #[.val (.ref o0), .unset, .unset, .unset, .unset, .unset, .unset] [(.ref o0)]) _ _ _
  refine own_getF X0 hx hZ hown (hw _ (List.mem_of_getElem? (i := 15) rfl)) e0 F_o0_position rfl rfl (hb hby d7_1) fun T1 X1 e1 => ?_
  show own_Out p e below _ T1 (mkF m 4 #[.val (.ref o0), .unset, .unset, .unset, .unset, .unset, .unset] [(.int fp)]) _ _ _
  refine own_to (fun t k => XS.istoreN X1.here hx rfl (hb hby d7_4) rfl (l' := #[.val (.ref o0), .val (.int fp), .unset, .unset, .unset, .unset, .unset]) rfl k) ?_
  show own_Out p e below _ T1 (mkF m 5 #[.val (.ref o0), .val (.int fp), .unset, .unset, .unset, .unset, .unset] []) _ _ _
  refine own_to (fun t k => XS.aloadN X1.here hx rfl (hb hby d7_5) rfl rfl k) ?_
  show own_Out p e below _ T1 (mkF m 6 #[.val (.ref o0), .val (.int fp), .unset, .unset, .unset, .unset, .unset] [(.ref o0)]) _ _ _
  refine own_ldcS X1 hx hZ hown hS hk (hw _ (List.mem_of_getElem? (i := 39) rfl)) (fun a ha => hw a (own_atoms a ha)) e1 rfl (hb hby d7_6) (n := 20) (by decide) (by decide) (by decide) (by decide) fun a2 T2 hh2 k2 X2 e2 E2 hZ hown hS hk => ?_
  have E_o0 := E_o0.ext E2
  have F_o0_bytes := F_o0_bytes.ext E2
  have F_o0_position := F_o0_position.ext E2
  have F_o0_end := F_o0_end.ext E2
  have A_ab := A_ab.ext E2
  have K := K.ext E2
  have Z0 := Nat.le_trans Z0 E2.1
  show own_Out p e below _ T2 (mkF m 8 #[.val (.ref o0), .val (.int fp), .unset, .unset, .unset, .unset, .unset] [(.ref a2), (.ref o0)]) _ _ _
  refine own_callP X2 hx hZ hown (a := o0) (argsL := [(.ref a2)]) (rest := []) (hw _ (List.mem_of_getElem? (i := 46) rfl)) (hw _ (List.mem_of_getElem? (i := 48) rfl)) (hw _ (List.mem_of_getElem? (i := 1) rfl)) (hw _ (List.mem_of_getElem? (i := 47) rfl)) (hw _ (List.mem_of_getElem? (i := 2) rfl)) (hw _ (List.mem_of_getElem? (i := 49) rfl)) (by decide) (rm8 l Z a0 hw o0 a2 fp fq ab N fb tg hh2 n0 Z0 E_o0 F_o0_bytes F_o0_position F_o0_end A_ab g_o0 ne_ab_o0 h1 hi1 htg) (by decide) (by decide) e2 E_o0 rfl (by rw [hml]; rfl) (lenOf pd_2 rfl) rfl (W := 0) (by show 2 * 0 + _ ≤ _; exact Nat.le_of_eq rfl) (hb hby d7_8) (by decide) (by decide) fun v3 T3 hh3 L3 X3 e3 hQ3 => ?_
  obtain ⟨rfl, NL3, KK3, P3_0, P3_1, P3_2⟩ := hQ3
  have E_o0 := E_o0.keep KK3
  have A_ab := A_ab.keep KK3 (by simp [ne_ab_o0])
  have F_o0_bytes := P3_0
  have F_o0_position := P3_1
  have F_o0_end := P3_2
  have K := K.trans KK3 (by intro z hz; simp only [List.mem_cons, List.not_mem_nil, or_false] at hz; subst hz; exact Or.inl (by simp))
  have Z0 := Nat.le_trans Z0 KK3.1
  have hk := Nat.le_trans hk KK3.1
  have N3 := Fr.app N0 NL3
  show own_Out p e below _ T3 (mkF m 11 #[.val (.ref o0), .val (.int fp), .unset, .unset, .unset, .unset, .unset] [(.int tg)]) _ _ _
  refine own_to (fun t k => XS.istoreN X3.here hx rfl (hb hby d7_11) rfl (l' := #[.val (.ref o0), .val (.int fp), .val (.int tg), .unset, .unset, .unset, .unset]) rfl k) ?_
  show own_Out p e below _ T3 (mkF m 12 #[.val (.ref o0), .val (.int fp), .val (.int tg), .unset, .unset, .unset, .unset] []) _ _ _
  refine own_to (fun t k => XS.iloadN X3.here hx rfl (hb hby d7_12) rfl k) ?_
  show own_Out p e below _ T3 (mkF m 13 #[.val (.ref o0), .val (.int fp), .val (.int tg), .unset, .unset, .unset, .unset] [(.int tg)]) _ _ _
  refine own_to (fun t k => XS.bipush X3.here hx rfl (hb hby d7_13) k) ?_
  show own_Out p e below _ T3 (mkF m 15 #[.val (.ref o0), .val (.int fp), .val (.int tg), .unset, .unset, .unset, .unset] [(.int (31 : Int32)), (.int tg)]) _ _ _
  refine own_to (fun t k => XS.iand X3.here hx rfl (hb hby d7_15) rfl k) ?_
  show own_Out p e below _ T3 (mkF m 16 #[.val (.ref o0), .val (.int fp), .val (.int tg), .unset, .unset, .unset, .unset] [(.int (tg &&& (31 : Int32)))]) _ _ _
  refine own_to (fun t k => XS.bipush X3.here hx rfl (hb hby d7_16) k) ?_
  show own_Out p e below _ T3 (mkF m 18 #[.val (.ref o0), .val (.int fp), .val (.int tg), .unset, .unset, .unset, .unset] [(.int (31 : Int32)), (.int (tg &&& (31 : Int32)))]) _ _ _
  have hc18 : ¬ ((tg &&& (31 : Int32)) = (31 : Int32)) := ht
  refine own_to (fun t k => XS.icmpYes X3.here hx rfl (pc0 := 18) (pc' := 31) rfl (hb hby d7_18) rfl (feq hc18).2 (by decide) (by decide) k) ?_
  show own_Out p e below _ T3 (mkF m 31 #[.val (.ref o0), .val (.int fp), .val (.int tg), .unset, .unset, .unset, .unset] []) _ _ _
  refine own_to (fun t k => XS.aloadN X3.here hx rfl (hb hby d7_31) rfl rfl k) ?_
  show own_Out p e below _ T3 (mkF m 32 #[.val (.ref o0), .val (.int fp), .val (.int tg), .unset, .unset, .unset, .unset] [(.ref o0)]) _ _ _
  refine own_ldcS X3 hx hZ hown hS hk (hw _ (List.mem_of_getElem? (i := 50) rfl)) (fun a ha => hw a (own_atoms a ha)) e3 rfl (hb hby d7_32) (n := 32) (by decide) (by decide) (by decide) (by decide) fun a4 T4 hh4 k4 X4 e4 E4 hZ hown hS hk => ?_
  have E_o0 := E_o0.ext E4
  have A_ab := A_ab.ext E4
  have F_o0_bytes := F_o0_bytes.ext E4
  have F_o0_position := F_o0_position.ext E4
  have F_o0_end := F_o0_end.ext E4
  have K := K.ext E4
  have Z0 := Nat.le_trans Z0 E4.1
  show own_Out p e below _ T4 (mkF m 34 #[.val (.ref o0), .val (.int fp), .val (.int tg), .unset, .unset, .unset, .unset] [(.ref a4), (.ref o0)]) _ _ _
  refine own_callP X4 hx hZ hown (a := o0) (argsL := [(.ref a4)]) (rest := []) (hw _ (List.mem_of_getElem? (i := 46) rfl)) (hw _ (List.mem_of_getElem? (i := 48) rfl)) (hw _ (List.mem_of_getElem? (i := 1) rfl)) (hw _ (List.mem_of_getElem? (i := 47) rfl)) (hw _ (List.mem_of_getElem? (i := 2) rfl)) (hw _ (List.mem_of_getElem? (i := 49) rfl)) (by decide) (rm8 l Z a0 hw o0 a4 (fp + (1 : Int32)) fq ab N fb ln hh4 n0 Z0 E_o0 F_o0_bytes F_o0_position F_o0_end A_ab g_o0 ne_ab_o0 h2 hi2 hln) (by decide) (by decide) e4 E_o0 rfl (by rw [hml]; rfl) (lenOf pd_2 rfl) rfl (W := 0) (by show 2 * 0 + _ ≤ _; exact Nat.le_of_eq rfl) (hb hby d7_34) (by decide) (by decide) fun v5 T5 hh5 L5 X5 e5 hQ5 => ?_
  obtain ⟨rfl, NL5, KK5, P5_0, P5_1, P5_2⟩ := hQ5
  have E_o0 := E_o0.keep KK5
  have A_ab := A_ab.keep KK5 (by simp [ne_ab_o0])
  have F_o0_bytes := P5_0
  have F_o0_position := P5_1
  have F_o0_end := P5_2
  have K := K.trans KK5 (by intro z hz; simp only [List.mem_cons, List.not_mem_nil, or_false] at hz; subst hz; exact Or.inl (by simp))
  have Z0 := Nat.le_trans Z0 KK5.1
  have hk := Nat.le_trans hk KK5.1
  have N5 := Fr.app N3 NL5
  show own_Out p e below _ T5 (mkF m 37 #[.val (.ref o0), .val (.int fp), .val (.int tg), .unset, .unset, .unset, .unset] [(.int ln)]) _ _ _
  refine own_to (fun t k => XS.i2l X5.here hx rfl (hb hby d7_37) rfl k) ?_
  show own_Out p e below _ T5 (mkF m 38 #[.val (.ref o0), .val (.int fp), .val (.int tg), .unset, .unset, .unset, .unset] [(.long (ln.toInt64))]) _ _ _
  refine own_to (fun t k => XS.lstoreN X5.here hx rfl (hb hby d7_38) rfl (l' := #[.val (.ref o0), .val (.int fp), .val (.int tg), .val (.long (ln.toInt64)), .second, .unset, .unset]) rfl k) ?_
  show own_Out p e below _ T5 (mkF m 39 #[.val (.ref o0), .val (.int fp), .val (.int tg), .val (.long (ln.toInt64)), .second, .unset, .unset] []) _ _ _
  refine own_to (fun t k => XS.lloadN X5.here hx rfl (hb hby d7_39) rfl k) ?_
  show own_Out p e below _ T5 (mkF m 40 #[.val (.ref o0), .val (.int fp), .val (.int tg), .val (.long (ln.toInt64)), .second, .unset, .unset] [(.long (ln.toInt64))]) _ _ _
  refine own_to (fun t k => X5.ldc2J hx hown (mvT hZ (hw _ (List.mem_of_getElem? (i := 51) rfl))) rfl (hb hby d7_40) k) ?_
  show own_Out p e below _ T5 (mkF m 43 #[.val (.ref o0), .val (.int fp), .val (.int tg), .val (.long (ln.toInt64)), .second, .unset, .unset] [(.long (128 : Int64)), (.long (ln.toInt64))]) _ _ _
  refine own_to (fun t k => XS.land X5.here hx rfl (hb hby d7_43) rfl k) ?_
  show own_Out p e below _ T5 (mkF m 44 #[.val (.ref o0), .val (.int fp), .val (.int tg), .val (.long (ln.toInt64)), .second, .unset, .unset] [(.long ((ln.toInt64) &&& (128 : Int64)))]) _ _ _
  refine own_to (fun t k => XS.lconst X5.here hx rfl (hb hby d7_44) k) ?_
  show own_Out p e below _ T5 (mkF m 45 #[.val (.ref o0), .val (.int fp), .val (.int tg), .val (.long (ln.toInt64)), .second, .unset, .unset] [(.long (0 : Int64)), (.long ((ln.toInt64) &&& (128 : Int64)))]) _ _ _
  refine own_to (fun t k => XS.lcmp X5.here hx rfl (hb hby d7_45) rfl k) ?_
  show own_Out p e below _ T5 (mkF m 46 #[.val (.ref o0), .val (.int fp), .val (.int tg), .val (.long (ln.toInt64)), .second, .unset, .unset] [(.int (lcmpW ((ln.toInt64) &&& (128 : Int64)) (0 : Int64)))]) _ _ _
  have hc46 : ((ln.toInt64) &&& (128 : Int64)) = (0 : Int64) := hl1
  refine own_to (fun t k => XS.ifYes X5.here hx rfl (pc0 := 46) (pc' := 119) rfl (hb hby d7_46) rfl ((if0 _ _).trans (teq ((lw_eq _ _).mpr hc46)).1) (by decide) (by decide) k) ?_
  show own_Out p e below _ T5 (mkF m 119 #[.val (.ref o0), .val (.int fp), .val (.int tg), .val (.long (ln.toInt64)), .second, .unset, .unset] []) _ _ _
  refine own_to (fun t k => XS.lloadN X5.here hx rfl (hb hby d7_119) rfl k) ?_
  show own_Out p e below _ T5 (mkF m 120 #[.val (.ref o0), .val (.int fp), .val (.int tg), .val (.long (ln.toInt64)), .second, .unset, .unset] [(.long (ln.toInt64))]) _ _ _
  refine own_to (fun t k => XS.aloadN X5.here hx rfl (hb hby d7_120) rfl rfl k) ?_
  show own_Out p e below _ T5 (mkF m 121 #[.val (.ref o0), .val (.int fp), .val (.int tg), .val (.long (ln.toInt64)), .second, .unset, .unset] [(.ref o0), (.long (ln.toInt64))]) _ _ _
  refine own_getF X5 hx hZ hown (hw _ (List.mem_of_getElem? (i := 17) rfl)) e5 F_o0_end rfl rfl (hb hby d7_121) fun T6 X6 e6 => ?_
  show own_Out p e below _ T6 (mkF m 124 #[.val (.ref o0), .val (.int fp), .val (.int tg), .val (.long (ln.toInt64)), .second, .unset, .unset] [(.int fq), (.long (ln.toInt64))]) _ _ _
  refine own_to (fun t k => XS.aloadN X6.here hx rfl (hb hby d7_124) rfl rfl k) ?_
  show own_Out p e below _ T6 (mkF m 125 #[.val (.ref o0), .val (.int fp), .val (.int tg), .val (.long (ln.toInt64)), .second, .unset, .unset] [(.ref o0), (.int fq), (.long (ln.toInt64))]) _ _ _
  refine own_getF X6 hx hZ hown (hw _ (List.mem_of_getElem? (i := 15) rfl)) e6 F_o0_position rfl rfl (hb hby d7_125) fun T7 X7 e7 => ?_
  show own_Out p e below _ T7 (mkF m 128 #[.val (.ref o0), .val (.int fp), .val (.int tg), .val (.long (ln.toInt64)), .second, .unset, .unset] [(.int ((fp + (1 : Int32)) + (1 : Int32))), (.int fq), (.long (ln.toInt64))]) _ _ _
  refine own_to (fun t k => XS.isub X7.here hx rfl (hb hby d7_128) rfl k) ?_
  show own_Out p e below _ T7 (mkF m 129 #[.val (.ref o0), .val (.int fp), .val (.int tg), .val (.long (ln.toInt64)), .second, .unset, .unset] [(.int (fq - ((fp + (1 : Int32)) + (1 : Int32)))), (.long (ln.toInt64))]) _ _ _
  refine own_to (fun t k => XS.i2l X7.here hx rfl (hb hby d7_129) rfl k) ?_
  show own_Out p e below _ T7 (mkF m 130 #[.val (.ref o0), .val (.int fp), .val (.int tg), .val (.long (ln.toInt64)), .second, .unset, .unset] [(.long ((fq - ((fp + (1 : Int32)) + (1 : Int32))).toInt64)), (.long (ln.toInt64))]) _ _ _
  refine own_to (fun t k => XS.lcmp X7.here hx rfl (hb hby d7_130) rfl k) ?_
  show own_Out p e below _ T7 (mkF m 131 #[.val (.ref o0), .val (.int fp), .val (.int tg), .val (.long (ln.toInt64)), .second, .unset, .unset] [(.int (lcmpW (ln.toInt64) ((fq - ((fp + (1 : Int32)) + (1 : Int32))).toInt64)))]) _ _ _
  have hc131 : ¬ (((fq - ((fp + (1 : Int32)) + (1 : Int32))).toInt64) < (ln.toInt64)) := hl2
  refine own_to (fun t k => XS.ifYes X7.here hx rfl (pc0 := 131) (pc' := 148) rfl (hb hby d7_131) rfl ((if0 _ _).trans (flt (fun q => hc131 ((lw_gt _ _).mp q))).2.2.2) (by decide) (by decide) k) ?_
  show own_Out p e below _ T7 (mkF m 148 #[.val (.ref o0), .val (.int fp), .val (.int tg), .val (.long (ln.toInt64)), .second, .unset, .unset] []) _ _ _
  refine own_to (fun t k => XS.aloadN X7.here hx rfl (hb hby d7_148) rfl rfl k) ?_
  show own_Out p e below _ T7 (mkF m 149 #[.val (.ref o0), .val (.int fp), .val (.int tg), .val (.long (ln.toInt64)), .second, .unset, .unset] [(.ref o0)]) _ _ _
  refine own_getF X7 hx hZ hown (hw _ (List.mem_of_getElem? (i := 15) rfl)) e7 F_o0_position rfl rfl (hb hby d7_149) fun T8 X8 e8 => ?_
  show own_Out p e below _ T8 (mkF m 152 #[.val (.ref o0), .val (.int fp), .val (.int tg), .val (.long (ln.toInt64)), .second, .unset, .unset] [(.int ((fp + (1 : Int32)) + (1 : Int32)))]) _ _ _
  refine own_to (fun t k => XS.istore X8.here hx rfl (hb hby d7_152) rfl (l' := #[.val (.ref o0), .val (.int fp), .val (.int tg), .val (.long (ln.toInt64)), .second, .val (.int ((fp + (1 : Int32)) + (1 : Int32))), .unset]) rfl k) ?_
  show own_Out p e below _ T8 (mkF m 154 #[.val (.ref o0), .val (.int fp), .val (.int tg), .val (.long (ln.toInt64)), .second, .val (.int ((fp + (1 : Int32)) + (1 : Int32))), .unset] []) _ _ _
  refine own_to (fun t k => XS.aloadN X8.here hx rfl (hb hby d7_154) rfl rfl k) ?_
  show own_Out p e below _ T8 (mkF m 155 #[.val (.ref o0), .val (.int fp), .val (.int tg), .val (.long (ln.toInt64)), .second, .val (.int ((fp + (1 : Int32)) + (1 : Int32))), .unset] [(.ref o0)]) _ _ _
  refine own_to (fun t k => XS.dup X8.here hx rfl (hb hby d7_155) rfl rfl k) ?_
  show own_Out p e below _ T8 (mkF m 156 #[.val (.ref o0), .val (.int fp), .val (.int tg), .val (.long (ln.toInt64)), .second, .val (.int ((fp + (1 : Int32)) + (1 : Int32))), .unset] [(.ref o0), (.ref o0)]) _ _ _
  refine own_getF X8 hx hZ hown (hw _ (List.mem_of_getElem? (i := 15) rfl)) e8 F_o0_position rfl rfl (hb hby d7_156) fun T9 X9 e9 => ?_
  show own_Out p e below _ T9 (mkF m 159 #[.val (.ref o0), .val (.int fp), .val (.int tg), .val (.long (ln.toInt64)), .second, .val (.int ((fp + (1 : Int32)) + (1 : Int32))), .unset] [(.int ((fp + (1 : Int32)) + (1 : Int32))), (.ref o0)]) _ _ _
  refine own_to (fun t k => XS.lloadN X9.here hx rfl (hb hby d7_159) rfl k) ?_
  show own_Out p e below _ T9 (mkF m 160 #[.val (.ref o0), .val (.int fp), .val (.int tg), .val (.long (ln.toInt64)), .second, .val (.int ((fp + (1 : Int32)) + (1 : Int32))), .unset] [(.long (ln.toInt64)), (.int ((fp + (1 : Int32)) + (1 : Int32))), (.ref o0)]) _ _ _
  refine own_to (fun t k => XS.l2i X9.here hx rfl (hb hby d7_160) rfl k) ?_
  show own_Out p e below _ T9 (mkF m 161 #[.val (.ref o0), .val (.int fp), .val (.int tg), .val (.long (ln.toInt64)), .second, .val (.int ((fp + (1 : Int32)) + (1 : Int32))), .unset] [(.int ((ln.toInt64).toInt32)), (.int ((fp + (1 : Int32)) + (1 : Int32))), (.ref o0)]) _ _ _
  refine own_to (fun t k => XS.iadd X9.here hx rfl (hb hby d7_161) rfl k) ?_
  show own_Out p e below _ T9 (mkF m 162 #[.val (.ref o0), .val (.int fp), .val (.int tg), .val (.long (ln.toInt64)), .second, .val (.int ((fp + (1 : Int32)) + (1 : Int32))), .unset] [(.int (((fp + (1 : Int32)) + (1 : Int32)) + ((ln.toInt64).toInt32))), (.ref o0)]) _ _ _
  refine own_putF X9 hx hZ hown (hw _ (List.mem_of_getElem? (i := 15) rfl)) e9 F_o0_position E_o0 (Or.inl (hw _ (List.mem_of_getElem? (i := 16) rfl))) (hw _ (List.mem_of_getElem? (i := 1) rfl)) (ty := .int) (by decide) rfl rfl rfl rfl (hb hby d7_162) fun T10 hh10 X10 e10 W10 => ?_
  have E_o0 := E_o0.wr W10
  have A_ab := A_ab.other W10 ne_ab_o0
  have F_o0_bytes := F_o0_bytes.other W10 (Or.inr (slot_ne (Or.inr (hw _ (List.mem_of_getElem? (i := 14) rfl))) (Or.inl (hw _ (List.mem_of_getElem? (i := 16) rfl))) (by decide) (t := (.array .byte)) (t' := .int) (by decide) (by decide)))
  have F_o0_position := F_o0_position.same W10
  have F_o0_end := F_o0_end.other W10 (Or.inr (slot_ne (Or.inr (hw _ (List.mem_of_getElem? (i := 18) rfl))) (Or.inl (hw _ (List.mem_of_getElem? (i := 16) rfl))) (by decide) (t := .int) (t' := .int) (by decide) (by decide)))
  have K := K.wr W10 (Or.inl (by simp))
  have Z0 := Nat.le_trans Z0 (Nat.le_of_eq W10.size.symm)
  have hk := Nat.le_trans hk (Nat.le_of_eq W10.size.symm)
  have N10 := own_fs (sl := Jvm.RoadKit.slotOf Z "com/example/pathwarden/pathwarden/util/DerReader" "position" "I") N5 g_o0
  show own_Out p e below _ T10 (mkF m 165 #[.val (.ref o0), .val (.int fp), .val (.int tg), .val (.long (ln.toInt64)), .second, .val (.int ((fp + (1 : Int32)) + (1 : Int32))), .unset] []) _ _ _
  refine own_new X10 hx hZ hown (hw _ (List.mem_of_getElem? (i := 52) rfl)) (hw _ (List.mem_of_getElem? (i := 53) rfl)) (hw _ (List.mem_of_getElem? (i := 54) rfl)) e10 rfl (hb hby d7_165) (by decide) (by decide) fun T11 hh11 ob11 gb11 X11 e11 E11 A11 D11 => ?_
  have ne_o0_ob11 : o0 ≠ ob11 := Nat.ne_of_lt (Nat.lt_of_lt_of_le E_o0.lt (Nat.le_of_eq gb11.symm))
  have ne_ob11_o0 := Ne.symm ne_o0_ob11
  have ne_ab_ob11 : ab ≠ ob11 := Nat.ne_of_lt (Nat.lt_of_lt_of_le A_ab.lt (Nat.le_of_eq gb11.symm))
  have ne_ob11_ab := Ne.symm ne_ab_ob11
  have g_ob11 : n0 ≤ ob11 := Nat.le_trans Z0 (Nat.le_of_eq gb11.symm)
  have sz_ob11 : h0.size ≤ ob11 := Nat.le_trans K.1 (Nat.le_of_eq gb11.symm)
  have E_o0 := E_o0.ext E11
  have A_ab := A_ab.ext E11
  have F_o0_bytes := F_o0_bytes.ext E11
  have F_o0_position := F_o0_position.ext E11
  have F_o0_end := F_o0_end.ext E11
  have K := K.ext E11
  have Z0 := Nat.le_trans Z0 E11.1
  have hk := Nat.le_trans hk E11.1
  have E_ob11 := A11
  have F_ob11_bytes : Fld Z hh11 ob11 "com/example/pathwarden/pathwarden/util/DerReader$Element" "bytes" "[B" .null := D11 (Or.inr (hw _ (List.mem_of_getElem? (i := 60) rfl))) (ty := (.array .byte)) (by decide)
  have F_ob11_tag : Fld Z hh11 ob11 "com/example/pathwarden/pathwarden/util/DerReader$Element" "tag" "I" (.int (0 : Int32)) := D11 (Or.inr (hw _ (List.mem_of_getElem? (i := 62) rfl))) (ty := .int) (by decide)
  have F_ob11_start : Fld Z hh11 ob11 "com/example/pathwarden/pathwarden/util/DerReader$Element" "start" "I" (.int (0 : Int32)) := D11 (Or.inr (hw _ (List.mem_of_getElem? (i := 64) rfl))) (ty := .int) (by decide)
  have F_ob11_contents : Fld Z hh11 ob11 "com/example/pathwarden/pathwarden/util/DerReader$Element" "contents" "I" (.int (0 : Int32)) := D11 (Or.inr (hw _ (List.mem_of_getElem? (i := 66) rfl))) (ty := .int) (by decide)
  have F_ob11_end : Fld Z hh11 ob11 "com/example/pathwarden/pathwarden/util/DerReader$Element" "end" "I" (.int (0 : Int32)) := D11 (Or.inr (hw _ (List.mem_of_getElem? (i := 68) rfl))) (ty := .int) (by decide)
  show own_Out p e below _ T11 (mkF m 168 #[.val (.ref o0), .val (.int fp), .val (.int tg), .val (.long (ln.toInt64)), .second, .val (.int ((fp + (1 : Int32)) + (1 : Int32))), .unset] [(.ref ob11)]) _ _ _
  refine own_to (fun t k => XS.dup X11.here hx rfl (hb hby d7_168) rfl rfl k) ?_
  show own_Out p e below _ T11 (mkF m 169 #[.val (.ref o0), .val (.int fp), .val (.int tg), .val (.long (ln.toInt64)), .second, .val (.int ((fp + (1 : Int32)) + (1 : Int32))), .unset] [(.ref ob11), (.ref ob11)]) _ _ _
  refine own_to (fun t k => XS.aloadN X11.here hx rfl (hb hby d7_169) rfl rfl k) ?_
  show own_Out p e below _ T11 (mkF m 170 #[.val (.ref o0), .val (.int fp), .val (.int tg), .val (.long (ln.toInt64)), .second, .val (.int ((fp + (1 : Int32)) + (1 : Int32))), .unset] [(.ref o0), (.ref ob11), (.ref ob11)]) _ _ _
  refine own_getF X11 hx hZ hown (hw _ (List.mem_of_getElem? (i := 13) rfl)) e11 F_o0_bytes rfl rfl (hb hby d7_170) fun T12 X12 e12 => ?_
  show own_Out p e below _ T12 (mkF m 173 #[.val (.ref o0), .val (.int fp), .val (.int tg), .val (.long (ln.toInt64)), .second, .val (.int ((fp + (1 : Int32)) + (1 : Int32))), .unset] [(.ref ab), (.ref ob11), (.ref ob11)]) _ _ _
  refine own_to (fun t k => XS.iloadN X12.here hx rfl (hb hby d7_173) rfl k) ?_
  show own_Out p e below _ T12 (mkF m 174 #[.val (.ref o0), .val (.int fp), .val (.int tg), .val (.long (ln.toInt64)), .second, .val (.int ((fp + (1 : Int32)) + (1 : Int32))), .unset] [(.int tg), (.ref ab), (.ref ob11), (.ref ob11)]) _ _ _
  refine own_to (fun t k => XS.iloadN X12.here hx rfl (hb hby d7_174) rfl k) ?_
  show own_Out p e below _ T12 (mkF m 175 #[.val (.ref o0), .val (.int fp), .val (.int tg), .val (.long (ln.toInt64)), .second, .val (.int ((fp + (1 : Int32)) + (1 : Int32))), .unset] [(.int fp), (.int tg), (.ref ab), (.ref ob11), (.ref ob11)]) _ _ _
  refine own_to (fun t k => XS.iload X12.here hx rfl (hb hby d7_175) rfl k) ?_
  show own_Out p e below _ T12 (mkF m 177 #[.val (.ref o0), .val (.int fp), .val (.int tg), .val (.long (ln.toInt64)), .second, .val (.int ((fp + (1 : Int32)) + (1 : Int32))), .unset] [(.int ((fp + (1 : Int32)) + (1 : Int32))), (.int fp), (.int tg), (.ref ab), (.ref ob11), (.ref ob11)]) _ _ _
  refine own_to (fun t k => XS.aloadN X12.here hx rfl (hb hby d7_177) rfl rfl k) ?_
  show own_Out p e below _ T12 (mkF m 178 #[.val (.ref o0), .val (.int fp), .val (.int tg), .val (.long (ln.toInt64)), .second, .val (.int ((fp + (1 : Int32)) + (1 : Int32))), .unset] [(.ref o0), (.int ((fp + (1 : Int32)) + (1 : Int32))), (.int fp), (.int tg), (.ref ab), (.ref ob11), (.ref ob11)]) _ _ _
  refine own_getF X12 hx hZ hown (hw _ (List.mem_of_getElem? (i := 15) rfl)) e12 F_o0_position rfl rfl (hb hby d7_178) fun T13 X13 e13 => ?_
  show own_Out p e below _ T13 (mkF m 181 #[.val (.ref o0), .val (.int fp), .val (.int tg), .val (.long (ln.toInt64)), .second, .val (.int ((fp + (1 : Int32)) + (1 : Int32))), .unset] [(.int (((fp + (1 : Int32)) + (1 : Int32)) + ((ln.toInt64).toInt32))), (.int ((fp + (1 : Int32)) + (1 : Int32))), (.int fp), (.int tg), (.ref ab), (.ref ob11), (.ref ob11)]) _ _ _
  refine own_callCR X13 hx hZ hown (a := ob11) (argsL := [(.ref ab), (.int tg), (.int fp), (.int ((fp + (1 : Int32)) + (1 : Int32))), (.int (((fp + (1 : Int32)) + (1 : Int32)) + ((ln.toInt64).toInt32)))]) (rest := [(.ref ob11)]) rfl (hw _ (List.mem_of_getElem? (i := 55) rfl)) (hw _ (List.mem_of_getElem? (i := 56) rfl)) (hw _ (List.mem_of_getElem? (i := 54) rfl)) (hw _ (List.mem_of_getElem? (i := 57) rfl)) (by decide) (rm9 l Z a0 hw ob11 ab tg fp ((fp + (1 : Int32)) + (1 : Int32)) (((fp + (1 : Int32)) + (1 : Int32)) + ((ln.toInt64).toInt32)) hh11 n0 Z0 E_ob11 F_ob11_bytes F_ob11_tag F_ob11_start F_ob11_contents F_ob11_end g_ob11) (by decide) (by decide) e13 rfl (by rw [hml]; rfl) (lenOf pd_3 rfl) rfl (W := 1) (by show 2 * 0 + _ ≤ _; exact Nat.le_of_eq rfl) (hb hby d7_181) (by decide) (by decide) fun v14 T14 hh14 L14 X14 e14 hQ14 => ?_
  obtain ⟨rfl, NL14, KK14, P14_0, P14_1, P14_2, P14_3, P14_4⟩ := hQ14
  have E_o0 := E_o0.keep KK14
  have A_ab := A_ab.keep KK14 (by simp [ne_ab_ob11])
  have F_o0_bytes := F_o0_bytes.keep KK14 (by simp [ne_o0_ob11])
  have F_o0_position := F_o0_position.keep KK14 (by simp [ne_o0_ob11])
  have F_o0_end := F_o0_end.keep KK14 (by simp [ne_o0_ob11])
  have E_ob11 := E_ob11.keep KK14
  have F_ob11_bytes := P14_0
  have F_ob11_tag := P14_1
  have F_ob11_start := P14_2
  have F_ob11_contents := P14_3
  have F_ob11_end := P14_4
  have K := K.trans KK14 (by intro z hz; simp only [List.mem_cons, List.not_mem_nil, or_false] at hz; subst hz; exact Or.inr sz_ob11)
  have Z0 := Nat.le_trans Z0 KK14.1
  have hk := Nat.le_trans hk KK14.1
  have N14 := Fr.app N10 NL14
  show own_Out p e below _ T14 (mkF m 184 #[.val (.ref o0), .val (.int fp), .val (.int tg), .val (.long (ln.toInt64)), .second, .val (.int ((fp + (1 : Int32)) + (1 : Int32))), .unset] [(.ref ob11)]) _ _ _
  refine own_retAW X14 hS hk e14 hx hlk hret rfl (hb hby d7_184) (by decide) (by decide) ?_
  rw [e14]
  exact ⟨N14, K, ob11, rfl, sz_ob11, F_o0_bytes, F_o0_position, F_o0_end, E_ob11, F_ob11_bytes, F_ob11_tag, F_ob11_start, F_ob11_contents, F_ob11_end⟩
theorem d4_0 : decode prog_57_method_7_code 0 = .ok (.aload_n 0, 1) := by decide +kernel
theorem d4_1 : decode prog_57_method_7_code 1 = .ok (.invokevirtual 23, 3) := by decide +kernel
theorem d4_4 : decode prog_57_method_7_code 4 = .ok (.ifCond .eq 25, 3) := by decide +kernel
theorem d4_7 : decode prog_57_method_7_code 7 = .ok (.new 33, 3) := by decide +kernel
theorem d4_10 : decode prog_57_method_7_code 10 = .ok (.dup, 1) := by decide +kernel
theorem d4_11 : decode prog_57_method_7_code 11 = .ok (.aload_n 0, 1) := by decide +kernel
theorem d4_12 : decode prog_57_method_7_code 12 = .ok (.getfield 20, 3) := by decide +kernel
theorem d4_15 : decode prog_57_method_7_code 15 = .ok (.aload_n 0, 1) := by decide +kernel
theorem d4_16 : decode prog_57_method_7_code 16 = .ok (.getfield 16, 3) := by decide +kernel
theorem d4_19 : decode prog_57_method_7_code 19 = .ok (.isub, 1) := by decide +kernel
theorem d4_29 : decode prog_57_method_7_code 29 = .ok (.return_, 1) := by decide +kernel
theorem ef_4 (m : MethodId) (o0 : Addr) : entryFrame m #[(.ref o0)] 1 = mkF m 0 #[.val (.ref o0)] [] := by first | (simp [entryFrame, mkF, argsToLocals, Value.category]; done) | rfl
def Q4 (Z : State) (o0 : Addr) (fp : Int32) (fq : Int32) (h0 : Heap) (n0 : Nat) (v : Option Value) (h : Heap) (L : List Loc) : Prop := v = none ∧ Fr n0 L ∧ h = h0
set_option maxRecDepth 65536 in
set_option maxHeartbeats 40000000 in
theorem rm4 (l : Launch) (Z : State) (a0 : Array Value) (hw : ∀ d ∈ tables_1, d.before a0 Z = true) (o0 : Addr) (fp : Int32) (fq : Int32) (h0 : Heap) (n0 : Nat) (Z0 : n0 ≤ h0.size) (E_o0 : Exa Z h0 o0 "com/example/pathwarden/pathwarden/util/DerReader") (F_o0_position : Fld Z h0 o0 "com/example/pathwarden/pathwarden/util/DerReader" "position" "I" (.int fp)) (F_o0_end : Fld Z h0 o0 "com/example/pathwarden/pathwarden/util/DerReader" "end" "I" (.int fq)) (hge : ¬ fp < fq) :
    own_C l Z (⟨"com/example/pathwarden/pathwarden/util/DerReader", "requireEnd", "()V"⟩ : MethodName) prog_57_method_7_code 1 none ({ frames := 1, cells := 0, slots := 0, locals := 12 } : Room) #[(.ref o0)] h0 (Q4 Z o0 fp fq h0 n0) := by
  refine own_met (plainFor_of_name pn_0) ?_
  intro p e s m below meth c s₁ hx hby hml hret hlk hown hnm hZ X0 e0
  refine own_cast (ef_4 m o0) ?_
  have N0 := Fr.nil n0
  show own_Out p e below _ s₁ (mkF m 0 #[.val (.ref o0)] []) _ _ _
  refine own_to (fun t k => XS.aloadN X0.here hx rfl (hb hby d4_0) rfl rfl k) ?_
  show own_Out p e below _ s₁ (mkF m 1 #[.val (.ref o0)] [(.ref o0)]) _ _ _
  refine own_callV X0 hx hZ hown (a := o0) (argsL := []) (rest := []) (hw _ (List.mem_of_getElem? (i := 24) rfl)) (hw _ (List.mem_of_getElem? (i := 25) rfl)) (hw _ (List.mem_of_getElem? (i := 27) rfl)) (hw _ (List.mem_of_getElem? (i := 26) rfl)) (hw _ (List.mem_of_getElem? (i := 2) rfl)) (hw _ (List.mem_of_getElem? (i := 28) rfl)) (by decide) (rm5 l Z a0 hw o0 fp fq h0 n0 Z0 F_o0_position F_o0_end) (by decide) (by decide) e0 E_o0 rfl (by rw [hml]; rfl) (lenOf pd_1 rfl) rfl (W := 0) (by show 2 * 0 + _ ≤ _; exact Nat.le_of_eq rfl) (hb hby d4_1) (by decide) (by decide) fun v1 T1 hh1 L1 X1 e1 hQ1 => ?_
  obtain ⟨rfl, NL1, he1⟩ := hQ1
  replace e1 := e1.trans he1
  have N1 := Fr.app N0 NL1
  show own_Out p e below _ T1 (mkF m 4 #[.val (.ref o0)] [(.int (R5 o0 fp fq))]) _ _ _
  have hc4 : (R5 o0 fp fq) = (0 : Int32) := own_hn0 _ _ _ hge
  refine own_to (fun t k => XS.ifYes X1.here hx rfl (pc0 := 4) (pc' := 29) rfl (hb hby d4_4) rfl ((if0 _ _).trans (teq hc4).1) (by decide) (by decide) k) ?_
  show own_Out p e below _ T1 (mkF m 29 #[.val (.ref o0)] []) _ _ _
  refine own_ret0 X1 hx hlk hret (hb hby d4_29) (by decide) (by decide) ?_
  rw [e1]
  exact ⟨rfl, N1, rfl⟩
theorem d10_0 : decode prog_58_method_5_code 0 = .ok (.new 1, 3) := by decide +kernel
theorem d10_3 : decode prog_58_method_5_code 3 = .ok (.dup, 1) := by decide +kernel
theorem d10_4 : decode prog_58_method_5_code 4 = .ok (.aload_n 0, 1) := by decide +kernel
theorem d10_5 : decode prog_58_method_5_code 5 = .ok (.getfield 9, 3) := by decide +kernel
theorem d10_8 : decode prog_58_method_5_code 8 = .ok (.aload_n 0, 1) := by decide +kernel
theorem d10_9 : decode prog_58_method_5_code 9 = .ok (.getfield 22, 3) := by decide +kernel
theorem d10_12 : decode prog_58_method_5_code 12 = .ok (.aload_n 0, 1) := by decide +kernel
theorem d10_13 : decode prog_58_method_5_code 13 = .ok (.getfield 25, 3) := by decide +kernel
theorem d10_16 : decode prog_58_method_5_code 16 = .ok (.invokespecial 34, 3) := by decide +kernel
theorem d10_19 : decode prog_58_method_5_code 19 = .ok (.areturn, 1) := by decide +kernel
theorem ef_10 (m : MethodId) (o0 : Addr) : entryFrame m #[(.ref o0)] 1 = mkF m 0 #[.val (.ref o0)] [] := by first | (simp [entryFrame, mkF, argsToLocals, Value.category]; done) | rfl
def Q10 (Z : State) (o0 : Addr) (ab : Addr) (fc : Int32) (fe : Int32) (h0 : Heap) (n0 : Nat) (v : Option Value) (h : Heap) (L : List Loc) : Prop := Fr n0 L ∧ Keep h0 h [] ∧ ∃ rd : Addr, v = some (.ref rd) ∧ h0.size ≤ rd ∧ Exa Z h rd "com/example/pathwarden/pathwarden/util/DerReader" ∧ Fld Z h rd "com/example/pathwarden/pathwarden/util/DerReader" "bytes" "[B" (.ref ab) ∧ Fld Z h rd "com/example/pathwarden/pathwarden/util/DerReader" "position" "I" (.int fc) ∧ Fld Z h rd "com/example/pathwarden/pathwarden/util/DerReader" "end" "I" (.int fe)
set_option maxRecDepth 65536 in
set_option maxHeartbeats 40000000 in
theorem rm10 (l : Launch) (Z : State) (a0 : Array Value) (hw : ∀ d ∈ tables_1, d.before a0 Z = true) (o0 : Addr) (ab : Addr) (fc : Int32) (fe : Int32) (h0 : Heap) (n0 : Nat) (Z0 : n0 ≤ h0.size) (F_o0_bytes : Fld Z h0 o0 "com/example/pathwarden/pathwarden/util/DerReader$Element" "bytes" "[B" (.ref ab)) (F_o0_contents : Fld Z h0 o0 "com/example/pathwarden/pathwarden/util/DerReader$Element" "contents" "I" (.int fc)) (F_o0_end : Fld Z h0 o0 "com/example/pathwarden/pathwarden/util/DerReader$Element" "end" "I" (.int fe)) :
    own_C l Z (⟨"com/example/pathwarden/pathwarden/util/DerReader$Element", "elements", "()Lcom/example/pathwarden/pathwarden/util/DerReader;"⟩ : MethodName) prog_58_method_5_code 1 (some (.object "com/example/pathwarden/pathwarden/util/DerReader")) ({ frames := 2, cells := 1, slots := 3, locals := 28 } : Room) #[(.ref o0)] h0 (Q10 Z o0 ab fc fe h0 n0) := by
  refine own_met (plainFor_of_name pn_1) ?_
  intro p e s m below meth c s₁ hx hby hml hret hlk hown hnm hZ X0 e0
  refine own_cast (ef_10 m o0) ?_
  have N0 := Fr.nil n0
  have K := Keep.refl h0 []
  show own_Out p e below _ s₁ (mkF m 0 #[.val (.ref o0)] []) _ _ _
  refine own_new X0 hx hZ hown (hw _ (List.mem_of_getElem? (i := 74) rfl)) (hw _ (List.mem_of_getElem? (i := 1) rfl)) (hw _ (List.mem_of_getElem? (i := 2) rfl)) e0 rfl (hb hby d10_0) (by decide) (by decide) fun T1 hh1 ob1 gb1 X1 e1 E1 A1 D1 => ?_
  have ne_o0_ob1 : o0 ≠ ob1 := Nat.ne_of_lt (Nat.lt_of_lt_of_le F_o0_bytes.lt (Nat.le_of_eq gb1.symm))
  have ne_ob1_o0 := Ne.symm ne_o0_ob1
  have g_ob1 : n0 ≤ ob1 := Nat.le_trans Z0 (Nat.le_of_eq gb1.symm)
  have sz_ob1 : h0.size ≤ ob1 := Nat.le_trans K.1 (Nat.le_of_eq gb1.symm)
  have F_o0_bytes := F_o0_bytes.ext E1
  have F_o0_contents := F_o0_contents.ext E1
  have F_o0_end := F_o0_end.ext E1
  have K := K.ext E1
  have Z0 := Nat.le_trans Z0 E1.1
  have E_ob1 := A1
  have F_ob1_bytes : Fld Z hh1 ob1 "com/example/pathwarden/pathwarden/util/DerReader" "bytes" "[B" .null := D1 (Or.inr (hw _ (List.mem_of_getElem? (i := 14) rfl))) (ty := (.array .byte)) (by decide)
  have F_ob1_position : Fld Z hh1 ob1 "com/example/pathwarden/pathwarden/util/DerReader" "position" "I" (.int (0 : Int32)) := D1 (Or.inl (hw _ (List.mem_of_getElem? (i := 16) rfl))) (ty := .int) (by decide)
  have F_ob1_end : Fld Z hh1 ob1 "com/example/pathwarden/pathwarden/util/DerReader" "end" "I" (.int (0 : Int32)) := D1 (Or.inr (hw _ (List.mem_of_getElem? (i := 18) rfl))) (ty := .int) (by decide)
  show own_Out p e below _ T1 (mkF m 3 #[.val (.ref o0)] [(.ref ob1)]) _ _ _
  refine own_to (fun t k => XS.dup X1.here hx rfl (hb hby d10_3) rfl rfl k) ?_
  show own_Out p e below _ T1 (mkF m 4 #[.val (.ref o0)] [(.ref ob1), (.ref ob1)]) _ _ _
  refine own_to (fun t k => XS.aloadN X1.here hx rfl (hb hby d10_4) rfl rfl k) ?_
  show own_Out p e below _ T1 (mkF m 5 #[.val (.ref o0)] [(.ref o0), (.ref ob1), (.ref ob1)]) _ _ _
  refine own_getF X1 hx hZ hown (hw _ (List.mem_of_getElem? (i := 59) rfl)) e1 F_o0_bytes rfl rfl (hb hby d10_5) fun T2 X2 e2 => ?_
  show own_Out p e below _ T2 (mkF m 8 #[.val (.ref o0)] [(.ref ab), (.ref ob1), (.ref ob1)]) _ _ _
  refine own_to (fun t k => XS.aloadN X2.here hx rfl (hb hby d10_8) rfl rfl k) ?_
  show own_Out p e below _ T2 (mkF m 9 #[.val (.ref o0)] [(.ref o0), (.ref ab), (.ref ob1), (.ref ob1)]) _ _ _
  refine own_getF X2 hx hZ hown (hw _ (List.mem_of_getElem? (i := 65) rfl)) e2 F_o0_contents rfl rfl (hb hby d10_9) fun T3 X3 e3 => ?_
  show own_Out p e below _ T3 (mkF m 12 #[.val (.ref o0)] [(.int fc), (.ref ab), (.ref ob1), (.ref ob1)]) _ _ _
  refine own_to (fun t k => XS.aloadN X3.here hx rfl (hb hby d10_12) rfl rfl k) ?_
  show own_Out p e below _ T3 (mkF m 13 #[.val (.ref o0)] [(.ref o0), (.int fc), (.ref ab), (.ref ob1), (.ref ob1)]) _ _ _
  refine own_getF X3 hx hZ hown (hw _ (List.mem_of_getElem? (i := 67) rfl)) e3 F_o0_end rfl rfl (hb hby d10_13) fun T4 X4 e4 => ?_
  show own_Out p e below _ T4 (mkF m 16 #[.val (.ref o0)] [(.int fe), (.int fc), (.ref ab), (.ref ob1), (.ref ob1)]) _ _ _
  refine own_callCN X4 hx hZ hown (a := ob1) (argsL := [(.ref ab), (.int fc), (.int fe)]) (rest := [(.ref ob1)]) rfl (hw _ (List.mem_of_getElem? (i := 75) rfl)) (hw _ (List.mem_of_getElem? (i := 8) rfl)) (hw _ (List.mem_of_getElem? (i := 2) rfl)) (hw _ (List.mem_of_getElem? (i := 9) rfl)) (by decide) (rm2 l Z a0 hw ob1 ab fc fe hh1 n0 Z0 E_ob1 F_ob1_bytes F_ob1_position F_ob1_end g_ob1) (by decide) (by decide) e4 rfl (by rw [hml]; rfl) (lenOf pd_0 rfl) rfl (W := 1) (by show 2 * 0 + _ ≤ _; exact Nat.le_of_eq rfl) (hb hby d10_16) (by decide) (by decide) fun v5 T5 hh5 L5 X5 e5 hQ5 => ?_
  obtain ⟨rfl, NL5, KK5, P5_0, P5_1, P5_2⟩ := hQ5
  have F_o0_bytes := F_o0_bytes.keep KK5 (by simp [ne_o0_ob1])
  have F_o0_contents := F_o0_contents.keep KK5 (by simp [ne_o0_ob1])
  have F_o0_end := F_o0_end.keep KK5 (by simp [ne_o0_ob1])
  have E_ob1 := E_ob1.keep KK5
  have F_ob1_bytes := P5_0
  have F_ob1_position := P5_1
  have F_ob1_end := P5_2
  have K := K.trans KK5 (by intro z hz; simp only [List.mem_cons, List.not_mem_nil, or_false] at hz; subst hz; exact Or.inr sz_ob1)
  have Z0 := Nat.le_trans Z0 KK5.1
  have N5 := Fr.app N0 NL5
  show own_Out p e below _ T5 (mkF m 19 #[.val (.ref o0)] [(.ref ob1)]) _ _ _
  refine own_retA X5 hx hlk hret rfl (hb hby d10_19) (by decide) (by decide) ?_
  rw [e5]
  exact ⟨N5, K, ob1, rfl, sz_ob1, E_ob1, F_ob1_bytes, F_ob1_position, F_ob1_end⟩
theorem d6_0 : decode method_2_code 0 = .ok (.iload_n 0, 1) := by decide +kernel
theorem d6_1 : decode method_2_code 1 = .ok (.sipush 255, 3) := by decide +kernel
theorem d6_4 : decode method_2_code 4 = .ok (.iand, 1) := by decide +kernel
theorem d6_5 : decode method_2_code 5 = .ok (.istore_n 1, 1) := by decide +kernel
theorem d6_6 : decode method_2_code 6 = .ok (.iload_n 1, 1) := by decide +kernel
theorem d6_7 : decode method_2_code 7 = .ok (.bipush 31, 2) := by decide +kernel
theorem d6_9 : decode method_2_code 9 = .ok (.iand, 1) := by decide +kernel
theorem d6_10 : decode method_2_code 10 = .ok (.bipush 31, 2) := by decide +kernel
theorem d6_12 : decode method_2_code 12 = .ok (.if_icmp .ne 7, 3) := by decide +kernel
theorem d6_15 : decode method_2_code 15 = .ok (.iload_n 1, 1) := by decide +kernel
theorem d6_16 : decode method_2_code 16 = .ok (.iconst 1, 1) := by decide +kernel
theorem d6_17 : decode method_2_code 17 = .ok (.ixor, 1) := by decide +kernel
theorem d6_18 : decode method_2_code 18 = .ok (.istore_n 1, 1) := by decide +kernel
theorem d6_19 : decode method_2_code 19 = .ok (.iload_n 1, 1) := by decide +kernel
theorem d6_20 : decode method_2_code 20 = .ok (.i2b, 1) := by decide +kernel
theorem d6_21 : decode method_2_code 21 = .ok (.ireturn, 1) := by decide +kernel
theorem pn_2 : plainName "com/example/pathwarden/pathwarden/util/DerReaderRequireEndPinLaw" = true := by first | (simp [plainName, overriddenIn]; done) | decide +kernel
theorem ef_6 (m : MethodId) (u0 : Int32) : entryFrame m #[(.int u0)] 2 = mkF m 0 #[.val (.int u0), .unset] [] := by first | (simp [entryFrame, mkF, argsToLocals, Value.category]; done) | rfl
def R6 (u0 : Int32) : Int32 := (if ((u0 &&& (255 : Int32)) &&& (31 : Int32)) = (31 : Int32) then (nar .byte (((u0 &&& (255 : Int32)) ^^^ (1 : Int32)).toInt8.toInt32)) else (nar .byte ((u0 &&& (255 : Int32)).toInt8.toInt32)))
def Q6 (Z : State) (u0 : Int32) (h0 : Heap) (n0 : Nat) (v : Option Value) (h : Heap) (L : List Loc) : Prop := v = some (.int (R6 u0)) ∧ Fr n0 L ∧ h = h0
set_option maxRecDepth 65536 in
set_option maxHeartbeats 40000000 in
theorem rm6 (l : Launch) (Z : State) (a0 : Array Value) (hw : ∀ d ∈ tables_1, d.before a0 Z = true) (u0 : Int32) (h0 : Heap) (n0 : Nat) (Z0 : n0 ≤ h0.size) :
    own_C l Z (⟨"com/example/pathwarden/pathwarden/util/DerReaderRequireEndPinLaw", "tagOf", "(I)B"⟩ : MethodName) method_2_code 2 (some .byte) ({ frames := 0, cells := 0, slots := 0, locals := 0 } : Room) #[(.int u0)] h0 (Q6 Z u0 h0 n0) := by
  refine own_met (plainFor_of_name pn_2) ?_
  intro p e s m below meth c s₁ hx hby hml hret hlk hown hnm hZ X0 e0
  refine own_cast (ef_6 m u0) ?_
  have N0 := Fr.nil n0
  show own_Out p e below _ s₁ (mkF m 0 #[.val (.int u0), .unset] []) _ _ _
  refine own_to (fun t k => XS.iloadN X0.here hx rfl (hb hby d6_0) rfl k) ?_
  show own_Out p e below _ s₁ (mkF m 1 #[.val (.int u0), .unset] [(.int u0)]) _ _ _
  refine own_to (fun t k => XS.sipush X0.here hx rfl (hb hby d6_1) k) ?_
  show own_Out p e below _ s₁ (mkF m 4 #[.val (.int u0), .unset] [(.int (255 : Int32)), (.int u0)]) _ _ _
  refine own_to (fun t k => XS.iand X0.here hx rfl (hb hby d6_4) rfl k) ?_
  show own_Out p e below _ s₁ (mkF m 5 #[.val (.int u0), .unset] [(.int (u0 &&& (255 : Int32)))]) _ _ _
  refine own_to (fun t k => XS.istoreN X0.here hx rfl (hb hby d6_5) rfl (l' := #[.val (.int u0), .val (.int (u0 &&& (255 : Int32)))]) rfl k) ?_
  show own_Out p e below _ s₁ (mkF m 6 #[.val (.int u0), .val (.int (u0 &&& (255 : Int32)))] []) _ _ _
  refine own_to (fun t k => XS.iloadN X0.here hx rfl (hb hby d6_6) rfl k) ?_
  show own_Out p e below _ s₁ (mkF m 7 #[.val (.int u0), .val (.int (u0 &&& (255 : Int32)))] [(.int (u0 &&& (255 : Int32)))]) _ _ _
  refine own_to (fun t k => XS.bipush X0.here hx rfl (hb hby d6_7) k) ?_
  show own_Out p e below _ s₁ (mkF m 9 #[.val (.int u0), .val (.int (u0 &&& (255 : Int32)))] [(.int (31 : Int32)), (.int (u0 &&& (255 : Int32)))]) _ _ _
  refine own_to (fun t k => XS.iand X0.here hx rfl (hb hby d6_9) rfl k) ?_
  show own_Out p e below _ s₁ (mkF m 10 #[.val (.int u0), .val (.int (u0 &&& (255 : Int32)))] [(.int ((u0 &&& (255 : Int32)) &&& (31 : Int32)))]) _ _ _
  refine own_to (fun t k => XS.bipush X0.here hx rfl (hb hby d6_10) k) ?_
  show own_Out p e below _ s₁ (mkF m 12 #[.val (.int u0), .val (.int (u0 &&& (255 : Int32)))] [(.int (31 : Int32)), (.int ((u0 &&& (255 : Int32)) &&& (31 : Int32)))]) _ _ _
  by_cases hc12 : ((u0 &&& (255 : Int32)) &&& (31 : Int32)) = (31 : Int32)
  · refine own_to (fun t k => XS.icmpNo X0.here hx rfl (hb hby d6_12) rfl (teq hc12).2 k) ?_
    show own_Out p e below _ s₁ (mkF m 15 #[.val (.int u0), .val (.int (u0 &&& (255 : Int32)))] []) _ _ _
    refine own_to (fun t k => XS.iloadN X0.here hx rfl (hb hby d6_15) rfl k) ?_
    show own_Out p e below _ s₁ (mkF m 16 #[.val (.int u0), .val (.int (u0 &&& (255 : Int32)))] [(.int (u0 &&& (255 : Int32)))]) _ _ _
    refine own_to (fun t k => XS.iconst X0.here hx rfl (hb hby d6_16) k) ?_
    show own_Out p e below _ s₁ (mkF m 17 #[.val (.int u0), .val (.int (u0 &&& (255 : Int32)))] [(.int (1 : Int32)), (.int (u0 &&& (255 : Int32)))]) _ _ _
    refine own_to (fun t k => XS.ixor X0.here hx rfl (hb hby d6_17) rfl k) ?_
    show own_Out p e below _ s₁ (mkF m 18 #[.val (.int u0), .val (.int (u0 &&& (255 : Int32)))] [(.int ((u0 &&& (255 : Int32)) ^^^ (1 : Int32)))]) _ _ _
    refine own_to (fun t k => XS.istoreN X0.here hx rfl (hb hby d6_18) rfl (l' := #[.val (.int u0), .val (.int ((u0 &&& (255 : Int32)) ^^^ (1 : Int32)))]) rfl k) ?_
    show own_Out p e below _ s₁ (mkF m 19 #[.val (.int u0), .val (.int ((u0 &&& (255 : Int32)) ^^^ (1 : Int32)))] []) _ _ _
    refine own_to (fun t k => XS.iloadN X0.here hx rfl (hb hby d6_19) rfl k) ?_
    show own_Out p e below _ s₁ (mkF m 20 #[.val (.int u0), .val (.int ((u0 &&& (255 : Int32)) ^^^ (1 : Int32)))] [(.int ((u0 &&& (255 : Int32)) ^^^ (1 : Int32)))]) _ _ _
    refine own_to (fun t k => XS.i2b X0.here hx rfl (hb hby d6_20) rfl k) ?_
    show own_Out p e below _ s₁ (mkF m 21 #[.val (.int u0), .val (.int ((u0 &&& (255 : Int32)) ^^^ (1 : Int32)))] [(.int (((u0 &&& (255 : Int32)) ^^^ (1 : Int32)).toInt8.toInt32))]) _ _ _
    refine own_retN X0 hx hlk (t := .byte) hret (by simp) (hb hby d6_21) (by decide) (by decide) ?_
    rw [e0]
    exact ⟨(by unfold R6; rw [if_pos hc12]), N0, rfl⟩
  · refine own_to (fun t k => XS.icmpYes X0.here hx rfl (pc0 := 12) (pc' := 19) rfl (hb hby d6_12) rfl (feq hc12).2 (by decide) (by decide) k) ?_
    show own_Out p e below _ s₁ (mkF m 19 #[.val (.int u0), .val (.int (u0 &&& (255 : Int32)))] []) _ _ _
    refine own_to (fun t k => XS.iloadN X0.here hx rfl (hb hby d6_19) rfl k) ?_
    show own_Out p e below _ s₁ (mkF m 20 #[.val (.int u0), .val (.int (u0 &&& (255 : Int32)))] [(.int (u0 &&& (255 : Int32)))]) _ _ _
    refine own_to (fun t k => XS.i2b X0.here hx rfl (hb hby d6_20) rfl k) ?_
    show own_Out p e below _ s₁ (mkF m 21 #[.val (.int u0), .val (.int (u0 &&& (255 : Int32)))] [(.int ((u0 &&& (255 : Int32)).toInt8.toInt32))]) _ _ _
    refine own_retN X0 hx hlk (t := .byte) hret (by simp) (hb hby d6_21) (by decide) (by decide) ?_
    rw [e0]
    exact ⟨(by unfold R6; rw [if_neg hc12]), N0, rfl⟩
def own_tg (y : Int32) : Int32 := if ((y &&& (31 : Int32)) = (31 : Int32)) then (nar .byte (((y ^^^ (1 : Int32)).toInt8.toInt32))) else (nar .byte (y.toInt8.toInt32))
theorem own_all : ∀ k : Fin 256, ¬ (((nar .byte (own_tg (Int32.ofNat k.1))) &&& (255 : Int32)) &&& (31 : Int32)) = (31 : Int32) := by decide +kernel
theorem own_tagok (x : Int32) : ¬ (((nar .byte (R6 x)) &&& (255 : Int32)) &&& (31 : Int32)) = (31 : Int32) := by
  have h := c_mask x 255 8 (by decide) (by decide)
  have e : (x &&& (255 : Int32)) = Int32.ofNat (x &&& (255 : Int32)).toInt.toNat := Int32.toInt_inj.mp (by rw [Int32.toInt_ofNat_of_lt (by omega)]; omega)
  have q := own_all ⟨(x &&& (255 : Int32)).toInt.toNat, by omega⟩
  rw [← e] at q
  exact q
theorem ef_0 (m : MethodId) (x0 : Int32) (x1 : Int32) (x2 : Int32) (x3 : Int32) : entryFrame m #[(.int x0), (.int x1), (.int x2), (.int x3)] maxLocals = mkF m 0 #[.val (.int x0), .val (.int x1), .val (.int x2), .val (.int x3), .unset, .unset, .unset, .unset, .unset] [] := by first | (simp [entryFrame, mkF, argsToLocals, Value.category, maxLocals]; done) | rfl
def Q0 (Z : State) (x0 : Int32) (x1 : Int32) (x2 : Int32) (x3 : Int32) (h0 : Heap) (n0 : Nat) (v : Option Value) (h : Heap) (L : List Loc) : Prop := v = some (.int (1 : Int32)) ∧ Fr n0 L
theorem pd_4 : parseMethodDescriptor "([B)V" = some ⟨[(.array .byte)], none⟩ := by decide +kernel
theorem pd_5 : parseMethodDescriptor "()V" = some ⟨[], none⟩ := by decide +kernel
theorem pd_6 : parseMethodDescriptor "(I)B" = some ⟨[.int], some .byte⟩ := by decide +kernel
theorem pd_7 : parseMethodDescriptor "()Lcom/example/pathwarden/pathwarden/util/DerReader$Element;" = some ⟨[], some (.object "com/example/pathwarden/pathwarden/util/DerReader$Element")⟩ := by decide +kernel
theorem pd_8 : parseMethodDescriptor "()Lcom/example/pathwarden/pathwarden/util/DerReader;" = some ⟨[], some (.object "com/example/pathwarden/pathwarden/util/DerReader")⟩ := by decide +kernel
set_option maxRecDepth 65536 in
set_option maxHeartbeats 40000000 in
theorem rm0 (l : Launch) (Z : State) (a0 : Array Value) (hw : ∀ d ∈ tables_1, d.before a0 Z = true) (x0 : Int32) (x1 : Int32) (x2 : Int32) (x3 : Int32) (h0 : Heap) (n0 : Nat) (Z0 : n0 ≤ h0.size) :
    own_CW l Z x code maxLocals ret room_1 #[(.int x0), (.int x1), (.int x2), (.int x3)] h0 (Q0 Z x0 x1 x2 x3 h0 n0) := by
  refine own_metW (plainFor_of_name pn_2) ?_
  intro p e s m below meth c s₁ hx hby hml hret hlk hown hnm hZ X0 e0 hS hk
  refine own_cast (ef_0 m x0 x1 x2 x3) ?_
  have N0 := Fr.nil n0
  show own_Out p e below _ s₁ (mkF m 0 #[.val (.int x0), .val (.int x1), .val (.int x2), .val (.int x3), .unset, .unset, .unset, .unset, .unset] []) _ _ _
  refine own_to (fun t k => XS.iloadN X0.here hx rfl (hb hby at_0) rfl k) ?_
  show own_Out p e below _ s₁ (mkF m 1 #[.val (.int x0), .val (.int x1), .val (.int x2), .val (.int x3), .unset, .unset, .unset, .unset, .unset] [(.int x0)]) _ _ _
  refine own_to (fun t k => XS.iconst X0.here hx rfl (hb hby at_1) k) ?_
  show own_Out p e below _ s₁ (mkF m 2 #[.val (.int x0), .val (.int x1), .val (.int x2), .val (.int x3), .unset, .unset, .unset, .unset, .unset] [(.int (3 : Int32)), (.int x0)]) _ _ _
  refine own_to (fun t k => XS.iand X0.here hx rfl (hb hby at_2) rfl k) ?_
  show own_Out p e below _ s₁ (mkF m 3 #[.val (.int x0), .val (.int x1), .val (.int x2), .val (.int x3), .unset, .unset, .unset, .unset, .unset] [(.int (x0 &&& (3 : Int32)))]) _ _ _
  refine own_to (fun t k => XS.istore X0.here hx rfl (hb hby at_3) rfl (l' := #[.val (.int x0), .val (.int x1), .val (.int x2), .val (.int x3), .val (.int (x0 &&& (3 : Int32))), .unset, .unset, .unset, .unset]) rfl k) ?_
  show own_Out p e below _ s₁ (mkF m 5 #[.val (.int x0), .val (.int x1), .val (.int x2), .val (.int x3), .val (.int (x0 &&& (3 : Int32))), .unset, .unset, .unset, .unset] []) _ _ _
  refine own_to (fun t k => XS.iload X0.here hx rfl (hb hby at_5) rfl k) ?_
  show own_Out p e below _ s₁ (mkF m 7 #[.val (.int x0), .val (.int x1), .val (.int x2), .val (.int x3), .val (.int (x0 &&& (3 : Int32))), .unset, .unset, .unset, .unset] [(.int (x0 &&& (3 : Int32)))]) _ _ _
  by_cases hc7 : (x0 &&& (3 : Int32)) = (0 : Int32)
  · refine own_to (fun t k => XS.ifNo X0.here hx rfl (hb hby at_7) rfl ((if0 _ _).trans (teq hc7).2) k) ?_
    show own_Out p e below _ s₁ (mkF m 10 #[.val (.int x0), .val (.int x1), .val (.int x2), .val (.int x3), .val (.int (x0 &&& (3 : Int32))), .unset, .unset, .unset, .unset] []) _ _ _
    refine own_new X0 hx hZ hown (hw _ (List.mem_of_getElem? (i := 0) rfl)) (hw _ (List.mem_of_getElem? (i := 1) rfl)) (hw _ (List.mem_of_getElem? (i := 2) rfl)) e0 rfl (hb hby at_10) (by decide) (by decide) fun T1 hh1 ob1 gb1 X1 e1 E1 A1 D1 => ?_
    have g_ob1 : n0 ≤ ob1 := Nat.le_trans Z0 (Nat.le_of_eq gb1.symm)
    have Z0 := Nat.le_trans Z0 E1.1
    have hk := Nat.le_trans hk E1.1
    have E_ob1 := A1
    have F_ob1_bytes : Fld Z hh1 ob1 "com/example/pathwarden/pathwarden/util/DerReader" "bytes" "[B" .null := D1 (Or.inr (hw _ (List.mem_of_getElem? (i := 14) rfl))) (ty := (.array .byte)) (by decide)
    have F_ob1_position : Fld Z hh1 ob1 "com/example/pathwarden/pathwarden/util/DerReader" "position" "I" (.int (0 : Int32)) := D1 (Or.inl (hw _ (List.mem_of_getElem? (i := 16) rfl))) (ty := .int) (by decide)
    have F_ob1_end : Fld Z hh1 ob1 "com/example/pathwarden/pathwarden/util/DerReader" "end" "I" (.int (0 : Int32)) := D1 (Or.inr (hw _ (List.mem_of_getElem? (i := 18) rfl))) (ty := .int) (by decide)
    show own_Out p e below _ T1 (mkF m 13 #[.val (.int x0), .val (.int x1), .val (.int x2), .val (.int x3), .val (.int (x0 &&& (3 : Int32))), .unset, .unset, .unset, .unset] [(.ref ob1)]) _ _ _
    refine own_to (fun t k => XS.dup X1.here hx rfl (hb hby at_13) rfl rfl k) ?_
    show own_Out p e below _ T1 (mkF m 14 #[.val (.int x0), .val (.int x1), .val (.int x2), .val (.int x3), .val (.int (x0 &&& (3 : Int32))), .unset, .unset, .unset, .unset] [(.ref ob1), (.ref ob1)]) _ _ _
    refine own_to (fun t k => XS.iconst X1.here hx rfl (hb hby at_14) k) ?_
    show own_Out p e below _ T1 (mkF m 15 #[.val (.int x0), .val (.int x1), .val (.int x2), .val (.int x3), .val (.int (x0 &&& (3 : Int32))), .unset, .unset, .unset, .unset] [(.int (0 : Int32)), (.ref ob1), (.ref ob1)]) _ _ _
    refine own_newA X1 hx hZ (hw _ (List.mem_of_getElem? (i := 3) rfl)) rfl e1 rfl (hb hby at_15) rfl (by decide) (cap := 0) (by decide) (by decide) (by decide) (by decide) fun T2 hh2 ob2 gb2 X2 e2 E2 A2 => ?_
    have ne_ob1_ob2 : ob1 ≠ ob2 := Nat.ne_of_lt (Nat.lt_of_lt_of_le E_ob1.lt (Nat.le_of_eq gb2.symm))
    have ne_ob2_ob1 := Ne.symm ne_ob1_ob2
    have g_ob2 : n0 ≤ ob2 := Nat.le_trans Z0 (Nat.le_of_eq gb2.symm)
    have E_ob1 := E_ob1.ext E2
    have F_ob1_bytes := F_ob1_bytes.ext E2
    have F_ob1_position := F_ob1_position.ext E2
    have F_ob1_end := F_ob1_end.ext E2
    have Z0 := Nat.le_trans Z0 E2.1
    have hk := Nat.le_trans hk E2.1
    have A_ob2 : own_A Z hh2 ob2 .byte 0 (fun _ => 0) := A2
    show own_Out p e below _ T2 (mkF m 17 #[.val (.int x0), .val (.int x1), .val (.int x2), .val (.int x3), .val (.int (x0 &&& (3 : Int32))), .unset, .unset, .unset, .unset] [(.ref ob2), (.ref ob1), (.ref ob1)]) _ _ _
    refine own_callC X2 hx hZ hown (a := ob1) (argsL := [(.ref ob2)]) (rest := [(.ref ob1)]) rfl (hw _ (List.mem_of_getElem? (i := 4) rfl)) (hw _ (List.mem_of_getElem? (i := 5) rfl)) (hw _ (List.mem_of_getElem? (i := 2) rfl)) (hw _ (List.mem_of_getElem? (i := 6) rfl)) (by decide) (rm1 l Z a0 hw ob1 ob2 0 (fun _ => 0) hh2 n0 Z0 E_ob1 F_ob1_bytes F_ob1_position F_ob1_end g_ob1 A_ob2 ne_ob2_ob1) (by decide) (by decide) e2 rfl (by rw [hml]; rfl) (lenOf pd_4 rfl) rfl (W := 1) (by show 2 * 0 + _ ≤ _; exact Nat.le_of_eq rfl) (hb hby at_17) (by decide) (by decide) fun v3 T3 hh3 L3 X3 e3 hQ3 => ?_
    obtain ⟨rfl, NL3, KK3, P3_0, P3_1, P3_2⟩ := hQ3
    have E_ob1 := E_ob1.keep KK3
    have A_ob2 := A_ob2.keep KK3 (by simp [ne_ob2_ob1])
    have F_ob1_bytes := P3_0
    have F_ob1_position := P3_1
    have F_ob1_end := P3_2
    have Z0 := Nat.le_trans Z0 KK3.1
    have hk := Nat.le_trans hk KK3.1
    have N3 := Fr.app N0 NL3
    show own_Out p e below _ T3 (mkF m 20 #[.val (.int x0), .val (.int x1), .val (.int x2), .val (.int x3), .val (.int (x0 &&& (3 : Int32))), .unset, .unset, .unset, .unset] [(.ref ob1)]) _ _ _
    rw [show (Nat.toInt32 0) = (0 : Int32) from by decide] at F_ob1_end
    refine own_to (fun t k => XS.astore X3.here hx rfl (hb hby at_20) rfl rfl (l' := #[.val (.int x0), .val (.int x1), .val (.int x2), .val (.int x3), .val (.int (x0 &&& (3 : Int32))), .val (.ref ob1), .unset, .unset, .unset]) rfl k) ?_
    show own_Out p e below _ T3 (mkF m 22 #[.val (.int x0), .val (.int x1), .val (.int x2), .val (.int x3), .val (.int (x0 &&& (3 : Int32))), .val (.ref ob1), .unset, .unset, .unset] []) _ _ _
    refine own_to (fun t k => XS.aload X3.here hx rfl (hb hby at_22) rfl rfl k) ?_
    show own_Out p e below _ T3 (mkF m 24 #[.val (.int x0), .val (.int x1), .val (.int x2), .val (.int x3), .val (.int (x0 &&& (3 : Int32))), .val (.ref ob1), .unset, .unset, .unset] [(.ref ob1)]) _ _ _
    refine own_callV X3 hx hZ hown (a := ob1) (argsL := []) (rest := []) (hw _ (List.mem_of_getElem? (i := 19) rfl)) (hw _ (List.mem_of_getElem? (i := 20) rfl)) (hw _ (List.mem_of_getElem? (i := 22) rfl)) (hw _ (List.mem_of_getElem? (i := 21) rfl)) (hw _ (List.mem_of_getElem? (i := 2) rfl)) (hw _ (List.mem_of_getElem? (i := 23) rfl)) (by decide) (rm4 l Z a0 hw ob1 (0 : Int32) (0 : Int32) hh3 n0 Z0 E_ob1 F_ob1_position F_ob1_end (by decide)) (by decide) (by decide) e3 E_ob1 rfl (by rw [hml]; rfl) (lenOf pd_5 rfl) rfl (W := 0) (by show 2 * 0 + _ ≤ _; exact Nat.le_of_eq rfl) (hb hby at_24) (by decide) (by decide) fun v4 T4 hh4 L4 X4 e4 hQ4 => ?_
    obtain ⟨rfl, NL4, he4⟩ := hQ4
    replace e4 := e4.trans he4
    have N4 := Fr.app N3 NL4
    show own_Out p e below _ T4 (mkF m 27 #[.val (.int x0), .val (.int x1), .val (.int x2), .val (.int x3), .val (.int (x0 &&& (3 : Int32))), .val (.ref ob1), .unset, .unset, .unset] []) _ _ _
    refine own_to (fun t k => XS.aload X4.here hx rfl (hb hby at_27) rfl rfl k) ?_
    show own_Out p e below _ T4 (mkF m 29 #[.val (.int x0), .val (.int x1), .val (.int x2), .val (.int x3), .val (.int (x0 &&& (3 : Int32))), .val (.ref ob1), .unset, .unset, .unset] [(.ref ob1)]) _ _ _
    refine own_callV X4 hx hZ hown (a := ob1) (argsL := []) (rest := []) (hw _ (List.mem_of_getElem? (i := 29) rfl)) (hw _ (List.mem_of_getElem? (i := 25) rfl)) (hw _ (List.mem_of_getElem? (i := 27) rfl)) (hw _ (List.mem_of_getElem? (i := 26) rfl)) (hw _ (List.mem_of_getElem? (i := 2) rfl)) (hw _ (List.mem_of_getElem? (i := 28) rfl)) (by decide) (rm5 l Z a0 hw ob1 (0 : Int32) (0 : Int32) hh3 n0 Z0 F_ob1_position F_ob1_end) (by decide) (by decide) e4 E_ob1 rfl (by rw [hml]; rfl) (lenOf pd_1 rfl) rfl (W := 0) (by show 2 * 0 + _ ≤ _; exact Nat.le_of_eq rfl) (hb hby at_29) (by decide) (by decide) fun v5 T5 hh5 L5 X5 e5 hQ5 => ?_
    obtain ⟨rfl, NL5, he5⟩ := hQ5
    replace e5 := e5.trans he5
    have N5 := Fr.app N4 NL5
    show own_Out p e below _ T5 (mkF m 32 #[.val (.int x0), .val (.int x1), .val (.int x2), .val (.int x3), .val (.int (x0 &&& (3 : Int32))), .val (.ref ob1), .unset, .unset, .unset] [(.int (R5 ob1 (0 : Int32) (0 : Int32)))]) _ _ _
    have hc32 : (R5 ob1 (0 : Int32) (0 : Int32)) = (0 : Int32) := own_hn0 _ _ _ (by decide)
    refine own_to (fun t k => XS.ifNo X5.here hx rfl (hb hby at_32) rfl ((if0 _ _).trans (teq hc32).2) k) ?_
    show own_Out p e below _ T5 (mkF m 35 #[.val (.int x0), .val (.int x1), .val (.int x2), .val (.int x3), .val (.int (x0 &&& (3 : Int32))), .val (.ref ob1), .unset, .unset, .unset] []) _ _ _
    refine own_to (fun t k => XS.iconst X5.here hx rfl (hb hby at_35) k) ?_
    show own_Out p e below _ T5 (mkF m 36 #[.val (.int x0), .val (.int x1), .val (.int x2), .val (.int x3), .val (.int (x0 &&& (3 : Int32))), .val (.ref ob1), .unset, .unset, .unset] [(.int (1 : Int32))]) _ _ _
    refine own_to (fun t k => XS.goto X5.here hx rfl (pc0 := 36) (pc' := 40) rfl (hb hby at_36) (by decide) (by decide) k) ?_
    show own_Out p e below _ T5 (mkF m 40 #[.val (.int x0), .val (.int x1), .val (.int x2), .val (.int x3), .val (.int (x0 &&& (3 : Int32))), .val (.ref ob1), .unset, .unset, .unset] [(.int (1 : Int32))]) _ _ _
    refine own_retVW X5 hS hk e5 hx hlk (w := .int (1 : Int32)) hret rfl (Or.inl ⟨rfl, by simp, _, rfl⟩) (hb hby at_40) (by decide) (by decide) ?_
    rw [e5]
    exact ⟨rfl, N5⟩
  · refine own_to (fun t k => XS.ifYes X0.here hx rfl (pc0 := 7) (pc' := 41) rfl (hb hby at_7) rfl ((if0 _ _).trans (feq hc7).2) (by decide) (by decide) k) ?_
    show own_Out p e below _ s₁ (mkF m 41 #[.val (.int x0), .val (.int x1), .val (.int x2), .val (.int x3), .val (.int (x0 &&& (3 : Int32))), .unset, .unset, .unset, .unset] []) _ _ _
    refine own_to (fun t k => XS.iload X0.here hx rfl (hb hby at_41) rfl k) ?_
    show own_Out p e below _ s₁ (mkF m 43 #[.val (.int x0), .val (.int x1), .val (.int x2), .val (.int x3), .val (.int (x0 &&& (3 : Int32))), .unset, .unset, .unset, .unset] [(.int (x0 &&& (3 : Int32)))]) _ _ _
    refine own_to (fun t k => XS.iconst X0.here hx rfl (hb hby at_43) k) ?_
    show own_Out p e below _ s₁ (mkF m 44 #[.val (.int x0), .val (.int x1), .val (.int x2), .val (.int x3), .val (.int (x0 &&& (3 : Int32))), .unset, .unset, .unset, .unset] [(.int (1 : Int32)), (.int (x0 &&& (3 : Int32)))]) _ _ _
    by_cases hc44 : (x0 &&& (3 : Int32)) = (1 : Int32)
    · refine own_to (fun t k => XS.icmpNo X0.here hx rfl (hb hby at_44) rfl (teq hc44).2 k) ?_
      show own_Out p e below _ s₁ (mkF m 47 #[.val (.int x0), .val (.int x1), .val (.int x2), .val (.int x3), .val (.int (x0 &&& (3 : Int32))), .unset, .unset, .unset, .unset] []) _ _ _
      refine own_to (fun t k => XS.iconst X0.here hx rfl (hb hby at_47) k) ?_
      show own_Out p e below _ s₁ (mkF m 48 #[.val (.int x0), .val (.int x1), .val (.int x2), .val (.int x3), .val (.int (x0 &&& (3 : Int32))), .unset, .unset, .unset, .unset] [(.int (3 : Int32))]) _ _ _
      refine own_newA X0 hx hZ (hw _ (List.mem_of_getElem? (i := 3) rfl)) rfl e0 rfl (hb hby at_48) rfl (by decide) (cap := 3) (by decide) (by decide) (by decide) (by decide) fun T6 hh6 ob6 gb6 X6 e6 E6 A6 => ?_
      have g_ob6 : n0 ≤ ob6 := Nat.le_trans Z0 (Nat.le_of_eq gb6.symm)
      have Z0 := Nat.le_trans Z0 E6.1
      have hk := Nat.le_trans hk E6.1
      have A_ob6 : own_A Z hh6 ob6 .byte 3 (fun _ => 0) := A6
      show own_Out p e below _ T6 (mkF m 50 #[.val (.int x0), .val (.int x1), .val (.int x2), .val (.int x3), .val (.int (x0 &&& (3 : Int32))), .unset, .unset, .unset, .unset] [(.ref ob6)]) _ _ _
      refine own_to (fun t k => XS.dup X6.here hx rfl (hb hby at_50) rfl rfl k) ?_
      show own_Out p e below _ T6 (mkF m 51 #[.val (.int x0), .val (.int x1), .val (.int x2), .val (.int x3), .val (.int (x0 &&& (3 : Int32))), .unset, .unset, .unset, .unset] [(.ref ob6), (.ref ob6)]) _ _ _
      refine own_to (fun t k => XS.iconst X6.here hx rfl (hb hby at_51) k) ?_
      show own_Out p e below _ T6 (mkF m 52 #[.val (.int x0), .val (.int x1), .val (.int x2), .val (.int x3), .val (.int (x0 &&& (3 : Int32))), .unset, .unset, .unset, .unset] [(.int (0 : Int32)), (.ref ob6), (.ref ob6)]) _ _ _
      refine own_to (fun t k => XS.iloadN X6.here hx rfl (hb hby at_52) rfl k) ?_
      show own_Out p e below _ T6 (mkF m 53 #[.val (.int x0), .val (.int x1), .val (.int x2), .val (.int x3), .val (.int (x0 &&& (3 : Int32))), .unset, .unset, .unset, .unset] [(.int x1), (.int (0 : Int32)), (.ref ob6), (.ref ob6)]) _ _ _
      refine own_callS X6 hx hZ hown (argsL := [(.int x1)]) (rest := [(.int (0 : Int32)), (.ref ob6), (.ref ob6)]) (hw _ (List.mem_of_getElem? (i := 30) rfl)) (hw _ (List.mem_of_getElem? (i := 31) rfl)) (hw _ (List.mem_of_getElem? (i := 32) rfl)) (hw _ (List.mem_of_getElem? (i := 33) rfl)) (by decide) (rm6 l Z a0 hw x1 hh6 n0 Z0 ) (by decide) (by decide) e6 rfl (by rw [hml]; rfl) (lenOf pd_6 rfl) rfl (W := 3) (by show 2 * 0 + _ ≤ _; exact Nat.le_of_eq rfl) (hb hby at_53) (by decide) (by decide) fun v7 T7 hh7 L7 X7 e7 hQ7 => ?_
      obtain ⟨rfl, NL7, he7⟩ := hQ7
      replace e7 := e7.trans he7
      have N7 := Fr.app N0 NL7
      show own_Out p e below _ T7 (mkF m 56 #[.val (.int x0), .val (.int x1), .val (.int x2), .val (.int x3), .val (.int (x0 &&& (3 : Int32))), .unset, .unset, .unset, .unset] [(.int (R6 x1)), (.int (0 : Int32)), (.ref ob6), (.ref ob6)]) _ _ _
      refine own_stB X7 hx hZ e7 A_ob6 (by decide) (by decide) rfl rfl (hb hby at_56) fun T8 hh8 X8 e8 W8 A8 => ?_
      have A_ob6 := A8
      have Z0 := Nat.le_trans Z0 (Nat.le_of_eq W8.size.symm)
      have hk := Nat.le_trans hk (Nat.le_of_eq W8.size.symm)
      have N8 := own_fs (sl := Int32.toNatClampNeg (0 : Int32)) N7 g_ob6
      show own_Out p e below _ T8 (mkF m 57 #[.val (.int x0), .val (.int x1), .val (.int x2), .val (.int x3), .val (.int (x0 &&& (3 : Int32))), .unset, .unset, .unset, .unset] [(.ref ob6)]) _ _ _
      refine own_to (fun t k => XS.dup X8.here hx rfl (hb hby at_57) rfl rfl k) ?_
      show own_Out p e below _ T8 (mkF m 58 #[.val (.int x0), .val (.int x1), .val (.int x2), .val (.int x3), .val (.int (x0 &&& (3 : Int32))), .unset, .unset, .unset, .unset] [(.ref ob6), (.ref ob6)]) _ _ _
      refine own_to (fun t k => XS.iconst X8.here hx rfl (hb hby at_58) k) ?_
      show own_Out p e below _ T8 (mkF m 59 #[.val (.int x0), .val (.int x1), .val (.int x2), .val (.int x3), .val (.int (x0 &&& (3 : Int32))), .unset, .unset, .unset, .unset] [(.int (1 : Int32)), (.ref ob6), (.ref ob6)]) _ _ _
      refine own_to (fun t k => XS.iconst X8.here hx rfl (hb hby at_59) k) ?_
      show own_Out p e below _ T8 (mkF m 60 #[.val (.int x0), .val (.int x1), .val (.int x2), .val (.int x3), .val (.int (x0 &&& (3 : Int32))), .unset, .unset, .unset, .unset] [(.int (1 : Int32)), (.int (1 : Int32)), (.ref ob6), (.ref ob6)]) _ _ _
      refine own_stB X8 hx hZ e8 A_ob6 (by decide) (by decide) rfl rfl (hb hby at_60) fun T9 hh9 X9 e9 W9 A9 => ?_
      have A_ob6 := A9
      have Z0 := Nat.le_trans Z0 (Nat.le_of_eq W9.size.symm)
      have hk := Nat.le_trans hk (Nat.le_of_eq W9.size.symm)
      have N9 := own_fs (sl := Int32.toNatClampNeg (1 : Int32)) N8 g_ob6
      show own_Out p e below _ T9 (mkF m 61 #[.val (.int x0), .val (.int x1), .val (.int x2), .val (.int x3), .val (.int (x0 &&& (3 : Int32))), .unset, .unset, .unset, .unset] [(.ref ob6)]) _ _ _
      refine own_to (fun t k => XS.dup X9.here hx rfl (hb hby at_61) rfl rfl k) ?_
      show own_Out p e below _ T9 (mkF m 62 #[.val (.int x0), .val (.int x1), .val (.int x2), .val (.int x3), .val (.int (x0 &&& (3 : Int32))), .unset, .unset, .unset, .unset] [(.ref ob6), (.ref ob6)]) _ _ _
      refine own_to (fun t k => XS.iconst X9.here hx rfl (hb hby at_62) k) ?_
      show own_Out p e below _ T9 (mkF m 63 #[.val (.int x0), .val (.int x1), .val (.int x2), .val (.int x3), .val (.int (x0 &&& (3 : Int32))), .unset, .unset, .unset, .unset] [(.int (2 : Int32)), (.ref ob6), (.ref ob6)]) _ _ _
      refine own_to (fun t k => XS.iloadN X9.here hx rfl (hb hby at_63) rfl k) ?_
      show own_Out p e below _ T9 (mkF m 64 #[.val (.int x0), .val (.int x1), .val (.int x2), .val (.int x3), .val (.int (x0 &&& (3 : Int32))), .unset, .unset, .unset, .unset] [(.int x2), (.int (2 : Int32)), (.ref ob6), (.ref ob6)]) _ _ _
      refine own_to (fun t k => XS.i2b X9.here hx rfl (hb hby at_64) rfl k) ?_
      show own_Out p e below _ T9 (mkF m 65 #[.val (.int x0), .val (.int x1), .val (.int x2), .val (.int x3), .val (.int (x0 &&& (3 : Int32))), .unset, .unset, .unset, .unset] [(.int (x2.toInt8.toInt32)), (.int (2 : Int32)), (.ref ob6), (.ref ob6)]) _ _ _
      refine own_stB X9 hx hZ e9 A_ob6 (by decide) (by decide) rfl rfl (hb hby at_65) fun T10 hh10 X10 e10 W10 A10 => ?_
      have A_ob6 := A10
      have Z0 := Nat.le_trans Z0 (Nat.le_of_eq W10.size.symm)
      have hk := Nat.le_trans hk (Nat.le_of_eq W10.size.symm)
      have N10 := own_fs (sl := Int32.toNatClampNeg (2 : Int32)) N9 g_ob6
      show own_Out p e below _ T10 (mkF m 66 #[.val (.int x0), .val (.int x1), .val (.int x2), .val (.int x3), .val (.int (x0 &&& (3 : Int32))), .unset, .unset, .unset, .unset] [(.ref ob6)]) _ _ _
      refine own_to (fun t k => XS.astore X10.here hx rfl (hb hby at_66) rfl rfl (l' := #[.val (.int x0), .val (.int x1), .val (.int x2), .val (.int x3), .val (.int (x0 &&& (3 : Int32))), .val (.ref ob6), .unset, .unset, .unset]) rfl k) ?_
      show own_Out p e below _ T10 (mkF m 68 #[.val (.int x0), .val (.int x1), .val (.int x2), .val (.int x3), .val (.int (x0 &&& (3 : Int32))), .val (.ref ob6), .unset, .unset, .unset] []) _ _ _
      refine own_new X10 hx hZ hown (hw _ (List.mem_of_getElem? (i := 0) rfl)) (hw _ (List.mem_of_getElem? (i := 1) rfl)) (hw _ (List.mem_of_getElem? (i := 2) rfl)) e10 rfl (hb hby at_68) (by decide) (by decide) fun T11 hh11 ob11 gb11 X11 e11 E11 A11 D11 => ?_
      have ne_ob6_ob11 : ob6 ≠ ob11 := Nat.ne_of_lt (Nat.lt_of_lt_of_le A_ob6.lt (Nat.le_of_eq gb11.symm))
      have ne_ob11_ob6 := Ne.symm ne_ob6_ob11
      have g_ob11 : n0 ≤ ob11 := Nat.le_trans Z0 (Nat.le_of_eq gb11.symm)
      have A_ob6 := A_ob6.ext E11
      have Z0 := Nat.le_trans Z0 E11.1
      have hk := Nat.le_trans hk E11.1
      have E_ob11 := A11
      have F_ob11_bytes : Fld Z hh11 ob11 "com/example/pathwarden/pathwarden/util/DerReader" "bytes" "[B" .null := D11 (Or.inr (hw _ (List.mem_of_getElem? (i := 14) rfl))) (ty := (.array .byte)) (by decide)
      have F_ob11_position : Fld Z hh11 ob11 "com/example/pathwarden/pathwarden/util/DerReader" "position" "I" (.int (0 : Int32)) := D11 (Or.inl (hw _ (List.mem_of_getElem? (i := 16) rfl))) (ty := .int) (by decide)
      have F_ob11_end : Fld Z hh11 ob11 "com/example/pathwarden/pathwarden/util/DerReader" "end" "I" (.int (0 : Int32)) := D11 (Or.inr (hw _ (List.mem_of_getElem? (i := 18) rfl))) (ty := .int) (by decide)
      show own_Out p e below _ T11 (mkF m 71 #[.val (.int x0), .val (.int x1), .val (.int x2), .val (.int x3), .val (.int (x0 &&& (3 : Int32))), .val (.ref ob6), .unset, .unset, .unset] [(.ref ob11)]) _ _ _
      refine own_to (fun t k => XS.dup X11.here hx rfl (hb hby at_71) rfl rfl k) ?_
      show own_Out p e below _ T11 (mkF m 72 #[.val (.int x0), .val (.int x1), .val (.int x2), .val (.int x3), .val (.int (x0 &&& (3 : Int32))), .val (.ref ob6), .unset, .unset, .unset] [(.ref ob11), (.ref ob11)]) _ _ _
      refine own_to (fun t k => XS.aload X11.here hx rfl (hb hby at_72) rfl rfl k) ?_
      show own_Out p e below _ T11 (mkF m 74 #[.val (.int x0), .val (.int x1), .val (.int x2), .val (.int x3), .val (.int (x0 &&& (3 : Int32))), .val (.ref ob6), .unset, .unset, .unset] [(.ref ob6), (.ref ob11), (.ref ob11)]) _ _ _
      refine own_callC X11 hx hZ hown (a := ob11) (argsL := [(.ref ob6)]) (rest := [(.ref ob11)]) rfl (hw _ (List.mem_of_getElem? (i := 4) rfl)) (hw _ (List.mem_of_getElem? (i := 5) rfl)) (hw _ (List.mem_of_getElem? (i := 2) rfl)) (hw _ (List.mem_of_getElem? (i := 6) rfl)) (by decide) (rm1 l Z a0 hw ob11 ob6 3 (own_upd (own_upd (own_upd (fun _ => 0) ((0 : Int32).toNatClampNeg) (nar .byte (R6 x1))) ((1 : Int32).toNatClampNeg) (nar .byte (1 : Int32))) ((2 : Int32).toNatClampNeg) (nar .byte (x2.toInt8.toInt32))) hh11 n0 Z0 E_ob11 F_ob11_bytes F_ob11_position F_ob11_end g_ob11 A_ob6 ne_ob6_ob11) (by decide) (by decide) e11 rfl (by rw [hml]; rfl) (lenOf pd_4 rfl) rfl (W := 1) (by show 2 * 0 + _ ≤ _; exact Nat.le_of_eq rfl) (hb hby at_74) (by decide) (by decide) fun v12 T12 hh12 L12 X12 e12 hQ12 => ?_
      obtain ⟨rfl, NL12, KK12, P12_0, P12_1, P12_2⟩ := hQ12
      have A_ob6 := A_ob6.keep KK12 (by simp [ne_ob6_ob11])
      have E_ob11 := E_ob11.keep KK12
      have F_ob11_bytes := P12_0
      have F_ob11_position := P12_1
      have F_ob11_end := P12_2
      have Z0 := Nat.le_trans Z0 KK12.1
      have hk := Nat.le_trans hk KK12.1
      have N12 := Fr.app N10 NL12
      show own_Out p e below _ T12 (mkF m 77 #[.val (.int x0), .val (.int x1), .val (.int x2), .val (.int x3), .val (.int (x0 &&& (3 : Int32))), .val (.ref ob6), .unset, .unset, .unset] [(.ref ob11)]) _ _ _
      rw [show (Nat.toInt32 3) = (3 : Int32) from by decide] at F_ob11_end
      refine own_to (fun t k => XS.astore X12.here hx rfl (hb hby at_77) rfl rfl (l' := #[.val (.int x0), .val (.int x1), .val (.int x2), .val (.int x3), .val (.int (x0 &&& (3 : Int32))), .val (.ref ob6), .val (.ref ob11), .unset, .unset]) rfl k) ?_
      show own_Out p e below _ T12 (mkF m 79 #[.val (.int x0), .val (.int x1), .val (.int x2), .val (.int x3), .val (.int (x0 &&& (3 : Int32))), .val (.ref ob6), .val (.ref ob11), .unset, .unset] []) _ _ _
      refine own_to (fun t k => XS.aload X12.here hx rfl (hb hby at_79) rfl rfl k) ?_
      show own_Out p e below _ T12 (mkF m 81 #[.val (.int x0), .val (.int x1), .val (.int x2), .val (.int x3), .val (.int (x0 &&& (3 : Int32))), .val (.ref ob6), .val (.ref ob11), .unset, .unset] [(.ref ob11)]) _ _ _
      refine own_callVW X12 hx hZ hown hS hk (a := ob11) (argsL := []) (rest := []) (hw _ (List.mem_of_getElem? (i := 34) rfl)) (hw _ (List.mem_of_getElem? (i := 35) rfl)) (hw _ (List.mem_of_getElem? (i := 37) rfl)) (hw _ (List.mem_of_getElem? (i := 36) rfl)) (hw _ (List.mem_of_getElem? (i := 2) rfl)) (hw _ (List.mem_of_getElem? (i := 38) rfl)) (by decide) (rm7 l Z a0 hw ob11 (0 : Int32) (3 : Int32) ob6 3 (own_upd (own_upd (own_upd (fun _ => 0) ((0 : Int32).toNatClampNeg) (nar .byte (R6 x1))) ((1 : Int32).toNatClampNeg) (nar .byte (1 : Int32))) ((2 : Int32).toNatClampNeg) (nar .byte (x2.toInt8.toInt32))) ((nar .byte (R6 x1)) &&& (255 : Int32)) (1 : Int32) hh12 n0 Z0 E_ob11 F_ob11_bytes F_ob11_position F_ob11_end A_ob6 g_ob11 ne_ob6_ob11 (by decide) (by decide) ((congrArg (fun z => z &&& (255 : Int32)) ((own_miss (by decide)).trans ((own_miss (by decide)).trans (own_hit (by decide))))).symm) (by decide) (by decide) ((show (1 : Int32) = ((nar .byte (1 : Int32)) &&& (255 : Int32)) from by decide).trans (congrArg (fun z => z &&& (255 : Int32)) ((own_miss (by decide)).trans (own_hit (by decide)))).symm) (own_tagok x1) (by decide) (by decide)) (by decide) (by decide) e12 E_ob11 rfl (by rw [hml]; rfl) (lenOf pd_7 rfl) rfl (W := 0) (by show 2 * 0 + _ ≤ _; exact Nat.le_of_eq rfl) (hb hby at_81) (by decide) (by decide) fun v13 T13 hh13 L13 X13 e13 hQ13 hZ hown hS => ?_
      obtain ⟨NL13, KK13, ob13el, rfl, szc_ob13el, P13_0, P13_1, P13_2, P13_3, P13_4, P13_5, P13_6, P13_7, P13_8⟩ := hQ13
      have ne_ob6_ob13el : ob6 ≠ ob13el := Nat.ne_of_lt (Nat.lt_of_lt_of_le A_ob6.lt szc_ob13el)
      have ne_ob13el_ob6 := Ne.symm ne_ob6_ob13el
      have ne_ob11_ob13el : ob11 ≠ ob13el := Nat.ne_of_lt (Nat.lt_of_lt_of_le E_ob11.lt szc_ob13el)
      have ne_ob13el_ob11 := Ne.symm ne_ob11_ob13el
      have g_ob13el : n0 ≤ ob13el := Nat.le_trans Z0 szc_ob13el
      have A_ob6 := A_ob6.keep KK13 (by simp [ne_ob6_ob11])
      have E_ob11 := E_ob11.keep KK13
      have F_ob11_bytes := P13_0
      have F_ob11_position := P13_1
      have F_ob11_end := P13_2
      have E_ob13el := P13_3
      have F_ob13el_bytes := P13_4
      have F_ob13el_tag := P13_5
      have F_ob13el_start := P13_6
      have F_ob13el_contents := P13_7
      have F_ob13el_end := P13_8
      have Z0 := Nat.le_trans Z0 KK13.1
      have hk := Nat.le_refl hh13.size
      have N13 := Fr.app N12 NL13
      show own_Out p e below _ T13 (mkF m 84 #[.val (.int x0), .val (.int x1), .val (.int x2), .val (.int x3), .val (.int (x0 &&& (3 : Int32))), .val (.ref ob6), .val (.ref ob11), .unset, .unset] [(.ref ob13el)]) _ _ _
      rw [show ((((0 : Int32) + (1 : Int32)) + (1 : Int32)) + (((1 : Int32).toInt64).toInt32)) = (3 : Int32) from by decide] at F_ob11_position
      rw [show (((0 : Int32) + (1 : Int32)) + (1 : Int32)) = (2 : Int32) from by decide] at F_ob13el_contents
      rw [show ((((0 : Int32) + (1 : Int32)) + (1 : Int32)) + (((1 : Int32).toInt64).toInt32)) = (3 : Int32) from by decide] at F_ob13el_end
      refine own_to (fun t k => XS.pop X13.here hx rfl (hb hby at_84) rfl rfl k) ?_
      show own_Out p e below _ T13 (mkF m 85 #[.val (.int x0), .val (.int x1), .val (.int x2), .val (.int x3), .val (.int (x0 &&& (3 : Int32))), .val (.ref ob6), .val (.ref ob11), .unset, .unset] []) _ _ _
      refine own_to (fun t k => XS.aload X13.here hx rfl (hb hby at_85) rfl rfl k) ?_
      show own_Out p e below _ T13 (mkF m 87 #[.val (.int x0), .val (.int x1), .val (.int x2), .val (.int x3), .val (.int (x0 &&& (3 : Int32))), .val (.ref ob6), .val (.ref ob11), .unset, .unset] [(.ref ob11)]) _ _ _
      refine own_callV X13 hx hZ hown (a := ob11) (argsL := []) (rest := []) (hw _ (List.mem_of_getElem? (i := 19) rfl)) (hw _ (List.mem_of_getElem? (i := 20) rfl)) (hw _ (List.mem_of_getElem? (i := 22) rfl)) (hw _ (List.mem_of_getElem? (i := 21) rfl)) (hw _ (List.mem_of_getElem? (i := 2) rfl)) (hw _ (List.mem_of_getElem? (i := 23) rfl)) (by decide) (rm4 l Z a0 hw ob11 (3 : Int32) (3 : Int32) hh13 n0 Z0 E_ob11 F_ob11_position F_ob11_end (by decide)) (by decide) (by decide) e13 E_ob11 rfl (by rw [hml]; rfl) (lenOf pd_5 rfl) rfl (W := 0) (by show 2 * 0 + _ ≤ _; exact Nat.le_of_eq rfl) (hb hby at_87) (by decide) (by decide) fun v14 T14 hh14 L14 X14 e14 hQ14 => ?_
      obtain ⟨rfl, NL14, he14⟩ := hQ14
      replace e14 := e14.trans he14
      have N14 := Fr.app N13 NL14
      show own_Out p e below _ T14 (mkF m 90 #[.val (.int x0), .val (.int x1), .val (.int x2), .val (.int x3), .val (.int (x0 &&& (3 : Int32))), .val (.ref ob6), .val (.ref ob11), .unset, .unset] []) _ _ _
      refine own_to (fun t k => XS.aload X14.here hx rfl (hb hby at_90) rfl rfl k) ?_
      show own_Out p e below _ T14 (mkF m 92 #[.val (.int x0), .val (.int x1), .val (.int x2), .val (.int x3), .val (.int (x0 &&& (3 : Int32))), .val (.ref ob6), .val (.ref ob11), .unset, .unset] [(.ref ob11)]) _ _ _
      refine own_callV X14 hx hZ hown (a := ob11) (argsL := []) (rest := []) (hw _ (List.mem_of_getElem? (i := 29) rfl)) (hw _ (List.mem_of_getElem? (i := 25) rfl)) (hw _ (List.mem_of_getElem? (i := 27) rfl)) (hw _ (List.mem_of_getElem? (i := 26) rfl)) (hw _ (List.mem_of_getElem? (i := 2) rfl)) (hw _ (List.mem_of_getElem? (i := 28) rfl)) (by decide) (rm5 l Z a0 hw ob11 (3 : Int32) (3 : Int32) hh13 n0 Z0 F_ob11_position F_ob11_end) (by decide) (by decide) e14 E_ob11 rfl (by rw [hml]; rfl) (lenOf pd_1 rfl) rfl (W := 0) (by show 2 * 0 + _ ≤ _; exact Nat.le_of_eq rfl) (hb hby at_92) (by decide) (by decide) fun v15 T15 hh15 L15 X15 e15 hQ15 => ?_
      obtain ⟨rfl, NL15, he15⟩ := hQ15
      replace e15 := e15.trans he15
      have N15 := Fr.app N14 NL15
      show own_Out p e below _ T15 (mkF m 95 #[.val (.int x0), .val (.int x1), .val (.int x2), .val (.int x3), .val (.int (x0 &&& (3 : Int32))), .val (.ref ob6), .val (.ref ob11), .unset, .unset] [(.int (R5 ob11 (3 : Int32) (3 : Int32)))]) _ _ _
      have hc95 : (R5 ob11 (3 : Int32) (3 : Int32)) = (0 : Int32) := own_hn0 _ _ _ (by decide)
      refine own_to (fun t k => XS.ifNo X15.here hx rfl (hb hby at_95) rfl ((if0 _ _).trans (teq hc95).2) k) ?_
      show own_Out p e below _ T15 (mkF m 98 #[.val (.int x0), .val (.int x1), .val (.int x2), .val (.int x3), .val (.int (x0 &&& (3 : Int32))), .val (.ref ob6), .val (.ref ob11), .unset, .unset] []) _ _ _
      refine own_to (fun t k => XS.iconst X15.here hx rfl (hb hby at_98) k) ?_
      show own_Out p e below _ T15 (mkF m 99 #[.val (.int x0), .val (.int x1), .val (.int x2), .val (.int x3), .val (.int (x0 &&& (3 : Int32))), .val (.ref ob6), .val (.ref ob11), .unset, .unset] [(.int (1 : Int32))]) _ _ _
      refine own_to (fun t k => XS.goto X15.here hx rfl (pc0 := 99) (pc' := 103) rfl (hb hby at_99) (by decide) (by decide) k) ?_
      show own_Out p e below _ T15 (mkF m 103 #[.val (.int x0), .val (.int x1), .val (.int x2), .val (.int x3), .val (.int (x0 &&& (3 : Int32))), .val (.ref ob6), .val (.ref ob11), .unset, .unset] [(.int (1 : Int32))]) _ _ _
      refine own_retVW X15 hS hk e15 hx hlk (w := .int (1 : Int32)) hret rfl (Or.inl ⟨rfl, by simp, _, rfl⟩) (hb hby at_103) (by decide) (by decide) ?_
      rw [e15]
      exact ⟨rfl, N15⟩
    · refine own_to (fun t k => XS.icmpYes X0.here hx rfl (pc0 := 44) (pc' := 104) rfl (hb hby at_44) rfl (feq hc44).2 (by decide) (by decide) k) ?_
      show own_Out p e below _ s₁ (mkF m 104 #[.val (.int x0), .val (.int x1), .val (.int x2), .val (.int x3), .val (.int (x0 &&& (3 : Int32))), .unset, .unset, .unset, .unset] []) _ _ _
      refine own_to (fun t k => XS.iload X0.here hx rfl (hb hby at_104) rfl k) ?_
      show own_Out p e below _ s₁ (mkF m 106 #[.val (.int x0), .val (.int x1), .val (.int x2), .val (.int x3), .val (.int (x0 &&& (3 : Int32))), .unset, .unset, .unset, .unset] [(.int (x0 &&& (3 : Int32)))]) _ _ _
      refine own_to (fun t k => XS.iconst X0.here hx rfl (hb hby at_106) k) ?_
      show own_Out p e below _ s₁ (mkF m 107 #[.val (.int x0), .val (.int x1), .val (.int x2), .val (.int x3), .val (.int (x0 &&& (3 : Int32))), .unset, .unset, .unset, .unset] [(.int (2 : Int32)), (.int (x0 &&& (3 : Int32)))]) _ _ _
      by_cases hc107 : (x0 &&& (3 : Int32)) = (2 : Int32)
      · refine own_to (fun t k => XS.icmpNo X0.here hx rfl (hb hby at_107) rfl (teq hc107).2 k) ?_
        show own_Out p e below _ s₁ (mkF m 110 #[.val (.int x0), .val (.int x1), .val (.int x2), .val (.int x3), .val (.int (x0 &&& (3 : Int32))), .unset, .unset, .unset, .unset] []) _ _ _
        refine own_to (fun t k => XS.bipush X0.here hx rfl (hb hby at_110) k) ?_
        show own_Out p e below _ s₁ (mkF m 112 #[.val (.int x0), .val (.int x1), .val (.int x2), .val (.int x3), .val (.int (x0 &&& (3 : Int32))), .unset, .unset, .unset, .unset] [(.int (6 : Int32))]) _ _ _
        refine own_newA X0 hx hZ (hw _ (List.mem_of_getElem? (i := 3) rfl)) rfl e0 rfl (hb hby at_112) rfl (by decide) (cap := 6) (by decide) (by decide) (by decide) (by decide) fun T16 hh16 ob16 gb16 X16 e16 E16 A16 => ?_
        have g_ob16 : n0 ≤ ob16 := Nat.le_trans Z0 (Nat.le_of_eq gb16.symm)
        have Z0 := Nat.le_trans Z0 E16.1
        have hk := Nat.le_trans hk E16.1
        have A_ob16 : own_A Z hh16 ob16 .byte 6 (fun _ => 0) := A16
        show own_Out p e below _ T16 (mkF m 114 #[.val (.int x0), .val (.int x1), .val (.int x2), .val (.int x3), .val (.int (x0 &&& (3 : Int32))), .unset, .unset, .unset, .unset] [(.ref ob16)]) _ _ _
        refine own_to (fun t k => XS.dup X16.here hx rfl (hb hby at_114) rfl rfl k) ?_
        show own_Out p e below _ T16 (mkF m 115 #[.val (.int x0), .val (.int x1), .val (.int x2), .val (.int x3), .val (.int (x0 &&& (3 : Int32))), .unset, .unset, .unset, .unset] [(.ref ob16), (.ref ob16)]) _ _ _
        refine own_to (fun t k => XS.iconst X16.here hx rfl (hb hby at_115) k) ?_
        show own_Out p e below _ T16 (mkF m 116 #[.val (.int x0), .val (.int x1), .val (.int x2), .val (.int x3), .val (.int (x0 &&& (3 : Int32))), .unset, .unset, .unset, .unset] [(.int (0 : Int32)), (.ref ob16), (.ref ob16)]) _ _ _
        refine own_to (fun t k => XS.bipush X16.here hx rfl (hb hby at_116) k) ?_
        show own_Out p e below _ T16 (mkF m 118 #[.val (.int x0), .val (.int x1), .val (.int x2), .val (.int x3), .val (.int (x0 &&& (3 : Int32))), .unset, .unset, .unset, .unset] [(.int (48 : Int32)), (.int (0 : Int32)), (.ref ob16), (.ref ob16)]) _ _ _
        refine own_stB X16 hx hZ e16 A_ob16 (by decide) (by decide) rfl rfl (hb hby at_118) fun T17 hh17 X17 e17 W17 A17 => ?_
        have A_ob16 := A17
        have Z0 := Nat.le_trans Z0 (Nat.le_of_eq W17.size.symm)
        have hk := Nat.le_trans hk (Nat.le_of_eq W17.size.symm)
        have N17 := own_fs (sl := Int32.toNatClampNeg (0 : Int32)) N0 g_ob16
        show own_Out p e below _ T17 (mkF m 119 #[.val (.int x0), .val (.int x1), .val (.int x2), .val (.int x3), .val (.int (x0 &&& (3 : Int32))), .unset, .unset, .unset, .unset] [(.ref ob16)]) _ _ _
        refine own_to (fun t k => XS.dup X17.here hx rfl (hb hby at_119) rfl rfl k) ?_
        show own_Out p e below _ T17 (mkF m 120 #[.val (.int x0), .val (.int x1), .val (.int x2), .val (.int x3), .val (.int (x0 &&& (3 : Int32))), .unset, .unset, .unset, .unset] [(.ref ob16), (.ref ob16)]) _ _ _
        refine own_to (fun t k => XS.iconst X17.here hx rfl (hb hby at_120) k) ?_
        show own_Out p e below _ T17 (mkF m 121 #[.val (.int x0), .val (.int x1), .val (.int x2), .val (.int x3), .val (.int (x0 &&& (3 : Int32))), .unset, .unset, .unset, .unset] [(.int (1 : Int32)), (.ref ob16), (.ref ob16)]) _ _ _
        refine own_to (fun t k => XS.iconst X17.here hx rfl (hb hby at_121) k) ?_
        show own_Out p e below _ T17 (mkF m 122 #[.val (.int x0), .val (.int x1), .val (.int x2), .val (.int x3), .val (.int (x0 &&& (3 : Int32))), .unset, .unset, .unset, .unset] [(.int (2 : Int32)), (.int (1 : Int32)), (.ref ob16), (.ref ob16)]) _ _ _
        refine own_stB X17 hx hZ e17 A_ob16 (by decide) (by decide) rfl rfl (hb hby at_122) fun T18 hh18 X18 e18 W18 A18 => ?_
        have A_ob16 := A18
        have Z0 := Nat.le_trans Z0 (Nat.le_of_eq W18.size.symm)
        have hk := Nat.le_trans hk (Nat.le_of_eq W18.size.symm)
        have N18 := own_fs (sl := Int32.toNatClampNeg (1 : Int32)) N17 g_ob16
        show own_Out p e below _ T18 (mkF m 123 #[.val (.int x0), .val (.int x1), .val (.int x2), .val (.int x3), .val (.int (x0 &&& (3 : Int32))), .unset, .unset, .unset, .unset] [(.ref ob16)]) _ _ _
        refine own_to (fun t k => XS.dup X18.here hx rfl (hb hby at_123) rfl rfl k) ?_
        show own_Out p e below _ T18 (mkF m 124 #[.val (.int x0), .val (.int x1), .val (.int x2), .val (.int x3), .val (.int (x0 &&& (3 : Int32))), .unset, .unset, .unset, .unset] [(.ref ob16), (.ref ob16)]) _ _ _
        refine own_to (fun t k => XS.iconst X18.here hx rfl (hb hby at_124) k) ?_
        show own_Out p e below _ T18 (mkF m 125 #[.val (.int x0), .val (.int x1), .val (.int x2), .val (.int x3), .val (.int (x0 &&& (3 : Int32))), .unset, .unset, .unset, .unset] [(.int (2 : Int32)), (.ref ob16), (.ref ob16)]) _ _ _
        refine own_to (fun t k => XS.iloadN X18.here hx rfl (hb hby at_125) rfl k) ?_
        show own_Out p e below _ T18 (mkF m 126 #[.val (.int x0), .val (.int x1), .val (.int x2), .val (.int x3), .val (.int (x0 &&& (3 : Int32))), .unset, .unset, .unset, .unset] [(.int x1), (.int (2 : Int32)), (.ref ob16), (.ref ob16)]) _ _ _
        refine own_callS X18 hx hZ hown (argsL := [(.int x1)]) (rest := [(.int (2 : Int32)), (.ref ob16), (.ref ob16)]) (hw _ (List.mem_of_getElem? (i := 30) rfl)) (hw _ (List.mem_of_getElem? (i := 31) rfl)) (hw _ (List.mem_of_getElem? (i := 32) rfl)) (hw _ (List.mem_of_getElem? (i := 33) rfl)) (by decide) (rm6 l Z a0 hw x1 hh18 n0 Z0 ) (by decide) (by decide) e18 rfl (by rw [hml]; rfl) (lenOf pd_6 rfl) rfl (W := 3) (by show 2 * 0 + _ ≤ _; exact Nat.le_of_eq rfl) (hb hby at_126) (by decide) (by decide) fun v19 T19 hh19 L19 X19 e19 hQ19 => ?_
        obtain ⟨rfl, NL19, he19⟩ := hQ19
        replace e19 := e19.trans he19
        have N19 := Fr.app N18 NL19
        show own_Out p e below _ T19 (mkF m 129 #[.val (.int x0), .val (.int x1), .val (.int x2), .val (.int x3), .val (.int (x0 &&& (3 : Int32))), .unset, .unset, .unset, .unset] [(.int (R6 x1)), (.int (2 : Int32)), (.ref ob16), (.ref ob16)]) _ _ _
        refine own_stB X19 hx hZ e19 A_ob16 (by decide) (by decide) rfl rfl (hb hby at_129) fun T20 hh20 X20 e20 W20 A20 => ?_
        have A_ob16 := A20
        have Z0 := Nat.le_trans Z0 (Nat.le_of_eq W20.size.symm)
        have hk := Nat.le_trans hk (Nat.le_of_eq W20.size.symm)
        have N20 := own_fs (sl := Int32.toNatClampNeg (2 : Int32)) N19 g_ob16
        show own_Out p e below _ T20 (mkF m 130 #[.val (.int x0), .val (.int x1), .val (.int x2), .val (.int x3), .val (.int (x0 &&& (3 : Int32))), .unset, .unset, .unset, .unset] [(.ref ob16)]) _ _ _
        refine own_to (fun t k => XS.dup X20.here hx rfl (hb hby at_130) rfl rfl k) ?_
        show own_Out p e below _ T20 (mkF m 131 #[.val (.int x0), .val (.int x1), .val (.int x2), .val (.int x3), .val (.int (x0 &&& (3 : Int32))), .unset, .unset, .unset, .unset] [(.ref ob16), (.ref ob16)]) _ _ _
        refine own_to (fun t k => XS.iconst X20.here hx rfl (hb hby at_131) k) ?_
        show own_Out p e below _ T20 (mkF m 132 #[.val (.int x0), .val (.int x1), .val (.int x2), .val (.int x3), .val (.int (x0 &&& (3 : Int32))), .unset, .unset, .unset, .unset] [(.int (3 : Int32)), (.ref ob16), (.ref ob16)]) _ _ _
        refine own_to (fun t k => XS.iconst X20.here hx rfl (hb hby at_132) k) ?_
        show own_Out p e below _ T20 (mkF m 133 #[.val (.int x0), .val (.int x1), .val (.int x2), .val (.int x3), .val (.int (x0 &&& (3 : Int32))), .unset, .unset, .unset, .unset] [(.int (0 : Int32)), (.int (3 : Int32)), (.ref ob16), (.ref ob16)]) _ _ _
        refine own_stB X20 hx hZ e20 A_ob16 (by decide) (by decide) rfl rfl (hb hby at_133) fun T21 hh21 X21 e21 W21 A21 => ?_
        have A_ob16 := A21
        have Z0 := Nat.le_trans Z0 (Nat.le_of_eq W21.size.symm)
        have hk := Nat.le_trans hk (Nat.le_of_eq W21.size.symm)
        have N21 := own_fs (sl := Int32.toNatClampNeg (3 : Int32)) N20 g_ob16
        show own_Out p e below _ T21 (mkF m 134 #[.val (.int x0), .val (.int x1), .val (.int x2), .val (.int x3), .val (.int (x0 &&& (3 : Int32))), .unset, .unset, .unset, .unset] [(.ref ob16)]) _ _ _
        refine own_to (fun t k => XS.dup X21.here hx rfl (hb hby at_134) rfl rfl k) ?_
        show own_Out p e below _ T21 (mkF m 135 #[.val (.int x0), .val (.int x1), .val (.int x2), .val (.int x3), .val (.int (x0 &&& (3 : Int32))), .unset, .unset, .unset, .unset] [(.ref ob16), (.ref ob16)]) _ _ _
        refine own_to (fun t k => XS.iconst X21.here hx rfl (hb hby at_135) k) ?_
        show own_Out p e below _ T21 (mkF m 136 #[.val (.int x0), .val (.int x1), .val (.int x2), .val (.int x3), .val (.int (x0 &&& (3 : Int32))), .unset, .unset, .unset, .unset] [(.int (4 : Int32)), (.ref ob16), (.ref ob16)]) _ _ _
        refine own_to (fun t k => XS.iloadN X21.here hx rfl (hb hby at_136) rfl k) ?_
        show own_Out p e below _ T21 (mkF m 137 #[.val (.int x0), .val (.int x1), .val (.int x2), .val (.int x3), .val (.int (x0 &&& (3 : Int32))), .unset, .unset, .unset, .unset] [(.int x2), (.int (4 : Int32)), (.ref ob16), (.ref ob16)]) _ _ _
        refine own_callS X21 hx hZ hown (argsL := [(.int x2)]) (rest := [(.int (4 : Int32)), (.ref ob16), (.ref ob16)]) (hw _ (List.mem_of_getElem? (i := 30) rfl)) (hw _ (List.mem_of_getElem? (i := 31) rfl)) (hw _ (List.mem_of_getElem? (i := 32) rfl)) (hw _ (List.mem_of_getElem? (i := 33) rfl)) (by decide) (rm6 l Z a0 hw x2 hh21 n0 Z0 ) (by decide) (by decide) e21 rfl (by rw [hml]; rfl) (lenOf pd_6 rfl) rfl (W := 3) (by show 2 * 0 + _ ≤ _; exact Nat.le_of_eq rfl) (hb hby at_137) (by decide) (by decide) fun v22 T22 hh22 L22 X22 e22 hQ22 => ?_
        obtain ⟨rfl, NL22, he22⟩ := hQ22
        replace e22 := e22.trans he22
        have N22 := Fr.app N21 NL22
        show own_Out p e below _ T22 (mkF m 140 #[.val (.int x0), .val (.int x1), .val (.int x2), .val (.int x3), .val (.int (x0 &&& (3 : Int32))), .unset, .unset, .unset, .unset] [(.int (R6 x2)), (.int (4 : Int32)), (.ref ob16), (.ref ob16)]) _ _ _
        refine own_stB X22 hx hZ e22 A_ob16 (by decide) (by decide) rfl rfl (hb hby at_140) fun T23 hh23 X23 e23 W23 A23 => ?_
        have A_ob16 := A23
        have Z0 := Nat.le_trans Z0 (Nat.le_of_eq W23.size.symm)
        have hk := Nat.le_trans hk (Nat.le_of_eq W23.size.symm)
        have N23 := own_fs (sl := Int32.toNatClampNeg (4 : Int32)) N22 g_ob16
        show own_Out p e below _ T23 (mkF m 141 #[.val (.int x0), .val (.int x1), .val (.int x2), .val (.int x3), .val (.int (x0 &&& (3 : Int32))), .unset, .unset, .unset, .unset] [(.ref ob16)]) _ _ _
        refine own_to (fun t k => XS.dup X23.here hx rfl (hb hby at_141) rfl rfl k) ?_
        show own_Out p e below _ T23 (mkF m 142 #[.val (.int x0), .val (.int x1), .val (.int x2), .val (.int x3), .val (.int (x0 &&& (3 : Int32))), .unset, .unset, .unset, .unset] [(.ref ob16), (.ref ob16)]) _ _ _
        refine own_to (fun t k => XS.iconst X23.here hx rfl (hb hby at_142) k) ?_
        show own_Out p e below _ T23 (mkF m 143 #[.val (.int x0), .val (.int x1), .val (.int x2), .val (.int x3), .val (.int (x0 &&& (3 : Int32))), .unset, .unset, .unset, .unset] [(.int (5 : Int32)), (.ref ob16), (.ref ob16)]) _ _ _
        refine own_to (fun t k => XS.iconst X23.here hx rfl (hb hby at_143) k) ?_
        show own_Out p e below _ T23 (mkF m 144 #[.val (.int x0), .val (.int x1), .val (.int x2), .val (.int x3), .val (.int (x0 &&& (3 : Int32))), .unset, .unset, .unset, .unset] [(.int (0 : Int32)), (.int (5 : Int32)), (.ref ob16), (.ref ob16)]) _ _ _
        refine own_stB X23 hx hZ e23 A_ob16 (by decide) (by decide) rfl rfl (hb hby at_144) fun T24 hh24 X24 e24 W24 A24 => ?_
        have A_ob16 := A24
        have Z0 := Nat.le_trans Z0 (Nat.le_of_eq W24.size.symm)
        have hk := Nat.le_trans hk (Nat.le_of_eq W24.size.symm)
        have N24 := own_fs (sl := Int32.toNatClampNeg (5 : Int32)) N23 g_ob16
        show own_Out p e below _ T24 (mkF m 145 #[.val (.int x0), .val (.int x1), .val (.int x2), .val (.int x3), .val (.int (x0 &&& (3 : Int32))), .unset, .unset, .unset, .unset] [(.ref ob16)]) _ _ _
        refine own_to (fun t k => XS.astore X24.here hx rfl (hb hby at_145) rfl rfl (l' := #[.val (.int x0), .val (.int x1), .val (.int x2), .val (.int x3), .val (.int (x0 &&& (3 : Int32))), .val (.ref ob16), .unset, .unset, .unset]) rfl k) ?_
        show own_Out p e below _ T24 (mkF m 147 #[.val (.int x0), .val (.int x1), .val (.int x2), .val (.int x3), .val (.int (x0 &&& (3 : Int32))), .val (.ref ob16), .unset, .unset, .unset] []) _ _ _
        refine own_new X24 hx hZ hown (hw _ (List.mem_of_getElem? (i := 0) rfl)) (hw _ (List.mem_of_getElem? (i := 1) rfl)) (hw _ (List.mem_of_getElem? (i := 2) rfl)) e24 rfl (hb hby at_147) (by decide) (by decide) fun T25 hh25 ob25 gb25 X25 e25 E25 A25 D25 => ?_
        have ne_ob16_ob25 : ob16 ≠ ob25 := Nat.ne_of_lt (Nat.lt_of_lt_of_le A_ob16.lt (Nat.le_of_eq gb25.symm))
        have ne_ob25_ob16 := Ne.symm ne_ob16_ob25
        have g_ob25 : n0 ≤ ob25 := Nat.le_trans Z0 (Nat.le_of_eq gb25.symm)
        have A_ob16 := A_ob16.ext E25
        have Z0 := Nat.le_trans Z0 E25.1
        have hk := Nat.le_trans hk E25.1
        have E_ob25 := A25
        have F_ob25_bytes : Fld Z hh25 ob25 "com/example/pathwarden/pathwarden/util/DerReader" "bytes" "[B" .null := D25 (Or.inr (hw _ (List.mem_of_getElem? (i := 14) rfl))) (ty := (.array .byte)) (by decide)
        have F_ob25_position : Fld Z hh25 ob25 "com/example/pathwarden/pathwarden/util/DerReader" "position" "I" (.int (0 : Int32)) := D25 (Or.inl (hw _ (List.mem_of_getElem? (i := 16) rfl))) (ty := .int) (by decide)
        have F_ob25_end : Fld Z hh25 ob25 "com/example/pathwarden/pathwarden/util/DerReader" "end" "I" (.int (0 : Int32)) := D25 (Or.inr (hw _ (List.mem_of_getElem? (i := 18) rfl))) (ty := .int) (by decide)
        show own_Out p e below _ T25 (mkF m 150 #[.val (.int x0), .val (.int x1), .val (.int x2), .val (.int x3), .val (.int (x0 &&& (3 : Int32))), .val (.ref ob16), .unset, .unset, .unset] [(.ref ob25)]) _ _ _
        refine own_to (fun t k => XS.dup X25.here hx rfl (hb hby at_150) rfl rfl k) ?_
        show own_Out p e below _ T25 (mkF m 151 #[.val (.int x0), .val (.int x1), .val (.int x2), .val (.int x3), .val (.int (x0 &&& (3 : Int32))), .val (.ref ob16), .unset, .unset, .unset] [(.ref ob25), (.ref ob25)]) _ _ _
        refine own_to (fun t k => XS.aload X25.here hx rfl (hb hby at_151) rfl rfl k) ?_
        show own_Out p e below _ T25 (mkF m 153 #[.val (.int x0), .val (.int x1), .val (.int x2), .val (.int x3), .val (.int (x0 &&& (3 : Int32))), .val (.ref ob16), .unset, .unset, .unset] [(.ref ob16), (.ref ob25), (.ref ob25)]) _ _ _
        refine own_callC X25 hx hZ hown (a := ob25) (argsL := [(.ref ob16)]) (rest := [(.ref ob25)]) rfl (hw _ (List.mem_of_getElem? (i := 4) rfl)) (hw _ (List.mem_of_getElem? (i := 5) rfl)) (hw _ (List.mem_of_getElem? (i := 2) rfl)) (hw _ (List.mem_of_getElem? (i := 6) rfl)) (by decide) (rm1 l Z a0 hw ob25 ob16 6 (own_upd (own_upd (own_upd (own_upd (own_upd (own_upd (fun _ => 0) ((0 : Int32).toNatClampNeg) (nar .byte (48 : Int32))) ((1 : Int32).toNatClampNeg) (nar .byte (2 : Int32))) ((2 : Int32).toNatClampNeg) (nar .byte (R6 x1))) ((3 : Int32).toNatClampNeg) (nar .byte (0 : Int32))) ((4 : Int32).toNatClampNeg) (nar .byte (R6 x2))) ((5 : Int32).toNatClampNeg) (nar .byte (0 : Int32))) hh25 n0 Z0 E_ob25 F_ob25_bytes F_ob25_position F_ob25_end g_ob25 A_ob16 ne_ob16_ob25) (by decide) (by decide) e25 rfl (by rw [hml]; rfl) (lenOf pd_4 rfl) rfl (W := 1) (by show 2 * 0 + _ ≤ _; exact Nat.le_of_eq rfl) (hb hby at_153) (by decide) (by decide) fun v26 T26 hh26 L26 X26 e26 hQ26 => ?_
        obtain ⟨rfl, NL26, KK26, P26_0, P26_1, P26_2⟩ := hQ26
        have A_ob16 := A_ob16.keep KK26 (by simp [ne_ob16_ob25])
        have E_ob25 := E_ob25.keep KK26
        have F_ob25_bytes := P26_0
        have F_ob25_position := P26_1
        have F_ob25_end := P26_2
        have Z0 := Nat.le_trans Z0 KK26.1
        have hk := Nat.le_trans hk KK26.1
        have N26 := Fr.app N24 NL26
        show own_Out p e below _ T26 (mkF m 156 #[.val (.int x0), .val (.int x1), .val (.int x2), .val (.int x3), .val (.int (x0 &&& (3 : Int32))), .val (.ref ob16), .unset, .unset, .unset] [(.ref ob25)]) _ _ _
        rw [show (Nat.toInt32 6) = (6 : Int32) from by decide] at F_ob25_end
        refine own_to (fun t k => XS.astore X26.here hx rfl (hb hby at_156) rfl rfl (l' := #[.val (.int x0), .val (.int x1), .val (.int x2), .val (.int x3), .val (.int (x0 &&& (3 : Int32))), .val (.ref ob16), .val (.ref ob25), .unset, .unset]) rfl k) ?_
        show own_Out p e below _ T26 (mkF m 158 #[.val (.int x0), .val (.int x1), .val (.int x2), .val (.int x3), .val (.int (x0 &&& (3 : Int32))), .val (.ref ob16), .val (.ref ob25), .unset, .unset] []) _ _ _
        refine own_to (fun t k => XS.aload X26.here hx rfl (hb hby at_158) rfl rfl k) ?_
        show own_Out p e below _ T26 (mkF m 160 #[.val (.int x0), .val (.int x1), .val (.int x2), .val (.int x3), .val (.int (x0 &&& (3 : Int32))), .val (.ref ob16), .val (.ref ob25), .unset, .unset] [(.ref ob25)]) _ _ _
        refine own_callVW X26 hx hZ hown hS hk (a := ob25) (argsL := []) (rest := []) (hw _ (List.mem_of_getElem? (i := 34) rfl)) (hw _ (List.mem_of_getElem? (i := 35) rfl)) (hw _ (List.mem_of_getElem? (i := 37) rfl)) (hw _ (List.mem_of_getElem? (i := 36) rfl)) (hw _ (List.mem_of_getElem? (i := 2) rfl)) (hw _ (List.mem_of_getElem? (i := 38) rfl)) (by decide) (rm7 l Z a0 hw ob25 (0 : Int32) (6 : Int32) ob16 6 (own_upd (own_upd (own_upd (own_upd (own_upd (own_upd (fun _ => 0) ((0 : Int32).toNatClampNeg) (nar .byte (48 : Int32))) ((1 : Int32).toNatClampNeg) (nar .byte (2 : Int32))) ((2 : Int32).toNatClampNeg) (nar .byte (R6 x1))) ((3 : Int32).toNatClampNeg) (nar .byte (0 : Int32))) ((4 : Int32).toNatClampNeg) (nar .byte (R6 x2))) ((5 : Int32).toNatClampNeg) (nar .byte (0 : Int32))) (48 : Int32) (2 : Int32) hh26 n0 Z0 E_ob25 F_ob25_bytes F_ob25_position F_ob25_end A_ob16 g_ob25 ne_ob16_ob25 (by decide) (by decide) ((show (48 : Int32) = ((nar .byte (48 : Int32)) &&& (255 : Int32)) from by decide).trans (congrArg (fun z => z &&& (255 : Int32)) ((own_miss (by decide)).trans ((own_miss (by decide)).trans ((own_miss (by decide)).trans ((own_miss (by decide)).trans ((own_miss (by decide)).trans (own_hit (by decide)))))))).symm) (by decide) (by decide) ((show (2 : Int32) = ((nar .byte (2 : Int32)) &&& (255 : Int32)) from by decide).trans (congrArg (fun z => z &&& (255 : Int32)) ((own_miss (by decide)).trans ((own_miss (by decide)).trans ((own_miss (by decide)).trans ((own_miss (by decide)).trans (own_hit (by decide))))))).symm) (by decide) (by decide) (by decide)) (by decide) (by decide) e26 E_ob25 rfl (by rw [hml]; rfl) (lenOf pd_7 rfl) rfl (W := 0) (by show 2 * 0 + _ ≤ _; exact Nat.le_of_eq rfl) (hb hby at_160) (by decide) (by decide) fun v27 T27 hh27 L27 X27 e27 hQ27 hZ hown hS => ?_
        obtain ⟨NL27, KK27, ob27el, rfl, szc_ob27el, P27_0, P27_1, P27_2, P27_3, P27_4, P27_5, P27_6, P27_7, P27_8⟩ := hQ27
        have ne_ob16_ob27el : ob16 ≠ ob27el := Nat.ne_of_lt (Nat.lt_of_lt_of_le A_ob16.lt szc_ob27el)
        have ne_ob27el_ob16 := Ne.symm ne_ob16_ob27el
        have ne_ob25_ob27el : ob25 ≠ ob27el := Nat.ne_of_lt (Nat.lt_of_lt_of_le E_ob25.lt szc_ob27el)
        have ne_ob27el_ob25 := Ne.symm ne_ob25_ob27el
        have g_ob27el : n0 ≤ ob27el := Nat.le_trans Z0 szc_ob27el
        have A_ob16 := A_ob16.keep KK27 (by simp [ne_ob16_ob25])
        have E_ob25 := E_ob25.keep KK27
        have F_ob25_bytes := P27_0
        have F_ob25_position := P27_1
        have F_ob25_end := P27_2
        have E_ob27el := P27_3
        have F_ob27el_bytes := P27_4
        have F_ob27el_tag := P27_5
        have F_ob27el_start := P27_6
        have F_ob27el_contents := P27_7
        have F_ob27el_end := P27_8
        have Z0 := Nat.le_trans Z0 KK27.1
        have hk := Nat.le_refl hh27.size
        have N27 := Fr.app N26 NL27
        show own_Out p e below _ T27 (mkF m 163 #[.val (.int x0), .val (.int x1), .val (.int x2), .val (.int x3), .val (.int (x0 &&& (3 : Int32))), .val (.ref ob16), .val (.ref ob25), .unset, .unset] [(.ref ob27el)]) _ _ _
        rw [show ((((0 : Int32) + (1 : Int32)) + (1 : Int32)) + (((2 : Int32).toInt64).toInt32)) = (4 : Int32) from by decide] at F_ob25_position
        rw [show (((0 : Int32) + (1 : Int32)) + (1 : Int32)) = (2 : Int32) from by decide] at F_ob27el_contents
        rw [show ((((0 : Int32) + (1 : Int32)) + (1 : Int32)) + (((2 : Int32).toInt64).toInt32)) = (4 : Int32) from by decide] at F_ob27el_end
        refine own_to (fun t k => XS.astore X27.here hx rfl (hb hby at_163) rfl rfl (l' := #[.val (.int x0), .val (.int x1), .val (.int x2), .val (.int x3), .val (.int (x0 &&& (3 : Int32))), .val (.ref ob16), .val (.ref ob25), .val (.ref ob27el), .unset]) rfl k) ?_
        show own_Out p e below _ T27 (mkF m 165 #[.val (.int x0), .val (.int x1), .val (.int x2), .val (.int x3), .val (.int (x0 &&& (3 : Int32))), .val (.ref ob16), .val (.ref ob25), .val (.ref ob27el), .unset] []) _ _ _
        refine own_to (fun t k => XS.aload X27.here hx rfl (hb hby at_165) rfl rfl k) ?_
        show own_Out p e below _ T27 (mkF m 167 #[.val (.int x0), .val (.int x1), .val (.int x2), .val (.int x3), .val (.int (x0 &&& (3 : Int32))), .val (.ref ob16), .val (.ref ob25), .val (.ref ob27el), .unset] [(.ref ob27el)]) _ _ _
        refine own_callV X27 hx hZ hown (a := ob27el) (argsL := []) (rest := []) (hw _ (List.mem_of_getElem? (i := 69) rfl)) (hw _ (List.mem_of_getElem? (i := 70) rfl)) (hw _ (List.mem_of_getElem? (i := 72) rfl)) (hw _ (List.mem_of_getElem? (i := 71) rfl)) (hw _ (List.mem_of_getElem? (i := 54) rfl)) (hw _ (List.mem_of_getElem? (i := 73) rfl)) (by decide) (rm10 l Z a0 hw ob27el ob16 (2 : Int32) (4 : Int32) hh27 n0 Z0 F_ob27el_bytes F_ob27el_contents F_ob27el_end) (by decide) (by decide) e27 E_ob27el rfl (by rw [hml]; rfl) (lenOf pd_8 rfl) rfl (W := 0) (by show 2 * 0 + _ ≤ _; exact Nat.le_of_eq rfl) (hb hby at_167) (by decide) (by decide) fun v28 T28 hh28 L28 X28 e28 hQ28 => ?_
        obtain ⟨NL28, KK28, ob28rd, rfl, szc_ob28rd, P28_0, P28_1, P28_2, P28_3⟩ := hQ28
        have ne_ob16_ob28rd : ob16 ≠ ob28rd := Nat.ne_of_lt (Nat.lt_of_lt_of_le A_ob16.lt szc_ob28rd)
        have ne_ob28rd_ob16 := Ne.symm ne_ob16_ob28rd
        have ne_ob25_ob28rd : ob25 ≠ ob28rd := Nat.ne_of_lt (Nat.lt_of_lt_of_le E_ob25.lt szc_ob28rd)
        have ne_ob28rd_ob25 := Ne.symm ne_ob25_ob28rd
        have ne_ob27el_ob28rd : ob27el ≠ ob28rd := Nat.ne_of_lt (Nat.lt_of_lt_of_le E_ob27el.lt szc_ob28rd)
        have ne_ob28rd_ob27el := Ne.symm ne_ob27el_ob28rd
        have g_ob28rd : n0 ≤ ob28rd := Nat.le_trans Z0 szc_ob28rd
        have A_ob16 := A_ob16.keep KK28 (by simp [])
        have E_ob25 := E_ob25.keep KK28
        have F_ob25_bytes := F_ob25_bytes.keep KK28 (by simp [])
        have F_ob25_position := F_ob25_position.keep KK28 (by simp [])
        have F_ob25_end := F_ob25_end.keep KK28 (by simp [])
        have E_ob27el := E_ob27el.keep KK28
        have F_ob27el_bytes := F_ob27el_bytes.keep KK28 (by simp [])
        have F_ob27el_tag := F_ob27el_tag.keep KK28 (by simp [])
        have F_ob27el_start := F_ob27el_start.keep KK28 (by simp [])
        have F_ob27el_contents := F_ob27el_contents.keep KK28 (by simp [])
        have F_ob27el_end := F_ob27el_end.keep KK28 (by simp [])
        have E_ob28rd := P28_0
        have F_ob28rd_bytes := P28_1
        have F_ob28rd_position := P28_2
        have F_ob28rd_end := P28_3
        have Z0 := Nat.le_trans Z0 KK28.1
        have hk := Nat.le_trans hk KK28.1
        have N28 := Fr.app N27 NL28
        show own_Out p e below _ T28 (mkF m 170 #[.val (.int x0), .val (.int x1), .val (.int x2), .val (.int x3), .val (.int (x0 &&& (3 : Int32))), .val (.ref ob16), .val (.ref ob25), .val (.ref ob27el), .unset] [(.ref ob28rd)]) _ _ _
        refine own_to (fun t k => XS.astore X28.here hx rfl (hb hby at_170) rfl rfl (l' := #[.val (.int x0), .val (.int x1), .val (.int x2), .val (.int x3), .val (.int (x0 &&& (3 : Int32))), .val (.ref ob16), .val (.ref ob25), .val (.ref ob27el), .val (.ref ob28rd)]) rfl k) ?_
        show own_Out p e below _ T28 (mkF m 172 #[.val (.int x0), .val (.int x1), .val (.int x2), .val (.int x3), .val (.int (x0 &&& (3 : Int32))), .val (.ref ob16), .val (.ref ob25), .val (.ref ob27el), .val (.ref ob28rd)] []) _ _ _
        refine own_to (fun t k => XS.aload X28.here hx rfl (hb hby at_172) rfl rfl k) ?_
        show own_Out p e below _ T28 (mkF m 174 #[.val (.int x0), .val (.int x1), .val (.int x2), .val (.int x3), .val (.int (x0 &&& (3 : Int32))), .val (.ref ob16), .val (.ref ob25), .val (.ref ob27el), .val (.ref ob28rd)] [(.ref ob28rd)]) _ _ _
        refine own_callVW X28 hx hZ hown hS hk (a := ob28rd) (argsL := []) (rest := []) (hw _ (List.mem_of_getElem? (i := 34) rfl)) (hw _ (List.mem_of_getElem? (i := 35) rfl)) (hw _ (List.mem_of_getElem? (i := 37) rfl)) (hw _ (List.mem_of_getElem? (i := 36) rfl)) (hw _ (List.mem_of_getElem? (i := 2) rfl)) (hw _ (List.mem_of_getElem? (i := 38) rfl)) (by decide) (rm7 l Z a0 hw ob28rd (2 : Int32) (4 : Int32) ob16 6 (own_upd (own_upd (own_upd (own_upd (own_upd (own_upd (fun _ => 0) ((0 : Int32).toNatClampNeg) (nar .byte (48 : Int32))) ((1 : Int32).toNatClampNeg) (nar .byte (2 : Int32))) ((2 : Int32).toNatClampNeg) (nar .byte (R6 x1))) ((3 : Int32).toNatClampNeg) (nar .byte (0 : Int32))) ((4 : Int32).toNatClampNeg) (nar .byte (R6 x2))) ((5 : Int32).toNatClampNeg) (nar .byte (0 : Int32))) ((nar .byte (R6 x1)) &&& (255 : Int32)) (0 : Int32) hh28 n0 Z0 E_ob28rd F_ob28rd_bytes F_ob28rd_position F_ob28rd_end A_ob16 g_ob28rd ne_ob16_ob28rd (by decide) (by decide) ((congrArg (fun z => z &&& (255 : Int32)) ((own_miss (by decide)).trans ((own_miss (by decide)).trans ((own_miss (by decide)).trans (own_hit (by decide)))))).symm) (by decide) (by decide) ((show (0 : Int32) = ((nar .byte (0 : Int32)) &&& (255 : Int32)) from by decide).trans (congrArg (fun z => z &&& (255 : Int32)) ((own_miss (by decide)).trans ((own_miss (by decide)).trans (own_hit (by decide))))).symm) (own_tagok x1) (by decide) (by decide)) (by decide) (by decide) e28 E_ob28rd rfl (by rw [hml]; rfl) (lenOf pd_7 rfl) rfl (W := 0) (by show 2 * 0 + _ ≤ _; exact Nat.le_of_eq rfl) (hb hby at_174) (by decide) (by decide) fun v29 T29 hh29 L29 X29 e29 hQ29 hZ hown hS => ?_
        obtain ⟨NL29, KK29, ob29el, rfl, szc_ob29el, P29_0, P29_1, P29_2, P29_3, P29_4, P29_5, P29_6, P29_7, P29_8⟩ := hQ29
        have ne_ob16_ob29el : ob16 ≠ ob29el := Nat.ne_of_lt (Nat.lt_of_lt_of_le A_ob16.lt szc_ob29el)
        have ne_ob29el_ob16 := Ne.symm ne_ob16_ob29el
        have ne_ob25_ob29el : ob25 ≠ ob29el := Nat.ne_of_lt (Nat.lt_of_lt_of_le E_ob25.lt szc_ob29el)
        have ne_ob29el_ob25 := Ne.symm ne_ob25_ob29el
        have ne_ob27el_ob29el : ob27el ≠ ob29el := Nat.ne_of_lt (Nat.lt_of_lt_of_le E_ob27el.lt szc_ob29el)
        have ne_ob29el_ob27el := Ne.symm ne_ob27el_ob29el
        have ne_ob28rd_ob29el : ob28rd ≠ ob29el := Nat.ne_of_lt (Nat.lt_of_lt_of_le E_ob28rd.lt szc_ob29el)
        have ne_ob29el_ob28rd := Ne.symm ne_ob28rd_ob29el
        have g_ob29el : n0 ≤ ob29el := Nat.le_trans Z0 szc_ob29el
        have A_ob16 := A_ob16.keep KK29 (by simp [ne_ob16_ob28rd])
        have E_ob25 := E_ob25.keep KK29
        have F_ob25_bytes := F_ob25_bytes.keep KK29 (by simp [ne_ob25_ob28rd])
        have F_ob25_position := F_ob25_position.keep KK29 (by simp [ne_ob25_ob28rd])
        have F_ob25_end := F_ob25_end.keep KK29 (by simp [ne_ob25_ob28rd])
        have E_ob27el := E_ob27el.keep KK29
        have F_ob27el_bytes := F_ob27el_bytes.keep KK29 (by simp [ne_ob27el_ob28rd])
        have F_ob27el_tag := F_ob27el_tag.keep KK29 (by simp [ne_ob27el_ob28rd])
        have F_ob27el_start := F_ob27el_start.keep KK29 (by simp [ne_ob27el_ob28rd])
        have F_ob27el_contents := F_ob27el_contents.keep KK29 (by simp [ne_ob27el_ob28rd])
        have F_ob27el_end := F_ob27el_end.keep KK29 (by simp [ne_ob27el_ob28rd])
        have E_ob28rd := E_ob28rd.keep KK29
        have F_ob28rd_bytes := P29_0
        have F_ob28rd_position := P29_1
        have F_ob28rd_end := P29_2
        have E_ob29el := P29_3
        have F_ob29el_bytes := P29_4
        have F_ob29el_tag := P29_5
        have F_ob29el_start := P29_6
        have F_ob29el_contents := P29_7
        have F_ob29el_end := P29_8
        have Z0 := Nat.le_trans Z0 KK29.1
        have hk := Nat.le_refl hh29.size
        have N29 := Fr.app N28 NL29
        show own_Out p e below _ T29 (mkF m 177 #[.val (.int x0), .val (.int x1), .val (.int x2), .val (.int x3), .val (.int (x0 &&& (3 : Int32))), .val (.ref ob16), .val (.ref ob25), .val (.ref ob27el), .val (.ref ob28rd)] [(.ref ob29el)]) _ _ _
        rw [show ((((2 : Int32) + (1 : Int32)) + (1 : Int32)) + (((0 : Int32).toInt64).toInt32)) = (4 : Int32) from by decide] at F_ob28rd_position
        rw [show (((2 : Int32) + (1 : Int32)) + (1 : Int32)) = (4 : Int32) from by decide] at F_ob29el_contents
        rw [show ((((2 : Int32) + (1 : Int32)) + (1 : Int32)) + (((0 : Int32).toInt64).toInt32)) = (4 : Int32) from by decide] at F_ob29el_end
        refine own_to (fun t k => XS.pop X29.here hx rfl (hb hby at_177) rfl rfl k) ?_
        show own_Out p e below _ T29 (mkF m 178 #[.val (.int x0), .val (.int x1), .val (.int x2), .val (.int x3), .val (.int (x0 &&& (3 : Int32))), .val (.ref ob16), .val (.ref ob25), .val (.ref ob27el), .val (.ref ob28rd)] []) _ _ _
        refine own_to (fun t k => XS.aload X29.here hx rfl (hb hby at_178) rfl rfl k) ?_
        show own_Out p e below _ T29 (mkF m 180 #[.val (.int x0), .val (.int x1), .val (.int x2), .val (.int x3), .val (.int (x0 &&& (3 : Int32))), .val (.ref ob16), .val (.ref ob25), .val (.ref ob27el), .val (.ref ob28rd)] [(.ref ob28rd)]) _ _ _
        refine own_callV X29 hx hZ hown (a := ob28rd) (argsL := []) (rest := []) (hw _ (List.mem_of_getElem? (i := 19) rfl)) (hw _ (List.mem_of_getElem? (i := 20) rfl)) (hw _ (List.mem_of_getElem? (i := 22) rfl)) (hw _ (List.mem_of_getElem? (i := 21) rfl)) (hw _ (List.mem_of_getElem? (i := 2) rfl)) (hw _ (List.mem_of_getElem? (i := 23) rfl)) (by decide) (rm4 l Z a0 hw ob28rd (4 : Int32) (4 : Int32) hh29 n0 Z0 E_ob28rd F_ob28rd_position F_ob28rd_end (by decide)) (by decide) (by decide) e29 E_ob28rd rfl (by rw [hml]; rfl) (lenOf pd_5 rfl) rfl (W := 0) (by show 2 * 0 + _ ≤ _; exact Nat.le_of_eq rfl) (hb hby at_180) (by decide) (by decide) fun v30 T30 hh30 L30 X30 e30 hQ30 => ?_
        obtain ⟨rfl, NL30, he30⟩ := hQ30
        replace e30 := e30.trans he30
        have N30 := Fr.app N29 NL30
        show own_Out p e below _ T30 (mkF m 183 #[.val (.int x0), .val (.int x1), .val (.int x2), .val (.int x3), .val (.int (x0 &&& (3 : Int32))), .val (.ref ob16), .val (.ref ob25), .val (.ref ob27el), .val (.ref ob28rd)] []) _ _ _
        refine own_to (fun t k => XS.aload X30.here hx rfl (hb hby at_183) rfl rfl k) ?_
        show own_Out p e below _ T30 (mkF m 185 #[.val (.int x0), .val (.int x1), .val (.int x2), .val (.int x3), .val (.int (x0 &&& (3 : Int32))), .val (.ref ob16), .val (.ref ob25), .val (.ref ob27el), .val (.ref ob28rd)] [(.ref ob25)]) _ _ _
        refine own_callVW X30 hx hZ hown hS hk (a := ob25) (argsL := []) (rest := []) (hw _ (List.mem_of_getElem? (i := 34) rfl)) (hw _ (List.mem_of_getElem? (i := 35) rfl)) (hw _ (List.mem_of_getElem? (i := 37) rfl)) (hw _ (List.mem_of_getElem? (i := 36) rfl)) (hw _ (List.mem_of_getElem? (i := 2) rfl)) (hw _ (List.mem_of_getElem? (i := 38) rfl)) (by decide) (rm7 l Z a0 hw ob25 (4 : Int32) (6 : Int32) ob16 6 (own_upd (own_upd (own_upd (own_upd (own_upd (own_upd (fun _ => 0) ((0 : Int32).toNatClampNeg) (nar .byte (48 : Int32))) ((1 : Int32).toNatClampNeg) (nar .byte (2 : Int32))) ((2 : Int32).toNatClampNeg) (nar .byte (R6 x1))) ((3 : Int32).toNatClampNeg) (nar .byte (0 : Int32))) ((4 : Int32).toNatClampNeg) (nar .byte (R6 x2))) ((5 : Int32).toNatClampNeg) (nar .byte (0 : Int32))) ((nar .byte (R6 x2)) &&& (255 : Int32)) (0 : Int32) hh29 n0 Z0 E_ob25 F_ob25_bytes F_ob25_position F_ob25_end A_ob16 g_ob25 ne_ob16_ob25 (by decide) (by decide) ((congrArg (fun z => z &&& (255 : Int32)) ((own_miss (by decide)).trans (own_hit (by decide)))).symm) (by decide) (by decide) ((show (0 : Int32) = ((nar .byte (0 : Int32)) &&& (255 : Int32)) from by decide).trans (congrArg (fun z => z &&& (255 : Int32)) (own_hit (by decide))).symm) (own_tagok x2) (by decide) (by decide)) (by decide) (by decide) e30 E_ob25 rfl (by rw [hml]; rfl) (lenOf pd_7 rfl) rfl (W := 0) (by show 2 * 0 + _ ≤ _; exact Nat.le_of_eq rfl) (hb hby at_185) (by decide) (by decide) fun v31 T31 hh31 L31 X31 e31 hQ31 hZ hown hS => ?_
        obtain ⟨NL31, KK31, ob31el, rfl, szc_ob31el, P31_0, P31_1, P31_2, P31_3, P31_4, P31_5, P31_6, P31_7, P31_8⟩ := hQ31
        have ne_ob16_ob31el : ob16 ≠ ob31el := Nat.ne_of_lt (Nat.lt_of_lt_of_le A_ob16.lt szc_ob31el)
        have ne_ob31el_ob16 := Ne.symm ne_ob16_ob31el
        have ne_ob25_ob31el : ob25 ≠ ob31el := Nat.ne_of_lt (Nat.lt_of_lt_of_le E_ob25.lt szc_ob31el)
        have ne_ob31el_ob25 := Ne.symm ne_ob25_ob31el
        have ne_ob27el_ob31el : ob27el ≠ ob31el := Nat.ne_of_lt (Nat.lt_of_lt_of_le E_ob27el.lt szc_ob31el)
        have ne_ob31el_ob27el := Ne.symm ne_ob27el_ob31el
        have ne_ob28rd_ob31el : ob28rd ≠ ob31el := Nat.ne_of_lt (Nat.lt_of_lt_of_le E_ob28rd.lt szc_ob31el)
        have ne_ob31el_ob28rd := Ne.symm ne_ob28rd_ob31el
        have ne_ob29el_ob31el : ob29el ≠ ob31el := Nat.ne_of_lt (Nat.lt_of_lt_of_le E_ob29el.lt szc_ob31el)
        have ne_ob31el_ob29el := Ne.symm ne_ob29el_ob31el
        have g_ob31el : n0 ≤ ob31el := Nat.le_trans Z0 szc_ob31el
        have A_ob16 := A_ob16.keep KK31 (by simp [ne_ob16_ob25])
        have E_ob25 := E_ob25.keep KK31
        have E_ob27el := E_ob27el.keep KK31
        have F_ob27el_bytes := F_ob27el_bytes.keep KK31 (by simp [ne_ob27el_ob25])
        have F_ob27el_tag := F_ob27el_tag.keep KK31 (by simp [ne_ob27el_ob25])
        have F_ob27el_start := F_ob27el_start.keep KK31 (by simp [ne_ob27el_ob25])
        have F_ob27el_contents := F_ob27el_contents.keep KK31 (by simp [ne_ob27el_ob25])
        have F_ob27el_end := F_ob27el_end.keep KK31 (by simp [ne_ob27el_ob25])
        have E_ob28rd := E_ob28rd.keep KK31
        have F_ob28rd_bytes := F_ob28rd_bytes.keep KK31 (by simp [ne_ob28rd_ob25])
        have F_ob28rd_position := F_ob28rd_position.keep KK31 (by simp [ne_ob28rd_ob25])
        have F_ob28rd_end := F_ob28rd_end.keep KK31 (by simp [ne_ob28rd_ob25])
        have E_ob29el := E_ob29el.keep KK31
        have F_ob29el_bytes := F_ob29el_bytes.keep KK31 (by simp [ne_ob29el_ob25])
        have F_ob29el_tag := F_ob29el_tag.keep KK31 (by simp [ne_ob29el_ob25])
        have F_ob29el_start := F_ob29el_start.keep KK31 (by simp [ne_ob29el_ob25])
        have F_ob29el_contents := F_ob29el_contents.keep KK31 (by simp [ne_ob29el_ob25])
        have F_ob29el_end := F_ob29el_end.keep KK31 (by simp [ne_ob29el_ob25])
        have F_ob25_bytes := P31_0
        have F_ob25_position := P31_1
        have F_ob25_end := P31_2
        have E_ob31el := P31_3
        have F_ob31el_bytes := P31_4
        have F_ob31el_tag := P31_5
        have F_ob31el_start := P31_6
        have F_ob31el_contents := P31_7
        have F_ob31el_end := P31_8
        have Z0 := Nat.le_trans Z0 KK31.1
        have hk := Nat.le_refl hh31.size
        have N31 := Fr.app N30 NL31
        show own_Out p e below _ T31 (mkF m 188 #[.val (.int x0), .val (.int x1), .val (.int x2), .val (.int x3), .val (.int (x0 &&& (3 : Int32))), .val (.ref ob16), .val (.ref ob25), .val (.ref ob27el), .val (.ref ob28rd)] [(.ref ob31el)]) _ _ _
        rw [show ((((4 : Int32) + (1 : Int32)) + (1 : Int32)) + (((0 : Int32).toInt64).toInt32)) = (6 : Int32) from by decide] at F_ob25_position
        rw [show (((4 : Int32) + (1 : Int32)) + (1 : Int32)) = (6 : Int32) from by decide] at F_ob31el_contents
        rw [show ((((4 : Int32) + (1 : Int32)) + (1 : Int32)) + (((0 : Int32).toInt64).toInt32)) = (6 : Int32) from by decide] at F_ob31el_end
        refine own_to (fun t k => XS.pop X31.here hx rfl (hb hby at_188) rfl rfl k) ?_
        show own_Out p e below _ T31 (mkF m 189 #[.val (.int x0), .val (.int x1), .val (.int x2), .val (.int x3), .val (.int (x0 &&& (3 : Int32))), .val (.ref ob16), .val (.ref ob25), .val (.ref ob27el), .val (.ref ob28rd)] []) _ _ _
        refine own_to (fun t k => XS.aload X31.here hx rfl (hb hby at_189) rfl rfl k) ?_
        show own_Out p e below _ T31 (mkF m 191 #[.val (.int x0), .val (.int x1), .val (.int x2), .val (.int x3), .val (.int (x0 &&& (3 : Int32))), .val (.ref ob16), .val (.ref ob25), .val (.ref ob27el), .val (.ref ob28rd)] [(.ref ob25)]) _ _ _
        refine own_callV X31 hx hZ hown (a := ob25) (argsL := []) (rest := []) (hw _ (List.mem_of_getElem? (i := 19) rfl)) (hw _ (List.mem_of_getElem? (i := 20) rfl)) (hw _ (List.mem_of_getElem? (i := 22) rfl)) (hw _ (List.mem_of_getElem? (i := 21) rfl)) (hw _ (List.mem_of_getElem? (i := 2) rfl)) (hw _ (List.mem_of_getElem? (i := 23) rfl)) (by decide) (rm4 l Z a0 hw ob25 (6 : Int32) (6 : Int32) hh31 n0 Z0 E_ob25 F_ob25_position F_ob25_end (by decide)) (by decide) (by decide) e31 E_ob25 rfl (by rw [hml]; rfl) (lenOf pd_5 rfl) rfl (W := 0) (by show 2 * 0 + _ ≤ _; exact Nat.le_of_eq rfl) (hb hby at_191) (by decide) (by decide) fun v32 T32 hh32 L32 X32 e32 hQ32 => ?_
        obtain ⟨rfl, NL32, he32⟩ := hQ32
        replace e32 := e32.trans he32
        have N32 := Fr.app N31 NL32
        show own_Out p e below _ T32 (mkF m 194 #[.val (.int x0), .val (.int x1), .val (.int x2), .val (.int x3), .val (.int (x0 &&& (3 : Int32))), .val (.ref ob16), .val (.ref ob25), .val (.ref ob27el), .val (.ref ob28rd)] []) _ _ _
        refine own_to (fun t k => XS.aload X32.here hx rfl (hb hby at_194) rfl rfl k) ?_
        show own_Out p e below _ T32 (mkF m 196 #[.val (.int x0), .val (.int x1), .val (.int x2), .val (.int x3), .val (.int (x0 &&& (3 : Int32))), .val (.ref ob16), .val (.ref ob25), .val (.ref ob27el), .val (.ref ob28rd)] [(.ref ob25)]) _ _ _
        refine own_callV X32 hx hZ hown (a := ob25) (argsL := []) (rest := []) (hw _ (List.mem_of_getElem? (i := 29) rfl)) (hw _ (List.mem_of_getElem? (i := 25) rfl)) (hw _ (List.mem_of_getElem? (i := 27) rfl)) (hw _ (List.mem_of_getElem? (i := 26) rfl)) (hw _ (List.mem_of_getElem? (i := 2) rfl)) (hw _ (List.mem_of_getElem? (i := 28) rfl)) (by decide) (rm5 l Z a0 hw ob25 (6 : Int32) (6 : Int32) hh31 n0 Z0 F_ob25_position F_ob25_end) (by decide) (by decide) e32 E_ob25 rfl (by rw [hml]; rfl) (lenOf pd_1 rfl) rfl (W := 0) (by show 2 * 0 + _ ≤ _; exact Nat.le_of_eq rfl) (hb hby at_196) (by decide) (by decide) fun v33 T33 hh33 L33 X33 e33 hQ33 => ?_
        obtain ⟨rfl, NL33, he33⟩ := hQ33
        replace e33 := e33.trans he33
        have N33 := Fr.app N32 NL33
        show own_Out p e below _ T33 (mkF m 199 #[.val (.int x0), .val (.int x1), .val (.int x2), .val (.int x3), .val (.int (x0 &&& (3 : Int32))), .val (.ref ob16), .val (.ref ob25), .val (.ref ob27el), .val (.ref ob28rd)] [(.int (R5 ob25 (6 : Int32) (6 : Int32)))]) _ _ _
        have hc199 : (R5 ob25 (6 : Int32) (6 : Int32)) = (0 : Int32) := own_hn0 _ _ _ (by decide)
        refine own_to (fun t k => XS.ifNo X33.here hx rfl (hb hby at_199) rfl ((if0 _ _).trans (teq hc199).2) k) ?_
        show own_Out p e below _ T33 (mkF m 202 #[.val (.int x0), .val (.int x1), .val (.int x2), .val (.int x3), .val (.int (x0 &&& (3 : Int32))), .val (.ref ob16), .val (.ref ob25), .val (.ref ob27el), .val (.ref ob28rd)] []) _ _ _
        refine own_to (fun t k => XS.aload X33.here hx rfl (hb hby at_202) rfl rfl k) ?_
        show own_Out p e below _ T33 (mkF m 204 #[.val (.int x0), .val (.int x1), .val (.int x2), .val (.int x3), .val (.int (x0 &&& (3 : Int32))), .val (.ref ob16), .val (.ref ob25), .val (.ref ob27el), .val (.ref ob28rd)] [(.ref ob28rd)]) _ _ _
        refine own_callV X33 hx hZ hown (a := ob28rd) (argsL := []) (rest := []) (hw _ (List.mem_of_getElem? (i := 29) rfl)) (hw _ (List.mem_of_getElem? (i := 25) rfl)) (hw _ (List.mem_of_getElem? (i := 27) rfl)) (hw _ (List.mem_of_getElem? (i := 26) rfl)) (hw _ (List.mem_of_getElem? (i := 2) rfl)) (hw _ (List.mem_of_getElem? (i := 28) rfl)) (by decide) (rm5 l Z a0 hw ob28rd (4 : Int32) (4 : Int32) hh31 n0 Z0 F_ob28rd_position F_ob28rd_end) (by decide) (by decide) e33 E_ob28rd rfl (by rw [hml]; rfl) (lenOf pd_1 rfl) rfl (W := 0) (by show 2 * 0 + _ ≤ _; exact Nat.le_of_eq rfl) (hb hby at_204) (by decide) (by decide) fun v34 T34 hh34 L34 X34 e34 hQ34 => ?_
        obtain ⟨rfl, NL34, he34⟩ := hQ34
        replace e34 := e34.trans he34
        have N34 := Fr.app N33 NL34
        show own_Out p e below _ T34 (mkF m 207 #[.val (.int x0), .val (.int x1), .val (.int x2), .val (.int x3), .val (.int (x0 &&& (3 : Int32))), .val (.ref ob16), .val (.ref ob25), .val (.ref ob27el), .val (.ref ob28rd)] [(.int (R5 ob28rd (4 : Int32) (4 : Int32)))]) _ _ _
        have hc207 : (R5 ob28rd (4 : Int32) (4 : Int32)) = (0 : Int32) := own_hn0 _ _ _ (by decide)
        refine own_to (fun t k => XS.ifNo X34.here hx rfl (hb hby at_207) rfl ((if0 _ _).trans (teq hc207).2) k) ?_
        show own_Out p e below _ T34 (mkF m 210 #[.val (.int x0), .val (.int x1), .val (.int x2), .val (.int x3), .val (.int (x0 &&& (3 : Int32))), .val (.ref ob16), .val (.ref ob25), .val (.ref ob27el), .val (.ref ob28rd)] []) _ _ _
        refine own_to (fun t k => XS.iconst X34.here hx rfl (hb hby at_210) k) ?_
        show own_Out p e below _ T34 (mkF m 211 #[.val (.int x0), .val (.int x1), .val (.int x2), .val (.int x3), .val (.int (x0 &&& (3 : Int32))), .val (.ref ob16), .val (.ref ob25), .val (.ref ob27el), .val (.ref ob28rd)] [(.int (1 : Int32))]) _ _ _
        refine own_to (fun t k => XS.goto X34.here hx rfl (pc0 := 211) (pc' := 215) rfl (hb hby at_211) (by decide) (by decide) k) ?_
        show own_Out p e below _ T34 (mkF m 215 #[.val (.int x0), .val (.int x1), .val (.int x2), .val (.int x3), .val (.int (x0 &&& (3 : Int32))), .val (.ref ob16), .val (.ref ob25), .val (.ref ob27el), .val (.ref ob28rd)] [(.int (1 : Int32))]) _ _ _
        refine own_retVW X34 hS hk e34 hx hlk (w := .int (1 : Int32)) hret rfl (Or.inl ⟨rfl, by simp, _, rfl⟩) (hb hby at_215) (by decide) (by decide) ?_
        rw [e34]
        exact ⟨rfl, N34⟩
      · refine own_to (fun t k => XS.icmpYes X0.here hx rfl (pc0 := 107) (pc' := 216) rfl (hb hby at_107) rfl (feq hc107).2 (by decide) (by decide) k) ?_
        show own_Out p e below _ s₁ (mkF m 216 #[.val (.int x0), .val (.int x1), .val (.int x2), .val (.int x3), .val (.int (x0 &&& (3 : Int32))), .unset, .unset, .unset, .unset] []) _ _ _
        refine own_to (fun t k => XS.bipush X0.here hx rfl (hb hby at_216) k) ?_
        show own_Out p e below _ s₁ (mkF m 218 #[.val (.int x0), .val (.int x1), .val (.int x2), .val (.int x3), .val (.int (x0 &&& (3 : Int32))), .unset, .unset, .unset, .unset] [(.int (6 : Int32))]) _ _ _
        refine own_newA X0 hx hZ (hw _ (List.mem_of_getElem? (i := 3) rfl)) rfl e0 rfl (hb hby at_218) rfl (by decide) (cap := 6) (by decide) (by decide) (by decide) (by decide) fun T35 hh35 ob35 gb35 X35 e35 E35 A35 => ?_
        have g_ob35 : n0 ≤ ob35 := Nat.le_trans Z0 (Nat.le_of_eq gb35.symm)
        have Z0 := Nat.le_trans Z0 E35.1
        have hk := Nat.le_trans hk E35.1
        have A_ob35 : own_A Z hh35 ob35 .byte 6 (fun _ => 0) := A35
        show own_Out p e below _ T35 (mkF m 220 #[.val (.int x0), .val (.int x1), .val (.int x2), .val (.int x3), .val (.int (x0 &&& (3 : Int32))), .unset, .unset, .unset, .unset] [(.ref ob35)]) _ _ _
        refine own_to (fun t k => XS.dup X35.here hx rfl (hb hby at_220) rfl rfl k) ?_
        show own_Out p e below _ T35 (mkF m 221 #[.val (.int x0), .val (.int x1), .val (.int x2), .val (.int x3), .val (.int (x0 &&& (3 : Int32))), .unset, .unset, .unset, .unset] [(.ref ob35), (.ref ob35)]) _ _ _
        refine own_to (fun t k => XS.iconst X35.here hx rfl (hb hby at_221) k) ?_
        show own_Out p e below _ T35 (mkF m 222 #[.val (.int x0), .val (.int x1), .val (.int x2), .val (.int x3), .val (.int (x0 &&& (3 : Int32))), .unset, .unset, .unset, .unset] [(.int (0 : Int32)), (.ref ob35), (.ref ob35)]) _ _ _
        refine own_to (fun t k => XS.iloadN X35.here hx rfl (hb hby at_222) rfl k) ?_
        show own_Out p e below _ T35 (mkF m 223 #[.val (.int x0), .val (.int x1), .val (.int x2), .val (.int x3), .val (.int (x0 &&& (3 : Int32))), .unset, .unset, .unset, .unset] [(.int x1), (.int (0 : Int32)), (.ref ob35), (.ref ob35)]) _ _ _
        refine own_callS X35 hx hZ hown (argsL := [(.int x1)]) (rest := [(.int (0 : Int32)), (.ref ob35), (.ref ob35)]) (hw _ (List.mem_of_getElem? (i := 30) rfl)) (hw _ (List.mem_of_getElem? (i := 31) rfl)) (hw _ (List.mem_of_getElem? (i := 32) rfl)) (hw _ (List.mem_of_getElem? (i := 33) rfl)) (by decide) (rm6 l Z a0 hw x1 hh35 n0 Z0 ) (by decide) (by decide) e35 rfl (by rw [hml]; rfl) (lenOf pd_6 rfl) rfl (W := 3) (by show 2 * 0 + _ ≤ _; exact Nat.le_of_eq rfl) (hb hby at_223) (by decide) (by decide) fun v36 T36 hh36 L36 X36 e36 hQ36 => ?_
        obtain ⟨rfl, NL36, he36⟩ := hQ36
        replace e36 := e36.trans he36
        have N36 := Fr.app N0 NL36
        show own_Out p e below _ T36 (mkF m 226 #[.val (.int x0), .val (.int x1), .val (.int x2), .val (.int x3), .val (.int (x0 &&& (3 : Int32))), .unset, .unset, .unset, .unset] [(.int (R6 x1)), (.int (0 : Int32)), (.ref ob35), (.ref ob35)]) _ _ _
        refine own_stB X36 hx hZ e36 A_ob35 (by decide) (by decide) rfl rfl (hb hby at_226) fun T37 hh37 X37 e37 W37 A37 => ?_
        have A_ob35 := A37
        have Z0 := Nat.le_trans Z0 (Nat.le_of_eq W37.size.symm)
        have hk := Nat.le_trans hk (Nat.le_of_eq W37.size.symm)
        have N37 := own_fs (sl := Int32.toNatClampNeg (0 : Int32)) N36 g_ob35
        show own_Out p e below _ T37 (mkF m 227 #[.val (.int x0), .val (.int x1), .val (.int x2), .val (.int x3), .val (.int (x0 &&& (3 : Int32))), .unset, .unset, .unset, .unset] [(.ref ob35)]) _ _ _
        refine own_to (fun t k => XS.dup X37.here hx rfl (hb hby at_227) rfl rfl k) ?_
        show own_Out p e below _ T37 (mkF m 228 #[.val (.int x0), .val (.int x1), .val (.int x2), .val (.int x3), .val (.int (x0 &&& (3 : Int32))), .unset, .unset, .unset, .unset] [(.ref ob35), (.ref ob35)]) _ _ _
        refine own_to (fun t k => XS.iconst X37.here hx rfl (hb hby at_228) k) ?_
        show own_Out p e below _ T37 (mkF m 229 #[.val (.int x0), .val (.int x1), .val (.int x2), .val (.int x3), .val (.int (x0 &&& (3 : Int32))), .unset, .unset, .unset, .unset] [(.int (1 : Int32)), (.ref ob35), (.ref ob35)]) _ _ _
        refine own_to (fun t k => XS.iconst X37.here hx rfl (hb hby at_229) k) ?_
        show own_Out p e below _ T37 (mkF m 230 #[.val (.int x0), .val (.int x1), .val (.int x2), .val (.int x3), .val (.int (x0 &&& (3 : Int32))), .unset, .unset, .unset, .unset] [(.int (0 : Int32)), (.int (1 : Int32)), (.ref ob35), (.ref ob35)]) _ _ _
        refine own_stB X37 hx hZ e37 A_ob35 (by decide) (by decide) rfl rfl (hb hby at_230) fun T38 hh38 X38 e38 W38 A38 => ?_
        have A_ob35 := A38
        have Z0 := Nat.le_trans Z0 (Nat.le_of_eq W38.size.symm)
        have hk := Nat.le_trans hk (Nat.le_of_eq W38.size.symm)
        have N38 := own_fs (sl := Int32.toNatClampNeg (1 : Int32)) N37 g_ob35
        show own_Out p e below _ T38 (mkF m 231 #[.val (.int x0), .val (.int x1), .val (.int x2), .val (.int x3), .val (.int (x0 &&& (3 : Int32))), .unset, .unset, .unset, .unset] [(.ref ob35)]) _ _ _
        refine own_to (fun t k => XS.dup X38.here hx rfl (hb hby at_231) rfl rfl k) ?_
        show own_Out p e below _ T38 (mkF m 232 #[.val (.int x0), .val (.int x1), .val (.int x2), .val (.int x3), .val (.int (x0 &&& (3 : Int32))), .unset, .unset, .unset, .unset] [(.ref ob35), (.ref ob35)]) _ _ _
        refine own_to (fun t k => XS.iconst X38.here hx rfl (hb hby at_232) k) ?_
        show own_Out p e below _ T38 (mkF m 233 #[.val (.int x0), .val (.int x1), .val (.int x2), .val (.int x3), .val (.int (x0 &&& (3 : Int32))), .unset, .unset, .unset, .unset] [(.int (2 : Int32)), (.ref ob35), (.ref ob35)]) _ _ _
        refine own_to (fun t k => XS.bipush X38.here hx rfl (hb hby at_233) k) ?_
        show own_Out p e below _ T38 (mkF m 235 #[.val (.int x0), .val (.int x1), .val (.int x2), .val (.int x3), .val (.int (x0 &&& (3 : Int32))), .unset, .unset, .unset, .unset] [(.int (48 : Int32)), (.int (2 : Int32)), (.ref ob35), (.ref ob35)]) _ _ _
        refine own_stB X38 hx hZ e38 A_ob35 (by decide) (by decide) rfl rfl (hb hby at_235) fun T39 hh39 X39 e39 W39 A39 => ?_
        have A_ob35 := A39
        have Z0 := Nat.le_trans Z0 (Nat.le_of_eq W39.size.symm)
        have hk := Nat.le_trans hk (Nat.le_of_eq W39.size.symm)
        have N39 := own_fs (sl := Int32.toNatClampNeg (2 : Int32)) N38 g_ob35
        show own_Out p e below _ T39 (mkF m 236 #[.val (.int x0), .val (.int x1), .val (.int x2), .val (.int x3), .val (.int (x0 &&& (3 : Int32))), .unset, .unset, .unset, .unset] [(.ref ob35)]) _ _ _
        refine own_to (fun t k => XS.dup X39.here hx rfl (hb hby at_236) rfl rfl k) ?_
        show own_Out p e below _ T39 (mkF m 237 #[.val (.int x0), .val (.int x1), .val (.int x2), .val (.int x3), .val (.int (x0 &&& (3 : Int32))), .unset, .unset, .unset, .unset] [(.ref ob35), (.ref ob35)]) _ _ _
        refine own_to (fun t k => XS.iconst X39.here hx rfl (hb hby at_237) k) ?_
        show own_Out p e below _ T39 (mkF m 238 #[.val (.int x0), .val (.int x1), .val (.int x2), .val (.int x3), .val (.int (x0 &&& (3 : Int32))), .unset, .unset, .unset, .unset] [(.int (3 : Int32)), (.ref ob35), (.ref ob35)]) _ _ _
        refine own_to (fun t k => XS.iconst X39.here hx rfl (hb hby at_238) k) ?_
        show own_Out p e below _ T39 (mkF m 239 #[.val (.int x0), .val (.int x1), .val (.int x2), .val (.int x3), .val (.int (x0 &&& (3 : Int32))), .unset, .unset, .unset, .unset] [(.int (2 : Int32)), (.int (3 : Int32)), (.ref ob35), (.ref ob35)]) _ _ _
        refine own_stB X39 hx hZ e39 A_ob35 (by decide) (by decide) rfl rfl (hb hby at_239) fun T40 hh40 X40 e40 W40 A40 => ?_
        have A_ob35 := A40
        have Z0 := Nat.le_trans Z0 (Nat.le_of_eq W40.size.symm)
        have hk := Nat.le_trans hk (Nat.le_of_eq W40.size.symm)
        have N40 := own_fs (sl := Int32.toNatClampNeg (3 : Int32)) N39 g_ob35
        show own_Out p e below _ T40 (mkF m 240 #[.val (.int x0), .val (.int x1), .val (.int x2), .val (.int x3), .val (.int (x0 &&& (3 : Int32))), .unset, .unset, .unset, .unset] [(.ref ob35)]) _ _ _
        refine own_to (fun t k => XS.dup X40.here hx rfl (hb hby at_240) rfl rfl k) ?_
        show own_Out p e below _ T40 (mkF m 241 #[.val (.int x0), .val (.int x1), .val (.int x2), .val (.int x3), .val (.int (x0 &&& (3 : Int32))), .unset, .unset, .unset, .unset] [(.ref ob35), (.ref ob35)]) _ _ _
        refine own_to (fun t k => XS.iconst X40.here hx rfl (hb hby at_241) k) ?_
        show own_Out p e below _ T40 (mkF m 242 #[.val (.int x0), .val (.int x1), .val (.int x2), .val (.int x3), .val (.int (x0 &&& (3 : Int32))), .unset, .unset, .unset, .unset] [(.int (4 : Int32)), (.ref ob35), (.ref ob35)]) _ _ _
        refine own_to (fun t k => XS.iloadN X40.here hx rfl (hb hby at_242) rfl k) ?_
        show own_Out p e below _ T40 (mkF m 243 #[.val (.int x0), .val (.int x1), .val (.int x2), .val (.int x3), .val (.int (x0 &&& (3 : Int32))), .unset, .unset, .unset, .unset] [(.int x2), (.int (4 : Int32)), (.ref ob35), (.ref ob35)]) _ _ _
        refine own_callS X40 hx hZ hown (argsL := [(.int x2)]) (rest := [(.int (4 : Int32)), (.ref ob35), (.ref ob35)]) (hw _ (List.mem_of_getElem? (i := 30) rfl)) (hw _ (List.mem_of_getElem? (i := 31) rfl)) (hw _ (List.mem_of_getElem? (i := 32) rfl)) (hw _ (List.mem_of_getElem? (i := 33) rfl)) (by decide) (rm6 l Z a0 hw x2 hh40 n0 Z0 ) (by decide) (by decide) e40 rfl (by rw [hml]; rfl) (lenOf pd_6 rfl) rfl (W := 3) (by show 2 * 0 + _ ≤ _; exact Nat.le_of_eq rfl) (hb hby at_243) (by decide) (by decide) fun v41 T41 hh41 L41 X41 e41 hQ41 => ?_
        obtain ⟨rfl, NL41, he41⟩ := hQ41
        replace e41 := e41.trans he41
        have N41 := Fr.app N40 NL41
        show own_Out p e below _ T41 (mkF m 246 #[.val (.int x0), .val (.int x1), .val (.int x2), .val (.int x3), .val (.int (x0 &&& (3 : Int32))), .unset, .unset, .unset, .unset] [(.int (R6 x2)), (.int (4 : Int32)), (.ref ob35), (.ref ob35)]) _ _ _
        refine own_stB X41 hx hZ e41 A_ob35 (by decide) (by decide) rfl rfl (hb hby at_246) fun T42 hh42 X42 e42 W42 A42 => ?_
        have A_ob35 := A42
        have Z0 := Nat.le_trans Z0 (Nat.le_of_eq W42.size.symm)
        have hk := Nat.le_trans hk (Nat.le_of_eq W42.size.symm)
        have N42 := own_fs (sl := Int32.toNatClampNeg (4 : Int32)) N41 g_ob35
        show own_Out p e below _ T42 (mkF m 247 #[.val (.int x0), .val (.int x1), .val (.int x2), .val (.int x3), .val (.int (x0 &&& (3 : Int32))), .unset, .unset, .unset, .unset] [(.ref ob35)]) _ _ _
        refine own_to (fun t k => XS.dup X42.here hx rfl (hb hby at_247) rfl rfl k) ?_
        show own_Out p e below _ T42 (mkF m 248 #[.val (.int x0), .val (.int x1), .val (.int x2), .val (.int x3), .val (.int (x0 &&& (3 : Int32))), .unset, .unset, .unset, .unset] [(.ref ob35), (.ref ob35)]) _ _ _
        refine own_to (fun t k => XS.iconst X42.here hx rfl (hb hby at_248) k) ?_
        show own_Out p e below _ T42 (mkF m 249 #[.val (.int x0), .val (.int x1), .val (.int x2), .val (.int x3), .val (.int (x0 &&& (3 : Int32))), .unset, .unset, .unset, .unset] [(.int (5 : Int32)), (.ref ob35), (.ref ob35)]) _ _ _
        refine own_to (fun t k => XS.iconst X42.here hx rfl (hb hby at_249) k) ?_
        show own_Out p e below _ T42 (mkF m 250 #[.val (.int x0), .val (.int x1), .val (.int x2), .val (.int x3), .val (.int (x0 &&& (3 : Int32))), .unset, .unset, .unset, .unset] [(.int (0 : Int32)), (.int (5 : Int32)), (.ref ob35), (.ref ob35)]) _ _ _
        refine own_stB X42 hx hZ e42 A_ob35 (by decide) (by decide) rfl rfl (hb hby at_250) fun T43 hh43 X43 e43 W43 A43 => ?_
        have A_ob35 := A43
        have Z0 := Nat.le_trans Z0 (Nat.le_of_eq W43.size.symm)
        have hk := Nat.le_trans hk (Nat.le_of_eq W43.size.symm)
        have N43 := own_fs (sl := Int32.toNatClampNeg (5 : Int32)) N42 g_ob35
        show own_Out p e below _ T43 (mkF m 251 #[.val (.int x0), .val (.int x1), .val (.int x2), .val (.int x3), .val (.int (x0 &&& (3 : Int32))), .unset, .unset, .unset, .unset] [(.ref ob35)]) _ _ _
        refine own_to (fun t k => XS.astore X43.here hx rfl (hb hby at_251) rfl rfl (l' := #[.val (.int x0), .val (.int x1), .val (.int x2), .val (.int x3), .val (.int (x0 &&& (3 : Int32))), .val (.ref ob35), .unset, .unset, .unset]) rfl k) ?_
        show own_Out p e below _ T43 (mkF m 253 #[.val (.int x0), .val (.int x1), .val (.int x2), .val (.int x3), .val (.int (x0 &&& (3 : Int32))), .val (.ref ob35), .unset, .unset, .unset] []) _ _ _
        refine own_new X43 hx hZ hown (hw _ (List.mem_of_getElem? (i := 0) rfl)) (hw _ (List.mem_of_getElem? (i := 1) rfl)) (hw _ (List.mem_of_getElem? (i := 2) rfl)) e43 rfl (hb hby at_253) (by decide) (by decide) fun T44 hh44 ob44 gb44 X44 e44 E44 A44 D44 => ?_
        have ne_ob35_ob44 : ob35 ≠ ob44 := Nat.ne_of_lt (Nat.lt_of_lt_of_le A_ob35.lt (Nat.le_of_eq gb44.symm))
        have ne_ob44_ob35 := Ne.symm ne_ob35_ob44
        have g_ob44 : n0 ≤ ob44 := Nat.le_trans Z0 (Nat.le_of_eq gb44.symm)
        have A_ob35 := A_ob35.ext E44
        have Z0 := Nat.le_trans Z0 E44.1
        have hk := Nat.le_trans hk E44.1
        have E_ob44 := A44
        have F_ob44_bytes : Fld Z hh44 ob44 "com/example/pathwarden/pathwarden/util/DerReader" "bytes" "[B" .null := D44 (Or.inr (hw _ (List.mem_of_getElem? (i := 14) rfl))) (ty := (.array .byte)) (by decide)
        have F_ob44_position : Fld Z hh44 ob44 "com/example/pathwarden/pathwarden/util/DerReader" "position" "I" (.int (0 : Int32)) := D44 (Or.inl (hw _ (List.mem_of_getElem? (i := 16) rfl))) (ty := .int) (by decide)
        have F_ob44_end : Fld Z hh44 ob44 "com/example/pathwarden/pathwarden/util/DerReader" "end" "I" (.int (0 : Int32)) := D44 (Or.inr (hw _ (List.mem_of_getElem? (i := 18) rfl))) (ty := .int) (by decide)
        show own_Out p e below _ T44 (mkF m 256 #[.val (.int x0), .val (.int x1), .val (.int x2), .val (.int x3), .val (.int (x0 &&& (3 : Int32))), .val (.ref ob35), .unset, .unset, .unset] [(.ref ob44)]) _ _ _
        refine own_to (fun t k => XS.dup X44.here hx rfl (hb hby at_256) rfl rfl k) ?_
        show own_Out p e below _ T44 (mkF m 257 #[.val (.int x0), .val (.int x1), .val (.int x2), .val (.int x3), .val (.int (x0 &&& (3 : Int32))), .val (.ref ob35), .unset, .unset, .unset] [(.ref ob44), (.ref ob44)]) _ _ _
        refine own_to (fun t k => XS.aload X44.here hx rfl (hb hby at_257) rfl rfl k) ?_
        show own_Out p e below _ T44 (mkF m 259 #[.val (.int x0), .val (.int x1), .val (.int x2), .val (.int x3), .val (.int (x0 &&& (3 : Int32))), .val (.ref ob35), .unset, .unset, .unset] [(.ref ob35), (.ref ob44), (.ref ob44)]) _ _ _
        refine own_callC X44 hx hZ hown (a := ob44) (argsL := [(.ref ob35)]) (rest := [(.ref ob44)]) rfl (hw _ (List.mem_of_getElem? (i := 4) rfl)) (hw _ (List.mem_of_getElem? (i := 5) rfl)) (hw _ (List.mem_of_getElem? (i := 2) rfl)) (hw _ (List.mem_of_getElem? (i := 6) rfl)) (by decide) (rm1 l Z a0 hw ob44 ob35 6 (own_upd (own_upd (own_upd (own_upd (own_upd (own_upd (fun _ => 0) ((0 : Int32).toNatClampNeg) (nar .byte (R6 x1))) ((1 : Int32).toNatClampNeg) (nar .byte (0 : Int32))) ((2 : Int32).toNatClampNeg) (nar .byte (48 : Int32))) ((3 : Int32).toNatClampNeg) (nar .byte (2 : Int32))) ((4 : Int32).toNatClampNeg) (nar .byte (R6 x2))) ((5 : Int32).toNatClampNeg) (nar .byte (0 : Int32))) hh44 n0 Z0 E_ob44 F_ob44_bytes F_ob44_position F_ob44_end g_ob44 A_ob35 ne_ob35_ob44) (by decide) (by decide) e44 rfl (by rw [hml]; rfl) (lenOf pd_4 rfl) rfl (W := 1) (by show 2 * 0 + _ ≤ _; exact Nat.le_of_eq rfl) (hb hby at_259) (by decide) (by decide) fun v45 T45 hh45 L45 X45 e45 hQ45 => ?_
        obtain ⟨rfl, NL45, KK45, P45_0, P45_1, P45_2⟩ := hQ45
        have A_ob35 := A_ob35.keep KK45 (by simp [ne_ob35_ob44])
        have E_ob44 := E_ob44.keep KK45
        have F_ob44_bytes := P45_0
        have F_ob44_position := P45_1
        have F_ob44_end := P45_2
        have Z0 := Nat.le_trans Z0 KK45.1
        have hk := Nat.le_trans hk KK45.1
        have N45 := Fr.app N43 NL45
        show own_Out p e below _ T45 (mkF m 262 #[.val (.int x0), .val (.int x1), .val (.int x2), .val (.int x3), .val (.int (x0 &&& (3 : Int32))), .val (.ref ob35), .unset, .unset, .unset] [(.ref ob44)]) _ _ _
        rw [show (Nat.toInt32 6) = (6 : Int32) from by decide] at F_ob44_end
        refine own_to (fun t k => XS.astore X45.here hx rfl (hb hby at_262) rfl rfl (l' := #[.val (.int x0), .val (.int x1), .val (.int x2), .val (.int x3), .val (.int (x0 &&& (3 : Int32))), .val (.ref ob35), .val (.ref ob44), .unset, .unset]) rfl k) ?_
        show own_Out p e below _ T45 (mkF m 264 #[.val (.int x0), .val (.int x1), .val (.int x2), .val (.int x3), .val (.int (x0 &&& (3 : Int32))), .val (.ref ob35), .val (.ref ob44), .unset, .unset] []) _ _ _
        refine own_to (fun t k => XS.aload X45.here hx rfl (hb hby at_264) rfl rfl k) ?_
        show own_Out p e below _ T45 (mkF m 266 #[.val (.int x0), .val (.int x1), .val (.int x2), .val (.int x3), .val (.int (x0 &&& (3 : Int32))), .val (.ref ob35), .val (.ref ob44), .unset, .unset] [(.ref ob44)]) _ _ _
        refine own_callVW X45 hx hZ hown hS hk (a := ob44) (argsL := []) (rest := []) (hw _ (List.mem_of_getElem? (i := 34) rfl)) (hw _ (List.mem_of_getElem? (i := 35) rfl)) (hw _ (List.mem_of_getElem? (i := 37) rfl)) (hw _ (List.mem_of_getElem? (i := 36) rfl)) (hw _ (List.mem_of_getElem? (i := 2) rfl)) (hw _ (List.mem_of_getElem? (i := 38) rfl)) (by decide) (rm7 l Z a0 hw ob44 (0 : Int32) (6 : Int32) ob35 6 (own_upd (own_upd (own_upd (own_upd (own_upd (own_upd (fun _ => 0) ((0 : Int32).toNatClampNeg) (nar .byte (R6 x1))) ((1 : Int32).toNatClampNeg) (nar .byte (0 : Int32))) ((2 : Int32).toNatClampNeg) (nar .byte (48 : Int32))) ((3 : Int32).toNatClampNeg) (nar .byte (2 : Int32))) ((4 : Int32).toNatClampNeg) (nar .byte (R6 x2))) ((5 : Int32).toNatClampNeg) (nar .byte (0 : Int32))) ((nar .byte (R6 x1)) &&& (255 : Int32)) (0 : Int32) hh45 n0 Z0 E_ob44 F_ob44_bytes F_ob44_position F_ob44_end A_ob35 g_ob44 ne_ob35_ob44 (by decide) (by decide) ((congrArg (fun z => z &&& (255 : Int32)) ((own_miss (by decide)).trans ((own_miss (by decide)).trans ((own_miss (by decide)).trans ((own_miss (by decide)).trans ((own_miss (by decide)).trans (own_hit (by decide)))))))).symm) (by decide) (by decide) ((show (0 : Int32) = ((nar .byte (0 : Int32)) &&& (255 : Int32)) from by decide).trans (congrArg (fun z => z &&& (255 : Int32)) ((own_miss (by decide)).trans ((own_miss (by decide)).trans ((own_miss (by decide)).trans ((own_miss (by decide)).trans (own_hit (by decide))))))).symm) (own_tagok x1) (by decide) (by decide)) (by decide) (by decide) e45 E_ob44 rfl (by rw [hml]; rfl) (lenOf pd_7 rfl) rfl (W := 0) (by show 2 * 0 + _ ≤ _; exact Nat.le_of_eq rfl) (hb hby at_266) (by decide) (by decide) fun v46 T46 hh46 L46 X46 e46 hQ46 hZ hown hS => ?_
        obtain ⟨NL46, KK46, ob46el, rfl, szc_ob46el, P46_0, P46_1, P46_2, P46_3, P46_4, P46_5, P46_6, P46_7, P46_8⟩ := hQ46
        have ne_ob35_ob46el : ob35 ≠ ob46el := Nat.ne_of_lt (Nat.lt_of_lt_of_le A_ob35.lt szc_ob46el)
        have ne_ob46el_ob35 := Ne.symm ne_ob35_ob46el
        have ne_ob44_ob46el : ob44 ≠ ob46el := Nat.ne_of_lt (Nat.lt_of_lt_of_le E_ob44.lt szc_ob46el)
        have ne_ob46el_ob44 := Ne.symm ne_ob44_ob46el
        have g_ob46el : n0 ≤ ob46el := Nat.le_trans Z0 szc_ob46el
        have A_ob35 := A_ob35.keep KK46 (by simp [ne_ob35_ob44])
        have E_ob44 := E_ob44.keep KK46
        have F_ob44_bytes := P46_0
        have F_ob44_position := P46_1
        have F_ob44_end := P46_2
        have E_ob46el := P46_3
        have F_ob46el_bytes := P46_4
        have F_ob46el_tag := P46_5
        have F_ob46el_start := P46_6
        have F_ob46el_contents := P46_7
        have F_ob46el_end := P46_8
        have Z0 := Nat.le_trans Z0 KK46.1
        have hk := Nat.le_refl hh46.size
        have N46 := Fr.app N45 NL46
        show own_Out p e below _ T46 (mkF m 269 #[.val (.int x0), .val (.int x1), .val (.int x2), .val (.int x3), .val (.int (x0 &&& (3 : Int32))), .val (.ref ob35), .val (.ref ob44), .unset, .unset] [(.ref ob46el)]) _ _ _
        rw [show ((((0 : Int32) + (1 : Int32)) + (1 : Int32)) + (((0 : Int32).toInt64).toInt32)) = (2 : Int32) from by decide] at F_ob44_position
        rw [show (((0 : Int32) + (1 : Int32)) + (1 : Int32)) = (2 : Int32) from by decide] at F_ob46el_contents
        rw [show ((((0 : Int32) + (1 : Int32)) + (1 : Int32)) + (((0 : Int32).toInt64).toInt32)) = (2 : Int32) from by decide] at F_ob46el_end
        refine own_to (fun t k => XS.pop X46.here hx rfl (hb hby at_269) rfl rfl k) ?_
        show own_Out p e below _ T46 (mkF m 270 #[.val (.int x0), .val (.int x1), .val (.int x2), .val (.int x3), .val (.int (x0 &&& (3 : Int32))), .val (.ref ob35), .val (.ref ob44), .unset, .unset] []) _ _ _
        refine own_to (fun t k => XS.aload X46.here hx rfl (hb hby at_270) rfl rfl k) ?_
        show own_Out p e below _ T46 (mkF m 272 #[.val (.int x0), .val (.int x1), .val (.int x2), .val (.int x3), .val (.int (x0 &&& (3 : Int32))), .val (.ref ob35), .val (.ref ob44), .unset, .unset] [(.ref ob44)]) _ _ _
        refine own_callVW X46 hx hZ hown hS hk (a := ob44) (argsL := []) (rest := []) (hw _ (List.mem_of_getElem? (i := 34) rfl)) (hw _ (List.mem_of_getElem? (i := 35) rfl)) (hw _ (List.mem_of_getElem? (i := 37) rfl)) (hw _ (List.mem_of_getElem? (i := 36) rfl)) (hw _ (List.mem_of_getElem? (i := 2) rfl)) (hw _ (List.mem_of_getElem? (i := 38) rfl)) (by decide) (rm7 l Z a0 hw ob44 (2 : Int32) (6 : Int32) ob35 6 (own_upd (own_upd (own_upd (own_upd (own_upd (own_upd (fun _ => 0) ((0 : Int32).toNatClampNeg) (nar .byte (R6 x1))) ((1 : Int32).toNatClampNeg) (nar .byte (0 : Int32))) ((2 : Int32).toNatClampNeg) (nar .byte (48 : Int32))) ((3 : Int32).toNatClampNeg) (nar .byte (2 : Int32))) ((4 : Int32).toNatClampNeg) (nar .byte (R6 x2))) ((5 : Int32).toNatClampNeg) (nar .byte (0 : Int32))) (48 : Int32) (2 : Int32) hh46 n0 Z0 E_ob44 F_ob44_bytes F_ob44_position F_ob44_end A_ob35 g_ob44 ne_ob35_ob44 (by decide) (by decide) ((show (48 : Int32) = ((nar .byte (48 : Int32)) &&& (255 : Int32)) from by decide).trans (congrArg (fun z => z &&& (255 : Int32)) ((own_miss (by decide)).trans ((own_miss (by decide)).trans ((own_miss (by decide)).trans (own_hit (by decide)))))).symm) (by decide) (by decide) ((show (2 : Int32) = ((nar .byte (2 : Int32)) &&& (255 : Int32)) from by decide).trans (congrArg (fun z => z &&& (255 : Int32)) ((own_miss (by decide)).trans ((own_miss (by decide)).trans (own_hit (by decide))))).symm) (by decide) (by decide) (by decide)) (by decide) (by decide) e46 E_ob44 rfl (by rw [hml]; rfl) (lenOf pd_7 rfl) rfl (W := 0) (by show 2 * 0 + _ ≤ _; exact Nat.le_of_eq rfl) (hb hby at_272) (by decide) (by decide) fun v47 T47 hh47 L47 X47 e47 hQ47 hZ hown hS => ?_
        obtain ⟨NL47, KK47, ob47el, rfl, szc_ob47el, P47_0, P47_1, P47_2, P47_3, P47_4, P47_5, P47_6, P47_7, P47_8⟩ := hQ47
        have ne_ob35_ob47el : ob35 ≠ ob47el := Nat.ne_of_lt (Nat.lt_of_lt_of_le A_ob35.lt szc_ob47el)
        have ne_ob47el_ob35 := Ne.symm ne_ob35_ob47el
        have ne_ob44_ob47el : ob44 ≠ ob47el := Nat.ne_of_lt (Nat.lt_of_lt_of_le E_ob44.lt szc_ob47el)
        have ne_ob47el_ob44 := Ne.symm ne_ob44_ob47el
        have ne_ob46el_ob47el : ob46el ≠ ob47el := Nat.ne_of_lt (Nat.lt_of_lt_of_le E_ob46el.lt szc_ob47el)
        have ne_ob47el_ob46el := Ne.symm ne_ob46el_ob47el
        have g_ob47el : n0 ≤ ob47el := Nat.le_trans Z0 szc_ob47el
        have A_ob35 := A_ob35.keep KK47 (by simp [ne_ob35_ob44])
        have E_ob44 := E_ob44.keep KK47
        have E_ob46el := E_ob46el.keep KK47
        have F_ob46el_bytes := F_ob46el_bytes.keep KK47 (by simp [ne_ob46el_ob44])
        have F_ob46el_tag := F_ob46el_tag.keep KK47 (by simp [ne_ob46el_ob44])
        have F_ob46el_start := F_ob46el_start.keep KK47 (by simp [ne_ob46el_ob44])
        have F_ob46el_contents := F_ob46el_contents.keep KK47 (by simp [ne_ob46el_ob44])
        have F_ob46el_end := F_ob46el_end.keep KK47 (by simp [ne_ob46el_ob44])
        have F_ob44_bytes := P47_0
        have F_ob44_position := P47_1
        have F_ob44_end := P47_2
        have E_ob47el := P47_3
        have F_ob47el_bytes := P47_4
        have F_ob47el_tag := P47_5
        have F_ob47el_start := P47_6
        have F_ob47el_contents := P47_7
        have F_ob47el_end := P47_8
        have Z0 := Nat.le_trans Z0 KK47.1
        have hk := Nat.le_refl hh47.size
        have N47 := Fr.app N46 NL47
        show own_Out p e below _ T47 (mkF m 275 #[.val (.int x0), .val (.int x1), .val (.int x2), .val (.int x3), .val (.int (x0 &&& (3 : Int32))), .val (.ref ob35), .val (.ref ob44), .unset, .unset] [(.ref ob47el)]) _ _ _
        rw [show ((((2 : Int32) + (1 : Int32)) + (1 : Int32)) + (((2 : Int32).toInt64).toInt32)) = (6 : Int32) from by decide] at F_ob44_position
        rw [show (((2 : Int32) + (1 : Int32)) + (1 : Int32)) = (4 : Int32) from by decide] at F_ob47el_contents
        rw [show ((((2 : Int32) + (1 : Int32)) + (1 : Int32)) + (((2 : Int32).toInt64).toInt32)) = (6 : Int32) from by decide] at F_ob47el_end
        refine own_to (fun t k => XS.astore X47.here hx rfl (hb hby at_275) rfl rfl (l' := #[.val (.int x0), .val (.int x1), .val (.int x2), .val (.int x3), .val (.int (x0 &&& (3 : Int32))), .val (.ref ob35), .val (.ref ob44), .val (.ref ob47el), .unset]) rfl k) ?_
        show own_Out p e below _ T47 (mkF m 277 #[.val (.int x0), .val (.int x1), .val (.int x2), .val (.int x3), .val (.int (x0 &&& (3 : Int32))), .val (.ref ob35), .val (.ref ob44), .val (.ref ob47el), .unset] []) _ _ _
        refine own_to (fun t k => XS.aload X47.here hx rfl (hb hby at_277) rfl rfl k) ?_
        show own_Out p e below _ T47 (mkF m 279 #[.val (.int x0), .val (.int x1), .val (.int x2), .val (.int x3), .val (.int (x0 &&& (3 : Int32))), .val (.ref ob35), .val (.ref ob44), .val (.ref ob47el), .unset] [(.ref ob47el)]) _ _ _
        refine own_callV X47 hx hZ hown (a := ob47el) (argsL := []) (rest := []) (hw _ (List.mem_of_getElem? (i := 69) rfl)) (hw _ (List.mem_of_getElem? (i := 70) rfl)) (hw _ (List.mem_of_getElem? (i := 72) rfl)) (hw _ (List.mem_of_getElem? (i := 71) rfl)) (hw _ (List.mem_of_getElem? (i := 54) rfl)) (hw _ (List.mem_of_getElem? (i := 73) rfl)) (by decide) (rm10 l Z a0 hw ob47el ob35 (4 : Int32) (6 : Int32) hh47 n0 Z0 F_ob47el_bytes F_ob47el_contents F_ob47el_end) (by decide) (by decide) e47 E_ob47el rfl (by rw [hml]; rfl) (lenOf pd_8 rfl) rfl (W := 0) (by show 2 * 0 + _ ≤ _; exact Nat.le_of_eq rfl) (hb hby at_279) (by decide) (by decide) fun v48 T48 hh48 L48 X48 e48 hQ48 => ?_
        obtain ⟨NL48, KK48, ob48rd, rfl, szc_ob48rd, P48_0, P48_1, P48_2, P48_3⟩ := hQ48
        have ne_ob35_ob48rd : ob35 ≠ ob48rd := Nat.ne_of_lt (Nat.lt_of_lt_of_le A_ob35.lt szc_ob48rd)
        have ne_ob48rd_ob35 := Ne.symm ne_ob35_ob48rd
        have ne_ob44_ob48rd : ob44 ≠ ob48rd := Nat.ne_of_lt (Nat.lt_of_lt_of_le E_ob44.lt szc_ob48rd)
        have ne_ob48rd_ob44 := Ne.symm ne_ob44_ob48rd
        have ne_ob46el_ob48rd : ob46el ≠ ob48rd := Nat.ne_of_lt (Nat.lt_of_lt_of_le E_ob46el.lt szc_ob48rd)
        have ne_ob48rd_ob46el := Ne.symm ne_ob46el_ob48rd
        have ne_ob47el_ob48rd : ob47el ≠ ob48rd := Nat.ne_of_lt (Nat.lt_of_lt_of_le E_ob47el.lt szc_ob48rd)
        have ne_ob48rd_ob47el := Ne.symm ne_ob47el_ob48rd
        have g_ob48rd : n0 ≤ ob48rd := Nat.le_trans Z0 szc_ob48rd
        have A_ob35 := A_ob35.keep KK48 (by simp [])
        have E_ob44 := E_ob44.keep KK48
        have E_ob46el := E_ob46el.keep KK48
        have F_ob46el_bytes := F_ob46el_bytes.keep KK48 (by simp [])
        have F_ob46el_tag := F_ob46el_tag.keep KK48 (by simp [])
        have F_ob46el_start := F_ob46el_start.keep KK48 (by simp [])
        have F_ob46el_contents := F_ob46el_contents.keep KK48 (by simp [])
        have F_ob46el_end := F_ob46el_end.keep KK48 (by simp [])
        have F_ob44_bytes := F_ob44_bytes.keep KK48 (by simp [])
        have F_ob44_position := F_ob44_position.keep KK48 (by simp [])
        have F_ob44_end := F_ob44_end.keep KK48 (by simp [])
        have E_ob47el := E_ob47el.keep KK48
        have F_ob47el_bytes := F_ob47el_bytes.keep KK48 (by simp [])
        have F_ob47el_tag := F_ob47el_tag.keep KK48 (by simp [])
        have F_ob47el_start := F_ob47el_start.keep KK48 (by simp [])
        have F_ob47el_contents := F_ob47el_contents.keep KK48 (by simp [])
        have F_ob47el_end := F_ob47el_end.keep KK48 (by simp [])
        have E_ob48rd := P48_0
        have F_ob48rd_bytes := P48_1
        have F_ob48rd_position := P48_2
        have F_ob48rd_end := P48_3
        have Z0 := Nat.le_trans Z0 KK48.1
        have hk := Nat.le_trans hk KK48.1
        have N48 := Fr.app N47 NL48
        show own_Out p e below _ T48 (mkF m 282 #[.val (.int x0), .val (.int x1), .val (.int x2), .val (.int x3), .val (.int (x0 &&& (3 : Int32))), .val (.ref ob35), .val (.ref ob44), .val (.ref ob47el), .unset] [(.ref ob48rd)]) _ _ _
        refine own_to (fun t k => XS.astore X48.here hx rfl (hb hby at_282) rfl rfl (l' := #[.val (.int x0), .val (.int x1), .val (.int x2), .val (.int x3), .val (.int (x0 &&& (3 : Int32))), .val (.ref ob35), .val (.ref ob44), .val (.ref ob47el), .val (.ref ob48rd)]) rfl k) ?_
        show own_Out p e below _ T48 (mkF m 284 #[.val (.int x0), .val (.int x1), .val (.int x2), .val (.int x3), .val (.int (x0 &&& (3 : Int32))), .val (.ref ob35), .val (.ref ob44), .val (.ref ob47el), .val (.ref ob48rd)] []) _ _ _
        refine own_to (fun t k => XS.aload X48.here hx rfl (hb hby at_284) rfl rfl k) ?_
        show own_Out p e below _ T48 (mkF m 286 #[.val (.int x0), .val (.int x1), .val (.int x2), .val (.int x3), .val (.int (x0 &&& (3 : Int32))), .val (.ref ob35), .val (.ref ob44), .val (.ref ob47el), .val (.ref ob48rd)] [(.ref ob48rd)]) _ _ _
        refine own_callVW X48 hx hZ hown hS hk (a := ob48rd) (argsL := []) (rest := []) (hw _ (List.mem_of_getElem? (i := 34) rfl)) (hw _ (List.mem_of_getElem? (i := 35) rfl)) (hw _ (List.mem_of_getElem? (i := 37) rfl)) (hw _ (List.mem_of_getElem? (i := 36) rfl)) (hw _ (List.mem_of_getElem? (i := 2) rfl)) (hw _ (List.mem_of_getElem? (i := 38) rfl)) (by decide) (rm7 l Z a0 hw ob48rd (4 : Int32) (6 : Int32) ob35 6 (own_upd (own_upd (own_upd (own_upd (own_upd (own_upd (fun _ => 0) ((0 : Int32).toNatClampNeg) (nar .byte (R6 x1))) ((1 : Int32).toNatClampNeg) (nar .byte (0 : Int32))) ((2 : Int32).toNatClampNeg) (nar .byte (48 : Int32))) ((3 : Int32).toNatClampNeg) (nar .byte (2 : Int32))) ((4 : Int32).toNatClampNeg) (nar .byte (R6 x2))) ((5 : Int32).toNatClampNeg) (nar .byte (0 : Int32))) ((nar .byte (R6 x2)) &&& (255 : Int32)) (0 : Int32) hh48 n0 Z0 E_ob48rd F_ob48rd_bytes F_ob48rd_position F_ob48rd_end A_ob35 g_ob48rd ne_ob35_ob48rd (by decide) (by decide) ((congrArg (fun z => z &&& (255 : Int32)) ((own_miss (by decide)).trans (own_hit (by decide)))).symm) (by decide) (by decide) ((show (0 : Int32) = ((nar .byte (0 : Int32)) &&& (255 : Int32)) from by decide).trans (congrArg (fun z => z &&& (255 : Int32)) (own_hit (by decide))).symm) (own_tagok x2) (by decide) (by decide)) (by decide) (by decide) e48 E_ob48rd rfl (by rw [hml]; rfl) (lenOf pd_7 rfl) rfl (W := 0) (by show 2 * 0 + _ ≤ _; exact Nat.le_of_eq rfl) (hb hby at_286) (by decide) (by decide) fun v49 T49 hh49 L49 X49 e49 hQ49 hZ hown hS => ?_
        obtain ⟨NL49, KK49, ob49el, rfl, szc_ob49el, P49_0, P49_1, P49_2, P49_3, P49_4, P49_5, P49_6, P49_7, P49_8⟩ := hQ49
        have ne_ob35_ob49el : ob35 ≠ ob49el := Nat.ne_of_lt (Nat.lt_of_lt_of_le A_ob35.lt szc_ob49el)
        have ne_ob49el_ob35 := Ne.symm ne_ob35_ob49el
        have ne_ob44_ob49el : ob44 ≠ ob49el := Nat.ne_of_lt (Nat.lt_of_lt_of_le E_ob44.lt szc_ob49el)
        have ne_ob49el_ob44 := Ne.symm ne_ob44_ob49el
        have ne_ob46el_ob49el : ob46el ≠ ob49el := Nat.ne_of_lt (Nat.lt_of_lt_of_le E_ob46el.lt szc_ob49el)
        have ne_ob49el_ob46el := Ne.symm ne_ob46el_ob49el
        have ne_ob47el_ob49el : ob47el ≠ ob49el := Nat.ne_of_lt (Nat.lt_of_lt_of_le E_ob47el.lt szc_ob49el)
        have ne_ob49el_ob47el := Ne.symm ne_ob47el_ob49el
        have ne_ob48rd_ob49el : ob48rd ≠ ob49el := Nat.ne_of_lt (Nat.lt_of_lt_of_le E_ob48rd.lt szc_ob49el)
        have ne_ob49el_ob48rd := Ne.symm ne_ob48rd_ob49el
        have g_ob49el : n0 ≤ ob49el := Nat.le_trans Z0 szc_ob49el
        have A_ob35 := A_ob35.keep KK49 (by simp [ne_ob35_ob48rd])
        have E_ob44 := E_ob44.keep KK49
        have E_ob46el := E_ob46el.keep KK49
        have F_ob46el_bytes := F_ob46el_bytes.keep KK49 (by simp [ne_ob46el_ob48rd])
        have F_ob46el_tag := F_ob46el_tag.keep KK49 (by simp [ne_ob46el_ob48rd])
        have F_ob46el_start := F_ob46el_start.keep KK49 (by simp [ne_ob46el_ob48rd])
        have F_ob46el_contents := F_ob46el_contents.keep KK49 (by simp [ne_ob46el_ob48rd])
        have F_ob46el_end := F_ob46el_end.keep KK49 (by simp [ne_ob46el_ob48rd])
        have F_ob44_bytes := F_ob44_bytes.keep KK49 (by simp [ne_ob44_ob48rd])
        have F_ob44_position := F_ob44_position.keep KK49 (by simp [ne_ob44_ob48rd])
        have F_ob44_end := F_ob44_end.keep KK49 (by simp [ne_ob44_ob48rd])
        have E_ob47el := E_ob47el.keep KK49
        have F_ob47el_bytes := F_ob47el_bytes.keep KK49 (by simp [ne_ob47el_ob48rd])
        have F_ob47el_tag := F_ob47el_tag.keep KK49 (by simp [ne_ob47el_ob48rd])
        have F_ob47el_start := F_ob47el_start.keep KK49 (by simp [ne_ob47el_ob48rd])
        have F_ob47el_contents := F_ob47el_contents.keep KK49 (by simp [ne_ob47el_ob48rd])
        have F_ob47el_end := F_ob47el_end.keep KK49 (by simp [ne_ob47el_ob48rd])
        have E_ob48rd := E_ob48rd.keep KK49
        have F_ob48rd_bytes := P49_0
        have F_ob48rd_position := P49_1
        have F_ob48rd_end := P49_2
        have E_ob49el := P49_3
        have F_ob49el_bytes := P49_4
        have F_ob49el_tag := P49_5
        have F_ob49el_start := P49_6
        have F_ob49el_contents := P49_7
        have F_ob49el_end := P49_8
        have Z0 := Nat.le_trans Z0 KK49.1
        have hk := Nat.le_refl hh49.size
        have N49 := Fr.app N48 NL49
        show own_Out p e below _ T49 (mkF m 289 #[.val (.int x0), .val (.int x1), .val (.int x2), .val (.int x3), .val (.int (x0 &&& (3 : Int32))), .val (.ref ob35), .val (.ref ob44), .val (.ref ob47el), .val (.ref ob48rd)] [(.ref ob49el)]) _ _ _
        rw [show ((((4 : Int32) + (1 : Int32)) + (1 : Int32)) + (((0 : Int32).toInt64).toInt32)) = (6 : Int32) from by decide] at F_ob48rd_position
        rw [show (((4 : Int32) + (1 : Int32)) + (1 : Int32)) = (6 : Int32) from by decide] at F_ob49el_contents
        rw [show ((((4 : Int32) + (1 : Int32)) + (1 : Int32)) + (((0 : Int32).toInt64).toInt32)) = (6 : Int32) from by decide] at F_ob49el_end
        refine own_to (fun t k => XS.pop X49.here hx rfl (hb hby at_289) rfl rfl k) ?_
        show own_Out p e below _ T49 (mkF m 290 #[.val (.int x0), .val (.int x1), .val (.int x2), .val (.int x3), .val (.int (x0 &&& (3 : Int32))), .val (.ref ob35), .val (.ref ob44), .val (.ref ob47el), .val (.ref ob48rd)] []) _ _ _
        refine own_to (fun t k => XS.aload X49.here hx rfl (hb hby at_290) rfl rfl k) ?_
        show own_Out p e below _ T49 (mkF m 292 #[.val (.int x0), .val (.int x1), .val (.int x2), .val (.int x3), .val (.int (x0 &&& (3 : Int32))), .val (.ref ob35), .val (.ref ob44), .val (.ref ob47el), .val (.ref ob48rd)] [(.ref ob48rd)]) _ _ _
        refine own_callV X49 hx hZ hown (a := ob48rd) (argsL := []) (rest := []) (hw _ (List.mem_of_getElem? (i := 19) rfl)) (hw _ (List.mem_of_getElem? (i := 20) rfl)) (hw _ (List.mem_of_getElem? (i := 22) rfl)) (hw _ (List.mem_of_getElem? (i := 21) rfl)) (hw _ (List.mem_of_getElem? (i := 2) rfl)) (hw _ (List.mem_of_getElem? (i := 23) rfl)) (by decide) (rm4 l Z a0 hw ob48rd (6 : Int32) (6 : Int32) hh49 n0 Z0 E_ob48rd F_ob48rd_position F_ob48rd_end (by decide)) (by decide) (by decide) e49 E_ob48rd rfl (by rw [hml]; rfl) (lenOf pd_5 rfl) rfl (W := 0) (by show 2 * 0 + _ ≤ _; exact Nat.le_of_eq rfl) (hb hby at_292) (by decide) (by decide) fun v50 T50 hh50 L50 X50 e50 hQ50 => ?_
        obtain ⟨rfl, NL50, he50⟩ := hQ50
        replace e50 := e50.trans he50
        have N50 := Fr.app N49 NL50
        show own_Out p e below _ T50 (mkF m 295 #[.val (.int x0), .val (.int x1), .val (.int x2), .val (.int x3), .val (.int (x0 &&& (3 : Int32))), .val (.ref ob35), .val (.ref ob44), .val (.ref ob47el), .val (.ref ob48rd)] []) _ _ _
        refine own_to (fun t k => XS.aload X50.here hx rfl (hb hby at_295) rfl rfl k) ?_
        show own_Out p e below _ T50 (mkF m 297 #[.val (.int x0), .val (.int x1), .val (.int x2), .val (.int x3), .val (.int (x0 &&& (3 : Int32))), .val (.ref ob35), .val (.ref ob44), .val (.ref ob47el), .val (.ref ob48rd)] [(.ref ob44)]) _ _ _
        refine own_callV X50 hx hZ hown (a := ob44) (argsL := []) (rest := []) (hw _ (List.mem_of_getElem? (i := 19) rfl)) (hw _ (List.mem_of_getElem? (i := 20) rfl)) (hw _ (List.mem_of_getElem? (i := 22) rfl)) (hw _ (List.mem_of_getElem? (i := 21) rfl)) (hw _ (List.mem_of_getElem? (i := 2) rfl)) (hw _ (List.mem_of_getElem? (i := 23) rfl)) (by decide) (rm4 l Z a0 hw ob44 (6 : Int32) (6 : Int32) hh49 n0 Z0 E_ob44 F_ob44_position F_ob44_end (by decide)) (by decide) (by decide) e50 E_ob44 rfl (by rw [hml]; rfl) (lenOf pd_5 rfl) rfl (W := 0) (by show 2 * 0 + _ ≤ _; exact Nat.le_of_eq rfl) (hb hby at_297) (by decide) (by decide) fun v51 T51 hh51 L51 X51 e51 hQ51 => ?_
        obtain ⟨rfl, NL51, he51⟩ := hQ51
        replace e51 := e51.trans he51
        have N51 := Fr.app N50 NL51
        show own_Out p e below _ T51 (mkF m 300 #[.val (.int x0), .val (.int x1), .val (.int x2), .val (.int x3), .val (.int (x0 &&& (3 : Int32))), .val (.ref ob35), .val (.ref ob44), .val (.ref ob47el), .val (.ref ob48rd)] []) _ _ _
        refine own_to (fun t k => XS.aload X51.here hx rfl (hb hby at_300) rfl rfl k) ?_
        show own_Out p e below _ T51 (mkF m 302 #[.val (.int x0), .val (.int x1), .val (.int x2), .val (.int x3), .val (.int (x0 &&& (3 : Int32))), .val (.ref ob35), .val (.ref ob44), .val (.ref ob47el), .val (.ref ob48rd)] [(.ref ob44)]) _ _ _
        refine own_callV X51 hx hZ hown (a := ob44) (argsL := []) (rest := []) (hw _ (List.mem_of_getElem? (i := 29) rfl)) (hw _ (List.mem_of_getElem? (i := 25) rfl)) (hw _ (List.mem_of_getElem? (i := 27) rfl)) (hw _ (List.mem_of_getElem? (i := 26) rfl)) (hw _ (List.mem_of_getElem? (i := 2) rfl)) (hw _ (List.mem_of_getElem? (i := 28) rfl)) (by decide) (rm5 l Z a0 hw ob44 (6 : Int32) (6 : Int32) hh49 n0 Z0 F_ob44_position F_ob44_end) (by decide) (by decide) e51 E_ob44 rfl (by rw [hml]; rfl) (lenOf pd_1 rfl) rfl (W := 0) (by show 2 * 0 + _ ≤ _; exact Nat.le_of_eq rfl) (hb hby at_302) (by decide) (by decide) fun v52 T52 hh52 L52 X52 e52 hQ52 => ?_
        obtain ⟨rfl, NL52, he52⟩ := hQ52
        replace e52 := e52.trans he52
        have N52 := Fr.app N51 NL52
        show own_Out p e below _ T52 (mkF m 305 #[.val (.int x0), .val (.int x1), .val (.int x2), .val (.int x3), .val (.int (x0 &&& (3 : Int32))), .val (.ref ob35), .val (.ref ob44), .val (.ref ob47el), .val (.ref ob48rd)] [(.int (R5 ob44 (6 : Int32) (6 : Int32)))]) _ _ _
        have hc305 : (R5 ob44 (6 : Int32) (6 : Int32)) = (0 : Int32) := own_hn0 _ _ _ (by decide)
        refine own_to (fun t k => XS.ifNo X52.here hx rfl (hb hby at_305) rfl ((if0 _ _).trans (teq hc305).2) k) ?_
        show own_Out p e below _ T52 (mkF m 308 #[.val (.int x0), .val (.int x1), .val (.int x2), .val (.int x3), .val (.int (x0 &&& (3 : Int32))), .val (.ref ob35), .val (.ref ob44), .val (.ref ob47el), .val (.ref ob48rd)] []) _ _ _
        refine own_to (fun t k => XS.aload X52.here hx rfl (hb hby at_308) rfl rfl k) ?_
        show own_Out p e below _ T52 (mkF m 310 #[.val (.int x0), .val (.int x1), .val (.int x2), .val (.int x3), .val (.int (x0 &&& (3 : Int32))), .val (.ref ob35), .val (.ref ob44), .val (.ref ob47el), .val (.ref ob48rd)] [(.ref ob48rd)]) _ _ _
        refine own_callV X52 hx hZ hown (a := ob48rd) (argsL := []) (rest := []) (hw _ (List.mem_of_getElem? (i := 29) rfl)) (hw _ (List.mem_of_getElem? (i := 25) rfl)) (hw _ (List.mem_of_getElem? (i := 27) rfl)) (hw _ (List.mem_of_getElem? (i := 26) rfl)) (hw _ (List.mem_of_getElem? (i := 2) rfl)) (hw _ (List.mem_of_getElem? (i := 28) rfl)) (by decide) (rm5 l Z a0 hw ob48rd (6 : Int32) (6 : Int32) hh49 n0 Z0 F_ob48rd_position F_ob48rd_end) (by decide) (by decide) e52 E_ob48rd rfl (by rw [hml]; rfl) (lenOf pd_1 rfl) rfl (W := 0) (by show 2 * 0 + _ ≤ _; exact Nat.le_of_eq rfl) (hb hby at_310) (by decide) (by decide) fun v53 T53 hh53 L53 X53 e53 hQ53 => ?_
        obtain ⟨rfl, NL53, he53⟩ := hQ53
        replace e53 := e53.trans he53
        have N53 := Fr.app N52 NL53
        show own_Out p e below _ T53 (mkF m 313 #[.val (.int x0), .val (.int x1), .val (.int x2), .val (.int x3), .val (.int (x0 &&& (3 : Int32))), .val (.ref ob35), .val (.ref ob44), .val (.ref ob47el), .val (.ref ob48rd)] [(.int (R5 ob48rd (6 : Int32) (6 : Int32)))]) _ _ _
        have hc313 : (R5 ob48rd (6 : Int32) (6 : Int32)) = (0 : Int32) := own_hn0 _ _ _ (by decide)
        refine own_to (fun t k => XS.ifNo X53.here hx rfl (hb hby at_313) rfl ((if0 _ _).trans (teq hc313).2) k) ?_
        show own_Out p e below _ T53 (mkF m 316 #[.val (.int x0), .val (.int x1), .val (.int x2), .val (.int x3), .val (.int (x0 &&& (3 : Int32))), .val (.ref ob35), .val (.ref ob44), .val (.ref ob47el), .val (.ref ob48rd)] []) _ _ _
        refine own_to (fun t k => XS.iloadN X53.here hx rfl (hb hby at_316) rfl k) ?_
        show own_Out p e below _ T53 (mkF m 317 #[.val (.int x0), .val (.int x1), .val (.int x2), .val (.int x3), .val (.int (x0 &&& (3 : Int32))), .val (.ref ob35), .val (.ref ob44), .val (.ref ob47el), .val (.ref ob48rd)] [(.int x3)]) _ _ _
        refine own_to (fun t k => XS.iloadN X53.here hx rfl (hb hby at_317) rfl k) ?_
        show own_Out p e below _ T53 (mkF m 318 #[.val (.int x0), .val (.int x1), .val (.int x2), .val (.int x3), .val (.int (x0 &&& (3 : Int32))), .val (.ref ob35), .val (.ref ob44), .val (.ref ob47el), .val (.ref ob48rd)] [(.int x3), (.int x3)]) _ _ _
        have hc318 : x3 = x3 := rfl
        refine own_to (fun t k => XS.icmpNo X53.here hx rfl (hb hby at_318) rfl (teq hc318).2 k) ?_
        show own_Out p e below _ T53 (mkF m 321 #[.val (.int x0), .val (.int x1), .val (.int x2), .val (.int x3), .val (.int (x0 &&& (3 : Int32))), .val (.ref ob35), .val (.ref ob44), .val (.ref ob47el), .val (.ref ob48rd)] []) _ _ _
        refine own_to (fun t k => XS.iconst X53.here hx rfl (hb hby at_321) k) ?_
        show own_Out p e below _ T53 (mkF m 322 #[.val (.int x0), .val (.int x1), .val (.int x2), .val (.int x3), .val (.int (x0 &&& (3 : Int32))), .val (.ref ob35), .val (.ref ob44), .val (.ref ob47el), .val (.ref ob48rd)] [(.int (1 : Int32))]) _ _ _
        refine own_to (fun t k => XS.goto X53.here hx rfl (pc0 := 322) (pc' := 326) rfl (hb hby at_322) (by decide) (by decide) k) ?_
        show own_Out p e below _ T53 (mkF m 326 #[.val (.int x0), .val (.int x1), .val (.int x2), .val (.int x3), .val (.int (x0 &&& (3 : Int32))), .val (.ref ob35), .val (.ref ob44), .val (.ref ob47el), .val (.ref ob48rd)] [(.int (1 : Int32))]) _ _ _
        refine own_retVW X53 hS hk e53 hx hlk (w := .int (1 : Int32)) hret rfl (Or.inl ⟨rfl, by simp, _, rfl⟩) (hb hby at_326) (by decide) (by decide) ?_
        rw [e53]
        exact ⟨rfl, N53⟩
set_option maxRecDepth 65536 in
set_option maxHeartbeats 40000000 in
theorem comes_1 {Post : Tables → Env → Array Value → State → Outcome → State → Prop} (hpost : ∀ tb e args s v u, (limb_1_1.after args s (.returned v) u = true ∧ limb_1_2.after args s (.returned v) u = true ∧ True) → ReturnedEndW s (.returned v) u (Jvm.fieldLocs frame_1_writes args s ++ Jvm.arrayLocs frame_1_arrays args s ++ Jvm.staticLocs frame_1_statics s) 24 2176 → Post tb e args s (.returned v) u) :
    ArmFor flags0 classFile x code maxLocals ret World_1 tables_1 room_1 Calls_1 rest_1 Pre_1 Post := by
  intro l hfl _ _ p e ha hc hk s m args below hf hA hF happ hP
  obtain ⟨hcalls, hrest, hpre⟩ := hP
  obtain ⟨-, -, -, hnamed, -, -, -, hat⟩ := (Spec.applies_iff hf).mp happ
  obtain ⟨hg, hn⟩ := and_e (Cond.before_iff.mp (show (Jvm.Cond.and given_1 narrow_1).before args s = true from hpre))
  obtain ⟨gg2, gg3⟩ := and_e hg
  obtain ⟨gg4, gg5⟩ := and_e gg3
  obtain ⟨gg6, gg7⟩ := and_e gg5
  obtain ⟨gg8, gg9⟩ := and_e gg7
  obtain ⟨w0, w1, w2, w3, rfl⟩ : ∃ w0 w1 w2 w3 : Value, args = #[w0, w1, w2, w3] := by
    have hs : args.size = 4 := by simpa [Cond.value, given_1] using gg2
    obtain ⟨L⟩ := args
    match L, hs with
    | [w0, w1, w2, w3], _ => exact ⟨w0, w1, w2, w3, rfl⟩
  have hw := fun d (hd : d ∈ tables_1) => atoms_spec (ws := Jvm.Cond.code x code maxLocals ret :: tables_1) hat d (List.mem_cons_of_mem _ hd)
  have hfit : Fit s := fun {y c} hc i hi => by
    obtain ⟨ha, rfl⟩ := Array.getElem?_eq_some_iff.mp hc
    have q := List.all_eq_true.mp ((Array.all_eq_true_iff_forall_mem.mp hF) _ (Array.getElem_mem ha)) i (List.mem_range.mpr hi)
    simpa [Array.getElem?_eq_getElem hi] using q
  obtain ⟨i0, ei0⟩ := is_v gg4
  obtain rfl : w0 = (.int i0) := Option.some.inj ei0
  obtain ⟨i1, ei1⟩ := is_v gg6
  obtain rfl : w1 = (.int i1) := Option.some.inj ei1
  obtain ⟨i2, ei2⟩ := is_v gg8
  obtain rfl : w2 = (.int i2) := Option.some.inj ei2
  obtain ⟨i3, ei3⟩ := is_v gg9
  obtain rfl : w3 = (.int i3) := Option.some.inj ei3
  obtain ⟨n, o, h1, h2, h3, _, L, rfl, ⟨rfl, N⟩, hq⟩ := rm0 l s _ hw i0 i1 i2 i3 s.heap s.heap.size (Nat.le_refl _) tables_1 p e ha hc hk s m _ below hf ((Spec.applies_iff_loose hf).mp happ).1 ⟨rfl, State.Warmed39.refl s, rfl⟩ trivial
  refine ⟨n, _, h1, h2, h3, hpost _ _ _ _ _ _ ⟨Cond.after_iff.mpr rfl, Cond.after_iff.mpr (eq_i res_at (Term.int_eval (1)) rfl), trivial⟩ ⟨hq.1, hq.2.1, hq.2.2.1, (hq.2.2.2.sift fun y hy => Or.inr (N y hy)).mono (by decide) (by decide)⟩⟩
theorem main_1_1 : Claimed_1_1 := comes_1 fun _ _ _ _ _ _ h hF => ⟨h.1, hF⟩
theorem main_1_2 : Claimed_1_2 := comes_1 fun _ _ _ _ _ _ h hF => ⟨h.2.1, hF⟩
end Jvm.Pilot.@@N@@
namespace Jvm.Pilot.@@N@@
open Jvm Jvm.ClassFile Sem Op Lib Jvm.Free Jvm.Stand Jvm.Pilot.@@N@@.Jvm.D
/-! MADE BY PROGRAM (witnessworld.py) out of the Statement's table words and the real class files: 15 classes; the members and pool entries that the words name. The judged class is class 1, her method 2. -/
namespace start1
open Jvm.ClassFile
def u (s : String) : CpInfo := .utf8 (stringToUtf16 s)
/-- a pool by its gaps: so many unusable entries, then the entry; so many at the end -/
def gap : Nat → List CpInfo → List CpInfo
  | 0, r => r
  | n + 1, r => .unusable :: gap n r
def poolList (es : List (Nat × CpInfo)) (last : Nat) : List CpInfo := es.foldr (fun e r => gap e.1 (e.2 :: r)) (gap last [])
def pool (es : List (Nat × CpInfo)) (last : Nat) : Array CpInfo := ⟨poolList es last⟩
def fileOf (pool : Array CpInfo) (this : Nat) (attrs : Array Attribute := #[]) (ms : Array MethodInfo := #[]) (fl : Nat := 33) (sup : Nat := 0) (ifs : Array Nat := #[]) (fds : Array FieldInfo := #[]) : ClassFile where
  minorVersion := 0
  majorVersion := 65
  constantPool := pool
  accessFlags := fl
  thisClass := this
  superClass := sup
  interfaces := ifs
  fields := fds
  methods := ms
  attributes := attrs
def plain (name : String) (sup : Option ClassId) : Class where
  name := name
  kind := .ordinary
  loader := none
  accessFlags := 33
  super := sup
  interfaces := #[]
  cf := none
  fields := #[]
  methods := #[]
  instanceTypes := #[]
  staticTypes := #[]
  resolved := #[]
  callSites := []
  init := .initialized
  statics := none
  mirror := none

def pool0 : Array CpInfo := pool [(5, u "<init>"), (0, u "()V"), (1, .class_ 10), (1, u "java/lang/Object")] 113

def k0c0 : Code := { maxStack := 0, maxLocals := 1, code := object_method_1_code, exceptionTable := #[], attributes := #[] }
def k0m0 : Method := { name := "<init>", desc := "()V", sig := { parameters := [], returnType := none }, accessFlags := 1, code := some k0c0 }
/-- java/lang/Object -/
def k0 : Class := { plain "java/lang/Object" none with
  accessFlags := 33
  interfaces := #[]
  cf := some (fileOf pool0 8 #[] #[{ accessFlags := 1, nameIndex := 5, descriptorIndex := 6, attributes := #[] }] 33 0 #[] #[])
  fields := #[]
  methods := #[k0m0]
  instanceTypes := #[]
  staticTypes := #[]
  resolved := Array.replicate 124 none
  statics := none }

def pool1 : Array CpInfo := pool [(2, .class_ 4), (1, u "java/lang/Object"), (0, u "<init>"), (0, u "()V"), (0, .class_ 8), (0, u "com/example/pathwarden/pathwarden/util/DerReader"), (0, .methodref 7 10), (0, .nameAndType 5 11), (0, u "([B)V"), (0, .methodref 7 13), (0, .nameAndType 14 6), (0, u "requireEnd"), (0, .methodref 7 16), (0, .nameAndType 17 18), (0, u "hasNext"), (0, u "()Z"), (0, .methodref 20 21), (0, .class_ 22), (0, .nameAndType 23 24), (0, u "com/example/pathwarden/pathwarden/util/DerReaderRequireEndPinLaw"), (0, u "tagOf"), (0, u "(I)B"), (0, .methodref 7 26), (0, .nameAndType 27 28), (0, u "next"), (0, u "()Lcom/example/pathwarden/pathwarden/util/DerReader$Element;"), (0, .methodref 30 31), (0, .class_ 32), (0, .nameAndType 33 34), (0, u "com/example/pathwarden/pathwarden/util/DerReader$Element"), (0, u "elements"), (0, u "()Lcom/example/pathwarden/pathwarden/util/DerReader;"), (3, u "law"), (0, u "(IIII)Z")] 9

def k1m0 : Method := { name := "<init>", desc := "()V", sig := { parameters := [], returnType := none }, accessFlags := 1, code := none }
def k1c1 : Code := { maxStack := 2, maxLocals := 2, code := method_2_code, exceptionTable := #[], attributes := #[] }
def k1m1 : Method := { name := "tagOf", desc := "(I)B", sig := { parameters := [.int], returnType := some .byte }, accessFlags := 10, code := some k1c1 }
def k1c2 : Code := { maxStack := 4, maxLocals := 9, code := code, exceptionTable := #[], attributes := #[] }
def k1m2 : Method := { name := "law", desc := "(IIII)Z", sig := { parameters := [.int, .int, .int, .int], returnType := some .boolean }, accessFlags := 9, code := some k1c2 }
/-- com/example/pathwarden/pathwarden/util/DerReaderRequireEndPinLaw -/
def k1 : Class := { plain "com/example/pathwarden/pathwarden/util/DerReaderRequireEndPinLaw" (some 0) with
  accessFlags := 49
  interfaces := #[]
  cf := some (fileOf pool1 20 #[] #[{ accessFlags := 1, nameIndex := 5, descriptorIndex := 6, attributes := #[] }, { accessFlags := 10, nameIndex := 23, descriptorIndex := 24, attributes := #[] }, { accessFlags := 9, nameIndex := 38, descriptorIndex := 39, attributes := #[] }] 49 2 #[] #[])
  fields := #[]
  methods := #[k1m0, k1m1, k1m2]
  instanceTypes := #[]
  staticTypes := #[]
  resolved := Array.replicate 49 none
  statics := none }

def pool2 : Array CpInfo := pool [(1, .methodref 2 3), (0, .class_ 4), (0, .nameAndType 5 6), (0, u "com/example/pathwarden/pathwarden/util/DerReader"), (0, u "<init>"), (0, u "([BII)V"), (0, .methodref 8 9), (0, .class_ 10), (0, .nameAndType 5 11), (0, u "java/lang/Object"), (0, u "()V"), (0, .fieldref 2 13), (0, .nameAndType 14 15), (0, u "bytes"), (0, u "[B"), (0, .fieldref 2 17), (0, .nameAndType 18 19), (0, u "position"), (0, u "I"), (0, .fieldref 2 21), (0, .nameAndType 22 19), (0, u "end"), (0, .methodref 2 24), (0, .nameAndType 25 26), (0, u "hasNext"), (0, u "()Z"), (0, .string 28), (0, u "a tag"), (0, .methodref 2 30), (0, .nameAndType 31 32), (0, u "octet"), (0, u "(Ljava/lang/String;)I"), (7, .string 41), (0, u "a length"), (0, .long 128), (15, .class_ 59), (0, u "com/example/pathwarden/pathwarden/util/DerReader$Element"), (0, .methodref 58 61), (0, .nameAndType 5 62), (0, u "([BIIII)V"), (2, u "next"), (0, u "()Lcom/example/pathwarden/pathwarden/util/DerReader$Element;"), (31, u "FIRST_ARC_FACTOR"), (0, u "Ljava/math/BigInteger;"), (0, u "MAX_OBJECT_IDENTIFIER_LENGTH"), (2, u "INTEGER"), (1, u "OCTET_STRING"), (1, u "OBJECT_IDENTIFIER"), (1, u "SEQUENCE"), (1, u "SET"), (1, u "HIGH_TAG_NUMBER"), (1, u "LONG_FORM"), (1, u "MORE_OCTETS"), (0, u "FIRST_BIT"), (0, u "([B)V"), (7, u "requireEnd")] 24

def k2c0 : Code := { maxStack := 4, maxLocals := 2, code := prog_57_method_1_code, exceptionTable := #[], attributes := #[] }
def k2m0 : Method := { name := "<init>", desc := "([B)V", sig := { parameters := [(.array .byte)], returnType := none }, accessFlags := 1, code := some k2c0 }
def k2c1 : Code := { maxStack := 2, maxLocals := 4, code := prog_57_method_2_code, exceptionTable := #[], attributes := #[] }
def k2m1 : Method := { name := "<init>", desc := "([BII)V", sig := { parameters := [(.array .byte), .int, .int], returnType := none }, accessFlags := 2, code := some k2c1 }
def k2c2 : Code := { maxStack := 2, maxLocals := 1, code := prog_57_method_3_code, exceptionTable := #[], attributes := #[] }
def k2m2 : Method := { name := "hasNext", desc := "()Z", sig := { parameters := [], returnType := some .boolean }, accessFlags := 1, code := some k2c2 }
def k2c3 : Code := { maxStack := 7, maxLocals := 7, code := prog_57_method_5_code, exceptionTable := #[], attributes := #[] }
def k2m3 : Method := { name := "next", desc := "()Lcom/example/pathwarden/pathwarden/util/DerReader$Element;", sig := { parameters := [], returnType := some (.object "com/example/pathwarden/pathwarden/util/DerReader$Element") }, accessFlags := 1, code := some k2c3 }
def k2c4 : Code := { maxStack := 4, maxLocals := 1, code := prog_57_method_7_code, exceptionTable := #[], attributes := #[] }
def k2m4 : Method := { name := "requireEnd", desc := "()V", sig := { parameters := [], returnType := none }, accessFlags := 1, code := some k2c4 }
def k2c5 : Code := { maxStack := 5, maxLocals := 2, code := prog_57_method_8_code, exceptionTable := #[], attributes := #[] }
def k2m5 : Method := { name := "octet", desc := "(Ljava/lang/String;)I", sig := { parameters := [(.object "java/lang/String")], returnType := some .int }, accessFlags := 2, code := some k2c5 }
/-- com/example/pathwarden/pathwarden/util/DerReader -/
def k2 : Class := { plain "com/example/pathwarden/pathwarden/util/DerReader" (some 0) with
  accessFlags := 49
  interfaces := #[]
  cf := some (fileOf pool2 2 #[.nestMembers #[58]] #[{ accessFlags := 1, nameIndex := 5, descriptorIndex := 119, attributes := #[] }, { accessFlags := 2, nameIndex := 5, descriptorIndex := 6, attributes := #[] }, { accessFlags := 1, nameIndex := 25, descriptorIndex := 26, attributes := #[] }, { accessFlags := 1, nameIndex := 65, descriptorIndex := 66, attributes := #[] }, { accessFlags := 1, nameIndex := 127, descriptorIndex := 11, attributes := #[] }, { accessFlags := 2, nameIndex := 31, descriptorIndex := 32, attributes := #[] }] 49 8 #[] #[{ accessFlags := 25, nameIndex := 100, descriptorIndex := 19, attributes := #[] }, { accessFlags := 25, nameIndex := 103, descriptorIndex := 19, attributes := #[] }, { accessFlags := 25, nameIndex := 105, descriptorIndex := 19, attributes := #[] }, { accessFlags := 25, nameIndex := 107, descriptorIndex := 19, attributes := #[] }, { accessFlags := 25, nameIndex := 109, descriptorIndex := 19, attributes := #[] }, { accessFlags := 25, nameIndex := 111, descriptorIndex := 19, attributes := #[] }, { accessFlags := 26, nameIndex := 113, descriptorIndex := 19, attributes := #[] }, { accessFlags := 26, nameIndex := 115, descriptorIndex := 19, attributes := #[] }, { accessFlags := 26, nameIndex := 117, descriptorIndex := 19, attributes := #[] }, { accessFlags := 26, nameIndex := 118, descriptorIndex := 19, attributes := #[] }, { accessFlags := 26, nameIndex := 98, descriptorIndex := 99, attributes := #[] }, { accessFlags := 18, nameIndex := 14, descriptorIndex := 15, attributes := #[] }, { accessFlags := 18, nameIndex := 22, descriptorIndex := 19, attributes := #[] }, { accessFlags := 2, nameIndex := 18, descriptorIndex := 19, attributes := #[] }])
  fields := #[{ name := "MAX_OBJECT_IDENTIFIER_LENGTH", type := .int, accessFlags := 25, slot := 0, constantValue := 0 }, { name := "INTEGER", type := .int, accessFlags := 25, slot := 1, constantValue := 0 }, { name := "OCTET_STRING", type := .int, accessFlags := 25, slot := 2, constantValue := 0 }, { name := "OBJECT_IDENTIFIER", type := .int, accessFlags := 25, slot := 3, constantValue := 0 }, { name := "SEQUENCE", type := .int, accessFlags := 25, slot := 4, constantValue := 0 }, { name := "SET", type := .int, accessFlags := 25, slot := 5, constantValue := 0 }, { name := "HIGH_TAG_NUMBER", type := .int, accessFlags := 26, slot := 6, constantValue := 0 }, { name := "LONG_FORM", type := .int, accessFlags := 26, slot := 7, constantValue := 0 }, { name := "MORE_OCTETS", type := .int, accessFlags := 26, slot := 8, constantValue := 0 }, { name := "FIRST_BIT", type := .int, accessFlags := 26, slot := 9, constantValue := 0 }, { name := "FIRST_ARC_FACTOR", type := (.object "java/math/BigInteger"), accessFlags := 26, slot := 10, constantValue := 0 }, { name := "bytes", type := (.array .byte), accessFlags := 18, slot := 0, constantValue := 0 }, { name := "end", type := .int, accessFlags := 18, slot := 1, constantValue := 0 }, { name := "position", type := .int, accessFlags := 2, slot := 2, constantValue := 0 }]
  methods := #[k2m0, k2m1, k2m2, k2m3, k2m4, k2m5]
  instanceTypes := #[(.array .byte), .int, .int]
  staticTypes := #[.int, .int, .int, .int, .int, .int, .int, .int, .int, .int, (.object "java/math/BigInteger")]
  resolved := ((Array.replicate 152 none).setIfInBounds 58 (some (.cls 9))).setIfInBounds 60 (some (.method ⟨9, 0⟩))
  statics := none }

def pool3 : Array CpInfo := pool [(1, .class_ 2), (0, u "java/io/Serializable"), (0, .class_ 4), (0, u "java/lang/Object")] 2

/-- java/io/Serializable -/
def k3 : Class := { plain "java/io/Serializable" (some 0) with
  accessFlags := 1537
  interfaces := #[]
  cf := some (fileOf pool3 1 #[] #[] 1537 3 #[] #[])
  fields := #[]
  methods := #[]
  instanceTypes := #[]
  staticTypes := #[]
  resolved := Array.replicate 7 none
  statics := none }

def pool4 : Array CpInfo := pool [(1, .class_ 2), (0, u "java/lang/Comparable"), (0, .class_ 4), (0, u "java/lang/Object")] 7

/-- java/lang/Comparable -/
def k4 : Class := { plain "java/lang/Comparable" (some 0) with
  accessFlags := 1537
  interfaces := #[]
  cf := some (fileOf pool4 1 #[] #[] 1537 3 #[] #[])
  fields := #[]
  methods := #[]
  instanceTypes := #[]
  staticTypes := #[]
  resolved := Array.replicate 12 none
  statics := none }

def pool5 : Array CpInfo := pool [(2, .class_ 4), (1, u "java/lang/CharSequence"), (42, .class_ 48), (0, u "java/lang/CharSequence$1CodePointIterator"), (10, .class_ 60), (0, u "java/lang/CharSequence$1CharIterator"), (5, .class_ 67), (0, u "java/lang/Object")] 63

/-- java/lang/CharSequence -/
def k5 : Class := { plain "java/lang/CharSequence" (some 0) with
  accessFlags := 1537
  interfaces := #[]
  cf := some (fileOf pool5 2 #[.nestMembers #[47, 59]] #[] 1537 66 #[] #[])
  fields := #[]
  methods := #[]
  instanceTypes := #[]
  staticTypes := #[]
  resolved := Array.replicate 131 none
  statics := none }

def pool6 : Array CpInfo := pool [(1, .class_ 2), (0, u "java/lang/constant/Constable"), (0, .class_ 4), (0, u "java/lang/Object")] 6

/-- java/lang/constant/Constable -/
def k6 : Class := { plain "java/lang/constant/Constable" (some 0) with
  accessFlags := 1537
  interfaces := #[]
  cf := some (fileOf pool6 1 #[] #[] 1537 3 #[] #[])
  fields := #[]
  methods := #[]
  instanceTypes := #[]
  staticTypes := #[]
  resolved := Array.replicate 11 none
  statics := none }

def pool7 : Array CpInfo := pool [(1, .class_ 2), (0, u "java/lang/constant/ConstantDesc"), (0, .class_ 4), (0, u "java/lang/Object")] 32

/-- java/lang/constant/ConstantDesc -/
def k7 : Class := { plain "java/lang/constant/ConstantDesc" (some 0) with
  accessFlags := 1537
  interfaces := #[]
  cf := some (fileOf pool7 1 #[] #[] 1537 3 #[] #[])
  fields := #[]
  methods := #[]
  instanceTypes := #[]
  staticTypes := #[]
  resolved := Array.replicate 37 none
  statics := none }

def pool8 : Array CpInfo := pool [(2, .class_ 4), (1, u "java/lang/Object"), (0, u "<init>"), (0, u "()V"), (3, .class_ 12), (1, u "java/lang/String"), (0, u "value"), (0, u "[B"), (2, u "coder"), (0, u "B"), (2, u "hash"), (0, u "I"), (2, u "hashIsZero"), (0, u "Z"), (13, u "COMPACT_STRINGS"), (534, .class_ 576), (0, u "java/lang/CharSequence"), (22, u "CASE_INSENSITIVE_ORDER"), (0, u "Ljava/util/Comparator;"), (500, u "serialPersistentFields"), (0, u "[Ljava/io/ObjectStreamField;"), (0, .class_ 1104), (0, u "java/lang/String$CaseInsensitiveComparator"), (1, .class_ 1107), (0, u "java/io/Serializable"), (0, .class_ 1109), (0, u "java/lang/Comparable"), (0, .class_ 1111), (0, u "java/lang/constant/Constable"), (0, .class_ 1113), (0, u "java/lang/constant/ConstantDesc"), (2, u "serialVersionUID"), (0, u "J"), (3, u "REPL"), (0, u "C"), (2, u "LATIN1"), (1, u "UTF16")] 323

def k8m0 : Method := { name := "<init>", desc := "()V", sig := { parameters := [], returnType := none }, accessFlags := 1, code := none }
/-- java/lang/String -/
def k8 : Class := { plain "java/lang/String" (some 0) with
  accessFlags := 49
  interfaces := #[3, 4, 5, 6, 7]
  cf := some (fileOf pool8 10 #[.nestMembers #[1103]] #[{ accessFlags := 1, nameIndex := 5, descriptorIndex := 6, attributes := #[] }] 49 2 #[1106, 1108, 575, 1110, 1112] #[{ accessFlags := 18, nameIndex := 13, descriptorIndex := 14, attributes := #[] }, { accessFlags := 18, nameIndex := 17, descriptorIndex := 18, attributes := #[] }, { accessFlags := 2, nameIndex := 21, descriptorIndex := 22, attributes := #[] }, { accessFlags := 2, nameIndex := 25, descriptorIndex := 26, attributes := #[] }, { accessFlags := 26, nameIndex := 1116, descriptorIndex := 1117, attributes := #[] }, { accessFlags := 24, nameIndex := 40, descriptorIndex := 26, attributes := #[] }, { accessFlags := 26, nameIndex := 1101, descriptorIndex := 1102, attributes := #[] }, { accessFlags := 26, nameIndex := 1121, descriptorIndex := 1122, attributes := #[] }, { accessFlags := 25, nameIndex := 599, descriptorIndex := 600, attributes := #[] }, { accessFlags := 24, nameIndex := 1125, descriptorIndex := 18, attributes := #[] }, { accessFlags := 24, nameIndex := 1127, descriptorIndex := 18, attributes := #[] }])
  fields := #[{ name := "value", type := (.array .byte), accessFlags := 18, slot := 0, constantValue := 0 }, { name := "coder", type := .byte, accessFlags := 18, slot := 1, constantValue := 0 }, { name := "hash", type := .int, accessFlags := 2, slot := 2, constantValue := 0 }, { name := "hashIsZero", type := .boolean, accessFlags := 2, slot := 3, constantValue := 0 }, { name := "serialVersionUID", type := .long, accessFlags := 26, slot := 0, constantValue := 0 }, { name := "COMPACT_STRINGS", type := .boolean, accessFlags := 24, slot := 1, constantValue := 0 }, { name := "serialPersistentFields", type := (.array (.object "java/io/ObjectStreamField")), accessFlags := 26, slot := 2, constantValue := 0 }, { name := "REPL", type := .char, accessFlags := 26, slot := 3, constantValue := 0 }, { name := "CASE_INSENSITIVE_ORDER", type := (.object "java/util/Comparator"), accessFlags := 25, slot := 4, constantValue := 0 }, { name := "LATIN1", type := .byte, accessFlags := 24, slot := 5, constantValue := 0 }, { name := "UTF16", type := .byte, accessFlags := 24, slot := 6, constantValue := 0 }]
  methods := #[k8m0]
  instanceTypes := #[(.array .byte), .byte, .int, .boolean]
  staticTypes := #[.long, .boolean, (.array (.object "java/io/ObjectStreamField")), .char, (.object "java/util/Comparator"), .byte, .byte]
  resolved := Array.replicate 1451 none
  statics := none }

def pool9 : Array CpInfo := pool [(1, .class_ 2), (0, u "com/example/pathwarden/pathwarden/util/DerReader"), (0, .methodref 4 5), (0, .class_ 6), (0, .nameAndType 7 8), (0, u "java/lang/Object"), (0, u "<init>"), (0, u "()V"), (0, .fieldref 10 11), (0, .class_ 12), (0, .nameAndType 13 14), (0, u "com/example/pathwarden/pathwarden/util/DerReader$Element"), (0, u "bytes"), (0, u "[B"), (0, .fieldref 10 16), (0, .nameAndType 17 18), (0, u "tag"), (0, u "I"), (0, .fieldref 10 20), (0, .nameAndType 21 18), (0, u "start"), (0, .fieldref 10 23), (0, .nameAndType 24 18), (0, u "contents"), (0, .fieldref 10 26), (0, .nameAndType 27 18), (0, u "end"), (6, .methodref 1 35), (0, .nameAndType 7 36), (0, u "([BII)V"), (86, u "([BIIII)V"), (4, u "elements"), (0, u "()Lcom/example/pathwarden/pathwarden/util/DerReader;")] 30

def k9c0 : Code := { maxStack := 2, maxLocals := 6, code := prog_58_method_1_code, exceptionTable := #[], attributes := #[] }
def k9m0 : Method := { name := "<init>", desc := "([BIIII)V", sig := { parameters := [(.array .byte), .int, .int, .int, .int], returnType := none }, accessFlags := 2, code := some k9c0 }
def k9c1 : Code := { maxStack := 5, maxLocals := 1, code := prog_58_method_5_code, exceptionTable := #[], attributes := #[] }
def k9m1 : Method := { name := "elements", desc := "()Lcom/example/pathwarden/pathwarden/util/DerReader;", sig := { parameters := [], returnType := some (.object "com/example/pathwarden/pathwarden/util/DerReader") }, accessFlags := 1, code := some k9c1 }
/-- com/example/pathwarden/pathwarden/util/DerReader$Element -/
def k9 : Class := { plain "com/example/pathwarden/pathwarden/util/DerReader$Element" (some 0) with
  accessFlags := 49
  interfaces := #[]
  cf := some (fileOf pool9 10 #[.nestHost 1] #[{ accessFlags := 2, nameIndex := 7, descriptorIndex := 123, attributes := #[] }, { accessFlags := 1, nameIndex := 128, descriptorIndex := 129, attributes := #[] }] 49 4 #[] #[{ accessFlags := 18, nameIndex := 13, descriptorIndex := 14, attributes := #[] }, { accessFlags := 18, nameIndex := 17, descriptorIndex := 18, attributes := #[] }, { accessFlags := 18, nameIndex := 21, descriptorIndex := 18, attributes := #[] }, { accessFlags := 18, nameIndex := 24, descriptorIndex := 18, attributes := #[] }, { accessFlags := 18, nameIndex := 27, descriptorIndex := 18, attributes := #[] }])
  fields := #[{ name := "bytes", type := (.array .byte), accessFlags := 18, slot := 0, constantValue := 0 }, { name := "tag", type := .int, accessFlags := 18, slot := 1, constantValue := 0 }, { name := "start", type := .int, accessFlags := 18, slot := 2, constantValue := 0 }, { name := "contents", type := .int, accessFlags := 18, slot := 3, constantValue := 0 }, { name := "end", type := .int, accessFlags := 18, slot := 4, constantValue := 0 }]
  methods := #[k9m0, k9m1]
  instanceTypes := #[(.array .byte), .int, .int, .int, .int]
  staticTypes := #[]
  resolved := Array.replicate 160 none
  statics := none }

def pool10 : Array CpInfo := pool [(1, u "java/lang/Cloneable"), (0, .class_ 1), (0, u "java/lang/Object"), (0, .class_ 3)] 3

/-- java/lang/Cloneable -/
def k10 : Class := { plain "java/lang/Cloneable" (some 0) with
  accessFlags := 1537
  interfaces := #[]
  cf := some (fileOf pool10 2 #[] #[] 1537 4 #[] #[])
  fields := #[]
  methods := #[]
  instanceTypes := #[]
  staticTypes := #[]
  resolved := Array.replicate 8 none
  statics := none }

/-- the primitive byte -/
def k11 : Class := { plain "byte" none with kind := .primitive 'B', accessFlags := 0x411 }
/-- [B -/
def k12 : Class := { plain "[B" (some 0) with kind := .array 11 .byte, interfaces := #[10, 3], accessFlags := 1041 }

/-- the primitive int -/
def k13 : Class := { plain "int" none with kind := .primitive 'I', accessFlags := 0x411 }
/-- [I -/
def k14 : Class := { plain "[I" (some 0) with kind := .array 13 .int, interfaces := #[10, 3], accessFlags := 1041 }

def heap : Heap := #[]
def classes : Array Class := #[k0, k1, k2, k3, k4, k5, k6, k7, k8, k9, k10, k11, k12, k13, k14]
def interned : List (Array UInt16 × Addr) := []
def slotsUsed : Nat := 0
def theMethod : MethodId := ⟨1, 2⟩
def args0 : Array Value := #[.int 5, .int 65, .int 1, .int 0]
def aboutOver (below : List Frame) : State where
  vm := { classes := classes, interned := interned.toArray }
  heap := heap
  slotsUsed := slotsUsed
  threads := #[{ frames := .invoking theMethod args0 :: below }]
def below0 : List Frame := [.native { method := ⟨0, 0⟩, args := #[] }]
def about1 : State := aboutOver below0
def p0 : Program := .bare "" "" ""
def e0 : Env := launch0.env 0 0 0
theorem w_frames : about1.frames = Frame.invoking theMethod args0 :: below0 := rfl
set_option maxRecDepth 65536 in
theorem w_args : argsFit about1.vm theMethod args0 = true := by decide +kernel
set_option maxRecDepth 65536 in
theorem w_heap : heapFits about1 = true := by decide +kernel
set_option maxRecDepth 65536 in
theorem w_runnable : about1.curStatus? = some .runnable := by decide +kernel
set_option maxRecDepth 65536 in
theorem w_alone : about1.alone = true := by decide +kernel
set_option maxRecDepth 65536 in
theorem w_named : about1.methodNamed? x = some theMethod := by decide +kernel
set_option maxRecDepth 65536 in
theorem w_hears : about1.hears theMethod below0 = true := by decide +kernel
set_option maxRecDepth 65536 in
theorem w_ripe : about1.ripe theMethod args0 below0 = true := by decide +kernel
theorem w_running : about1.status = .running := rfl
set_option maxRecDepth 65536 in
theorem w_room : about1.hasRoom e0.platform room_1 = true :=
  launch0.hasRoom_least _ room_1 (by decide +kernel) (by decide +kernel) (by decide +kernel) (by decide +kernel) (by decide +kernel) (by decide +kernel)
theorem allAtoms_all (ts : List Jvm.Cond) (a : Array Jvm.Value) (st : Jvm.State) : (allAtoms ts).before a st = ts.all (fun c => c.before a st) := by
  induction ts with
  | nil => rfl
  | cons c t ih =>
    show (Jvm.Cond.and c (allAtoms t)).before a st = _
    rw [Jvm.Cond.before_and, ih, List.all_cons]
def words1 : List Jvm.Cond := Jvm.Cond.code x code maxLocals ret :: tables_1
/-- a 'code' word, met by the world's own term for the bytes: nothing is compared byte by byte -/
theorem code_word {y : MethodName} {bytes : ByteArray} {mx : Nat} {rt : Option FieldType} {a : Array Value} {s : State} {m : MethodId} {meth : Method} {c : Code} (h1 : s.methodNamed? y = some m) (h2 : s.vm.method? m = some meth) (h3 : meth.code = some c) (h4 : c.code = bytes)
    (h5 : (c.maxLocals == mx && c.exceptionTable.isEmpty && decide (c.maxStack ≤ mostOperands) && decide (meth.sig.returnType = rt) && !meth.locks && decide (parseMethodDescriptor y.desc = some meth.sig)) = true) : (Jvm.Cond.code y bytes mx rt).before a s = true := by
  simp only [Bool.and_eq_true, beq_iff_eq, Bool.not_eq_true', decide_eq_true_eq] at h5
  obtain ⟨⟨⟨⟨⟨g1, g2⟩, g3⟩, g4⟩, g5⟩, g6⟩ := h5
  simp [Cond.before, Cond.holds, Cond.value, h1, h2, h3, h4, g1, g2, g3, g4, g5, g6]
def isCode : Jvm.Cond → Bool
  | .code _ _ _ _ => true
  | _ => false
theorem all_split {L : List Jvm.Cond} {P : Jvm.Cond → Bool} (h1 : L.all (fun c => isCode c || P c) = true) (h2 : ∀ c ∈ L.filter isCode, P c = true) : L.all P = true := by
  refine List.all_eq_true.mpr fun c hc => ?_
  have h := List.all_eq_true.mp h1 c hc
  rcases Bool.eq_false_or_eq_true (isCode c) with hi | hi
  · exact h2 c (List.mem_filter.mpr ⟨hc, hi⟩)
  · simpa [hi] using h
set_option maxRecDepth 65536 in
theorem w_c0 : (Jvm.Cond.code x code maxLocals ret).before args0 about1 = true := code_word (m := ⟨1, 2⟩) (meth := k1m2) (c := k1c2) (by decide +kernel) rfl rfl rfl (by decide +kernel)
set_option maxRecDepth 65536 in
theorem w_c1 : (Jvm.Cond.code ({ cls := "com/example/pathwarden/pathwarden/util/DerReader", name := "<init>", desc := "([B)V" } : Jvm.MethodName) prog_57_method_1_code (2 : Nat) (Option.none : Option Jvm.ClassFile.FieldType)).before args0 about1 = true := code_word (m := ⟨2, 0⟩) (meth := k2m0) (c := k2c0) (by decide +kernel) rfl rfl rfl (by decide +kernel)
set_option maxRecDepth 65536 in
theorem w_c2 : (Jvm.Cond.code ({ cls := "com/example/pathwarden/pathwarden/util/DerReader", name := "<init>", desc := "([BII)V" } : Jvm.MethodName) prog_57_method_2_code (4 : Nat) (Option.none : Option Jvm.ClassFile.FieldType)).before args0 about1 = true := code_word (m := ⟨2, 1⟩) (meth := k2m1) (c := k2c1) (by decide +kernel) rfl rfl rfl (by decide +kernel)
set_option maxRecDepth 65536 in
theorem w_c3 : (Jvm.Cond.code ({ cls := "java/lang/Object", name := "<init>", desc := "()V" } : Jvm.MethodName) object_method_1_code (1 : Nat) (Option.none : Option Jvm.ClassFile.FieldType)).before args0 about1 = true := code_word (m := ⟨0, 0⟩) (meth := k0m0) (c := k0c0) (by decide +kernel) rfl rfl rfl (by decide +kernel)
set_option maxRecDepth 65536 in
theorem w_c4 : (Jvm.Cond.code ({ cls := "com/example/pathwarden/pathwarden/util/DerReader", name := "requireEnd", desc := "()V" } : Jvm.MethodName) prog_57_method_7_code (1 : Nat) (Option.none : Option Jvm.ClassFile.FieldType)).before args0 about1 = true := code_word (m := ⟨2, 4⟩) (meth := k2m4) (c := k2c4) (by decide +kernel) rfl rfl rfl (by decide +kernel)
set_option maxRecDepth 65536 in
theorem w_c5 : (Jvm.Cond.code ({ cls := "com/example/pathwarden/pathwarden/util/DerReader", name := "hasNext", desc := "()Z" } : Jvm.MethodName) prog_57_method_3_code (1 : Nat) (Option.some Jvm.ClassFile.FieldType.boolean)).before args0 about1 = true := code_word (m := ⟨2, 2⟩) (meth := k2m2) (c := k2c2) (by decide +kernel) rfl rfl rfl (by decide +kernel)
set_option maxRecDepth 65536 in
theorem w_c6 : (Jvm.Cond.code ({ cls := "com/example/pathwarden/pathwarden/util/DerReaderRequireEndPinLaw", name := "tagOf", desc := "(I)B" } : Jvm.MethodName) method_2_code (2 : Nat) (Option.some Jvm.ClassFile.FieldType.byte)).before args0 about1 = true := code_word (m := ⟨1, 1⟩) (meth := k1m1) (c := k1c1) (by decide +kernel) rfl rfl rfl (by decide +kernel)
set_option maxRecDepth 65536 in
theorem w_c7 : (Jvm.Cond.code ({ cls := "com/example/pathwarden/pathwarden/util/DerReader", name := "next", desc := "()Lcom/example/pathwarden/pathwarden/util/DerReader$Element;" } : Jvm.MethodName) prog_57_method_5_code (7 : Nat) (Option.some (Jvm.ClassFile.FieldType.object "com/example/pathwarden/pathwarden/util/DerReader$Element"))).before args0 about1 = true := code_word (m := ⟨2, 3⟩) (meth := k2m3) (c := k2c3) (by decide +kernel) rfl rfl rfl (by decide +kernel)
set_option maxRecDepth 65536 in
theorem w_c8 : (Jvm.Cond.code ({ cls := "com/example/pathwarden/pathwarden/util/DerReader", name := "octet", desc := "(Ljava/lang/String;)I" } : Jvm.MethodName) prog_57_method_8_code (2 : Nat) (Option.some Jvm.ClassFile.FieldType.int)).before args0 about1 = true := code_word (m := ⟨2, 5⟩) (meth := k2m5) (c := k2c5) (by decide +kernel) rfl rfl rfl (by decide +kernel)
set_option maxRecDepth 65536 in
theorem w_c9 : (Jvm.Cond.code ({ cls := "com/example/pathwarden/pathwarden/util/DerReader$Element", name := "<init>", desc := "([BIIII)V" } : Jvm.MethodName) prog_58_method_1_code (6 : Nat) (Option.none : Option Jvm.ClassFile.FieldType)).before args0 about1 = true := code_word (m := ⟨9, 0⟩) (meth := k9m0) (c := k9c0) (by decide +kernel) rfl rfl rfl (by decide +kernel)
set_option maxRecDepth 65536 in
theorem w_c10 : (Jvm.Cond.code ({ cls := "com/example/pathwarden/pathwarden/util/DerReader$Element", name := "elements", desc := "()Lcom/example/pathwarden/pathwarden/util/DerReader;" } : Jvm.MethodName) prog_58_method_5_code (1 : Nat) (Option.some (Jvm.ClassFile.FieldType.object "com/example/pathwarden/pathwarden/util/DerReader"))).before args0 about1 = true := code_word (m := ⟨9, 1⟩) (meth := k9m1) (c := k9c1) (by decide +kernel) rfl rfl rfl (by decide +kernel)
def codes1 : List Jvm.Cond := [Jvm.Cond.code x code maxLocals ret, Jvm.Cond.code ({ cls := "com/example/pathwarden/pathwarden/util/DerReader", name := "<init>", desc := "([B)V" } : Jvm.MethodName) prog_57_method_1_code (2 : Nat) (Option.none : Option Jvm.ClassFile.FieldType), Jvm.Cond.code ({ cls := "com/example/pathwarden/pathwarden/util/DerReader", name := "<init>", desc := "([BII)V" } : Jvm.MethodName) prog_57_method_2_code (4 : Nat) (Option.none : Option Jvm.ClassFile.FieldType), Jvm.Cond.code ({ cls := "java/lang/Object", name := "<init>", desc := "()V" } : Jvm.MethodName) object_method_1_code (1 : Nat) (Option.none : Option Jvm.ClassFile.FieldType), Jvm.Cond.code ({ cls := "com/example/pathwarden/pathwarden/util/DerReader", name := "requireEnd", desc := "()V" } : Jvm.MethodName) prog_57_method_7_code (1 : Nat) (Option.none : Option Jvm.ClassFile.FieldType), Jvm.Cond.code ({ cls := "com/example/pathwarden/pathwarden/util/DerReader", name := "hasNext", desc := "()Z" } : Jvm.MethodName) prog_57_method_3_code (1 : Nat) (Option.some Jvm.ClassFile.FieldType.boolean), Jvm.Cond.code ({ cls := "com/example/pathwarden/pathwarden/util/DerReaderRequireEndPinLaw", name := "tagOf", desc := "(I)B" } : Jvm.MethodName) method_2_code (2 : Nat) (Option.some Jvm.ClassFile.FieldType.byte), Jvm.Cond.code ({ cls := "com/example/pathwarden/pathwarden/util/DerReader", name := "next", desc := "()Lcom/example/pathwarden/pathwarden/util/DerReader$Element;" } : Jvm.MethodName) prog_57_method_5_code (7 : Nat) (Option.some (Jvm.ClassFile.FieldType.object "com/example/pathwarden/pathwarden/util/DerReader$Element")), Jvm.Cond.code ({ cls := "com/example/pathwarden/pathwarden/util/DerReader", name := "octet", desc := "(Ljava/lang/String;)I" } : Jvm.MethodName) prog_57_method_8_code (2 : Nat) (Option.some Jvm.ClassFile.FieldType.int), Jvm.Cond.code ({ cls := "com/example/pathwarden/pathwarden/util/DerReader$Element", name := "<init>", desc := "([BIIII)V" } : Jvm.MethodName) prog_58_method_1_code (6 : Nat) (Option.none : Option Jvm.ClassFile.FieldType), Jvm.Cond.code ({ cls := "com/example/pathwarden/pathwarden/util/DerReader$Element", name := "elements", desc := "()Lcom/example/pathwarden/pathwarden/util/DerReader;" } : Jvm.MethodName) prog_58_method_5_code (1 : Nat) (Option.some (Jvm.ClassFile.FieldType.object "com/example/pathwarden/pathwarden/util/DerReader"))]
set_option maxRecDepth 65536 in
theorem codes_eq : words1.filter isCode = codes1 := rfl
theorem w_codes : ∀ c ∈ words1.filter isCode, c.before args0 about1 = true := by
  rw [codes_eq]
  intro c hc
  simp only [codes1, List.mem_cons, List.not_mem_nil, or_false] at hc
  rcases hc with rfl | rfl | rfl | rfl | rfl | rfl | rfl | rfl | rfl | rfl | rfl
  · exact w_c0
  · exact w_c1
  · exact w_c2
  · exact w_c3
  · exact w_c4
  · exact w_c5
  · exact w_c6
  · exact w_c7
  · exact w_c8
  · exact w_c9
  · exact w_c10
set_option maxRecDepth 65536 in
theorem w_t1 : (words1.take 24).all (fun c => isCode c || c.before args0 about1) = true := by decide +kernel
set_option maxRecDepth 65536 in
theorem w_t2 : ((words1.drop 24).take 24).all (fun c => isCode c || c.before args0 about1) = true := by decide +kernel
set_option maxRecDepth 65536 in
theorem w_t3 : (((words1.drop 24).drop 24).take 24).all (fun c => isCode c || c.before args0 about1) = true := by decide +kernel
set_option maxRecDepth 65536 in
theorem w_t4 : (((words1.drop 24).drop 24).drop 24).all (fun c => isCode c || c.before args0 about1) = true := by decide +kernel
theorem w_tables : (allAtoms (Jvm.Cond.code x code maxLocals ret :: tables_1)).before args0 about1 = true := by
  rw [allAtoms_all]
  show words1.all (fun c => c.before args0 about1) = true
  refine all_split ?_ w_codes
  rw [← List.take_append_drop 24 words1, List.all_append, w_t1, ← List.take_append_drop 24 (words1.drop 24), List.all_append, w_t2, ← List.take_append_drop 24 ((words1.drop 24).drop 24), List.all_append, w_t3, w_t4]
  rfl
set_option maxRecDepth 65536 in
theorem w_case : (Jvm.Cond.and given_1 narrow_1).before args0 about1 = true := by decide +kernel
theorem w_applies : (headSpec (Jvm.Cond.code x code maxLocals ret :: tables_1) room_1).applies x e0.platform about1 = true :=
  (Spec.applies_iff w_frames).mpr ⟨w_running, w_runnable, w_alone, w_named, w_hears, w_ripe, w_room, w_tables⟩
theorem atStart : AtStart classFile x code maxLocals ret World_1 tables_1 room_1 Calls_1 rest_1 Pre_1 launch0 p0 e0 about1 theMethod args0 below0 :=
  ⟨lists_1, trivial, launch0.admits_env _ _ _, launch0.least_env, fairChoices_fair.cas, fairChoices_fair.clock, w_frames, w_args, w_heap, w_applies, trivial, trivial, w_case⟩
end start1
theorem witness_1 : WitnessClaimed_1 := ⟨start1.p0, start1.e0, start1.about1, start1.theMethod, start1.args0, start1.below0, start1.atStart⟩
end Jvm.Pilot.@@N@@
