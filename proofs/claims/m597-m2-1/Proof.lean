import JvmDerived
import JvmDerived.Pilot.@@N@@Statement
import JvmDerived.Pilot.@@N@@Code
set_option linter.unusedVariables false
set_option linter.unusedSimpArgs false
namespace Jvm.Pilot.@@N@@
open Jvm Jvm.ClassFile Sem Op Lib Jvm.Free Jvm.Stand Jvm.LawKit Jvm.RoadKit Bundle Jvm.Pilot.@@N@@.Jvm.D
section OwnKit
variable {p : Program} {l : Launch} {e : Env} {R : Room} {s : State} {m : MethodId} {args : Array Value} {below : List Frame} {meth : Method} {c : Code} {T T' : State} {locs : List Loc} {cells slots kc ks : Nat} {g g' : JFrame} {Q : Option Value → Heap → List Loc → Prop} {Z : State} {h h' : Heap} {a0 : Array Value} {En : Outcome → State → List Loc → Nat → Nat → Prop}
/-- from this frame the run comes to the method's end and leaves what Q says -/
def own_Out (p : Program) (e : Env) (below : List Frame) (En : Outcome → State → List Loc → Nat → Nat → Prop) (T : State) (g : JFrame) (Q : Option Value → Heap → List Loc → Prop) (kc ks : Nat) : Prop :=
  ∃ (t : State) (o : Outcome), Steps p.tables e below (T.setTop g) t ∧ t.status = .running ∧ Ended t below o ∧ ∃ (v : Option Value) (L : List Loc), o = .returned v ∧ Q v t.heap L ∧ En o t L kc ks
theorem own_to (st : ∀ t, Steps p.tables e below (T'.setTop g') t → Steps p.tables e below (T.setTop g) t) (k : own_Out p e below En T' g' Q kc ks) : own_Out p e below En T g Q kc ks := by
  obtain ⟨t, o, h1, h2⟩ := k
  exact ⟨t, o, st t h1, h2⟩
theorem own_cast (q : g = g') (k : own_Out p e below En T g' Q kc ks) : own_Out p e below En T g Q kc ks := q ▸ k
/-- a method's contract: called with these arguments over this heap it returns, and Q says what it leaves -/
def own_C (l : Launch) (Z : State) (y : MethodName) (bytes : ByteArray) (maxL : Nat) (ret : Option FieldType) (rm : Room) (as' : Array Value) (h0 : Heap) (Q : Option Value → Heap → List Loc → Prop) : Prop :=
  ∀ ws : List Jvm.Cond, MetFree l y (head1 (Jvm.Cond.code y bytes maxL ret :: ws) rm) (fun a U => a = as' ∧ Z.Warmed39 U.vm ∧ U.heap = h0) (fun _ _ _ _ _ => True) (fun _ U o U' => ∃ v L, o = .returned v ∧ Q v U'.heap L ∧ FrameEnd U o U' L rm.cells rm.slots)
theorem own_met {y : MethodName} {bytes : ByteArray} {maxL : Nat} {ret : Option FieldType} {rm : Room} {as' : Array Value} {h0 : Heap} (pl : plainFor y = true)
    (body : ∀ (p : Program) (e : Env) (s : State) (m : MethodId) (below : List Frame) (meth : Method) (c : Code) (s₁ : State), p.tables.exec = Jvm.exec → c.code = bytes → c.maxLocals = maxL → meth.sig.returnType = ret → meth.locks = false → s.vm.findClass y.cls = some m.cls → meth.name = y.name → Z.Warmed39 s.vm → Stand p l e rm s m as' below meth c s₁ [] 0 0 → s₁.heap = h0 → own_Out p e below (FrameEnd s) s₁ (entryFrame m as' maxL) Q rm.cells rm.slots) :
    own_C l Z y bytes maxL ret rm as' h0 Q := by
  intro ws
  refine MetFree.of_bodySF pl hisR ?_
  intro p e s m args below meth c s₁ Bd hml0 hP hK
  obtain ⟨rfl, hZ, hh⟩ := hP
  exact body p e s m below meth c s₁ Bd.exec Bd.bytes hml0 Bd.returns (BodyLoose.notSynchronized Bd) (findClass_of_methodNamed Bd.named) ((name_of_methodNamed Bd.named Bd.method).1) hZ (Stand.of_body Bd) (by rw [← hh, Bd.state]; rfl)
/-! returns -/
theorem own_retV (X : Stand p l e R s m args below meth c T locs cells slots) (hx : p.tables.exec = Jvm.exec) (hlk : meth.locks = false) {pc : Nat} {Ls : Array Slot} {w : Value} {t : FieldType} {i : Instr} {rest : List Value} (hret : meth.sig.returnType = some t) (hn : narrow t w = w)
    (hi : (i = .ireturn ∧ (t = .int ∨ t = .boolean ∨ t = .byte ∨ t = .char ∨ t = .short) ∧ ∃ z, w = .int z) ∨ (i = .lreturn ∧ t = .long ∧ ∃ z, w = .long z) ∨ (i = .dreturn ∧ t = .double ∧ ∃ z, w = .double z) ∨ (i = .freturn ∧ t = .float ∧ ∃ z, w = .float z) ∨ (i = .areturn ∧ t.isReference = true ∧ w.isRef = true))
    (hd : decode c.code pc = .ok (i, 1)) (hc : cells ≤ kc) (hs : slots ≤ ks) (hQ : Q (some w) T.heap locs) : own_Out p e below (FrameEnd s) T (mkF m pc Ls (w :: rest)) Q kc ks := by
  obtain ⟨fs, hr, hrun, hended, hW, hsame⟩ := X.leave (v := some w) (fun h => by rw [hret] at h; cases h) hlk
  exact ⟨_, _, retOut X hx hret hn hi hd hr, hrun, hended, _, _, rfl, hQ, ⟨_, rfl⟩, hW, hsame.mono hc hs⟩
theorem own_retI (X : Stand p l e R s m args below meth c T locs cells slots) (hx : p.tables.exec = Jvm.exec) (hlk : meth.locks = false) (hret : meth.sig.returnType = some .int) {pc : Nat} {Ls : Array Slot} {z : Int32} {rest : List Value}
    (hd : decode c.code pc = .ok (.ireturn, 1)) (hc : cells ≤ kc) (hs : slots ≤ ks) (hQ : Q (some (.int z)) T.heap locs) : own_Out p e below (FrameEnd s) T (mkF m pc Ls (.int z :: rest)) Q kc ks :=
  own_retV X hx hlk hret rfl (Or.inl ⟨rfl, Or.inl rfl, _, rfl⟩) hd hc hs hQ
theorem own_retJ (X : Stand p l e R s m args below meth c T locs cells slots) (hx : p.tables.exec = Jvm.exec) (hlk : meth.locks = false) (hret : meth.sig.returnType = some .long) {pc : Nat} {Ls : Array Slot} {z : Int64} {rest : List Value}
    (hd : decode c.code pc = .ok (.lreturn, 1)) (hc : cells ≤ kc) (hs : slots ≤ ks) (hQ : Q (some (.long z)) T.heap locs) : own_Out p e below (FrameEnd s) T (mkF m pc Ls (.long z :: rest)) Q kc ks :=
  own_retV X hx hlk hret rfl (Or.inr (Or.inl ⟨rfl, rfl, _, rfl⟩)) hd hc hs hQ
theorem own_retA (X : Stand p l e R s m args below meth c T locs cells slots) (hx : p.tables.exec = Jvm.exec) (hlk : meth.locks = false) {t : FieldType} (hret : meth.sig.returnType = some t) (ht : t.isReference = true) {pc : Nat} {Ls : Array Slot} {z : Addr} {rest : List Value}
    (hd : decode c.code pc = .ok (.areturn, 1)) (hc : cells ≤ kc) (hs : slots ≤ ks) (hQ : Q (some (.ref z)) T.heap locs) : own_Out p e below (FrameEnd s) T (mkF m pc Ls (.ref z :: rest)) Q kc ks :=
  own_retV X hx hlk hret (by cases t <;> rfl) (Or.inr (Or.inr (Or.inr (Or.inr ⟨rfl, ht, rfl⟩)))) hd hc hs hQ
/-- a boolean, byte, char or short: the value is narrowed -/
theorem own_retN (X : Stand p l e R s m args below meth c T locs cells slots) (hx : p.tables.exec = Jvm.exec) (hlk : meth.locks = false) {t : FieldType} (hret : meth.sig.returnType = some t) (ht : t = .boolean ∨ t = .byte ∨ t = .char ∨ t = .short) {pc : Nat} {Ls : Array Slot} {z : Int32} {rest : List Value}
    (hd : decode c.code pc = .ok (.ireturn, 1)) (hc : cells ≤ kc) (hs : slots ≤ ks) (hQ : Q (some (.int (nar t z))) T.heap locs) : own_Out p e below (FrameEnd s) T (mkF m pc Ls (.int z :: rest)) Q kc ks := by
  obtain ⟨fs, hr, hrun, hended, hW, hsame⟩ := X.leave (v := some (.int (nar t z))) (fun h => by rw [hret] at h; cases h) hlk
  exact ⟨_, _, retN X hx hret ht hd hr, hrun, hended, _, _, rfl, hQ, ⟨_, rfl⟩, hW, hsame.mono hc hs⟩
theorem own_ret0 (X : Stand p l e R s m args below meth c T locs cells slots) (hx : p.tables.exec = Jvm.exec) (hlk : meth.locks = false) (hret : meth.sig.returnType = none) {pc : Nat} {Ls : Array Slot}
    (hd : decode c.code pc = .ok (.return_, 1)) (hc : cells ≤ kc) (hs : slots ≤ ks) (hQ : Q none T.heap locs) : own_Out p e below (FrameEnd s) T (mkF m pc Ls []) Q kc ks := by
  obtain ⟨fs, hr, hrun, hended, hW, hsame⟩ := X.leave (v := none) (fun _ => rfl) hlk
  exact ⟨_, _, X.returnOut hx hret hd hr, hrun, hended, _, _, rfl, hQ, ⟨_, rfl⟩, hW, hsame.mono hc hs⟩
/-! calls -/
theorem own_callS (X : Stand p l e R s m args below meth c T locs cells slots) (hx : p.tables.exec = Jvm.exec) (hZ : Z.Warmed39 s.vm) {own : String} (hown : s.vm.findClass own = some m.cls) {index : Nat} {y : MethodName} {bytes : ByteArray} {maxL : Nat} {ret : Option FieldType} {rm : Room} {W : Nat} {Qc : Option Value → Heap → List Loc → Prop} {argsL rest : List Value}
    (w1 : (Jvm.Cond.methodLink own index y).before a0 Z = true) (w2 : (Jvm.Cond.static y).before a0 Z = true) (w3 : (Jvm.Cond.initialized y.cls).before a0 Z = true) (w4 : (Jvm.Cond.code y bytes maxL ret).before a0 Z = true) (hy : y.cls ≠ "java/lang/invoke/MethodHandle" ∧ y.cls ≠ "java/lang/invoke/VarHandle")
    (hM : own_C l Z y bytes maxL ret rm argsL.toArray h Qc) (hf : rm.frames + 1 ≤ R.frames) (hl : W + (maxL + 11) + rm.locals ≤ R.locals) (eT : T.heap = h) (hg : g.method = m) (hsize : g.locals.size = c.maxLocals) (hlen : ∀ sig, parseMethodDescriptor y.desc = some sig → argsL.length = sig.parameters.length)
    (hstack : g.stack = argsL.reverse ++ rest) (hW : 2 * g.monitorRoom + (rest.map fun v => v.category).sum ≤ W) (hd : decode c.code g.pc = .ok (.invokestatic index, 3)) (hc : cells + rm.cells ≤ R.cells) (hs : slots + rm.slots ≤ R.slots)
    (k : ∀ (v : Option Value) (T' : State) (h' : Heap) (L : List Loc), Stand p l e R s m args below meth c T' (locs ++ L) (cells + rm.cells) (slots + rm.slots) → T'.heap = h' → Qc v h' L → own_Out p e below En T' { g with pc := g.pc + 3, stack := v.toList ++ rest } Q kc ks) : own_Out p e below En T g Q kc ks := by
  obtain ⟨v, _, ⟨T', L', k', n'⟩, -, X', ⟨Lc, hQ, l1, l2, l3⟩, st⟩ := Jvm.LawKit.callS X hx hown (mvT hZ w1) (mvT hZ w2) (mvT hZ w3) (mvT hZ w4) hy (backOf (W := W) (hM []) hZ w4 w3 hf hl) hg hsize hlen hstack hW hd (fun _ _ => ⟨rfl, eT, hc, hs⟩)
  dsimp only [Pt.U, Pt.locs, Pt.cells, Pt.slots] at X' l1 l2 l3 st hQ
  subst l1 l2 l3
  exact own_to st (k v T' _ Lc X' rfl hQ)
/-- a constructor -/
theorem own_callC (X : Stand p l e R s m args below meth c T locs cells slots) (hx : p.tables.exec = Jvm.exec) (hZ : Z.Warmed39 s.vm) {own : String} (hown : s.vm.findClass own = some m.cls) {index : Nat} {y : MethodName} {bytes : ByteArray} {maxL : Nat} {rm : Room} {W : Nat} {Qc : Option Value → Heap → List Loc → Prop} {a : Addr} {argsL rest : List Value}
    (hy1 : y.name = "<init>") (w1 : (Jvm.Cond.methodLink own index y).before a0 Z = true) (w2 : (Jvm.Cond.instanceMethod y).before a0 Z = true) (w3 : (Jvm.Cond.initialized y.cls).before a0 Z = true) (w4 : (Jvm.Cond.code y bytes maxL none).before a0 Z = true) (hy : y.cls ≠ "java/lang/invoke/MethodHandle" ∧ y.cls ≠ "java/lang/invoke/VarHandle")
    (hM : own_C l Z y bytes maxL none rm (.ref a :: argsL).toArray h Qc) (hf : rm.frames + 1 ≤ R.frames) (hl : W + (maxL + 11) + rm.locals ≤ R.locals) (eT : T.heap = h) (hg : g.method = m) (hsize : g.locals.size = c.maxLocals) (hlen : ∀ sig, parseMethodDescriptor y.desc = some sig → argsL.length = sig.parameters.length)
    (hstack : g.stack = argsL.reverse ++ .ref a :: rest) (hW : 2 * g.monitorRoom + (rest.map fun v => v.category).sum ≤ W) (hd : decode c.code g.pc = .ok (.invokespecial index, 3)) (hc : cells + rm.cells ≤ R.cells) (hs : slots + rm.slots ≤ R.slots)
    (k : ∀ (v : Option Value) (T' : State) (h' : Heap) (L : List Loc), Stand p l e R s m args below meth c T' (locs ++ L) (cells + rm.cells) (slots + rm.slots) → T'.heap = h' → Qc v h' L → own_Out p e below En T' { g with pc := g.pc + 3, stack := v.toList ++ rest } Q kc ks) : own_Out p e below En T g Q kc ks := by
  obtain ⟨v, _, ⟨T', L', k', n'⟩, -, X', ⟨Lc, hQ, l1, l2, l3⟩, st⟩ := X.specialBack hx hy1 hown (mvT hZ w1) (mvT hZ w2) (mvT hZ w4) hy (backOf (W := W) (hM []) hZ w4 w3 hf hl) hg hsize (Steps.refl _) hlen hstack hW hd (fun _ _ => ⟨rfl, eT, hc, hs⟩)
  dsimp only [Pt.U, Pt.locs, Pt.cells, Pt.slots] at X' l1 l2 l3 st hQ
  subst l1 l2 l3
  exact own_to (fun t k => st.trans k) (k v T' _ Lc X' rfl hQ)
/-- an instance method of the object's own class -/
theorem own_callV (X : Stand p l e R s m args below meth c T locs cells slots) (hx : p.tables.exec = Jvm.exec) (hZ : Z.Warmed39 s.vm) {own C : String} (hown : s.vm.findClass own = some m.cls) {index : Nat} {y : MethodName} {bytes : ByteArray} {maxL : Nat} {ret : Option FieldType} {rm : Room} {W : Nat} {Qc : Option Value → Heap → List Loc → Prop} {a : Addr} {argsL rest : List Value}
    (w1 : (Jvm.Cond.methodLink own index y).before a0 Z = true) (w5 : (Jvm.Cond.declares y).before a0 Z = true) (w6 : (Jvm.Cond.selects C y y).before a0 Z = true) (w2 : (Jvm.Cond.instanceMethod y).before a0 Z = true) (w3 : (Jvm.Cond.initialized y.cls).before a0 Z = true) (w4 : (Jvm.Cond.code y bytes maxL ret).before a0 Z = true) (hy : y.cls ≠ "java/lang/invoke/MethodHandle" ∧ y.cls ≠ "java/lang/invoke/VarHandle")
    (hM : own_C l Z y bytes maxL ret rm (.ref a :: argsL).toArray h Qc) (hf : rm.frames + 1 ≤ R.frames) (hl : W + (maxL + 11) + rm.locals ≤ R.locals) (eT : T.heap = h) (E : Exa Z h a C) (hg : g.method = m) (hsize : g.locals.size = c.maxLocals) (hlen : ∀ sig, parseMethodDescriptor y.desc = some sig → argsL.length = sig.parameters.length)
    (hstack : g.stack = argsL.reverse ++ .ref a :: rest) (hW : 2 * g.monitorRoom + (rest.map fun v => v.category).sum ≤ W) (hd : decode c.code g.pc = .ok (.invokevirtual index, 3)) (hc : cells + rm.cells ≤ R.cells) (hs : slots + rm.slots ≤ R.slots)
    (k : ∀ (v : Option Value) (T' : State) (h' : Heap) (L : List Loc), Stand p l e R s m args below meth c T' (locs ++ L) (cells + rm.cells) (slots + rm.slots) → T'.heap = h' → Qc v h' L → own_Out p e below En T' { g with pc := g.pc + 3, stack := v.toList ++ rest } Q kc ks) : own_Out p e below En T g Q kc ks := by
  obtain ⟨cq, kq, qa, qb, qc⟩ := isOf hZ eT E
  obtain ⟨v, _, ⟨T', L', k', n'⟩, -, X', ⟨Lc, hQ, l1, l2, l3⟩, st⟩ := X.virtualBack hx hown (mvT hZ w1) (mvT hZ w5) (notFace_of_selects (args := #[]) (mvT hZ w6)) (mvT hZ w6) (mvT hZ w2) hy (backOf (W := W) (hM []) hZ w4 w3 hf hl) qa qc hg hsize (Steps.refl _) hlen hstack hW hd (fun _ _ => ⟨rfl, eT, hc, hs⟩)
  dsimp only [Pt.U, Pt.locs, Pt.cells, Pt.slots] at X' l1 l2 l3 st hQ
  subst l1 l2 l3
  exact own_to (fun t k => st.trans k) (k v T' _ Lc X' rfl hQ)
/-- a private method of the object's own class, by invokevirtual -/
theorem own_callP (X : Stand p l e R s m args below meth c T locs cells slots) (hx : p.tables.exec = Jvm.exec) (hZ : Z.Warmed39 s.vm) {own C : String} (hown : s.vm.findClass own = some m.cls) {index kk : Nat} {y : MethodName} {bytes : ByteArray} {maxL : Nat} {ret : Option FieldType} {rm : Room} {W : Nat} {Qc : Option Value → Heap → List Loc → Prop} {a : Addr} {argsL rest : List Value}
    (w1 : (Jvm.Cond.methodLink own index y).before a0 Z = true) (w5 : (Jvm.Cond.privateMethod y).before a0 Z = true) (w6 : (Jvm.Cond.instantiable y.cls kk).before a0 Z = true) (w2 : (Jvm.Cond.instanceMethod y).before a0 Z = true) (w3 : (Jvm.Cond.initialized y.cls).before a0 Z = true) (w4 : (Jvm.Cond.code y bytes maxL ret).before a0 Z = true) (hy : y.cls ≠ "java/lang/invoke/MethodHandle" ∧ y.cls ≠ "java/lang/invoke/VarHandle")
    (hM : own_C l Z y bytes maxL ret rm (.ref a :: argsL).toArray h Qc) (hf : rm.frames + 1 ≤ R.frames) (hl : W + (maxL + 11) + rm.locals ≤ R.locals) (eT : T.heap = h) (E : Exa Z h a C) (hg : g.method = m) (hsize : g.locals.size = c.maxLocals) (hlen : ∀ sig, parseMethodDescriptor y.desc = some sig → argsL.length = sig.parameters.length)
    (hstack : g.stack = argsL.reverse ++ .ref a :: rest) (hW : 2 * g.monitorRoom + (rest.map fun v => v.category).sum ≤ W) (hd : decode c.code g.pc = .ok (.invokevirtual index, 3)) (hc : cells + rm.cells ≤ R.cells) (hs : slots + rm.slots ≤ R.slots)
    (k : ∀ (v : Option Value) (T' : State) (h' : Heap) (L : List Loc), Stand p l e R s m args below meth c T' (locs ++ L) (cells + rm.cells) (slots + rm.slots) → T'.heap = h' → Qc v h' L → own_Out p e below En T' { g with pc := g.pc + 3, stack := v.toList ++ rest } Q kc ks) : own_Out p e below En T g Q kc ks := by
  obtain ⟨cq, q, q'⟩ := E.cell
  have hp : s.PrivateAt y := Cond.privateMethod_at (mvP hZ w5 (args := #[]))
  obtain ⟨cy, ky, f1, f2, -, f3, -⟩ := Cond.instantiable_spec (mvT (args := args) hZ w6)
  have hi : ky.isInterface = false := (Bool.or_eq_false_iff.mp f3).1
  have hse : (Jvm.Cond.selects y.cls y y).before args s = true := selects_self_of_private f1 f2 hi hp (mvT hZ w2) hy
  obtain ⟨v, _, ⟨T', L', k', n'⟩, -, X', ⟨Lc, hQ, l1, l2, l3⟩, st⟩ := X.privateBack hx hown (mvT hZ w1) (mvT hZ w2) hse hp (mvT hZ w4) hy (backOf (W := W) (hM []) hZ w4 w3 hf hl) hg hsize (Steps.refl _) (by rw [eT]; exact q) q' hlen hstack hW hd (fun _ _ => ⟨rfl, eT, hc, hs⟩)
  dsimp only [Pt.U, Pt.locs, Pt.cells, Pt.slots] at X' l1 l2 l3 st hQ
  subst l1 l2 l3
  exact own_to (fun t k => st.trans k) (k v T' _ Lc X' rfl hQ)
/-! the heap's steps -/
theorem own_getF (X : Stand p l e R s m args below meth c T locs cells slots) (hx : p.tables.exec = Jvm.exec) (hZ : Z.Warmed39 s.vm) {own O n d : String} {index : Nat} (hown : s.vm.findClass own = some m.cls) (w : (Jvm.Cond.fieldLink own index O n d).before a0 Z = true) (eT : T.heap = h) {a : Addr} {v : Value} (F : Fld Z h a O n d v)
    (hg : g.method = m) {rest : List Value} (hs : g.stack = .ref a :: rest) (hd : decode c.code g.pc = .ok (.getfield index, 3)) (k : ∀ T', Stand p l e R s m args below meth c T' locs cells slots → T'.heap = h → own_Out p e below En T' { g with pc := g.pc + 3, stack := v :: rest } Q kc ks) : own_Out p e below En T g Q kc ks := by
  obtain ⟨T', X', e', st⟩ := getF X hx hZ hown (host := "") (Or.inl w) Via.refl eT F hg hs hd
  exact own_to st (k T' X' e')
theorem own_putF (X : Stand p l e R s m args below meth c T locs cells slots) (hx : p.tables.exec = Jvm.exec) (hZ : Z.Warmed39 s.vm) {own O n d C : String} {index kk : Nat} {ty : FieldType} (hown : s.vm.findClass own = some m.cls) (w : (Jvm.Cond.fieldLink own index O n d).before a0 Z = true) (eT : T.heap = h) {a : Addr} {v old : Value} (F : Fld Z h a O n d old) (E : Exa Z h a C)
    (L : (Jvm.Cond.lays C O n d).before a0 Z = true ∨ ((Jvm.Cond.laysFinal C O n d).before a0 Z = true ∧ own = O ∧ meth.name = "<init>")) (wi : (Jvm.Cond.instantiable C kk).before a0 Z = true) (hty : parseFieldDescriptor d = some ty) (hn : narrow ty v = v) (hf : fits ty v = true)
    (hg : g.method = m) {rest : List Value} (hs : g.stack = v :: .ref a :: rest) (hd : decode c.code g.pc = .ok (.putfield index, 3)) (k : ∀ T' h', Stand p l e R s m args below meth c T' (locs ++ [⟨a, Jvm.RoadKit.slotOf Z O n d⟩]) cells slots → T'.heap = h' → Wr h h' a (Jvm.RoadKit.slotOf Z O n d) v → own_Out p e below En T' { g with pc := g.pc + 3, stack := rest } Q kc ks) : own_Out p e below En T g Q kc ks := by
  obtain ⟨T', h', X', e', W', st⟩ := putF X hx hZ hown (host := "") (Or.inl w) Via.refl eT F E L wi hty hn hf hg hs hd
  exact own_to st (k T' h' X' e' W')
theorem own_new (X : Stand p l e R s m args below meth c T locs cells slots) (hx : p.tables.exec = Jvm.exec) (hZ : Z.Warmed39 s.vm) {own C : String} {index n : Nat} (hown : s.vm.findClass own = some m.cls) (w : (Jvm.Cond.classLink own index C).before a0 Z = true) (wi : (Jvm.Cond.instantiable C n).before a0 Z = true) (wz : (Jvm.Cond.initialized C).before a0 Z = true) (eT : T.heap = h)
    (hg : g.method = m) (hd : decode c.code g.pc = .ok (.new index, 3)) (hc : cells + 1 ≤ R.cells) (hl : slots + n ≤ R.slots)
    (k : ∀ T' h' a, a = h.size → Stand p l e R s m args below meth c T' locs (cells + 1) (slots + n) → T'.heap = h' → Ext h h' → Exa Z h' a C → (∀ {O nm d : String} {ty : FieldType}, Laid Z a0 C O nm d → parseFieldDescriptor d = some ty → Fld Z h' a O nm d (defaultValue ty)) → own_Out p e below En T' { g with pc := g.pc + 3, stack := .ref a :: g.stack } Q kc ks) : own_Out p e below En T g Q kc ks := by
  obtain ⟨T', h', X', e', E', A', D', -, st⟩ := newO X hx hZ hown w wi wz eT hg hd hc hl
  exact own_to st (k T' h' _ rfl X' e' E' A' D')
/-! arrays of ints, bytes, booleans: how many places, and what each holds -/
def own_upd (f : Nat → Int32) (j : Nat) (x : Int32) : Nat → Int32 := fun i => if i = j then x else f i
def own_A (Z : State) (h : Heap) (a : Addr) (ty : FieldType) (n : Nat) (f : Nat → Int32) : Prop := ∃ cl : Cell, Arr Z h a cl ty ∧ cl.slots.size = n ∧ ∀ j, j < n → cl.slots[j]? = some (.int (f j))
variable {a b : Addr} {ty : FieldType} {n : Nat} {f : Nat → Int32} {ws : List Addr} {v : Value} {sl : Nat}
theorem own_A.lt (F : own_A Z h a ty n f) : a < h.size := by obtain ⟨_, A, -⟩ := F; exact A.lt
theorem own_A.ext (F : own_A Z h a ty n f) (E : Ext h h') : own_A Z h' a ty n f := by obtain ⟨cl, A, r⟩ := F; exact ⟨cl, A.ext E, r⟩
theorem own_A.other (F : own_A Z h b ty n f) (W : Wr h h' a sl v) (q : b ≠ a) : own_A Z h' b ty n f := by obtain ⟨cl, A, r⟩ := F; exact ⟨cl, A.other W q, r⟩
theorem own_A.keep (F : own_A Z h a ty n f) (K : Keep h h' ws) (q : a ∉ ws) : own_A Z h' a ty n f := by obtain ⟨cl, A, r⟩ := F; exact ⟨cl, ⟨K.2.1 a cl A.1 q, A.2⟩, r⟩
theorem own_A.congr {f' : Nat → Int32} (F : own_A Z h a ty n f) (q : ∀ j, j < n → f j = f' j) : own_A Z h a ty n f' := by obtain ⟨cl, A, r1, r2⟩ := F; exact ⟨cl, A, r1, fun j hj => by rw [r2 j hj, q j hj]⟩
theorem own_A.set {cl : Cell} {j : Nat} {x : Int32} (A : Arr Z h a cl ty) (q1 : cl.slots.size = n) (q2 : ∀ j, j < n → cl.slots[j]? = some (.int (f j))) (W : Wr h h' a j (.int x)) (hj : j < n) : own_A Z h' a ty n (own_upd f j x) := by
  refine ⟨_, A.same W, by rw [sz_set, q1], fun i hi => ?_⟩
  simp only [Cell.setSlot, Array.getElem?_setIfInBounds, own_upd]
  by_cases e : j = i
  · subst e
    simp [q1, hj]
  · rw [if_neg e, q2 i hi, if_neg (fun q => e q.symm)]
theorem own_in {j : Int32} {N : Nat} (h0 : ¬ j < 0) (h1 : j.toNatClampNeg < N) : ¬ (j < 0 ∨ N ≤ j.toNatClampNeg) := fun q => q.elim h0 (fun r => Nat.not_lt.mpr r h1)
theorem own_stI (X : Stand p l e R s m args below meth c T locs cells slots) (hx : p.tables.exec = Jvm.exec) (hZ : Z.Warmed39 s.vm) (eT : T.heap = h) (F : own_A Z h a .int n f) {j x : Int32} (h0 : ¬ j < 0) (h1 : j.toNatClampNeg < n) (hg : g.method = m) {rest : List Value} (hs : g.stack = .int x :: .int j :: .ref a :: rest) (hd : decode c.code g.pc = .ok (.iastore, 1))
    (k : ∀ T' h', Stand p l e R s m args below meth c T' (locs ++ [⟨a, j.toNatClampNeg⟩]) cells slots → T'.heap = h' → Wr h h' a j.toNatClampNeg (.int x) → own_A Z h' a .int n (own_upd f j.toNatClampNeg x) → own_Out p e below En T' { g with pc := g.pc + 1, stack := rest } Q kc ks) : own_Out p e below En T g Q kc ks := by
  obtain ⟨cl, A, q1, q2⟩ := F
  obtain ⟨T', h', X', e', W', st⟩ := stI X hx hZ eT A (own_in h0 (by rw [q1]; exact h1)) hg hs hd
  exact own_to st (k T' h' X' e' W' (own_A.set A q1 q2 W' h1))
theorem own_stZ (X : Stand p l e R s m args below meth c T locs cells slots) (hx : p.tables.exec = Jvm.exec) (hZ : Z.Warmed39 s.vm) (eT : T.heap = h) (F : own_A Z h a .boolean n f) {j x : Int32} (h0 : ¬ j < 0) (h1 : j.toNatClampNeg < n) (hg : g.method = m) {rest : List Value} (hs : g.stack = .int x :: .int j :: .ref a :: rest) (hd : decode c.code g.pc = .ok (.bastore, 1))
    (k : ∀ T' h', Stand p l e R s m args below meth c T' (locs ++ [⟨a, j.toNatClampNeg⟩]) cells slots → T'.heap = h' → Wr h h' a j.toNatClampNeg (.int (nar .boolean x)) → own_A Z h' a .boolean n (own_upd f j.toNatClampNeg (nar .boolean x)) → own_Out p e below En T' { g with pc := g.pc + 1, stack := rest } Q kc ks) : own_Out p e below En T g Q kc ks := by
  obtain ⟨cl, A, q1, q2⟩ := F
  obtain ⟨T', h', X', e', W', st⟩ := stZ X hx hZ eT A (own_in h0 (by rw [q1]; exact h1)) hg hs hd
  exact own_to st (k T' h' X' e' W' (own_A.set A q1 q2 W' h1))
theorem own_stB (X : Stand p l e R s m args below meth c T locs cells slots) (hx : p.tables.exec = Jvm.exec) (hZ : Z.Warmed39 s.vm) (eT : T.heap = h) (F : own_A Z h a .byte n f) {j x : Int32} (h0 : ¬ j < 0) (h1 : j.toNatClampNeg < n) (hg : g.method = m) {rest : List Value} (hs : g.stack = .int x :: .int j :: .ref a :: rest) (hd : decode c.code g.pc = .ok (.bastore, 1))
    (k : ∀ T' h', Stand p l e R s m args below meth c T' (locs ++ [⟨a, j.toNatClampNeg⟩]) cells slots → T'.heap = h' → Wr h h' a j.toNatClampNeg (.int (nar .byte x)) → own_A Z h' a .byte n (own_upd f j.toNatClampNeg (nar .byte x)) → own_Out p e below En T' { g with pc := g.pc + 1, stack := rest } Q kc ks) : own_Out p e below En T g Q kc ks := by
  obtain ⟨cl, A, q1, q2⟩ := F
  obtain ⟨T', h', X', e', W', st⟩ := stB X hx hZ eT A (own_in h0 (by rw [q1]; exact h1)) hg hs hd
  exact own_to st (k T' h' X' e' W' (own_A.set A q1 q2 W' h1))
theorem own_newA (X : Stand p l e R s m args below meth c T locs cells slots) (hx : p.tables.exec = Jvm.exec) (hZ : Z.Warmed39 s.vm) {aty : ArrayType} (w : (Jvm.Cond.arrayClass (newarray.typeOf aty)).before a0 Z = true) (hdef : defaultValue (newarray.typeOf aty) = .int 0) (eT : T.heap = h) (hg : g.method = m) (hd : decode c.code g.pc = .ok (.newarray aty, 2)) {N : Int32} {rest : List Value} (hs : g.stack = .int N :: rest)
    (hn : ¬ N < 0) {cap : Nat} (hcap : N.toNatClampNeg ≤ cap) (hb : cap * 8 ≤ 536870912) (hc : cells + 1 ≤ R.cells) (hl : slots + cap ≤ R.slots)
    (k : ∀ T' h' a, a = h.size → Stand p l e R s m args below meth c T' locs (cells + 1) (slots + cap) → T'.heap = h' → Ext h h' → own_A Z h' a (newarray.typeOf aty) N.toNatClampNeg (fun _ => 0) → own_Out p e below En T' { g with pc := g.pc + 2, stack := .ref a :: rest } Q kc ks) : own_Out p e below En T g Q kc ks := by
  obtain ⟨T', h', cA, X', e', E', A', st⟩ := newP X hx hZ w eT hg hd hs hn hcap hb hc hl
  refine own_to st (k T' h' _ rfl X' e' E' ⟨_, A', sz_new _ _ _, fun j hj => ?_⟩)
  simp [newA, hdef, hj]
theorem own_len (X : Stand p l e R s m args below meth c T locs cells slots) (hx : p.tables.exec = Jvm.exec) (hZ : Z.Warmed39 s.vm) (eT : T.heap = h) (F : own_A Z h a ty n f) (hg : g.method = m) {rest : List Value} (hs : g.stack = .ref a :: rest) (hd : decode c.code g.pc = .ok (.arraylength, 1))
    (k : own_Out p e below En T { g with pc := g.pc + 1, stack := .int n.toInt32 :: rest } Q kc ks) : own_Out p e below En T g Q kc ks := by
  obtain ⟨cl, A, q1, q2⟩ := F
  subst q1
  exact own_to (X.arraylength hx (by rw [eT]; exact A.1) (State.isArrayOf_alike hZ.alike A.2.1) hg hs hd) k
theorem own_ldI (X : Stand p l e R s m args below meth c T locs cells slots) (hx : p.tables.exec = Jvm.exec) (hZ : Z.Warmed39 s.vm) (eT : T.heap = h) (F : own_A Z h a .int n f) {j : Int32} (h0 : ¬ j < 0) (h1 : j.toNatClampNeg < n) (hg : g.method = m) {rest : List Value} (hs : g.stack = .int j :: .ref a :: rest) (hd : decode c.code g.pc = .ok (.iaload, 1))
    (k : ∀ w : Int32, w = f j.toNatClampNeg → own_Out p e below En T { g with pc := g.pc + 1, stack := .int w :: rest } Q kc ks) : own_Out p e below En T g Q kc ks := by
  obtain ⟨cl, A, q1, q2⟩ := F
  exact own_to (X.iaload hx (by rw [eT]; exact A.1) (State.isArrayOf_alike hZ.alike A.2.1) A.2.2 (own_in h0 (by rw [q1]; exact h1)) (q2 _ h1) hg hs hd) (k _ rfl)
theorem own_ldZ (X : Stand p l e R s m args below meth c T locs cells slots) (hx : p.tables.exec = Jvm.exec) (hZ : Z.Warmed39 s.vm) (eT : T.heap = h) (F : own_A Z h a .boolean n f) {j : Int32} (h0 : ¬ j < 0) (h1 : j.toNatClampNeg < n) (hg : g.method = m) {rest : List Value} (hs : g.stack = .int j :: .ref a :: rest) (hd : decode c.code g.pc = .ok (.baload, 1))
    (k : ∀ w : Int32, w = f j.toNatClampNeg → own_Out p e below En T { g with pc := g.pc + 1, stack := .int w :: rest } Q kc ks) : own_Out p e below En T g Q kc ks := by
  obtain ⟨cl, A, q1, q2⟩ := F
  exact own_to (X.baloadBooleans hx (by rw [eT]; exact A.1) (State.isArrayOf_alike hZ.alike A.2.1) A.2.2 (own_in h0 (by rw [q1]; exact h1)) (q2 _ h1) hg hs hd) (k _ rfl)
theorem own_ldB (X : Stand p l e R s m args below meth c T locs cells slots) (hx : p.tables.exec = Jvm.exec) (hZ : Z.Warmed39 s.vm) (eT : T.heap = h) (F : own_A Z h a .byte n f) {j : Int32} (h0 : ¬ j < 0) (h1 : j.toNatClampNeg < n) (hg : g.method = m) {rest : List Value} (hs : g.stack = .int j :: .ref a :: rest) (hd : decode c.code g.pc = .ok (.baload, 1))
    (k : ∀ w : Int32, w = f j.toNatClampNeg → own_Out p e below En T { g with pc := g.pc + 1, stack := .int w :: rest } Q kc ks) : own_Out p e below En T g Q kc ks := by
  obtain ⟨cl, A, q1, q2⟩ := F
  exact own_to (X.baloadBytes hx (by rw [eT]; exact A.1) (State.isArrayOf_alike hZ.alike A.2.1) A.2.2 (own_in h0 (by rw [q1]; exact h1)) (q2 _ h1) hg hs hd) (k _ rfl)
theorem own_idx (x n : Int32) (N : Nat) (hn : n.toInt = (N : Int)) (h0 : 0 < N) : ¬ ((x &&& (2147483647 : Int32)) % n < 0) ∧ ((x &&& (2147483647 : Int32)) % n).toNatClampNeg < N := by
  have h1 := c_mask x 2147483647 31 (by decide) (by decide)
  have h2 := c_irem (x &&& 2147483647) n N hn
  have k : (0 : Int32).toInt = 0 := by decide
  have h3 : ¬ ((x &&& (2147483647 : Int32)) % n < 0) := by
    rw [Int32.lt_iff_toInt_lt, k, h2.1 (by omega)]
    have := Int.emod_nonneg (x &&& 2147483647).toInt (show (N : Int) ≠ 0 by omega)
    omega
  have h4 := nat_of h3
  have h5 := Int.emod_lt_of_pos (x &&& 2147483647).toInt (show (0 : Int) < N by omega)
  rw [h2.1 (by omega)] at h4
  exact ⟨h3, by omega⟩
theorem own_fs {k : Nat} {L : List Loc} (N : Fr k L) (q : k ≤ a) : Fr k (L ++ [⟨a, sl⟩]) := N.app fun y hy => by cases List.mem_singleton.mp hy; exact q
end OwnKit
theorem d2_0 : decode jdk_30_method_1_code 0 = .ok (.aload_n 0, 1) := by decide +kernel
theorem d2_1 : decode jdk_30_method_1_code 1 = .ok (.invokespecial 1, 3) := by decide +kernel
theorem d2_4 : decode jdk_30_method_1_code 4 = .ok (.return_, 1) := by decide +kernel
theorem pn_0 : plainName "java/lang/Record" = true := by first | (simp [plainName, overriddenIn]; done) | decide +kernel
theorem ef_2 (m : MethodId) (o0 : Addr) : entryFrame m #[(.ref o0)] 1 = mkF m 0 #[.val (.ref o0)] [] := by first | (simp [entryFrame, mkF, argsToLocals, Value.category]; done) | rfl
def Q2 (Z : State) (o0 : Addr) (h0 : Heap) (n0 : Nat) (v : Option Value) (h : Heap) (L : List Loc) : Prop := v = none ∧ Fr n0 L ∧ h = h0
set_option maxRecDepth 65536 in
set_option maxHeartbeats 40000000 in
theorem rm2 (l : Launch) (Z : State) (a0 : Array Value) (hw : ∀ d ∈ tables_1, d.before a0 Z = true) (o0 : Addr) (h0 : Heap) (n0 : Nat) (Z0 : n0 ≤ h0.size) :
    own_C l Z (⟨"java/lang/Record", "<init>", "()V"⟩ : MethodName) jdk_30_method_1_code 1 none ({ frames := 1, cells := 0, slots := 0, locals := 12 } : Room) #[(.ref o0)] h0 (Q2 Z o0 h0 n0) := by
  refine own_met (plainFor_of_name pn_0) ?_
  intro p e s m below meth c s₁ hx hby hml hret hlk hown hnm hZ X0 e0
  refine own_cast (ef_2 m o0) ?_
  have N0 := Fr.nil n0
  show own_Out p e below _ s₁ (mkF m 0 #[.val (.ref o0)] []) _ _ _
  refine own_to (fun t k => XS.aloadN X0.here hx rfl (hb hby d2_0) rfl rfl k) ?_
  show own_Out p e below _ s₁ (mkF m 1 #[.val (.ref o0)] [(.ref o0)]) _ _ _
  obtain ⟨T1, X1, e1, st1⟩ := initO X0 hx hZ hown (hw _ (List.mem_of_getElem? (i := 15) rfl)) (hw _ (List.mem_of_getElem? (i := 16) rfl)) (hw _ (List.mem_of_getElem? (i := 17) rfl)) e0 (g := (mkF m 1 #[.val (.ref o0)] [(.ref o0)])) rfl (by rw [hml]; rfl) rfl (hb hby d2_1) (by decide) (W := 0) (by show 2 * 0 + _ ≤ _; exact Nat.le_of_eq rfl) (by decide)
  refine own_to st1 ?_
  show own_Out p e below _ T1 (mkF m 4 #[.val (.ref o0)] []) _ _ _
  refine own_ret0 X1 hx hlk hret (hb hby d2_4) (by decide) (by decide) ?_
  rw [e1]
  exact ⟨rfl, N0, rfl⟩
theorem d1_0 : decode prog_8_method_1_code 0 = .ok (.aload_n 0, 1) := by decide +kernel
theorem d1_1 : decode prog_8_method_1_code 1 = .ok (.invokespecial 1, 3) := by decide +kernel
theorem d1_4 : decode prog_8_method_1_code 4 = .ok (.aload_n 0, 1) := by decide +kernel
theorem d1_5 : decode prog_8_method_1_code 5 = .ok (.lload_n 1, 1) := by decide +kernel
theorem d1_6 : decode prog_8_method_1_code 6 = .ok (.putfield 7, 3) := by decide +kernel
theorem d1_9 : decode prog_8_method_1_code 9 = .ok (.aload_n 0, 1) := by decide +kernel
theorem d1_10 : decode prog_8_method_1_code 10 = .ok (.iload_n 3, 1) := by decide +kernel
theorem d1_11 : decode prog_8_method_1_code 11 = .ok (.putfield 13, 3) := by decide +kernel
theorem d1_14 : decode prog_8_method_1_code 14 = .ok (.return_, 1) := by decide +kernel
theorem pn_1 : plainName "com/example/hemlock_gorge/hemlockgorge/CuckooFilterSize" = true := by first | (simp [plainName, overriddenIn]; done) | decide +kernel
theorem ef_1 (m : MethodId) (o0 : Addr) (u1 : Int64) (u2 : Int32) : entryFrame m #[(.ref o0), (.long u1), (.int u2)] 4 = mkF m 0 #[.val (.ref o0), .val (.long u1), .second, .val (.int u2)] [] := by first | (simp [entryFrame, mkF, argsToLocals, Value.category]; done) | rfl
def Q1 (Z : State) (o0 : Addr) (u1 : Int64) (u2 : Int32) (h0 : Heap) (n0 : Nat) (v : Option Value) (h : Heap) (L : List Loc) : Prop := v = none ∧ Fr n0 L ∧ Keep h0 h [o0] ∧ Fld Z h o0 "com/example/hemlock_gorge/hemlockgorge/CuckooFilterSize" "bucketCount" "J" (.long u1) ∧ Fld Z h o0 "com/example/hemlock_gorge/hemlockgorge/CuckooFilterSize" "fingerprintBits" "I" (.int u2)
theorem pd_0 : parseMethodDescriptor "()V" = some ⟨[], none⟩ := by decide +kernel
set_option maxRecDepth 65536 in
set_option maxHeartbeats 40000000 in
theorem rm1 (l : Launch) (Z : State) (a0 : Array Value) (hw : ∀ d ∈ tables_1, d.before a0 Z = true) (o0 : Addr) (u1 : Int64) (u2 : Int32) (h0 : Heap) (n0 : Nat) (Z0 : n0 ≤ h0.size) (E_o0 : Exa Z h0 o0 "com/example/hemlock_gorge/hemlockgorge/CuckooFilterSize") (F_o0_bucketCount : Fld Z h0 o0 "com/example/hemlock_gorge/hemlockgorge/CuckooFilterSize" "bucketCount" "J" (.long (0 : Int64))) (F_o0_fingerprintBits : Fld Z h0 o0 "com/example/hemlock_gorge/hemlockgorge/CuckooFilterSize" "fingerprintBits" "I" (.int (0 : Int32))) (g_o0 : n0 ≤ o0) :
    own_C l Z (⟨"com/example/hemlock_gorge/hemlockgorge/CuckooFilterSize", "<init>", "(JI)V"⟩ : MethodName) prog_8_method_1_code 4 none ({ frames := 2, cells := 0, slots := 0, locals := 24 } : Room) #[(.ref o0), (.long u1), (.int u2)] h0 (Q1 Z o0 u1 u2 h0 n0) := by
  refine own_met (plainFor_of_name pn_1) ?_
  intro p e s m below meth c s₁ hx hby hml hret hlk hown hnm hZ X0 e0
  refine own_cast (ef_1 m o0 u1 u2) ?_
  have N0 := Fr.nil n0
  have K := Keep.refl h0 [o0]
  show own_Out p e below _ s₁ (mkF m 0 #[.val (.ref o0), .val (.long u1), .second, .val (.int u2)] []) _ _ _
  refine own_to (fun t k => XS.aloadN X0.here hx rfl (hb hby d1_0) rfl rfl k) ?_
  show own_Out p e below _ s₁ (mkF m 1 #[.val (.ref o0), .val (.long u1), .second, .val (.int u2)] [(.ref o0)]) _ _ _
  refine own_callC X0 hx hZ hown (a := o0) (argsL := []) (rest := []) rfl (hw _ (List.mem_of_getElem? (i := 10) rfl)) (hw _ (List.mem_of_getElem? (i := 11) rfl)) (hw _ (List.mem_of_getElem? (i := 13) rfl)) (hw _ (List.mem_of_getElem? (i := 14) rfl)) (by decide) (rm2 l Z a0 hw o0 h0 n0 Z0 ) (by decide) (by decide) e0 rfl (by rw [hml]; rfl) (lenOf pd_0 rfl) rfl (W := 0) (by show 2 * 0 + _ ≤ _; exact Nat.le_of_eq rfl) (hb hby d1_1) (by decide) (by decide) fun v1 T1 hh1 L1 X1 e1 hQ1 => ?_
  obtain ⟨rfl, NL1, he1⟩ := hQ1
  replace e1 := e1.trans he1
  have N1 := Fr.app N0 NL1
  show own_Out p e below _ T1 (mkF m 4 #[.val (.ref o0), .val (.long u1), .second, .val (.int u2)] []) _ _ _
  refine own_to (fun t k => XS.aloadN X1.here hx rfl (hb hby d1_4) rfl rfl k) ?_
  show own_Out p e below _ T1 (mkF m 5 #[.val (.ref o0), .val (.long u1), .second, .val (.int u2)] [(.ref o0)]) _ _ _
  refine own_to (fun t k => XS.lloadN X1.here hx rfl (hb hby d1_5) rfl k) ?_
  show own_Out p e below _ T1 (mkF m 6 #[.val (.ref o0), .val (.long u1), .second, .val (.int u2)] [(.long u1), (.ref o0)]) _ _ _
  refine own_putF X1 hx hZ hown (hw _ (List.mem_of_getElem? (i := 18) rfl)) e1 F_o0_bucketCount E_o0 (Or.inr ⟨(hw _ (List.mem_of_getElem? (i := 19) rfl)), rfl, hnm⟩) (hw _ (List.mem_of_getElem? (i := 5) rfl)) (ty := .long) (by decide) rfl rfl rfl rfl (hb hby d1_6) fun T2 hh2 X2 e2 W2 => ?_
  have E_o0 := E_o0.wr W2
  have F_o0_bucketCount := F_o0_bucketCount.same W2
  have F_o0_fingerprintBits := F_o0_fingerprintBits.other W2 (Or.inr (slot_ne (Or.inr (hw _ (List.mem_of_getElem? (i := 21) rfl))) (Or.inr (hw _ (List.mem_of_getElem? (i := 19) rfl))) (by decide) (t := .int) (t' := .long) (by decide) (by decide)))
  have K := K.wr W2 (Or.inl (by simp))
  have Z0 := Nat.le_trans Z0 (Nat.le_of_eq W2.size.symm)
  have N2 := own_fs (sl := Jvm.RoadKit.slotOf Z "com/example/hemlock_gorge/hemlockgorge/CuckooFilterSize" "bucketCount" "J") N1 g_o0
  show own_Out p e below _ T2 (mkF m 9 #[.val (.ref o0), .val (.long u1), .second, .val (.int u2)] []) _ _ _
  refine own_to (fun t k => XS.aloadN X2.here hx rfl (hb hby d1_9) rfl rfl k) ?_
  show own_Out p e below _ T2 (mkF m 10 #[.val (.ref o0), .val (.long u1), .second, .val (.int u2)] [(.ref o0)]) _ _ _
  refine own_to (fun t k => XS.iloadN X2.here hx rfl (hb hby d1_10) rfl k) ?_
  show own_Out p e below _ T2 (mkF m 11 #[.val (.ref o0), .val (.long u1), .second, .val (.int u2)] [(.int u2), (.ref o0)]) _ _ _
  refine own_putF X2 hx hZ hown (hw _ (List.mem_of_getElem? (i := 20) rfl)) e2 F_o0_fingerprintBits E_o0 (Or.inr ⟨(hw _ (List.mem_of_getElem? (i := 21) rfl)), rfl, hnm⟩) (hw _ (List.mem_of_getElem? (i := 5) rfl)) (ty := .int) (by decide) rfl rfl rfl rfl (hb hby d1_11) fun T3 hh3 X3 e3 W3 => ?_
  have E_o0 := E_o0.wr W3
  have F_o0_bucketCount := F_o0_bucketCount.other W3 (Or.inr (slot_ne (Or.inr (hw _ (List.mem_of_getElem? (i := 19) rfl))) (Or.inr (hw _ (List.mem_of_getElem? (i := 21) rfl))) (by decide) (t := .long) (t' := .int) (by decide) (by decide)))
  have F_o0_fingerprintBits := F_o0_fingerprintBits.same W3
  have K := K.wr W3 (Or.inl (by simp))
  have Z0 := Nat.le_trans Z0 (Nat.le_of_eq W3.size.symm)
  have N3 := own_fs (sl := Jvm.RoadKit.slotOf Z "com/example/hemlock_gorge/hemlockgorge/CuckooFilterSize" "fingerprintBits" "I") N2 g_o0
  show own_Out p e below _ T3 (mkF m 14 #[.val (.ref o0), .val (.long u1), .second, .val (.int u2)] []) _ _ _
  refine own_ret0 X3 hx hlk hret (hb hby d1_14) (by decide) (by decide) ?_
  rw [e3]
  exact ⟨rfl, N3, K, F_o0_bucketCount, F_o0_fingerprintBits⟩
theorem d4_0 : decode prog_8_method_3_code 0 = .ok (.aload_n 0, 1) := by decide +kernel
theorem d4_1 : decode prog_8_method_3_code 1 = .ok (.getfield 7, 3) := by decide +kernel
theorem d4_4 : decode prog_8_method_3_code 4 = .ok (.ldc2_w 62, 3) := by decide +kernel
theorem d4_7 : decode prog_8_method_3_code 7 = .ok (.lmul, 1) := by decide +kernel
theorem d4_8 : decode prog_8_method_3_code 8 = .ok (.aload_n 0, 1) := by decide +kernel
theorem d4_9 : decode prog_8_method_3_code 9 = .ok (.getfield 13, 3) := by decide +kernel
theorem d4_12 : decode prog_8_method_3_code 12 = .ok (.i2l, 1) := by decide +kernel
theorem d4_13 : decode prog_8_method_3_code 13 = .ok (.lmul, 1) := by decide +kernel
theorem d4_14 : decode prog_8_method_3_code 14 = .ok (.lreturn, 1) := by decide +kernel
theorem ef_4 (m : MethodId) (o0 : Addr) : entryFrame m #[(.ref o0)] 1 = mkF m 0 #[.val (.ref o0)] [] := by first | (simp [entryFrame, mkF, argsToLocals, Value.category]; done) | rfl
def Q4 (Z : State) (o0 : Addr) (f1 : Int64) (f2 : Int32) (h0 : Heap) (n0 : Nat) (v : Option Value) (h : Heap) (L : List Loc) : Prop := v = some (.long ((f1 * (4 : Int64)) * (f2.toInt64))) ∧ Fr n0 L ∧ h = h0
set_option maxRecDepth 65536 in
set_option maxHeartbeats 40000000 in
theorem rm4 (l : Launch) (Z : State) (a0 : Array Value) (hw : ∀ d ∈ tables_1, d.before a0 Z = true) (o0 : Addr) (f1 : Int64) (f2 : Int32) (h0 : Heap) (n0 : Nat) (Z0 : n0 ≤ h0.size) (F_o0_bucketCount : Fld Z h0 o0 "com/example/hemlock_gorge/hemlockgorge/CuckooFilterSize" "bucketCount" "J" (.long f1)) (F_o0_fingerprintBits : Fld Z h0 o0 "com/example/hemlock_gorge/hemlockgorge/CuckooFilterSize" "fingerprintBits" "I" (.int f2)) :
    own_C l Z (⟨"com/example/hemlock_gorge/hemlockgorge/CuckooFilterSize", "bitSize", "()J"⟩ : MethodName) prog_8_method_3_code 1 (some .long) ({ frames := 0, cells := 0, slots := 0, locals := 0 } : Room) #[(.ref o0)] h0 (Q4 Z o0 f1 f2 h0 n0) := by
  refine own_met (plainFor_of_name pn_1) ?_
  intro p e s m below meth c s₁ hx hby hml hret hlk hown hnm hZ X0 e0
  refine own_cast (ef_4 m o0) ?_
  have N0 := Fr.nil n0
  show own_Out p e below _ s₁ (mkF m 0 #[.val (.ref o0)] []) _ _ _
  refine own_to (fun t k => XS.aloadN X0.here hx rfl (hb hby d4_0) rfl rfl k) ?_
  show own_Out p e below _ s₁ (mkF m 1 #[.val (.ref o0)] [(.ref o0)]) _ _ _
  refine own_getF X0 hx hZ hown (hw _ (List.mem_of_getElem? (i := 18) rfl)) e0 F_o0_bucketCount rfl rfl (hb hby d4_1) fun T1 X1 e1 => ?_
  show own_Out p e below _ T1 (mkF m 4 #[.val (.ref o0)] [(.long f1)]) _ _ _
  refine own_to (fun t k => X1.ldc2J hx hown (mvT hZ (hw _ (List.mem_of_getElem? (i := 27) rfl))) rfl (hb hby d4_4) k) ?_
  show own_Out p e below _ T1 (mkF m 7 #[.val (.ref o0)] [(.long (4 : Int64)), (.long f1)]) _ _ _
  refine own_to (fun t k => XS.lmul X1.here hx rfl (hb hby d4_7) rfl k) ?_
  show own_Out p e below _ T1 (mkF m 8 #[.val (.ref o0)] [(.long (f1 * (4 : Int64)))]) _ _ _
  refine own_to (fun t k => XS.aloadN X1.here hx rfl (hb hby d4_8) rfl rfl k) ?_
  show own_Out p e below _ T1 (mkF m 9 #[.val (.ref o0)] [(.ref o0), (.long (f1 * (4 : Int64)))]) _ _ _
  refine own_getF X1 hx hZ hown (hw _ (List.mem_of_getElem? (i := 20) rfl)) e1 F_o0_fingerprintBits rfl rfl (hb hby d4_9) fun T2 X2 e2 => ?_
  show own_Out p e below _ T2 (mkF m 12 #[.val (.ref o0)] [(.int f2), (.long (f1 * (4 : Int64)))]) _ _ _
  refine own_to (fun t k => XS.i2l X2.here hx rfl (hb hby d4_12) rfl k) ?_
  show own_Out p e below _ T2 (mkF m 13 #[.val (.ref o0)] [(.long (f2.toInt64)), (.long (f1 * (4 : Int64)))]) _ _ _
  refine own_to (fun t k => XS.lmul X2.here hx rfl (hb hby d4_13) rfl k) ?_
  show own_Out p e below _ T2 (mkF m 14 #[.val (.ref o0)] [(.long ((f1 * (4 : Int64)) * (f2.toInt64)))]) _ _ _
  refine own_retJ X2 hx hlk hret (hb hby d4_14) (by decide) (by decide) ?_
  rw [e2]
  exact ⟨rfl, N0, rfl⟩
theorem own_f (x : Int32) : 4 ≤ ((4 : Int32) + ((x &&& (2147483647 : Int32)) % (29 : Int32))).toInt ∧ ((4 : Int32) + ((x &&& (2147483647 : Int32)) % (29 : Int32))).toInt ≤ 32 := by
  have h1 := c_mask x 2147483647 31 (by decide) (by decide)
  have h2 := c_irem (x &&& 2147483647) 29 29 (by decide)
  have h3 := c_iadd 4 ((x &&& 2147483647) % 29)
  have r := rng32 (4 + (x &&& 2147483647) % 29)
  have k : (4 : Int32).toInt = 4 := by decide
  omega
theorem own_per (f : Int32) (h : 4 ≤ f.toInt ∧ f.toInt ≤ 32) : ((4 : Int64) * (f.toInt64)).toInt = 4 * f.toInt := by
  have h1 := c_lmul 4 f.toInt64
  have h2 := c_i2l f
  have r := rng64 (4 * f.toInt64)
  have k : (4 : Int64).toInt = 4 := by decide
  rw [h2, k] at h1
  omega
theorem own_ne {x : Int64} (h : 0 < x.toInt) : x ≠ 0 := fun q => by rw [q] at h; exact absurd h (by decide)
theorem own_ne1 {x : Int64} (h : 0 < x.toInt) : x ≠ -1 := fun q => by rw [q] at h; exact absurd h (by decide)
theorem own_half (y : Int64) (h : 16 ≤ y.toInt ∧ y.toInt ≤ 128) : (((9223372036854775807 : Int64) / y) / (2 : Int64)).toInt = 9223372036854775807 / y.toInt / 2 := by
  have h1 := (c_ldiv 9223372036854775807 y y.toInt rfl (own_ne1 (by omega))).1 (by decide)
  have h2 := (c_ldiv (9223372036854775807 / y) 2 2 (by decide) (by decide)).1
  have k : (9223372036854775807 : Int64).toInt = 9223372036854775807 := by decide
  rw [k] at h1
  have h3 : 0 ≤ (9223372036854775807 : Int) / y.toInt := Int.ediv_nonneg (by decide) (by omega)
  rw [h2 (by omega), h1]
theorem own_hb (P : Int) (h : 16 ≤ P ∧ P ≤ 128) : 36028797018963967 ≤ (9223372036854775807 : Int) / P / 2 ∧ (9223372036854775807 : Int) / P / 2 ≤ 288230376151711743 := by
  have a : (9223372036854775807 : Int) / P ≤ 9223372036854775807 / 16 := by
    have q : (9223372036854775807 : Int) / P < 9223372036854775807 / 16 + 1 := by
      apply Int.ediv_lt_of_lt_mul (by omega)
      have := Int.mul_le_mul_of_nonneg_left h.1 (show (0 : Int) ≤ 9223372036854775807 / 16 + 1 by omega)
      omega
    omega
  have b : 9223372036854775807 / 128 ≤ (9223372036854775807 : Int) / P := by
    apply Int.le_ediv_of_mul_le (by omega)
    have := Int.mul_le_mul_of_nonneg_left h.2 (show (0 : Int) ≤ 9223372036854775807 / 128 by omega)
    omega
  omega
theorem own_bk (b hf : Int64) (h : 36028797018963967 ≤ hf.toInt ∧ hf.toInt ≤ 288230376151711743) : 2 ≤ ((2 : Int64) * ((1 : Int64) + ((b &&& (9223372036854775807 : Int64)) % hf))).toInt ∧ ((2 : Int64) * ((1 : Int64) + ((b &&& (9223372036854775807 : Int64)) % hf))).toInt ≤ 2 * hf.toInt := by
  have h1 := c_maskL b 9223372036854775807 63 (by decide) (by decide)
  have h2 : ((b &&& 9223372036854775807) % hf).toInt = (b &&& 9223372036854775807).toInt % hf.toInt := by
    rw [Int64.toInt_mod]
    exact Int.tmod_eq_emod_of_nonneg (by omega)
  have h3 := Int.emod_nonneg (b &&& 9223372036854775807).toInt (show hf.toInt ≠ 0 by omega)
  have h4 := Int.emod_lt_of_pos (b &&& 9223372036854775807).toInt (show 0 < hf.toInt by omega)
  have h5 := c_ladd 1 ((b &&& 9223372036854775807) % hf)
  have h6 := c_lmul 2 (1 + (b &&& 9223372036854775807) % hf)
  have r1 := rng64 (1 + (b &&& 9223372036854775807) % hf)
  have r2 := rng64 (2 * (1 + (b &&& 9223372036854775807) % hf))
  have k1 : (1 : Int64).toInt = 1 := by decide
  have k2 : (2 : Int64).toInt = 2 := by decide
  rw [k2] at h6
  omega
theorem own_r (f : Int32) (y hf k : Int64) (hF : 4 ≤ f.toInt ∧ f.toInt ≤ 32) (hy : y.toInt = 4 * f.toInt) (hh : hf.toInt = 9223372036854775807 / y.toInt / 2) (hk : 2 ≤ k.toInt ∧ k.toInt ≤ 2 * hf.toInt) : ((k * (4 : Int64)) * (f.toInt64)).toInt = k.toInt * y.toInt ∧ k.toInt * y.toInt ≤ 9223372036854775807 := by
  have e1 : 9223372036854775807 / y.toInt * y.toInt ≤ 9223372036854775807 := Int.ediv_mul_le _ (by omega)
  have e2 : k.toInt ≤ 9223372036854775807 / y.toInt := by omega
  have e3 := Int.mul_le_mul_of_nonneg_right e2 (show 0 ≤ y.toInt by omega)
  have e4 := Int.mul_le_mul_of_nonneg_left (show 16 ≤ y.toInt by omega) (show 0 ≤ k.toInt by omega)
  have h1 := c_lmul k 4
  have h2 := c_lmul (k * 4) f.toInt64
  have h3 := c_i2l f
  have k4 : (4 : Int64).toInt = 4 := by decide
  rw [k4] at h1
  have r1 := rng64 (k * 4)
  have h4 : (k * 4).toInt = k.toInt * 4 := by omega
  have e5 : (k * 4).toInt * f.toInt = k.toInt * y.toInt := by rw [h4, hy, Int.mul_assoc]
  rw [h3, e5] at h2
  have r2 := rng64 (k * 4 * f.toInt64)
  have e6 := Int.mul_nonneg (show 0 ≤ k.toInt by omega) (show 0 ≤ y.toInt by omega)
  omega
theorem own_law (f : Int32) (y hf k : Int64) (hF : 4 ≤ f.toInt ∧ f.toInt ≤ 32) (hy : y.toInt = 4 * f.toInt) (hh : hf.toInt = 9223372036854775807 / y.toInt / 2) (hk : 2 ≤ k.toInt ∧ k.toInt ≤ 2 * hf.toInt) :
    (0 : Int64) < ((k * (4 : Int64)) * (f.toInt64)) ∧ ((k * (4 : Int64)) * (f.toInt64)) % y = (0 : Int64) ∧ ((k * (4 : Int64)) * (f.toInt64)) / y = k := by
  obtain ⟨h1, h2⟩ := own_r f y hf k hF hy hh hk
  have e6 := Int.mul_pos (show 0 < k.toInt by omega) (show 0 < y.toInt by omega)
  refine ⟨?_, ?_, ?_⟩
  · rw [Int64.lt_iff_toInt_lt, h1]
    exact e6
  · apply Int64.toInt_inj.mp
    rw [Int64.toInt_mod, h1, Int.tmod_eq_emod_of_nonneg (by omega), Int.mul_emod_left]
    rfl
  · apply Int64.toInt_inj.mp
    rw [(c_ldiv _ y y.toInt rfl (own_ne1 (by omega))).1 (by omega), h1, Int.mul_ediv_cancel _ (by omega)]
theorem pn_2 : plainName "com/example/hemlock_gorge/hemlockgorge/CuckooFilterSizeBitSizePinLaw" = true := by first | (simp [plainName, overriddenIn]; done) | decide +kernel
theorem ef_0 (m : MethodId) (x0 : Int64) (x1 : Int32) : entryFrame m #[(.long x0), (.int x1)] maxLocals = mkF m 0 #[.val (.long x0), .second, .val (.int x1), .unset, .unset, .unset, .unset, .unset, .unset, .unset, .unset, .unset, .unset] [] := by first | (simp [entryFrame, mkF, argsToLocals, Value.category, maxLocals]; done) | rfl
def Q0 (Z : State) (x0 : Int64) (x1 : Int32) (h0 : Heap) (n0 : Nat) (v : Option Value) (h : Heap) (L : List Loc) : Prop := v = some (.int (1 : Int32)) ∧ Fr n0 L
theorem pd_1 : parseMethodDescriptor "(JI)V" = some ⟨[.long, .int], none⟩ := by decide +kernel
theorem pd_2 : parseMethodDescriptor "()J" = some ⟨[], some .long⟩ := by decide +kernel
set_option maxRecDepth 65536 in
set_option maxHeartbeats 40000000 in
theorem rm0 (l : Launch) (Z : State) (a0 : Array Value) (hw : ∀ d ∈ tables_1, d.before a0 Z = true) (x0 : Int64) (x1 : Int32) (h0 : Heap) (n0 : Nat) (Z0 : n0 ≤ h0.size) :
    own_C l Z x code maxLocals ret room_1 #[(.long x0), (.int x1)] h0 (Q0 Z x0 x1 h0 n0) := by
  refine own_met (plainFor_of_name pn_2) ?_
  intro p e s m below meth c s₁ hx hby hml hret hlk hown hnm hZ X0 e0
  refine own_cast (ef_0 m x0 x1) ?_
  have N0 := Fr.nil n0
  show own_Out p e below _ s₁ (mkF m 0 #[.val (.long x0), .second, .val (.int x1), .unset, .unset, .unset, .unset, .unset, .unset, .unset, .unset, .unset, .unset] []) _ _ _
  refine own_to (fun t k => XS.iconst X0.here hx rfl (hb hby at_0) k) ?_
  show own_Out p e below _ s₁ (mkF m 1 #[.val (.long x0), .second, .val (.int x1), .unset, .unset, .unset, .unset, .unset, .unset, .unset, .unset, .unset, .unset] [(.int (4 : Int32))]) _ _ _
  refine own_to (fun t k => XS.iloadN X0.here hx rfl (hb hby at_1) rfl k) ?_
  show own_Out p e below _ s₁ (mkF m 2 #[.val (.long x0), .second, .val (.int x1), .unset, .unset, .unset, .unset, .unset, .unset, .unset, .unset, .unset, .unset] [(.int x1), (.int (4 : Int32))]) _ _ _
  refine own_to (fun t k => X0.ldcI hx hown (mvT hZ (hw _ (List.mem_of_getElem? (i := 0) rfl))) rfl (hb hby at_2) k) ?_
  show own_Out p e below _ s₁ (mkF m 4 #[.val (.long x0), .second, .val (.int x1), .unset, .unset, .unset, .unset, .unset, .unset, .unset, .unset, .unset, .unset] [(.int (2147483647 : Int32)), (.int x1), (.int (4 : Int32))]) _ _ _
  refine own_to (fun t k => XS.iand X0.here hx rfl (hb hby at_4) rfl k) ?_
  show own_Out p e below _ s₁ (mkF m 5 #[.val (.long x0), .second, .val (.int x1), .unset, .unset, .unset, .unset, .unset, .unset, .unset, .unset, .unset, .unset] [(.int (x1 &&& (2147483647 : Int32))), (.int (4 : Int32))]) _ _ _
  refine own_to (fun t k => XS.bipush X0.here hx rfl (hb hby at_5) k) ?_
  show own_Out p e below _ s₁ (mkF m 7 #[.val (.long x0), .second, .val (.int x1), .unset, .unset, .unset, .unset, .unset, .unset, .unset, .unset, .unset, .unset] [(.int (29 : Int32)), (.int (x1 &&& (2147483647 : Int32))), (.int (4 : Int32))]) _ _ _
  refine own_to (fun t k => iremM X0 hx rfl (hb hby at_7) rfl (by decide) k) ?_
  show own_Out p e below _ s₁ (mkF m 8 #[.val (.long x0), .second, .val (.int x1), .unset, .unset, .unset, .unset, .unset, .unset, .unset, .unset, .unset, .unset] [(.int ((x1 &&& (2147483647 : Int32)) % (29 : Int32))), (.int (4 : Int32))]) _ _ _
  refine own_to (fun t k => XS.iadd X0.here hx rfl (hb hby at_8) rfl k) ?_
  show own_Out p e below _ s₁ (mkF m 9 #[.val (.long x0), .second, .val (.int x1), .unset, .unset, .unset, .unset, .unset, .unset, .unset, .unset, .unset, .unset] [(.int ((4 : Int32) + ((x1 &&& (2147483647 : Int32)) % (29 : Int32))))]) _ _ _
  refine own_to (fun t k => XS.istoreN X0.here hx rfl (hb hby at_9) rfl (l' := #[.val (.long x0), .second, .val (.int x1), .val (.int ((4 : Int32) + ((x1 &&& (2147483647 : Int32)) % (29 : Int32)))), .unset, .unset, .unset, .unset, .unset, .unset, .unset, .unset, .unset]) rfl k) ?_
  show own_Out p e below _ s₁ (mkF m 10 #[.val (.long x0), .second, .val (.int x1), .val (.int ((4 : Int32) + ((x1 &&& (2147483647 : Int32)) % (29 : Int32)))), .unset, .unset, .unset, .unset, .unset, .unset, .unset, .unset, .unset] []) _ _ _
  generalize hv_ff : ((4 : Int32) + ((x1 &&& (2147483647 : Int32)) % (29 : Int32))) = ff
  show own_Out p e below _ s₁ (mkF m 10 #[.val (.long x0), .second, .val (.int x1), .val (.int ff), .unset, .unset, .unset, .unset, .unset, .unset, .unset, .unset, .unset] []) _ _ _
  have b1 := own_f x1
  rw [hv_ff] at b1
  refine own_to (fun t k => X0.ldc2J hx hown (mvT hZ (hw _ (List.mem_of_getElem? (i := 1) rfl))) rfl (hb hby at_10) k) ?_
  show own_Out p e below _ s₁ (mkF m 13 #[.val (.long x0), .second, .val (.int x1), .val (.int ff), .unset, .unset, .unset, .unset, .unset, .unset, .unset, .unset, .unset] [(.long (4 : Int64))]) _ _ _
  refine own_to (fun t k => XS.iloadN X0.here hx rfl (hb hby at_13) rfl k) ?_
  show own_Out p e below _ s₁ (mkF m 14 #[.val (.long x0), .second, .val (.int x1), .val (.int ff), .unset, .unset, .unset, .unset, .unset, .unset, .unset, .unset, .unset] [(.int ff), (.long (4 : Int64))]) _ _ _
  refine own_to (fun t k => XS.i2l X0.here hx rfl (hb hby at_14) rfl k) ?_
  show own_Out p e below _ s₁ (mkF m 15 #[.val (.long x0), .second, .val (.int x1), .val (.int ff), .unset, .unset, .unset, .unset, .unset, .unset, .unset, .unset, .unset] [(.long (ff.toInt64)), (.long (4 : Int64))]) _ _ _
  refine own_to (fun t k => XS.lmul X0.here hx rfl (hb hby at_15) rfl k) ?_
  show own_Out p e below _ s₁ (mkF m 16 #[.val (.long x0), .second, .val (.int x1), .val (.int ff), .unset, .unset, .unset, .unset, .unset, .unset, .unset, .unset, .unset] [(.long ((4 : Int64) * (ff.toInt64)))]) _ _ _
  refine own_to (fun t k => XS.lstore X0.here hx rfl (hb hby at_16) rfl (l' := #[.val (.long x0), .second, .val (.int x1), .val (.int ff), .val (.long ((4 : Int64) * (ff.toInt64))), .second, .unset, .unset, .unset, .unset, .unset, .unset, .unset]) rfl k) ?_
  show own_Out p e below _ s₁ (mkF m 18 #[.val (.long x0), .second, .val (.int x1), .val (.int ff), .val (.long ((4 : Int64) * (ff.toInt64))), .second, .unset, .unset, .unset, .unset, .unset, .unset, .unset] []) _ _ _
  generalize hv_fp : ((4 : Int64) * (ff.toInt64)) = fp
  show own_Out p e below _ s₁ (mkF m 18 #[.val (.long x0), .second, .val (.int x1), .val (.int ff), .val (.long fp), .second, .unset, .unset, .unset, .unset, .unset, .unset, .unset] []) _ _ _
  have b2 := own_per ff b1
  rw [hv_fp] at b2
  refine own_to (fun t k => X0.ldc2J hx hown (mvT hZ (hw _ (List.mem_of_getElem? (i := 2) rfl))) rfl (hb hby at_18) k) ?_
  show own_Out p e below _ s₁ (mkF m 21 #[.val (.long x0), .second, .val (.int x1), .val (.int ff), .val (.long fp), .second, .unset, .unset, .unset, .unset, .unset, .unset, .unset] [(.long (9223372036854775807 : Int64))]) _ _ _
  refine own_to (fun t k => XS.lload X0.here hx rfl (hb hby at_21) rfl k) ?_
  show own_Out p e below _ s₁ (mkF m 23 #[.val (.long x0), .second, .val (.int x1), .val (.int ff), .val (.long fp), .second, .unset, .unset, .unset, .unset, .unset, .unset, .unset] [(.long fp), (.long (9223372036854775807 : Int64))]) _ _ _
  have hnz23 : fp ≠ 0 := own_ne (by omega)
  refine own_to (fun t k => XS.ldiv X0.here hx rfl (hb hby at_23) rfl hnz23 k) ?_
  show own_Out p e below _ s₁ (mkF m 24 #[.val (.long x0), .second, .val (.int x1), .val (.int ff), .val (.long fp), .second, .unset, .unset, .unset, .unset, .unset, .unset, .unset] [(.long ((9223372036854775807 : Int64) / fp))]) _ _ _
  refine own_to (fun t k => X0.ldc2J hx hown (mvT hZ (hw _ (List.mem_of_getElem? (i := 3) rfl))) rfl (hb hby at_24) k) ?_
  show own_Out p e below _ s₁ (mkF m 27 #[.val (.long x0), .second, .val (.int x1), .val (.int ff), .val (.long fp), .second, .unset, .unset, .unset, .unset, .unset, .unset, .unset] [(.long (2 : Int64)), (.long ((9223372036854775807 : Int64) / fp))]) _ _ _
  refine own_to (fun t k => XS.ldiv X0.here hx rfl (hb hby at_27) rfl (by decide) k) ?_
  show own_Out p e below _ s₁ (mkF m 28 #[.val (.long x0), .second, .val (.int x1), .val (.int ff), .val (.long fp), .second, .unset, .unset, .unset, .unset, .unset, .unset, .unset] [(.long (((9223372036854775807 : Int64) / fp) / (2 : Int64)))]) _ _ _
  refine own_to (fun t k => XS.lstore X0.here hx rfl (hb hby at_28) rfl (l' := #[.val (.long x0), .second, .val (.int x1), .val (.int ff), .val (.long fp), .second, .val (.long (((9223372036854775807 : Int64) / fp) / (2 : Int64))), .second, .unset, .unset, .unset, .unset, .unset]) rfl k) ?_
  show own_Out p e below _ s₁ (mkF m 30 #[.val (.long x0), .second, .val (.int x1), .val (.int ff), .val (.long fp), .second, .val (.long (((9223372036854775807 : Int64) / fp) / (2 : Int64))), .second, .unset, .unset, .unset, .unset, .unset] []) _ _ _
  generalize hv_fh : (((9223372036854775807 : Int64) / fp) / (2 : Int64)) = fh
  show own_Out p e below _ s₁ (mkF m 30 #[.val (.long x0), .second, .val (.int x1), .val (.int ff), .val (.long fp), .second, .val (.long fh), .second, .unset, .unset, .unset, .unset, .unset] []) _ _ _
  have b3 := own_half fp (by omega)
  rw [hv_fh] at b3
  have b4 := own_hb fp.toInt (by omega)
  refine own_to (fun t k => X0.ldc2J hx hown (mvT hZ (hw _ (List.mem_of_getElem? (i := 3) rfl))) rfl (hb hby at_30) k) ?_
  show own_Out p e below _ s₁ (mkF m 33 #[.val (.long x0), .second, .val (.int x1), .val (.int ff), .val (.long fp), .second, .val (.long fh), .second, .unset, .unset, .unset, .unset, .unset] [(.long (2 : Int64))]) _ _ _
  refine own_to (fun t k => XS.lconst X0.here hx rfl (hb hby at_33) k) ?_
  show own_Out p e below _ s₁ (mkF m 34 #[.val (.long x0), .second, .val (.int x1), .val (.int ff), .val (.long fp), .second, .val (.long fh), .second, .unset, .unset, .unset, .unset, .unset] [(.long (1 : Int64)), (.long (2 : Int64))]) _ _ _
  refine own_to (fun t k => XS.lloadN X0.here hx rfl (hb hby at_34) rfl k) ?_
  show own_Out p e below _ s₁ (mkF m 35 #[.val (.long x0), .second, .val (.int x1), .val (.int ff), .val (.long fp), .second, .val (.long fh), .second, .unset, .unset, .unset, .unset, .unset] [(.long x0), (.long (1 : Int64)), (.long (2 : Int64))]) _ _ _
  refine own_to (fun t k => X0.ldc2J hx hown (mvT hZ (hw _ (List.mem_of_getElem? (i := 2) rfl))) rfl (hb hby at_35) k) ?_
  show own_Out p e below _ s₁ (mkF m 38 #[.val (.long x0), .second, .val (.int x1), .val (.int ff), .val (.long fp), .second, .val (.long fh), .second, .unset, .unset, .unset, .unset, .unset] [(.long (9223372036854775807 : Int64)), (.long x0), (.long (1 : Int64)), (.long (2 : Int64))]) _ _ _
  refine own_to (fun t k => XS.land X0.here hx rfl (hb hby at_38) rfl k) ?_
  show own_Out p e below _ s₁ (mkF m 39 #[.val (.long x0), .second, .val (.int x1), .val (.int ff), .val (.long fp), .second, .val (.long fh), .second, .unset, .unset, .unset, .unset, .unset] [(.long (x0 &&& (9223372036854775807 : Int64))), (.long (1 : Int64)), (.long (2 : Int64))]) _ _ _
  refine own_to (fun t k => XS.lload X0.here hx rfl (hb hby at_39) rfl k) ?_
  show own_Out p e below _ s₁ (mkF m 41 #[.val (.long x0), .second, .val (.int x1), .val (.int ff), .val (.long fp), .second, .val (.long fh), .second, .unset, .unset, .unset, .unset, .unset] [(.long fh), (.long (x0 &&& (9223372036854775807 : Int64))), (.long (1 : Int64)), (.long (2 : Int64))]) _ _ _
  have hnz41 : fh ≠ 0 := own_ne (by omega)
  refine own_to (fun t k => XS.lrem X0.here hx rfl (hb hby at_41) rfl hnz41 (by rw [lrem_mod]; exact k)) ?_
  show own_Out p e below _ s₁ (mkF m 42 #[.val (.long x0), .second, .val (.int x1), .val (.int ff), .val (.long fp), .second, .val (.long fh), .second, .unset, .unset, .unset, .unset, .unset] [(.long ((x0 &&& (9223372036854775807 : Int64)) % fh)), (.long (1 : Int64)), (.long (2 : Int64))]) _ _ _
  refine own_to (fun t k => XS.ladd X0.here hx rfl (hb hby at_42) rfl k) ?_
  show own_Out p e below _ s₁ (mkF m 43 #[.val (.long x0), .second, .val (.int x1), .val (.int ff), .val (.long fp), .second, .val (.long fh), .second, .unset, .unset, .unset, .unset, .unset] [(.long ((1 : Int64) + ((x0 &&& (9223372036854775807 : Int64)) % fh))), (.long (2 : Int64))]) _ _ _
  refine own_to (fun t k => XS.lmul X0.here hx rfl (hb hby at_43) rfl k) ?_
  show own_Out p e below _ s₁ (mkF m 44 #[.val (.long x0), .second, .val (.int x1), .val (.int ff), .val (.long fp), .second, .val (.long fh), .second, .unset, .unset, .unset, .unset, .unset] [(.long ((2 : Int64) * ((1 : Int64) + ((x0 &&& (9223372036854775807 : Int64)) % fh))))]) _ _ _
  refine own_to (fun t k => XS.lstore X0.here hx rfl (hb hby at_44) rfl (l' := #[.val (.long x0), .second, .val (.int x1), .val (.int ff), .val (.long fp), .second, .val (.long fh), .second, .val (.long ((2 : Int64) * ((1 : Int64) + ((x0 &&& (9223372036854775807 : Int64)) % fh)))), .second, .unset, .unset, .unset]) rfl k) ?_
  show own_Out p e below _ s₁ (mkF m 46 #[.val (.long x0), .second, .val (.int x1), .val (.int ff), .val (.long fp), .second, .val (.long fh), .second, .val (.long ((2 : Int64) * ((1 : Int64) + ((x0 &&& (9223372036854775807 : Int64)) % fh)))), .second, .unset, .unset, .unset] []) _ _ _
  generalize hv_fk : ((2 : Int64) * ((1 : Int64) + ((x0 &&& (9223372036854775807 : Int64)) % fh))) = fk
  show own_Out p e below _ s₁ (mkF m 46 #[.val (.long x0), .second, .val (.int x1), .val (.int ff), .val (.long fp), .second, .val (.long fh), .second, .val (.long fk), .second, .unset, .unset, .unset] []) _ _ _
  have b5 := own_bk x0 fh (by omega)
  rw [hv_fk] at b5
  have b6 := own_law ff fp fh fk b1 b2 b3 b5
  refine own_new X0 hx hZ hown (hw _ (List.mem_of_getElem? (i := 4) rfl)) (hw _ (List.mem_of_getElem? (i := 5) rfl)) (hw _ (List.mem_of_getElem? (i := 6) rfl)) e0 rfl (hb hby at_46) (by decide) (by decide) fun T1 hh1 ob1 gb1 X1 e1 E1 A1 D1 => ?_
  have g_ob1 : n0 ≤ ob1 := Nat.le_trans Z0 (Nat.le_of_eq gb1.symm)
  have Z0 := Nat.le_trans Z0 E1.1
  have E_ob1 := A1
  have F_ob1_bucketCount : Fld Z hh1 ob1 "com/example/hemlock_gorge/hemlockgorge/CuckooFilterSize" "bucketCount" "J" (.long (0 : Int64)) := D1 (Or.inr (hw _ (List.mem_of_getElem? (i := 19) rfl))) (ty := .long) (by decide)
  have F_ob1_fingerprintBits : Fld Z hh1 ob1 "com/example/hemlock_gorge/hemlockgorge/CuckooFilterSize" "fingerprintBits" "I" (.int (0 : Int32)) := D1 (Or.inr (hw _ (List.mem_of_getElem? (i := 21) rfl))) (ty := .int) (by decide)
  show own_Out p e below _ T1 (mkF m 49 #[.val (.long x0), .second, .val (.int x1), .val (.int ff), .val (.long fp), .second, .val (.long fh), .second, .val (.long fk), .second, .unset, .unset, .unset] [(.ref ob1)]) _ _ _
  refine own_to (fun t k => XS.dup X1.here hx rfl (hb hby at_49) rfl rfl k) ?_
  show own_Out p e below _ T1 (mkF m 50 #[.val (.long x0), .second, .val (.int x1), .val (.int ff), .val (.long fp), .second, .val (.long fh), .second, .val (.long fk), .second, .unset, .unset, .unset] [(.ref ob1), (.ref ob1)]) _ _ _
  refine own_to (fun t k => XS.lload X1.here hx rfl (hb hby at_50) rfl k) ?_
  show own_Out p e below _ T1 (mkF m 52 #[.val (.long x0), .second, .val (.int x1), .val (.int ff), .val (.long fp), .second, .val (.long fh), .second, .val (.long fk), .second, .unset, .unset, .unset] [(.long fk), (.ref ob1), (.ref ob1)]) _ _ _
  refine own_to (fun t k => XS.iloadN X1.here hx rfl (hb hby at_52) rfl k) ?_
  show own_Out p e below _ T1 (mkF m 53 #[.val (.long x0), .second, .val (.int x1), .val (.int ff), .val (.long fp), .second, .val (.long fh), .second, .val (.long fk), .second, .unset, .unset, .unset] [(.int ff), (.long fk), (.ref ob1), (.ref ob1)]) _ _ _
  refine own_callC X1 hx hZ hown (a := ob1) (argsL := [(.long fk), (.int ff)]) (rest := [(.ref ob1)]) rfl (hw _ (List.mem_of_getElem? (i := 7) rfl)) (hw _ (List.mem_of_getElem? (i := 8) rfl)) (hw _ (List.mem_of_getElem? (i := 6) rfl)) (hw _ (List.mem_of_getElem? (i := 9) rfl)) (by decide) (rm1 l Z a0 hw ob1 fk ff hh1 n0 Z0 E_ob1 F_ob1_bucketCount F_ob1_fingerprintBits g_ob1) (by decide) (by decide) e1 rfl (by rw [hml]; rfl) (lenOf pd_1 rfl) rfl (W := 1) (by show 2 * 0 + _ ≤ _; exact Nat.le_of_eq rfl) (hb hby at_53) (by decide) (by decide) fun v2 T2 hh2 L2 X2 e2 hQ2 => ?_
  obtain ⟨rfl, NL2, KK2, P2_0, P2_1⟩ := hQ2
  have E_ob1 := E_ob1.keep KK2
  have F_ob1_bucketCount := P2_0
  have F_ob1_fingerprintBits := P2_1
  have Z0 := Nat.le_trans Z0 KK2.1
  have N2 := Fr.app N0 NL2
  show own_Out p e below _ T2 (mkF m 56 #[.val (.long x0), .second, .val (.int x1), .val (.int ff), .val (.long fp), .second, .val (.long fh), .second, .val (.long fk), .second, .unset, .unset, .unset] [(.ref ob1)]) _ _ _
  refine own_to (fun t k => XS.astore X2.here hx rfl (hb hby at_56) rfl rfl (l' := #[.val (.long x0), .second, .val (.int x1), .val (.int ff), .val (.long fp), .second, .val (.long fh), .second, .val (.long fk), .second, .val (.ref ob1), .unset, .unset]) rfl k) ?_
  show own_Out p e below _ T2 (mkF m 58 #[.val (.long x0), .second, .val (.int x1), .val (.int ff), .val (.long fp), .second, .val (.long fh), .second, .val (.long fk), .second, .val (.ref ob1), .unset, .unset] []) _ _ _
  refine own_to (fun t k => XS.aload X2.here hx rfl (hb hby at_58) rfl rfl k) ?_
  show own_Out p e below _ T2 (mkF m 60 #[.val (.long x0), .second, .val (.int x1), .val (.int ff), .val (.long fp), .second, .val (.long fh), .second, .val (.long fk), .second, .val (.ref ob1), .unset, .unset] [(.ref ob1)]) _ _ _
  refine own_callV X2 hx hZ hown (a := ob1) (argsL := []) (rest := []) (hw _ (List.mem_of_getElem? (i := 22) rfl)) (hw _ (List.mem_of_getElem? (i := 23) rfl)) (hw _ (List.mem_of_getElem? (i := 25) rfl)) (hw _ (List.mem_of_getElem? (i := 24) rfl)) (hw _ (List.mem_of_getElem? (i := 6) rfl)) (hw _ (List.mem_of_getElem? (i := 26) rfl)) (by decide) (rm4 l Z a0 hw ob1 fk ff hh2 n0 Z0 F_ob1_bucketCount F_ob1_fingerprintBits) (by decide) (by decide) e2 E_ob1 rfl (by rw [hml]; rfl) (lenOf pd_2 rfl) rfl (W := 0) (by show 2 * 0 + _ ≤ _; exact Nat.le_of_eq rfl) (hb hby at_60) (by decide) (by decide) fun v3 T3 hh3 L3 X3 e3 hQ3 => ?_
  obtain ⟨rfl, NL3, he3⟩ := hQ3
  replace e3 := e3.trans he3
  have N3 := Fr.app N2 NL3
  show own_Out p e below _ T3 (mkF m 63 #[.val (.long x0), .second, .val (.int x1), .val (.int ff), .val (.long fp), .second, .val (.long fh), .second, .val (.long fk), .second, .val (.ref ob1), .unset, .unset] [(.long ((fk * (4 : Int64)) * (ff.toInt64)))]) _ _ _
  refine own_to (fun t k => XS.lstore X3.here hx rfl (hb hby at_63) rfl (l' := #[.val (.long x0), .second, .val (.int x1), .val (.int ff), .val (.long fp), .second, .val (.long fh), .second, .val (.long fk), .second, .val (.ref ob1), .val (.long ((fk * (4 : Int64)) * (ff.toInt64))), .second]) rfl k) ?_
  show own_Out p e below _ T3 (mkF m 65 #[.val (.long x0), .second, .val (.int x1), .val (.int ff), .val (.long fp), .second, .val (.long fh), .second, .val (.long fk), .second, .val (.ref ob1), .val (.long ((fk * (4 : Int64)) * (ff.toInt64))), .second] []) _ _ _
  refine own_to (fun t k => XS.lload X3.here hx rfl (hb hby at_65) rfl k) ?_
  show own_Out p e below _ T3 (mkF m 67 #[.val (.long x0), .second, .val (.int x1), .val (.int ff), .val (.long fp), .second, .val (.long fh), .second, .val (.long fk), .second, .val (.ref ob1), .val (.long ((fk * (4 : Int64)) * (ff.toInt64))), .second] [(.long ((fk * (4 : Int64)) * (ff.toInt64)))]) _ _ _
  refine own_to (fun t k => XS.lconst X3.here hx rfl (hb hby at_67) k) ?_
  show own_Out p e below _ T3 (mkF m 68 #[.val (.long x0), .second, .val (.int x1), .val (.int ff), .val (.long fp), .second, .val (.long fh), .second, .val (.long fk), .second, .val (.ref ob1), .val (.long ((fk * (4 : Int64)) * (ff.toInt64))), .second] [(.long (0 : Int64)), (.long ((fk * (4 : Int64)) * (ff.toInt64)))]) _ _ _
  refine own_to (fun t k => XS.lcmp X3.here hx rfl (hb hby at_68) rfl k) ?_
  show own_Out p e below _ T3 (mkF m 69 #[.val (.long x0), .second, .val (.int x1), .val (.int ff), .val (.long fp), .second, .val (.long fh), .second, .val (.long fk), .second, .val (.ref ob1), .val (.long ((fk * (4 : Int64)) * (ff.toInt64))), .second] [(.int (lcmpW ((fk * (4 : Int64)) * (ff.toInt64)) (0 : Int64)))]) _ _ _
  have hc69 : (0 : Int64) < ((fk * (4 : Int64)) * (ff.toInt64)) := b6.1
  refine own_to (fun t k => XS.ifNo X3.here hx rfl (hb hby at_69) rfl ((if0 _ _).trans (tlt ((lw_gt _ _).mpr hc69)).2.2.2) k) ?_
  show own_Out p e below _ T3 (mkF m 72 #[.val (.long x0), .second, .val (.int x1), .val (.int ff), .val (.long fp), .second, .val (.long fh), .second, .val (.long fk), .second, .val (.ref ob1), .val (.long ((fk * (4 : Int64)) * (ff.toInt64))), .second] []) _ _ _
  refine own_to (fun t k => XS.lload X3.here hx rfl (hb hby at_72) rfl k) ?_
  show own_Out p e below _ T3 (mkF m 74 #[.val (.long x0), .second, .val (.int x1), .val (.int ff), .val (.long fp), .second, .val (.long fh), .second, .val (.long fk), .second, .val (.ref ob1), .val (.long ((fk * (4 : Int64)) * (ff.toInt64))), .second] [(.long ((fk * (4 : Int64)) * (ff.toInt64)))]) _ _ _
  refine own_to (fun t k => XS.lload X3.here hx rfl (hb hby at_74) rfl k) ?_
  show own_Out p e below _ T3 (mkF m 76 #[.val (.long x0), .second, .val (.int x1), .val (.int ff), .val (.long fp), .second, .val (.long fh), .second, .val (.long fk), .second, .val (.ref ob1), .val (.long ((fk * (4 : Int64)) * (ff.toInt64))), .second] [(.long fp), (.long ((fk * (4 : Int64)) * (ff.toInt64)))]) _ _ _
  have hnz76 : fp ≠ 0 := own_ne (by omega)
  refine own_to (fun t k => XS.lrem X3.here hx rfl (hb hby at_76) rfl hnz76 (by rw [lrem_mod]; exact k)) ?_
  show own_Out p e below _ T3 (mkF m 77 #[.val (.long x0), .second, .val (.int x1), .val (.int ff), .val (.long fp), .second, .val (.long fh), .second, .val (.long fk), .second, .val (.ref ob1), .val (.long ((fk * (4 : Int64)) * (ff.toInt64))), .second] [(.long (((fk * (4 : Int64)) * (ff.toInt64)) % fp))]) _ _ _
  refine own_to (fun t k => XS.lconst X3.here hx rfl (hb hby at_77) k) ?_
  show own_Out p e below _ T3 (mkF m 78 #[.val (.long x0), .second, .val (.int x1), .val (.int ff), .val (.long fp), .second, .val (.long fh), .second, .val (.long fk), .second, .val (.ref ob1), .val (.long ((fk * (4 : Int64)) * (ff.toInt64))), .second] [(.long (0 : Int64)), (.long (((fk * (4 : Int64)) * (ff.toInt64)) % fp))]) _ _ _
  refine own_to (fun t k => XS.lcmp X3.here hx rfl (hb hby at_78) rfl k) ?_
  show own_Out p e below _ T3 (mkF m 79 #[.val (.long x0), .second, .val (.int x1), .val (.int ff), .val (.long fp), .second, .val (.long fh), .second, .val (.long fk), .second, .val (.ref ob1), .val (.long ((fk * (4 : Int64)) * (ff.toInt64))), .second] [(.int (lcmpW (((fk * (4 : Int64)) * (ff.toInt64)) % fp) (0 : Int64)))]) _ _ _
  have hc79 : (((fk * (4 : Int64)) * (ff.toInt64)) % fp) = (0 : Int64) := b6.2.1
  refine own_to (fun t k => XS.ifNo X3.here hx rfl (hb hby at_79) rfl ((if0 _ _).trans (teq ((lw_eq _ _).mpr hc79)).2) k) ?_
  show own_Out p e below _ T3 (mkF m 82 #[.val (.long x0), .second, .val (.int x1), .val (.int ff), .val (.long fp), .second, .val (.long fh), .second, .val (.long fk), .second, .val (.ref ob1), .val (.long ((fk * (4 : Int64)) * (ff.toInt64))), .second] []) _ _ _
  refine own_to (fun t k => XS.lload X3.here hx rfl (hb hby at_82) rfl k) ?_
  show own_Out p e below _ T3 (mkF m 84 #[.val (.long x0), .second, .val (.int x1), .val (.int ff), .val (.long fp), .second, .val (.long fh), .second, .val (.long fk), .second, .val (.ref ob1), .val (.long ((fk * (4 : Int64)) * (ff.toInt64))), .second] [(.long ((fk * (4 : Int64)) * (ff.toInt64)))]) _ _ _
  refine own_to (fun t k => XS.lload X3.here hx rfl (hb hby at_84) rfl k) ?_
  show own_Out p e below _ T3 (mkF m 86 #[.val (.long x0), .second, .val (.int x1), .val (.int ff), .val (.long fp), .second, .val (.long fh), .second, .val (.long fk), .second, .val (.ref ob1), .val (.long ((fk * (4 : Int64)) * (ff.toInt64))), .second] [(.long fp), (.long ((fk * (4 : Int64)) * (ff.toInt64)))]) _ _ _
  have hnz86 : fp ≠ 0 := own_ne (by omega)
  refine own_to (fun t k => XS.ldiv X3.here hx rfl (hb hby at_86) rfl hnz86 k) ?_
  show own_Out p e below _ T3 (mkF m 87 #[.val (.long x0), .second, .val (.int x1), .val (.int ff), .val (.long fp), .second, .val (.long fh), .second, .val (.long fk), .second, .val (.ref ob1), .val (.long ((fk * (4 : Int64)) * (ff.toInt64))), .second] [(.long (((fk * (4 : Int64)) * (ff.toInt64)) / fp))]) _ _ _
  refine own_to (fun t k => XS.lload X3.here hx rfl (hb hby at_87) rfl k) ?_
  show own_Out p e below _ T3 (mkF m 89 #[.val (.long x0), .second, .val (.int x1), .val (.int ff), .val (.long fp), .second, .val (.long fh), .second, .val (.long fk), .second, .val (.ref ob1), .val (.long ((fk * (4 : Int64)) * (ff.toInt64))), .second] [(.long fk), (.long (((fk * (4 : Int64)) * (ff.toInt64)) / fp))]) _ _ _
  refine own_to (fun t k => XS.lcmp X3.here hx rfl (hb hby at_89) rfl k) ?_
  show own_Out p e below _ T3 (mkF m 90 #[.val (.long x0), .second, .val (.int x1), .val (.int ff), .val (.long fp), .second, .val (.long fh), .second, .val (.long fk), .second, .val (.ref ob1), .val (.long ((fk * (4 : Int64)) * (ff.toInt64))), .second] [(.int (lcmpW (((fk * (4 : Int64)) * (ff.toInt64)) / fp) fk))]) _ _ _
  have hc90 : (((fk * (4 : Int64)) * (ff.toInt64)) / fp) = fk := b6.2.2
  refine own_to (fun t k => XS.ifNo X3.here hx rfl (hb hby at_90) rfl ((if0 _ _).trans (teq ((lw_eq _ _).mpr hc90)).2) k) ?_
  show own_Out p e below _ T3 (mkF m 93 #[.val (.long x0), .second, .val (.int x1), .val (.int ff), .val (.long fp), .second, .val (.long fh), .second, .val (.long fk), .second, .val (.ref ob1), .val (.long ((fk * (4 : Int64)) * (ff.toInt64))), .second] []) _ _ _
  refine own_to (fun t k => XS.iconst X3.here hx rfl (hb hby at_93) k) ?_
  show own_Out p e below _ T3 (mkF m 94 #[.val (.long x0), .second, .val (.int x1), .val (.int ff), .val (.long fp), .second, .val (.long fh), .second, .val (.long fk), .second, .val (.ref ob1), .val (.long ((fk * (4 : Int64)) * (ff.toInt64))), .second] [(.int (1 : Int32))]) _ _ _
  refine own_to (fun t k => XS.goto X3.here hx rfl (pc0 := 94) (pc' := 98) rfl (hb hby at_94) (by decide) (by decide) k) ?_
  show own_Out p e below _ T3 (mkF m 98 #[.val (.long x0), .second, .val (.int x1), .val (.int ff), .val (.long fp), .second, .val (.long fh), .second, .val (.long fk), .second, .val (.ref ob1), .val (.long ((fk * (4 : Int64)) * (ff.toInt64))), .second] [(.int (1 : Int32))]) _ _ _
  refine own_retV X3 hx hlk (w := .int (1 : Int32)) hret rfl (Or.inl ⟨rfl, by simp, _, rfl⟩) (hb hby at_98) (by decide) (by decide) ?_
  rw [e3]
  exact ⟨rfl, N3⟩
set_option maxRecDepth 65536 in
set_option maxHeartbeats 40000000 in
theorem comes_1 {Post : Tables → Env → Array Value → State → Outcome → State → Prop} (hpost : ∀ tb e args s v u, (limb_1_1.after args s (.returned v) u = true ∧ limb_1_2.after args s (.returned v) u = true ∧ True) → FrameEnd s (.returned v) u (Jvm.fieldLocs frame_1_writes args s ++ Jvm.arrayLocs frame_1_arrays args s ++ Jvm.staticLocs frame_1_statics s) 16 128 → Post tb e args s (.returned v) u) :
    ArmFor flags0 classFile x code maxLocals ret World_1 tables_1 room_1 Calls_1 rest_1 Pre_1 Post := by
  intro l hfl _ _ p e ha hc hk s m args below hf hA hF happ hP
  obtain ⟨hcalls, hrest, hpre⟩ := hP
  obtain ⟨-, -, -, hnamed, -, -, -, hat⟩ := (Spec.applies_iff hf).mp happ
  obtain ⟨hg, hn⟩ := and_e (Cond.before_iff.mp (show (Jvm.Cond.and given_1 narrow_1).before args s = true from hpre))
  obtain ⟨gg2, gg3⟩ := and_e hg
  obtain ⟨gg4, gg5⟩ := and_e gg3
  obtain ⟨w0, w1, rfl⟩ : ∃ w0 w1 : Value, args = #[w0, w1] := by
    have hs : args.size = 2 := by simpa [Cond.value, given_1] using gg2
    obtain ⟨L⟩ := args
    match L, hs with
    | [w0, w1], _ => exact ⟨w0, w1, rfl⟩
  have hw := fun d (hd : d ∈ tables_1) => atoms_spec (ws := Jvm.Cond.code x code maxLocals ret :: tables_1) hat d (List.mem_cons_of_mem _ hd)
  have hfit : Fit s := fun {y c} hc i hi => by
    obtain ⟨ha, rfl⟩ := Array.getElem?_eq_some_iff.mp hc
    have q := List.all_eq_true.mp ((Array.all_eq_true_iff_forall_mem.mp hF) _ (Array.getElem_mem ha)) i (List.mem_range.mpr hi)
    simpa [Array.getElem?_eq_getElem hi] using q
  obtain ⟨i0, ei0⟩ := isL_v gg4
  obtain rfl : w0 = (.long i0) := Option.some.inj ei0
  obtain ⟨i1, ei1⟩ := is_v gg5
  obtain rfl : w1 = (.int i1) := Option.some.inj ei1
  obtain ⟨n, o, h1, h2, h3, _, L, rfl, ⟨rfl, N⟩, hq⟩ := rm0 l s _ hw i0 i1 s.heap s.heap.size (Nat.le_refl _) tables_1 p e ha hc hk s m _ below hf ((Spec.applies_iff_loose hf).mp happ).1 ⟨rfl, State.Warmed39.refl s, rfl⟩ trivial
  refine ⟨n, _, h1, h2, h3, hpost _ _ _ _ _ _ ⟨Cond.after_iff.mpr rfl, Cond.after_iff.mpr (eq_i res_at (Term.int_eval (1)) rfl), trivial⟩ ⟨hq.1, hq.2.1, (hq.2.2.sift fun y hy => Or.inr (N y hy)).mono (by decide) (by decide)⟩⟩
theorem main_1_1 : Claimed_1_1 := comes_1 fun _ _ _ _ _ _ h hF => ⟨h.1, hF⟩
theorem main_1_2 : Claimed_1_2 := comes_1 fun _ _ _ _ _ _ h hF => ⟨h.2.1, hF⟩
end Jvm.Pilot.@@N@@
namespace Jvm.Pilot.@@N@@
open Jvm Jvm.ClassFile Sem Op Lib Jvm.Free Jvm.Stand Jvm.Pilot.@@N@@.Jvm.D
/-! MADE BY PROGRAM (witnessworld.py) out of the Statement's table words and the real class files: 10 classes; the members and pool entries that the words name. The judged class is class 1, her method 1. -/
namespace start1
open Jvm.ClassFile
def u (s : String) : CpInfo := .utf8 (stringToUtf16 s)
/-- a pool by its gaps: so many unusable entries, then the entry; so many at the end -/
def gap : Nat → List CpInfo → List CpInfo
  | 0, r => r
  | n + 1, r => .unusable :: gap n r
def poolList (es : List (Nat × CpInfo)) (last : Nat) : List CpInfo := es.foldr (fun e r => gap e.1 (e.2 :: r)) (gap last [])
def pool (es : List (Nat × CpInfo)) (last : Nat) : Array CpInfo := ⟨poolList es last⟩
def fileOf (pool : Array CpInfo) (this : Nat) (attrs : Array Attribute := #[]) (ms : Array MethodInfo := #[]) (fl : Nat := 33) (sup : Nat := 0) (ifs : Array Nat := #[]) (fds : Array FieldInfo := #[]) : ClassFile where
  minorVersion := 0
  majorVersion := 65
  constantPool := pool
  accessFlags := fl
  thisClass := this
  superClass := sup
  interfaces := ifs
  fields := fds
  methods := ms
  attributes := attrs
def plain (name : String) (sup : Option ClassId) : Class where
  name := name
  kind := .ordinary
  loader := none
  accessFlags := 33
  super := sup
  interfaces := #[]
  cf := none
  fields := #[]
  methods := #[]
  instanceTypes := #[]
  staticTypes := #[]
  resolved := #[]
  callSites := []
  init := .initialized
  statics := none
  mirror := none

def pool0 : Array CpInfo := pool [(5, u "<init>"), (0, u "()V"), (1, .class_ 10), (1, u "java/lang/Object")] 113

def k0c0 : Code := { maxStack := 0, maxLocals := 1, code := object_method_1_code, exceptionTable := #[], attributes := #[] }
def k0m0 : Method := { name := "<init>", desc := "()V", sig := { parameters := [], returnType := none }, accessFlags := 1, code := some k0c0 }
/-- java/lang/Object -/
def k0 : Class := { plain "java/lang/Object" none with
  accessFlags := 33
  interfaces := #[]
  cf := some (fileOf pool0 8 #[] #[{ accessFlags := 1, nameIndex := 5, descriptorIndex := 6, attributes := #[] }] 33 0 #[] #[])
  fields := #[]
  methods := #[k0m0]
  instanceTypes := #[]
  staticTypes := #[]
  resolved := Array.replicate 124 none
  statics := none }

def pool1 : Array CpInfo := pool [(2, .class_ 4), (1, u "java/lang/Object"), (0, u "<init>"), (0, u "()V"), (0, .integer 2147483647), (0, .long 4), (3, .long 9223372036854775807), (1, .long 2), (1, .class_ 17), (0, u "com/example/hemlock_gorge/hemlockgorge/CuckooFilterSize"), (0, .methodref 16 19), (0, .nameAndType 5 20), (0, u "(JI)V"), (0, .methodref 16 22), (0, .nameAndType 23 24), (0, u "bitSize"), (0, u "()J"), (0, .class_ 26), (0, u "com/example/hemlock_gorge/hemlockgorge/CuckooFilterSizeBitSizePinLaw"), (2, u "law"), (0, u "(JI)Z")] 3

def k1m0 : Method := { name := "<init>", desc := "()V", sig := { parameters := [], returnType := none }, accessFlags := 1, code := none }
def k1c1 : Code := { maxStack := 8, maxLocals := 13, code := code, exceptionTable := #[], attributes := #[] }
def k1m1 : Method := { name := "law", desc := "(JI)Z", sig := { parameters := [.long, .int], returnType := some .boolean }, accessFlags := 9, code := some k1c1 }
/-- com/example/hemlock_gorge/hemlockgorge/CuckooFilterSizeBitSizePinLaw -/
def k1 : Class := { plain "com/example/hemlock_gorge/hemlockgorge/CuckooFilterSizeBitSizePinLaw" (some 0) with
  accessFlags := 49
  interfaces := #[]
  cf := some (fileOf pool1 25 #[] #[{ accessFlags := 1, nameIndex := 5, descriptorIndex := 6, attributes := #[] }, { accessFlags := 9, nameIndex := 29, descriptorIndex := 30, attributes := #[] }] 49 2 #[] #[])
  fields := #[]
  methods := #[k1m0, k1m1]
  instanceTypes := #[]
  staticTypes := #[]
  resolved := Array.replicate 34 none
  statics := none }

def pool2 : Array CpInfo := pool [(1, .methodref 2 3), (0, .class_ 4), (0, .nameAndType 5 6), (0, u "java/lang/Object"), (0, u "<init>"), (0, u "()V"), (0, .class_ 8), (0, u "java/lang/Record")] 13

def k2c0 : Code := { maxStack := 1, maxLocals := 1, code := jdk_30_method_1_code, exceptionTable := #[], attributes := #[] }
def k2m0 : Method := { name := "<init>", desc := "()V", sig := { parameters := [], returnType := none }, accessFlags := 4, code := some k2c0 }
/-- java/lang/Record -/
def k2 : Class := { plain "java/lang/Record" (some 0) with
  accessFlags := 1057
  interfaces := #[]
  cf := some (fileOf pool2 7 #[] #[{ accessFlags := 4, nameIndex := 5, descriptorIndex := 6, attributes := #[] }] 1057 2 #[] #[])
  fields := #[]
  methods := #[k2m0]
  instanceTypes := #[]
  staticTypes := #[]
  resolved := Array.replicate 22 none
  statics := none }

def pool3 : Array CpInfo := pool [(1, .methodref 2 3), (0, .class_ 4), (0, .nameAndType 5 6), (0, u "java/lang/Record"), (0, u "<init>"), (0, u "()V"), (0, .fieldref 8 9), (0, .class_ 10), (0, .nameAndType 11 12), (0, u "com/example/hemlock_gorge/hemlockgorge/CuckooFilterSize"), (0, u "bucketCount"), (0, u "J"), (0, .fieldref 8 14), (0, .nameAndType 15 16), (0, u "fingerprintBits"), (0, u "I"), (44, u "(JI)V"), (0, .long 4), (3, u "bitSize"), (0, u "()J"), (14, u "SLOTS"), (2, u "MAX_FINGERPRINT_BITS"), (1, u "KEYS_PER_PAIR_NUMERATOR"), (0, u "KEYS_PER_PAIR_DENOMINATOR"), (0, u "SPARE_KEYS")] 41

def k3c0 : Code := { maxStack := 3, maxLocals := 4, code := prog_8_method_1_code, exceptionTable := #[], attributes := #[] }
def k3m0 : Method := { name := "<init>", desc := "(JI)V", sig := { parameters := [.long, .int], returnType := none }, accessFlags := 0, code := some k3c0 }
def k3c1 : Code := { maxStack := 4, maxLocals := 1, code := prog_8_method_3_code, exceptionTable := #[], attributes := #[] }
def k3m1 : Method := { name := "bitSize", desc := "()J", sig := { parameters := [], returnType := some .long }, accessFlags := 0, code := some k3c1 }
/-- com/example/hemlock_gorge/hemlockgorge/CuckooFilterSize -/
def k3 : Class := { plain "com/example/hemlock_gorge/hemlockgorge/CuckooFilterSize" (some 2) with
  accessFlags := 48
  interfaces := #[]
  cf := some (fileOf pool3 8 #[] #[{ accessFlags := 0, nameIndex := 5, descriptorIndex := 61, attributes := #[] }, { accessFlags := 0, nameIndex := 66, descriptorIndex := 67, attributes := #[] }] 48 2 #[] #[{ accessFlags := 18, nameIndex := 11, descriptorIndex := 12, attributes := #[] }, { accessFlags := 18, nameIndex := 15, descriptorIndex := 16, attributes := #[] }, { accessFlags := 24, nameIndex := 82, descriptorIndex := 16, attributes := #[] }, { accessFlags := 24, nameIndex := 85, descriptorIndex := 16, attributes := #[] }, { accessFlags := 26, nameIndex := 87, descriptorIndex := 12, attributes := #[] }, { accessFlags := 26, nameIndex := 88, descriptorIndex := 12, attributes := #[] }, { accessFlags := 26, nameIndex := 89, descriptorIndex := 12, attributes := #[] }])
  fields := #[{ name := "bucketCount", type := .long, accessFlags := 18, slot := 0, constantValue := 0 }, { name := "fingerprintBits", type := .int, accessFlags := 18, slot := 1, constantValue := 0 }, { name := "SLOTS", type := .int, accessFlags := 24, slot := 0, constantValue := 0 }, { name := "MAX_FINGERPRINT_BITS", type := .int, accessFlags := 24, slot := 1, constantValue := 0 }, { name := "KEYS_PER_PAIR_NUMERATOR", type := .long, accessFlags := 26, slot := 2, constantValue := 0 }, { name := "KEYS_PER_PAIR_DENOMINATOR", type := .long, accessFlags := 26, slot := 3, constantValue := 0 }, { name := "SPARE_KEYS", type := .long, accessFlags := 26, slot := 4, constantValue := 0 }]
  methods := #[k3m0, k3m1]
  instanceTypes := #[.long, .int]
  staticTypes := #[.int, .int, .long, .long, .long]
  resolved := Array.replicate 131 none
  statics := none }

def pool4 : Array CpInfo := pool [(1, u "java/lang/Cloneable"), (0, .class_ 1), (0, u "java/lang/Object"), (0, .class_ 3)] 3

/-- java/lang/Cloneable -/
def k4 : Class := { plain "java/lang/Cloneable" (some 0) with
  accessFlags := 1537
  interfaces := #[]
  cf := some (fileOf pool4 2 #[] #[] 1537 4 #[] #[])
  fields := #[]
  methods := #[]
  instanceTypes := #[]
  staticTypes := #[]
  resolved := Array.replicate 8 none
  statics := none }

def pool5 : Array CpInfo := pool [(1, u "java/io/Serializable"), (0, .class_ 1), (0, u "java/lang/Object"), (0, .class_ 3)] 3

/-- java/io/Serializable -/
def k5 : Class := { plain "java/io/Serializable" (some 0) with
  accessFlags := 1537
  interfaces := #[]
  cf := some (fileOf pool5 2 #[] #[] 1537 4 #[] #[])
  fields := #[]
  methods := #[]
  instanceTypes := #[]
  staticTypes := #[]
  resolved := Array.replicate 8 none
  statics := none }

/-- the primitive byte -/
def k6 : Class := { plain "byte" none with kind := .primitive 'B', accessFlags := 0x411 }
/-- [B -/
def k7 : Class := { plain "[B" (some 0) with kind := .array 6 .byte, interfaces := #[4, 5], accessFlags := 1041 }

/-- the primitive int -/
def k8 : Class := { plain "int" none with kind := .primitive 'I', accessFlags := 0x411 }
/-- [I -/
def k9 : Class := { plain "[I" (some 0) with kind := .array 8 .int, interfaces := #[4, 5], accessFlags := 1041 }

def heap : Heap := #[]
def classes : Array Class := #[k0, k1, k2, k3, k4, k5, k6, k7, k8, k9]
def interned : List (Array UInt16 × Addr) := []
def slotsUsed : Nat := 0
def theMethod : MethodId := ⟨1, 1⟩
def args0 : Array Value := #[.long 5, .int 65]
def aboutOver (below : List Frame) : State where
  vm := { classes := classes, interned := interned.toArray }
  heap := heap
  slotsUsed := slotsUsed
  threads := #[{ frames := .invoking theMethod args0 :: below }]
def below0 : List Frame := [.native { method := ⟨0, 0⟩, args := #[] }]
def about1 : State := aboutOver below0
def p0 : Program := .bare "" "" ""
def e0 : Env := launch0.env 0 0 0
theorem w_frames : about1.frames = Frame.invoking theMethod args0 :: below0 := rfl
set_option maxRecDepth 65536 in
theorem w_args : argsFit about1.vm theMethod args0 = true := by decide +kernel
set_option maxRecDepth 65536 in
theorem w_heap : heapFits about1 = true := by decide +kernel
set_option maxRecDepth 65536 in
theorem w_runnable : about1.curStatus? = some .runnable := by decide +kernel
set_option maxRecDepth 65536 in
theorem w_alone : about1.alone = true := by decide +kernel
set_option maxRecDepth 65536 in
theorem w_named : about1.methodNamed? x = some theMethod := by decide +kernel
set_option maxRecDepth 65536 in
theorem w_hears : about1.hears theMethod below0 = true := by decide +kernel
set_option maxRecDepth 65536 in
theorem w_ripe : about1.ripe theMethod args0 below0 = true := by decide +kernel
theorem w_running : about1.status = .running := rfl
set_option maxRecDepth 65536 in
theorem w_room : about1.hasRoom e0.platform room_1 = true :=
  launch0.hasRoom_least _ room_1 (by decide +kernel) (by decide +kernel) (by decide +kernel) (by decide +kernel) (by decide +kernel) (by decide +kernel)
theorem allAtoms_all (ts : List Jvm.Cond) (a : Array Jvm.Value) (st : Jvm.State) : (allAtoms ts).before a st = ts.all (fun c => c.before a st) := by
  induction ts with
  | nil => rfl
  | cons c t ih =>
    show (Jvm.Cond.and c (allAtoms t)).before a st = _
    rw [Jvm.Cond.before_and, ih, List.all_cons]
def words1 : List Jvm.Cond := Jvm.Cond.code x code maxLocals ret :: tables_1
/-- a 'code' word, met by the world's own term for the bytes: nothing is compared byte by byte -/
theorem code_word {y : MethodName} {bytes : ByteArray} {mx : Nat} {rt : Option FieldType} {a : Array Value} {s : State} {m : MethodId} {meth : Method} {c : Code} (h1 : s.methodNamed? y = some m) (h2 : s.vm.method? m = some meth) (h3 : meth.code = some c) (h4 : c.code = bytes)
    (h5 : (c.maxLocals == mx && c.exceptionTable.isEmpty && decide (c.maxStack ≤ mostOperands) && decide (meth.sig.returnType = rt) && !meth.locks && decide (parseMethodDescriptor y.desc = some meth.sig)) = true) : (Jvm.Cond.code y bytes mx rt).before a s = true := by
  simp only [Bool.and_eq_true, beq_iff_eq, Bool.not_eq_true', decide_eq_true_eq] at h5
  obtain ⟨⟨⟨⟨⟨g1, g2⟩, g3⟩, g4⟩, g5⟩, g6⟩ := h5
  simp [Cond.before, Cond.holds, Cond.value, h1, h2, h3, h4, g1, g2, g3, g4, g5, g6]
def isCode : Jvm.Cond → Bool
  | .code _ _ _ _ => true
  | _ => false
theorem all_split {L : List Jvm.Cond} {P : Jvm.Cond → Bool} (h1 : L.all (fun c => isCode c || P c) = true) (h2 : ∀ c ∈ L.filter isCode, P c = true) : L.all P = true := by
  refine List.all_eq_true.mpr fun c hc => ?_
  have h := List.all_eq_true.mp h1 c hc
  rcases Bool.eq_false_or_eq_true (isCode c) with hi | hi
  · exact h2 c (List.mem_filter.mpr ⟨hc, hi⟩)
  · simpa [hi] using h
set_option maxRecDepth 65536 in
theorem w_c0 : (Jvm.Cond.code x code maxLocals ret).before args0 about1 = true := code_word (m := ⟨1, 1⟩) (meth := k1m1) (c := k1c1) (by decide +kernel) rfl rfl rfl (by decide +kernel)
set_option maxRecDepth 65536 in
theorem w_c1 : (Jvm.Cond.code ({ cls := "com/example/hemlock_gorge/hemlockgorge/CuckooFilterSize", name := "<init>", desc := "(JI)V" } : Jvm.MethodName) prog_8_method_1_code (4 : Nat) (Option.none : Option Jvm.ClassFile.FieldType)).before args0 about1 = true := code_word (m := ⟨3, 0⟩) (meth := k3m0) (c := k3c0) (by decide +kernel) rfl rfl rfl (by decide +kernel)
set_option maxRecDepth 65536 in
theorem w_c2 : (Jvm.Cond.code ({ cls := "java/lang/Record", name := "<init>", desc := "()V" } : Jvm.MethodName) jdk_30_method_1_code (1 : Nat) (Option.none : Option Jvm.ClassFile.FieldType)).before args0 about1 = true := code_word (m := ⟨2, 0⟩) (meth := k2m0) (c := k2c0) (by decide +kernel) rfl rfl rfl (by decide +kernel)
set_option maxRecDepth 65536 in
theorem w_c3 : (Jvm.Cond.code ({ cls := "java/lang/Object", name := "<init>", desc := "()V" } : Jvm.MethodName) object_method_1_code (1 : Nat) (Option.none : Option Jvm.ClassFile.FieldType)).before args0 about1 = true := code_word (m := ⟨0, 0⟩) (meth := k0m0) (c := k0c0) (by decide +kernel) rfl rfl rfl (by decide +kernel)
set_option maxRecDepth 65536 in
theorem w_c4 : (Jvm.Cond.code ({ cls := "com/example/hemlock_gorge/hemlockgorge/CuckooFilterSize", name := "bitSize", desc := "()J" } : Jvm.MethodName) prog_8_method_3_code (1 : Nat) (Option.some Jvm.ClassFile.FieldType.long)).before args0 about1 = true := code_word (m := ⟨3, 1⟩) (meth := k3m1) (c := k3c1) (by decide +kernel) rfl rfl rfl (by decide +kernel)
def codes1 : List Jvm.Cond := [Jvm.Cond.code x code maxLocals ret, Jvm.Cond.code ({ cls := "com/example/hemlock_gorge/hemlockgorge/CuckooFilterSize", name := "<init>", desc := "(JI)V" } : Jvm.MethodName) prog_8_method_1_code (4 : Nat) (Option.none : Option Jvm.ClassFile.FieldType), Jvm.Cond.code ({ cls := "java/lang/Record", name := "<init>", desc := "()V" } : Jvm.MethodName) jdk_30_method_1_code (1 : Nat) (Option.none : Option Jvm.ClassFile.FieldType), Jvm.Cond.code ({ cls := "java/lang/Object", name := "<init>", desc := "()V" } : Jvm.MethodName) object_method_1_code (1 : Nat) (Option.none : Option Jvm.ClassFile.FieldType), Jvm.Cond.code ({ cls := "com/example/hemlock_gorge/hemlockgorge/CuckooFilterSize", name := "bitSize", desc := "()J" } : Jvm.MethodName) prog_8_method_3_code (1 : Nat) (Option.some Jvm.ClassFile.FieldType.long)]
set_option maxRecDepth 65536 in
theorem codes_eq : words1.filter isCode = codes1 := rfl
theorem w_codes : ∀ c ∈ words1.filter isCode, c.before args0 about1 = true := by
  rw [codes_eq]
  intro c hc
  simp only [codes1, List.mem_cons, List.not_mem_nil, or_false] at hc
  rcases hc with rfl | rfl | rfl | rfl | rfl
  · exact w_c0
  · exact w_c1
  · exact w_c2
  · exact w_c3
  · exact w_c4
set_option maxRecDepth 65536 in
theorem w_t1 : (words1.take 24).all (fun c => isCode c || c.before args0 about1) = true := by decide +kernel
set_option maxRecDepth 65536 in
theorem w_t2 : (words1.drop 24).all (fun c => isCode c || c.before args0 about1) = true := by decide +kernel
theorem w_tables : (allAtoms (Jvm.Cond.code x code maxLocals ret :: tables_1)).before args0 about1 = true := by
  rw [allAtoms_all]
  show words1.all (fun c => c.before args0 about1) = true
  refine all_split ?_ w_codes
  rw [← List.take_append_drop 24 words1, List.all_append, w_t1, w_t2]
  rfl
set_option maxRecDepth 65536 in
theorem w_case : (Jvm.Cond.and given_1 narrow_1).before args0 about1 = true := by decide +kernel
theorem w_applies : (headSpec (Jvm.Cond.code x code maxLocals ret :: tables_1) room_1).applies x e0.platform about1 = true :=
  (Spec.applies_iff w_frames).mpr ⟨w_running, w_runnable, w_alone, w_named, w_hears, w_ripe, w_room, w_tables⟩
theorem atStart : AtStart classFile x code maxLocals ret World_1 tables_1 room_1 Calls_1 rest_1 Pre_1 launch0 p0 e0 about1 theMethod args0 below0 :=
  ⟨lists_1, trivial, launch0.admits_env _ _ _, launch0.least_env, fairChoices_fair.cas, fairChoices_fair.clock, w_frames, w_args, w_heap, w_applies, trivial, trivial, w_case⟩
end start1
theorem witness_1 : WitnessClaimed_1 := ⟨start1.p0, start1.e0, start1.about1, start1.theMethod, start1.args0, start1.below0, start1.atStart⟩
end Jvm.Pilot.@@N@@
