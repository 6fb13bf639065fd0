import JvmDerived
import JvmDerived.Pilot.@@N@@Statement
import JvmDerived.Pilot.@@N@@Code
set_option linter.unusedVariables false
set_option linter.unusedSimpArgs false
namespace Jvm.Pilot.@@N@@
open Jvm Jvm.ClassFile Sem Op Lib Jvm.Free Jvm.Stand Jvm.LawKit Jvm.RoadKit Bundle Jvm.Pilot.@@N@@.Jvm.D
section OwnKit
variable {p : Program} {l : Launch} {e : Env} {R : Room} {s : State} {m : MethodId} {args : Array Value} {below : List Frame} {meth : Method} {c : Code} {T T' : State} {locs : List Loc} {cells slots kc ks : Nat} {g g' : JFrame} {Q : Option Value → Heap → List Loc → Prop} {Z : State} {h h' : Heap} {a0 : Array Value} {En : Outcome → State → List Loc → Nat → Nat → Prop}
/-- from this frame the run comes to the method's end and leaves what Q says -/
def own_Out (p : Program) (e : Env) (below : List Frame) (En : Outcome → State → List Loc → Nat → Nat → Prop) (T : State) (g : JFrame) (Q : Option Value → Heap → List Loc → Prop) (kc ks : Nat) : Prop :=
  ∃ (t : State) (o : Outcome), Steps p.tables e below (T.setTop g) t ∧ t.status = .running ∧ Ended t below o ∧ ∃ (v : Option Value) (L : List Loc), o = .returned v ∧ Q v t.heap L ∧ En o t L kc ks
theorem own_to (st : ∀ t, Steps p.tables e below (T'.setTop g') t → Steps p.tables e below (T.setTop g) t) (k : own_Out p e below En T' g' Q kc ks) : own_Out p e below En T g Q kc ks := by
  obtain ⟨t, o, h1, h2⟩ := k
  exact ⟨t, o, st t h1, h2⟩
theorem own_cast (q : g = g') (k : own_Out p e below En T g' Q kc ks) : own_Out p e below En T g Q kc ks := q ▸ k
/-- a method's contract: called with these arguments over this heap it returns, and Q says what it leaves -/
def own_C (l : Launch) (Z : State) (y : MethodName) (bytes : ByteArray) (maxL : Nat) (ret : Option FieldType) (rm : Room) (as' : Array Value) (h0 : Heap) (Q : Option Value → Heap → List Loc → Prop) : Prop :=
  ∀ ws : List Jvm.Cond, MetFree l y (head1 (Jvm.Cond.code y bytes maxL ret :: ws) rm) (fun a U => a = as' ∧ Z.Warmed39 U.vm ∧ U.heap = h0) (fun _ _ _ _ _ => True) (fun _ U o U' => ∃ v L, o = .returned v ∧ Q v U'.heap L ∧ FrameEnd U o U' L rm.cells rm.slots)
theorem own_met {y : MethodName} {bytes : ByteArray} {maxL : Nat} {ret : Option FieldType} {rm : Room} {as' : Array Value} {h0 : Heap} (pl : plainFor y = true)
    (body : ∀ (p : Program) (e : Env) (s : State) (m : MethodId) (below : List Frame) (meth : Method) (c : Code) (s₁ : State), p.tables.exec = Jvm.exec → c.code = bytes → c.maxLocals = maxL → meth.sig.returnType = ret → meth.locks = false → s.vm.findClass y.cls = some m.cls → meth.name = y.name → Z.Warmed39 s.vm → Stand p l e rm s m as' below meth c s₁ [] 0 0 → s₁.heap = h0 → own_Out p e below (FrameEnd s) s₁ (entryFrame m as' maxL) Q rm.cells rm.slots) :
    own_C l Z y bytes maxL ret rm as' h0 Q := by
  intro ws
  refine MetFree.of_bodySF pl hisR ?_
  intro p e s m args below meth c s₁ Bd hml0 hP hK
  obtain ⟨rfl, hZ, hh⟩ := hP
  exact body p e s m below meth c s₁ Bd.exec Bd.bytes hml0 Bd.returns (BodyLoose.notSynchronized Bd) (findClass_of_methodNamed Bd.named) ((name_of_methodNamed Bd.named Bd.method).1) hZ (Stand.of_body Bd) (by rw [← hh, Bd.state]; rfl)
/-! returns -/
theorem own_retV (X : Stand p l e R s m args below meth c T locs cells slots) (hx : p.tables.exec = Jvm.exec) (hlk : meth.locks = false) {pc : Nat} {Ls : Array Slot} {w : Value} {t : FieldType} {i : Instr} {rest : List Value} (hret : meth.sig.returnType = some t) (hn : narrow t w = w)
    (hi : (i = .ireturn ∧ (t = .int ∨ t = .boolean ∨ t = .byte ∨ t = .char ∨ t = .short) ∧ ∃ z, w = .int z) ∨ (i = .lreturn ∧ t = .long ∧ ∃ z, w = .long z) ∨ (i = .dreturn ∧ t = .double ∧ ∃ z, w = .double z) ∨ (i = .freturn ∧ t = .float ∧ ∃ z, w = .float z) ∨ (i = .areturn ∧ t.isReference = true ∧ w.isRef = true))
    (hd : decode c.code pc = .ok (i, 1)) (hc : cells ≤ kc) (hs : slots ≤ ks) (hQ : Q (some w) T.heap locs) : own_Out p e below (FrameEnd s) T (mkF m pc Ls (w :: rest)) Q kc ks := by
  obtain ⟨fs, hr, hrun, hended, hW, hsame⟩ := X.leave (v := some w) (fun h => by rw [hret] at h; cases h) hlk
  exact ⟨_, _, retOut X hx hret hn hi hd hr, hrun, hended, _, _, rfl, hQ, ⟨_, rfl⟩, hW, hsame.mono hc hs⟩
theorem own_retI (X : Stand p l e R s m args below meth c T locs cells slots) (hx : p.tables.exec = Jvm.exec) (hlk : meth.locks = false) (hret : meth.sig.returnType = some .int) {pc : Nat} {Ls : Array Slot} {z : Int32} {rest : List Value}
    (hd : decode c.code pc = .ok (.ireturn, 1)) (hc : cells ≤ kc) (hs : slots ≤ ks) (hQ : Q (some (.int z)) T.heap locs) : own_Out p e below (FrameEnd s) T (mkF m pc Ls (.int z :: rest)) Q kc ks :=
  own_retV X hx hlk hret rfl (Or.inl ⟨rfl, Or.inl rfl, _, rfl⟩) hd hc hs hQ
theorem own_retJ (X : Stand p l e R s m args below meth c T locs cells slots) (hx : p.tables.exec = Jvm.exec) (hlk : meth.locks = false) (hret : meth.sig.returnType = some .long) {pc : Nat} {Ls : Array Slot} {z : Int64} {rest : List Value}
    (hd : decode c.code pc = .ok (.lreturn, 1)) (hc : cells ≤ kc) (hs : slots ≤ ks) (hQ : Q (some (.long z)) T.heap locs) : own_Out p e below (FrameEnd s) T (mkF m pc Ls (.long z :: rest)) Q kc ks :=
  own_retV X hx hlk hret rfl (Or.inr (Or.inl ⟨rfl, rfl, _, rfl⟩)) hd hc hs hQ
theorem own_retA (X : Stand p l e R s m args below meth c T locs cells slots) (hx : p.tables.exec = Jvm.exec) (hlk : meth.locks = false) {t : FieldType} (hret : meth.sig.returnType = some t) (ht : t.isReference = true) {pc : Nat} {Ls : Array Slot} {z : Addr} {rest : List Value}
    (hd : decode c.code pc = .ok (.areturn, 1)) (hc : cells ≤ kc) (hs : slots ≤ ks) (hQ : Q (some (.ref z)) T.heap locs) : own_Out p e below (FrameEnd s) T (mkF m pc Ls (.ref z :: rest)) Q kc ks :=
  own_retV X hx hlk hret (by cases t <;> rfl) (Or.inr (Or.inr (Or.inr (Or.inr ⟨rfl, ht, rfl⟩)))) hd hc hs hQ
/-- a boolean, byte, char or short: the value is narrowed -/
theorem own_retN (X : Stand p l e R s m args below meth c T locs cells slots) (hx : p.tables.exec = Jvm.exec) (hlk : meth.locks = false) {t : FieldType} (hret : meth.sig.returnType = some t) (ht : t = .boolean ∨ t = .byte ∨ t = .char ∨ t = .short) {pc : Nat} {Ls : Array Slot} {z : Int32} {rest : List Value}
    (hd : decode c.code pc = .ok (.ireturn, 1)) (hc : cells ≤ kc) (hs : slots ≤ ks) (hQ : Q (some (.int (nar t z))) T.heap locs) : own_Out p e below (FrameEnd s) T (mkF m pc Ls (.int z :: rest)) Q kc ks := by
  obtain ⟨fs, hr, hrun, hended, hW, hsame⟩ := X.leave (v := some (.int (nar t z))) (fun h => by rw [hret] at h; cases h) hlk
  exact ⟨_, _, retN X hx hret ht hd hr, hrun, hended, _, _, rfl, hQ, ⟨_, rfl⟩, hW, hsame.mono hc hs⟩
theorem own_ret0 (X : Stand p l e R s m args below meth c T locs cells slots) (hx : p.tables.exec = Jvm.exec) (hlk : meth.locks = false) (hret : meth.sig.returnType = none) {pc : Nat} {Ls : Array Slot}
    (hd : decode c.code pc = .ok (.return_, 1)) (hc : cells ≤ kc) (hs : slots ≤ ks) (hQ : Q none T.heap locs) : own_Out p e below (FrameEnd s) T (mkF m pc Ls []) Q kc ks := by
  obtain ⟨fs, hr, hrun, hended, hW, hsame⟩ := X.leave (v := none) (fun _ => rfl) hlk
  exact ⟨_, _, X.returnOut hx hret hd hr, hrun, hended, _, _, rfl, hQ, ⟨_, rfl⟩, hW, hsame.mono hc hs⟩
/-! calls -/
theorem own_callS (X : Stand p l e R s m args below meth c T locs cells slots) (hx : p.tables.exec = Jvm.exec) (hZ : Z.Warmed39 s.vm) {own : String} (hown : s.vm.findClass own = some m.cls) {index : Nat} {y : MethodName} {bytes : ByteArray} {maxL : Nat} {ret : Option FieldType} {rm : Room} {W : Nat} {Qc : Option Value → Heap → List Loc → Prop} {argsL rest : List Value}
    (w1 : (Jvm.Cond.methodLink own index y).before a0 Z = true) (w2 : (Jvm.Cond.static y).before a0 Z = true) (w3 : (Jvm.Cond.initialized y.cls).before a0 Z = true) (w4 : (Jvm.Cond.code y bytes maxL ret).before a0 Z = true) (hy : y.cls ≠ "java/lang/invoke/MethodHandle" ∧ y.cls ≠ "java/lang/invoke/VarHandle")
    (hM : own_C l Z y bytes maxL ret rm argsL.toArray h Qc) (hf : rm.frames + 1 ≤ R.frames) (hl : W + (maxL + 11) + rm.locals ≤ R.locals) (eT : T.heap = h) (hg : g.method = m) (hsize : g.locals.size = c.maxLocals) (hlen : ∀ sig, parseMethodDescriptor y.desc = some sig → argsL.length = sig.parameters.length)
    (hstack : g.stack = argsL.reverse ++ rest) (hW : 2 * g.monitorRoom + (rest.map fun v => v.category).sum ≤ W) (hd : decode c.code g.pc = .ok (.invokestatic index, 3)) (hc : cells + rm.cells ≤ R.cells) (hs : slots + rm.slots ≤ R.slots)
    (k : ∀ (v : Option Value) (T' : State) (h' : Heap) (L : List Loc), Stand p l e R s m args below meth c T' (locs ++ L) (cells + rm.cells) (slots + rm.slots) → T'.heap = h' → Qc v h' L → own_Out p e below En T' { g with pc := g.pc + 3, stack := v.toList ++ rest } Q kc ks) : own_Out p e below En T g Q kc ks := by
  obtain ⟨v, _, ⟨T', L', k', n'⟩, -, X', ⟨Lc, hQ, l1, l2, l3⟩, st⟩ := Jvm.LawKit.callS X hx hown (mvT hZ w1) (mvT hZ w2) (mvT hZ w3) (mvT hZ w4) hy (backOf (W := W) (hM []) hZ w4 w3 hf hl) hg hsize hlen hstack hW hd (fun _ _ => ⟨rfl, eT, hc, hs⟩)
  dsimp only [Pt.U, Pt.locs, Pt.cells, Pt.slots] at X' l1 l2 l3 st hQ
  subst l1 l2 l3
  exact own_to st (k v T' _ Lc X' rfl hQ)
/-- a constructor -/
theorem own_callC (X : Stand p l e R s m args below meth c T locs cells slots) (hx : p.tables.exec = Jvm.exec) (hZ : Z.Warmed39 s.vm) {own : String} (hown : s.vm.findClass own = some m.cls) {index : Nat} {y : MethodName} {bytes : ByteArray} {maxL : Nat} {rm : Room} {W : Nat} {Qc : Option Value → Heap → List Loc → Prop} {a : Addr} {argsL rest : List Value}
    (hy1 : y.name = "<init>") (w1 : (Jvm.Cond.methodLink own index y).before a0 Z = true) (w2 : (Jvm.Cond.instanceMethod y).before a0 Z = true) (w3 : (Jvm.Cond.initialized y.cls).before a0 Z = true) (w4 : (Jvm.Cond.code y bytes maxL none).before a0 Z = true) (hy : y.cls ≠ "java/lang/invoke/MethodHandle" ∧ y.cls ≠ "java/lang/invoke/VarHandle")
    (hM : own_C l Z y bytes maxL none rm (.ref a :: argsL).toArray h Qc) (hf : rm.frames + 1 ≤ R.frames) (hl : W + (maxL + 11) + rm.locals ≤ R.locals) (eT : T.heap = h) (hg : g.method = m) (hsize : g.locals.size = c.maxLocals) (hlen : ∀ sig, parseMethodDescriptor y.desc = some sig → argsL.length = sig.parameters.length)
    (hstack : g.stack = argsL.reverse ++ .ref a :: rest) (hW : 2 * g.monitorRoom + (rest.map fun v => v.category).sum ≤ W) (hd : decode c.code g.pc = .ok (.invokespecial index, 3)) (hc : cells + rm.cells ≤ R.cells) (hs : slots + rm.slots ≤ R.slots)
    (k : ∀ (v : Option Value) (T' : State) (h' : Heap) (L : List Loc), Stand p l e R s m args below meth c T' (locs ++ L) (cells + rm.cells) (slots + rm.slots) → T'.heap = h' → Qc v h' L → own_Out p e below En T' { g with pc := g.pc + 3, stack := v.toList ++ rest } Q kc ks) : own_Out p e below En T g Q kc ks := by
  obtain ⟨v, _, ⟨T', L', k', n'⟩, -, X', ⟨Lc, hQ, l1, l2, l3⟩, st⟩ := X.specialBack hx hy1 hown (mvT hZ w1) (mvT hZ w2) (mvT hZ w4) hy (backOf (W := W) (hM []) hZ w4 w3 hf hl) hg hsize (Steps.refl _) hlen hstack hW hd (fun _ _ => ⟨rfl, eT, hc, hs⟩)
  dsimp only [Pt.U, Pt.locs, Pt.cells, Pt.slots] at X' l1 l2 l3 st hQ
  subst l1 l2 l3
  exact own_to (fun t k => st.trans k) (k v T' _ Lc X' rfl hQ)
/-- an instance method of the object's own class -/
theorem own_callV (X : Stand p l e R s m args below meth c T locs cells slots) (hx : p.tables.exec = Jvm.exec) (hZ : Z.Warmed39 s.vm) {own C : String} (hown : s.vm.findClass own = some m.cls) {index : Nat} {y : MethodName} {bytes : ByteArray} {maxL : Nat} {ret : Option FieldType} {rm : Room} {W : Nat} {Qc : Option Value → Heap → List Loc → Prop} {a : Addr} {argsL rest : List Value}
    (w1 : (Jvm.Cond.methodLink own index y).before a0 Z = true) (w5 : (Jvm.Cond.declares y).before a0 Z = true) (w6 : (Jvm.Cond.selects C y y).before a0 Z = true) (w2 : (Jvm.Cond.instanceMethod y).before a0 Z = true) (w3 : (Jvm.Cond.initialized y.cls).before a0 Z = true) (w4 : (Jvm.Cond.code y bytes maxL ret).before a0 Z = true) (hy : y.cls ≠ "java/lang/invoke/MethodHandle" ∧ y.cls ≠ "java/lang/invoke/VarHandle")
    (hM : own_C l Z y bytes maxL ret rm (.ref a :: argsL).toArray h Qc) (hf : rm.frames + 1 ≤ R.frames) (hl : W + (maxL + 11) + rm.locals ≤ R.locals) (eT : T.heap = h) (E : Exa Z h a C) (hg : g.method = m) (hsize : g.locals.size = c.maxLocals) (hlen : ∀ sig, parseMethodDescriptor y.desc = some sig → argsL.length = sig.parameters.length)
    (hstack : g.stack = argsL.reverse ++ .ref a :: rest) (hW : 2 * g.monitorRoom + (rest.map fun v => v.category).sum ≤ W) (hd : decode c.code g.pc = .ok (.invokevirtual index, 3)) (hc : cells + rm.cells ≤ R.cells) (hs : slots + rm.slots ≤ R.slots)
    (k : ∀ (v : Option Value) (T' : State) (h' : Heap) (L : List Loc), Stand p l e R s m args below meth c T' (locs ++ L) (cells + rm.cells) (slots + rm.slots) → T'.heap = h' → Qc v h' L → own_Out p e below En T' { g with pc := g.pc + 3, stack := v.toList ++ rest } Q kc ks) : own_Out p e below En T g Q kc ks := by
  obtain ⟨cq, kq, qa, qb, qc⟩ := isOf hZ eT E
  obtain ⟨v, _, ⟨T', L', k', n'⟩, -, X', ⟨Lc, hQ, l1, l2, l3⟩, st⟩ := X.virtualBack hx hown (mvT hZ w1) (mvT hZ w5) (notFace_of_selects (args := #[]) (mvT hZ w6)) (mvT hZ w6) (mvT hZ w2) hy (backOf (W := W) (hM []) hZ w4 w3 hf hl) qa qc hg hsize (Steps.refl _) hlen hstack hW hd (fun _ _ => ⟨rfl, eT, hc, hs⟩)
  dsimp only [Pt.U, Pt.locs, Pt.cells, Pt.slots] at X' l1 l2 l3 st hQ
  subst l1 l2 l3
  exact own_to (fun t k => st.trans k) (k v T' _ Lc X' rfl hQ)
/-- a private method of the object's own class, by invokevirtual -/
theorem own_callP (X : Stand p l e R s m args below meth c T locs cells slots) (hx : p.tables.exec = Jvm.exec) (hZ : Z.Warmed39 s.vm) {own C : String} (hown : s.vm.findClass own = some m.cls) {index kk : Nat} {y : MethodName} {bytes : ByteArray} {maxL : Nat} {ret : Option FieldType} {rm : Room} {W : Nat} {Qc : Option Value → Heap → List Loc → Prop} {a : Addr} {argsL rest : List Value}
    (w1 : (Jvm.Cond.methodLink own index y).before a0 Z = true) (w5 : (Jvm.Cond.privateMethod y).before a0 Z = true) (w6 : (Jvm.Cond.instantiable y.cls kk).before a0 Z = true) (w2 : (Jvm.Cond.instanceMethod y).before a0 Z = true) (w3 : (Jvm.Cond.initialized y.cls).before a0 Z = true) (w4 : (Jvm.Cond.code y bytes maxL ret).before a0 Z = true) (hy : y.cls ≠ "java/lang/invoke/MethodHandle" ∧ y.cls ≠ "java/lang/invoke/VarHandle")
    (hM : own_C l Z y bytes maxL ret rm (.ref a :: argsL).toArray h Qc) (hf : rm.frames + 1 ≤ R.frames) (hl : W + (maxL + 11) + rm.locals ≤ R.locals) (eT : T.heap = h) (E : Exa Z h a C) (hg : g.method = m) (hsize : g.locals.size = c.maxLocals) (hlen : ∀ sig, parseMethodDescriptor y.desc = some sig → argsL.length = sig.parameters.length)
    (hstack : g.stack = argsL.reverse ++ .ref a :: rest) (hW : 2 * g.monitorRoom + (rest.map fun v => v.category).sum ≤ W) (hd : decode c.code g.pc = .ok (.invokevirtual index, 3)) (hc : cells + rm.cells ≤ R.cells) (hs : slots + rm.slots ≤ R.slots)
    (k : ∀ (v : Option Value) (T' : State) (h' : Heap) (L : List Loc), Stand p l e R s m args below meth c T' (locs ++ L) (cells + rm.cells) (slots + rm.slots) → T'.heap = h' → Qc v h' L → own_Out p e below En T' { g with pc := g.pc + 3, stack := v.toList ++ rest } Q kc ks) : own_Out p e below En T g Q kc ks := by
  obtain ⟨cq, q, q'⟩ := E.cell
  have hp : s.PrivateAt y := Cond.privateMethod_at (mvP hZ w5 (args := #[]))
  obtain ⟨cy, ky, f1, f2, -, f3, -⟩ := Cond.instantiable_spec (mvT (args := args) hZ w6)
  have hi : ky.isInterface = false := (Bool.or_eq_false_iff.mp f3).1
  have hse : (Jvm.Cond.selects y.cls y y).before args s = true := selects_self_of_private f1 f2 hi hp (mvT hZ w2) hy
  obtain ⟨v, _, ⟨T', L', k', n'⟩, -, X', ⟨Lc, hQ, l1, l2, l3⟩, st⟩ := X.privateBack hx hown (mvT hZ w1) (mvT hZ w2) hse hp (mvT hZ w4) hy (backOf (W := W) (hM []) hZ w4 w3 hf hl) hg hsize (Steps.refl _) (by rw [eT]; exact q) q' hlen hstack hW hd (fun _ _ => ⟨rfl, eT, hc, hs⟩)
  dsimp only [Pt.U, Pt.locs, Pt.cells, Pt.slots] at X' l1 l2 l3 st hQ
  subst l1 l2 l3
  exact own_to (fun t k => st.trans k) (k v T' _ Lc X' rfl hQ)
/-! the heap's steps -/
theorem own_getF (X : Stand p l e R s m args below meth c T locs cells slots) (hx : p.tables.exec = Jvm.exec) (hZ : Z.Warmed39 s.vm) {own O n d : String} {index : Nat} (hown : s.vm.findClass own = some m.cls) (w : (Jvm.Cond.fieldLink own index O n d).before a0 Z = true) (eT : T.heap = h) {a : Addr} {v : Value} (F : Fld Z h a O n d v)
    (hg : g.method = m) {rest : List Value} (hs : g.stack = .ref a :: rest) (hd : decode c.code g.pc = .ok (.getfield index, 3)) (k : ∀ T', Stand p l e R s m args below meth c T' locs cells slots → T'.heap = h → own_Out p e below En T' { g with pc := g.pc + 3, stack := v :: rest } Q kc ks) : own_Out p e below En T g Q kc ks := by
  obtain ⟨T', X', e', st⟩ := getF X hx hZ hown (host := "") (Or.inl w) Via.refl eT F hg hs hd
  exact own_to st (k T' X' e')
theorem own_putF (X : Stand p l e R s m args below meth c T locs cells slots) (hx : p.tables.exec = Jvm.exec) (hZ : Z.Warmed39 s.vm) {own O n d C : String} {index kk : Nat} {ty : FieldType} (hown : s.vm.findClass own = some m.cls) (w : (Jvm.Cond.fieldLink own index O n d).before a0 Z = true) (eT : T.heap = h) {a : Addr} {v old : Value} (F : Fld Z h a O n d old) (E : Exa Z h a C)
    (L : (Jvm.Cond.lays C O n d).before a0 Z = true ∨ ((Jvm.Cond.laysFinal C O n d).before a0 Z = true ∧ own = O ∧ meth.name = "<init>")) (wi : (Jvm.Cond.instantiable C kk).before a0 Z = true) (hty : parseFieldDescriptor d = some ty) (hn : narrow ty v = v) (hf : fits ty v = true)
    (hg : g.method = m) {rest : List Value} (hs : g.stack = v :: .ref a :: rest) (hd : decode c.code g.pc = .ok (.putfield index, 3)) (k : ∀ T' h', Stand p l e R s m args below meth c T' (locs ++ [⟨a, Jvm.RoadKit.slotOf Z O n d⟩]) cells slots → T'.heap = h' → Wr h h' a (Jvm.RoadKit.slotOf Z O n d) v → own_Out p e below En T' { g with pc := g.pc + 3, stack := rest } Q kc ks) : own_Out p e below En T g Q kc ks := by
  obtain ⟨T', h', X', e', W', st⟩ := putF X hx hZ hown (host := "") (Or.inl w) Via.refl eT F E L wi hty hn hf hg hs hd
  exact own_to st (k T' h' X' e' W')
theorem own_new (X : Stand p l e R s m args below meth c T locs cells slots) (hx : p.tables.exec = Jvm.exec) (hZ : Z.Warmed39 s.vm) {own C : String} {index n : Nat} (hown : s.vm.findClass own = some m.cls) (w : (Jvm.Cond.classLink own index C).before a0 Z = true) (wi : (Jvm.Cond.instantiable C n).before a0 Z = true) (wz : (Jvm.Cond.initialized C).before a0 Z = true) (eT : T.heap = h)
    (hg : g.method = m) (hd : decode c.code g.pc = .ok (.new index, 3)) (hc : cells + 1 ≤ R.cells) (hl : slots + n ≤ R.slots)
    (k : ∀ T' h' a, a = h.size → Stand p l e R s m args below meth c T' locs (cells + 1) (slots + n) → T'.heap = h' → Ext h h' → Exa Z h' a C → (∀ {O nm d : String} {ty : FieldType}, Laid Z a0 C O nm d → parseFieldDescriptor d = some ty → Fld Z h' a O nm d (defaultValue ty)) → own_Out p e below En T' { g with pc := g.pc + 3, stack := .ref a :: g.stack } Q kc ks) : own_Out p e below En T g Q kc ks := by
  obtain ⟨T', h', X', e', E', A', D', -, st⟩ := newO X hx hZ hown w wi wz eT hg hd hc hl
  exact own_to st (k T' h' _ rfl X' e' E' A' D')
/-! arrays of ints, bytes, booleans: how many places, and what each holds -/
def own_upd (f : Nat → Int32) (j : Nat) (x : Int32) : Nat → Int32 := fun i => if i = j then x else f i
def own_A (Z : State) (h : Heap) (a : Addr) (ty : FieldType) (n : Nat) (f : Nat → Int32) : Prop := ∃ cl : Cell, Arr Z h a cl ty ∧ cl.slots.size = n ∧ ∀ j, j < n → cl.slots[j]? = some (.int (f j))
variable {a b : Addr} {ty : FieldType} {n : Nat} {f : Nat → Int32} {ws : List Addr} {v : Value} {sl : Nat}
theorem own_A.lt (F : own_A Z h a ty n f) : a < h.size := by obtain ⟨_, A, -⟩ := F; exact A.lt
theorem own_A.ext (F : own_A Z h a ty n f) (E : Ext h h') : own_A Z h' a ty n f := by obtain ⟨cl, A, r⟩ := F; exact ⟨cl, A.ext E, r⟩
theorem own_A.other (F : own_A Z h b ty n f) (W : Wr h h' a sl v) (q : b ≠ a) : own_A Z h' b ty n f := by obtain ⟨cl, A, r⟩ := F; exact ⟨cl, A.other W q, r⟩
theorem own_A.keep (F : own_A Z h a ty n f) (K : Keep h h' ws) (q : a ∉ ws) : own_A Z h' a ty n f := by obtain ⟨cl, A, r⟩ := F; exact ⟨cl, ⟨K.2.1 a cl A.1 q, A.2⟩, r⟩
theorem own_A.congr {f' : Nat → Int32} (F : own_A Z h a ty n f) (q : ∀ j, j < n → f j = f' j) : own_A Z h a ty n f' := by obtain ⟨cl, A, r1, r2⟩ := F; exact ⟨cl, A, r1, fun j hj => by rw [r2 j hj, q j hj]⟩
theorem own_A.set {cl : Cell} {j : Nat} {x : Int32} (A : Arr Z h a cl ty) (q1 : cl.slots.size = n) (q2 : ∀ j, j < n → cl.slots[j]? = some (.int (f j))) (W : Wr h h' a j (.int x)) (hj : j < n) : own_A Z h' a ty n (own_upd f j x) := by
  refine ⟨_, A.same W, by rw [sz_set, q1], fun i hi => ?_⟩
  simp only [Cell.setSlot, Array.getElem?_setIfInBounds, own_upd]
  by_cases e : j = i
  · subst e
    simp [q1, hj]
  · rw [if_neg e, q2 i hi, if_neg (fun q => e q.symm)]
theorem own_in {j : Int32} {N : Nat} (h0 : ¬ j < 0) (h1 : j.toNatClampNeg < N) : ¬ (j < 0 ∨ N ≤ j.toNatClampNeg) := fun q => q.elim h0 (fun r => Nat.not_lt.mpr r h1)
theorem own_stI (X : Stand p l e R s m args below meth c T locs cells slots) (hx : p.tables.exec = Jvm.exec) (hZ : Z.Warmed39 s.vm) (eT : T.heap = h) (F : own_A Z h a .int n f) {j x : Int32} (h0 : ¬ j < 0) (h1 : j.toNatClampNeg < n) (hg : g.method = m) {rest : List Value} (hs : g.stack = .int x :: .int j :: .ref a :: rest) (hd : decode c.code g.pc = .ok (.iastore, 1))
    (k : ∀ T' h', Stand p l e R s m args below meth c T' (locs ++ [⟨a, j.toNatClampNeg⟩]) cells slots → T'.heap = h' → Wr h h' a j.toNatClampNeg (.int x) → own_A Z h' a .int n (own_upd f j.toNatClampNeg x) → own_Out p e below En T' { g with pc := g.pc + 1, stack := rest } Q kc ks) : own_Out p e below En T g Q kc ks := by
  obtain ⟨cl, A, q1, q2⟩ := F
  obtain ⟨T', h', X', e', W', st⟩ := stI X hx hZ eT A (own_in h0 (by rw [q1]; exact h1)) hg hs hd
  exact own_to st (k T' h' X' e' W' (own_A.set A q1 q2 W' h1))
theorem own_stZ (X : Stand p l e R s m args below meth c T locs cells slots) (hx : p.tables.exec = Jvm.exec) (hZ : Z.Warmed39 s.vm) (eT : T.heap = h) (F : own_A Z h a .boolean n f) {j x : Int32} (h0 : ¬ j < 0) (h1 : j.toNatClampNeg < n) (hg : g.method = m) {rest : List Value} (hs : g.stack = .int x :: .int j :: .ref a :: rest) (hd : decode c.code g.pc = .ok (.bastore, 1))
    (k : ∀ T' h', Stand p l e R s m args below meth c T' (locs ++ [⟨a, j.toNatClampNeg⟩]) cells slots → T'.heap = h' → Wr h h' a j.toNatClampNeg (.int (nar .boolean x)) → own_A Z h' a .boolean n (own_upd f j.toNatClampNeg (nar .boolean x)) → own_Out p e below En T' { g with pc := g.pc + 1, stack := rest } Q kc ks) : own_Out p e below En T g Q kc ks := by
  obtain ⟨cl, A, q1, q2⟩ := F
  obtain ⟨T', h', X', e', W', st⟩ := stZ X hx hZ eT A (own_in h0 (by rw [q1]; exact h1)) hg hs hd
  exact own_to st (k T' h' X' e' W' (own_A.set A q1 q2 W' h1))
theorem own_stB (X : Stand p l e R s m args below meth c T locs cells slots) (hx : p.tables.exec = Jvm.exec) (hZ : Z.Warmed39 s.vm) (eT : T.heap = h) (F : own_A Z h a .byte n f) {j x : Int32} (h0 : ¬ j < 0) (h1 : j.toNatClampNeg < n) (hg : g.method = m) {rest : List Value} (hs : g.stack = .int x :: .int j :: .ref a :: rest) (hd : decode c.code g.pc = .ok (.bastore, 1))
    (k : ∀ T' h', Stand p l e R s m args below meth c T' (locs ++ [⟨a, j.toNatClampNeg⟩]) cells slots → T'.heap = h' → Wr h h' a j.toNatClampNeg (.int (nar .byte x)) → own_A Z h' a .byte n (own_upd f j.toNatClampNeg (nar .byte x)) → own_Out p e below En T' { g with pc := g.pc + 1, stack := rest } Q kc ks) : own_Out p e below En T g Q kc ks := by
  obtain ⟨cl, A, q1, q2⟩ := F
  obtain ⟨T', h', X', e', W', st⟩ := stB X hx hZ eT A (own_in h0 (by rw [q1]; exact h1)) hg hs hd
  exact own_to st (k T' h' X' e' W' (own_A.set A q1 q2 W' h1))
theorem own_newA (X : Stand p l e R s m args below meth c T locs cells slots) (hx : p.tables.exec = Jvm.exec) (hZ : Z.Warmed39 s.vm) {aty : ArrayType} (w : (Jvm.Cond.arrayClass (newarray.typeOf aty)).before a0 Z = true) (hdef : defaultValue (newarray.typeOf aty) = .int 0) (eT : T.heap = h) (hg : g.method = m) (hd : decode c.code g.pc = .ok (.newarray aty, 2)) {N : Int32} {rest : List Value} (hs : g.stack = .int N :: rest)
    (hn : ¬ N < 0) {cap : Nat} (hcap : N.toNatClampNeg ≤ cap) (hb : cap * 8 ≤ 536870912) (hc : cells + 1 ≤ R.cells) (hl : slots + cap ≤ R.slots)
    (k : ∀ T' h' a, a = h.size → Stand p l e R s m args below meth c T' locs (cells + 1) (slots + cap) → T'.heap = h' → Ext h h' → own_A Z h' a (newarray.typeOf aty) N.toNatClampNeg (fun _ => 0) → own_Out p e below En T' { g with pc := g.pc + 2, stack := .ref a :: rest } Q kc ks) : own_Out p e below En T g Q kc ks := by
  obtain ⟨T', h', cA, X', e', E', A', st⟩ := newP X hx hZ w eT hg hd hs hn hcap hb hc hl
  refine own_to st (k T' h' _ rfl X' e' E' ⟨_, A', sz_new _ _ _, fun j hj => ?_⟩)
  simp [newA, hdef, hj]
theorem own_len (X : Stand p l e R s m args below meth c T locs cells slots) (hx : p.tables.exec = Jvm.exec) (hZ : Z.Warmed39 s.vm) (eT : T.heap = h) (F : own_A Z h a ty n f) (hg : g.method = m) {rest : List Value} (hs : g.stack = .ref a :: rest) (hd : decode c.code g.pc = .ok (.arraylength, 1))
    (k : own_Out p e below En T { g with pc := g.pc + 1, stack := .int n.toInt32 :: rest } Q kc ks) : own_Out p e below En T g Q kc ks := by
  obtain ⟨cl, A, q1, q2⟩ := F
  subst q1
  exact own_to (X.arraylength hx (by rw [eT]; exact A.1) (State.isArrayOf_alike hZ.alike A.2.1) hg hs hd) k
theorem own_ldI (X : Stand p l e R s m args below meth c T locs cells slots) (hx : p.tables.exec = Jvm.exec) (hZ : Z.Warmed39 s.vm) (eT : T.heap = h) (F : own_A Z h a .int n f) {j : Int32} (h0 : ¬ j < 0) (h1 : j.toNatClampNeg < n) (hg : g.method = m) {rest : List Value} (hs : g.stack = .int j :: .ref a :: rest) (hd : decode c.code g.pc = .ok (.iaload, 1))
    (k : ∀ w : Int32, w = f j.toNatClampNeg → own_Out p e below En T { g with pc := g.pc + 1, stack := .int w :: rest } Q kc ks) : own_Out p e below En T g Q kc ks := by
  obtain ⟨cl, A, q1, q2⟩ := F
  exact own_to (X.iaload hx (by rw [eT]; exact A.1) (State.isArrayOf_alike hZ.alike A.2.1) A.2.2 (own_in h0 (by rw [q1]; exact h1)) (q2 _ h1) hg hs hd) (k _ rfl)
theorem own_ldZ (X : Stand p l e R s m args below meth c T locs cells slots) (hx : p.tables.exec = Jvm.exec) (hZ : Z.Warmed39 s.vm) (eT : T.heap = h) (F : own_A Z h a .boolean n f) {j : Int32} (h0 : ¬ j < 0) (h1 : j.toNatClampNeg < n) (hg : g.method = m) {rest : List Value} (hs : g.stack = .int j :: .ref a :: rest) (hd : decode c.code g.pc = .ok (.baload, 1))
    (k : ∀ w : Int32, w = f j.toNatClampNeg → own_Out p e below En T { g with pc := g.pc + 1, stack := .int w :: rest } Q kc ks) : own_Out p e below En T g Q kc ks := by
  obtain ⟨cl, A, q1, q2⟩ := F
  exact own_to (X.baloadBooleans hx (by rw [eT]; exact A.1) (State.isArrayOf_alike hZ.alike A.2.1) A.2.2 (own_in h0 (by rw [q1]; exact h1)) (q2 _ h1) hg hs hd) (k _ rfl)
theorem own_ldB (X : Stand p l e R s m args below meth c T locs cells slots) (hx : p.tables.exec = Jvm.exec) (hZ : Z.Warmed39 s.vm) (eT : T.heap = h) (F : own_A Z h a .byte n f) {j : Int32} (h0 : ¬ j < 0) (h1 : j.toNatClampNeg < n) (hg : g.method = m) {rest : List Value} (hs : g.stack = .int j :: .ref a :: rest) (hd : decode c.code g.pc = .ok (.baload, 1))
    (k : ∀ w : Int32, w = f j.toNatClampNeg → own_Out p e below En T { g with pc := g.pc + 1, stack := .int w :: rest } Q kc ks) : own_Out p e below En T g Q kc ks := by
  obtain ⟨cl, A, q1, q2⟩ := F
  exact own_to (X.baloadBytes hx (by rw [eT]; exact A.1) (State.isArrayOf_alike hZ.alike A.2.1) A.2.2 (own_in h0 (by rw [q1]; exact h1)) (q2 _ h1) hg hs hd) (k _ rfl)
theorem own_idx (x n : Int32) (N : Nat) (hn : n.toInt = (N : Int)) (h0 : 0 < N) : ¬ ((x &&& (2147483647 : Int32)) % n < 0) ∧ ((x &&& (2147483647 : Int32)) % n).toNatClampNeg < N := by
  have h1 := c_mask x 2147483647 31 (by decide) (by decide)
  have h2 := c_irem (x &&& 2147483647) n N hn
  have k : (0 : Int32).toInt = 0 := by decide
  have h3 : ¬ ((x &&& (2147483647 : Int32)) % n < 0) := by
    rw [Int32.lt_iff_toInt_lt, k, h2.1 (by omega)]
    have := Int.emod_nonneg (x &&& 2147483647).toInt (show (N : Int) ≠ 0 by omega)
    omega
  have h4 := nat_of h3
  have h5 := Int.emod_lt_of_pos (x &&& 2147483647).toInt (show (0 : Int) < N by omega)
  rw [h2.1 (by omega)] at h4
  exact ⟨h3, by omega⟩
theorem own_fs {k : Nat} {L : List Loc} (N : Fr k L) (q : k ≤ a) : Fr k (L ++ [⟨a, sl⟩]) := N.app fun y hy => by cases List.mem_singleton.mp hy; exact q
end OwnKit
theorem d1_0 : decode prog_170_method_7_code 0 = .ok (.iload_n 0, 1) := by decide +kernel
theorem d1_1 : decode prog_170_method_7_code 1 = .ok (.ldc 216, 2) := by decide +kernel
theorem d1_3 : decode prog_170_method_7_code 3 = .ok (.if_icmp .lt 9, 3) := by decide +kernel
theorem d1_6 : decode prog_170_method_7_code 6 = .ok (.iload_n 0, 1) := by decide +kernel
theorem d1_7 : decode prog_170_method_7_code 7 = .ok (.ldc 217, 2) := by decide +kernel
theorem d1_9 : decode prog_170_method_7_code 9 = .ok (.if_icmp .le 24, 3) := by decide +kernel
theorem d1_12 : decode prog_170_method_7_code 12 = .ok (.iload_n 0, 1) := by decide +kernel
theorem d1_13 : decode prog_170_method_7_code 13 = .ok (.ldc 211, 2) := by decide +kernel
theorem d1_15 : decode prog_170_method_7_code 15 = .ok (.if_icmp .lt 22, 3) := by decide +kernel
theorem d1_18 : decode prog_170_method_7_code 18 = .ok (.iload_n 0, 1) := by decide +kernel
theorem d1_19 : decode prog_170_method_7_code 19 = .ok (.ldc 218, 2) := by decide +kernel
theorem d1_21 : decode prog_170_method_7_code 21 = .ok (.if_icmp .gt 16, 3) := by decide +kernel
theorem d1_24 : decode prog_170_method_7_code 24 = .ok (.iload_n 0, 1) := by decide +kernel
theorem d1_25 : decode prog_170_method_7_code 25 = .ok (.ldc 212, 2) := by decide +kernel
theorem d1_27 : decode prog_170_method_7_code 27 = .ok (.iand, 1) := by decide +kernel
theorem d1_28 : decode prog_170_method_7_code 28 = .ok (.ldc 213, 2) := by decide +kernel
theorem d1_30 : decode prog_170_method_7_code 30 = .ok (.if_icmp .gt 7, 3) := by decide +kernel
theorem d1_33 : decode prog_170_method_7_code 33 = .ok (.iconst 1, 1) := by decide +kernel
theorem d1_34 : decode prog_170_method_7_code 34 = .ok (.goto 4, 3) := by decide +kernel
theorem d1_37 : decode prog_170_method_7_code 37 = .ok (.iconst 0, 1) := by decide +kernel
theorem d1_38 : decode prog_170_method_7_code 38 = .ok (.ireturn, 1) := by decide +kernel
theorem pn_0 : plainName "com/example/constraint/constraint/schema/UriReference" = true := by first | (simp [plainName, overriddenIn]; done) | decide +kernel
theorem ef_1 (m : MethodId) (u0 : Int32) : entryFrame m #[(.int u0)] 1 = mkF m 0 #[.val (.int u0)] [] := by first | (simp [entryFrame, mkF, argsToLocals, Value.category]; done) | rfl
def R1 (u0 : Int32) : Int32 := (if u0 < (57344 : Int32) then (if u0 < (983040 : Int32) then (0 : Int32) else (if (1114111 : Int32) < u0 then (0 : Int32) else (if (65533 : Int32) < (u0 &&& (65535 : Int32)) then (0 : Int32) else (1 : Int32)))) else (if (63743 : Int32) < u0 then (if u0 < (983040 : Int32) then (0 : Int32) else (if (1114111 : Int32) < u0 then (0 : Int32) else (if (65533 : Int32) < (u0 &&& (65535 : Int32)) then (0 : Int32) else (1 : Int32)))) else (1 : Int32)))
def Q1 (Z : State) (u0 : Int32) (h0 : Heap) (n0 : Nat) (v : Option Value) (h : Heap) (L : List Loc) : Prop := v = some (.int (R1 u0)) ∧ Fr n0 L ∧ h = h0
set_option maxRecDepth 65536 in
set_option maxHeartbeats 40000000 in
theorem rm1 (l : Launch) (Z : State) (a0 : Array Value) (hw : ∀ d ∈ tables_1, d.before a0 Z = true) (u0 : Int32) (h0 : Heap) (n0 : Nat) (Z0 : n0 ≤ h0.size) :
    own_C l Z (⟨"com/example/constraint/constraint/schema/UriReference", "isPrivateUse", "(I)Z"⟩ : MethodName) prog_170_method_7_code 1 (some .boolean) ({ frames := 0, cells := 0, slots := 0, locals := 0 } : Room) #[(.int u0)] h0 (Q1 Z u0 h0 n0) := by
  refine own_met (plainFor_of_name pn_0) ?_
  intro p e s m below meth c s₁ hx hby hml hret hlk hown hnm hZ X0 e0
  refine own_cast (ef_1 m u0) ?_
  have N0 := Fr.nil n0
  show own_Out p e below _ s₁ (mkF m 0 #[.val (.int u0)] []) _ _ _
  refine own_to (fun t k => XS.iloadN X0.here hx rfl (hb hby d1_0) rfl k) ?_
  show own_Out p e below _ s₁ (mkF m 1 #[.val (.int u0)] [(.int u0)]) _ _ _
  refine own_to (fun t k => X0.ldcI hx hown (mvT hZ (hw _ (List.mem_of_getElem? (i := 17) rfl))) rfl (hb hby d1_1) k) ?_
  show own_Out p e below _ s₁ (mkF m 3 #[.val (.int u0)] [(.int (57344 : Int32)), (.int u0)]) _ _ _
  by_cases hc3 : u0 < (57344 : Int32)
  · refine own_to (fun t k => XS.icmpYes X0.here hx rfl (pc0 := 3) (pc' := 12) rfl (hb hby d1_3) rfl (tlt hc3).1 (by decide) (by decide) k) ?_
    show own_Out p e below _ s₁ (mkF m 12 #[.val (.int u0)] []) _ _ _
    refine own_to (fun t k => XS.iloadN X0.here hx rfl (hb hby d1_12) rfl k) ?_
    show own_Out p e below _ s₁ (mkF m 13 #[.val (.int u0)] [(.int u0)]) _ _ _
    refine own_to (fun t k => X0.ldcI hx hown (mvT hZ (hw _ (List.mem_of_getElem? (i := 18) rfl))) rfl (hb hby d1_13) k) ?_
    show own_Out p e below _ s₁ (mkF m 15 #[.val (.int u0)] [(.int (983040 : Int32)), (.int u0)]) _ _ _
    by_cases hc15 : u0 < (983040 : Int32)
    · refine own_to (fun t k => XS.icmpYes X0.here hx rfl (pc0 := 15) (pc' := 37) rfl (hb hby d1_15) rfl (tlt hc15).1 (by decide) (by decide) k) ?_
      show own_Out p e below _ s₁ (mkF m 37 #[.val (.int u0)] []) _ _ _
      refine own_to (fun t k => XS.iconst X0.here hx rfl (hb hby d1_37) k) ?_
      show own_Out p e below _ s₁ (mkF m 38 #[.val (.int u0)] [(.int (0 : Int32))]) _ _ _
      refine own_retV X0 hx hlk (w := .int (0 : Int32)) hret rfl (Or.inl ⟨rfl, by simp, _, rfl⟩) (hb hby d1_38) (by decide) (by decide) ?_
      rw [e0]
      exact ⟨(by unfold R1; rw [if_pos hc3, if_pos hc15]), N0, rfl⟩
    · refine own_to (fun t k => XS.icmpNo X0.here hx rfl (hb hby d1_15) rfl (flt hc15).1 k) ?_
      show own_Out p e below _ s₁ (mkF m 18 #[.val (.int u0)] []) _ _ _
      refine own_to (fun t k => XS.iloadN X0.here hx rfl (hb hby d1_18) rfl k) ?_
      show own_Out p e below _ s₁ (mkF m 19 #[.val (.int u0)] [(.int u0)]) _ _ _
      refine own_to (fun t k => X0.ldcI hx hown (mvT hZ (hw _ (List.mem_of_getElem? (i := 22) rfl))) rfl (hb hby d1_19) k) ?_
      show own_Out p e below _ s₁ (mkF m 21 #[.val (.int u0)] [(.int (1114111 : Int32)), (.int u0)]) _ _ _
      by_cases hc21 : (1114111 : Int32) < u0
      · refine own_to (fun t k => XS.icmpYes X0.here hx rfl (pc0 := 21) (pc' := 37) rfl (hb hby d1_21) rfl (tlt hc21).2.2.1 (by decide) (by decide) k) ?_
        show own_Out p e below _ s₁ (mkF m 37 #[.val (.int u0)] []) _ _ _
        refine own_to (fun t k => XS.iconst X0.here hx rfl (hb hby d1_37) k) ?_
        show own_Out p e below _ s₁ (mkF m 38 #[.val (.int u0)] [(.int (0 : Int32))]) _ _ _
        refine own_retV X0 hx hlk (w := .int (0 : Int32)) hret rfl (Or.inl ⟨rfl, by simp, _, rfl⟩) (hb hby d1_38) (by decide) (by decide) ?_
        rw [e0]
        exact ⟨(by unfold R1; rw [if_pos hc3, if_neg hc15, if_pos hc21]), N0, rfl⟩
      · refine own_to (fun t k => XS.icmpNo X0.here hx rfl (hb hby d1_21) rfl (flt hc21).2.2.1 k) ?_
        show own_Out p e below _ s₁ (mkF m 24 #[.val (.int u0)] []) _ _ _
        refine own_to (fun t k => XS.iloadN X0.here hx rfl (hb hby d1_24) rfl k) ?_
        show own_Out p e below _ s₁ (mkF m 25 #[.val (.int u0)] [(.int u0)]) _ _ _
        refine own_to (fun t k => X0.ldcI hx hown (mvT hZ (hw _ (List.mem_of_getElem? (i := 23) rfl))) rfl (hb hby d1_25) k) ?_
        show own_Out p e below _ s₁ (mkF m 27 #[.val (.int u0)] [(.int (65535 : Int32)), (.int u0)]) _ _ _
        refine own_to (fun t k => XS.iand X0.here hx rfl (hb hby d1_27) rfl k) ?_
        show own_Out p e below _ s₁ (mkF m 28 #[.val (.int u0)] [(.int (u0 &&& (65535 : Int32)))]) _ _ _
        refine own_to (fun t k => X0.ldcI hx hown (mvT hZ (hw _ (List.mem_of_getElem? (i := 24) rfl))) rfl (hb hby d1_28) k) ?_
        show own_Out p e below _ s₁ (mkF m 30 #[.val (.int u0)] [(.int (65533 : Int32)), (.int (u0 &&& (65535 : Int32)))]) _ _ _
        by_cases hc30 : (65533 : Int32) < (u0 &&& (65535 : Int32))
        · refine own_to (fun t k => XS.icmpYes X0.here hx rfl (pc0 := 30) (pc' := 37) rfl (hb hby d1_30) rfl (tlt hc30).2.2.1 (by decide) (by decide) k) ?_
          show own_Out p e below _ s₁ (mkF m 37 #[.val (.int u0)] []) _ _ _
          refine own_to (fun t k => XS.iconst X0.here hx rfl (hb hby d1_37) k) ?_
          show own_Out p e below _ s₁ (mkF m 38 #[.val (.int u0)] [(.int (0 : Int32))]) _ _ _
          refine own_retV X0 hx hlk (w := .int (0 : Int32)) hret rfl (Or.inl ⟨rfl, by simp, _, rfl⟩) (hb hby d1_38) (by decide) (by decide) ?_
          rw [e0]
          exact ⟨(by unfold R1; rw [if_pos hc3, if_neg hc15, if_neg hc21, if_pos hc30]), N0, rfl⟩
        · refine own_to (fun t k => XS.icmpNo X0.here hx rfl (hb hby d1_30) rfl (flt hc30).2.2.1 k) ?_
          show own_Out p e below _ s₁ (mkF m 33 #[.val (.int u0)] []) _ _ _
          refine own_to (fun t k => XS.iconst X0.here hx rfl (hb hby d1_33) k) ?_
          show own_Out p e below _ s₁ (mkF m 34 #[.val (.int u0)] [(.int (1 : Int32))]) _ _ _
          refine own_to (fun t k => XS.goto X0.here hx rfl (pc0 := 34) (pc' := 38) rfl (hb hby d1_34) (by decide) (by decide) k) ?_
          show own_Out p e below _ s₁ (mkF m 38 #[.val (.int u0)] [(.int (1 : Int32))]) _ _ _
          refine own_retV X0 hx hlk (w := .int (1 : Int32)) hret rfl (Or.inl ⟨rfl, by simp, _, rfl⟩) (hb hby d1_38) (by decide) (by decide) ?_
          rw [e0]
          exact ⟨(by unfold R1; rw [if_pos hc3, if_neg hc15, if_neg hc21, if_neg hc30]), N0, rfl⟩
  · refine own_to (fun t k => XS.icmpNo X0.here hx rfl (hb hby d1_3) rfl (flt hc3).1 k) ?_
    show own_Out p e below _ s₁ (mkF m 6 #[.val (.int u0)] []) _ _ _
    refine own_to (fun t k => XS.iloadN X0.here hx rfl (hb hby d1_6) rfl k) ?_
    show own_Out p e below _ s₁ (mkF m 7 #[.val (.int u0)] [(.int u0)]) _ _ _
    refine own_to (fun t k => X0.ldcI hx hown (mvT hZ (hw _ (List.mem_of_getElem? (i := 20) rfl))) rfl (hb hby d1_7) k) ?_
    show own_Out p e below _ s₁ (mkF m 9 #[.val (.int u0)] [(.int (63743 : Int32)), (.int u0)]) _ _ _
    by_cases hc9 : (63743 : Int32) < u0
    · refine own_to (fun t k => XS.icmpNo X0.here hx rfl (hb hby d1_9) rfl (tlt hc9).2.2.2 k) ?_
      show own_Out p e below _ s₁ (mkF m 12 #[.val (.int u0)] []) _ _ _
      refine own_to (fun t k => XS.iloadN X0.here hx rfl (hb hby d1_12) rfl k) ?_
      show own_Out p e below _ s₁ (mkF m 13 #[.val (.int u0)] [(.int u0)]) _ _ _
      refine own_to (fun t k => X0.ldcI hx hown (mvT hZ (hw _ (List.mem_of_getElem? (i := 18) rfl))) rfl (hb hby d1_13) k) ?_
      show own_Out p e below _ s₁ (mkF m 15 #[.val (.int u0)] [(.int (983040 : Int32)), (.int u0)]) _ _ _
      by_cases hc15 : u0 < (983040 : Int32)
      · refine own_to (fun t k => XS.icmpYes X0.here hx rfl (pc0 := 15) (pc' := 37) rfl (hb hby d1_15) rfl (tlt hc15).1 (by decide) (by decide) k) ?_
        show own_Out p e below _ s₁ (mkF m 37 #[.val (.int u0)] []) _ _ _
        refine own_to (fun t k => XS.iconst X0.here hx rfl (hb hby d1_37) k) ?_
        show own_Out p e below _ s₁ (mkF m 38 #[.val (.int u0)] [(.int (0 : Int32))]) _ _ _
        refine own_retV X0 hx hlk (w := .int (0 : Int32)) hret rfl (Or.inl ⟨rfl, by simp, _, rfl⟩) (hb hby d1_38) (by decide) (by decide) ?_
        rw [e0]
        exact ⟨(by unfold R1; rw [if_neg hc3, if_pos hc9, if_pos hc15]), N0, rfl⟩
      · refine own_to (fun t k => XS.icmpNo X0.here hx rfl (hb hby d1_15) rfl (flt hc15).1 k) ?_
        show own_Out p e below _ s₁ (mkF m 18 #[.val (.int u0)] []) _ _ _
        refine own_to (fun t k => XS.iloadN X0.here hx rfl (hb hby d1_18) rfl k) ?_
        show own_Out p e below _ s₁ (mkF m 19 #[.val (.int u0)] [(.int u0)]) _ _ _
        refine own_to (fun t k => X0.ldcI hx hown (mvT hZ (hw _ (List.mem_of_getElem? (i := 22) rfl))) rfl (hb hby d1_19) k) ?_
        show own_Out p e below _ s₁ (mkF m 21 #[.val (.int u0)] [(.int (1114111 : Int32)), (.int u0)]) _ _ _
        by_cases hc21 : (1114111 : Int32) < u0
        · refine own_to (fun t k => XS.icmpYes X0.here hx rfl (pc0 := 21) (pc' := 37) rfl (hb hby d1_21) rfl (tlt hc21).2.2.1 (by decide) (by decide) k) ?_
          show own_Out p e below _ s₁ (mkF m 37 #[.val (.int u0)] []) _ _ _
          refine own_to (fun t k => XS.iconst X0.here hx rfl (hb hby d1_37) k) ?_
          show own_Out p e below _ s₁ (mkF m 38 #[.val (.int u0)] [(.int (0 : Int32))]) _ _ _
          refine own_retV X0 hx hlk (w := .int (0 : Int32)) hret rfl (Or.inl ⟨rfl, by simp, _, rfl⟩) (hb hby d1_38) (by decide) (by decide) ?_
          rw [e0]
          exact ⟨(by unfold R1; rw [if_neg hc3, if_pos hc9, if_neg hc15, if_pos hc21]), N0, rfl⟩
        · refine own_to (fun t k => XS.icmpNo X0.here hx rfl (hb hby d1_21) rfl (flt hc21).2.2.1 k) ?_
          show own_Out p e below _ s₁ (mkF m 24 #[.val (.int u0)] []) _ _ _
          refine own_to (fun t k => XS.iloadN X0.here hx rfl (hb hby d1_24) rfl k) ?_
          show own_Out p e below _ s₁ (mkF m 25 #[.val (.int u0)] [(.int u0)]) _ _ _
          refine own_to (fun t k => X0.ldcI hx hown (mvT hZ (hw _ (List.mem_of_getElem? (i := 23) rfl))) rfl (hb hby d1_25) k) ?_
          show own_Out p e below _ s₁ (mkF m 27 #[.val (.int u0)] [(.int (65535 : Int32)), (.int u0)]) _ _ _
          refine own_to (fun t k => XS.iand X0.here hx rfl (hb hby d1_27) rfl k) ?_
          show own_Out p e below _ s₁ (mkF m 28 #[.val (.int u0)] [(.int (u0 &&& (65535 : Int32)))]) _ _ _
          refine own_to (fun t k => X0.ldcI hx hown (mvT hZ (hw _ (List.mem_of_getElem? (i := 24) rfl))) rfl (hb hby d1_28) k) ?_
          show own_Out p e below _ s₁ (mkF m 30 #[.val (.int u0)] [(.int (65533 : Int32)), (.int (u0 &&& (65535 : Int32)))]) _ _ _
          by_cases hc30 : (65533 : Int32) < (u0 &&& (65535 : Int32))
          · refine own_to (fun t k => XS.icmpYes X0.here hx rfl (pc0 := 30) (pc' := 37) rfl (hb hby d1_30) rfl (tlt hc30).2.2.1 (by decide) (by decide) k) ?_
            show own_Out p e below _ s₁ (mkF m 37 #[.val (.int u0)] []) _ _ _
            refine own_to (fun t k => XS.iconst X0.here hx rfl (hb hby d1_37) k) ?_
            show own_Out p e below _ s₁ (mkF m 38 #[.val (.int u0)] [(.int (0 : Int32))]) _ _ _
            refine own_retV X0 hx hlk (w := .int (0 : Int32)) hret rfl (Or.inl ⟨rfl, by simp, _, rfl⟩) (hb hby d1_38) (by decide) (by decide) ?_
            rw [e0]
            exact ⟨(by unfold R1; rw [if_neg hc3, if_pos hc9, if_neg hc15, if_neg hc21, if_pos hc30]), N0, rfl⟩
          · refine own_to (fun t k => XS.icmpNo X0.here hx rfl (hb hby d1_30) rfl (flt hc30).2.2.1 k) ?_
            show own_Out p e below _ s₁ (mkF m 33 #[.val (.int u0)] []) _ _ _
            refine own_to (fun t k => XS.iconst X0.here hx rfl (hb hby d1_33) k) ?_
            show own_Out p e below _ s₁ (mkF m 34 #[.val (.int u0)] [(.int (1 : Int32))]) _ _ _
            refine own_to (fun t k => XS.goto X0.here hx rfl (pc0 := 34) (pc' := 38) rfl (hb hby d1_34) (by decide) (by decide) k) ?_
            show own_Out p e below _ s₁ (mkF m 38 #[.val (.int u0)] [(.int (1 : Int32))]) _ _ _
            refine own_retV X0 hx hlk (w := .int (1 : Int32)) hret rfl (Or.inl ⟨rfl, by simp, _, rfl⟩) (hb hby d1_38) (by decide) (by decide) ?_
            rw [e0]
            exact ⟨(by unfold R1; rw [if_neg hc3, if_pos hc9, if_neg hc15, if_neg hc21, if_neg hc30]), N0, rfl⟩
    · refine own_to (fun t k => XS.icmpYes X0.here hx rfl (pc0 := 9) (pc' := 33) rfl (hb hby d1_9) rfl (flt hc9).2.2.2 (by decide) (by decide) k) ?_
      show own_Out p e below _ s₁ (mkF m 33 #[.val (.int u0)] []) _ _ _
      refine own_to (fun t k => XS.iconst X0.here hx rfl (hb hby d1_33) k) ?_
      show own_Out p e below _ s₁ (mkF m 34 #[.val (.int u0)] [(.int (1 : Int32))]) _ _ _
      refine own_to (fun t k => XS.goto X0.here hx rfl (pc0 := 34) (pc' := 38) rfl (hb hby d1_34) (by decide) (by decide) k) ?_
      show own_Out p e below _ s₁ (mkF m 38 #[.val (.int u0)] [(.int (1 : Int32))]) _ _ _
      refine own_retV X0 hx hlk (w := .int (1 : Int32)) hret rfl (Or.inl ⟨rfl, by simp, _, rfl⟩) (hb hby d1_38) (by decide) (by decide) ?_
      rw [e0]
      exact ⟨(by unfold R1; rw [if_neg hc3, if_neg hc9]), N0, rfl⟩
theorem own_priv (u : Int32) : (((¬ u < (57344 : Int32) ∧ ¬ (63743 : Int32) < u) ∨ (¬ u < (983040 : Int32) ∧ ¬ (1048573 : Int32) < u) ∨ (¬ u < (1048576 : Int32) ∧ ¬ (1114109 : Int32) < u)) → R1 u = 1) ∧ (¬ ((¬ u < (57344 : Int32) ∧ ¬ (63743 : Int32) < u) ∨ (¬ u < (983040 : Int32) ∧ ¬ (1048573 : Int32) < u) ∨ (¬ u < (1048576 : Int32) ∧ ¬ (1114109 : Int32) < u)) → R1 u = 0) := by
  have m := c_mask u 65535 16 (by decide) (by decide)
  have k1 : (57344 : Int32).toInt = 57344 := by decide
  have k2 : (63743 : Int32).toInt = 63743 := by decide
  have k3 : (983040 : Int32).toInt = 983040 := by decide
  have k4 : (1048573 : Int32).toInt = 1048573 := by decide
  have k5 : (1048576 : Int32).toInt = 1048576 := by decide
  have k6 : (1114109 : Int32).toInt = 1114109 := by decide
  have k7 : (1114111 : Int32).toInt = 1114111 := by decide
  have k8 : (65533 : Int32).toInt = 65533 := by decide
  simp only [R1, Int32.lt_iff_toInt_lt, k1, k2, k3, k4, k5, k6, k7, k8, m]
  constructor <;> intro q <;> (repeat' split) <;> first | rfl | (exfalso; omega)
theorem pn_1 : plainName "com/example/constraint/constraint/schema/UriReferenceIsPrivateUsePinLaw" = true := by first | (simp [plainName, overriddenIn]; done) | decide +kernel
theorem ef_0 (m : MethodId) (x0 : Int32) (x1 : Int32) (x2 : Int32) : entryFrame m #[(.int x0), (.int x1), (.int x2)] maxLocals = mkF m 0 #[.val (.int x0), .val (.int x1), .val (.int x2), .unset, .unset, .unset, .unset] [] := by first | (simp [entryFrame, mkF, argsToLocals, Value.category, maxLocals]; done) | rfl
def Q0 (Z : State) (x0 : Int32) (x1 : Int32) (x2 : Int32) (h0 : Heap) (n0 : Nat) (v : Option Value) (h : Heap) (L : List Loc) : Prop := v = some (.int (1 : Int32)) ∧ Fr n0 L
theorem pd_0 : parseMethodDescriptor "(I)Z" = some ⟨[.int], some .boolean⟩ := by decide +kernel
set_option maxRecDepth 65536 in
set_option maxHeartbeats 40000000 in
theorem rm0 (l : Launch) (Z : State) (a0 : Array Value) (hw : ∀ d ∈ tables_1, d.before a0 Z = true) (x0 : Int32) (x1 : Int32) (x2 : Int32) (h0 : Heap) (n0 : Nat) (Z0 : n0 ≤ h0.size) :
    own_C l Z x code maxLocals ret room_1 #[(.int x0), (.int x1), (.int x2)] h0 (Q0 Z x0 x1 x2 h0 n0) := by
  refine own_met (plainFor_of_name pn_1) ?_
  intro p e s m below meth c s₁ hx hby hml hret hlk hown hnm hZ X0 e0
  refine own_cast (ef_0 m x0 x1 x2) ?_
  have N0 := Fr.nil n0
  show own_Out p e below _ s₁ (mkF m 0 #[.val (.int x0), .val (.int x1), .val (.int x2), .unset, .unset, .unset, .unset] []) _ _ _
  refine own_to (fun t k => XS.bipush X0.here hx rfl (hb hby at_0) k) ?_
  show own_Out p e below _ s₁ (mkF m 2 #[.val (.int x0), .val (.int x1), .val (.int x2), .unset, .unset, .unset, .unset] [(.int (12 : Int32))]) _ _ _
  refine own_newA X0 hx hZ (hw _ (List.mem_of_getElem? (i := 0) rfl)) rfl e0 rfl (hb hby at_2) rfl (by decide) (cap := 12) (by decide) (by decide) (by decide) (by decide) fun T1 hh1 ob1 gb1 X1 e1 E1 A1 => ?_
  have g_ob1 : n0 ≤ ob1 := Nat.le_trans Z0 (Nat.le_of_eq gb1.symm)
  have Z0 := Nat.le_trans Z0 E1.1
  have A_ob1 : own_A Z hh1 ob1 .int 12 (fun _ => 0) := A1
  show own_Out p e below _ T1 (mkF m 4 #[.val (.int x0), .val (.int x1), .val (.int x2), .unset, .unset, .unset, .unset] [(.ref ob1)]) _ _ _
  refine own_to (fun t k => XS.dup X1.here hx rfl (hb hby at_4) rfl rfl k) ?_
  show own_Out p e below _ T1 (mkF m 5 #[.val (.int x0), .val (.int x1), .val (.int x2), .unset, .unset, .unset, .unset] [(.ref ob1), (.ref ob1)]) _ _ _
  refine own_to (fun t k => XS.iconst X1.here hx rfl (hb hby at_5) k) ?_
  show own_Out p e below _ T1 (mkF m 6 #[.val (.int x0), .val (.int x1), .val (.int x2), .unset, .unset, .unset, .unset] [(.int (0 : Int32)), (.ref ob1), (.ref ob1)]) _ _ _
  refine own_to (fun t k => X1.ldcI hx hown (mvT hZ (hw _ (List.mem_of_getElem? (i := 1) rfl))) rfl (hb hby at_6) k) ?_
  show own_Out p e below _ T1 (mkF m 8 #[.val (.int x0), .val (.int x1), .val (.int x2), .unset, .unset, .unset, .unset] [(.int (57344 : Int32)), (.int (0 : Int32)), (.ref ob1), (.ref ob1)]) _ _ _
  refine own_stI X1 hx hZ e1 A_ob1 (by decide) (by decide) rfl rfl (hb hby at_8) fun T2 hh2 X2 e2 W2 A2 => ?_
  have A_ob1 := A2
  have Z0 := Nat.le_trans Z0 (Nat.le_of_eq W2.size.symm)
  have N2 := own_fs (sl := Int32.toNatClampNeg (0 : Int32)) N0 g_ob1
  show own_Out p e below _ T2 (mkF m 9 #[.val (.int x0), .val (.int x1), .val (.int x2), .unset, .unset, .unset, .unset] [(.ref ob1)]) _ _ _
  refine own_to (fun t k => XS.dup X2.here hx rfl (hb hby at_9) rfl rfl k) ?_
  show own_Out p e below _ T2 (mkF m 10 #[.val (.int x0), .val (.int x1), .val (.int x2), .unset, .unset, .unset, .unset] [(.ref ob1), (.ref ob1)]) _ _ _
  refine own_to (fun t k => XS.iconst X2.here hx rfl (hb hby at_10) k) ?_
  show own_Out p e below _ T2 (mkF m 11 #[.val (.int x0), .val (.int x1), .val (.int x2), .unset, .unset, .unset, .unset] [(.int (1 : Int32)), (.ref ob1), (.ref ob1)]) _ _ _
  refine own_to (fun t k => X2.ldcI hx hown (mvT hZ (hw _ (List.mem_of_getElem? (i := 2) rfl))) rfl (hb hby at_11) k) ?_
  show own_Out p e below _ T2 (mkF m 13 #[.val (.int x0), .val (.int x1), .val (.int x2), .unset, .unset, .unset, .unset] [(.int (63743 : Int32)), (.int (1 : Int32)), (.ref ob1), (.ref ob1)]) _ _ _
  refine own_stI X2 hx hZ e2 A_ob1 (by decide) (by decide) rfl rfl (hb hby at_13) fun T3 hh3 X3 e3 W3 A3 => ?_
  have A_ob1 := A3
  have Z0 := Nat.le_trans Z0 (Nat.le_of_eq W3.size.symm)
  have N3 := own_fs (sl := Int32.toNatClampNeg (1 : Int32)) N2 g_ob1
  show own_Out p e below _ T3 (mkF m 14 #[.val (.int x0), .val (.int x1), .val (.int x2), .unset, .unset, .unset, .unset] [(.ref ob1)]) _ _ _
  refine own_to (fun t k => XS.dup X3.here hx rfl (hb hby at_14) rfl rfl k) ?_
  show own_Out p e below _ T3 (mkF m 15 #[.val (.int x0), .val (.int x1), .val (.int x2), .unset, .unset, .unset, .unset] [(.ref ob1), (.ref ob1)]) _ _ _
  refine own_to (fun t k => XS.iconst X3.here hx rfl (hb hby at_15) k) ?_
  show own_Out p e below _ T3 (mkF m 16 #[.val (.int x0), .val (.int x1), .val (.int x2), .unset, .unset, .unset, .unset] [(.int (2 : Int32)), (.ref ob1), (.ref ob1)]) _ _ _
  refine own_to (fun t k => X3.ldcI hx hown (mvT hZ (hw _ (List.mem_of_getElem? (i := 3) rfl))) rfl (hb hby at_16) k) ?_
  show own_Out p e below _ T3 (mkF m 18 #[.val (.int x0), .val (.int x1), .val (.int x2), .unset, .unset, .unset, .unset] [(.int (983040 : Int32)), (.int (2 : Int32)), (.ref ob1), (.ref ob1)]) _ _ _
  refine own_stI X3 hx hZ e3 A_ob1 (by decide) (by decide) rfl rfl (hb hby at_18) fun T4 hh4 X4 e4 W4 A4 => ?_
  have A_ob1 := A4
  have Z0 := Nat.le_trans Z0 (Nat.le_of_eq W4.size.symm)
  have N4 := own_fs (sl := Int32.toNatClampNeg (2 : Int32)) N3 g_ob1
  show own_Out p e below _ T4 (mkF m 19 #[.val (.int x0), .val (.int x1), .val (.int x2), .unset, .unset, .unset, .unset] [(.ref ob1)]) _ _ _
  refine own_to (fun t k => XS.dup X4.here hx rfl (hb hby at_19) rfl rfl k) ?_
  show own_Out p e below _ T4 (mkF m 20 #[.val (.int x0), .val (.int x1), .val (.int x2), .unset, .unset, .unset, .unset] [(.ref ob1), (.ref ob1)]) _ _ _
  refine own_to (fun t k => XS.iconst X4.here hx rfl (hb hby at_20) k) ?_
  show own_Out p e below _ T4 (mkF m 21 #[.val (.int x0), .val (.int x1), .val (.int x2), .unset, .unset, .unset, .unset] [(.int (3 : Int32)), (.ref ob1), (.ref ob1)]) _ _ _
  refine own_to (fun t k => X4.ldcI hx hown (mvT hZ (hw _ (List.mem_of_getElem? (i := 4) rfl))) rfl (hb hby at_21) k) ?_
  show own_Out p e below _ T4 (mkF m 23 #[.val (.int x0), .val (.int x1), .val (.int x2), .unset, .unset, .unset, .unset] [(.int (1048573 : Int32)), (.int (3 : Int32)), (.ref ob1), (.ref ob1)]) _ _ _
  refine own_stI X4 hx hZ e4 A_ob1 (by decide) (by decide) rfl rfl (hb hby at_23) fun T5 hh5 X5 e5 W5 A5 => ?_
  have A_ob1 := A5
  have Z0 := Nat.le_trans Z0 (Nat.le_of_eq W5.size.symm)
  have N5 := own_fs (sl := Int32.toNatClampNeg (3 : Int32)) N4 g_ob1
  show own_Out p e below _ T5 (mkF m 24 #[.val (.int x0), .val (.int x1), .val (.int x2), .unset, .unset, .unset, .unset] [(.ref ob1)]) _ _ _
  refine own_to (fun t k => XS.dup X5.here hx rfl (hb hby at_24) rfl rfl k) ?_
  show own_Out p e below _ T5 (mkF m 25 #[.val (.int x0), .val (.int x1), .val (.int x2), .unset, .unset, .unset, .unset] [(.ref ob1), (.ref ob1)]) _ _ _
  refine own_to (fun t k => XS.iconst X5.here hx rfl (hb hby at_25) k) ?_
  show own_Out p e below _ T5 (mkF m 26 #[.val (.int x0), .val (.int x1), .val (.int x2), .unset, .unset, .unset, .unset] [(.int (4 : Int32)), (.ref ob1), (.ref ob1)]) _ _ _
  refine own_to (fun t k => X5.ldcI hx hown (mvT hZ (hw _ (List.mem_of_getElem? (i := 5) rfl))) rfl (hb hby at_26) k) ?_
  show own_Out p e below _ T5 (mkF m 28 #[.val (.int x0), .val (.int x1), .val (.int x2), .unset, .unset, .unset, .unset] [(.int (1048575 : Int32)), (.int (4 : Int32)), (.ref ob1), (.ref ob1)]) _ _ _
  refine own_stI X5 hx hZ e5 A_ob1 (by decide) (by decide) rfl rfl (hb hby at_28) fun T6 hh6 X6 e6 W6 A6 => ?_
  have A_ob1 := A6
  have Z0 := Nat.le_trans Z0 (Nat.le_of_eq W6.size.symm)
  have N6 := own_fs (sl := Int32.toNatClampNeg (4 : Int32)) N5 g_ob1
  show own_Out p e below _ T6 (mkF m 29 #[.val (.int x0), .val (.int x1), .val (.int x2), .unset, .unset, .unset, .unset] [(.ref ob1)]) _ _ _
  refine own_to (fun t k => XS.dup X6.here hx rfl (hb hby at_29) rfl rfl k) ?_
  show own_Out p e below _ T6 (mkF m 30 #[.val (.int x0), .val (.int x1), .val (.int x2), .unset, .unset, .unset, .unset] [(.ref ob1), (.ref ob1)]) _ _ _
  refine own_to (fun t k => XS.iconst X6.here hx rfl (hb hby at_30) k) ?_
  show own_Out p e below _ T6 (mkF m 31 #[.val (.int x0), .val (.int x1), .val (.int x2), .unset, .unset, .unset, .unset] [(.int (5 : Int32)), (.ref ob1), (.ref ob1)]) _ _ _
  refine own_to (fun t k => X6.ldcI hx hown (mvT hZ (hw _ (List.mem_of_getElem? (i := 6) rfl))) rfl (hb hby at_31) k) ?_
  show own_Out p e below _ T6 (mkF m 33 #[.val (.int x0), .val (.int x1), .val (.int x2), .unset, .unset, .unset, .unset] [(.int (1048576 : Int32)), (.int (5 : Int32)), (.ref ob1), (.ref ob1)]) _ _ _
  refine own_stI X6 hx hZ e6 A_ob1 (by decide) (by decide) rfl rfl (hb hby at_33) fun T7 hh7 X7 e7 W7 A7 => ?_
  have A_ob1 := A7
  have Z0 := Nat.le_trans Z0 (Nat.le_of_eq W7.size.symm)
  have N7 := own_fs (sl := Int32.toNatClampNeg (5 : Int32)) N6 g_ob1
  show own_Out p e below _ T7 (mkF m 34 #[.val (.int x0), .val (.int x1), .val (.int x2), .unset, .unset, .unset, .unset] [(.ref ob1)]) _ _ _
  refine own_to (fun t k => XS.dup X7.here hx rfl (hb hby at_34) rfl rfl k) ?_
  show own_Out p e below _ T7 (mkF m 35 #[.val (.int x0), .val (.int x1), .val (.int x2), .unset, .unset, .unset, .unset] [(.ref ob1), (.ref ob1)]) _ _ _
  refine own_to (fun t k => XS.bipush X7.here hx rfl (hb hby at_35) k) ?_
  show own_Out p e below _ T7 (mkF m 37 #[.val (.int x0), .val (.int x1), .val (.int x2), .unset, .unset, .unset, .unset] [(.int (6 : Int32)), (.ref ob1), (.ref ob1)]) _ _ _
  refine own_to (fun t k => X7.ldcI hx hown (mvT hZ (hw _ (List.mem_of_getElem? (i := 7) rfl))) rfl (hb hby at_37) k) ?_
  show own_Out p e below _ T7 (mkF m 39 #[.val (.int x0), .val (.int x1), .val (.int x2), .unset, .unset, .unset, .unset] [(.int (1114109 : Int32)), (.int (6 : Int32)), (.ref ob1), (.ref ob1)]) _ _ _
  refine own_stI X7 hx hZ e7 A_ob1 (by decide) (by decide) rfl rfl (hb hby at_39) fun T8 hh8 X8 e8 W8 A8 => ?_
  have A_ob1 := A8
  have Z0 := Nat.le_trans Z0 (Nat.le_of_eq W8.size.symm)
  have N8 := own_fs (sl := Int32.toNatClampNeg (6 : Int32)) N7 g_ob1
  show own_Out p e below _ T8 (mkF m 40 #[.val (.int x0), .val (.int x1), .val (.int x2), .unset, .unset, .unset, .unset] [(.ref ob1)]) _ _ _
  refine own_to (fun t k => XS.dup X8.here hx rfl (hb hby at_40) rfl rfl k) ?_
  show own_Out p e below _ T8 (mkF m 41 #[.val (.int x0), .val (.int x1), .val (.int x2), .unset, .unset, .unset, .unset] [(.ref ob1), (.ref ob1)]) _ _ _
  refine own_to (fun t k => XS.bipush X8.here hx rfl (hb hby at_41) k) ?_
  show own_Out p e below _ T8 (mkF m 43 #[.val (.int x0), .val (.int x1), .val (.int x2), .unset, .unset, .unset, .unset] [(.int (7 : Int32)), (.ref ob1), (.ref ob1)]) _ _ _
  refine own_to (fun t k => X8.ldcI hx hown (mvT hZ (hw _ (List.mem_of_getElem? (i := 8) rfl))) rfl (hb hby at_43) k) ?_
  show own_Out p e below _ T8 (mkF m 45 #[.val (.int x0), .val (.int x1), .val (.int x2), .unset, .unset, .unset, .unset] [(.int (1114111 : Int32)), (.int (7 : Int32)), (.ref ob1), (.ref ob1)]) _ _ _
  refine own_stI X8 hx hZ e8 A_ob1 (by decide) (by decide) rfl rfl (hb hby at_45) fun T9 hh9 X9 e9 W9 A9 => ?_
  have A_ob1 := A9
  have Z0 := Nat.le_trans Z0 (Nat.le_of_eq W9.size.symm)
  have N9 := own_fs (sl := Int32.toNatClampNeg (7 : Int32)) N8 g_ob1
  show own_Out p e below _ T9 (mkF m 46 #[.val (.int x0), .val (.int x1), .val (.int x2), .unset, .unset, .unset, .unset] [(.ref ob1)]) _ _ _
  refine own_to (fun t k => XS.dup X9.here hx rfl (hb hby at_46) rfl rfl k) ?_
  show own_Out p e below _ T9 (mkF m 47 #[.val (.int x0), .val (.int x1), .val (.int x2), .unset, .unset, .unset, .unset] [(.ref ob1), (.ref ob1)]) _ _ _
  refine own_to (fun t k => XS.bipush X9.here hx rfl (hb hby at_47) k) ?_
  show own_Out p e below _ T9 (mkF m 49 #[.val (.int x0), .val (.int x1), .val (.int x2), .unset, .unset, .unset, .unset] [(.int (8 : Int32)), (.ref ob1), (.ref ob1)]) _ _ _
  refine own_to (fun t k => X9.ldcI hx hown (mvT hZ (hw _ (List.mem_of_getElem? (i := 9) rfl))) rfl (hb hby at_49) k) ?_
  show own_Out p e below _ T9 (mkF m 51 #[.val (.int x0), .val (.int x1), .val (.int x2), .unset, .unset, .unset, .unset] [(.int (983039 : Int32)), (.int (8 : Int32)), (.ref ob1), (.ref ob1)]) _ _ _
  refine own_stI X9 hx hZ e9 A_ob1 (by decide) (by decide) rfl rfl (hb hby at_51) fun T10 hh10 X10 e10 W10 A10 => ?_
  have A_ob1 := A10
  have Z0 := Nat.le_trans Z0 (Nat.le_of_eq W10.size.symm)
  have N10 := own_fs (sl := Int32.toNatClampNeg (8 : Int32)) N9 g_ob1
  show own_Out p e below _ T10 (mkF m 52 #[.val (.int x0), .val (.int x1), .val (.int x2), .unset, .unset, .unset, .unset] [(.ref ob1)]) _ _ _
  refine own_to (fun t k => XS.dup X10.here hx rfl (hb hby at_52) rfl rfl k) ?_
  show own_Out p e below _ T10 (mkF m 53 #[.val (.int x0), .val (.int x1), .val (.int x2), .unset, .unset, .unset, .unset] [(.ref ob1), (.ref ob1)]) _ _ _
  refine own_to (fun t k => XS.bipush X10.here hx rfl (hb hby at_53) k) ?_
  show own_Out p e below _ T10 (mkF m 55 #[.val (.int x0), .val (.int x1), .val (.int x2), .unset, .unset, .unset, .unset] [(.int (9 : Int32)), (.ref ob1), (.ref ob1)]) _ _ _
  refine own_to (fun t k => X10.ldcI hx hown (mvT hZ (hw _ (List.mem_of_getElem? (i := 10) rfl))) rfl (hb hby at_55) k) ?_
  show own_Out p e below _ T10 (mkF m 57 #[.val (.int x0), .val (.int x1), .val (.int x2), .unset, .unset, .unset, .unset] [(.int (131069 : Int32)), (.int (9 : Int32)), (.ref ob1), (.ref ob1)]) _ _ _
  refine own_stI X10 hx hZ e10 A_ob1 (by decide) (by decide) rfl rfl (hb hby at_57) fun T11 hh11 X11 e11 W11 A11 => ?_
  have A_ob1 := A11
  have Z0 := Nat.le_trans Z0 (Nat.le_of_eq W11.size.symm)
  have N11 := own_fs (sl := Int32.toNatClampNeg (9 : Int32)) N10 g_ob1
  show own_Out p e below _ T11 (mkF m 58 #[.val (.int x0), .val (.int x1), .val (.int x2), .unset, .unset, .unset, .unset] [(.ref ob1)]) _ _ _
  refine own_to (fun t k => XS.dup X11.here hx rfl (hb hby at_58) rfl rfl k) ?_
  show own_Out p e below _ T11 (mkF m 59 #[.val (.int x0), .val (.int x1), .val (.int x2), .unset, .unset, .unset, .unset] [(.ref ob1), (.ref ob1)]) _ _ _
  refine own_to (fun t k => XS.bipush X11.here hx rfl (hb hby at_59) k) ?_
  show own_Out p e below _ T11 (mkF m 61 #[.val (.int x0), .val (.int x1), .val (.int x2), .unset, .unset, .unset, .unset] [(.int (10 : Int32)), (.ref ob1), (.ref ob1)]) _ _ _
  refine own_to (fun t k => X11.ldcI hx hown (mvT hZ (hw _ (List.mem_of_getElem? (i := 11) rfl))) rfl (hb hby at_61) k) ?_
  show own_Out p e below _ T11 (mkF m 63 #[.val (.int x0), .val (.int x1), .val (.int x2), .unset, .unset, .unset, .unset] [(.int (65535 : Int32)), (.int (10 : Int32)), (.ref ob1), (.ref ob1)]) _ _ _
  refine own_stI X11 hx hZ e11 A_ob1 (by decide) (by decide) rfl rfl (hb hby at_63) fun T12 hh12 X12 e12 W12 A12 => ?_
  have A_ob1 := A12
  have Z0 := Nat.le_trans Z0 (Nat.le_of_eq W12.size.symm)
  have N12 := own_fs (sl := Int32.toNatClampNeg (10 : Int32)) N11 g_ob1
  show own_Out p e below _ T12 (mkF m 64 #[.val (.int x0), .val (.int x1), .val (.int x2), .unset, .unset, .unset, .unset] [(.ref ob1)]) _ _ _
  refine own_to (fun t k => XS.dup X12.here hx rfl (hb hby at_64) rfl rfl k) ?_
  show own_Out p e below _ T12 (mkF m 65 #[.val (.int x0), .val (.int x1), .val (.int x2), .unset, .unset, .unset, .unset] [(.ref ob1), (.ref ob1)]) _ _ _
  refine own_to (fun t k => XS.bipush X12.here hx rfl (hb hby at_65) k) ?_
  show own_Out p e below _ T12 (mkF m 67 #[.val (.int x0), .val (.int x1), .val (.int x2), .unset, .unset, .unset, .unset] [(.int (11 : Int32)), (.ref ob1), (.ref ob1)]) _ _ _
  refine own_to (fun t k => X12.ldcI hx hown (mvT hZ (hw _ (List.mem_of_getElem? (i := 12) rfl))) rfl (hb hby at_67) k) ?_
  show own_Out p e below _ T12 (mkF m 69 #[.val (.int x0), .val (.int x1), .val (.int x2), .unset, .unset, .unset, .unset] [(.int (1114112 : Int32)), (.int (11 : Int32)), (.ref ob1), (.ref ob1)]) _ _ _
  refine own_stI X12 hx hZ e12 A_ob1 (by decide) (by decide) rfl rfl (hb hby at_69) fun T13 hh13 X13 e13 W13 A13 => ?_
  have A_ob1 := A13
  have Z0 := Nat.le_trans Z0 (Nat.le_of_eq W13.size.symm)
  have N13 := own_fs (sl := Int32.toNatClampNeg (11 : Int32)) N12 g_ob1
  show own_Out p e below _ T13 (mkF m 70 #[.val (.int x0), .val (.int x1), .val (.int x2), .unset, .unset, .unset, .unset] [(.ref ob1)]) _ _ _
  refine own_to (fun t k => XS.astoreN X13.here hx rfl (hb hby at_70) rfl rfl (l' := #[.val (.int x0), .val (.int x1), .val (.int x2), .val (.ref ob1), .unset, .unset, .unset]) rfl k) ?_
  show own_Out p e below _ T13 (mkF m 71 #[.val (.int x0), .val (.int x1), .val (.int x2), .val (.ref ob1), .unset, .unset, .unset] []) _ _ _
  refine own_to (fun t k => XS.iloadN X13.here hx rfl (hb hby at_71) rfl k) ?_
  show own_Out p e below _ T13 (mkF m 72 #[.val (.int x0), .val (.int x1), .val (.int x2), .val (.ref ob1), .unset, .unset, .unset] [(.int x0)]) _ _ _
  refine own_to (fun t k => XS.iconst X13.here hx rfl (hb hby at_72) k) ?_
  show own_Out p e below _ T13 (mkF m 73 #[.val (.int x0), .val (.int x1), .val (.int x2), .val (.ref ob1), .unset, .unset, .unset] [(.int (3 : Int32)), (.int x0)]) _ _ _
  refine own_to (fun t k => XS.iand X13.here hx rfl (hb hby at_73) rfl k) ?_
  show own_Out p e below _ T13 (mkF m 74 #[.val (.int x0), .val (.int x1), .val (.int x2), .val (.ref ob1), .unset, .unset, .unset] [(.int (x0 &&& (3 : Int32)))]) _ _ _
  refine own_to (fun t k => XS.istore X13.here hx rfl (hb hby at_74) rfl (l' := #[.val (.int x0), .val (.int x1), .val (.int x2), .val (.ref ob1), .val (.int (x0 &&& (3 : Int32))), .unset, .unset]) rfl k) ?_
  show own_Out p e below _ T13 (mkF m 76 #[.val (.int x0), .val (.int x1), .val (.int x2), .val (.ref ob1), .val (.int (x0 &&& (3 : Int32))), .unset, .unset] []) _ _ _
  have J120 : ∀ (cc : Int32), own_Out p e below (FrameEnd s) T13 (mkF m 120 #[.val (.int x0), .val (.int x1), .val (.int x2), .val (.ref ob1), .val (.int (x0 &&& (3 : Int32))), .val (.int cc), .unset] []) (Q0 Z x0 x1 x2 h0 n0) room_1.cells room_1.slots := by
    intro cc
    show own_Out p e below _ T13 (mkF m 120 #[.val (.int x0), .val (.int x1), .val (.int x2), .val (.ref ob1), .val (.int (x0 &&& (3 : Int32))), .val (.int cc), .unset] []) _ _ _
    refine own_to (fun t k => XS.iload X13.here hx rfl (hb hby at_120) rfl k) ?_
    show own_Out p e below _ T13 (mkF m 122 #[.val (.int x0), .val (.int x1), .val (.int x2), .val (.ref ob1), .val (.int (x0 &&& (3 : Int32))), .val (.int cc), .unset] [(.int cc)]) _ _ _
    refine own_to (fun t k => X13.ldcI hx hown (mvT hZ (hw _ (List.mem_of_getElem? (i := 1) rfl))) rfl (hb hby at_122) k) ?_
    show own_Out p e below _ T13 (mkF m 124 #[.val (.int x0), .val (.int x1), .val (.int x2), .val (.ref ob1), .val (.int (x0 &&& (3 : Int32))), .val (.int cc), .unset] [(.int (57344 : Int32)), (.int cc)]) _ _ _
    by_cases hc124 : cc < (57344 : Int32)
    · refine own_to (fun t k => XS.icmpYes X13.here hx rfl (pc0 := 124) (pc' := 134) rfl (hb hby at_124) rfl (tlt hc124).1 (by decide) (by decide) k) ?_
      show own_Out p e below _ T13 (mkF m 134 #[.val (.int x0), .val (.int x1), .val (.int x2), .val (.ref ob1), .val (.int (x0 &&& (3 : Int32))), .val (.int cc), .unset] []) _ _ _
      refine own_to (fun t k => XS.iload X13.here hx rfl (hb hby at_134) rfl k) ?_
      show own_Out p e below _ T13 (mkF m 136 #[.val (.int x0), .val (.int x1), .val (.int x2), .val (.ref ob1), .val (.int (x0 &&& (3 : Int32))), .val (.int cc), .unset] [(.int cc)]) _ _ _
      refine own_to (fun t k => X13.ldcI hx hown (mvT hZ (hw _ (List.mem_of_getElem? (i := 3) rfl))) rfl (hb hby at_136) k) ?_
      show own_Out p e below _ T13 (mkF m 138 #[.val (.int x0), .val (.int x1), .val (.int x2), .val (.ref ob1), .val (.int (x0 &&& (3 : Int32))), .val (.int cc), .unset] [(.int (983040 : Int32)), (.int cc)]) _ _ _
      by_cases hc138 : cc < (983040 : Int32)
      · refine own_to (fun t k => XS.icmpYes X13.here hx rfl (pc0 := 138) (pc' := 148) rfl (hb hby at_138) rfl (tlt hc138).1 (by decide) (by decide) k) ?_
        show own_Out p e below _ T13 (mkF m 148 #[.val (.int x0), .val (.int x1), .val (.int x2), .val (.ref ob1), .val (.int (x0 &&& (3 : Int32))), .val (.int cc), .unset] []) _ _ _
        refine own_to (fun t k => XS.iload X13.here hx rfl (hb hby at_148) rfl k) ?_
        show own_Out p e below _ T13 (mkF m 150 #[.val (.int x0), .val (.int x1), .val (.int x2), .val (.ref ob1), .val (.int (x0 &&& (3 : Int32))), .val (.int cc), .unset] [(.int cc)]) _ _ _
        refine own_to (fun t k => X13.ldcI hx hown (mvT hZ (hw _ (List.mem_of_getElem? (i := 6) rfl))) rfl (hb hby at_150) k) ?_
        show own_Out p e below _ T13 (mkF m 152 #[.val (.int x0), .val (.int x1), .val (.int x2), .val (.ref ob1), .val (.int (x0 &&& (3 : Int32))), .val (.int cc), .unset] [(.int (1048576 : Int32)), (.int cc)]) _ _ _
        by_cases hc152 : cc < (1048576 : Int32)
        · refine own_to (fun t k => XS.icmpYes X13.here hx rfl (pc0 := 152) (pc' := 166) rfl (hb hby at_152) rfl (tlt hc152).1 (by decide) (by decide) k) ?_
          show own_Out p e below _ T13 (mkF m 166 #[.val (.int x0), .val (.int x1), .val (.int x2), .val (.ref ob1), .val (.int (x0 &&& (3 : Int32))), .val (.int cc), .unset] []) _ _ _
          refine own_to (fun t k => XS.iconst X13.here hx rfl (hb hby at_166) k) ?_
          show own_Out p e below _ T13 (mkF m 167 #[.val (.int x0), .val (.int x1), .val (.int x2), .val (.ref ob1), .val (.int (x0 &&& (3 : Int32))), .val (.int cc), .unset] [(.int (0 : Int32))]) _ _ _
          refine own_to (fun t k => XS.istore X13.here hx rfl (hb hby at_167) rfl (l' := #[.val (.int x0), .val (.int x1), .val (.int x2), .val (.ref ob1), .val (.int (x0 &&& (3 : Int32))), .val (.int cc), .val (.int (0 : Int32))]) rfl k) ?_
          show own_Out p e below _ T13 (mkF m 169 #[.val (.int x0), .val (.int x1), .val (.int x2), .val (.ref ob1), .val (.int (x0 &&& (3 : Int32))), .val (.int cc), .val (.int (0 : Int32))] []) _ _ _
          refine own_to (fun t k => XS.iload X13.here hx rfl (hb hby at_169) rfl k) ?_
          show own_Out p e below _ T13 (mkF m 171 #[.val (.int x0), .val (.int x1), .val (.int x2), .val (.ref ob1), .val (.int (x0 &&& (3 : Int32))), .val (.int cc), .val (.int (0 : Int32))] [(.int cc)]) _ _ _
          refine own_callS X13 hx hZ hown (argsL := [(.int cc)]) (rest := []) (hw _ (List.mem_of_getElem? (i := 13) rfl)) (hw _ (List.mem_of_getElem? (i := 14) rfl)) (hw _ (List.mem_of_getElem? (i := 15) rfl)) (hw _ (List.mem_of_getElem? (i := 16) rfl)) (by decide) (rm1 l Z a0 hw cc hh13 n0 Z0 ) (by decide) (by decide) e13 rfl (by rw [hml]; rfl) (lenOf pd_0 rfl) rfl (W := 0) (by show 2 * 0 + _ ≤ _; exact Nat.le_of_eq rfl) (hb hby at_171) (by decide) (by decide) fun v14 T14 hh14 L14 X14 e14 hQ14 => ?_
          obtain ⟨rfl, NL14, he14⟩ := hQ14
          replace e14 := e14.trans he14
          have N14 := Fr.app N13 NL14
          show own_Out p e below _ T14 (mkF m 174 #[.val (.int x0), .val (.int x1), .val (.int x2), .val (.ref ob1), .val (.int (x0 &&& (3 : Int32))), .val (.int cc), .val (.int (0 : Int32))] [(.int (R1 cc))]) _ _ _
          refine own_to (fun t k => XS.iload X14.here hx rfl (hb hby at_174) rfl k) ?_
          show own_Out p e below _ T14 (mkF m 176 #[.val (.int x0), .val (.int x1), .val (.int x2), .val (.ref ob1), .val (.int (x0 &&& (3 : Int32))), .val (.int cc), .val (.int (0 : Int32))] [(.int (0 : Int32)), (.int (R1 cc))]) _ _ _
          have hc176 : (R1 cc) = (0 : Int32) := (own_priv cc).2 (by simp [hc124, hc138, hc152])
          refine own_to (fun t k => XS.icmpNo X14.here hx rfl (hb hby at_176) rfl (teq hc176).2 k) ?_
          show own_Out p e below _ T14 (mkF m 179 #[.val (.int x0), .val (.int x1), .val (.int x2), .val (.ref ob1), .val (.int (x0 &&& (3 : Int32))), .val (.int cc), .val (.int (0 : Int32))] []) _ _ _
          refine own_to (fun t k => XS.iconst X14.here hx rfl (hb hby at_179) k) ?_
          show own_Out p e below _ T14 (mkF m 180 #[.val (.int x0), .val (.int x1), .val (.int x2), .val (.ref ob1), .val (.int (x0 &&& (3 : Int32))), .val (.int cc), .val (.int (0 : Int32))] [(.int (1 : Int32))]) _ _ _
          refine own_to (fun t k => XS.goto X14.here hx rfl (pc0 := 180) (pc' := 184) rfl (hb hby at_180) (by decide) (by decide) k) ?_
          show own_Out p e below _ T14 (mkF m 184 #[.val (.int x0), .val (.int x1), .val (.int x2), .val (.ref ob1), .val (.int (x0 &&& (3 : Int32))), .val (.int cc), .val (.int (0 : Int32))] [(.int (1 : Int32))]) _ _ _
          refine own_retV X14 hx hlk (w := .int (1 : Int32)) hret rfl (Or.inl ⟨rfl, by simp, _, rfl⟩) (hb hby at_184) (by decide) (by decide) ?_
          rw [e14]
          exact ⟨rfl, N14⟩
        · refine own_to (fun t k => XS.icmpNo X13.here hx rfl (hb hby at_152) rfl (flt hc152).1 k) ?_
          show own_Out p e below _ T13 (mkF m 155 #[.val (.int x0), .val (.int x1), .val (.int x2), .val (.ref ob1), .val (.int (x0 &&& (3 : Int32))), .val (.int cc), .unset] []) _ _ _
          refine own_to (fun t k => XS.iload X13.here hx rfl (hb hby at_155) rfl k) ?_
          show own_Out p e below _ T13 (mkF m 157 #[.val (.int x0), .val (.int x1), .val (.int x2), .val (.ref ob1), .val (.int (x0 &&& (3 : Int32))), .val (.int cc), .unset] [(.int cc)]) _ _ _
          refine own_to (fun t k => X13.ldcI hx hown (mvT hZ (hw _ (List.mem_of_getElem? (i := 7) rfl))) rfl (hb hby at_157) k) ?_
          show own_Out p e below _ T13 (mkF m 159 #[.val (.int x0), .val (.int x1), .val (.int x2), .val (.ref ob1), .val (.int (x0 &&& (3 : Int32))), .val (.int cc), .unset] [(.int (1114109 : Int32)), (.int cc)]) _ _ _
          by_cases hc159 : (1114109 : Int32) < cc
          · refine own_to (fun t k => XS.icmpYes X13.here hx rfl (pc0 := 159) (pc' := 166) rfl (hb hby at_159) rfl (tlt hc159).2.2.1 (by decide) (by decide) k) ?_
            show own_Out p e below _ T13 (mkF m 166 #[.val (.int x0), .val (.int x1), .val (.int x2), .val (.ref ob1), .val (.int (x0 &&& (3 : Int32))), .val (.int cc), .unset] []) _ _ _
            refine own_to (fun t k => XS.iconst X13.here hx rfl (hb hby at_166) k) ?_
            show own_Out p e below _ T13 (mkF m 167 #[.val (.int x0), .val (.int x1), .val (.int x2), .val (.ref ob1), .val (.int (x0 &&& (3 : Int32))), .val (.int cc), .unset] [(.int (0 : Int32))]) _ _ _
            refine own_to (fun t k => XS.istore X13.here hx rfl (hb hby at_167) rfl (l' := #[.val (.int x0), .val (.int x1), .val (.int x2), .val (.ref ob1), .val (.int (x0 &&& (3 : Int32))), .val (.int cc), .val (.int (0 : Int32))]) rfl k) ?_
            show own_Out p e below _ T13 (mkF m 169 #[.val (.int x0), .val (.int x1), .val (.int x2), .val (.ref ob1), .val (.int (x0 &&& (3 : Int32))), .val (.int cc), .val (.int (0 : Int32))] []) _ _ _
            refine own_to (fun t k => XS.iload X13.here hx rfl (hb hby at_169) rfl k) ?_
            show own_Out p e below _ T13 (mkF m 171 #[.val (.int x0), .val (.int x1), .val (.int x2), .val (.ref ob1), .val (.int (x0 &&& (3 : Int32))), .val (.int cc), .val (.int (0 : Int32))] [(.int cc)]) _ _ _
            refine own_callS X13 hx hZ hown (argsL := [(.int cc)]) (rest := []) (hw _ (List.mem_of_getElem? (i := 13) rfl)) (hw _ (List.mem_of_getElem? (i := 14) rfl)) (hw _ (List.mem_of_getElem? (i := 15) rfl)) (hw _ (List.mem_of_getElem? (i := 16) rfl)) (by decide) (rm1 l Z a0 hw cc hh13 n0 Z0 ) (by decide) (by decide) e13 rfl (by rw [hml]; rfl) (lenOf pd_0 rfl) rfl (W := 0) (by show 2 * 0 + _ ≤ _; exact Nat.le_of_eq rfl) (hb hby at_171) (by decide) (by decide) fun v15 T15 hh15 L15 X15 e15 hQ15 => ?_
            obtain ⟨rfl, NL15, he15⟩ := hQ15
            replace e15 := e15.trans he15
            have N15 := Fr.app N13 NL15
            show own_Out p e below _ T15 (mkF m 174 #[.val (.int x0), .val (.int x1), .val (.int x2), .val (.ref ob1), .val (.int (x0 &&& (3 : Int32))), .val (.int cc), .val (.int (0 : Int32))] [(.int (R1 cc))]) _ _ _
            refine own_to (fun t k => XS.iload X15.here hx rfl (hb hby at_174) rfl k) ?_
            show own_Out p e below _ T15 (mkF m 176 #[.val (.int x0), .val (.int x1), .val (.int x2), .val (.ref ob1), .val (.int (x0 &&& (3 : Int32))), .val (.int cc), .val (.int (0 : Int32))] [(.int (0 : Int32)), (.int (R1 cc))]) _ _ _
            have hc176 : (R1 cc) = (0 : Int32) := (own_priv cc).2 (by simp [hc124, hc138, hc152, hc159])
            refine own_to (fun t k => XS.icmpNo X15.here hx rfl (hb hby at_176) rfl (teq hc176).2 k) ?_
            show own_Out p e below _ T15 (mkF m 179 #[.val (.int x0), .val (.int x1), .val (.int x2), .val (.ref ob1), .val (.int (x0 &&& (3 : Int32))), .val (.int cc), .val (.int (0 : Int32))] []) _ _ _
            refine own_to (fun t k => XS.iconst X15.here hx rfl (hb hby at_179) k) ?_
            show own_Out p e below _ T15 (mkF m 180 #[.val (.int x0), .val (.int x1), .val (.int x2), .val (.ref ob1), .val (.int (x0 &&& (3 : Int32))), .val (.int cc), .val (.int (0 : Int32))] [(.int (1 : Int32))]) _ _ _
            refine own_to (fun t k => XS.goto X15.here hx rfl (pc0 := 180) (pc' := 184) rfl (hb hby at_180) (by decide) (by decide) k) ?_
            show own_Out p e below _ T15 (mkF m 184 #[.val (.int x0), .val (.int x1), .val (.int x2), .val (.ref ob1), .val (.int (x0 &&& (3 : Int32))), .val (.int cc), .val (.int (0 : Int32))] [(.int (1 : Int32))]) _ _ _
            refine own_retV X15 hx hlk (w := .int (1 : Int32)) hret rfl (Or.inl ⟨rfl, by simp, _, rfl⟩) (hb hby at_184) (by decide) (by decide) ?_
            rw [e15]
            exact ⟨rfl, N15⟩
          · refine own_to (fun t k => XS.icmpNo X13.here hx rfl (hb hby at_159) rfl (flt hc159).2.2.1 k) ?_
            show own_Out p e below _ T13 (mkF m 162 #[.val (.int x0), .val (.int x1), .val (.int x2), .val (.ref ob1), .val (.int (x0 &&& (3 : Int32))), .val (.int cc), .unset] []) _ _ _
            refine own_to (fun t k => XS.iconst X13.here hx rfl (hb hby at_162) k) ?_
            show own_Out p e below _ T13 (mkF m 163 #[.val (.int x0), .val (.int x1), .val (.int x2), .val (.ref ob1), .val (.int (x0 &&& (3 : Int32))), .val (.int cc), .unset] [(.int (1 : Int32))]) _ _ _
            refine own_to (fun t k => XS.goto X13.here hx rfl (pc0 := 163) (pc' := 167) rfl (hb hby at_163) (by decide) (by decide) k) ?_
            show own_Out p e below _ T13 (mkF m 167 #[.val (.int x0), .val (.int x1), .val (.int x2), .val (.ref ob1), .val (.int (x0 &&& (3 : Int32))), .val (.int cc), .unset] [(.int (1 : Int32))]) _ _ _
            refine own_to (fun t k => XS.istore X13.here hx rfl (hb hby at_167) rfl (l' := #[.val (.int x0), .val (.int x1), .val (.int x2), .val (.ref ob1), .val (.int (x0 &&& (3 : Int32))), .val (.int cc), .val (.int (1 : Int32))]) rfl k) ?_
            show own_Out p e below _ T13 (mkF m 169 #[.val (.int x0), .val (.int x1), .val (.int x2), .val (.ref ob1), .val (.int (x0 &&& (3 : Int32))), .val (.int cc), .val (.int (1 : Int32))] []) _ _ _
            refine own_to (fun t k => XS.iload X13.here hx rfl (hb hby at_169) rfl k) ?_
            show own_Out p e below _ T13 (mkF m 171 #[.val (.int x0), .val (.int x1), .val (.int x2), .val (.ref ob1), .val (.int (x0 &&& (3 : Int32))), .val (.int cc), .val (.int (1 : Int32))] [(.int cc)]) _ _ _
            refine own_callS X13 hx hZ hown (argsL := [(.int cc)]) (rest := []) (hw _ (List.mem_of_getElem? (i := 13) rfl)) (hw _ (List.mem_of_getElem? (i := 14) rfl)) (hw _ (List.mem_of_getElem? (i := 15) rfl)) (hw _ (List.mem_of_getElem? (i := 16) rfl)) (by decide) (rm1 l Z a0 hw cc hh13 n0 Z0 ) (by decide) (by decide) e13 rfl (by rw [hml]; rfl) (lenOf pd_0 rfl) rfl (W := 0) (by show 2 * 0 + _ ≤ _; exact Nat.le_of_eq rfl) (hb hby at_171) (by decide) (by decide) fun v16 T16 hh16 L16 X16 e16 hQ16 => ?_
            obtain ⟨rfl, NL16, he16⟩ := hQ16
            replace e16 := e16.trans he16
            have N16 := Fr.app N13 NL16
            show own_Out p e below _ T16 (mkF m 174 #[.val (.int x0), .val (.int x1), .val (.int x2), .val (.ref ob1), .val (.int (x0 &&& (3 : Int32))), .val (.int cc), .val (.int (1 : Int32))] [(.int (R1 cc))]) _ _ _
            refine own_to (fun t k => XS.iload X16.here hx rfl (hb hby at_174) rfl k) ?_
            show own_Out p e below _ T16 (mkF m 176 #[.val (.int x0), .val (.int x1), .val (.int x2), .val (.ref ob1), .val (.int (x0 &&& (3 : Int32))), .val (.int cc), .val (.int (1 : Int32))] [(.int (1 : Int32)), (.int (R1 cc))]) _ _ _
            have hc176 : (R1 cc) = (1 : Int32) := (own_priv cc).1 (by simp [hc124, hc138, hc152, hc159])
            refine own_to (fun t k => XS.icmpNo X16.here hx rfl (hb hby at_176) rfl (teq hc176).2 k) ?_
            show own_Out p e below _ T16 (mkF m 179 #[.val (.int x0), .val (.int x1), .val (.int x2), .val (.ref ob1), .val (.int (x0 &&& (3 : Int32))), .val (.int cc), .val (.int (1 : Int32))] []) _ _ _
            refine own_to (fun t k => XS.iconst X16.here hx rfl (hb hby at_179) k) ?_
            show own_Out p e below _ T16 (mkF m 180 #[.val (.int x0), .val (.int x1), .val (.int x2), .val (.ref ob1), .val (.int (x0 &&& (3 : Int32))), .val (.int cc), .val (.int (1 : Int32))] [(.int (1 : Int32))]) _ _ _
            refine own_to (fun t k => XS.goto X16.here hx rfl (pc0 := 180) (pc' := 184) rfl (hb hby at_180) (by decide) (by decide) k) ?_
            show own_Out p e below _ T16 (mkF m 184 #[.val (.int x0), .val (.int x1), .val (.int x2), .val (.ref ob1), .val (.int (x0 &&& (3 : Int32))), .val (.int cc), .val (.int (1 : Int32))] [(.int (1 : Int32))]) _ _ _
            refine own_retV X16 hx hlk (w := .int (1 : Int32)) hret rfl (Or.inl ⟨rfl, by simp, _, rfl⟩) (hb hby at_184) (by decide) (by decide) ?_
            rw [e16]
            exact ⟨rfl, N16⟩
      · refine own_to (fun t k => XS.icmpNo X13.here hx rfl (hb hby at_138) rfl (flt hc138).1 k) ?_
        show own_Out p e below _ T13 (mkF m 141 #[.val (.int x0), .val (.int x1), .val (.int x2), .val (.ref ob1), .val (.int (x0 &&& (3 : Int32))), .val (.int cc), .unset] []) _ _ _
        refine own_to (fun t k => XS.iload X13.here hx rfl (hb hby at_141) rfl k) ?_
        show own_Out p e below _ T13 (mkF m 143 #[.val (.int x0), .val (.int x1), .val (.int x2), .val (.ref ob1), .val (.int (x0 &&& (3 : Int32))), .val (.int cc), .unset] [(.int cc)]) _ _ _
        refine own_to (fun t k => X13.ldcI hx hown (mvT hZ (hw _ (List.mem_of_getElem? (i := 4) rfl))) rfl (hb hby at_143) k) ?_
        show own_Out p e below _ T13 (mkF m 145 #[.val (.int x0), .val (.int x1), .val (.int x2), .val (.ref ob1), .val (.int (x0 &&& (3 : Int32))), .val (.int cc), .unset] [(.int (1048573 : Int32)), (.int cc)]) _ _ _
        by_cases hc145 : (1048573 : Int32) < cc
        · refine own_to (fun t k => XS.icmpNo X13.here hx rfl (hb hby at_145) rfl (tlt hc145).2.2.2 k) ?_
          show own_Out p e below _ T13 (mkF m 148 #[.val (.int x0), .val (.int x1), .val (.int x2), .val (.ref ob1), .val (.int (x0 &&& (3 : Int32))), .val (.int cc), .unset] []) _ _ _
          refine own_to (fun t k => XS.iload X13.here hx rfl (hb hby at_148) rfl k) ?_
          show own_Out p e below _ T13 (mkF m 150 #[.val (.int x0), .val (.int x1), .val (.int x2), .val (.ref ob1), .val (.int (x0 &&& (3 : Int32))), .val (.int cc), .unset] [(.int cc)]) _ _ _
          refine own_to (fun t k => X13.ldcI hx hown (mvT hZ (hw _ (List.mem_of_getElem? (i := 6) rfl))) rfl (hb hby at_150) k) ?_
          show own_Out p e below _ T13 (mkF m 152 #[.val (.int x0), .val (.int x1), .val (.int x2), .val (.ref ob1), .val (.int (x0 &&& (3 : Int32))), .val (.int cc), .unset] [(.int (1048576 : Int32)), (.int cc)]) _ _ _
          by_cases hc152 : cc < (1048576 : Int32)
          · refine own_to (fun t k => XS.icmpYes X13.here hx rfl (pc0 := 152) (pc' := 166) rfl (hb hby at_152) rfl (tlt hc152).1 (by decide) (by decide) k) ?_
            show own_Out p e below _ T13 (mkF m 166 #[.val (.int x0), .val (.int x1), .val (.int x2), .val (.ref ob1), .val (.int (x0 &&& (3 : Int32))), .val (.int cc), .unset] []) _ _ _
            refine own_to (fun t k => XS.iconst X13.here hx rfl (hb hby at_166) k) ?_
            show own_Out p e below _ T13 (mkF m 167 #[.val (.int x0), .val (.int x1), .val (.int x2), .val (.ref ob1), .val (.int (x0 &&& (3 : Int32))), .val (.int cc), .unset] [(.int (0 : Int32))]) _ _ _
            refine own_to (fun t k => XS.istore X13.here hx rfl (hb hby at_167) rfl (l' := #[.val (.int x0), .val (.int x1), .val (.int x2), .val (.ref ob1), .val (.int (x0 &&& (3 : Int32))), .val (.int cc), .val (.int (0 : Int32))]) rfl k) ?_
            show own_Out p e below _ T13 (mkF m 169 #[.val (.int x0), .val (.int x1), .val (.int x2), .val (.ref ob1), .val (.int (x0 &&& (3 : Int32))), .val (.int cc), .val (.int (0 : Int32))] []) _ _ _
            refine own_to (fun t k => XS.iload X13.here hx rfl (hb hby at_169) rfl k) ?_
            show own_Out p e below _ T13 (mkF m 171 #[.val (.int x0), .val (.int x1), .val (.int x2), .val (.ref ob1), .val (.int (x0 &&& (3 : Int32))), .val (.int cc), .val (.int (0 : Int32))] [(.int cc)]) _ _ _
            refine own_callS X13 hx hZ hown (argsL := [(.int cc)]) (rest := []) (hw _ (List.mem_of_getElem? (i := 13) rfl)) (hw _ (List.mem_of_getElem? (i := 14) rfl)) (hw _ (List.mem_of_getElem? (i := 15) rfl)) (hw _ (List.mem_of_getElem? (i := 16) rfl)) (by decide) (rm1 l Z a0 hw cc hh13 n0 Z0 ) (by decide) (by decide) e13 rfl (by rw [hml]; rfl) (lenOf pd_0 rfl) rfl (W := 0) (by show 2 * 0 + _ ≤ _; exact Nat.le_of_eq rfl) (hb hby at_171) (by decide) (by decide) fun v17 T17 hh17 L17 X17 e17 hQ17 => ?_
            obtain ⟨rfl, NL17, he17⟩ := hQ17
            replace e17 := e17.trans he17
            have N17 := Fr.app N13 NL17
            show own_Out p e below _ T17 (mkF m 174 #[.val (.int x0), .val (.int x1), .val (.int x2), .val (.ref ob1), .val (.int (x0 &&& (3 : Int32))), .val (.int cc), .val (.int (0 : Int32))] [(.int (R1 cc))]) _ _ _
            refine own_to (fun t k => XS.iload X17.here hx rfl (hb hby at_174) rfl k) ?_
            show own_Out p e below _ T17 (mkF m 176 #[.val (.int x0), .val (.int x1), .val (.int x2), .val (.ref ob1), .val (.int (x0 &&& (3 : Int32))), .val (.int cc), .val (.int (0 : Int32))] [(.int (0 : Int32)), (.int (R1 cc))]) _ _ _
            have hc176 : (R1 cc) = (0 : Int32) := (own_priv cc).2 (by simp [hc124, hc138, hc145, hc152])
            refine own_to (fun t k => XS.icmpNo X17.here hx rfl (hb hby at_176) rfl (teq hc176).2 k) ?_
            show own_Out p e below _ T17 (mkF m 179 #[.val (.int x0), .val (.int x1), .val (.int x2), .val (.ref ob1), .val (.int (x0 &&& (3 : Int32))), .val (.int cc), .val (.int (0 : Int32))] []) _ _ _
            refine own_to (fun t k => XS.iconst X17.here hx rfl (hb hby at_179) k) ?_
            show own_Out p e below _ T17 (mkF m 180 #[.val (.int x0), .val (.int x1), .val (.int x2), .val (.ref ob1), .val (.int (x0 &&& (3 : Int32))), .val (.int cc), .val (.int (0 : Int32))] [(.int (1 : Int32))]) _ _ _
            refine own_to (fun t k => XS.goto X17.here hx rfl (pc0 := 180) (pc' := 184) rfl (hb hby at_180) (by decide) (by decide) k) ?_
            show own_Out p e below _ T17 (mkF m 184 #[.val (.int x0), .val (.int x1), .val (.int x2), .val (.ref ob1), .val (.int (x0 &&& (3 : Int32))), .val (.int cc), .val (.int (0 : Int32))] [(.int (1 : Int32))]) _ _ _
            refine own_retV X17 hx hlk (w := .int (1 : Int32)) hret rfl (Or.inl ⟨rfl, by simp, _, rfl⟩) (hb hby at_184) (by decide) (by decide) ?_
            rw [e17]
            exact ⟨rfl, N17⟩
          · refine own_to (fun t k => XS.icmpNo X13.here hx rfl (hb hby at_152) rfl (flt hc152).1 k) ?_
            show own_Out p e below _ T13 (mkF m 155 #[.val (.int x0), .val (.int x1), .val (.int x2), .val (.ref ob1), .val (.int (x0 &&& (3 : Int32))), .val (.int cc), .unset] []) _ _ _
            refine own_to (fun t k => XS.iload X13.here hx rfl (hb hby at_155) rfl k) ?_
            show own_Out p e below _ T13 (mkF m 157 #[.val (.int x0), .val (.int x1), .val (.int x2), .val (.ref ob1), .val (.int (x0 &&& (3 : Int32))), .val (.int cc), .unset] [(.int cc)]) _ _ _
            refine own_to (fun t k => X13.ldcI hx hown (mvT hZ (hw _ (List.mem_of_getElem? (i := 7) rfl))) rfl (hb hby at_157) k) ?_
            show own_Out p e below _ T13 (mkF m 159 #[.val (.int x0), .val (.int x1), .val (.int x2), .val (.ref ob1), .val (.int (x0 &&& (3 : Int32))), .val (.int cc), .unset] [(.int (1114109 : Int32)), (.int cc)]) _ _ _
            by_cases hc159 : (1114109 : Int32) < cc
            · refine own_to (fun t k => XS.icmpYes X13.here hx rfl (pc0 := 159) (pc' := 166) rfl (hb hby at_159) rfl (tlt hc159).2.2.1 (by decide) (by decide) k) ?_
              show own_Out p e below _ T13 (mkF m 166 #[.val (.int x0), .val (.int x1), .val (.int x2), .val (.ref ob1), .val (.int (x0 &&& (3 : Int32))), .val (.int cc), .unset] []) _ _ _
              refine own_to (fun t k => XS.iconst X13.here hx rfl (hb hby at_166) k) ?_
              show own_Out p e below _ T13 (mkF m 167 #[.val (.int x0), .val (.int x1), .val (.int x2), .val (.ref ob1), .val (.int (x0 &&& (3 : Int32))), .val (.int cc), .unset] [(.int (0 : Int32))]) _ _ _
              refine own_to (fun t k => XS.istore X13.here hx rfl (hb hby at_167) rfl (l' := #[.val (.int x0), .val (.int x1), .val (.int x2), .val (.ref ob1), .val (.int (x0 &&& (3 : Int32))), .val (.int cc), .val (.int (0 : Int32))]) rfl k) ?_
              show own_Out p e below _ T13 (mkF m 169 #[.val (.int x0), .val (.int x1), .val (.int x2), .val (.ref ob1), .val (.int (x0 &&& (3 : Int32))), .val (.int cc), .val (.int (0 : Int32))] []) _ _ _
              refine own_to (fun t k => XS.iload X13.here hx rfl (hb hby at_169) rfl k) ?_
              show own_Out p e below _ T13 (mkF m 171 #[.val (.int x0), .val (.int x1), .val (.int x2), .val (.ref ob1), .val (.int (x0 &&& (3 : Int32))), .val (.int cc), .val (.int (0 : Int32))] [(.int cc)]) _ _ _
              refine own_callS X13 hx hZ hown (argsL := [(.int cc)]) (rest := []) (hw _ (List.mem_of_getElem? (i := 13) rfl)) (hw _ (List.mem_of_getElem? (i := 14) rfl)) (hw _ (List.mem_of_getElem? (i := 15) rfl)) (hw _ (List.mem_of_getElem? (i := 16) rfl)) (by decide) (rm1 l Z a0 hw cc hh13 n0 Z0 ) (by decide) (by decide) e13 rfl (by rw [hml]; rfl) (lenOf pd_0 rfl) rfl (W := 0) (by show 2 * 0 + _ ≤ _; exact Nat.le_of_eq rfl) (hb hby at_171) (by decide) (by decide) fun v18 T18 hh18 L18 X18 e18 hQ18 => ?_
              obtain ⟨rfl, NL18, he18⟩ := hQ18
              replace e18 := e18.trans he18
              have N18 := Fr.app N13 NL18
              show own_Out p e below _ T18 (mkF m 174 #[.val (.int x0), .val (.int x1), .val (.int x2), .val (.ref ob1), .val (.int (x0 &&& (3 : Int32))), .val (.int cc), .val (.int (0 : Int32))] [(.int (R1 cc))]) _ _ _
              refine own_to (fun t k => XS.iload X18.here hx rfl (hb hby at_174) rfl k) ?_
              show own_Out p e below _ T18 (mkF m 176 #[.val (.int x0), .val (.int x1), .val (.int x2), .val (.ref ob1), .val (.int (x0 &&& (3 : Int32))), .val (.int cc), .val (.int (0 : Int32))] [(.int (0 : Int32)), (.int (R1 cc))]) _ _ _
              have hc176 : (R1 cc) = (0 : Int32) := (own_priv cc).2 (by simp [hc124, hc138, hc145, hc152, hc159])
              refine own_to (fun t k => XS.icmpNo X18.here hx rfl (hb hby at_176) rfl (teq hc176).2 k) ?_
              show own_Out p e below _ T18 (mkF m 179 #[.val (.int x0), .val (.int x1), .val (.int x2), .val (.ref ob1), .val (.int (x0 &&& (3 : Int32))), .val (.int cc), .val (.int (0 : Int32))] []) _ _ _
              refine own_to (fun t k => XS.iconst X18.here hx rfl (hb hby at_179) k) ?_
              show own_Out p e below _ T18 (mkF m 180 #[.val (.int x0), .val (.int x1), .val (.int x2), .val (.ref ob1), .val (.int (x0 &&& (3 : Int32))), .val (.int cc), .val (.int (0 : Int32))] [(.int (1 : Int32))]) _ _ _
              refine own_to (fun t k => XS.goto X18.here hx rfl (pc0 := 180) (pc' := 184) rfl (hb hby at_180) (by decide) (by decide) k) ?_
              show own_Out p e below _ T18 (mkF m 184 #[.val (.int x0), .val (.int x1), .val (.int x2), .val (.ref ob1), .val (.int (x0 &&& (3 : Int32))), .val (.int cc), .val (.int (0 : Int32))] [(.int (1 : Int32))]) _ _ _
              refine own_retV X18 hx hlk (w := .int (1 : Int32)) hret rfl (Or.inl ⟨rfl, by simp, _, rfl⟩) (hb hby at_184) (by decide) (by decide) ?_
              rw [e18]
              exact ⟨rfl, N18⟩
            · refine own_to (fun t k => XS.icmpNo X13.here hx rfl (hb hby at_159) rfl (flt hc159).2.2.1 k) ?_
              show own_Out p e below _ T13 (mkF m 162 #[.val (.int x0), .val (.int x1), .val (.int x2), .val (.ref ob1), .val (.int (x0 &&& (3 : Int32))), .val (.int cc), .unset] []) _ _ _
              refine own_to (fun t k => XS.iconst X13.here hx rfl (hb hby at_162) k) ?_
              show own_Out p e below _ T13 (mkF m 163 #[.val (.int x0), .val (.int x1), .val (.int x2), .val (.ref ob1), .val (.int (x0 &&& (3 : Int32))), .val (.int cc), .unset] [(.int (1 : Int32))]) _ _ _
              refine own_to (fun t k => XS.goto X13.here hx rfl (pc0 := 163) (pc' := 167) rfl (hb hby at_163) (by decide) (by decide) k) ?_
              show own_Out p e below _ T13 (mkF m 167 #[.val (.int x0), .val (.int x1), .val (.int x2), .val (.ref ob1), .val (.int (x0 &&& (3 : Int32))), .val (.int cc), .unset] [(.int (1 : Int32))]) _ _ _
              refine own_to (fun t k => XS.istore X13.here hx rfl (hb hby at_167) rfl (l' := #[.val (.int x0), .val (.int x1), .val (.int x2), .val (.ref ob1), .val (.int (x0 &&& (3 : Int32))), .val (.int cc), .val (.int (1 : Int32))]) rfl k) ?_
              show own_Out p e below _ T13 (mkF m 169 #[.val (.int x0), .val (.int x1), .val (.int x2), .val (.ref ob1), .val (.int (x0 &&& (3 : Int32))), .val (.int cc), .val (.int (1 : Int32))] []) _ _ _
              refine own_to (fun t k => XS.iload X13.here hx rfl (hb hby at_169) rfl k) ?_
              show own_Out p e below _ T13 (mkF m 171 #[.val (.int x0), .val (.int x1), .val (.int x2), .val (.ref ob1), .val (.int (x0 &&& (3 : Int32))), .val (.int cc), .val (.int (1 : Int32))] [(.int cc)]) _ _ _
              refine own_callS X13 hx hZ hown (argsL := [(.int cc)]) (rest := []) (hw _ (List.mem_of_getElem? (i := 13) rfl)) (hw _ (List.mem_of_getElem? (i := 14) rfl)) (hw _ (List.mem_of_getElem? (i := 15) rfl)) (hw _ (List.mem_of_getElem? (i := 16) rfl)) (by decide) (rm1 l Z a0 hw cc hh13 n0 Z0 ) (by decide) (by decide) e13 rfl (by rw [hml]; rfl) (lenOf pd_0 rfl) rfl (W := 0) (by show 2 * 0 + _ ≤ _; exact Nat.le_of_eq rfl) (hb hby at_171) (by decide) (by decide) fun v19 T19 hh19 L19 X19 e19 hQ19 => ?_
              obtain ⟨rfl, NL19, he19⟩ := hQ19
              replace e19 := e19.trans he19
              have N19 := Fr.app N13 NL19
              show own_Out p e below _ T19 (mkF m 174 #[.val (.int x0), .val (.int x1), .val (.int x2), .val (.ref ob1), .val (.int (x0 &&& (3 : Int32))), .val (.int cc), .val (.int (1 : Int32))] [(.int (R1 cc))]) _ _ _
              refine own_to (fun t k => XS.iload X19.here hx rfl (hb hby at_174) rfl k) ?_
              show own_Out p e below _ T19 (mkF m 176 #[.val (.int x0), .val (.int x1), .val (.int x2), .val (.ref ob1), .val (.int (x0 &&& (3 : Int32))), .val (.int cc), .val (.int (1 : Int32))] [(.int (1 : Int32)), (.int (R1 cc))]) _ _ _
              have hc176 : (R1 cc) = (1 : Int32) := (own_priv cc).1 (by simp [hc124, hc138, hc145, hc152, hc159])
              refine own_to (fun t k => XS.icmpNo X19.here hx rfl (hb hby at_176) rfl (teq hc176).2 k) ?_
              show own_Out p e below _ T19 (mkF m 179 #[.val (.int x0), .val (.int x1), .val (.int x2), .val (.ref ob1), .val (.int (x0 &&& (3 : Int32))), .val (.int cc), .val (.int (1 : Int32))] []) _ _ _
              refine own_to (fun t k => XS.iconst X19.here hx rfl (hb hby at_179) k) ?_
              show own_Out p e below _ T19 (mkF m 180 #[.val (.int x0), .val (.int x1), .val (.int x2), .val (.ref ob1), .val (.int (x0 &&& (3 : Int32))), .val (.int cc), .val (.int (1 : Int32))] [(.int (1 : Int32))]) _ _ _
              refine own_to (fun t k => XS.goto X19.here hx rfl (pc0 := 180) (pc' := 184) rfl (hb hby at_180) (by decide) (by decide) k) ?_
              show own_Out p e below _ T19 (mkF m 184 #[.val (.int x0), .val (.int x1), .val (.int x2), .val (.ref ob1), .val (.int (x0 &&& (3 : Int32))), .val (.int cc), .val (.int (1 : Int32))] [(.int (1 : Int32))]) _ _ _
              refine own_retV X19 hx hlk (w := .int (1 : Int32)) hret rfl (Or.inl ⟨rfl, by simp, _, rfl⟩) (hb hby at_184) (by decide) (by decide) ?_
              rw [e19]
              exact ⟨rfl, N19⟩
        · refine own_to (fun t k => XS.icmpYes X13.here hx rfl (pc0 := 145) (pc' := 162) rfl (hb hby at_145) rfl (flt hc145).2.2.2 (by decide) (by decide) k) ?_
          show own_Out p e below _ T13 (mkF m 162 #[.val (.int x0), .val (.int x1), .val (.int x2), .val (.ref ob1), .val (.int (x0 &&& (3 : Int32))), .val (.int cc), .unset] []) _ _ _
          refine own_to (fun t k => XS.iconst X13.here hx rfl (hb hby at_162) k) ?_
          show own_Out p e below _ T13 (mkF m 163 #[.val (.int x0), .val (.int x1), .val (.int x2), .val (.ref ob1), .val (.int (x0 &&& (3 : Int32))), .val (.int cc), .unset] [(.int (1 : Int32))]) _ _ _
          refine own_to (fun t k => XS.goto X13.here hx rfl (pc0 := 163) (pc' := 167) rfl (hb hby at_163) (by decide) (by decide) k) ?_
          show own_Out p e below _ T13 (mkF m 167 #[.val (.int x0), .val (.int x1), .val (.int x2), .val (.ref ob1), .val (.int (x0 &&& (3 : Int32))), .val (.int cc), .unset] [(.int (1 : Int32))]) _ _ _
          refine own_to (fun t k => XS.istore X13.here hx rfl (hb hby at_167) rfl (l' := #[.val (.int x0), .val (.int x1), .val (.int x2), .val (.ref ob1), .val (.int (x0 &&& (3 : Int32))), .val (.int cc), .val (.int (1 : Int32))]) rfl k) ?_
          show own_Out p e below _ T13 (mkF m 169 #[.val (.int x0), .val (.int x1), .val (.int x2), .val (.ref ob1), .val (.int (x0 &&& (3 : Int32))), .val (.int cc), .val (.int (1 : Int32))] []) _ _ _
          refine own_to (fun t k => XS.iload X13.here hx rfl (hb hby at_169) rfl k) ?_
          show own_Out p e below _ T13 (mkF m 171 #[.val (.int x0), .val (.int x1), .val (.int x2), .val (.ref ob1), .val (.int (x0 &&& (3 : Int32))), .val (.int cc), .val (.int (1 : Int32))] [(.int cc)]) _ _ _
          refine own_callS X13 hx hZ hown (argsL := [(.int cc)]) (rest := []) (hw _ (List.mem_of_getElem? (i := 13) rfl)) (hw _ (List.mem_of_getElem? (i := 14) rfl)) (hw _ (List.mem_of_getElem? (i := 15) rfl)) (hw _ (List.mem_of_getElem? (i := 16) rfl)) (by decide) (rm1 l Z a0 hw cc hh13 n0 Z0 ) (by decide) (by decide) e13 rfl (by rw [hml]; rfl) (lenOf pd_0 rfl) rfl (W := 0) (by show 2 * 0 + _ ≤ _; exact Nat.le_of_eq rfl) (hb hby at_171) (by decide) (by decide) fun v20 T20 hh20 L20 X20 e20 hQ20 => ?_
          obtain ⟨rfl, NL20, he20⟩ := hQ20
          replace e20 := e20.trans he20
          have N20 := Fr.app N13 NL20
          show own_Out p e below _ T20 (mkF m 174 #[.val (.int x0), .val (.int x1), .val (.int x2), .val (.ref ob1), .val (.int (x0 &&& (3 : Int32))), .val (.int cc), .val (.int (1 : Int32))] [(.int (R1 cc))]) _ _ _
          refine own_to (fun t k => XS.iload X20.here hx rfl (hb hby at_174) rfl k) ?_
          show own_Out p e below _ T20 (mkF m 176 #[.val (.int x0), .val (.int x1), .val (.int x2), .val (.ref ob1), .val (.int (x0 &&& (3 : Int32))), .val (.int cc), .val (.int (1 : Int32))] [(.int (1 : Int32)), (.int (R1 cc))]) _ _ _
          have hc176 : (R1 cc) = (1 : Int32) := (own_priv cc).1 (by simp [hc124, hc138, hc145])
          refine own_to (fun t k => XS.icmpNo X20.here hx rfl (hb hby at_176) rfl (teq hc176).2 k) ?_
          show own_Out p e below _ T20 (mkF m 179 #[.val (.int x0), .val (.int x1), .val (.int x2), .val (.ref ob1), .val (.int (x0 &&& (3 : Int32))), .val (.int cc), .val (.int (1 : Int32))] []) _ _ _
          refine own_to (fun t k => XS.iconst X20.here hx rfl (hb hby at_179) k) ?_
          show own_Out p e below _ T20 (mkF m 180 #[.val (.int x0), .val (.int x1), .val (.int x2), .val (.ref ob1), .val (.int (x0 &&& (3 : Int32))), .val (.int cc), .val (.int (1 : Int32))] [(.int (1 : Int32))]) _ _ _
          refine own_to (fun t k => XS.goto X20.here hx rfl (pc0 := 180) (pc' := 184) rfl (hb hby at_180) (by decide) (by decide) k) ?_
          show own_Out p e below _ T20 (mkF m 184 #[.val (.int x0), .val (.int x1), .val (.int x2), .val (.ref ob1), .val (.int (x0 &&& (3 : Int32))), .val (.int cc), .val (.int (1 : Int32))] [(.int (1 : Int32))]) _ _ _
          refine own_retV X20 hx hlk (w := .int (1 : Int32)) hret rfl (Or.inl ⟨rfl, by simp, _, rfl⟩) (hb hby at_184) (by decide) (by decide) ?_
          rw [e20]
          exact ⟨rfl, N20⟩
    · refine own_to (fun t k => XS.icmpNo X13.here hx rfl (hb hby at_124) rfl (flt hc124).1 k) ?_
      show own_Out p e below _ T13 (mkF m 127 #[.val (.int x0), .val (.int x1), .val (.int x2), .val (.ref ob1), .val (.int (x0 &&& (3 : Int32))), .val (.int cc), .unset] []) _ _ _
      refine own_to (fun t k => XS.iload X13.here hx rfl (hb hby at_127) rfl k) ?_
      show own_Out p e below _ T13 (mkF m 129 #[.val (.int x0), .val (.int x1), .val (.int x2), .val (.ref ob1), .val (.int (x0 &&& (3 : Int32))), .val (.int cc), .unset] [(.int cc)]) _ _ _
      refine own_to (fun t k => X13.ldcI hx hown (mvT hZ (hw _ (List.mem_of_getElem? (i := 2) rfl))) rfl (hb hby at_129) k) ?_
      show own_Out p e below _ T13 (mkF m 131 #[.val (.int x0), .val (.int x1), .val (.int x2), .val (.ref ob1), .val (.int (x0 &&& (3 : Int32))), .val (.int cc), .unset] [(.int (63743 : Int32)), (.int cc)]) _ _ _
      by_cases hc131 : (63743 : Int32) < cc
      · refine own_to (fun t k => XS.icmpNo X13.here hx rfl (hb hby at_131) rfl (tlt hc131).2.2.2 k) ?_
        show own_Out p e below _ T13 (mkF m 134 #[.val (.int x0), .val (.int x1), .val (.int x2), .val (.ref ob1), .val (.int (x0 &&& (3 : Int32))), .val (.int cc), .unset] []) _ _ _
        refine own_to (fun t k => XS.iload X13.here hx rfl (hb hby at_134) rfl k) ?_
        show own_Out p e below _ T13 (mkF m 136 #[.val (.int x0), .val (.int x1), .val (.int x2), .val (.ref ob1), .val (.int (x0 &&& (3 : Int32))), .val (.int cc), .unset] [(.int cc)]) _ _ _
        refine own_to (fun t k => X13.ldcI hx hown (mvT hZ (hw _ (List.mem_of_getElem? (i := 3) rfl))) rfl (hb hby at_136) k) ?_
        show own_Out p e below _ T13 (mkF m 138 #[.val (.int x0), .val (.int x1), .val (.int x2), .val (.ref ob1), .val (.int (x0 &&& (3 : Int32))), .val (.int cc), .unset] [(.int (983040 : Int32)), (.int cc)]) _ _ _
        by_cases hc138 : cc < (983040 : Int32)
        · refine own_to (fun t k => XS.icmpYes X13.here hx rfl (pc0 := 138) (pc' := 148) rfl (hb hby at_138) rfl (tlt hc138).1 (by decide) (by decide) k) ?_
          show own_Out p e below _ T13 (mkF m 148 #[.val (.int x0), .val (.int x1), .val (.int x2), .val (.ref ob1), .val (.int (x0 &&& (3 : Int32))), .val (.int cc), .unset] []) _ _ _
          refine own_to (fun t k => XS.iload X13.here hx rfl (hb hby at_148) rfl k) ?_
          show own_Out p e below _ T13 (mkF m 150 #[.val (.int x0), .val (.int x1), .val (.int x2), .val (.ref ob1), .val (.int (x0 &&& (3 : Int32))), .val (.int cc), .unset] [(.int cc)]) _ _ _
          refine own_to (fun t k => X13.ldcI hx hown (mvT hZ (hw _ (List.mem_of_getElem? (i := 6) rfl))) rfl (hb hby at_150) k) ?_
          show own_Out p e below _ T13 (mkF m 152 #[.val (.int x0), .val (.int x1), .val (.int x2), .val (.ref ob1), .val (.int (x0 &&& (3 : Int32))), .val (.int cc), .unset] [(.int (1048576 : Int32)), (.int cc)]) _ _ _
          by_cases hc152 : cc < (1048576 : Int32)
          · refine own_to (fun t k => XS.icmpYes X13.here hx rfl (pc0 := 152) (pc' := 166) rfl (hb hby at_152) rfl (tlt hc152).1 (by decide) (by decide) k) ?_
            show own_Out p e below _ T13 (mkF m 166 #[.val (.int x0), .val (.int x1), .val (.int x2), .val (.ref ob1), .val (.int (x0 &&& (3 : Int32))), .val (.int cc), .unset] []) _ _ _
            refine own_to (fun t k => XS.iconst X13.here hx rfl (hb hby at_166) k) ?_
            show own_Out p e below _ T13 (mkF m 167 #[.val (.int x0), .val (.int x1), .val (.int x2), .val (.ref ob1), .val (.int (x0 &&& (3 : Int32))), .val (.int cc), .unset] [(.int (0 : Int32))]) _ _ _
            refine own_to (fun t k => XS.istore X13.here hx rfl (hb hby at_167) rfl (l' := #[.val (.int x0), .val (.int x1), .val (.int x2), .val (.ref ob1), .val (.int (x0 &&& (3 : Int32))), .val (.int cc), .val (.int (0 : Int32))]) rfl k) ?_
            show own_Out p e below _ T13 (mkF m 169 #[.val (.int x0), .val (.int x1), .val (.int x2), .val (.ref ob1), .val (.int (x0 &&& (3 : Int32))), .val (.int cc), .val (.int (0 : Int32))] []) _ _ _
            refine own_to (fun t k => XS.iload X13.here hx rfl (hb hby at_169) rfl k) ?_
            show own_Out p e below _ T13 (mkF m 171 #[.val (.int x0), .val (.int x1), .val (.int x2), .val (.ref ob1), .val (.int (x0 &&& (3 : Int32))), .val (.int cc), .val (.int (0 : Int32))] [(.int cc)]) _ _ _
            refine own_callS X13 hx hZ hown (argsL := [(.int cc)]) (rest := []) (hw _ (List.mem_of_getElem? (i := 13) rfl)) (hw _ (List.mem_of_getElem? (i := 14) rfl)) (hw _ (List.mem_of_getElem? (i := 15) rfl)) (hw _ (List.mem_of_getElem? (i := 16) rfl)) (by decide) (rm1 l Z a0 hw cc hh13 n0 Z0 ) (by decide) (by decide) e13 rfl (by rw [hml]; rfl) (lenOf pd_0 rfl) rfl (W := 0) (by show 2 * 0 + _ ≤ _; exact Nat.le_of_eq rfl) (hb hby at_171) (by decide) (by decide) fun v21 T21 hh21 L21 X21 e21 hQ21 => ?_
            obtain ⟨rfl, NL21, he21⟩ := hQ21
            replace e21 := e21.trans he21
            have N21 := Fr.app N13 NL21
            show own_Out p e below _ T21 (mkF m 174 #[.val (.int x0), .val (.int x1), .val (.int x2), .val (.ref ob1), .val (.int (x0 &&& (3 : Int32))), .val (.int cc), .val (.int (0 : Int32))] [(.int (R1 cc))]) _ _ _
            refine own_to (fun t k => XS.iload X21.here hx rfl (hb hby at_174) rfl k) ?_
            show own_Out p e below _ T21 (mkF m 176 #[.val (.int x0), .val (.int x1), .val (.int x2), .val (.ref ob1), .val (.int (x0 &&& (3 : Int32))), .val (.int cc), .val (.int (0 : Int32))] [(.int (0 : Int32)), (.int (R1 cc))]) _ _ _
            have hc176 : (R1 cc) = (0 : Int32) := (own_priv cc).2 (by simp [hc124, hc131, hc138, hc152])
            refine own_to (fun t k => XS.icmpNo X21.here hx rfl (hb hby at_176) rfl (teq hc176).2 k) ?_
            show own_Out p e below _ T21 (mkF m 179 #[.val (.int x0), .val (.int x1), .val (.int x2), .val (.ref ob1), .val (.int (x0 &&& (3 : Int32))), .val (.int cc), .val (.int (0 : Int32))] []) _ _ _
            refine own_to (fun t k => XS.iconst X21.here hx rfl (hb hby at_179) k) ?_
            show own_Out p e below _ T21 (mkF m 180 #[.val (.int x0), .val (.int x1), .val (.int x2), .val (.ref ob1), .val (.int (x0 &&& (3 : Int32))), .val (.int cc), .val (.int (0 : Int32))] [(.int (1 : Int32))]) _ _ _
            refine own_to (fun t k => XS.goto X21.here hx rfl (pc0 := 180) (pc' := 184) rfl (hb hby at_180) (by decide) (by decide) k) ?_
            show own_Out p e below _ T21 (mkF m 184 #[.val (.int x0), .val (.int x1), .val (.int x2), .val (.ref ob1), .val (.int (x0 &&& (3 : Int32))), .val (.int cc), .val (.int (0 : Int32))] [(.int (1 : Int32))]) _ _ _
            refine own_retV X21 hx hlk (w := .int (1 : Int32)) hret rfl (Or.inl ⟨rfl, by simp, _, rfl⟩) (hb hby at_184) (by decide) (by decide) ?_
            rw [e21]
            exact ⟨rfl, N21⟩
          · refine own_to (fun t k => XS.icmpNo X13.here hx rfl (hb hby at_152) rfl (flt hc152).1 k) ?_
            show own_Out p e below _ T13 (mkF m 155 #[.val (.int x0), .val (.int x1), .val (.int x2), .val (.ref ob1), .val (.int (x0 &&& (3 : Int32))), .val (.int cc), .unset] []) _ _ _
            refine own_to (fun t k => XS.iload X13.here hx rfl (hb hby at_155) rfl k) ?_
            show own_Out p e below _ T13 (mkF m 157 #[.val (.int x0), .val (.int x1), .val (.int x2), .val (.ref ob1), .val (.int (x0 &&& (3 : Int32))), .val (.int cc), .unset] [(.int cc)]) _ _ _
            refine own_to (fun t k => X13.ldcI hx hown (mvT hZ (hw _ (List.mem_of_getElem? (i := 7) rfl))) rfl (hb hby at_157) k) ?_
            show own_Out p e below _ T13 (mkF m 159 #[.val (.int x0), .val (.int x1), .val (.int x2), .val (.ref ob1), .val (.int (x0 &&& (3 : Int32))), .val (.int cc), .unset] [(.int (1114109 : Int32)), (.int cc)]) _ _ _
            by_cases hc159 : (1114109 : Int32) < cc
            · refine own_to (fun t k => XS.icmpYes X13.here hx rfl (pc0 := 159) (pc' := 166) rfl (hb hby at_159) rfl (tlt hc159).2.2.1 (by decide) (by decide) k) ?_
              show own_Out p e below _ T13 (mkF m 166 #[.val (.int x0), .val (.int x1), .val (.int x2), .val (.ref ob1), .val (.int (x0 &&& (3 : Int32))), .val (.int cc), .unset] []) _ _ _
              refine own_to (fun t k => XS.iconst X13.here hx rfl (hb hby at_166) k) ?_
              show own_Out p e below _ T13 (mkF m 167 #[.val (.int x0), .val (.int x1), .val (.int x2), .val (.ref ob1), .val (.int (x0 &&& (3 : Int32))), .val (.int cc), .unset] [(.int (0 : Int32))]) _ _ _
              refine own_to (fun t k => XS.istore X13.here hx rfl (hb hby at_167) rfl (l' := #[.val (.int x0), .val (.int x1), .val (.int x2), .val (.ref ob1), .val (.int (x0 &&& (3 : Int32))), .val (.int cc), .val (.int (0 : Int32))]) rfl k) ?_
              show own_Out p e below _ T13 (mkF m 169 #[.val (.int x0), .val (.int x1), .val (.int x2), .val (.ref ob1), .val (.int (x0 &&& (3 : Int32))), .val (.int cc), .val (.int (0 : Int32))] []) _ _ _
              refine own_to (fun t k => XS.iload X13.here hx rfl (hb hby at_169) rfl k) ?_
              show own_Out p e below _ T13 (mkF m 171 #[.val (.int x0), .val (.int x1), .val (.int x2), .val (.ref ob1), .val (.int (x0 &&& (3 : Int32))), .val (.int cc), .val (.int (0 : Int32))] [(.int cc)]) _ _ _
              refine own_callS X13 hx hZ hown (argsL := [(.int cc)]) (rest := []) (hw _ (List.mem_of_getElem? (i := 13) rfl)) (hw _ (List.mem_of_getElem? (i := 14) rfl)) (hw _ (List.mem_of_getElem? (i := 15) rfl)) (hw _ (List.mem_of_getElem? (i := 16) rfl)) (by decide) (rm1 l Z a0 hw cc hh13 n0 Z0 ) (by decide) (by decide) e13 rfl (by rw [hml]; rfl) (lenOf pd_0 rfl) rfl (W := 0) (by show 2 * 0 + _ ≤ _; exact Nat.le_of_eq rfl) (hb hby at_171) (by decide) (by decide) fun v22 T22 hh22 L22 X22 e22 hQ22 => ?_
              obtain ⟨rfl, NL22, he22⟩ := hQ22
              replace e22 := e22.trans he22
              have N22 := Fr.app N13 NL22
              show own_Out p e below _ T22 (mkF m 174 #[.val (.int x0), .val (.int x1), .val (.int x2), .val (.ref ob1), .val (.int (x0 &&& (3 : Int32))), .val (.int cc), .val (.int (0 : Int32))] [(.int (R1 cc))]) _ _ _
              refine own_to (fun t k => XS.iload X22.here hx rfl (hb hby at_174) rfl k) ?_
              show own_Out p e below _ T22 (mkF m 176 #[.val (.int x0), .val (.int x1), .val (.int x2), .val (.ref ob1), .val (.int (x0 &&& (3 : Int32))), .val (.int cc), .val (.int (0 : Int32))] [(.int (0 : Int32)), (.int (R1 cc))]) _ _ _
              have hc176 : (R1 cc) = (0 : Int32) := (own_priv cc).2 (by simp [hc124, hc131, hc138, hc152, hc159])
              refine own_to (fun t k => XS.icmpNo X22.here hx rfl (hb hby at_176) rfl (teq hc176).2 k) ?_
              show own_Out p e below _ T22 (mkF m 179 #[.val (.int x0), .val (.int x1), .val (.int x2), .val (.ref ob1), .val (.int (x0 &&& (3 : Int32))), .val (.int cc), .val (.int (0 : Int32))] []) _ _ _
              refine own_to (fun t k => XS.iconst X22.here hx rfl (hb hby at_179) k) ?_
              show own_Out p e below _ T22 (mkF m 180 #[.val (.int x0), .val (.int x1), .val (.int x2), .val (.ref ob1), .val (.int (x0 &&& (3 : Int32))), .val (.int cc), .val (.int (0 : Int32))] [(.int (1 : Int32))]) _ _ _
              refine own_to (fun t k => XS.goto X22.here hx rfl (pc0 := 180) (pc' := 184) rfl (hb hby at_180) (by decide) (by decide) k) ?_
              show own_Out p e below _ T22 (mkF m 184 #[.val (.int x0), .val (.int x1), .val (.int x2), .val (.ref ob1), .val (.int (x0 &&& (3 : Int32))), .val (.int cc), .val (.int (0 : Int32))] [(.int (1 : Int32))]) _ _ _
              refine own_retV X22 hx hlk (w := .int (1 : Int32)) hret rfl (Or.inl ⟨rfl, by simp, _, rfl⟩) (hb hby at_184) (by decide) (by decide) ?_
              rw [e22]
              exact ⟨rfl, N22⟩
            · refine own_to (fun t k => XS.icmpNo X13.here hx rfl (hb hby at_159) rfl (flt hc159).2.2.1 k) ?_
              show own_Out p e below _ T13 (mkF m 162 #[.val (.int x0), .val (.int x1), .val (.int x2), .val (.ref ob1), .val (.int (x0 &&& (3 : Int32))), .val (.int cc), .unset] []) _ _ _
              refine own_to (fun t k => XS.iconst X13.here hx rfl (hb hby at_162) k) ?_
              show own_Out p e below _ T13 (mkF m 163 #[.val (.int x0), .val (.int x1), .val (.int x2), .val (.ref ob1), .val (.int (x0 &&& (3 : Int32))), .val (.int cc), .unset] [(.int (1 : Int32))]) _ _ _
              refine own_to (fun t k => XS.goto X13.here hx rfl (pc0 := 163) (pc' := 167) rfl (hb hby at_163) (by decide) (by decide) k) ?_
              show own_Out p e below _ T13 (mkF m 167 #[.val (.int x0), .val (.int x1), .val (.int x2), .val (.ref ob1), .val (.int (x0 &&& (3 : Int32))), .val (.int cc), .unset] [(.int (1 : Int32))]) _ _ _
              refine own_to (fun t k => XS.istore X13.here hx rfl (hb hby at_167) rfl (l' := #[.val (.int x0), .val (.int x1), .val (.int x2), .val (.ref ob1), .val (.int (x0 &&& (3 : Int32))), .val (.int cc), .val (.int (1 : Int32))]) rfl k) ?_
              show own_Out p e below _ T13 (mkF m 169 #[.val (.int x0), .val (.int x1), .val (.int x2), .val (.ref ob1), .val (.int (x0 &&& (3 : Int32))), .val (.int cc), .val (.int (1 : Int32))] []) _ _ _
              refine own_to (fun t k => XS.iload X13.here hx rfl (hb hby at_169) rfl k) ?_
              show own_Out p e below _ T13 (mkF m 171 #[.val (.int x0), .val (.int x1), .val (.int x2), .val (.ref ob1), .val (.int (x0 &&& (3 : Int32))), .val (.int cc), .val (.int (1 : Int32))] [(.int cc)]) _ _ _
              refine own_callS X13 hx hZ hown (argsL := [(.int cc)]) (rest := []) (hw _ (List.mem_of_getElem? (i := 13) rfl)) (hw _ (List.mem_of_getElem? (i := 14) rfl)) (hw _ (List.mem_of_getElem? (i := 15) rfl)) (hw _ (List.mem_of_getElem? (i := 16) rfl)) (by decide) (rm1 l Z a0 hw cc hh13 n0 Z0 ) (by decide) (by decide) e13 rfl (by rw [hml]; rfl) (lenOf pd_0 rfl) rfl (W := 0) (by show 2 * 0 + _ ≤ _; exact Nat.le_of_eq rfl) (hb hby at_171) (by decide) (by decide) fun v23 T23 hh23 L23 X23 e23 hQ23 => ?_
              obtain ⟨rfl, NL23, he23⟩ := hQ23
              replace e23 := e23.trans he23
              have N23 := Fr.app N13 NL23
              show own_Out p e below _ T23 (mkF m 174 #[.val (.int x0), .val (.int x1), .val (.int x2), .val (.ref ob1), .val (.int (x0 &&& (3 : Int32))), .val (.int cc), .val (.int (1 : Int32))] [(.int (R1 cc))]) _ _ _
              refine own_to (fun t k => XS.iload X23.here hx rfl (hb hby at_174) rfl k) ?_
              show own_Out p e below _ T23 (mkF m 176 #[.val (.int x0), .val (.int x1), .val (.int x2), .val (.ref ob1), .val (.int (x0 &&& (3 : Int32))), .val (.int cc), .val (.int (1 : Int32))] [(.int (1 : Int32)), (.int (R1 cc))]) _ _ _
              have hc176 : (R1 cc) = (1 : Int32) := (own_priv cc).1 (by simp [hc124, hc131, hc138, hc152, hc159])
              refine own_to (fun t k => XS.icmpNo X23.here hx rfl (hb hby at_176) rfl (teq hc176).2 k) ?_
              show own_Out p e below _ T23 (mkF m 179 #[.val (.int x0), .val (.int x1), .val (.int x2), .val (.ref ob1), .val (.int (x0 &&& (3 : Int32))), .val (.int cc), .val (.int (1 : Int32))] []) _ _ _
              refine own_to (fun t k => XS.iconst X23.here hx rfl (hb hby at_179) k) ?_
              show own_Out p e below _ T23 (mkF m 180 #[.val (.int x0), .val (.int x1), .val (.int x2), .val (.ref ob1), .val (.int (x0 &&& (3 : Int32))), .val (.int cc), .val (.int (1 : Int32))] [(.int (1 : Int32))]) _ _ _
              refine own_to (fun t k => XS.goto X23.here hx rfl (pc0 := 180) (pc' := 184) rfl (hb hby at_180) (by decide) (by decide) k) ?_
              show own_Out p e below _ T23 (mkF m 184 #[.val (.int x0), .val (.int x1), .val (.int x2), .val (.ref ob1), .val (.int (x0 &&& (3 : Int32))), .val (.int cc), .val (.int (1 : Int32))] [(.int (1 : Int32))]) _ _ _
              refine own_retV X23 hx hlk (w := .int (1 : Int32)) hret rfl (Or.inl ⟨rfl, by simp, _, rfl⟩) (hb hby at_184) (by decide) (by decide) ?_
              rw [e23]
              exact ⟨rfl, N23⟩
        · refine own_to (fun t k => XS.icmpNo X13.here hx rfl (hb hby at_138) rfl (flt hc138).1 k) ?_
          show own_Out p e below _ T13 (mkF m 141 #[.val (.int x0), .val (.int x1), .val (.int x2), .val (.ref ob1), .val (.int (x0 &&& (3 : Int32))), .val (.int cc), .unset] []) _ _ _
          refine own_to (fun t k => XS.iload X13.here hx rfl (hb hby at_141) rfl k) ?_
          show own_Out p e below _ T13 (mkF m 143 #[.val (.int x0), .val (.int x1), .val (.int x2), .val (.ref ob1), .val (.int (x0 &&& (3 : Int32))), .val (.int cc), .unset] [(.int cc)]) _ _ _
          refine own_to (fun t k => X13.ldcI hx hown (mvT hZ (hw _ (List.mem_of_getElem? (i := 4) rfl))) rfl (hb hby at_143) k) ?_
          show own_Out p e below _ T13 (mkF m 145 #[.val (.int x0), .val (.int x1), .val (.int x2), .val (.ref ob1), .val (.int (x0 &&& (3 : Int32))), .val (.int cc), .unset] [(.int (1048573 : Int32)), (.int cc)]) _ _ _
          by_cases hc145 : (1048573 : Int32) < cc
          · refine own_to (fun t k => XS.icmpNo X13.here hx rfl (hb hby at_145) rfl (tlt hc145).2.2.2 k) ?_
            show own_Out p e below _ T13 (mkF m 148 #[.val (.int x0), .val (.int x1), .val (.int x2), .val (.ref ob1), .val (.int (x0 &&& (3 : Int32))), .val (.int cc), .unset] []) _ _ _
            refine own_to (fun t k => XS.iload X13.here hx rfl (hb hby at_148) rfl k) ?_
            show own_Out p e below _ T13 (mkF m 150 #[.val (.int x0), .val (.int x1), .val (.int x2), .val (.ref ob1), .val (.int (x0 &&& (3 : Int32))), .val (.int cc), .unset] [(.int cc)]) _ _ _
            refine own_to (fun t k => X13.ldcI hx hown (mvT hZ (hw _ (List.mem_of_getElem? (i := 6) rfl))) rfl (hb hby at_150) k) ?_
            show own_Out p e below _ T13 (mkF m 152 #[.val (.int x0), .val (.int x1), .val (.int x2), .val (.ref ob1), .val (.int (x0 &&& (3 : Int32))), .val (.int cc), .unset] [(.int (1048576 : Int32)), (.int cc)]) _ _ _
            by_cases hc152 : cc < (1048576 : Int32)
            · refine own_to (fun t k => XS.icmpYes X13.here hx rfl (pc0 := 152) (pc' := 166) rfl (hb hby at_152) rfl (tlt hc152).1 (by decide) (by decide) k) ?_
              show own_Out p e below _ T13 (mkF m 166 #[.val (.int x0), .val (.int x1), .val (.int x2), .val (.ref ob1), .val (.int (x0 &&& (3 : Int32))), .val (.int cc), .unset] []) _ _ _
              refine own_to (fun t k => XS.iconst X13.here hx rfl (hb hby at_166) k) ?_
              show own_Out p e below _ T13 (mkF m 167 #[.val (.int x0), .val (.int x1), .val (.int x2), .val (.ref ob1), .val (.int (x0 &&& (3 : Int32))), .val (.int cc), .unset] [(.int (0 : Int32))]) _ _ _
              refine own_to (fun t k => XS.istore X13.here hx rfl (hb hby at_167) rfl (l' := #[.val (.int x0), .val (.int x1), .val (.int x2), .val (.ref ob1), .val (.int (x0 &&& (3 : Int32))), .val (.int cc), .val (.int (0 : Int32))]) rfl k) ?_
              show own_Out p e below _ T13 (mkF m 169 #[.val (.int x0), .val (.int x1), .val (.int x2), .val (.ref ob1), .val (.int (x0 &&& (3 : Int32))), .val (.int cc), .val (.int (0 : Int32))] []) _ _ _
              refine own_to (fun t k => XS.iload X13.here hx rfl (hb hby at_169) rfl k) ?_
              show own_Out p e below _ T13 (mkF m 171 #[.val (.int x0), .val (.int x1), .val (.int x2), .val (.ref ob1), .val (.int (x0 &&& (3 : Int32))), .val (.int cc), .val (.int (0 : Int32))] [(.int cc)]) _ _ _
              refine own_callS X13 hx hZ hown (argsL := [(.int cc)]) (rest := []) (hw _ (List.mem_of_getElem? (i := 13) rfl)) (hw _ (List.mem_of_getElem? (i := 14) rfl)) (hw _ (List.mem_of_getElem? (i := 15) rfl)) (hw _ (List.mem_of_getElem? (i := 16) rfl)) (by decide) (rm1 l Z a0 hw cc hh13 n0 Z0 ) (by decide) (by decide) e13 rfl (by rw [hml]; rfl) (lenOf pd_0 rfl) rfl (W := 0) (by show 2 * 0 + _ ≤ _; exact Nat.le_of_eq rfl) (hb hby at_171) (by decide) (by decide) fun v24 T24 hh24 L24 X24 e24 hQ24 => ?_
              obtain ⟨rfl, NL24, he24⟩ := hQ24
              replace e24 := e24.trans he24
              have N24 := Fr.app N13 NL24
              show own_Out p e below _ T24 (mkF m 174 #[.val (.int x0), .val (.int x1), .val (.int x2), .val (.ref ob1), .val (.int (x0 &&& (3 : Int32))), .val (.int cc), .val (.int (0 : Int32))] [(.int (R1 cc))]) _ _ _
              refine own_to (fun t k => XS.iload X24.here hx rfl (hb hby at_174) rfl k) ?_
              show own_Out p e below _ T24 (mkF m 176 #[.val (.int x0), .val (.int x1), .val (.int x2), .val (.ref ob1), .val (.int (x0 &&& (3 : Int32))), .val (.int cc), .val (.int (0 : Int32))] [(.int (0 : Int32)), (.int (R1 cc))]) _ _ _
              have hc176 : (R1 cc) = (0 : Int32) := (own_priv cc).2 (by simp [hc124, hc131, hc138, hc145, hc152])
              refine own_to (fun t k => XS.icmpNo X24.here hx rfl (hb hby at_176) rfl (teq hc176).2 k) ?_
              show own_Out p e below _ T24 (mkF m 179 #[.val (.int x0), .val (.int x1), .val (.int x2), .val (.ref ob1), .val (.int (x0 &&& (3 : Int32))), .val (.int cc), .val (.int (0 : Int32))] []) _ _ _
              refine own_to (fun t k => XS.iconst X24.here hx rfl (hb hby at_179) k) ?_
              show own_Out p e below _ T24 (mkF m 180 #[.val (.int x0), .val (.int x1), .val (.int x2), .val (.ref ob1), .val (.int (x0 &&& (3 : Int32))), .val (.int cc), .val (.int (0 : Int32))] [(.int (1 : Int32))]) _ _ _
              refine own_to (fun t k => XS.goto X24.here hx rfl (pc0 := 180) (pc' := 184) rfl (hb hby at_180) (by decide) (by decide) k) ?_
              show own_Out p e below _ T24 (mkF m 184 #[.val (.int x0), .val (.int x1), .val (.int x2), .val (.ref ob1), .val (.int (x0 &&& (3 : Int32))), .val (.int cc), .val (.int (0 : Int32))] [(.int (1 : Int32))]) _ _ _
              refine own_retV X24 hx hlk (w := .int (1 : Int32)) hret rfl (Or.inl ⟨rfl, by simp, _, rfl⟩) (hb hby at_184) (by decide) (by decide) ?_
              rw [e24]
              exact ⟨rfl, N24⟩
            · refine own_to (fun t k => XS.icmpNo X13.here hx rfl (hb hby at_152) rfl (flt hc152).1 k) ?_
              show own_Out p e below _ T13 (mkF m 155 #[.val (.int x0), .val (.int x1), .val (.int x2), .val (.ref ob1), .val (.int (x0 &&& (3 : Int32))), .val (.int cc), .unset] []) _ _ _
              refine own_to (fun t k => XS.iload X13.here hx rfl (hb hby at_155) rfl k) ?_
              show own_Out p e below _ T13 (mkF m 157 #[.val (.int x0), .val (.int x1), .val (.int x2), .val (.ref ob1), .val (.int (x0 &&& (3 : Int32))), .val (.int cc), .unset] [(.int cc)]) _ _ _
              refine own_to (fun t k => X13.ldcI hx hown (mvT hZ (hw _ (List.mem_of_getElem? (i := 7) rfl))) rfl (hb hby at_157) k) ?_
              show own_Out p e below _ T13 (mkF m 159 #[.val (.int x0), .val (.int x1), .val (.int x2), .val (.ref ob1), .val (.int (x0 &&& (3 : Int32))), .val (.int cc), .unset] [(.int (1114109 : Int32)), (.int cc)]) _ _ _
              by_cases hc159 : (1114109 : Int32) < cc
              · refine own_to (fun t k => XS.icmpYes X13.here hx rfl (pc0 := 159) (pc' := 166) rfl (hb hby at_159) rfl (tlt hc159).2.2.1 (by decide) (by decide) k) ?_
                show own_Out p e below _ T13 (mkF m 166 #[.val (.int x0), .val (.int x1), .val (.int x2), .val (.ref ob1), .val (.int (x0 &&& (3 : Int32))), .val (.int cc), .unset] []) _ _ _
                refine own_to (fun t k => XS.iconst X13.here hx rfl (hb hby at_166) k) ?_
                show own_Out p e below _ T13 (mkF m 167 #[.val (.int x0), .val (.int x1), .val (.int x2), .val (.ref ob1), .val (.int (x0 &&& (3 : Int32))), .val (.int cc), .unset] [(.int (0 : Int32))]) _ _ _
                refine own_to (fun t k => XS.istore X13.here hx rfl (hb hby at_167) rfl (l' := #[.val (.int x0), .val (.int x1), .val (.int x2), .val (.ref ob1), .val (.int (x0 &&& (3 : Int32))), .val (.int cc), .val (.int (0 : Int32))]) rfl k) ?_
                show own_Out p e below _ T13 (mkF m 169 #[.val (.int x0), .val (.int x1), .val (.int x2), .val (.ref ob1), .val (.int (x0 &&& (3 : Int32))), .val (.int cc), .val (.int (0 : Int32))] []) _ _ _
                refine own_to (fun t k => XS.iload X13.here hx rfl (hb hby at_169) rfl k) ?_
                show own_Out p e below _ T13 (mkF m 171 #[.val (.int x0), .val (.int x1), .val (.int x2), .val (.ref ob1), .val (.int (x0 &&& (3 : Int32))), .val (.int cc), .val (.int (0 : Int32))] [(.int cc)]) _ _ _
                refine own_callS X13 hx hZ hown (argsL := [(.int cc)]) (rest := []) (hw _ (List.mem_of_getElem? (i := 13) rfl)) (hw _ (List.mem_of_getElem? (i := 14) rfl)) (hw _ (List.mem_of_getElem? (i := 15) rfl)) (hw _ (List.mem_of_getElem? (i := 16) rfl)) (by decide) (rm1 l Z a0 hw cc hh13 n0 Z0 ) (by decide) (by decide) e13 rfl (by rw [hml]; rfl) (lenOf pd_0 rfl) rfl (W := 0) (by show 2 * 0 + _ ≤ _; exact Nat.le_of_eq rfl) (hb hby at_171) (by decide) (by decide) fun v25 T25 hh25 L25 X25 e25 hQ25 => ?_
                obtain ⟨rfl, NL25, he25⟩ := hQ25
                replace e25 := e25.trans he25
                have N25 := Fr.app N13 NL25
                show own_Out p e below _ T25 (mkF m 174 #[.val (.int x0), .val (.int x1), .val (.int x2), .val (.ref ob1), .val (.int (x0 &&& (3 : Int32))), .val (.int cc), .val (.int (0 : Int32))] [(.int (R1 cc))]) _ _ _
                refine own_to (fun t k => XS.iload X25.here hx rfl (hb hby at_174) rfl k) ?_
                show own_Out p e below _ T25 (mkF m 176 #[.val (.int x0), .val (.int x1), .val (.int x2), .val (.ref ob1), .val (.int (x0 &&& (3 : Int32))), .val (.int cc), .val (.int (0 : Int32))] [(.int (0 : Int32)), (.int (R1 cc))]) _ _ _
                have hc176 : (R1 cc) = (0 : Int32) := (own_priv cc).2 (by simp [hc124, hc131, hc138, hc145, hc152, hc159])
                refine own_to (fun t k => XS.icmpNo X25.here hx rfl (hb hby at_176) rfl (teq hc176).2 k) ?_
                show own_Out p e below _ T25 (mkF m 179 #[.val (.int x0), .val (.int x1), .val (.int x2), .val (.ref ob1), .val (.int (x0 &&& (3 : Int32))), .val (.int cc), .val (.int (0 : Int32))] []) _ _ _
                refine own_to (fun t k => XS.iconst X25.here hx rfl (hb hby at_179) k) ?_
                show own_Out p e below _ T25 (mkF m 180 #[.val (.int x0), .val (.int x1), .val (.int x2), .val (.ref ob1), .val (.int (x0 &&& (3 : Int32))), .val (.int cc), .val (.int (0 : Int32))] [(.int (1 : Int32))]) _ _ _
                refine own_to (fun t k => XS.goto X25.here hx rfl (pc0 := 180) (pc' := 184) rfl (hb hby at_180) (by decide) (by decide) k) ?_
                show own_Out p e below _ T25 (mkF m 184 #[.val (.int x0), .val (.int x1), .val (.int x2), .val (.ref ob1), .val (.int (x0 &&& (3 : Int32))), .val (.int cc), .val (.int (0 : Int32))] [(.int (1 : Int32))]) _ _ _
                refine own_retV X25 hx hlk (w := .int (1 : Int32)) hret rfl (Or.inl ⟨rfl, by simp, _, rfl⟩) (hb hby at_184) (by decide) (by decide) ?_
                rw [e25]
                exact ⟨rfl, N25⟩
              · refine own_to (fun t k => XS.icmpNo X13.here hx rfl (hb hby at_159) rfl (flt hc159).2.2.1 k) ?_
                show own_Out p e below _ T13 (mkF m 162 #[.val (.int x0), .val (.int x1), .val (.int x2), .val (.ref ob1), .val (.int (x0 &&& (3 : Int32))), .val (.int cc), .unset] []) _ _ _
                refine own_to (fun t k => XS.iconst X13.here hx rfl (hb hby at_162) k) ?_
                show own_Out p e below _ T13 (mkF m 163 #[.val (.int x0), .val (.int x1), .val (.int x2), .val (.ref ob1), .val (.int (x0 &&& (3 : Int32))), .val (.int cc), .unset] [(.int (1 : Int32))]) _ _ _
                refine own_to (fun t k => XS.goto X13.here hx rfl (pc0 := 163) (pc' := 167) rfl (hb hby at_163) (by decide) (by decide) k) ?_
                show own_Out p e below _ T13 (mkF m 167 #[.val (.int x0), .val (.int x1), .val (.int x2), .val (.ref ob1), .val (.int (x0 &&& (3 : Int32))), .val (.int cc), .unset] [(.int (1 : Int32))]) _ _ _
                refine own_to (fun t k => XS.istore X13.here hx rfl (hb hby at_167) rfl (l' := #[.val (.int x0), .val (.int x1), .val (.int x2), .val (.ref ob1), .val (.int (x0 &&& (3 : Int32))), .val (.int cc), .val (.int (1 : Int32))]) rfl k) ?_
                show own_Out p e below _ T13 (mkF m 169 #[.val (.int x0), .val (.int x1), .val (.int x2), .val (.ref ob1), .val (.int (x0 &&& (3 : Int32))), .val (.int cc), .val (.int (1 : Int32))] []) _ _ _
                refine own_to (fun t k => XS.iload X13.here hx rfl (hb hby at_169) rfl k) ?_
                show own_Out p e below _ T13 (mkF m 171 #[.val (.int x0), .val (.int x1), .val (.int x2), .val (.ref ob1), .val (.int (x0 &&& (3 : Int32))), .val (.int cc), .val (.int (1 : Int32))] [(.int cc)]) _ _ _
                refine own_callS X13 hx hZ hown (argsL := [(.int cc)]) (rest := []) (hw _ (List.mem_of_getElem? (i := 13) rfl)) (hw _ (List.mem_of_getElem? (i := 14) rfl)) (hw _ (List.mem_of_getElem? (i := 15) rfl)) (hw _ (List.mem_of_getElem? (i := 16) rfl)) (by decide) (rm1 l Z a0 hw cc hh13 n0 Z0 ) (by decide) (by decide) e13 rfl (by rw [hml]; rfl) (lenOf pd_0 rfl) rfl (W := 0) (by show 2 * 0 + _ ≤ _; exact Nat.le_of_eq rfl) (hb hby at_171) (by decide) (by decide) fun v26 T26 hh26 L26 X26 e26 hQ26 => ?_
                obtain ⟨rfl, NL26, he26⟩ := hQ26
                replace e26 := e26.trans he26
                have N26 := Fr.app N13 NL26
                show own_Out p e below _ T26 (mkF m 174 #[.val (.int x0), .val (.int x1), .val (.int x2), .val (.ref ob1), .val (.int (x0 &&& (3 : Int32))), .val (.int cc), .val (.int (1 : Int32))] [(.int (R1 cc))]) _ _ _
                refine own_to (fun t k => XS.iload X26.here hx rfl (hb hby at_174) rfl k) ?_
                show own_Out p e below _ T26 (mkF m 176 #[.val (.int x0), .val (.int x1), .val (.int x2), .val (.ref ob1), .val (.int (x0 &&& (3 : Int32))), .val (.int cc), .val (.int (1 : Int32))] [(.int (1 : Int32)), (.int (R1 cc))]) _ _ _
                have hc176 : (R1 cc) = (1 : Int32) := (own_priv cc).1 (by simp [hc124, hc131, hc138, hc145, hc152, hc159])
                refine own_to (fun t k => XS.icmpNo X26.here hx rfl (hb hby at_176) rfl (teq hc176).2 k) ?_
                show own_Out p e below _ T26 (mkF m 179 #[.val (.int x0), .val (.int x1), .val (.int x2), .val (.ref ob1), .val (.int (x0 &&& (3 : Int32))), .val (.int cc), .val (.int (1 : Int32))] []) _ _ _
                refine own_to (fun t k => XS.iconst X26.here hx rfl (hb hby at_179) k) ?_
                show own_Out p e below _ T26 (mkF m 180 #[.val (.int x0), .val (.int x1), .val (.int x2), .val (.ref ob1), .val (.int (x0 &&& (3 : Int32))), .val (.int cc), .val (.int (1 : Int32))] [(.int (1 : Int32))]) _ _ _
                refine own_to (fun t k => XS.goto X26.here hx rfl (pc0 := 180) (pc' := 184) rfl (hb hby at_180) (by decide) (by decide) k) ?_
                show own_Out p e below _ T26 (mkF m 184 #[.val (.int x0), .val (.int x1), .val (.int x2), .val (.ref ob1), .val (.int (x0 &&& (3 : Int32))), .val (.int cc), .val (.int (1 : Int32))] [(.int (1 : Int32))]) _ _ _
                refine own_retV X26 hx hlk (w := .int (1 : Int32)) hret rfl (Or.inl ⟨rfl, by simp, _, rfl⟩) (hb hby at_184) (by decide) (by decide) ?_
                rw [e26]
                exact ⟨rfl, N26⟩
          · refine own_to (fun t k => XS.icmpYes X13.here hx rfl (pc0 := 145) (pc' := 162) rfl (hb hby at_145) rfl (flt hc145).2.2.2 (by decide) (by decide) k) ?_
            show own_Out p e below _ T13 (mkF m 162 #[.val (.int x0), .val (.int x1), .val (.int x2), .val (.ref ob1), .val (.int (x0 &&& (3 : Int32))), .val (.int cc), .unset] []) _ _ _
            refine own_to (fun t k => XS.iconst X13.here hx rfl (hb hby at_162) k) ?_
            show own_Out p e below _ T13 (mkF m 163 #[.val (.int x0), .val (.int x1), .val (.int x2), .val (.ref ob1), .val (.int (x0 &&& (3 : Int32))), .val (.int cc), .unset] [(.int (1 : Int32))]) _ _ _
            refine own_to (fun t k => XS.goto X13.here hx rfl (pc0 := 163) (pc' := 167) rfl (hb hby at_163) (by decide) (by decide) k) ?_
            show own_Out p e below _ T13 (mkF m 167 #[.val (.int x0), .val (.int x1), .val (.int x2), .val (.ref ob1), .val (.int (x0 &&& (3 : Int32))), .val (.int cc), .unset] [(.int (1 : Int32))]) _ _ _
            refine own_to (fun t k => XS.istore X13.here hx rfl (hb hby at_167) rfl (l' := #[.val (.int x0), .val (.int x1), .val (.int x2), .val (.ref ob1), .val (.int (x0 &&& (3 : Int32))), .val (.int cc), .val (.int (1 : Int32))]) rfl k) ?_
            show own_Out p e below _ T13 (mkF m 169 #[.val (.int x0), .val (.int x1), .val (.int x2), .val (.ref ob1), .val (.int (x0 &&& (3 : Int32))), .val (.int cc), .val (.int (1 : Int32))] []) _ _ _
            refine own_to (fun t k => XS.iload X13.here hx rfl (hb hby at_169) rfl k) ?_
            show own_Out p e below _ T13 (mkF m 171 #[.val (.int x0), .val (.int x1), .val (.int x2), .val (.ref ob1), .val (.int (x0 &&& (3 : Int32))), .val (.int cc), .val (.int (1 : Int32))] [(.int cc)]) _ _ _
            refine own_callS X13 hx hZ hown (argsL := [(.int cc)]) (rest := []) (hw _ (List.mem_of_getElem? (i := 13) rfl)) (hw _ (List.mem_of_getElem? (i := 14) rfl)) (hw _ (List.mem_of_getElem? (i := 15) rfl)) (hw _ (List.mem_of_getElem? (i := 16) rfl)) (by decide) (rm1 l Z a0 hw cc hh13 n0 Z0 ) (by decide) (by decide) e13 rfl (by rw [hml]; rfl) (lenOf pd_0 rfl) rfl (W := 0) (by show 2 * 0 + _ ≤ _; exact Nat.le_of_eq rfl) (hb hby at_171) (by decide) (by decide) fun v27 T27 hh27 L27 X27 e27 hQ27 => ?_
            obtain ⟨rfl, NL27, he27⟩ := hQ27
            replace e27 := e27.trans he27
            have N27 := Fr.app N13 NL27
            show own_Out p e below _ T27 (mkF m 174 #[.val (.int x0), .val (.int x1), .val (.int x2), .val (.ref ob1), .val (.int (x0 &&& (3 : Int32))), .val (.int cc), .val (.int (1 : Int32))] [(.int (R1 cc))]) _ _ _
            refine own_to (fun t k => XS.iload X27.here hx rfl (hb hby at_174) rfl k) ?_
            show own_Out p e below _ T27 (mkF m 176 #[.val (.int x0), .val (.int x1), .val (.int x2), .val (.ref ob1), .val (.int (x0 &&& (3 : Int32))), .val (.int cc), .val (.int (1 : Int32))] [(.int (1 : Int32)), (.int (R1 cc))]) _ _ _
            have hc176 : (R1 cc) = (1 : Int32) := (own_priv cc).1 (by simp [hc124, hc131, hc138, hc145])
            refine own_to (fun t k => XS.icmpNo X27.here hx rfl (hb hby at_176) rfl (teq hc176).2 k) ?_
            show own_Out p e below _ T27 (mkF m 179 #[.val (.int x0), .val (.int x1), .val (.int x2), .val (.ref ob1), .val (.int (x0 &&& (3 : Int32))), .val (.int cc), .val (.int (1 : Int32))] []) _ _ _
            refine own_to (fun t k => XS.iconst X27.here hx rfl (hb hby at_179) k) ?_
            show own_Out p e below _ T27 (mkF m 180 #[.val (.int x0), .val (.int x1), .val (.int x2), .val (.ref ob1), .val (.int (x0 &&& (3 : Int32))), .val (.int cc), .val (.int (1 : Int32))] [(.int (1 : Int32))]) _ _ _
            refine own_to (fun t k => XS.goto X27.here hx rfl (pc0 := 180) (pc' := 184) rfl (hb hby at_180) (by decide) (by decide) k) ?_
            show own_Out p e below _ T27 (mkF m 184 #[.val (.int x0), .val (.int x1), .val (.int x2), .val (.ref ob1), .val (.int (x0 &&& (3 : Int32))), .val (.int cc), .val (.int (1 : Int32))] [(.int (1 : Int32))]) _ _ _
            refine own_retV X27 hx hlk (w := .int (1 : Int32)) hret rfl (Or.inl ⟨rfl, by simp, _, rfl⟩) (hb hby at_184) (by decide) (by decide) ?_
            rw [e27]
            exact ⟨rfl, N27⟩
      · refine own_to (fun t k => XS.icmpYes X13.here hx rfl (pc0 := 131) (pc' := 162) rfl (hb hby at_131) rfl (flt hc131).2.2.2 (by decide) (by decide) k) ?_
        show own_Out p e below _ T13 (mkF m 162 #[.val (.int x0), .val (.int x1), .val (.int x2), .val (.ref ob1), .val (.int (x0 &&& (3 : Int32))), .val (.int cc), .unset] []) _ _ _
        refine own_to (fun t k => XS.iconst X13.here hx rfl (hb hby at_162) k) ?_
        show own_Out p e below _ T13 (mkF m 163 #[.val (.int x0), .val (.int x1), .val (.int x2), .val (.ref ob1), .val (.int (x0 &&& (3 : Int32))), .val (.int cc), .unset] [(.int (1 : Int32))]) _ _ _
        refine own_to (fun t k => XS.goto X13.here hx rfl (pc0 := 163) (pc' := 167) rfl (hb hby at_163) (by decide) (by decide) k) ?_
        show own_Out p e below _ T13 (mkF m 167 #[.val (.int x0), .val (.int x1), .val (.int x2), .val (.ref ob1), .val (.int (x0 &&& (3 : Int32))), .val (.int cc), .unset] [(.int (1 : Int32))]) _ _ _
        refine own_to (fun t k => XS.istore X13.here hx rfl (hb hby at_167) rfl (l' := #[.val (.int x0), .val (.int x1), .val (.int x2), .val (.ref ob1), .val (.int (x0 &&& (3 : Int32))), .val (.int cc), .val (.int (1 : Int32))]) rfl k) ?_
        show own_Out p e below _ T13 (mkF m 169 #[.val (.int x0), .val (.int x1), .val (.int x2), .val (.ref ob1), .val (.int (x0 &&& (3 : Int32))), .val (.int cc), .val (.int (1 : Int32))] []) _ _ _
        refine own_to (fun t k => XS.iload X13.here hx rfl (hb hby at_169) rfl k) ?_
        show own_Out p e below _ T13 (mkF m 171 #[.val (.int x0), .val (.int x1), .val (.int x2), .val (.ref ob1), .val (.int (x0 &&& (3 : Int32))), .val (.int cc), .val (.int (1 : Int32))] [(.int cc)]) _ _ _
        refine own_callS X13 hx hZ hown (argsL := [(.int cc)]) (rest := []) (hw _ (List.mem_of_getElem? (i := 13) rfl)) (hw _ (List.mem_of_getElem? (i := 14) rfl)) (hw _ (List.mem_of_getElem? (i := 15) rfl)) (hw _ (List.mem_of_getElem? (i := 16) rfl)) (by decide) (rm1 l Z a0 hw cc hh13 n0 Z0 ) (by decide) (by decide) e13 rfl (by rw [hml]; rfl) (lenOf pd_0 rfl) rfl (W := 0) (by show 2 * 0 + _ ≤ _; exact Nat.le_of_eq rfl) (hb hby at_171) (by decide) (by decide) fun v28 T28 hh28 L28 X28 e28 hQ28 => ?_
        obtain ⟨rfl, NL28, he28⟩ := hQ28
        replace e28 := e28.trans he28
        have N28 := Fr.app N13 NL28
        show own_Out p e below _ T28 (mkF m 174 #[.val (.int x0), .val (.int x1), .val (.int x2), .val (.ref ob1), .val (.int (x0 &&& (3 : Int32))), .val (.int cc), .val (.int (1 : Int32))] [(.int (R1 cc))]) _ _ _
        refine own_to (fun t k => XS.iload X28.here hx rfl (hb hby at_174) rfl k) ?_
        show own_Out p e below _ T28 (mkF m 176 #[.val (.int x0), .val (.int x1), .val (.int x2), .val (.ref ob1), .val (.int (x0 &&& (3 : Int32))), .val (.int cc), .val (.int (1 : Int32))] [(.int (1 : Int32)), (.int (R1 cc))]) _ _ _
        have hc176 : (R1 cc) = (1 : Int32) := (own_priv cc).1 (by simp [hc124, hc131])
        refine own_to (fun t k => XS.icmpNo X28.here hx rfl (hb hby at_176) rfl (teq hc176).2 k) ?_
        show own_Out p e below _ T28 (mkF m 179 #[.val (.int x0), .val (.int x1), .val (.int x2), .val (.ref ob1), .val (.int (x0 &&& (3 : Int32))), .val (.int cc), .val (.int (1 : Int32))] []) _ _ _
        refine own_to (fun t k => XS.iconst X28.here hx rfl (hb hby at_179) k) ?_
        show own_Out p e below _ T28 (mkF m 180 #[.val (.int x0), .val (.int x1), .val (.int x2), .val (.ref ob1), .val (.int (x0 &&& (3 : Int32))), .val (.int cc), .val (.int (1 : Int32))] [(.int (1 : Int32))]) _ _ _
        refine own_to (fun t k => XS.goto X28.here hx rfl (pc0 := 180) (pc' := 184) rfl (hb hby at_180) (by decide) (by decide) k) ?_
        show own_Out p e below _ T28 (mkF m 184 #[.val (.int x0), .val (.int x1), .val (.int x2), .val (.ref ob1), .val (.int (x0 &&& (3 : Int32))), .val (.int cc), .val (.int (1 : Int32))] [(.int (1 : Int32))]) _ _ _
        refine own_retV X28 hx hlk (w := .int (1 : Int32)) hret rfl (Or.inl ⟨rfl, by simp, _, rfl⟩) (hb hby at_184) (by decide) (by decide) ?_
        rw [e28]
        exact ⟨rfl, N28⟩
  refine own_to (fun t k => XS.iload X13.here hx rfl (hb hby at_76) rfl k) ?_
  show own_Out p e below _ T13 (mkF m 78 #[.val (.int x0), .val (.int x1), .val (.int x2), .val (.ref ob1), .val (.int (x0 &&& (3 : Int32))), .unset, .unset] [(.int (x0 &&& (3 : Int32)))]) _ _ _
  by_cases hc78 : (x0 &&& (3 : Int32)) = (0 : Int32)
  · refine own_to (fun t k => XS.ifNo X13.here hx rfl (hb hby at_78) rfl ((if0 _ _).trans (teq hc78).2) k) ?_
    show own_Out p e below _ T13 (mkF m 81 #[.val (.int x0), .val (.int x1), .val (.int x2), .val (.ref ob1), .val (.int (x0 &&& (3 : Int32))), .unset, .unset] []) _ _ _
    refine own_to (fun t k => XS.iloadN X13.here hx rfl (hb hby at_81) rfl k) ?_
    show own_Out p e below _ T13 (mkF m 82 #[.val (.int x0), .val (.int x1), .val (.int x2), .val (.ref ob1), .val (.int (x0 &&& (3 : Int32))), .unset, .unset] [(.int x1)]) _ _ _
    refine own_to (fun t k => XS.istore X13.here hx rfl (hb hby at_82) rfl (l' := #[.val (.int x0), .val (.int x1), .val (.int x2), .val (.ref ob1), .val (.int (x0 &&& (3 : Int32))), .val (.int x1), .unset]) rfl k) ?_
    show own_Out p e below _ T13 (mkF m 84 #[.val (.int x0), .val (.int x1), .val (.int x2), .val (.ref ob1), .val (.int (x0 &&& (3 : Int32))), .val (.int x1), .unset] []) _ _ _
    refine own_to (fun t k => XS.goto X13.here hx rfl (pc0 := 84) (pc' := 120) rfl (hb hby at_84) (by decide) (by decide) k) ?_
    exact J120 x1
  · refine own_to (fun t k => XS.ifYes X13.here hx rfl (pc0 := 78) (pc' := 87) rfl (hb hby at_78) rfl ((if0 _ _).trans (feq hc78).2) (by decide) (by decide) k) ?_
    show own_Out p e below _ T13 (mkF m 87 #[.val (.int x0), .val (.int x1), .val (.int x2), .val (.ref ob1), .val (.int (x0 &&& (3 : Int32))), .unset, .unset] []) _ _ _
    refine own_to (fun t k => XS.iload X13.here hx rfl (hb hby at_87) rfl k) ?_
    show own_Out p e below _ T13 (mkF m 89 #[.val (.int x0), .val (.int x1), .val (.int x2), .val (.ref ob1), .val (.int (x0 &&& (3 : Int32))), .unset, .unset] [(.int (x0 &&& (3 : Int32)))]) _ _ _
    refine own_to (fun t k => XS.iconst X13.here hx rfl (hb hby at_89) k) ?_
    show own_Out p e below _ T13 (mkF m 90 #[.val (.int x0), .val (.int x1), .val (.int x2), .val (.ref ob1), .val (.int (x0 &&& (3 : Int32))), .unset, .unset] [(.int (1 : Int32)), (.int (x0 &&& (3 : Int32)))]) _ _ _
    by_cases hc90 : (x0 &&& (3 : Int32)) = (1 : Int32)
    · refine own_to (fun t k => XS.icmpNo X13.here hx rfl (hb hby at_90) rfl (teq hc90).2 k) ?_
      show own_Out p e below _ T13 (mkF m 93 #[.val (.int x0), .val (.int x1), .val (.int x2), .val (.ref ob1), .val (.int (x0 &&& (3 : Int32))), .unset, .unset] []) _ _ _
      refine own_to (fun t k => X13.ldcI hx hown (mvT hZ (hw _ (List.mem_of_getElem? (i := 1) rfl))) rfl (hb hby at_93) k) ?_
      show own_Out p e below _ T13 (mkF m 95 #[.val (.int x0), .val (.int x1), .val (.int x2), .val (.ref ob1), .val (.int (x0 &&& (3 : Int32))), .unset, .unset] [(.int (57344 : Int32))]) _ _ _
      refine own_to (fun t k => XS.iloadN X13.here hx rfl (hb hby at_95) rfl k) ?_
      show own_Out p e below _ T13 (mkF m 96 #[.val (.int x0), .val (.int x1), .val (.int x2), .val (.ref ob1), .val (.int (x0 &&& (3 : Int32))), .unset, .unset] [(.int x1), (.int (57344 : Int32))]) _ _ _
      refine own_to (fun t k => X13.ldcI hx hown (mvT hZ (hw _ (List.mem_of_getElem? (i := 19) rfl))) rfl (hb hby at_96) k) ?_
      show own_Out p e below _ T13 (mkF m 98 #[.val (.int x0), .val (.int x1), .val (.int x2), .val (.ref ob1), .val (.int (x0 &&& (3 : Int32))), .unset, .unset] [(.int (4194303 : Int32)), (.int x1), (.int (57344 : Int32))]) _ _ _
      refine own_to (fun t k => XS.iand X13.here hx rfl (hb hby at_98) rfl k) ?_
      show own_Out p e below _ T13 (mkF m 99 #[.val (.int x0), .val (.int x1), .val (.int x2), .val (.ref ob1), .val (.int (x0 &&& (3 : Int32))), .unset, .unset] [(.int (x1 &&& (4194303 : Int32))), (.int (57344 : Int32))]) _ _ _
      refine own_to (fun t k => XS.iadd X13.here hx rfl (hb hby at_99) rfl k) ?_
      show own_Out p e below _ T13 (mkF m 100 #[.val (.int x0), .val (.int x1), .val (.int x2), .val (.ref ob1), .val (.int (x0 &&& (3 : Int32))), .unset, .unset] [(.int ((57344 : Int32) + (x1 &&& (4194303 : Int32))))]) _ _ _
      refine own_to (fun t k => XS.istore X13.here hx rfl (hb hby at_100) rfl (l' := #[.val (.int x0), .val (.int x1), .val (.int x2), .val (.ref ob1), .val (.int (x0 &&& (3 : Int32))), .val (.int ((57344 : Int32) + (x1 &&& (4194303 : Int32)))), .unset]) rfl k) ?_
      show own_Out p e below _ T13 (mkF m 102 #[.val (.int x0), .val (.int x1), .val (.int x2), .val (.ref ob1), .val (.int (x0 &&& (3 : Int32))), .val (.int ((57344 : Int32) + (x1 &&& (4194303 : Int32)))), .unset] []) _ _ _
      refine own_to (fun t k => XS.goto X13.here hx rfl (pc0 := 102) (pc' := 120) rfl (hb hby at_102) (by decide) (by decide) k) ?_
      exact J120 ((57344 : Int32) + (x1 &&& (4194303 : Int32)))
    · refine own_to (fun t k => XS.icmpYes X13.here hx rfl (pc0 := 90) (pc' := 105) rfl (hb hby at_90) rfl (feq hc90).2 (by decide) (by decide) k) ?_
      show own_Out p e below _ T13 (mkF m 105 #[.val (.int x0), .val (.int x1), .val (.int x2), .val (.ref ob1), .val (.int (x0 &&& (3 : Int32))), .unset, .unset] []) _ _ _
      refine own_to (fun t k => XS.aloadN X13.here hx rfl (hb hby at_105) rfl rfl k) ?_
      show own_Out p e below _ T13 (mkF m 106 #[.val (.int x0), .val (.int x1), .val (.int x2), .val (.ref ob1), .val (.int (x0 &&& (3 : Int32))), .unset, .unset] [(.ref ob1)]) _ _ _
      refine own_to (fun t k => XS.iloadN X13.here hx rfl (hb hby at_106) rfl k) ?_
      show own_Out p e below _ T13 (mkF m 107 #[.val (.int x0), .val (.int x1), .val (.int x2), .val (.ref ob1), .val (.int (x0 &&& (3 : Int32))), .unset, .unset] [(.int x1), (.ref ob1)]) _ _ _
      refine own_to (fun t k => X13.ldcI hx hown (mvT hZ (hw _ (List.mem_of_getElem? (i := 21) rfl))) rfl (hb hby at_107) k) ?_
      show own_Out p e below _ T13 (mkF m 109 #[.val (.int x0), .val (.int x1), .val (.int x2), .val (.ref ob1), .val (.int (x0 &&& (3 : Int32))), .unset, .unset] [(.int (2147483647 : Int32)), (.int x1), (.ref ob1)]) _ _ _
      refine own_to (fun t k => XS.iand X13.here hx rfl (hb hby at_109) rfl k) ?_
      show own_Out p e below _ T13 (mkF m 110 #[.val (.int x0), .val (.int x1), .val (.int x2), .val (.ref ob1), .val (.int (x0 &&& (3 : Int32))), .unset, .unset] [(.int (x1 &&& (2147483647 : Int32))), (.ref ob1)]) _ _ _
      refine own_to (fun t k => XS.aloadN X13.here hx rfl (hb hby at_110) rfl rfl k) ?_
      show own_Out p e below _ T13 (mkF m 111 #[.val (.int x0), .val (.int x1), .val (.int x2), .val (.ref ob1), .val (.int (x0 &&& (3 : Int32))), .unset, .unset] [(.ref ob1), (.int (x1 &&& (2147483647 : Int32))), (.ref ob1)]) _ _ _
      refine own_len X13 hx hZ e13 A_ob1 rfl rfl (hb hby at_111) ?_
      show own_Out p e below _ T13 (mkF m 112 #[.val (.int x0), .val (.int x1), .val (.int x2), .val (.ref ob1), .val (.int (x0 &&& (3 : Int32))), .unset, .unset] [(.int (12 : Int32)), (.int (x1 &&& (2147483647 : Int32))), (.ref ob1)]) _ _ _
      refine own_to (fun t k => iremM X13 hx rfl (hb hby at_112) rfl (by decide) k) ?_
      show own_Out p e below _ T13 (mkF m 113 #[.val (.int x0), .val (.int x1), .val (.int x2), .val (.ref ob1), .val (.int (x0 &&& (3 : Int32))), .unset, .unset] [(.int ((x1 &&& (2147483647 : Int32)) % (12 : Int32))), (.ref ob1)]) _ _ _
      refine own_ldI X13 hx hZ e13 A_ob1 (own_idx x1 12 12 (by decide) (by decide)).1 (own_idx x1 12 12 (by decide) (by decide)).2 rfl rfl (hb hby at_113) fun w29 hw29 => ?_
      show own_Out p e below _ T13 (mkF m 114 #[.val (.int x0), .val (.int x1), .val (.int x2), .val (.ref ob1), .val (.int (x0 &&& (3 : Int32))), .unset, .unset] [(.int w29)]) _ _ _
      refine own_to (fun t k => XS.iloadN X13.here hx rfl (hb hby at_114) rfl k) ?_
      show own_Out p e below _ T13 (mkF m 115 #[.val (.int x0), .val (.int x1), .val (.int x2), .val (.ref ob1), .val (.int (x0 &&& (3 : Int32))), .unset, .unset] [(.int x2), (.int w29)]) _ _ _
      refine own_to (fun t k => XS.iconst X13.here hx rfl (hb hby at_115) k) ?_
      show own_Out p e below _ T13 (mkF m 116 #[.val (.int x0), .val (.int x1), .val (.int x2), .val (.ref ob1), .val (.int (x0 &&& (3 : Int32))), .unset, .unset] [(.int (4 : Int32)), (.int x2), (.int w29)]) _ _ _
      refine own_to (fun t k => iremM X13 hx rfl (hb hby at_116) rfl (by decide) k) ?_
      show own_Out p e below _ T13 (mkF m 117 #[.val (.int x0), .val (.int x1), .val (.int x2), .val (.ref ob1), .val (.int (x0 &&& (3 : Int32))), .unset, .unset] [(.int (x2 % (4 : Int32))), (.int w29)]) _ _ _
      refine own_to (fun t k => XS.iadd X13.here hx rfl (hb hby at_117) rfl k) ?_
      show own_Out p e below _ T13 (mkF m 118 #[.val (.int x0), .val (.int x1), .val (.int x2), .val (.ref ob1), .val (.int (x0 &&& (3 : Int32))), .unset, .unset] [(.int (w29 + (x2 % (4 : Int32))))]) _ _ _
      refine own_to (fun t k => XS.istore X13.here hx rfl (hb hby at_118) rfl (l' := #[.val (.int x0), .val (.int x1), .val (.int x2), .val (.ref ob1), .val (.int (x0 &&& (3 : Int32))), .val (.int (w29 + (x2 % (4 : Int32)))), .unset]) rfl k) ?_
      exact J120 (w29 + (x2 % (4 : Int32)))
set_option maxRecDepth 65536 in
set_option maxHeartbeats 40000000 in
theorem comes_1 {Post : Tables → Env → Array Value → State → Outcome → State → Prop} (hpost : ∀ tb e args s v u, (limb_1_1.after args s (.returned v) u = true ∧ limb_1_2.after args s (.returned v) u = true ∧ True) → FrameEnd s (.returned v) u (Jvm.fieldLocs frame_1_writes args s ++ Jvm.arrayLocs frame_1_arrays args s ++ Jvm.staticLocs frame_1_statics s) 16 128 → Post tb e args s (.returned v) u) :
    ArmFor flags0 classFile x code maxLocals ret World_1 tables_1 room_1 Calls_1 rest_1 Pre_1 Post := by
  intro l hfl _ _ p e ha hc hk s m args below hf hA hF happ hP
  obtain ⟨hcalls, hrest, hpre⟩ := hP
  obtain ⟨-, -, -, hnamed, -, -, -, hat⟩ := (Spec.applies_iff hf).mp happ
  obtain ⟨hg, hn⟩ := and_e (Cond.before_iff.mp (show (Jvm.Cond.and given_1 narrow_1).before args s = true from hpre))
  obtain ⟨gg2, gg3⟩ := and_e hg
  obtain ⟨gg4, gg5⟩ := and_e gg3
  obtain ⟨gg6, gg7⟩ := and_e gg5
  obtain ⟨w0, w1, w2, rfl⟩ : ∃ w0 w1 w2 : Value, args = #[w0, w1, w2] := by
    have hs : args.size = 3 := by simpa [Cond.value, given_1] using gg2
    obtain ⟨L⟩ := args
    match L, hs with
    | [w0, w1, w2], _ => exact ⟨w0, w1, w2, rfl⟩
  have hw := fun d (hd : d ∈ tables_1) => atoms_spec (ws := Jvm.Cond.code x code maxLocals ret :: tables_1) hat d (List.mem_cons_of_mem _ hd)
  have hfit : Fit s := fun {y c} hc i hi => by
    obtain ⟨ha, rfl⟩ := Array.getElem?_eq_some_iff.mp hc
    have q := List.all_eq_true.mp ((Array.all_eq_true_iff_forall_mem.mp hF) _ (Array.getElem_mem ha)) i (List.mem_range.mpr hi)
    simpa [Array.getElem?_eq_getElem hi] using q
  obtain ⟨i0, ei0⟩ := is_v gg4
  obtain rfl : w0 = (.int i0) := Option.some.inj ei0
  obtain ⟨i1, ei1⟩ := is_v gg6
  obtain rfl : w1 = (.int i1) := Option.some.inj ei1
  obtain ⟨i2, ei2⟩ := is_v gg7
  obtain rfl : w2 = (.int i2) := Option.some.inj ei2
  obtain ⟨n, o, h1, h2, h3, _, L, rfl, ⟨rfl, N⟩, hq⟩ := rm0 l s _ hw i0 i1 i2 s.heap s.heap.size (Nat.le_refl _) tables_1 p e ha hc hk s m _ below hf ((Spec.applies_iff_loose hf).mp happ).1 ⟨rfl, State.Warmed39.refl s, rfl⟩ trivial
  refine ⟨n, _, h1, h2, h3, hpost _ _ _ _ _ _ ⟨Cond.after_iff.mpr rfl, Cond.after_iff.mpr (eq_i res_at (Term.int_eval (1)) rfl), trivial⟩ ⟨hq.1, hq.2.1, (hq.2.2.sift fun y hy => Or.inr (N y hy)).mono (by decide) (by decide)⟩⟩
theorem main_1_1 : Claimed_1_1 := comes_1 fun _ _ _ _ _ _ h hF => ⟨h.1, hF⟩
theorem main_1_2 : Claimed_1_2 := comes_1 fun _ _ _ _ _ _ h hF => ⟨h.2.1, hF⟩
end Jvm.Pilot.@@N@@
namespace Jvm.Pilot.@@N@@
open Jvm Jvm.ClassFile Sem Op Lib Jvm.Free Jvm.Stand Jvm.Pilot.@@N@@.Jvm.D
/-! MADE BY PROGRAM (witnessworld.py) out of the Statement's table words and the real class files: 11 classes; the members and pool entries that the words name. The judged class is class 1, her method 1. -/
namespace start1
open Jvm.ClassFile
def u (s : String) : CpInfo := .utf8 (stringToUtf16 s)
/-- a pool by its gaps: so many unusable entries, then the entry; so many at the end -/
def gap : Nat → List CpInfo → List CpInfo
  | 0, r => r
  | n + 1, r => .unusable :: gap n r
def poolList (es : List (Nat × CpInfo)) (last : Nat) : List CpInfo := es.foldr (fun e r => gap e.1 (e.2 :: r)) (gap last [])
def pool (es : List (Nat × CpInfo)) (last : Nat) : Array CpInfo := ⟨poolList es last⟩
def fileOf (pool : Array CpInfo) (this : Nat) (attrs : Array Attribute := #[]) (ms : Array MethodInfo := #[]) (fl : Nat := 33) (sup : Nat := 0) (ifs : Array Nat := #[]) (fds : Array FieldInfo := #[]) : ClassFile where
  minorVersion := 0
  majorVersion := 65
  constantPool := pool
  accessFlags := fl
  thisClass := this
  superClass := sup
  interfaces := ifs
  fields := fds
  methods := ms
  attributes := attrs
def plain (name : String) (sup : Option ClassId) : Class where
  name := name
  kind := .ordinary
  loader := none
  accessFlags := 33
  super := sup
  interfaces := #[]
  cf := none
  fields := #[]
  methods := #[]
  instanceTypes := #[]
  staticTypes := #[]
  resolved := #[]
  callSites := []
  init := .initialized
  statics := none
  mirror := none

def pool0 : Array CpInfo := pool [(5, u "<init>"), (0, u "()V"), (1, .class_ 10), (1, u "java/lang/Object")] 113

def k0m0 : Method := { name := "<init>", desc := "()V", sig := { parameters := [], returnType := none }, accessFlags := 1, code := none }
/-- java/lang/Object -/
def k0 : Class := { plain "java/lang/Object" none with
  accessFlags := 33
  interfaces := #[]
  cf := some (fileOf pool0 8 #[] #[{ accessFlags := 1, nameIndex := 5, descriptorIndex := 6, attributes := #[] }] 33 0 #[] #[])
  fields := #[]
  methods := #[k0m0]
  instanceTypes := #[]
  staticTypes := #[]
  resolved := Array.replicate 124 none
  statics := none }

def pool1 : Array CpInfo := pool [(2, .class_ 4), (1, u "java/lang/Object"), (0, u "<init>"), (0, u "()V"), (0, .integer 57344), (0, .integer 63743), (0, .integer 983040), (0, .integer 1048573), (0, .integer 1048575), (0, .integer 1048576), (0, .integer 1114109), (0, .integer 1114111), (0, .integer 983039), (0, .integer 131069), (0, .integer 65535), (0, .integer 1114112), (0, .integer 4194303), (0, .integer 2147483647), (0, .methodref 22 23), (0, .class_ 24), (0, .nameAndType 25 26), (0, u "com/example/constraint/constraint/schema/UriReference"), (0, u "isPrivateUse"), (0, u "(I)Z"), (0, .class_ 28), (0, u "com/example/constraint/constraint/schema/UriReferenceIsPrivateUsePinLaw"), (2, u "law"), (0, u "(III)Z")] 5

def k1m0 : Method := { name := "<init>", desc := "()V", sig := { parameters := [], returnType := none }, accessFlags := 2, code := none }
def k1c1 : Code := { maxStack := 4, maxLocals := 7, code := code, exceptionTable := #[], attributes := #[] }
def k1m1 : Method := { name := "law", desc := "(III)Z", sig := { parameters := [.int, .int, .int], returnType := some .boolean }, accessFlags := 9, code := some k1c1 }
/-- com/example/constraint/constraint/schema/UriReferenceIsPrivateUsePinLaw -/
def k1 : Class := { plain "com/example/constraint/constraint/schema/UriReferenceIsPrivateUsePinLaw" (some 0) with
  accessFlags := 49
  interfaces := #[]
  cf := some (fileOf pool1 27 #[] #[{ accessFlags := 2, nameIndex := 5, descriptorIndex := 6, attributes := #[] }, { accessFlags := 9, nameIndex := 31, descriptorIndex := 32, attributes := #[] }] 49 2 #[] #[])
  fields := #[]
  methods := #[k1m0, k1m1]
  instanceTypes := #[]
  staticTypes := #[]
  resolved := Array.replicate 38 none
  statics := none }

def pool2 : Array CpInfo := pool [(2, .class_ 4), (1, u "java/lang/Object"), (0, u "<init>"), (0, u "()V"), (0, .class_ 8), (0, u "java/lang/Record")] 13

def k2m0 : Method := { name := "<init>", desc := "()V", sig := { parameters := [], returnType := none }, accessFlags := 4, code := none }
/-- java/lang/Record -/
def k2 : Class := { plain "java/lang/Record" (some 0) with
  accessFlags := 1057
  interfaces := #[]
  cf := some (fileOf pool2 7 #[] #[{ accessFlags := 4, nameIndex := 5, descriptorIndex := 6, attributes := #[] }] 1057 2 #[] #[])
  fields := #[]
  methods := #[k2m0]
  instanceTypes := #[]
  staticTypes := #[]
  resolved := Array.replicate 22 none
  statics := none }

def pool3 : Array CpInfo := pool [(1, .class_ 2), (0, u "java/lang/Comparable"), (0, .class_ 4), (0, u "java/lang/Object")] 7

/-- java/lang/Comparable -/
def k3 : Class := { plain "java/lang/Comparable" (some 0) with
  accessFlags := 1537
  interfaces := #[]
  cf := some (fileOf pool3 1 #[] #[] 1537 3 #[] #[])
  fields := #[]
  methods := #[]
  instanceTypes := #[]
  staticTypes := #[]
  resolved := Array.replicate 12 none
  statics := none }

def pool4 : Array CpInfo := pool [(2, .class_ 4), (1, u "java/lang/Record"), (3, .class_ 10), (1, u "com/example/constraint/constraint/schema/UriReference"), (0, u "scheme"), (0, u "Ljava/lang/String;"), (2, u "authority"), (2, u "path"), (0, u "Lcom/example/constraint/constraint/schema/UriReference$Path;"), (2, u "query"), (2, u "fragment"), (38, .class_ 66), (1, u "com/example/constraint/constraint/schema/UriReference$Path"), (19, u "(I)Z"), (117, u "isPrivateUse"), (6, .integer 983040), (0, .integer 65535), (0, .integer 65533), (2, .integer 57344), (0, .integer 63743), (0, .integer 1114111), (148, u "ORDER"), (0, u "Ljava/util/Comparator;"), (64, u "COMPONENT_ORDER"), (18, .class_ 453), (0, u "java/lang/Comparable"), (3, u "UNRESERVED_PUNCTUATION"), (1, u "PUNCTUATION"), (0, u "AUTHORITY_PUNCTUATION"), (0, u "USER_INFORMATION_PUNCTUATION"), (0, u "HOST_PUNCTUATION"), (0, u "SCHEME_PUNCTUATION"), (0, u "HEX_DIGITS")] 75

def k4c0 : Code := { maxStack := 2, maxLocals := 1, code := prog_170_method_7_code, exceptionTable := #[], attributes := #[] }
def k4m0 : Method := { name := "isPrivateUse", desc := "(I)Z", sig := { parameters := [.int], returnType := some .boolean }, accessFlags := 8, code := some k4c0 }
/-- com/example/constraint/constraint/schema/UriReference -/
def k4 : Class := { plain "com/example/constraint/constraint/schema/UriReference" (some 2) with
  accessFlags := 48
  interfaces := #[3]
  cf := some (fileOf pool4 8 #[.nestMembers #[64]] #[{ accessFlags := 8, nameIndex := 204, descriptorIndex := 86, attributes := #[] }] 48 2 #[452] #[{ accessFlags := 18, nameIndex := 11, descriptorIndex := 12, attributes := #[] }, { accessFlags := 18, nameIndex := 15, descriptorIndex := 12, attributes := #[] }, { accessFlags := 18, nameIndex := 18, descriptorIndex := 19, attributes := #[] }, { accessFlags := 18, nameIndex := 22, descriptorIndex := 12, attributes := #[] }, { accessFlags := 18, nameIndex := 25, descriptorIndex := 12, attributes := #[] }, { accessFlags := 26, nameIndex := 433, descriptorIndex := 368, attributes := #[] }, { accessFlags := 26, nameIndex := 367, descriptorIndex := 368, attributes := #[] }, { accessFlags := 26, nameIndex := 457, descriptorIndex := 12, attributes := #[] }, { accessFlags := 26, nameIndex := 459, descriptorIndex := 12, attributes := #[] }, { accessFlags := 26, nameIndex := 460, descriptorIndex := 12, attributes := #[] }, { accessFlags := 26, nameIndex := 461, descriptorIndex := 12, attributes := #[] }, { accessFlags := 26, nameIndex := 462, descriptorIndex := 12, attributes := #[] }, { accessFlags := 26, nameIndex := 463, descriptorIndex := 12, attributes := #[] }, { accessFlags := 26, nameIndex := 464, descriptorIndex := 12, attributes := #[] }])
  fields := #[{ name := "scheme", type := (.object "java/lang/String"), accessFlags := 18, slot := 0, constantValue := 0 }, { name := "authority", type := (.object "java/lang/String"), accessFlags := 18, slot := 1, constantValue := 0 }, { name := "path", type := (.object "com/example/constraint/constraint/schema/UriReference$Path"), accessFlags := 18, slot := 2, constantValue := 0 }, { name := "query", type := (.object "java/lang/String"), accessFlags := 18, slot := 3, constantValue := 0 }, { name := "fragment", type := (.object "java/lang/String"), accessFlags := 18, slot := 4, constantValue := 0 }, { name := "COMPONENT_ORDER", type := (.object "java/util/Comparator"), accessFlags := 26, slot := 0, constantValue := 0 }, { name := "ORDER", type := (.object "java/util/Comparator"), accessFlags := 26, slot := 1, constantValue := 0 }, { name := "UNRESERVED_PUNCTUATION", type := (.object "java/lang/String"), accessFlags := 26, slot := 2, constantValue := 0 }, { name := "PUNCTUATION", type := (.object "java/lang/String"), accessFlags := 26, slot := 3, constantValue := 0 }, { name := "AUTHORITY_PUNCTUATION", type := (.object "java/lang/String"), accessFlags := 26, slot := 4, constantValue := 0 }, { name := "USER_INFORMATION_PUNCTUATION", type := (.object "java/lang/String"), accessFlags := 26, slot := 5, constantValue := 0 }, { name := "HOST_PUNCTUATION", type := (.object "java/lang/String"), accessFlags := 26, slot := 6, constantValue := 0 }, { name := "SCHEME_PUNCTUATION", type := (.object "java/lang/String"), accessFlags := 26, slot := 7, constantValue := 0 }, { name := "HEX_DIGITS", type := (.object "java/lang/String"), accessFlags := 26, slot := 8, constantValue := 0 }]
  methods := #[k4m0]
  instanceTypes := #[(.object "java/lang/String"), (.object "java/lang/String"), (.object "com/example/constraint/constraint/schema/UriReference$Path"), (.object "java/lang/String"), (.object "java/lang/String")]
  staticTypes := #[(.object "java/util/Comparator"), (.object "java/util/Comparator"), (.object "java/lang/String"), (.object "java/lang/String"), (.object "java/lang/String"), (.object "java/lang/String"), (.object "java/lang/String"), (.object "java/lang/String"), (.object "java/lang/String")]
  resolved := Array.replicate 540 none
  statics := none }

def pool5 : Array CpInfo := pool [(1, u "java/lang/Cloneable"), (0, .class_ 1), (0, u "java/lang/Object"), (0, .class_ 3)] 3

/-- java/lang/Cloneable -/
def k5 : Class := { plain "java/lang/Cloneable" (some 0) with
  accessFlags := 1537
  interfaces := #[]
  cf := some (fileOf pool5 2 #[] #[] 1537 4 #[] #[])
  fields := #[]
  methods := #[]
  instanceTypes := #[]
  staticTypes := #[]
  resolved := Array.replicate 8 none
  statics := none }

def pool6 : Array CpInfo := pool [(1, u "java/io/Serializable"), (0, .class_ 1), (0, u "java/lang/Object"), (0, .class_ 3)] 3

/-- java/io/Serializable -/
def k6 : Class := { plain "java/io/Serializable" (some 0) with
  accessFlags := 1537
  interfaces := #[]
  cf := some (fileOf pool6 2 #[] #[] 1537 4 #[] #[])
  fields := #[]
  methods := #[]
  instanceTypes := #[]
  staticTypes := #[]
  resolved := Array.replicate 8 none
  statics := none }

/-- the primitive byte -/
def k7 : Class := { plain "byte" none with kind := .primitive 'B', accessFlags := 0x411 }
/-- [B -/
def k8 : Class := { plain "[B" (some 0) with kind := .array 7 .byte, interfaces := #[5, 6], accessFlags := 1041 }

/-- the primitive int -/
def k9 : Class := { plain "int" none with kind := .primitive 'I', accessFlags := 0x411 }
/-- [I -/
def k10 : Class := { plain "[I" (some 0) with kind := .array 9 .int, interfaces := #[5, 6], accessFlags := 1041 }

def heap : Heap := #[]
def classes : Array Class := #[k0, k1, k2, k3, k4, k5, k6, k7, k8, k9, k10]
def interned : List (Array UInt16 × Addr) := []
def slotsUsed : Nat := 0
def theMethod : MethodId := ⟨1, 1⟩
def args0 : Array Value := #[.int 5, .int 65, .int 3]
def aboutOver (below : List Frame) : State where
  vm := { classes := classes, interned := interned.toArray }
  heap := heap
  slotsUsed := slotsUsed
  threads := #[{ frames := .invoking theMethod args0 :: below }]
def below0 : List Frame := [.native { method := ⟨0, 0⟩, args := #[] }]
def about1 : State := aboutOver below0
def p0 : Program := .bare "" "" ""
def e0 : Env := launch0.env 0 0 0
theorem w_frames : about1.frames = Frame.invoking theMethod args0 :: below0 := rfl
set_option maxRecDepth 65536 in
theorem w_args : argsFit about1.vm theMethod args0 = true := by decide +kernel
set_option maxRecDepth 65536 in
theorem w_heap : heapFits about1 = true := by decide +kernel
set_option maxRecDepth 65536 in
theorem w_runnable : about1.curStatus? = some .runnable := by decide +kernel
set_option maxRecDepth 65536 in
theorem w_alone : about1.alone = true := by decide +kernel
set_option maxRecDepth 65536 in
theorem w_named : about1.methodNamed? x = some theMethod := by decide +kernel
set_option maxRecDepth 65536 in
theorem w_hears : about1.hears theMethod below0 = true := by decide +kernel
set_option maxRecDepth 65536 in
theorem w_ripe : about1.ripe theMethod args0 below0 = true := by decide +kernel
theorem w_running : about1.status = .running := rfl
set_option maxRecDepth 65536 in
theorem w_room : about1.hasRoom e0.platform room_1 = true :=
  launch0.hasRoom_least _ room_1 (by decide +kernel) (by decide +kernel) (by decide +kernel) (by decide +kernel) (by decide +kernel) (by decide +kernel)
theorem allAtoms_all (ts : List Jvm.Cond) (a : Array Jvm.Value) (st : Jvm.State) : (allAtoms ts).before a st = ts.all (fun c => c.before a st) := by
  induction ts with
  | nil => rfl
  | cons c t ih =>
    show (Jvm.Cond.and c (allAtoms t)).before a st = _
    rw [Jvm.Cond.before_and, ih, List.all_cons]
def words1 : List Jvm.Cond := Jvm.Cond.code x code maxLocals ret :: tables_1
/-- a 'code' word, met by the world's own term for the bytes: nothing is compared byte by byte -/
theorem code_word {y : MethodName} {bytes : ByteArray} {mx : Nat} {rt : Option FieldType} {a : Array Value} {s : State} {m : MethodId} {meth : Method} {c : Code} (h1 : s.methodNamed? y = some m) (h2 : s.vm.method? m = some meth) (h3 : meth.code = some c) (h4 : c.code = bytes)
    (h5 : (c.maxLocals == mx && c.exceptionTable.isEmpty && decide (c.maxStack ≤ mostOperands) && decide (meth.sig.returnType = rt) && !meth.locks && decide (parseMethodDescriptor y.desc = some meth.sig)) = true) : (Jvm.Cond.code y bytes mx rt).before a s = true := by
  simp only [Bool.and_eq_true, beq_iff_eq, Bool.not_eq_true', decide_eq_true_eq] at h5
  obtain ⟨⟨⟨⟨⟨g1, g2⟩, g3⟩, g4⟩, g5⟩, g6⟩ := h5
  simp [Cond.before, Cond.holds, Cond.value, h1, h2, h3, h4, g1, g2, g3, g4, g5, g6]
def isCode : Jvm.Cond → Bool
  | .code _ _ _ _ => true
  | _ => false
theorem all_split {L : List Jvm.Cond} {P : Jvm.Cond → Bool} (h1 : L.all (fun c => isCode c || P c) = true) (h2 : ∀ c ∈ L.filter isCode, P c = true) : L.all P = true := by
  refine List.all_eq_true.mpr fun c hc => ?_
  have h := List.all_eq_true.mp h1 c hc
  rcases Bool.eq_false_or_eq_true (isCode c) with hi | hi
  · exact h2 c (List.mem_filter.mpr ⟨hc, hi⟩)
  · simpa [hi] using h
set_option maxRecDepth 65536 in
theorem w_c0 : (Jvm.Cond.code x code maxLocals ret).before args0 about1 = true := code_word (m := ⟨1, 1⟩) (meth := k1m1) (c := k1c1) (by decide +kernel) rfl rfl rfl (by decide +kernel)
set_option maxRecDepth 65536 in
theorem w_c1 : (Jvm.Cond.code ({ cls := "com/example/constraint/constraint/schema/UriReference", name := "isPrivateUse", desc := "(I)Z" } : Jvm.MethodName) prog_170_method_7_code (1 : Nat) (Option.some Jvm.ClassFile.FieldType.boolean)).before args0 about1 = true := code_word (m := ⟨4, 0⟩) (meth := k4m0) (c := k4c0) (by decide +kernel) rfl rfl rfl (by decide +kernel)
def codes1 : List Jvm.Cond := [Jvm.Cond.code x code maxLocals ret, Jvm.Cond.code ({ cls := "com/example/constraint/constraint/schema/UriReference", name := "isPrivateUse", desc := "(I)Z" } : Jvm.MethodName) prog_170_method_7_code (1 : Nat) (Option.some Jvm.ClassFile.FieldType.boolean)]
set_option maxRecDepth 65536 in
theorem codes_eq : words1.filter isCode = codes1 := rfl
theorem w_codes : ∀ c ∈ words1.filter isCode, c.before args0 about1 = true := by
  rw [codes_eq]
  intro c hc
  simp only [codes1, List.mem_cons, List.not_mem_nil, or_false] at hc
  rcases hc with rfl | rfl
  · exact w_c0
  · exact w_c1
set_option maxRecDepth 65536 in
theorem w_t1 : (words1.take 24).all (fun c => isCode c || c.before args0 about1) = true := by decide +kernel
set_option maxRecDepth 65536 in
theorem w_t2 : (words1.drop 24).all (fun c => isCode c || c.before args0 about1) = true := by decide +kernel
theorem w_tables : (allAtoms (Jvm.Cond.code x code maxLocals ret :: tables_1)).before args0 about1 = true := by
  rw [allAtoms_all]
  show words1.all (fun c => c.before args0 about1) = true
  refine all_split ?_ w_codes
  rw [← List.take_append_drop 24 words1, List.all_append, w_t1, w_t2]
  rfl
set_option maxRecDepth 65536 in
theorem w_case : (Jvm.Cond.and given_1 narrow_1).before args0 about1 = true := by decide +kernel
theorem w_applies : (headSpec (Jvm.Cond.code x code maxLocals ret :: tables_1) room_1).applies x e0.platform about1 = true :=
  (Spec.applies_iff w_frames).mpr ⟨w_running, w_runnable, w_alone, w_named, w_hears, w_ripe, w_room, w_tables⟩
theorem atStart : AtStart classFile x code maxLocals ret World_1 tables_1 room_1 Calls_1 rest_1 Pre_1 launch0 p0 e0 about1 theMethod args0 below0 :=
  ⟨lists_1, trivial, launch0.admits_env _ _ _, launch0.least_env, fairChoices_fair.cas, fairChoices_fair.clock, w_frames, w_args, w_heap, w_applies, trivial, trivial, w_case⟩
end start1
theorem witness_1 : WitnessClaimed_1 := ⟨start1.p0, start1.e0, start1.about1, start1.theMethod, start1.args0, start1.below0, start1.atStart⟩
end Jvm.Pilot.@@N@@
