import JvmDerived
import JvmDerived.Pilot.@@N@@Statement
import JvmDerived.Pilot.@@N@@Code
set_option linter.unusedVariables false
set_option linter.unusedSimpArgs false
namespace Jvm.Pilot.@@N@@
open Jvm Jvm.ClassFile Sem Op Lib Jvm.Free Jvm.Stand Jvm.LawKit Jvm.RoadKit Bundle Jvm.Pilot.@@N@@.Jvm.D
section OwnKit
variable {p : Program} {l : Launch} {e : Env} {R : Room} {s : State} {m : MethodId} {args : Array Value} {below : List Frame} {meth : Method} {c : Code} {T T' : State} {locs : List Loc} {cells slots kc ks : Nat} {g g' : JFrame} {Q : Option Value → Heap → List Loc → Prop} {Z : State} {h h' : Heap} {a0 : Array Value} {En : Outcome → State → List Loc → Nat → Nat → Prop}
/-- from this frame the run comes to the method's end and leaves what Q says -/
def own_Out (p : Program) (e : Env) (below : List Frame) (En : Outcome → State → List Loc → Nat → Nat → Prop) (T : State) (g : JFrame) (Q : Option Value → Heap → List Loc → Prop) (kc ks : Nat) : Prop :=
  ∃ (t : State) (o : Outcome), Steps p.tables e below (T.setTop g) t ∧ t.status = .running ∧ Ended t below o ∧ ∃ (v : Option Value) (L : List Loc), o = .returned v ∧ Q v t.heap L ∧ En o t L kc ks
theorem own_to (st : ∀ t, Steps p.tables e below (T'.setTop g') t → Steps p.tables e below (T.setTop g) t) (k : own_Out p e below En T' g' Q kc ks) : own_Out p e below En T g Q kc ks := by
  obtain ⟨t, o, h1, h2⟩ := k
  exact ⟨t, o, st t h1, h2⟩
theorem own_cast (q : g = g') (k : own_Out p e below En T g' Q kc ks) : own_Out p e below En T g Q kc ks := q ▸ k
/-- a method's contract: called with these arguments over this heap it returns, and Q says what it leaves -/
def own_C (l : Launch) (Z : State) (y : MethodName) (bytes : ByteArray) (maxL : Nat) (ret : Option FieldType) (rm : Room) (as' : Array Value) (h0 : Heap) (Q : Option Value → Heap → List Loc → Prop) : Prop :=
  ∀ ws : List Jvm.Cond, MetFree l y (head1 (Jvm.Cond.code y bytes maxL ret :: ws) rm) (fun a U => a = as' ∧ Z.Warmed39 U.vm ∧ U.heap = h0) (fun _ _ _ _ _ => True) (fun _ U o U' => ∃ v L, o = .returned v ∧ Q v U'.heap L ∧ FrameEnd U o U' L rm.cells rm.slots)
theorem own_met {y : MethodName} {bytes : ByteArray} {maxL : Nat} {ret : Option FieldType} {rm : Room} {as' : Array Value} {h0 : Heap} (pl : plainFor y = true)
    (body : ∀ (p : Program) (e : Env) (s : State) (m : MethodId) (below : List Frame) (meth : Method) (c : Code) (s₁ : State), p.tables.exec = Jvm.exec → c.code = bytes → c.maxLocals = maxL → meth.sig.returnType = ret → meth.locks = false → s.vm.findClass y.cls = some m.cls → meth.name = y.name → Z.Warmed39 s.vm → Stand p l e rm s m as' below meth c s₁ [] 0 0 → s₁.heap = h0 → own_Out p e below (FrameEnd s) s₁ (entryFrame m as' maxL) Q rm.cells rm.slots) :
    own_C l Z y bytes maxL ret rm as' h0 Q := by
  intro ws
  refine MetFree.of_bodySF pl hisR ?_
  intro p e s m args below meth c s₁ Bd hml0 hP hK
  obtain ⟨rfl, hZ, hh⟩ := hP
  exact body p e s m below meth c s₁ Bd.exec Bd.bytes hml0 Bd.returns (BodyLoose.notSynchronized Bd) (findClass_of_methodNamed Bd.named) ((name_of_methodNamed Bd.named Bd.method).1) hZ (Stand.of_body Bd) (by rw [← hh, Bd.state]; rfl)
/-! returns -/
theorem own_retV (X : Stand p l e R s m args below meth c T locs cells slots) (hx : p.tables.exec = Jvm.exec) (hlk : meth.locks = false) {pc : Nat} {Ls : Array Slot} {w : Value} {t : FieldType} {i : Instr} {rest : List Value} (hret : meth.sig.returnType = some t) (hn : narrow t w = w)
    (hi : (i = .ireturn ∧ (t = .int ∨ t = .boolean ∨ t = .byte ∨ t = .char ∨ t = .short) ∧ ∃ z, w = .int z) ∨ (i = .lreturn ∧ t = .long ∧ ∃ z, w = .long z) ∨ (i = .dreturn ∧ t = .double ∧ ∃ z, w = .double z) ∨ (i = .freturn ∧ t = .float ∧ ∃ z, w = .float z) ∨ (i = .areturn ∧ t.isReference = true ∧ w.isRef = true))
    (hd : decode c.code pc = .ok (i, 1)) (hc : cells ≤ kc) (hs : slots ≤ ks) (hQ : Q (some w) T.heap locs) : own_Out p e below (FrameEnd s) T (mkF m pc Ls (w :: rest)) Q kc ks := by
  obtain ⟨fs, hr, hrun, hended, hW, hsame⟩ := X.leave (v := some w) (fun h => by rw [hret] at h; cases h) hlk
  exact ⟨_, _, retOut X hx hret hn hi hd hr, hrun, hended, _, _, rfl, hQ, ⟨_, rfl⟩, hW, hsame.mono hc hs⟩
theorem own_retI (X : Stand p l e R s m args below meth c T locs cells slots) (hx : p.tables.exec = Jvm.exec) (hlk : meth.locks = false) (hret : meth.sig.returnType = some .int) {pc : Nat} {Ls : Array Slot} {z : Int32} {rest : List Value}
    (hd : decode c.code pc = .ok (.ireturn, 1)) (hc : cells ≤ kc) (hs : slots ≤ ks) (hQ : Q (some (.int z)) T.heap locs) : own_Out p e below (FrameEnd s) T (mkF m pc Ls (.int z :: rest)) Q kc ks :=
  own_retV X hx hlk hret rfl (Or.inl ⟨rfl, Or.inl rfl, _, rfl⟩) hd hc hs hQ
theorem own_retJ (X : Stand p l e R s m args below meth c T locs cells slots) (hx : p.tables.exec = Jvm.exec) (hlk : meth.locks = false) (hret : meth.sig.returnType = some .long) {pc : Nat} {Ls : Array Slot} {z : Int64} {rest : List Value}
    (hd : decode c.code pc = .ok (.lreturn, 1)) (hc : cells ≤ kc) (hs : slots ≤ ks) (hQ : Q (some (.long z)) T.heap locs) : own_Out p e below (FrameEnd s) T (mkF m pc Ls (.long z :: rest)) Q kc ks :=
  own_retV X hx hlk hret rfl (Or.inr (Or.inl ⟨rfl, rfl, _, rfl⟩)) hd hc hs hQ
theorem own_retA (X : Stand p l e R s m args below meth c T locs cells slots) (hx : p.tables.exec = Jvm.exec) (hlk : meth.locks = false) {t : FieldType} (hret : meth.sig.returnType = some t) (ht : t.isReference = true) {pc : Nat} {Ls : Array Slot} {z : Addr} {rest : List Value}
    (hd : decode c.code pc = .ok (.areturn, 1)) (hc : cells ≤ kc) (hs : slots ≤ ks) (hQ : Q (some (.ref z)) T.heap locs) : own_Out p e below (FrameEnd s) T (mkF m pc Ls (.ref z :: rest)) Q kc ks :=
  own_retV X hx hlk hret (by cases t <;> rfl) (Or.inr (Or.inr (Or.inr (Or.inr ⟨rfl, ht, rfl⟩)))) hd hc hs hQ
/-- a boolean, byte, char or short: the value is narrowed -/
theorem own_retN (X : Stand p l e R s m args below meth c T locs cells slots) (hx : p.tables.exec = Jvm.exec) (hlk : meth.locks = false) {t : FieldType} (hret : meth.sig.returnType = some t) (ht : t = .boolean ∨ t = .byte ∨ t = .char ∨ t = .short) {pc : Nat} {Ls : Array Slot} {z : Int32} {rest : List Value}
    (hd : decode c.code pc = .ok (.ireturn, 1)) (hc : cells ≤ kc) (hs : slots ≤ ks) (hQ : Q (some (.int (nar t z))) T.heap locs) : own_Out p e below (FrameEnd s) T (mkF m pc Ls (.int z :: rest)) Q kc ks := by
  obtain ⟨fs, hr, hrun, hended, hW, hsame⟩ := X.leave (v := some (.int (nar t z))) (fun h => by rw [hret] at h; cases h) hlk
  exact ⟨_, _, retN X hx hret ht hd hr, hrun, hended, _, _, rfl, hQ, ⟨_, rfl⟩, hW, hsame.mono hc hs⟩
theorem own_ret0 (X : Stand p l e R s m args below meth c T locs cells slots) (hx : p.tables.exec = Jvm.exec) (hlk : meth.locks = false) (hret : meth.sig.returnType = none) {pc : Nat} {Ls : Array Slot}
    (hd : decode c.code pc = .ok (.return_, 1)) (hc : cells ≤ kc) (hs : slots ≤ ks) (hQ : Q none T.heap locs) : own_Out p e below (FrameEnd s) T (mkF m pc Ls []) Q kc ks := by
  obtain ⟨fs, hr, hrun, hended, hW, hsame⟩ := X.leave (v := none) (fun _ => rfl) hlk
  exact ⟨_, _, X.returnOut hx hret hd hr, hrun, hended, _, _, rfl, hQ, ⟨_, rfl⟩, hW, hsame.mono hc hs⟩
/-! calls -/
theorem own_callS (X : Stand p l e R s m args below meth c T locs cells slots) (hx : p.tables.exec = Jvm.exec) (hZ : Z.Warmed39 s.vm) {own : String} (hown : s.vm.findClass own = some m.cls) {index : Nat} {y : MethodName} {bytes : ByteArray} {maxL : Nat} {ret : Option FieldType} {rm : Room} {W : Nat} {Qc : Option Value → Heap → List Loc → Prop} {argsL rest : List Value}
    (w1 : (Jvm.Cond.methodLink own index y).before a0 Z = true) (w2 : (Jvm.Cond.static y).before a0 Z = true) (w3 : (Jvm.Cond.initialized y.cls).before a0 Z = true) (w4 : (Jvm.Cond.code y bytes maxL ret).before a0 Z = true) (hy : y.cls ≠ "java/lang/invoke/MethodHandle" ∧ y.cls ≠ "java/lang/invoke/VarHandle")
    (hM : own_C l Z y bytes maxL ret rm argsL.toArray h Qc) (hf : rm.frames + 1 ≤ R.frames) (hl : W + (maxL + 11) + rm.locals ≤ R.locals) (eT : T.heap = h) (hg : g.method = m) (hsize : g.locals.size = c.maxLocals) (hlen : ∀ sig, parseMethodDescriptor y.desc = some sig → argsL.length = sig.parameters.length)
    (hstack : g.stack = argsL.reverse ++ rest) (hW : 2 * g.monitorRoom + (rest.map fun v => v.category).sum ≤ W) (hd : decode c.code g.pc = .ok (.invokestatic index, 3)) (hc : cells + rm.cells ≤ R.cells) (hs : slots + rm.slots ≤ R.slots)
    (k : ∀ (v : Option Value) (T' : State) (h' : Heap) (L : List Loc), Stand p l e R s m args below meth c T' (locs ++ L) (cells + rm.cells) (slots + rm.slots) → T'.heap = h' → Qc v h' L → own_Out p e below En T' { g with pc := g.pc + 3, stack := v.toList ++ rest } Q kc ks) : own_Out p e below En T g Q kc ks := by
  obtain ⟨v, _, ⟨T', L', k', n'⟩, -, X', ⟨Lc, hQ, l1, l2, l3⟩, st⟩ := Jvm.LawKit.callS X hx hown (mvT hZ w1) (mvT hZ w2) (mvT hZ w3) (mvT hZ w4) hy (backOf (W := W) (hM []) hZ w4 w3 hf hl) hg hsize hlen hstack hW hd (fun _ _ => ⟨rfl, eT, hc, hs⟩)
  dsimp only [Pt.U, Pt.locs, Pt.cells, Pt.slots] at X' l1 l2 l3 st hQ
  subst l1 l2 l3
  exact own_to st (k v T' _ Lc X' rfl hQ)
/-- a constructor -/
theorem own_callC (X : Stand p l e R s m args below meth c T locs cells slots) (hx : p.tables.exec = Jvm.exec) (hZ : Z.Warmed39 s.vm) {own : String} (hown : s.vm.findClass own = some m.cls) {index : Nat} {y : MethodName} {bytes : ByteArray} {maxL : Nat} {rm : Room} {W : Nat} {Qc : Option Value → Heap → List Loc → Prop} {a : Addr} {argsL rest : List Value}
    (hy1 : y.name = "<init>") (w1 : (Jvm.Cond.methodLink own index y).before a0 Z = true) (w2 : (Jvm.Cond.instanceMethod y).before a0 Z = true) (w3 : (Jvm.Cond.initialized y.cls).before a0 Z = true) (w4 : (Jvm.Cond.code y bytes maxL none).before a0 Z = true) (hy : y.cls ≠ "java/lang/invoke/MethodHandle" ∧ y.cls ≠ "java/lang/invoke/VarHandle")
    (hM : own_C l Z y bytes maxL none rm (.ref a :: argsL).toArray h Qc) (hf : rm.frames + 1 ≤ R.frames) (hl : W + (maxL + 11) + rm.locals ≤ R.locals) (eT : T.heap = h) (hg : g.method = m) (hsize : g.locals.size = c.maxLocals) (hlen : ∀ sig, parseMethodDescriptor y.desc = some sig → argsL.length = sig.parameters.length)
    (hstack : g.stack = argsL.reverse ++ .ref a :: rest) (hW : 2 * g.monitorRoom + (rest.map fun v => v.category).sum ≤ W) (hd : decode c.code g.pc = .ok (.invokespecial index, 3)) (hc : cells + rm.cells ≤ R.cells) (hs : slots + rm.slots ≤ R.slots)
    (k : ∀ (v : Option Value) (T' : State) (h' : Heap) (L : List Loc), Stand p l e R s m args below meth c T' (locs ++ L) (cells + rm.cells) (slots + rm.slots) → T'.heap = h' → Qc v h' L → own_Out p e below En T' { g with pc := g.pc + 3, stack := v.toList ++ rest } Q kc ks) : own_Out p e below En T g Q kc ks := by
  obtain ⟨v, _, ⟨T', L', k', n'⟩, -, X', ⟨Lc, hQ, l1, l2, l3⟩, st⟩ := X.specialBack hx hy1 hown (mvT hZ w1) (mvT hZ w2) (mvT hZ w4) hy (backOf (W := W) (hM []) hZ w4 w3 hf hl) hg hsize (Steps.refl _) hlen hstack hW hd (fun _ _ => ⟨rfl, eT, hc, hs⟩)
  dsimp only [Pt.U, Pt.locs, Pt.cells, Pt.slots] at X' l1 l2 l3 st hQ
  subst l1 l2 l3
  exact own_to (fun t k => st.trans k) (k v T' _ Lc X' rfl hQ)
/-- an instance method of the object's own class -/
theorem own_callV (X : Stand p l e R s m args below meth c T locs cells slots) (hx : p.tables.exec = Jvm.exec) (hZ : Z.Warmed39 s.vm) {own C : String} (hown : s.vm.findClass own = some m.cls) {index : Nat} {y : MethodName} {bytes : ByteArray} {maxL : Nat} {ret : Option FieldType} {rm : Room} {W : Nat} {Qc : Option Value → Heap → List Loc → Prop} {a : Addr} {argsL rest : List Value}
    (w1 : (Jvm.Cond.methodLink own index y).before a0 Z = true) (w5 : (Jvm.Cond.declares y).before a0 Z = true) (w6 : (Jvm.Cond.selects C y y).before a0 Z = true) (w2 : (Jvm.Cond.instanceMethod y).before a0 Z = true) (w3 : (Jvm.Cond.initialized y.cls).before a0 Z = true) (w4 : (Jvm.Cond.code y bytes maxL ret).before a0 Z = true) (hy : y.cls ≠ "java/lang/invoke/MethodHandle" ∧ y.cls ≠ "java/lang/invoke/VarHandle")
    (hM : own_C l Z y bytes maxL ret rm (.ref a :: argsL).toArray h Qc) (hf : rm.frames + 1 ≤ R.frames) (hl : W + (maxL + 11) + rm.locals ≤ R.locals) (eT : T.heap = h) (E : Exa Z h a C) (hg : g.method = m) (hsize : g.locals.size = c.maxLocals) (hlen : ∀ sig, parseMethodDescriptor y.desc = some sig → argsL.length = sig.parameters.length)
    (hstack : g.stack = argsL.reverse ++ .ref a :: rest) (hW : 2 * g.monitorRoom + (rest.map fun v => v.category).sum ≤ W) (hd : decode c.code g.pc = .ok (.invokevirtual index, 3)) (hc : cells + rm.cells ≤ R.cells) (hs : slots + rm.slots ≤ R.slots)
    (k : ∀ (v : Option Value) (T' : State) (h' : Heap) (L : List Loc), Stand p l e R s m args below meth c T' (locs ++ L) (cells + rm.cells) (slots + rm.slots) → T'.heap = h' → Qc v h' L → own_Out p e below En T' { g with pc := g.pc + 3, stack := v.toList ++ rest } Q kc ks) : own_Out p e below En T g Q kc ks := by
  obtain ⟨cq, kq, qa, qb, qc⟩ := isOf hZ eT E
  obtain ⟨v, _, ⟨T', L', k', n'⟩, -, X', ⟨Lc, hQ, l1, l2, l3⟩, st⟩ := X.virtualBack hx hown (mvT hZ w1) (mvT hZ w5) (notFace_of_selects (args := #[]) (mvT hZ w6)) (mvT hZ w6) (mvT hZ w2) hy (backOf (W := W) (hM []) hZ w4 w3 hf hl) qa qc hg hsize (Steps.refl _) hlen hstack hW hd (fun _ _ => ⟨rfl, eT, hc, hs⟩)
  dsimp only [Pt.U, Pt.locs, Pt.cells, Pt.slots] at X' l1 l2 l3 st hQ
  subst l1 l2 l3
  exact own_to (fun t k => st.trans k) (k v T' _ Lc X' rfl hQ)
/-- a private method of the object's own class, by invokevirtual -/
theorem own_callP (X : Stand p l e R s m args below meth c T locs cells slots) (hx : p.tables.exec = Jvm.exec) (hZ : Z.Warmed39 s.vm) {own C : String} (hown : s.vm.findClass own = some m.cls) {index kk : Nat} {y : MethodName} {bytes : ByteArray} {maxL : Nat} {ret : Option FieldType} {rm : Room} {W : Nat} {Qc : Option Value → Heap → List Loc → Prop} {a : Addr} {argsL rest : List Value}
    (w1 : (Jvm.Cond.methodLink own index y).before a0 Z = true) (w5 : (Jvm.Cond.privateMethod y).before a0 Z = true) (w6 : (Jvm.Cond.instantiable y.cls kk).before a0 Z = true) (w2 : (Jvm.Cond.instanceMethod y).before a0 Z = true) (w3 : (Jvm.Cond.initialized y.cls).before a0 Z = true) (w4 : (Jvm.Cond.code y bytes maxL ret).before a0 Z = true) (hy : y.cls ≠ "java/lang/invoke/MethodHandle" ∧ y.cls ≠ "java/lang/invoke/VarHandle")
    (hM : own_C l Z y bytes maxL ret rm (.ref a :: argsL).toArray h Qc) (hf : rm.frames + 1 ≤ R.frames) (hl : W + (maxL + 11) + rm.locals ≤ R.locals) (eT : T.heap = h) (E : Exa Z h a C) (hg : g.method = m) (hsize : g.locals.size = c.maxLocals) (hlen : ∀ sig, parseMethodDescriptor y.desc = some sig → argsL.length = sig.parameters.length)
    (hstack : g.stack = argsL.reverse ++ .ref a :: rest) (hW : 2 * g.monitorRoom + (rest.map fun v => v.category).sum ≤ W) (hd : decode c.code g.pc = .ok (.invokevirtual index, 3)) (hc : cells + rm.cells ≤ R.cells) (hs : slots + rm.slots ≤ R.slots)
    (k : ∀ (v : Option Value) (T' : State) (h' : Heap) (L : List Loc), Stand p l e R s m args below meth c T' (locs ++ L) (cells + rm.cells) (slots + rm.slots) → T'.heap = h' → Qc v h' L → own_Out p e below En T' { g with pc := g.pc + 3, stack := v.toList ++ rest } Q kc ks) : own_Out p e below En T g Q kc ks := by
  obtain ⟨cq, q, q'⟩ := E.cell
  have hp : s.PrivateAt y := Cond.privateMethod_at (mvP hZ w5 (args := #[]))
  obtain ⟨cy, ky, f1, f2, -, f3, -⟩ := Cond.instantiable_spec (mvT (args := args) hZ w6)
  have hi : ky.isInterface = false := (Bool.or_eq_false_iff.mp f3).1
  have hse : (Jvm.Cond.selects y.cls y y).before args s = true := selects_self_of_private f1 f2 hi hp (mvT hZ w2) hy
  obtain ⟨v, _, ⟨T', L', k', n'⟩, -, X', ⟨Lc, hQ, l1, l2, l3⟩, st⟩ := X.privateBack hx hown (mvT hZ w1) (mvT hZ w2) hse hp (mvT hZ w4) hy (backOf (W := W) (hM []) hZ w4 w3 hf hl) hg hsize (Steps.refl _) (by rw [eT]; exact q) q' hlen hstack hW hd (fun _ _ => ⟨rfl, eT, hc, hs⟩)
  dsimp only [Pt.U, Pt.locs, Pt.cells, Pt.slots] at X' l1 l2 l3 st hQ
  subst l1 l2 l3
  exact own_to (fun t k => st.trans k) (k v T' _ Lc X' rfl hQ)
/-! the heap's steps -/
theorem own_getF (X : Stand p l e R s m args below meth c T locs cells slots) (hx : p.tables.exec = Jvm.exec) (hZ : Z.Warmed39 s.vm) {own O n d : String} {index : Nat} (hown : s.vm.findClass own = some m.cls) (w : (Jvm.Cond.fieldLink own index O n d).before a0 Z = true) (eT : T.heap = h) {a : Addr} {v : Value} (F : Fld Z h a O n d v)
    (hg : g.method = m) {rest : List Value} (hs : g.stack = .ref a :: rest) (hd : decode c.code g.pc = .ok (.getfield index, 3)) (k : ∀ T', Stand p l e R s m args below meth c T' locs cells slots → T'.heap = h → own_Out p e below En T' { g with pc := g.pc + 3, stack := v :: rest } Q kc ks) : own_Out p e below En T g Q kc ks := by
  obtain ⟨T', X', e', st⟩ := getF X hx hZ hown (host := "") (Or.inl w) Via.refl eT F hg hs hd
  exact own_to st (k T' X' e')
theorem own_putF (X : Stand p l e R s m args below meth c T locs cells slots) (hx : p.tables.exec = Jvm.exec) (hZ : Z.Warmed39 s.vm) {own O n d C : String} {index kk : Nat} {ty : FieldType} (hown : s.vm.findClass own = some m.cls) (w : (Jvm.Cond.fieldLink own index O n d).before a0 Z = true) (eT : T.heap = h) {a : Addr} {v old : Value} (F : Fld Z h a O n d old) (E : Exa Z h a C)
    (L : (Jvm.Cond.lays C O n d).before a0 Z = true ∨ ((Jvm.Cond.laysFinal C O n d).before a0 Z = true ∧ own = O ∧ meth.name = "<init>")) (wi : (Jvm.Cond.instantiable C kk).before a0 Z = true) (hty : parseFieldDescriptor d = some ty) (hn : narrow ty v = v) (hf : fits ty v = true)
    (hg : g.method = m) {rest : List Value} (hs : g.stack = v :: .ref a :: rest) (hd : decode c.code g.pc = .ok (.putfield index, 3)) (k : ∀ T' h', Stand p l e R s m args below meth c T' (locs ++ [⟨a, Jvm.RoadKit.slotOf Z O n d⟩]) cells slots → T'.heap = h' → Wr h h' a (Jvm.RoadKit.slotOf Z O n d) v → own_Out p e below En T' { g with pc := g.pc + 3, stack := rest } Q kc ks) : own_Out p e below En T g Q kc ks := by
  obtain ⟨T', h', X', e', W', st⟩ := putF X hx hZ hown (host := "") (Or.inl w) Via.refl eT F E L wi hty hn hf hg hs hd
  exact own_to st (k T' h' X' e' W')
theorem own_new (X : Stand p l e R s m args below meth c T locs cells slots) (hx : p.tables.exec = Jvm.exec) (hZ : Z.Warmed39 s.vm) {own C : String} {index n : Nat} (hown : s.vm.findClass own = some m.cls) (w : (Jvm.Cond.classLink own index C).before a0 Z = true) (wi : (Jvm.Cond.instantiable C n).before a0 Z = true) (wz : (Jvm.Cond.initialized C).before a0 Z = true) (eT : T.heap = h)
    (hg : g.method = m) (hd : decode c.code g.pc = .ok (.new index, 3)) (hc : cells + 1 ≤ R.cells) (hl : slots + n ≤ R.slots)
    (k : ∀ T' h' a, a = h.size → Stand p l e R s m args below meth c T' locs (cells + 1) (slots + n) → T'.heap = h' → Ext h h' → Exa Z h' a C → (∀ {O nm d : String} {ty : FieldType}, Laid Z a0 C O nm d → parseFieldDescriptor d = some ty → Fld Z h' a O nm d (defaultValue ty)) → own_Out p e below En T' { g with pc := g.pc + 3, stack := .ref a :: g.stack } Q kc ks) : own_Out p e below En T g Q kc ks := by
  obtain ⟨T', h', X', e', E', A', D', -, st⟩ := newO X hx hZ hown w wi wz eT hg hd hc hl
  exact own_to st (k T' h' _ rfl X' e' E' A' D')
/-! arrays of ints, bytes, booleans: how many places, and what each holds -/
def own_upd (f : Nat → Int32) (j : Nat) (x : Int32) : Nat → Int32 := fun i => if i = j then x else f i
def own_A (Z : State) (h : Heap) (a : Addr) (ty : FieldType) (n : Nat) (f : Nat → Int32) : Prop := ∃ cl : Cell, Arr Z h a cl ty ∧ cl.slots.size = n ∧ ∀ j, j < n → cl.slots[j]? = some (.int (f j))
variable {a b : Addr} {ty : FieldType} {n : Nat} {f : Nat → Int32} {ws : List Addr} {v : Value} {sl : Nat}
theorem own_A.lt (F : own_A Z h a ty n f) : a < h.size := by obtain ⟨_, A, -⟩ := F; exact A.lt
theorem own_A.ext (F : own_A Z h a ty n f) (E : Ext h h') : own_A Z h' a ty n f := by obtain ⟨cl, A, r⟩ := F; exact ⟨cl, A.ext E, r⟩
theorem own_A.other (F : own_A Z h b ty n f) (W : Wr h h' a sl v) (q : b ≠ a) : own_A Z h' b ty n f := by obtain ⟨cl, A, r⟩ := F; exact ⟨cl, A.other W q, r⟩
theorem own_A.keep (F : own_A Z h a ty n f) (K : Keep h h' ws) (q : a ∉ ws) : own_A Z h' a ty n f := by obtain ⟨cl, A, r⟩ := F; exact ⟨cl, ⟨K.2.1 a cl A.1 q, A.2⟩, r⟩
theorem own_A.congr {f' : Nat → Int32} (F : own_A Z h a ty n f) (q : ∀ j, j < n → f j = f' j) : own_A Z h a ty n f' := by obtain ⟨cl, A, r1, r2⟩ := F; exact ⟨cl, A, r1, fun j hj => by rw [r2 j hj, q j hj]⟩
theorem own_A.set {cl : Cell} {j : Nat} {x : Int32} (A : Arr Z h a cl ty) (q1 : cl.slots.size = n) (q2 : ∀ j, j < n → cl.slots[j]? = some (.int (f j))) (W : Wr h h' a j (.int x)) (hj : j < n) : own_A Z h' a ty n (own_upd f j x) := by
  refine ⟨_, A.same W, by rw [sz_set, q1], fun i hi => ?_⟩
  simp only [Cell.setSlot, Array.getElem?_setIfInBounds, own_upd]
  by_cases e : j = i
  · subst e
    simp [q1, hj]
  · rw [if_neg e, q2 i hi, if_neg (fun q => e q.symm)]
theorem own_in {j : Int32} {N : Nat} (h0 : ¬ j < 0) (h1 : j.toNatClampNeg < N) : ¬ (j < 0 ∨ N ≤ j.toNatClampNeg) := fun q => q.elim h0 (fun r => Nat.not_lt.mpr r h1)
theorem own_stI (X : Stand p l e R s m args below meth c T locs cells slots) (hx : p.tables.exec = Jvm.exec) (hZ : Z.Warmed39 s.vm) (eT : T.heap = h) (F : own_A Z h a .int n f) {j x : Int32} (h0 : ¬ j < 0) (h1 : j.toNatClampNeg < n) (hg : g.method = m) {rest : List Value} (hs : g.stack = .int x :: .int j :: .ref a :: rest) (hd : decode c.code g.pc = .ok (.iastore, 1))
    (k : ∀ T' h', Stand p l e R s m args below meth c T' (locs ++ [⟨a, j.toNatClampNeg⟩]) cells slots → T'.heap = h' → Wr h h' a j.toNatClampNeg (.int x) → own_A Z h' a .int n (own_upd f j.toNatClampNeg x) → own_Out p e below En T' { g with pc := g.pc + 1, stack := rest } Q kc ks) : own_Out p e below En T g Q kc ks := by
  obtain ⟨cl, A, q1, q2⟩ := F
  obtain ⟨T', h', X', e', W', st⟩ := stI X hx hZ eT A (own_in h0 (by rw [q1]; exact h1)) hg hs hd
  exact own_to st (k T' h' X' e' W' (own_A.set A q1 q2 W' h1))
theorem own_stZ (X : Stand p l e R s m args below meth c T locs cells slots) (hx : p.tables.exec = Jvm.exec) (hZ : Z.Warmed39 s.vm) (eT : T.heap = h) (F : own_A Z h a .boolean n f) {j x : Int32} (h0 : ¬ j < 0) (h1 : j.toNatClampNeg < n) (hg : g.method = m) {rest : List Value} (hs : g.stack = .int x :: .int j :: .ref a :: rest) (hd : decode c.code g.pc = .ok (.bastore, 1))
    (k : ∀ T' h', Stand p l e R s m args below meth c T' (locs ++ [⟨a, j.toNatClampNeg⟩]) cells slots → T'.heap = h' → Wr h h' a j.toNatClampNeg (.int (nar .boolean x)) → own_A Z h' a .boolean n (own_upd f j.toNatClampNeg (nar .boolean x)) → own_Out p e below En T' { g with pc := g.pc + 1, stack := rest } Q kc ks) : own_Out p e below En T g Q kc ks := by
  obtain ⟨cl, A, q1, q2⟩ := F
  obtain ⟨T', h', X', e', W', st⟩ := stZ X hx hZ eT A (own_in h0 (by rw [q1]; exact h1)) hg hs hd
  exact own_to st (k T' h' X' e' W' (own_A.set A q1 q2 W' h1))
theorem own_stB (X : Stand p l e R s m args below meth c T locs cells slots) (hx : p.tables.exec = Jvm.exec) (hZ : Z.Warmed39 s.vm) (eT : T.heap = h) (F : own_A Z h a .byte n f) {j x : Int32} (h0 : ¬ j < 0) (h1 : j.toNatClampNeg < n) (hg : g.method = m) {rest : List Value} (hs : g.stack = .int x :: .int j :: .ref a :: rest) (hd : decode c.code g.pc = .ok (.bastore, 1))
    (k : ∀ T' h', Stand p l e R s m args below meth c T' (locs ++ [⟨a, j.toNatClampNeg⟩]) cells slots → T'.heap = h' → Wr h h' a j.toNatClampNeg (.int (nar .byte x)) → own_A Z h' a .byte n (own_upd f j.toNatClampNeg (nar .byte x)) → own_Out p e below En T' { g with pc := g.pc + 1, stack := rest } Q kc ks) : own_Out p e below En T g Q kc ks := by
  obtain ⟨cl, A, q1, q2⟩ := F
  obtain ⟨T', h', X', e', W', st⟩ := stB X hx hZ eT A (own_in h0 (by rw [q1]; exact h1)) hg hs hd
  exact own_to st (k T' h' X' e' W' (own_A.set A q1 q2 W' h1))
theorem own_newA (X : Stand p l e R s m args below meth c T locs cells slots) (hx : p.tables.exec = Jvm.exec) (hZ : Z.Warmed39 s.vm) {aty : ArrayType} (w : (Jvm.Cond.arrayClass (newarray.typeOf aty)).before a0 Z = true) (hdef : defaultValue (newarray.typeOf aty) = .int 0) (eT : T.heap = h) (hg : g.method = m) (hd : decode c.code g.pc = .ok (.newarray aty, 2)) {N : Int32} {rest : List Value} (hs : g.stack = .int N :: rest)
    (hn : ¬ N < 0) {cap : Nat} (hcap : N.toNatClampNeg ≤ cap) (hb : cap * 8 ≤ 536870912) (hc : cells + 1 ≤ R.cells) (hl : slots + cap ≤ R.slots)
    (k : ∀ T' h' a, a = h.size → Stand p l e R s m args below meth c T' locs (cells + 1) (slots + cap) → T'.heap = h' → Ext h h' → own_A Z h' a (newarray.typeOf aty) N.toNatClampNeg (fun _ => 0) → own_Out p e below En T' { g with pc := g.pc + 2, stack := .ref a :: rest } Q kc ks) : own_Out p e below En T g Q kc ks := by
  obtain ⟨T', h', cA, X', e', E', A', st⟩ := newP X hx hZ w eT hg hd hs hn hcap hb hc hl
  refine own_to st (k T' h' _ rfl X' e' E' ⟨_, A', sz_new _ _ _, fun j hj => ?_⟩)
  simp [newA, hdef, hj]
theorem own_len (X : Stand p l e R s m args below meth c T locs cells slots) (hx : p.tables.exec = Jvm.exec) (hZ : Z.Warmed39 s.vm) (eT : T.heap = h) (F : own_A Z h a ty n f) (hg : g.method = m) {rest : List Value} (hs : g.stack = .ref a :: rest) (hd : decode c.code g.pc = .ok (.arraylength, 1))
    (k : own_Out p e below En T { g with pc := g.pc + 1, stack := .int n.toInt32 :: rest } Q kc ks) : own_Out p e below En T g Q kc ks := by
  obtain ⟨cl, A, q1, q2⟩ := F
  subst q1
  exact own_to (X.arraylength hx (by rw [eT]; exact A.1) (State.isArrayOf_alike hZ.alike A.2.1) hg hs hd) k
theorem own_ldI (X : Stand p l e R s m args below meth c T locs cells slots) (hx : p.tables.exec = Jvm.exec) (hZ : Z.Warmed39 s.vm) (eT : T.heap = h) (F : own_A Z h a .int n f) {j : Int32} (h0 : ¬ j < 0) (h1 : j.toNatClampNeg < n) (hg : g.method = m) {rest : List Value} (hs : g.stack = .int j :: .ref a :: rest) (hd : decode c.code g.pc = .ok (.iaload, 1))
    (k : ∀ w : Int32, w = f j.toNatClampNeg → own_Out p e below En T { g with pc := g.pc + 1, stack := .int w :: rest } Q kc ks) : own_Out p e below En T g Q kc ks := by
  obtain ⟨cl, A, q1, q2⟩ := F
  exact own_to (X.iaload hx (by rw [eT]; exact A.1) (State.isArrayOf_alike hZ.alike A.2.1) A.2.2 (own_in h0 (by rw [q1]; exact h1)) (q2 _ h1) hg hs hd) (k _ rfl)
theorem own_ldZ (X : Stand p l e R s m args below meth c T locs cells slots) (hx : p.tables.exec = Jvm.exec) (hZ : Z.Warmed39 s.vm) (eT : T.heap = h) (F : own_A Z h a .boolean n f) {j : Int32} (h0 : ¬ j < 0) (h1 : j.toNatClampNeg < n) (hg : g.method = m) {rest : List Value} (hs : g.stack = .int j :: .ref a :: rest) (hd : decode c.code g.pc = .ok (.baload, 1))
    (k : ∀ w : Int32, w = f j.toNatClampNeg → own_Out p e below En T { g with pc := g.pc + 1, stack := .int w :: rest } Q kc ks) : own_Out p e below En T g Q kc ks := by
  obtain ⟨cl, A, q1, q2⟩ := F
  exact own_to (X.baloadBooleans hx (by rw [eT]; exact A.1) (State.isArrayOf_alike hZ.alike A.2.1) A.2.2 (own_in h0 (by rw [q1]; exact h1)) (q2 _ h1) hg hs hd) (k _ rfl)
theorem own_ldB (X : Stand p l e R s m args below meth c T locs cells slots) (hx : p.tables.exec = Jvm.exec) (hZ : Z.Warmed39 s.vm) (eT : T.heap = h) (F : own_A Z h a .byte n f) {j : Int32} (h0 : ¬ j < 0) (h1 : j.toNatClampNeg < n) (hg : g.method = m) {rest : List Value} (hs : g.stack = .int j :: .ref a :: rest) (hd : decode c.code g.pc = .ok (.baload, 1))
    (k : ∀ w : Int32, w = f j.toNatClampNeg → own_Out p e below En T { g with pc := g.pc + 1, stack := .int w :: rest } Q kc ks) : own_Out p e below En T g Q kc ks := by
  obtain ⟨cl, A, q1, q2⟩ := F
  exact own_to (X.baloadBytes hx (by rw [eT]; exact A.1) (State.isArrayOf_alike hZ.alike A.2.1) A.2.2 (own_in h0 (by rw [q1]; exact h1)) (q2 _ h1) hg hs hd) (k _ rfl)
theorem own_idx (x n : Int32) (N : Nat) (hn : n.toInt = (N : Int)) (h0 : 0 < N) : ¬ ((x &&& (2147483647 : Int32)) % n < 0) ∧ ((x &&& (2147483647 : Int32)) % n).toNatClampNeg < N := by
  have h1 := c_mask x 2147483647 31 (by decide) (by decide)
  have h2 := c_irem (x &&& 2147483647) n N hn
  have k : (0 : Int32).toInt = 0 := by decide
  have h3 : ¬ ((x &&& (2147483647 : Int32)) % n < 0) := by
    rw [Int32.lt_iff_toInt_lt, k, h2.1 (by omega)]
    have := Int.emod_nonneg (x &&& 2147483647).toInt (show (N : Int) ≠ 0 by omega)
    omega
  have h4 := nat_of h3
  have h5 := Int.emod_lt_of_pos (x &&& 2147483647).toInt (show (0 : Int) < N by omega)
  rw [h2.1 (by omega)] at h4
  exact ⟨h3, by omega⟩
theorem own_fs {k : Nat} {L : List Loc} (N : Fr k L) (q : k ≤ a) : Fr k (L ++ [⟨a, sl⟩]) := N.app fun y hy => by cases List.mem_singleton.mp hy; exact q
end OwnKit
theorem d1_0 : decode method_3_code 0 = .ok (.iconst 1, 1) := by decide +kernel
theorem d1_1 : decode method_3_code 1 = .ok (.iload_n 0, 1) := by decide +kernel
theorem d1_2 : decode method_3_code 2 = .ok (.ldc 35, 2) := by decide +kernel
theorem d1_4 : decode method_3_code 4 = .ok (.iand, 1) := by decide +kernel
theorem d1_5 : decode method_3_code 5 = .ok (.iload_n 1, 1) := by decide +kernel
theorem d1_6 : decode method_3_code 6 = .ok (.irem, 1) := by decide +kernel
theorem d1_7 : decode method_3_code 7 = .ok (.iadd, 1) := by decide +kernel
theorem d1_8 : decode method_3_code 8 = .ok (.ireturn, 1) := by decide +kernel
theorem pn_0 : plainName "com/example/queenside/queenside/LinesFreePinLaw" = true := by first | (simp [plainName, overriddenIn]; done) | decide +kernel
theorem ef_1 (m : MethodId) (u0 : Int32) (u1 : Int32) : entryFrame m #[(.int u0), (.int u1)] 2 = mkF m 0 #[.val (.int u0), .val (.int u1)] [] := by first | (simp [entryFrame, mkF, argsToLocals, Value.category]; done) | rfl
def Q1 (Z : State) (u0 : Int32) (u1 : Int32) (h0 : Heap) (n0 : Nat) (v : Option Value) (h : Heap) (L : List Loc) : Prop := v = some (.int ((1 : Int32) + ((u0 &&& (65535 : Int32)) % u1))) ∧ Fr n0 L ∧ h = h0
set_option maxRecDepth 65536 in
set_option maxHeartbeats 40000000 in
theorem rm1 (l : Launch) (Z : State) (a0 : Array Value) (hw : ∀ d ∈ tables_1, d.before a0 Z = true) (u0 : Int32) (u1 : Int32) (h0 : Heap) (n0 : Nat) (Z0 : n0 ≤ h0.size) (hn : u1 ≠ 0) :
    own_C l Z (⟨"com/example/queenside/queenside/LinesFreePinLaw", "coord", "(II)I"⟩ : MethodName) method_3_code 2 (some .int) ({ frames := 0, cells := 0, slots := 0, locals := 0 } : Room) #[(.int u0), (.int u1)] h0 (Q1 Z u0 u1 h0 n0) := by
  refine own_met (plainFor_of_name pn_0) ?_
  intro p e s m below meth c s₁ hx hby hml hret hlk hown hnm hZ X0 e0
  refine own_cast (ef_1 m u0 u1) ?_
  have N0 := Fr.nil n0
  show own_Out p e below _ s₁ (mkF m 0 #[.val (.int u0), .val (.int u1)] []) _ _ _
  refine own_to (fun t k => XS.iconst X0.here hx rfl (hb hby d1_0) k) ?_
  show own_Out p e below _ s₁ (mkF m 1 #[.val (.int u0), .val (.int u1)] [(.int (1 : Int32))]) _ _ _
  refine own_to (fun t k => XS.iloadN X0.here hx rfl (hb hby d1_1) rfl k) ?_
  show own_Out p e below _ s₁ (mkF m 2 #[.val (.int u0), .val (.int u1)] [(.int u0), (.int (1 : Int32))]) _ _ _
  refine own_to (fun t k => X0.ldcI hx hown (mvT hZ (hw _ (List.mem_of_getElem? (i := 4) rfl))) rfl (hb hby d1_2) k) ?_
  show own_Out p e below _ s₁ (mkF m 4 #[.val (.int u0), .val (.int u1)] [(.int (65535 : Int32)), (.int u0), (.int (1 : Int32))]) _ _ _
  refine own_to (fun t k => XS.iand X0.here hx rfl (hb hby d1_4) rfl k) ?_
  show own_Out p e below _ s₁ (mkF m 5 #[.val (.int u0), .val (.int u1)] [(.int (u0 &&& (65535 : Int32))), (.int (1 : Int32))]) _ _ _
  refine own_to (fun t k => XS.iloadN X0.here hx rfl (hb hby d1_5) rfl k) ?_
  show own_Out p e below _ s₁ (mkF m 6 #[.val (.int u0), .val (.int u1)] [(.int u1), (.int (u0 &&& (65535 : Int32))), (.int (1 : Int32))]) _ _ _
  have hnz6 : u1 ≠ 0 := hn
  refine own_to (fun t k => iremM X0 hx rfl (hb hby d1_6) rfl hnz6 k) ?_
  show own_Out p e below _ s₁ (mkF m 7 #[.val (.int u0), .val (.int u1)] [(.int ((u0 &&& (65535 : Int32)) % u1)), (.int (1 : Int32))]) _ _ _
  refine own_to (fun t k => XS.iadd X0.here hx rfl (hb hby d1_7) rfl k) ?_
  show own_Out p e below _ s₁ (mkF m 8 #[.val (.int u0), .val (.int u1)] [(.int ((1 : Int32) + ((u0 &&& (65535 : Int32)) % u1)))]) _ _ _
  refine own_retI X0 hx hlk hret (hb hby d1_8) (by decide) (by decide) ?_
  rw [e0]
  exact ⟨rfl, N0, rfl⟩
theorem d3_0 : decode jdk_30_method_1_code 0 = .ok (.aload_n 0, 1) := by decide +kernel
theorem d3_1 : decode jdk_30_method_1_code 1 = .ok (.invokespecial 1, 3) := by decide +kernel
theorem d3_4 : decode jdk_30_method_1_code 4 = .ok (.return_, 1) := by decide +kernel
theorem pn_1 : plainName "java/lang/Record" = true := by first | (simp [plainName, overriddenIn]; done) | decide +kernel
theorem ef_3 (m : MethodId) (o0 : Addr) : entryFrame m #[(.ref o0)] 1 = mkF m 0 #[.val (.ref o0)] [] := by first | (simp [entryFrame, mkF, argsToLocals, Value.category]; done) | rfl
def Q3 (Z : State) (o0 : Addr) (h0 : Heap) (n0 : Nat) (v : Option Value) (h : Heap) (L : List Loc) : Prop := v = none ∧ Fr n0 L ∧ h = h0
set_option maxRecDepth 65536 in
set_option maxHeartbeats 40000000 in
theorem rm3 (l : Launch) (Z : State) (a0 : Array Value) (hw : ∀ d ∈ tables_1, d.before a0 Z = true) (o0 : Addr) (h0 : Heap) (n0 : Nat) (Z0 : n0 ≤ h0.size) :
    own_C l Z (⟨"java/lang/Record", "<init>", "()V"⟩ : MethodName) jdk_30_method_1_code 1 none ({ frames := 1, cells := 0, slots := 0, locals := 12 } : Room) #[(.ref o0)] h0 (Q3 Z o0 h0 n0) := by
  refine own_met (plainFor_of_name pn_1) ?_
  intro p e s m below meth c s₁ hx hby hml hret hlk hown hnm hZ X0 e0
  refine own_cast (ef_3 m o0) ?_
  have N0 := Fr.nil n0
  show own_Out p e below _ s₁ (mkF m 0 #[.val (.ref o0)] []) _ _ _
  refine own_to (fun t k => XS.aloadN X0.here hx rfl (hb hby d3_0) rfl rfl k) ?_
  show own_Out p e below _ s₁ (mkF m 1 #[.val (.ref o0)] [(.ref o0)]) _ _ _
  obtain ⟨T1, X1, e1, st1⟩ := initO X0 hx hZ hown (hw _ (List.mem_of_getElem? (i := 16) rfl)) (hw _ (List.mem_of_getElem? (i := 17) rfl)) (hw _ (List.mem_of_getElem? (i := 18) rfl)) e0 (g := (mkF m 1 #[.val (.ref o0)] [(.ref o0)])) rfl (by rw [hml]; rfl) rfl (hb hby d3_1) (by decide) (W := 0) (by show 2 * 0 + _ ≤ _; exact Nat.le_of_eq rfl) (by decide)
  refine own_to st1 ?_
  show own_Out p e below _ T1 (mkF m 4 #[.val (.ref o0)] []) _ _ _
  refine own_ret0 X1 hx hlk hret (hb hby d3_4) (by decide) (by decide) ?_
  rw [e1]
  exact ⟨rfl, N0, rfl⟩
theorem d2_0 : decode prog_15_method_1_code 0 = .ok (.aload_n 0, 1) := by decide +kernel
theorem d2_1 : decode prog_15_method_1_code 1 = .ok (.invokespecial 1, 3) := by decide +kernel
theorem d2_4 : decode prog_15_method_1_code 4 = .ok (.aload_n 0, 1) := by decide +kernel
theorem d2_5 : decode prog_15_method_1_code 5 = .ok (.iload_n 1, 1) := by decide +kernel
theorem d2_6 : decode prog_15_method_1_code 6 = .ok (.putfield 7, 3) := by decide +kernel
theorem d2_9 : decode prog_15_method_1_code 9 = .ok (.aload_n 0, 1) := by decide +kernel
theorem d2_10 : decode prog_15_method_1_code 10 = .ok (.iload_n 2, 1) := by decide +kernel
theorem d2_11 : decode prog_15_method_1_code 11 = .ok (.putfield 13, 3) := by decide +kernel
theorem d2_14 : decode prog_15_method_1_code 14 = .ok (.return_, 1) := by decide +kernel
theorem pn_2 : plainName "com/example/queenside/queenside/Square" = true := by first | (simp [plainName, overriddenIn]; done) | decide +kernel
theorem ef_2 (m : MethodId) (o0 : Addr) (u1 : Int32) (u2 : Int32) : entryFrame m #[(.ref o0), (.int u1), (.int u2)] 3 = mkF m 0 #[.val (.ref o0), .val (.int u1), .val (.int u2)] [] := by first | (simp [entryFrame, mkF, argsToLocals, Value.category]; done) | rfl
def Q2 (Z : State) (o0 : Addr) (u1 : Int32) (u2 : Int32) (h0 : Heap) (n0 : Nat) (v : Option Value) (h : Heap) (L : List Loc) : Prop := v = none ∧ Fr n0 L ∧ Keep h0 h [o0] ∧ Fld Z h o0 "com/example/queenside/queenside/Square" "row" "I" (.int u1) ∧ Fld Z h o0 "com/example/queenside/queenside/Square" "column" "I" (.int u2)
theorem pd_0 : parseMethodDescriptor "()V" = some ⟨[], none⟩ := by decide +kernel
set_option maxRecDepth 65536 in
set_option maxHeartbeats 40000000 in
theorem rm2 (l : Launch) (Z : State) (a0 : Array Value) (hw : ∀ d ∈ tables_1, d.before a0 Z = true) (o0 : Addr) (u1 : Int32) (u2 : Int32) (h0 : Heap) (n0 : Nat) (Z0 : n0 ≤ h0.size) (E_o0 : Exa Z h0 o0 "com/example/queenside/queenside/Square") (F_o0_row : Fld Z h0 o0 "com/example/queenside/queenside/Square" "row" "I" (.int (0 : Int32))) (F_o0_column : Fld Z h0 o0 "com/example/queenside/queenside/Square" "column" "I" (.int (0 : Int32))) (g_o0 : n0 ≤ o0) :
    own_C l Z (⟨"com/example/queenside/queenside/Square", "<init>", "(II)V"⟩ : MethodName) prog_15_method_1_code 3 none ({ frames := 2, cells := 0, slots := 0, locals := 24 } : Room) #[(.ref o0), (.int u1), (.int u2)] h0 (Q2 Z o0 u1 u2 h0 n0) := by
  refine own_met (plainFor_of_name pn_2) ?_
  intro p e s m below meth c s₁ hx hby hml hret hlk hown hnm hZ X0 e0
  refine own_cast (ef_2 m o0 u1 u2) ?_
  have N0 := Fr.nil n0
  have K := Keep.refl h0 [o0]
  show own_Out p e below _ s₁ (mkF m 0 #[.val (.ref o0), .val (.int u1), .val (.int u2)] []) _ _ _
  refine own_to (fun t k => XS.aloadN X0.here hx rfl (hb hby d2_0) rfl rfl k) ?_
  show own_Out p e below _ s₁ (mkF m 1 #[.val (.ref o0), .val (.int u1), .val (.int u2)] [(.ref o0)]) _ _ _
  refine own_callC X0 hx hZ hown (a := o0) (argsL := []) (rest := []) rfl (hw _ (List.mem_of_getElem? (i := 11) rfl)) (hw _ (List.mem_of_getElem? (i := 12) rfl)) (hw _ (List.mem_of_getElem? (i := 14) rfl)) (hw _ (List.mem_of_getElem? (i := 15) rfl)) (by decide) (rm3 l Z a0 hw o0 h0 n0 Z0 ) (by decide) (by decide) e0 rfl (by rw [hml]; rfl) (lenOf pd_0 rfl) rfl (W := 0) (by show 2 * 0 + _ ≤ _; exact Nat.le_of_eq rfl) (hb hby d2_1) (by decide) (by decide) fun v1 T1 hh1 L1 X1 e1 hQ1 => ?_
  obtain ⟨rfl, NL1, he1⟩ := hQ1
  replace e1 := e1.trans he1
  have N1 := Fr.app N0 NL1
  show own_Out p e below _ T1 (mkF m 4 #[.val (.ref o0), .val (.int u1), .val (.int u2)] []) _ _ _
  refine own_to (fun t k => XS.aloadN X1.here hx rfl (hb hby d2_4) rfl rfl k) ?_
  show own_Out p e below _ T1 (mkF m 5 #[.val (.ref o0), .val (.int u1), .val (.int u2)] [(.ref o0)]) _ _ _
  refine own_to (fun t k => XS.iloadN X1.here hx rfl (hb hby d2_5) rfl k) ?_
  show own_Out p e below _ T1 (mkF m 6 #[.val (.ref o0), .val (.int u1), .val (.int u2)] [(.int u1), (.ref o0)]) _ _ _
  refine own_putF X1 hx hZ hown (hw _ (List.mem_of_getElem? (i := 19) rfl)) e1 F_o0_row E_o0 (Or.inr ⟨(hw _ (List.mem_of_getElem? (i := 20) rfl)), rfl, hnm⟩) (hw _ (List.mem_of_getElem? (i := 6) rfl)) (ty := .int) (by decide) rfl rfl rfl rfl (hb hby d2_6) fun T2 hh2 X2 e2 W2 => ?_
  have E_o0 := E_o0.wr W2
  have F_o0_row := F_o0_row.same W2
  have F_o0_column := F_o0_column.other W2 (Or.inr (slot_ne (Or.inr (hw _ (List.mem_of_getElem? (i := 22) rfl))) (Or.inr (hw _ (List.mem_of_getElem? (i := 20) rfl))) (by decide) (t := .int) (t' := .int) (by decide) (by decide)))
  have K := K.wr W2 (Or.inl (by simp))
  have Z0 := Nat.le_trans Z0 (Nat.le_of_eq W2.size.symm)
  have N2 := own_fs (sl := Jvm.RoadKit.slotOf Z "com/example/queenside/queenside/Square" "row" "I") N1 g_o0
  show own_Out p e below _ T2 (mkF m 9 #[.val (.ref o0), .val (.int u1), .val (.int u2)] []) _ _ _
  refine own_to (fun t k => XS.aloadN X2.here hx rfl (hb hby d2_9) rfl rfl k) ?_
  show own_Out p e below _ T2 (mkF m 10 #[.val (.ref o0), .val (.int u1), .val (.int u2)] [(.ref o0)]) _ _ _
  refine own_to (fun t k => XS.iloadN X2.here hx rfl (hb hby d2_10) rfl k) ?_
  show own_Out p e below _ T2 (mkF m 11 #[.val (.ref o0), .val (.int u1), .val (.int u2)] [(.int u2), (.ref o0)]) _ _ _
  refine own_putF X2 hx hZ hown (hw _ (List.mem_of_getElem? (i := 21) rfl)) e2 F_o0_column E_o0 (Or.inr ⟨(hw _ (List.mem_of_getElem? (i := 22) rfl)), rfl, hnm⟩) (hw _ (List.mem_of_getElem? (i := 6) rfl)) (ty := .int) (by decide) rfl rfl rfl rfl (hb hby d2_11) fun T3 hh3 X3 e3 W3 => ?_
  have E_o0 := E_o0.wr W3
  have F_o0_row := F_o0_row.other W3 (Or.inr (slot_ne (Or.inr (hw _ (List.mem_of_getElem? (i := 20) rfl))) (Or.inr (hw _ (List.mem_of_getElem? (i := 22) rfl))) (by decide) (t := .int) (t' := .int) (by decide) (by decide)))
  have F_o0_column := F_o0_column.same W3
  have K := K.wr W3 (Or.inl (by simp))
  have Z0 := Nat.le_trans Z0 (Nat.le_of_eq W3.size.symm)
  have N3 := own_fs (sl := Jvm.RoadKit.slotOf Z "com/example/queenside/queenside/Square" "column" "I") N2 g_o0
  show own_Out p e below _ T3 (mkF m 14 #[.val (.ref o0), .val (.int u1), .val (.int u2)] []) _ _ _
  refine own_ret0 X3 hx hlk hret (hb hby d2_14) (by decide) (by decide) ?_
  rw [e3]
  exact ⟨rfl, N3, K, F_o0_row, F_o0_column⟩
theorem d7_0 : decode prog_15_method_8_code 0 = .ok (.aload_n 0, 1) := by decide +kernel
theorem d7_1 : decode prog_15_method_8_code 1 = .ok (.getfield 7, 3) := by decide +kernel
theorem d7_4 : decode prog_15_method_8_code 4 = .ok (.ireturn, 1) := by decide +kernel
theorem ef_7 (m : MethodId) (o0 : Addr) : entryFrame m #[(.ref o0)] 1 = mkF m 0 #[.val (.ref o0)] [] := by first | (simp [entryFrame, mkF, argsToLocals, Value.category]; done) | rfl
def Q7 (Z : State) (o0 : Addr) (f1 : Int32) (h0 : Heap) (n0 : Nat) (v : Option Value) (h : Heap) (L : List Loc) : Prop := v = some (.int f1) ∧ Fr n0 L ∧ h = h0
set_option maxRecDepth 65536 in
set_option maxHeartbeats 40000000 in
theorem rm7 (l : Launch) (Z : State) (a0 : Array Value) (hw : ∀ d ∈ tables_1, d.before a0 Z = true) (o0 : Addr) (f1 : Int32) (h0 : Heap) (n0 : Nat) (Z0 : n0 ≤ h0.size) (F_o0_row : Fld Z h0 o0 "com/example/queenside/queenside/Square" "row" "I" (.int f1)) :
    own_C l Z (⟨"com/example/queenside/queenside/Square", "row", "()I"⟩ : MethodName) prog_15_method_8_code 1 (some .int) ({ frames := 0, cells := 0, slots := 0, locals := 0 } : Room) #[(.ref o0)] h0 (Q7 Z o0 f1 h0 n0) := by
  refine own_met (plainFor_of_name pn_2) ?_
  intro p e s m below meth c s₁ hx hby hml hret hlk hown hnm hZ X0 e0
  refine own_cast (ef_7 m o0) ?_
  have N0 := Fr.nil n0
  show own_Out p e below _ s₁ (mkF m 0 #[.val (.ref o0)] []) _ _ _
  refine own_to (fun t k => XS.aloadN X0.here hx rfl (hb hby d7_0) rfl rfl k) ?_
  show own_Out p e below _ s₁ (mkF m 1 #[.val (.ref o0)] [(.ref o0)]) _ _ _
  refine own_getF X0 hx hZ hown (hw _ (List.mem_of_getElem? (i := 19) rfl)) e0 F_o0_row rfl rfl (hb hby d7_1) fun T1 X1 e1 => ?_
  show own_Out p e below _ T1 (mkF m 4 #[.val (.ref o0)] [(.int f1)]) _ _ _
  refine own_retI X1 hx hlk hret (hb hby d7_4) (by decide) (by decide) ?_
  rw [e1]
  exact ⟨rfl, N0, rfl⟩
theorem d8_0 : decode prog_15_method_3_code 0 = .ok (.aload_n 0, 1) := by decide +kernel
theorem d8_1 : decode prog_15_method_3_code 1 = .ok (.getfield 7, 3) := by decide +kernel
theorem d8_4 : decode prog_15_method_3_code 4 = .ok (.aload_n 0, 1) := by decide +kernel
theorem d8_5 : decode prog_15_method_3_code 5 = .ok (.getfield 13, 3) := by decide +kernel
theorem d8_8 : decode prog_15_method_3_code 8 = .ok (.isub, 1) := by decide +kernel
theorem d8_9 : decode prog_15_method_3_code 9 = .ok (.ireturn, 1) := by decide +kernel
theorem ef_8 (m : MethodId) (o0 : Addr) : entryFrame m #[(.ref o0)] 1 = mkF m 0 #[.val (.ref o0)] [] := by first | (simp [entryFrame, mkF, argsToLocals, Value.category]; done) | rfl
def Q8 (Z : State) (o0 : Addr) (f1 : Int32) (f2 : Int32) (h0 : Heap) (n0 : Nat) (v : Option Value) (h : Heap) (L : List Loc) : Prop := v = some (.int (f1 - f2)) ∧ Fr n0 L ∧ h = h0
set_option maxRecDepth 65536 in
set_option maxHeartbeats 40000000 in
theorem rm8 (l : Launch) (Z : State) (a0 : Array Value) (hw : ∀ d ∈ tables_1, d.before a0 Z = true) (o0 : Addr) (f1 : Int32) (f2 : Int32) (h0 : Heap) (n0 : Nat) (Z0 : n0 ≤ h0.size) (F_o0_row : Fld Z h0 o0 "com/example/queenside/queenside/Square" "row" "I" (.int f1)) (F_o0_column : Fld Z h0 o0 "com/example/queenside/queenside/Square" "column" "I" (.int f2)) :
    own_C l Z (⟨"com/example/queenside/queenside/Square", "down", "()I"⟩ : MethodName) prog_15_method_3_code 1 (some .int) ({ frames := 0, cells := 0, slots := 0, locals := 0 } : Room) #[(.ref o0)] h0 (Q8 Z o0 f1 f2 h0 n0) := by
  refine own_met (plainFor_of_name pn_2) ?_
  intro p e s m below meth c s₁ hx hby hml hret hlk hown hnm hZ X0 e0
  refine own_cast (ef_8 m o0) ?_
  have N0 := Fr.nil n0
  show own_Out p e below _ s₁ (mkF m 0 #[.val (.ref o0)] []) _ _ _
  refine own_to (fun t k => XS.aloadN X0.here hx rfl (hb hby d8_0) rfl rfl k) ?_
  show own_Out p e below _ s₁ (mkF m 1 #[.val (.ref o0)] [(.ref o0)]) _ _ _
  refine own_getF X0 hx hZ hown (hw _ (List.mem_of_getElem? (i := 19) rfl)) e0 F_o0_row rfl rfl (hb hby d8_1) fun T1 X1 e1 => ?_
  show own_Out p e below _ T1 (mkF m 4 #[.val (.ref o0)] [(.int f1)]) _ _ _
  refine own_to (fun t k => XS.aloadN X1.here hx rfl (hb hby d8_4) rfl rfl k) ?_
  show own_Out p e below _ T1 (mkF m 5 #[.val (.ref o0)] [(.ref o0), (.int f1)]) _ _ _
  refine own_getF X1 hx hZ hown (hw _ (List.mem_of_getElem? (i := 21) rfl)) e1 F_o0_column rfl rfl (hb hby d8_5) fun T2 X2 e2 => ?_
  show own_Out p e below _ T2 (mkF m 8 #[.val (.ref o0)] [(.int f2), (.int f1)]) _ _ _
  refine own_to (fun t k => XS.isub X2.here hx rfl (hb hby d8_8) rfl k) ?_
  show own_Out p e below _ T2 (mkF m 9 #[.val (.ref o0)] [(.int (f1 - f2))]) _ _ _
  refine own_retI X2 hx hlk hret (hb hby d8_9) (by decide) (by decide) ?_
  rw [e2]
  exact ⟨rfl, N0, rfl⟩
theorem d9_0 : decode prog_15_method_4_code 0 = .ok (.aload_n 0, 1) := by decide +kernel
theorem d9_1 : decode prog_15_method_4_code 1 = .ok (.getfield 7, 3) := by decide +kernel
theorem d9_4 : decode prog_15_method_4_code 4 = .ok (.aload_n 0, 1) := by decide +kernel
theorem d9_5 : decode prog_15_method_4_code 5 = .ok (.getfield 13, 3) := by decide +kernel
theorem d9_8 : decode prog_15_method_4_code 8 = .ok (.iadd, 1) := by decide +kernel
theorem d9_9 : decode prog_15_method_4_code 9 = .ok (.ireturn, 1) := by decide +kernel
theorem ef_9 (m : MethodId) (o0 : Addr) : entryFrame m #[(.ref o0)] 1 = mkF m 0 #[.val (.ref o0)] [] := by first | (simp [entryFrame, mkF, argsToLocals, Value.category]; done) | rfl
def Q9 (Z : State) (o0 : Addr) (f1 : Int32) (f2 : Int32) (h0 : Heap) (n0 : Nat) (v : Option Value) (h : Heap) (L : List Loc) : Prop := v = some (.int (f1 + f2)) ∧ Fr n0 L ∧ h = h0
set_option maxRecDepth 65536 in
set_option maxHeartbeats 40000000 in
theorem rm9 (l : Launch) (Z : State) (a0 : Array Value) (hw : ∀ d ∈ tables_1, d.before a0 Z = true) (o0 : Addr) (f1 : Int32) (f2 : Int32) (h0 : Heap) (n0 : Nat) (Z0 : n0 ≤ h0.size) (F_o0_row : Fld Z h0 o0 "com/example/queenside/queenside/Square" "row" "I" (.int f1)) (F_o0_column : Fld Z h0 o0 "com/example/queenside/queenside/Square" "column" "I" (.int f2)) :
    own_C l Z (⟨"com/example/queenside/queenside/Square", "up", "()I"⟩ : MethodName) prog_15_method_4_code 1 (some .int) ({ frames := 0, cells := 0, slots := 0, locals := 0 } : Room) #[(.ref o0)] h0 (Q9 Z o0 f1 f2 h0 n0) := by
  refine own_met (plainFor_of_name pn_2) ?_
  intro p e s m below meth c s₁ hx hby hml hret hlk hown hnm hZ X0 e0
  refine own_cast (ef_9 m o0) ?_
  have N0 := Fr.nil n0
  show own_Out p e below _ s₁ (mkF m 0 #[.val (.ref o0)] []) _ _ _
  refine own_to (fun t k => XS.aloadN X0.here hx rfl (hb hby d9_0) rfl rfl k) ?_
  show own_Out p e below _ s₁ (mkF m 1 #[.val (.ref o0)] [(.ref o0)]) _ _ _
  refine own_getF X0 hx hZ hown (hw _ (List.mem_of_getElem? (i := 19) rfl)) e0 F_o0_row rfl rfl (hb hby d9_1) fun T1 X1 e1 => ?_
  show own_Out p e below _ T1 (mkF m 4 #[.val (.ref o0)] [(.int f1)]) _ _ _
  refine own_to (fun t k => XS.aloadN X1.here hx rfl (hb hby d9_4) rfl rfl k) ?_
  show own_Out p e below _ T1 (mkF m 5 #[.val (.ref o0)] [(.ref o0), (.int f1)]) _ _ _
  refine own_getF X1 hx hZ hown (hw _ (List.mem_of_getElem? (i := 21) rfl)) e1 F_o0_column rfl rfl (hb hby d9_5) fun T2 X2 e2 => ?_
  show own_Out p e below _ T2 (mkF m 8 #[.val (.ref o0)] [(.int f2), (.int f1)]) _ _ _
  refine own_to (fun t k => XS.iadd X2.here hx rfl (hb hby d9_8) rfl k) ?_
  show own_Out p e below _ T2 (mkF m 9 #[.val (.ref o0)] [(.int (f1 + f2))]) _ _ _
  refine own_retI X2 hx hlk hret (hb hby d9_9) (by decide) (by decide) ?_
  rw [e2]
  exact ⟨rfl, N0, rfl⟩
theorem own_sz (n : Int32) (h : 1 ≤ n.toInt ∧ n.toInt ≤ 16) : (n + (1 : Int32)).toInt = n.toInt + 1 ∧ ((2 : Int32) * n).toInt = 2 * n.toInt ∧ (((2 : Int32) * n) + (1 : Int32)).toInt = 2 * n.toInt + 1 := by
  have h1 := c_iadd n 1
  have h2 := c_imul 2 n
  have h3 := c_iadd (2 * n) 1
  have k1 : (1 : Int32).toInt = 1 := by decide
  have k2 : (2 : Int32).toInt = 2 := by decide
  have r1 := rng32 (n + 1)
  have r2 := rng32 (2 * n)
  have r3 := rng32 (2 * n + 1)
  rw [k2] at h2
  omega
theorem own_nn (x : Int32) : x.toNatClampNeg = x.toInt.toNat := rfl
theorem own_lt0 {x : Int32} (h : 0 ≤ x.toInt) : ¬ x < 0 := by
  have k : (0 : Int32).toInt = 0 := by decide
  rw [Int32.lt_iff_toInt_lt]; omega
theorem own_co (x n : Int32) (h : 1 ≤ n.toInt ∧ n.toInt ≤ 16) : 1 ≤ ((1 : Int32) + ((x &&& (65535 : Int32)) % n)).toInt ∧ ((1 : Int32) + ((x &&& (65535 : Int32)) % n)).toInt ≤ n.toInt := by
  have h1 := c_mask x 65535 16 (by decide) (by decide)
  have h2 := (c_irem (x &&& 65535) n n.toInt rfl).1 (by omega)
  have h3 := Int.emod_nonneg (x &&& 65535).toInt (show n.toInt ≠ 0 by omega)
  have h4 := Int.emod_lt_of_pos (x &&& 65535).toInt (show 0 < n.toInt by omega)
  have h5 := c_iadd 1 ((x &&& 65535) % n)
  have r := rng32 (1 + (x &&& 65535) % n)
  have k1 : (1 : Int32).toInt = 1 := by decide
  omega
theorem own_n (x : Int32) : 1 ≤ ((1 : Int32) + (x &&& (15 : Int32))).toInt ∧ ((1 : Int32) + (x &&& (15 : Int32))).toInt ≤ 16 := by
  have h1 := c_mask x 15 4 (by decide) (by decide)
  have h5 := c_iadd 1 (x &&& 15)
  have r := rng32 (1 + (x &&& 15))
  have k1 : (1 : Int32).toInt = 1 := by decide
  omega
theorem own_ix (n a b : Int32) (h : 1 ≤ n.toInt ∧ n.toInt ≤ 16) (h1 : 1 ≤ a.toInt ∧ a.toInt ≤ n.toInt) (h2 : 1 ≤ b.toInt ∧ b.toInt ≤ n.toInt) : ((a - b) + n).toInt = a.toInt - b.toInt + n.toInt ∧ (a + b).toInt = a.toInt + b.toInt := by
  have e1 := c_isub a b
  have e2 := c_iadd (a - b) n
  have e3 := c_iadd a b
  have r1 := rng32 (a - b)
  have r2 := rng32 (a - b + n)
  have r3 := rng32 (a + b)
  omega
theorem own_nz (n : Int32) (h : 1 ≤ n.toInt ∧ n.toInt ≤ 16) : n ≠ 0 := fun q => by rw [q] at h; exact absurd h.1 (by decide)
theorem d5_0 : decode prog_5_method_1_code 0 = .ok (.aload_n 0, 1) := by decide +kernel
theorem d5_1 : decode prog_5_method_1_code 1 = .ok (.invokespecial 1, 3) := by decide +kernel
theorem d5_4 : decode prog_5_method_1_code 4 = .ok (.aload_n 0, 1) := by decide +kernel
theorem d5_5 : decode prog_5_method_1_code 5 = .ok (.iload_n 1, 1) := by decide +kernel
theorem d5_6 : decode prog_5_method_1_code 6 = .ok (.putfield 7, 3) := by decide +kernel
theorem d5_9 : decode prog_5_method_1_code 9 = .ok (.aload_n 0, 1) := by decide +kernel
theorem d5_10 : decode prog_5_method_1_code 10 = .ok (.iload_n 1, 1) := by decide +kernel
theorem d5_11 : decode prog_5_method_1_code 11 = .ok (.iconst 1, 1) := by decide +kernel
theorem d5_12 : decode prog_5_method_1_code 12 = .ok (.iadd, 1) := by decide +kernel
theorem d5_13 : decode prog_5_method_1_code 13 = .ok (.newarray .boolean, 2) := by decide +kernel
theorem d5_15 : decode prog_5_method_1_code 15 = .ok (.putfield 13, 3) := by decide +kernel
theorem d5_18 : decode prog_5_method_1_code 18 = .ok (.aload_n 0, 1) := by decide +kernel
theorem d5_19 : decode prog_5_method_1_code 19 = .ok (.iconst 2, 1) := by decide +kernel
theorem d5_20 : decode prog_5_method_1_code 20 = .ok (.iload_n 1, 1) := by decide +kernel
theorem d5_21 : decode prog_5_method_1_code 21 = .ok (.imul, 1) := by decide +kernel
theorem d5_22 : decode prog_5_method_1_code 22 = .ok (.newarray .boolean, 2) := by decide +kernel
theorem d5_24 : decode prog_5_method_1_code 24 = .ok (.putfield 17, 3) := by decide +kernel
theorem d5_27 : decode prog_5_method_1_code 27 = .ok (.aload_n 0, 1) := by decide +kernel
theorem d5_28 : decode prog_5_method_1_code 28 = .ok (.iconst 2, 1) := by decide +kernel
theorem d5_29 : decode prog_5_method_1_code 29 = .ok (.iload_n 1, 1) := by decide +kernel
theorem d5_30 : decode prog_5_method_1_code 30 = .ok (.imul, 1) := by decide +kernel
theorem d5_31 : decode prog_5_method_1_code 31 = .ok (.iconst 1, 1) := by decide +kernel
theorem d5_32 : decode prog_5_method_1_code 32 = .ok (.iadd, 1) := by decide +kernel
theorem d5_33 : decode prog_5_method_1_code 33 = .ok (.newarray .boolean, 2) := by decide +kernel
theorem d5_35 : decode prog_5_method_1_code 35 = .ok (.putfield 20, 3) := by decide +kernel
theorem d5_38 : decode prog_5_method_1_code 38 = .ok (.return_, 1) := by decide +kernel
theorem pn_3 : plainName "com/example/queenside/queenside/Lines" = true := by first | (simp [plainName, overriddenIn]; done) | decide +kernel
theorem ef_5 (m : MethodId) (o0 : Addr) (u1 : Int32) : entryFrame m #[(.ref o0), (.int u1)] 2 = mkF m 0 #[.val (.ref o0), .val (.int u1)] [] := by first | (simp [entryFrame, mkF, argsToLocals, Value.category]; done) | rfl
def Q5 (Z : State) (o0 : Addr) (u1 : Int32) (h0 : Heap) (n0 : Nat) (v : Option Value) (h : Heap) (L : List Loc) : Prop := v = none ∧ Fr n0 L ∧ Keep h0 h [o0] ∧ ∃ ar ad au : Addr, h0.size ≤ ar ∧ h0.size ≤ ad ∧ h0.size ≤ au ∧ ar ≠ ad ∧ ar ≠ au ∧ ad ≠ au ∧ Fld Z h o0 "com/example/queenside/queenside/Lines" "size" "I" (.int u1) ∧ Fld Z h o0 "com/example/queenside/queenside/Lines" "rows" "[Z" (.ref ar) ∧ Fld Z h o0 "com/example/queenside/queenside/Lines" "downs" "[Z" (.ref ad) ∧ Fld Z h o0 "com/example/queenside/queenside/Lines" "ups" "[Z" (.ref au) ∧ own_A Z h ar .boolean (u1 + (1 : Int32)).toNatClampNeg (fun _ => 0) ∧ own_A Z h ad .boolean ((2 : Int32) * u1).toNatClampNeg (fun _ => 0) ∧ own_A Z h au .boolean (((2 : Int32) * u1) + (1 : Int32)).toNatClampNeg (fun _ => 0)
set_option maxRecDepth 65536 in
set_option maxHeartbeats 40000000 in
theorem rm5 (l : Launch) (Z : State) (a0 : Array Value) (hw : ∀ d ∈ tables_1, d.before a0 Z = true) (o0 : Addr) (u1 : Int32) (h0 : Heap) (n0 : Nat) (Z0 : n0 ≤ h0.size) (E_o0 : Exa Z h0 o0 "com/example/queenside/queenside/Lines") (F_o0_size : Fld Z h0 o0 "com/example/queenside/queenside/Lines" "size" "I" (.int (0 : Int32))) (F_o0_rows : Fld Z h0 o0 "com/example/queenside/queenside/Lines" "rows" "[Z" .null) (F_o0_downs : Fld Z h0 o0 "com/example/queenside/queenside/Lines" "downs" "[Z" .null) (F_o0_ups : Fld Z h0 o0 "com/example/queenside/queenside/Lines" "ups" "[Z" .null) (g_o0 : n0 ≤ o0) (hn : 1 ≤ u1.toInt ∧ u1.toInt ≤ 16) :
    own_C l Z (⟨"com/example/queenside/queenside/Lines", "<init>", "(I)V"⟩ : MethodName) prog_5_method_1_code 2 none ({ frames := 1, cells := 3, slots := 82, locals := 12 } : Room) #[(.ref o0), (.int u1)] h0 (Q5 Z o0 u1 h0 n0) := by
  refine own_met (plainFor_of_name pn_3) ?_
  intro p e s m below meth c s₁ hx hby hml hret hlk hown hnm hZ X0 e0
  refine own_cast (ef_5 m o0 u1) ?_
  have N0 := Fr.nil n0
  have K := Keep.refl h0 [o0]
  show own_Out p e below _ s₁ (mkF m 0 #[.val (.ref o0), .val (.int u1)] []) _ _ _
  refine own_to (fun t k => XS.aloadN X0.here hx rfl (hb hby d5_0) rfl rfl k) ?_
  show own_Out p e below _ s₁ (mkF m 1 #[.val (.ref o0), .val (.int u1)] [(.ref o0)]) _ _ _
  obtain ⟨T1, X1, e1, st1⟩ := initO X0 hx hZ hown (hw _ (List.mem_of_getElem? (i := 29) rfl)) (hw _ (List.mem_of_getElem? (i := 17) rfl)) (hw _ (List.mem_of_getElem? (i := 18) rfl)) e0 (g := (mkF m 1 #[.val (.ref o0), .val (.int u1)] [(.ref o0)])) rfl (by rw [hml]; rfl) rfl (hb hby d5_1) (by decide) (W := 0) (by show 2 * 0 + _ ≤ _; exact Nat.le_of_eq rfl) (by decide)
  refine own_to st1 ?_
  show own_Out p e below _ T1 (mkF m 4 #[.val (.ref o0), .val (.int u1)] []) _ _ _
  refine own_to (fun t k => XS.aloadN X1.here hx rfl (hb hby d5_4) rfl rfl k) ?_
  show own_Out p e below _ T1 (mkF m 5 #[.val (.ref o0), .val (.int u1)] [(.ref o0)]) _ _ _
  refine own_to (fun t k => XS.iloadN X1.here hx rfl (hb hby d5_5) rfl k) ?_
  show own_Out p e below _ T1 (mkF m 6 #[.val (.ref o0), .val (.int u1)] [(.int u1), (.ref o0)]) _ _ _
  refine own_putF X1 hx hZ hown (hw _ (List.mem_of_getElem? (i := 30) rfl)) e1 F_o0_size E_o0 (Or.inr ⟨(hw _ (List.mem_of_getElem? (i := 31) rfl)), rfl, hnm⟩) (hw _ (List.mem_of_getElem? (i := 24) rfl)) (ty := .int) (by decide) rfl rfl rfl rfl (hb hby d5_6) fun T2 hh2 X2 e2 W2 => ?_
  have E_o0 := E_o0.wr W2
  have F_o0_size := F_o0_size.same W2
  have F_o0_rows := F_o0_rows.other W2 (Or.inr (slot_ne (Or.inr (hw _ (List.mem_of_getElem? (i := 34) rfl))) (Or.inr (hw _ (List.mem_of_getElem? (i := 31) rfl))) (by decide) (t := (.array .boolean)) (t' := .int) (by decide) (by decide)))
  have F_o0_downs := F_o0_downs.other W2 (Or.inr (slot_ne (Or.inr (hw _ (List.mem_of_getElem? (i := 36) rfl))) (Or.inr (hw _ (List.mem_of_getElem? (i := 31) rfl))) (by decide) (t := (.array .boolean)) (t' := .int) (by decide) (by decide)))
  have F_o0_ups := F_o0_ups.other W2 (Or.inr (slot_ne (Or.inr (hw _ (List.mem_of_getElem? (i := 38) rfl))) (Or.inr (hw _ (List.mem_of_getElem? (i := 31) rfl))) (by decide) (t := (.array .boolean)) (t' := .int) (by decide) (by decide)))
  have K := K.wr W2 (Or.inl (by simp))
  have Z0 := Nat.le_trans Z0 (Nat.le_of_eq W2.size.symm)
  have N2 := own_fs (sl := Jvm.RoadKit.slotOf Z "com/example/queenside/queenside/Lines" "size" "I") N0 g_o0
  show own_Out p e below _ T2 (mkF m 9 #[.val (.ref o0), .val (.int u1)] []) _ _ _
  refine own_to (fun t k => XS.aloadN X2.here hx rfl (hb hby d5_9) rfl rfl k) ?_
  show own_Out p e below _ T2 (mkF m 10 #[.val (.ref o0), .val (.int u1)] [(.ref o0)]) _ _ _
  refine own_to (fun t k => XS.iloadN X2.here hx rfl (hb hby d5_10) rfl k) ?_
  show own_Out p e below _ T2 (mkF m 11 #[.val (.ref o0), .val (.int u1)] [(.int u1), (.ref o0)]) _ _ _
  refine own_to (fun t k => XS.iconst X2.here hx rfl (hb hby d5_11) k) ?_
  show own_Out p e below _ T2 (mkF m 12 #[.val (.ref o0), .val (.int u1)] [(.int (1 : Int32)), (.int u1), (.ref o0)]) _ _ _
  refine own_to (fun t k => XS.iadd X2.here hx rfl (hb hby d5_12) rfl k) ?_
  show own_Out p e below _ T2 (mkF m 13 #[.val (.ref o0), .val (.int u1)] [(.int (u1 + (1 : Int32))), (.ref o0)]) _ _ _
  refine own_newA X2 hx hZ (hw _ (List.mem_of_getElem? (i := 32) rfl)) rfl e2 rfl (hb hby d5_13) rfl (own_lt0 (by have q := own_sz u1 hn; omega)) (cap := 17) (by rw [own_nn]; have q := own_sz u1 hn; omega) (by decide) (by decide) (by decide) fun T3 hh3 ob3 gb3 X3 e3 E3 A3 => ?_
  have ne_o0_ob3 : o0 ≠ ob3 := Nat.ne_of_lt (Nat.lt_of_lt_of_le E_o0.lt (Nat.le_of_eq gb3.symm))
  have ne_ob3_o0 := Ne.symm ne_o0_ob3
  have g_ob3 : n0 ≤ ob3 := Nat.le_trans Z0 (Nat.le_of_eq gb3.symm)
  have sz_ob3 : h0.size ≤ ob3 := Nat.le_trans K.1 (Nat.le_of_eq gb3.symm)
  have E_o0 := E_o0.ext E3
  have F_o0_size := F_o0_size.ext E3
  have F_o0_rows := F_o0_rows.ext E3
  have F_o0_downs := F_o0_downs.ext E3
  have F_o0_ups := F_o0_ups.ext E3
  have K := K.ext E3
  have Z0 := Nat.le_trans Z0 E3.1
  have A_ob3 : own_A Z hh3 ob3 .boolean (u1 + (1 : Int32)).toNatClampNeg (fun _ => 0) := A3
  show own_Out p e below _ T3 (mkF m 15 #[.val (.ref o0), .val (.int u1)] [(.ref ob3), (.ref o0)]) _ _ _
  refine own_putF X3 hx hZ hown (hw _ (List.mem_of_getElem? (i := 33) rfl)) e3 F_o0_rows E_o0 (Or.inr ⟨(hw _ (List.mem_of_getElem? (i := 34) rfl)), rfl, hnm⟩) (hw _ (List.mem_of_getElem? (i := 24) rfl)) (ty := (.array .boolean)) (by decide) rfl rfl rfl rfl (hb hby d5_15) fun T4 hh4 X4 e4 W4 => ?_
  have E_o0 := E_o0.wr W4
  have F_o0_size := F_o0_size.other W4 (Or.inr (slot_ne (Or.inr (hw _ (List.mem_of_getElem? (i := 31) rfl))) (Or.inr (hw _ (List.mem_of_getElem? (i := 34) rfl))) (by decide) (t := .int) (t' := (.array .boolean)) (by decide) (by decide)))
  have F_o0_rows := F_o0_rows.same W4
  have F_o0_downs := F_o0_downs.other W4 (Or.inr (slot_ne (Or.inr (hw _ (List.mem_of_getElem? (i := 36) rfl))) (Or.inr (hw _ (List.mem_of_getElem? (i := 34) rfl))) (by decide) (t := (.array .boolean)) (t' := (.array .boolean)) (by decide) (by decide)))
  have F_o0_ups := F_o0_ups.other W4 (Or.inr (slot_ne (Or.inr (hw _ (List.mem_of_getElem? (i := 38) rfl))) (Or.inr (hw _ (List.mem_of_getElem? (i := 34) rfl))) (by decide) (t := (.array .boolean)) (t' := (.array .boolean)) (by decide) (by decide)))
  have A_ob3 := A_ob3.other W4 ne_ob3_o0
  have K := K.wr W4 (Or.inl (by simp))
  have Z0 := Nat.le_trans Z0 (Nat.le_of_eq W4.size.symm)
  have N4 := own_fs (sl := Jvm.RoadKit.slotOf Z "com/example/queenside/queenside/Lines" "rows" "[Z") N2 g_o0
  show own_Out p e below _ T4 (mkF m 18 #[.val (.ref o0), .val (.int u1)] []) _ _ _
  refine own_to (fun t k => XS.aloadN X4.here hx rfl (hb hby d5_18) rfl rfl k) ?_
  show own_Out p e below _ T4 (mkF m 19 #[.val (.ref o0), .val (.int u1)] [(.ref o0)]) _ _ _
  refine own_to (fun t k => XS.iconst X4.here hx rfl (hb hby d5_19) k) ?_
  show own_Out p e below _ T4 (mkF m 20 #[.val (.ref o0), .val (.int u1)] [(.int (2 : Int32)), (.ref o0)]) _ _ _
  refine own_to (fun t k => XS.iloadN X4.here hx rfl (hb hby d5_20) rfl k) ?_
  show own_Out p e below _ T4 (mkF m 21 #[.val (.ref o0), .val (.int u1)] [(.int u1), (.int (2 : Int32)), (.ref o0)]) _ _ _
  refine own_to (fun t k => XS.imul X4.here hx rfl (hb hby d5_21) rfl k) ?_
  show own_Out p e below _ T4 (mkF m 22 #[.val (.ref o0), .val (.int u1)] [(.int ((2 : Int32) * u1)), (.ref o0)]) _ _ _
  refine own_newA X4 hx hZ (hw _ (List.mem_of_getElem? (i := 32) rfl)) rfl e4 rfl (hb hby d5_22) rfl (own_lt0 (by have q := own_sz u1 hn; omega)) (cap := 32) (by rw [own_nn]; have q := own_sz u1 hn; omega) (by decide) (by decide) (by decide) fun T5 hh5 ob5 gb5 X5 e5 E5 A5 => ?_
  have ne_o0_ob5 : o0 ≠ ob5 := Nat.ne_of_lt (Nat.lt_of_lt_of_le E_o0.lt (Nat.le_of_eq gb5.symm))
  have ne_ob5_o0 := Ne.symm ne_o0_ob5
  have ne_ob3_ob5 : ob3 ≠ ob5 := Nat.ne_of_lt (Nat.lt_of_lt_of_le A_ob3.lt (Nat.le_of_eq gb5.symm))
  have ne_ob5_ob3 := Ne.symm ne_ob3_ob5
  have g_ob5 : n0 ≤ ob5 := Nat.le_trans Z0 (Nat.le_of_eq gb5.symm)
  have sz_ob5 : h0.size ≤ ob5 := Nat.le_trans K.1 (Nat.le_of_eq gb5.symm)
  have E_o0 := E_o0.ext E5
  have F_o0_size := F_o0_size.ext E5
  have F_o0_rows := F_o0_rows.ext E5
  have F_o0_downs := F_o0_downs.ext E5
  have F_o0_ups := F_o0_ups.ext E5
  have A_ob3 := A_ob3.ext E5
  have K := K.ext E5
  have Z0 := Nat.le_trans Z0 E5.1
  have A_ob5 : own_A Z hh5 ob5 .boolean ((2 : Int32) * u1).toNatClampNeg (fun _ => 0) := A5
  show own_Out p e below _ T5 (mkF m 24 #[.val (.ref o0), .val (.int u1)] [(.ref ob5), (.ref o0)]) _ _ _
  refine own_putF X5 hx hZ hown (hw _ (List.mem_of_getElem? (i := 35) rfl)) e5 F_o0_downs E_o0 (Or.inr ⟨(hw _ (List.mem_of_getElem? (i := 36) rfl)), rfl, hnm⟩) (hw _ (List.mem_of_getElem? (i := 24) rfl)) (ty := (.array .boolean)) (by decide) rfl rfl rfl rfl (hb hby d5_24) fun T6 hh6 X6 e6 W6 => ?_
  have E_o0 := E_o0.wr W6
  have F_o0_size := F_o0_size.other W6 (Or.inr (slot_ne (Or.inr (hw _ (List.mem_of_getElem? (i := 31) rfl))) (Or.inr (hw _ (List.mem_of_getElem? (i := 36) rfl))) (by decide) (t := .int) (t' := (.array .boolean)) (by decide) (by decide)))
  have F_o0_rows := F_o0_rows.other W6 (Or.inr (slot_ne (Or.inr (hw _ (List.mem_of_getElem? (i := 34) rfl))) (Or.inr (hw _ (List.mem_of_getElem? (i := 36) rfl))) (by decide) (t := (.array .boolean)) (t' := (.array .boolean)) (by decide) (by decide)))
  have F_o0_downs := F_o0_downs.same W6
  have F_o0_ups := F_o0_ups.other W6 (Or.inr (slot_ne (Or.inr (hw _ (List.mem_of_getElem? (i := 38) rfl))) (Or.inr (hw _ (List.mem_of_getElem? (i := 36) rfl))) (by decide) (t := (.array .boolean)) (t' := (.array .boolean)) (by decide) (by decide)))
  have A_ob3 := A_ob3.other W6 ne_ob3_o0
  have A_ob5 := A_ob5.other W6 ne_ob5_o0
  have K := K.wr W6 (Or.inl (by simp))
  have Z0 := Nat.le_trans Z0 (Nat.le_of_eq W6.size.symm)
  have N6 := own_fs (sl := Jvm.RoadKit.slotOf Z "com/example/queenside/queenside/Lines" "downs" "[Z") N4 g_o0
  show own_Out p e below _ T6 (mkF m 27 #[.val (.ref o0), .val (.int u1)] []) _ _ _
  refine own_to (fun t k => XS.aloadN X6.here hx rfl (hb hby d5_27) rfl rfl k) ?_
  show own_Out p e below _ T6 (mkF m 28 #[.val (.ref o0), .val (.int u1)] [(.ref o0)]) _ _ _
  refine own_to (fun t k => XS.iconst X6.here hx rfl (hb hby d5_28) k) ?_
  show own_Out p e below _ T6 (mkF m 29 #[.val (.ref o0), .val (.int u1)] [(.int (2 : Int32)), (.ref o0)]) _ _ _
  refine own_to (fun t k => XS.iloadN X6.here hx rfl (hb hby d5_29) rfl k) ?_
  show own_Out p e below _ T6 (mkF m 30 #[.val (.ref o0), .val (.int u1)] [(.int u1), (.int (2 : Int32)), (.ref o0)]) _ _ _
  refine own_to (fun t k => XS.imul X6.here hx rfl (hb hby d5_30) rfl k) ?_
  show own_Out p e below _ T6 (mkF m 31 #[.val (.ref o0), .val (.int u1)] [(.int ((2 : Int32) * u1)), (.ref o0)]) _ _ _
  refine own_to (fun t k => XS.iconst X6.here hx rfl (hb hby d5_31) k) ?_
  show own_Out p e below _ T6 (mkF m 32 #[.val (.ref o0), .val (.int u1)] [(.int (1 : Int32)), (.int ((2 : Int32) * u1)), (.ref o0)]) _ _ _
  refine own_to (fun t k => XS.iadd X6.here hx rfl (hb hby d5_32) rfl k) ?_
  show own_Out p e below _ T6 (mkF m 33 #[.val (.ref o0), .val (.int u1)] [(.int (((2 : Int32) * u1) + (1 : Int32))), (.ref o0)]) _ _ _
  refine own_newA X6 hx hZ (hw _ (List.mem_of_getElem? (i := 32) rfl)) rfl e6 rfl (hb hby d5_33) rfl (own_lt0 (by have q := own_sz u1 hn; omega)) (cap := 33) (by rw [own_nn]; have q := own_sz u1 hn; omega) (by decide) (by decide) (by decide) fun T7 hh7 ob7 gb7 X7 e7 E7 A7 => ?_
  have ne_o0_ob7 : o0 ≠ ob7 := Nat.ne_of_lt (Nat.lt_of_lt_of_le E_o0.lt (Nat.le_of_eq gb7.symm))
  have ne_ob7_o0 := Ne.symm ne_o0_ob7
  have ne_ob3_ob7 : ob3 ≠ ob7 := Nat.ne_of_lt (Nat.lt_of_lt_of_le A_ob3.lt (Nat.le_of_eq gb7.symm))
  have ne_ob7_ob3 := Ne.symm ne_ob3_ob7
  have ne_ob5_ob7 : ob5 ≠ ob7 := Nat.ne_of_lt (Nat.lt_of_lt_of_le A_ob5.lt (Nat.le_of_eq gb7.symm))
  have ne_ob7_ob5 := Ne.symm ne_ob5_ob7
  have g_ob7 : n0 ≤ ob7 := Nat.le_trans Z0 (Nat.le_of_eq gb7.symm)
  have sz_ob7 : h0.size ≤ ob7 := Nat.le_trans K.1 (Nat.le_of_eq gb7.symm)
  have E_o0 := E_o0.ext E7
  have F_o0_size := F_o0_size.ext E7
  have F_o0_rows := F_o0_rows.ext E7
  have F_o0_downs := F_o0_downs.ext E7
  have F_o0_ups := F_o0_ups.ext E7
  have A_ob3 := A_ob3.ext E7
  have A_ob5 := A_ob5.ext E7
  have K := K.ext E7
  have Z0 := Nat.le_trans Z0 E7.1
  have A_ob7 : own_A Z hh7 ob7 .boolean (((2 : Int32) * u1) + (1 : Int32)).toNatClampNeg (fun _ => 0) := A7
  show own_Out p e below _ T7 (mkF m 35 #[.val (.ref o0), .val (.int u1)] [(.ref ob7), (.ref o0)]) _ _ _
  refine own_putF X7 hx hZ hown (hw _ (List.mem_of_getElem? (i := 37) rfl)) e7 F_o0_ups E_o0 (Or.inr ⟨(hw _ (List.mem_of_getElem? (i := 38) rfl)), rfl, hnm⟩) (hw _ (List.mem_of_getElem? (i := 24) rfl)) (ty := (.array .boolean)) (by decide) rfl rfl rfl rfl (hb hby d5_35) fun T8 hh8 X8 e8 W8 => ?_
  have E_o0 := E_o0.wr W8
  have F_o0_size := F_o0_size.other W8 (Or.inr (slot_ne (Or.inr (hw _ (List.mem_of_getElem? (i := 31) rfl))) (Or.inr (hw _ (List.mem_of_getElem? (i := 38) rfl))) (by decide) (t := .int) (t' := (.array .boolean)) (by decide) (by decide)))
  have F_o0_rows := F_o0_rows.other W8 (Or.inr (slot_ne (Or.inr (hw _ (List.mem_of_getElem? (i := 34) rfl))) (Or.inr (hw _ (List.mem_of_getElem? (i := 38) rfl))) (by decide) (t := (.array .boolean)) (t' := (.array .boolean)) (by decide) (by decide)))
  have F_o0_downs := F_o0_downs.other W8 (Or.inr (slot_ne (Or.inr (hw _ (List.mem_of_getElem? (i := 36) rfl))) (Or.inr (hw _ (List.mem_of_getElem? (i := 38) rfl))) (by decide) (t := (.array .boolean)) (t' := (.array .boolean)) (by decide) (by decide)))
  have F_o0_ups := F_o0_ups.same W8
  have A_ob3 := A_ob3.other W8 ne_ob3_o0
  have A_ob5 := A_ob5.other W8 ne_ob5_o0
  have A_ob7 := A_ob7.other W8 ne_ob7_o0
  have K := K.wr W8 (Or.inl (by simp))
  have Z0 := Nat.le_trans Z0 (Nat.le_of_eq W8.size.symm)
  have N8 := own_fs (sl := Jvm.RoadKit.slotOf Z "com/example/queenside/queenside/Lines" "ups" "[Z") N6 g_o0
  show own_Out p e below _ T8 (mkF m 38 #[.val (.ref o0), .val (.int u1)] []) _ _ _
  refine own_ret0 X8 hx hlk hret (hb hby d5_38) (by decide) (by decide) ?_
  rw [e8]
  exact ⟨rfl, N8, K, ob3, ob5, ob7, sz_ob3, sz_ob5, sz_ob7, ne_ob3_ob5, ne_ob3_ob7, ne_ob5_ob7, F_o0_size, F_o0_rows, F_o0_downs, F_o0_ups, A_ob3, A_ob5, A_ob7⟩
theorem d6_0 : decode prog_5_method_2_code 0 = .ok (.aload_n 0, 1) := by decide +kernel
theorem d6_1 : decode prog_5_method_2_code 1 = .ok (.getfield 13, 3) := by decide +kernel
theorem d6_4 : decode prog_5_method_2_code 4 = .ok (.aload_n 1, 1) := by decide +kernel
theorem d6_5 : decode prog_5_method_2_code 5 = .ok (.invokevirtual 23, 3) := by decide +kernel
theorem d6_8 : decode prog_5_method_2_code 8 = .ok (.baload, 1) := by decide +kernel
theorem d6_9 : decode prog_5_method_2_code 9 = .ok (.ifCond .ne 36, 3) := by decide +kernel
theorem d6_12 : decode prog_5_method_2_code 12 = .ok (.aload_n 0, 1) := by decide +kernel
theorem d6_13 : decode prog_5_method_2_code 13 = .ok (.getfield 17, 3) := by decide +kernel
theorem d6_16 : decode prog_5_method_2_code 16 = .ok (.aload_n 1, 1) := by decide +kernel
theorem d6_17 : decode prog_5_method_2_code 17 = .ok (.invokevirtual 29, 3) := by decide +kernel
theorem d6_20 : decode prog_5_method_2_code 20 = .ok (.aload_n 0, 1) := by decide +kernel
theorem d6_21 : decode prog_5_method_2_code 21 = .ok (.getfield 7, 3) := by decide +kernel
theorem d6_24 : decode prog_5_method_2_code 24 = .ok (.iadd, 1) := by decide +kernel
theorem d6_25 : decode prog_5_method_2_code 25 = .ok (.baload, 1) := by decide +kernel
theorem d6_26 : decode prog_5_method_2_code 26 = .ok (.ifCond .ne 19, 3) := by decide +kernel
theorem d6_29 : decode prog_5_method_2_code 29 = .ok (.aload_n 0, 1) := by decide +kernel
theorem d6_30 : decode prog_5_method_2_code 30 = .ok (.getfield 20, 3) := by decide +kernel
theorem d6_33 : decode prog_5_method_2_code 33 = .ok (.aload_n 1, 1) := by decide +kernel
theorem d6_34 : decode prog_5_method_2_code 34 = .ok (.invokevirtual 32, 3) := by decide +kernel
theorem d6_37 : decode prog_5_method_2_code 37 = .ok (.baload, 1) := by decide +kernel
theorem d6_38 : decode prog_5_method_2_code 38 = .ok (.ifCond .ne 7, 3) := by decide +kernel
theorem d6_41 : decode prog_5_method_2_code 41 = .ok (.iconst 1, 1) := by decide +kernel
theorem d6_42 : decode prog_5_method_2_code 42 = .ok (.goto 4, 3) := by decide +kernel
theorem d6_45 : decode prog_5_method_2_code 45 = .ok (.iconst 0, 1) := by decide +kernel
theorem d6_46 : decode prog_5_method_2_code 46 = .ok (.ireturn, 1) := by decide +kernel
theorem ef_6 (m : MethodId) (o0 : Addr) (o1 : Addr) : entryFrame m #[(.ref o0), (.ref o1)] 2 = mkF m 0 #[.val (.ref o0), .val (.ref o1)] [] := by first | (simp [entryFrame, mkF, argsToLocals, Value.category]; done) | rfl
def R6 (o0 : Addr) (o1 : Addr) (f1 : Int32) (f2 : Int32) (fn : Int32) (ar : Addr) (ad : Addr) (au : Addr) (gr : Nat → Int32) (gd : Nat → Int32) (gu : Nat → Int32) : Int32 := (if (gr (f1).toNatClampNeg) = (0 : Int32) then (if (gd (((f1 - f2) + fn)).toNatClampNeg) = (0 : Int32) then (if (gu ((f1 + f2)).toNatClampNeg) = (0 : Int32) then (1 : Int32) else (0 : Int32)) else (0 : Int32)) else (0 : Int32))
def Q6 (Z : State) (o0 : Addr) (o1 : Addr) (f1 : Int32) (f2 : Int32) (fn : Int32) (ar : Addr) (ad : Addr) (au : Addr) (gr : Nat → Int32) (gd : Nat → Int32) (gu : Nat → Int32) (h0 : Heap) (n0 : Nat) (v : Option Value) (h : Heap) (L : List Loc) : Prop := v = some (.int (R6 o0 o1 f1 f2 fn ar ad au gr gd gu)) ∧ Fr n0 L ∧ h = h0
theorem pd_1 : parseMethodDescriptor "()I" = some ⟨[], some .int⟩ := by decide +kernel
set_option maxRecDepth 65536 in
set_option maxHeartbeats 40000000 in
theorem rm6 (l : Launch) (Z : State) (a0 : Array Value) (hw : ∀ d ∈ tables_1, d.before a0 Z = true) (o0 : Addr) (o1 : Addr) (f1 : Int32) (f2 : Int32) (fn : Int32) (ar : Addr) (ad : Addr) (au : Addr) (gr : Nat → Int32) (gd : Nat → Int32) (gu : Nat → Int32) (h0 : Heap) (n0 : Nat) (Z0 : n0 ≤ h0.size) (E_o0 : Exa Z h0 o0 "com/example/queenside/queenside/Lines") (E_o1 : Exa Z h0 o1 "com/example/queenside/queenside/Square") (F_o1_row : Fld Z h0 o1 "com/example/queenside/queenside/Square" "row" "I" (.int f1)) (F_o1_column : Fld Z h0 o1 "com/example/queenside/queenside/Square" "column" "I" (.int f2)) (F_o0_size : Fld Z h0 o0 "com/example/queenside/queenside/Lines" "size" "I" (.int fn)) (F_o0_rows : Fld Z h0 o0 "com/example/queenside/queenside/Lines" "rows" "[Z" (.ref ar)) (F_o0_downs : Fld Z h0 o0 "com/example/queenside/queenside/Lines" "downs" "[Z" (.ref ad)) (F_o0_ups : Fld Z h0 o0 "com/example/queenside/queenside/Lines" "ups" "[Z" (.ref au)) (A_ar : own_A Z h0 ar .boolean (fn + (1 : Int32)).toNatClampNeg gr) (A_ad : own_A Z h0 ad .boolean ((2 : Int32) * fn).toNatClampNeg gd) (A_au : own_A Z h0 au .boolean (((2 : Int32) * fn) + (1 : Int32)).toNatClampNeg gu) (hn : 1 ≤ fn.toInt ∧ fn.toInt ≤ 16) (h1 : 1 ≤ f1.toInt ∧ f1.toInt ≤ fn.toInt) (h2 : 1 ≤ f2.toInt ∧ f2.toInt ≤ fn.toInt) :
    own_C l Z (⟨"com/example/queenside/queenside/Lines", "free", "(Lcom/example/queenside/queenside/Square;)Z"⟩ : MethodName) prog_5_method_2_code 2 (some .boolean) ({ frames := 1, cells := 0, slots := 0, locals := 13 } : Room) #[(.ref o0), (.ref o1)] h0 (Q6 Z o0 o1 f1 f2 fn ar ad au gr gd gu h0 n0) := by
  refine own_met (plainFor_of_name pn_3) ?_
  intro p e s m below meth c s₁ hx hby hml hret hlk hown hnm hZ X0 e0
  refine own_cast (ef_6 m o0 o1) ?_
  have N0 := Fr.nil n0
  show own_Out p e below _ s₁ (mkF m 0 #[.val (.ref o0), .val (.ref o1)] []) _ _ _
  refine own_to (fun t k => XS.aloadN X0.here hx rfl (hb hby d6_0) rfl rfl k) ?_
  show own_Out p e below _ s₁ (mkF m 1 #[.val (.ref o0), .val (.ref o1)] [(.ref o0)]) _ _ _
  refine own_getF X0 hx hZ hown (hw _ (List.mem_of_getElem? (i := 33) rfl)) e0 F_o0_rows rfl rfl (hb hby d6_1) fun T1 X1 e1 => ?_
  show own_Out p e below _ T1 (mkF m 4 #[.val (.ref o0), .val (.ref o1)] [(.ref ar)]) _ _ _
  refine own_to (fun t k => XS.aloadN X1.here hx rfl (hb hby d6_4) rfl rfl k) ?_
  show own_Out p e below _ T1 (mkF m 5 #[.val (.ref o0), .val (.ref o1)] [(.ref o1), (.ref ar)]) _ _ _
  refine own_callV X1 hx hZ hown (a := o1) (argsL := []) (rest := [(.ref ar)]) (hw _ (List.mem_of_getElem? (i := 44) rfl)) (hw _ (List.mem_of_getElem? (i := 45) rfl)) (hw _ (List.mem_of_getElem? (i := 47) rfl)) (hw _ (List.mem_of_getElem? (i := 46) rfl)) (hw _ (List.mem_of_getElem? (i := 7) rfl)) (hw _ (List.mem_of_getElem? (i := 48) rfl)) (by decide) (rm7 l Z a0 hw o1 f1 h0 n0 Z0 F_o1_row) (by decide) (by decide) e1 E_o1 rfl (by rw [hml]; rfl) (lenOf pd_1 rfl) rfl (W := 1) (by show 2 * 0 + _ ≤ _; exact Nat.le_of_eq rfl) (hb hby d6_5) (by decide) (by decide) fun v2 T2 hh2 L2 X2 e2 hQ2 => ?_
  obtain ⟨rfl, NL2, he2⟩ := hQ2
  replace e2 := e2.trans he2
  have N2 := Fr.app N0 NL2
  show own_Out p e below _ T2 (mkF m 8 #[.val (.ref o0), .val (.ref o1)] [(.int f1), (.ref ar)]) _ _ _
  refine own_ldZ X2 hx hZ e2 A_ar (own_lt0 (by have q := own_ix fn f1 f2 hn h1 h2; omega)) (by rw [own_nn, own_nn]; have q := own_ix fn f1 f2 hn h1 h2; have q' := own_sz fn hn; omega) rfl rfl (hb hby d6_8) fun w3 hw3 => ?_
  subst hw3
  show own_Out p e below _ T2 (mkF m 9 #[.val (.ref o0), .val (.ref o1)] [(.int (gr (f1).toNatClampNeg))]) _ _ _
  by_cases hc9 : (gr (f1).toNatClampNeg) = (0 : Int32)
  · refine own_to (fun t k => XS.ifNo X2.here hx rfl (hb hby d6_9) rfl ((if0 _ _).trans (teq hc9).2) k) ?_
    show own_Out p e below _ T2 (mkF m 12 #[.val (.ref o0), .val (.ref o1)] []) _ _ _
    refine own_to (fun t k => XS.aloadN X2.here hx rfl (hb hby d6_12) rfl rfl k) ?_
    show own_Out p e below _ T2 (mkF m 13 #[.val (.ref o0), .val (.ref o1)] [(.ref o0)]) _ _ _
    refine own_getF X2 hx hZ hown (hw _ (List.mem_of_getElem? (i := 35) rfl)) e2 F_o0_downs rfl rfl (hb hby d6_13) fun T4 X4 e4 => ?_
    show own_Out p e below _ T4 (mkF m 16 #[.val (.ref o0), .val (.ref o1)] [(.ref ad)]) _ _ _
    refine own_to (fun t k => XS.aloadN X4.here hx rfl (hb hby d6_16) rfl rfl k) ?_
    show own_Out p e below _ T4 (mkF m 17 #[.val (.ref o0), .val (.ref o1)] [(.ref o1), (.ref ad)]) _ _ _
    refine own_callV X4 hx hZ hown (a := o1) (argsL := []) (rest := [(.ref ad)]) (hw _ (List.mem_of_getElem? (i := 49) rfl)) (hw _ (List.mem_of_getElem? (i := 50) rfl)) (hw _ (List.mem_of_getElem? (i := 52) rfl)) (hw _ (List.mem_of_getElem? (i := 51) rfl)) (hw _ (List.mem_of_getElem? (i := 7) rfl)) (hw _ (List.mem_of_getElem? (i := 53) rfl)) (by decide) (rm8 l Z a0 hw o1 f1 f2 h0 n0 Z0 F_o1_row F_o1_column) (by decide) (by decide) e4 E_o1 rfl (by rw [hml]; rfl) (lenOf pd_1 rfl) rfl (W := 1) (by show 2 * 0 + _ ≤ _; exact Nat.le_of_eq rfl) (hb hby d6_17) (by decide) (by decide) fun v5 T5 hh5 L5 X5 e5 hQ5 => ?_
    obtain ⟨rfl, NL5, he5⟩ := hQ5
    replace e5 := e5.trans he5
    have N5 := Fr.app N2 NL5
    show own_Out p e below _ T5 (mkF m 20 #[.val (.ref o0), .val (.ref o1)] [(.int (f1 - f2)), (.ref ad)]) _ _ _
    refine own_to (fun t k => XS.aloadN X5.here hx rfl (hb hby d6_20) rfl rfl k) ?_
    show own_Out p e below _ T5 (mkF m 21 #[.val (.ref o0), .val (.ref o1)] [(.ref o0), (.int (f1 - f2)), (.ref ad)]) _ _ _
    refine own_getF X5 hx hZ hown (hw _ (List.mem_of_getElem? (i := 30) rfl)) e5 F_o0_size rfl rfl (hb hby d6_21) fun T6 X6 e6 => ?_
    show own_Out p e below _ T6 (mkF m 24 #[.val (.ref o0), .val (.ref o1)] [(.int fn), (.int (f1 - f2)), (.ref ad)]) _ _ _
    refine own_to (fun t k => XS.iadd X6.here hx rfl (hb hby d6_24) rfl k) ?_
    show own_Out p e below _ T6 (mkF m 25 #[.val (.ref o0), .val (.ref o1)] [(.int ((f1 - f2) + fn)), (.ref ad)]) _ _ _
    refine own_ldZ X6 hx hZ e6 A_ad (own_lt0 (by have q := own_ix fn f1 f2 hn h1 h2; omega)) (by rw [own_nn, own_nn]; have q := own_ix fn f1 f2 hn h1 h2; have q' := own_sz fn hn; omega) rfl rfl (hb hby d6_25) fun w7 hw7 => ?_
    subst hw7
    show own_Out p e below _ T6 (mkF m 26 #[.val (.ref o0), .val (.ref o1)] [(.int (gd (((f1 - f2) + fn)).toNatClampNeg))]) _ _ _
    by_cases hc26 : (gd (((f1 - f2) + fn)).toNatClampNeg) = (0 : Int32)
    · refine own_to (fun t k => XS.ifNo X6.here hx rfl (hb hby d6_26) rfl ((if0 _ _).trans (teq hc26).2) k) ?_
      show own_Out p e below _ T6 (mkF m 29 #[.val (.ref o0), .val (.ref o1)] []) _ _ _
      refine own_to (fun t k => XS.aloadN X6.here hx rfl (hb hby d6_29) rfl rfl k) ?_
      show own_Out p e below _ T6 (mkF m 30 #[.val (.ref o0), .val (.ref o1)] [(.ref o0)]) _ _ _
      refine own_getF X6 hx hZ hown (hw _ (List.mem_of_getElem? (i := 37) rfl)) e6 F_o0_ups rfl rfl (hb hby d6_30) fun T8 X8 e8 => ?_
      show own_Out p e below _ T8 (mkF m 33 #[.val (.ref o0), .val (.ref o1)] [(.ref au)]) _ _ _
      refine own_to (fun t k => XS.aloadN X8.here hx rfl (hb hby d6_33) rfl rfl k) ?_
      show own_Out p e below _ T8 (mkF m 34 #[.val (.ref o0), .val (.ref o1)] [(.ref o1), (.ref au)]) _ _ _
      refine own_callV X8 hx hZ hown (a := o1) (argsL := []) (rest := [(.ref au)]) (hw _ (List.mem_of_getElem? (i := 54) rfl)) (hw _ (List.mem_of_getElem? (i := 55) rfl)) (hw _ (List.mem_of_getElem? (i := 57) rfl)) (hw _ (List.mem_of_getElem? (i := 56) rfl)) (hw _ (List.mem_of_getElem? (i := 7) rfl)) (hw _ (List.mem_of_getElem? (i := 58) rfl)) (by decide) (rm9 l Z a0 hw o1 f1 f2 h0 n0 Z0 F_o1_row F_o1_column) (by decide) (by decide) e8 E_o1 rfl (by rw [hml]; rfl) (lenOf pd_1 rfl) rfl (W := 1) (by show 2 * 0 + _ ≤ _; exact Nat.le_of_eq rfl) (hb hby d6_34) (by decide) (by decide) fun v9 T9 hh9 L9 X9 e9 hQ9 => ?_
      obtain ⟨rfl, NL9, he9⟩ := hQ9
      replace e9 := e9.trans he9
      have N9 := Fr.app N5 NL9
      show own_Out p e below _ T9 (mkF m 37 #[.val (.ref o0), .val (.ref o1)] [(.int (f1 + f2)), (.ref au)]) _ _ _
      refine own_ldZ X9 hx hZ e9 A_au (own_lt0 (by have q := own_ix fn f1 f2 hn h1 h2; omega)) (by rw [own_nn, own_nn]; have q := own_ix fn f1 f2 hn h1 h2; have q' := own_sz fn hn; omega) rfl rfl (hb hby d6_37) fun w10 hw10 => ?_
      subst hw10
      show own_Out p e below _ T9 (mkF m 38 #[.val (.ref o0), .val (.ref o1)] [(.int (gu ((f1 + f2)).toNatClampNeg))]) _ _ _
      by_cases hc38 : (gu ((f1 + f2)).toNatClampNeg) = (0 : Int32)
      · refine own_to (fun t k => XS.ifNo X9.here hx rfl (hb hby d6_38) rfl ((if0 _ _).trans (teq hc38).2) k) ?_
        show own_Out p e below _ T9 (mkF m 41 #[.val (.ref o0), .val (.ref o1)] []) _ _ _
        refine own_to (fun t k => XS.iconst X9.here hx rfl (hb hby d6_41) k) ?_
        show own_Out p e below _ T9 (mkF m 42 #[.val (.ref o0), .val (.ref o1)] [(.int (1 : Int32))]) _ _ _
        refine own_to (fun t k => XS.goto X9.here hx rfl (pc0 := 42) (pc' := 46) rfl (hb hby d6_42) (by decide) (by decide) k) ?_
        show own_Out p e below _ T9 (mkF m 46 #[.val (.ref o0), .val (.ref o1)] [(.int (1 : Int32))]) _ _ _
        refine own_retV X9 hx hlk (w := .int (1 : Int32)) hret rfl (Or.inl ⟨rfl, by simp, _, rfl⟩) (hb hby d6_46) (by decide) (by decide) ?_
        rw [e9]
        exact ⟨(by unfold R6; rw [if_pos hc9, if_pos hc26, if_pos hc38]), N9, rfl⟩
      · refine own_to (fun t k => XS.ifYes X9.here hx rfl (pc0 := 38) (pc' := 45) rfl (hb hby d6_38) rfl ((if0 _ _).trans (feq hc38).2) (by decide) (by decide) k) ?_
        show own_Out p e below _ T9 (mkF m 45 #[.val (.ref o0), .val (.ref o1)] []) _ _ _
        refine own_to (fun t k => XS.iconst X9.here hx rfl (hb hby d6_45) k) ?_
        show own_Out p e below _ T9 (mkF m 46 #[.val (.ref o0), .val (.ref o1)] [(.int (0 : Int32))]) _ _ _
        refine own_retV X9 hx hlk (w := .int (0 : Int32)) hret rfl (Or.inl ⟨rfl, by simp, _, rfl⟩) (hb hby d6_46) (by decide) (by decide) ?_
        rw [e9]
        exact ⟨(by unfold R6; rw [if_pos hc9, if_pos hc26, if_neg hc38]), N9, rfl⟩
    · refine own_to (fun t k => XS.ifYes X6.here hx rfl (pc0 := 26) (pc' := 45) rfl (hb hby d6_26) rfl ((if0 _ _).trans (feq hc26).2) (by decide) (by decide) k) ?_
      show own_Out p e below _ T6 (mkF m 45 #[.val (.ref o0), .val (.ref o1)] []) _ _ _
      refine own_to (fun t k => XS.iconst X6.here hx rfl (hb hby d6_45) k) ?_
      show own_Out p e below _ T6 (mkF m 46 #[.val (.ref o0), .val (.ref o1)] [(.int (0 : Int32))]) _ _ _
      refine own_retV X6 hx hlk (w := .int (0 : Int32)) hret rfl (Or.inl ⟨rfl, by simp, _, rfl⟩) (hb hby d6_46) (by decide) (by decide) ?_
      rw [e6]
      exact ⟨(by unfold R6; rw [if_pos hc9, if_neg hc26]), N5, rfl⟩
  · refine own_to (fun t k => XS.ifYes X2.here hx rfl (pc0 := 9) (pc' := 45) rfl (hb hby d6_9) rfl ((if0 _ _).trans (feq hc9).2) (by decide) (by decide) k) ?_
    show own_Out p e below _ T2 (mkF m 45 #[.val (.ref o0), .val (.ref o1)] []) _ _ _
    refine own_to (fun t k => XS.iconst X2.here hx rfl (hb hby d6_45) k) ?_
    show own_Out p e below _ T2 (mkF m 46 #[.val (.ref o0), .val (.ref o1)] [(.int (0 : Int32))]) _ _ _
    refine own_retV X2 hx hlk (w := .int (0 : Int32)) hret rfl (Or.inl ⟨rfl, by simp, _, rfl⟩) (hb hby d6_46) (by decide) (by decide) ?_
    rw [e2]
    exact ⟨(by unfold R6; rw [if_neg hc9]), N2, rfl⟩
theorem d11_0 : decode prog_5_method_5_code 0 = .ok (.aload_n 0, 1) := by decide +kernel
theorem d11_1 : decode prog_5_method_5_code 1 = .ok (.getfield 13, 3) := by decide +kernel
theorem d11_4 : decode prog_5_method_5_code 4 = .ok (.aload_n 1, 1) := by decide +kernel
theorem d11_5 : decode prog_5_method_5_code 5 = .ok (.invokevirtual 23, 3) := by decide +kernel
theorem d11_8 : decode prog_5_method_5_code 8 = .ok (.iload_n 2, 1) := by decide +kernel
theorem d11_9 : decode prog_5_method_5_code 9 = .ok (.bastore, 1) := by decide +kernel
theorem d11_10 : decode prog_5_method_5_code 10 = .ok (.aload_n 0, 1) := by decide +kernel
theorem d11_11 : decode prog_5_method_5_code 11 = .ok (.getfield 17, 3) := by decide +kernel
theorem d11_14 : decode prog_5_method_5_code 14 = .ok (.aload_n 1, 1) := by decide +kernel
theorem d11_15 : decode prog_5_method_5_code 15 = .ok (.invokevirtual 29, 3) := by decide +kernel
theorem d11_18 : decode prog_5_method_5_code 18 = .ok (.aload_n 0, 1) := by decide +kernel
theorem d11_19 : decode prog_5_method_5_code 19 = .ok (.getfield 7, 3) := by decide +kernel
theorem d11_22 : decode prog_5_method_5_code 22 = .ok (.iadd, 1) := by decide +kernel
theorem d11_23 : decode prog_5_method_5_code 23 = .ok (.iload_n 2, 1) := by decide +kernel
theorem d11_24 : decode prog_5_method_5_code 24 = .ok (.bastore, 1) := by decide +kernel
theorem d11_25 : decode prog_5_method_5_code 25 = .ok (.aload_n 0, 1) := by decide +kernel
theorem d11_26 : decode prog_5_method_5_code 26 = .ok (.getfield 20, 3) := by decide +kernel
theorem d11_29 : decode prog_5_method_5_code 29 = .ok (.aload_n 1, 1) := by decide +kernel
theorem d11_30 : decode prog_5_method_5_code 30 = .ok (.invokevirtual 32, 3) := by decide +kernel
theorem d11_33 : decode prog_5_method_5_code 33 = .ok (.iload_n 2, 1) := by decide +kernel
theorem d11_34 : decode prog_5_method_5_code 34 = .ok (.bastore, 1) := by decide +kernel
theorem d11_35 : decode prog_5_method_5_code 35 = .ok (.return_, 1) := by decide +kernel
theorem ef_11 (m : MethodId) (o0 : Addr) (o1 : Addr) (u2 : Int32) : entryFrame m #[(.ref o0), (.ref o1), (.int u2)] 3 = mkF m 0 #[.val (.ref o0), .val (.ref o1), .val (.int u2)] [] := by first | (simp [entryFrame, mkF, argsToLocals, Value.category]; done) | rfl
def Q11 (Z : State) (o0 : Addr) (o1 : Addr) (u2 : Int32) (f1 : Int32) (f2 : Int32) (fn : Int32) (ar : Addr) (ad : Addr) (au : Addr) (gr : Nat → Int32) (gd : Nat → Int32) (gu : Nat → Int32) (h0 : Heap) (n0 : Nat) (v : Option Value) (h : Heap) (L : List Loc) : Prop := v = none ∧ Fr n0 L ∧ Keep h0 h [ar, ad, au] ∧ own_A Z h ar .boolean (fn + (1 : Int32)).toNatClampNeg (own_upd gr (f1.toNatClampNeg) (nar .boolean u2)) ∧ own_A Z h ad .boolean ((2 : Int32) * fn).toNatClampNeg (own_upd gd (((f1 - f2) + fn).toNatClampNeg) (nar .boolean u2)) ∧ own_A Z h au .boolean (((2 : Int32) * fn) + (1 : Int32)).toNatClampNeg (own_upd gu ((f1 + f2).toNatClampNeg) (nar .boolean u2))
set_option maxRecDepth 65536 in
set_option maxHeartbeats 40000000 in
theorem rm11 (l : Launch) (Z : State) (a0 : Array Value) (hw : ∀ d ∈ tables_1, d.before a0 Z = true) (o0 : Addr) (o1 : Addr) (u2 : Int32) (f1 : Int32) (f2 : Int32) (fn : Int32) (ar : Addr) (ad : Addr) (au : Addr) (gr : Nat → Int32) (gd : Nat → Int32) (gu : Nat → Int32) (h0 : Heap) (n0 : Nat) (Z0 : n0 ≤ h0.size) (E_o0 : Exa Z h0 o0 "com/example/queenside/queenside/Lines") (E_o1 : Exa Z h0 o1 "com/example/queenside/queenside/Square") (F_o1_row : Fld Z h0 o1 "com/example/queenside/queenside/Square" "row" "I" (.int f1)) (F_o1_column : Fld Z h0 o1 "com/example/queenside/queenside/Square" "column" "I" (.int f2)) (F_o0_size : Fld Z h0 o0 "com/example/queenside/queenside/Lines" "size" "I" (.int fn)) (F_o0_rows : Fld Z h0 o0 "com/example/queenside/queenside/Lines" "rows" "[Z" (.ref ar)) (F_o0_downs : Fld Z h0 o0 "com/example/queenside/queenside/Lines" "downs" "[Z" (.ref ad)) (F_o0_ups : Fld Z h0 o0 "com/example/queenside/queenside/Lines" "ups" "[Z" (.ref au)) (A_ar : own_A Z h0 ar .boolean (fn + (1 : Int32)).toNatClampNeg gr) (A_ad : own_A Z h0 ad .boolean ((2 : Int32) * fn).toNatClampNeg gd) (A_au : own_A Z h0 au .boolean (((2 : Int32) * fn) + (1 : Int32)).toNatClampNeg gu) (hn : 1 ≤ fn.toInt ∧ fn.toInt ≤ 16) (h1 : 1 ≤ f1.toInt ∧ f1.toInt ≤ fn.toInt) (h2 : 1 ≤ f2.toInt ∧ f2.toInt ≤ fn.toInt) (ne_ar_ad : ar ≠ ad) (ne_ar_au : ar ≠ au) (ne_ad_au : ad ≠ au) (ne_o0_ar : o0 ≠ ar) (ne_o0_ad : o0 ≠ ad) (ne_o0_au : o0 ≠ au) (ne_o1_ar : o1 ≠ ar) (ne_o1_ad : o1 ≠ ad) (ne_o1_au : o1 ≠ au) (g_ar : n0 ≤ ar) (g_ad : n0 ≤ ad) (g_au : n0 ≤ au) :
    own_C l Z (⟨"com/example/queenside/queenside/Lines", "mark", "(Lcom/example/queenside/queenside/Square;Z)V"⟩ : MethodName) prog_5_method_5_code 3 none ({ frames := 1, cells := 0, slots := 0, locals := 13 } : Room) #[(.ref o0), (.ref o1), (.int u2)] h0 (Q11 Z o0 o1 u2 f1 f2 fn ar ad au gr gd gu h0 n0) := by
  refine own_met (plainFor_of_name pn_3) ?_
  intro p e s m below meth c s₁ hx hby hml hret hlk hown hnm hZ X0 e0
  refine own_cast (ef_11 m o0 o1 u2) ?_
  have N0 := Fr.nil n0
  have ne_au_ad := Ne.symm ne_ad_au
  have ne_ad_ar := Ne.symm ne_ar_ad
  have ne_au_ar := Ne.symm ne_ar_au
  have ne_ad_o0 := Ne.symm ne_o0_ad
  have ne_ar_o0 := Ne.symm ne_o0_ar
  have ne_au_o0 := Ne.symm ne_o0_au
  have ne_ad_o1 := Ne.symm ne_o1_ad
  have ne_ar_o1 := Ne.symm ne_o1_ar
  have ne_au_o1 := Ne.symm ne_o1_au
  have K := Keep.refl h0 [ar, ad, au]
  show own_Out p e below _ s₁ (mkF m 0 #[.val (.ref o0), .val (.ref o1), .val (.int u2)] []) _ _ _
  refine own_to (fun t k => XS.aloadN X0.here hx rfl (hb hby d11_0) rfl rfl k) ?_
  show own_Out p e below _ s₁ (mkF m 1 #[.val (.ref o0), .val (.ref o1), .val (.int u2)] [(.ref o0)]) _ _ _
  refine own_getF X0 hx hZ hown (hw _ (List.mem_of_getElem? (i := 33) rfl)) e0 F_o0_rows rfl rfl (hb hby d11_1) fun T1 X1 e1 => ?_
  show own_Out p e below _ T1 (mkF m 4 #[.val (.ref o0), .val (.ref o1), .val (.int u2)] [(.ref ar)]) _ _ _
  refine own_to (fun t k => XS.aloadN X1.here hx rfl (hb hby d11_4) rfl rfl k) ?_
  show own_Out p e below _ T1 (mkF m 5 #[.val (.ref o0), .val (.ref o1), .val (.int u2)] [(.ref o1), (.ref ar)]) _ _ _
  refine own_callV X1 hx hZ hown (a := o1) (argsL := []) (rest := [(.ref ar)]) (hw _ (List.mem_of_getElem? (i := 44) rfl)) (hw _ (List.mem_of_getElem? (i := 45) rfl)) (hw _ (List.mem_of_getElem? (i := 47) rfl)) (hw _ (List.mem_of_getElem? (i := 46) rfl)) (hw _ (List.mem_of_getElem? (i := 7) rfl)) (hw _ (List.mem_of_getElem? (i := 48) rfl)) (by decide) (rm7 l Z a0 hw o1 f1 h0 n0 Z0 F_o1_row) (by decide) (by decide) e1 E_o1 rfl (by rw [hml]; rfl) (lenOf pd_1 rfl) rfl (W := 1) (by show 2 * 0 + _ ≤ _; exact Nat.le_of_eq rfl) (hb hby d11_5) (by decide) (by decide) fun v2 T2 hh2 L2 X2 e2 hQ2 => ?_
  obtain ⟨rfl, NL2, he2⟩ := hQ2
  replace e2 := e2.trans he2
  have N2 := Fr.app N0 NL2
  show own_Out p e below _ T2 (mkF m 8 #[.val (.ref o0), .val (.ref o1), .val (.int u2)] [(.int f1), (.ref ar)]) _ _ _
  refine own_to (fun t k => XS.iloadN X2.here hx rfl (hb hby d11_8) rfl k) ?_
  show own_Out p e below _ T2 (mkF m 9 #[.val (.ref o0), .val (.ref o1), .val (.int u2)] [(.int u2), (.int f1), (.ref ar)]) _ _ _
  refine own_stZ X2 hx hZ e2 A_ar (own_lt0 (by have q := own_ix fn f1 f2 hn h1 h2; omega)) (by rw [own_nn, own_nn]; have q := own_ix fn f1 f2 hn h1 h2; have q' := own_sz fn hn; omega) rfl rfl (hb hby d11_9) fun T3 hh3 X3 e3 W3 A3 => ?_
  have E_o0 := E_o0.wr W3
  have E_o1 := E_o1.wr W3
  have F_o1_row := F_o1_row.other W3 (Or.inl ne_o1_ar)
  have F_o1_column := F_o1_column.other W3 (Or.inl ne_o1_ar)
  have F_o0_size := F_o0_size.other W3 (Or.inl ne_o0_ar)
  have F_o0_rows := F_o0_rows.other W3 (Or.inl ne_o0_ar)
  have F_o0_downs := F_o0_downs.other W3 (Or.inl ne_o0_ar)
  have F_o0_ups := F_o0_ups.other W3 (Or.inl ne_o0_ar)
  have A_ar := A3
  have A_ad := A_ad.other W3 ne_ad_ar
  have A_au := A_au.other W3 ne_au_ar
  have K := K.wr W3 (Or.inl (by simp))
  have Z0 := Nat.le_trans Z0 (Nat.le_of_eq W3.size.symm)
  have N3 := own_fs (sl := Int32.toNatClampNeg f1) N2 g_ar
  show own_Out p e below _ T3 (mkF m 10 #[.val (.ref o0), .val (.ref o1), .val (.int u2)] []) _ _ _
  refine own_to (fun t k => XS.aloadN X3.here hx rfl (hb hby d11_10) rfl rfl k) ?_
  show own_Out p e below _ T3 (mkF m 11 #[.val (.ref o0), .val (.ref o1), .val (.int u2)] [(.ref o0)]) _ _ _
  refine own_getF X3 hx hZ hown (hw _ (List.mem_of_getElem? (i := 35) rfl)) e3 F_o0_downs rfl rfl (hb hby d11_11) fun T4 X4 e4 => ?_
  show own_Out p e below _ T4 (mkF m 14 #[.val (.ref o0), .val (.ref o1), .val (.int u2)] [(.ref ad)]) _ _ _
  refine own_to (fun t k => XS.aloadN X4.here hx rfl (hb hby d11_14) rfl rfl k) ?_
  show own_Out p e below _ T4 (mkF m 15 #[.val (.ref o0), .val (.ref o1), .val (.int u2)] [(.ref o1), (.ref ad)]) _ _ _
  refine own_callV X4 hx hZ hown (a := o1) (argsL := []) (rest := [(.ref ad)]) (hw _ (List.mem_of_getElem? (i := 49) rfl)) (hw _ (List.mem_of_getElem? (i := 50) rfl)) (hw _ (List.mem_of_getElem? (i := 52) rfl)) (hw _ (List.mem_of_getElem? (i := 51) rfl)) (hw _ (List.mem_of_getElem? (i := 7) rfl)) (hw _ (List.mem_of_getElem? (i := 53) rfl)) (by decide) (rm8 l Z a0 hw o1 f1 f2 hh3 n0 Z0 F_o1_row F_o1_column) (by decide) (by decide) e4 E_o1 rfl (by rw [hml]; rfl) (lenOf pd_1 rfl) rfl (W := 1) (by show 2 * 0 + _ ≤ _; exact Nat.le_of_eq rfl) (hb hby d11_15) (by decide) (by decide) fun v5 T5 hh5 L5 X5 e5 hQ5 => ?_
  obtain ⟨rfl, NL5, he5⟩ := hQ5
  replace e5 := e5.trans he5
  have N5 := Fr.app N3 NL5
  show own_Out p e below _ T5 (mkF m 18 #[.val (.ref o0), .val (.ref o1), .val (.int u2)] [(.int (f1 - f2)), (.ref ad)]) _ _ _
  refine own_to (fun t k => XS.aloadN X5.here hx rfl (hb hby d11_18) rfl rfl k) ?_
  show own_Out p e below _ T5 (mkF m 19 #[.val (.ref o0), .val (.ref o1), .val (.int u2)] [(.ref o0), (.int (f1 - f2)), (.ref ad)]) _ _ _
  refine own_getF X5 hx hZ hown (hw _ (List.mem_of_getElem? (i := 30) rfl)) e5 F_o0_size rfl rfl (hb hby d11_19) fun T6 X6 e6 => ?_
  show own_Out p e below _ T6 (mkF m 22 #[.val (.ref o0), .val (.ref o1), .val (.int u2)] [(.int fn), (.int (f1 - f2)), (.ref ad)]) _ _ _
  refine own_to (fun t k => XS.iadd X6.here hx rfl (hb hby d11_22) rfl k) ?_
  show own_Out p e below _ T6 (mkF m 23 #[.val (.ref o0), .val (.ref o1), .val (.int u2)] [(.int ((f1 - f2) + fn)), (.ref ad)]) _ _ _
  refine own_to (fun t k => XS.iloadN X6.here hx rfl (hb hby d11_23) rfl k) ?_
  show own_Out p e below _ T6 (mkF m 24 #[.val (.ref o0), .val (.ref o1), .val (.int u2)] [(.int u2), (.int ((f1 - f2) + fn)), (.ref ad)]) _ _ _
  refine own_stZ X6 hx hZ e6 A_ad (own_lt0 (by have q := own_ix fn f1 f2 hn h1 h2; omega)) (by rw [own_nn, own_nn]; have q := own_ix fn f1 f2 hn h1 h2; have q' := own_sz fn hn; omega) rfl rfl (hb hby d11_24) fun T7 hh7 X7 e7 W7 A7 => ?_
  have E_o0 := E_o0.wr W7
  have E_o1 := E_o1.wr W7
  have F_o1_row := F_o1_row.other W7 (Or.inl ne_o1_ad)
  have F_o1_column := F_o1_column.other W7 (Or.inl ne_o1_ad)
  have F_o0_size := F_o0_size.other W7 (Or.inl ne_o0_ad)
  have F_o0_rows := F_o0_rows.other W7 (Or.inl ne_o0_ad)
  have F_o0_downs := F_o0_downs.other W7 (Or.inl ne_o0_ad)
  have F_o0_ups := F_o0_ups.other W7 (Or.inl ne_o0_ad)
  have A_ar := A_ar.other W7 ne_ar_ad
  have A_ad := A7
  have A_au := A_au.other W7 ne_au_ad
  have K := K.wr W7 (Or.inl (by simp))
  have Z0 := Nat.le_trans Z0 (Nat.le_of_eq W7.size.symm)
  have N7 := own_fs (sl := Int32.toNatClampNeg ((f1 - f2) + fn)) N5 g_ad
  show own_Out p e below _ T7 (mkF m 25 #[.val (.ref o0), .val (.ref o1), .val (.int u2)] []) _ _ _
  refine own_to (fun t k => XS.aloadN X7.here hx rfl (hb hby d11_25) rfl rfl k) ?_
  show own_Out p e below _ T7 (mkF m 26 #[.val (.ref o0), .val (.ref o1), .val (.int u2)] [(.ref o0)]) _ _ _
  refine own_getF X7 hx hZ hown (hw _ (List.mem_of_getElem? (i := 37) rfl)) e7 F_o0_ups rfl rfl (hb hby d11_26) fun T8 X8 e8 => ?_
  show own_Out p e below _ T8 (mkF m 29 #[.val (.ref o0), .val (.ref o1), .val (.int u2)] [(.ref au)]) _ _ _
  refine own_to (fun t k => XS.aloadN X8.here hx rfl (hb hby d11_29) rfl rfl k) ?_
  show own_Out p e below _ T8 (mkF m 30 #[.val (.ref o0), .val (.ref o1), .val (.int u2)] [(.ref o1), (.ref au)]) _ _ _
  refine own_callV X8 hx hZ hown (a := o1) (argsL := []) (rest := [(.ref au)]) (hw _ (List.mem_of_getElem? (i := 54) rfl)) (hw _ (List.mem_of_getElem? (i := 55) rfl)) (hw _ (List.mem_of_getElem? (i := 57) rfl)) (hw _ (List.mem_of_getElem? (i := 56) rfl)) (hw _ (List.mem_of_getElem? (i := 7) rfl)) (hw _ (List.mem_of_getElem? (i := 58) rfl)) (by decide) (rm9 l Z a0 hw o1 f1 f2 hh7 n0 Z0 F_o1_row F_o1_column) (by decide) (by decide) e8 E_o1 rfl (by rw [hml]; rfl) (lenOf pd_1 rfl) rfl (W := 1) (by show 2 * 0 + _ ≤ _; exact Nat.le_of_eq rfl) (hb hby d11_30) (by decide) (by decide) fun v9 T9 hh9 L9 X9 e9 hQ9 => ?_
  obtain ⟨rfl, NL9, he9⟩ := hQ9
  replace e9 := e9.trans he9
  have N9 := Fr.app N7 NL9
  show own_Out p e below _ T9 (mkF m 33 #[.val (.ref o0), .val (.ref o1), .val (.int u2)] [(.int (f1 + f2)), (.ref au)]) _ _ _
  refine own_to (fun t k => XS.iloadN X9.here hx rfl (hb hby d11_33) rfl k) ?_
  show own_Out p e below _ T9 (mkF m 34 #[.val (.ref o0), .val (.ref o1), .val (.int u2)] [(.int u2), (.int (f1 + f2)), (.ref au)]) _ _ _
  refine own_stZ X9 hx hZ e9 A_au (own_lt0 (by have q := own_ix fn f1 f2 hn h1 h2; omega)) (by rw [own_nn, own_nn]; have q := own_ix fn f1 f2 hn h1 h2; have q' := own_sz fn hn; omega) rfl rfl (hb hby d11_34) fun T10 hh10 X10 e10 W10 A10 => ?_
  have E_o0 := E_o0.wr W10
  have E_o1 := E_o1.wr W10
  have F_o1_row := F_o1_row.other W10 (Or.inl ne_o1_au)
  have F_o1_column := F_o1_column.other W10 (Or.inl ne_o1_au)
  have F_o0_size := F_o0_size.other W10 (Or.inl ne_o0_au)
  have F_o0_rows := F_o0_rows.other W10 (Or.inl ne_o0_au)
  have F_o0_downs := F_o0_downs.other W10 (Or.inl ne_o0_au)
  have F_o0_ups := F_o0_ups.other W10 (Or.inl ne_o0_au)
  have A_ar := A_ar.other W10 ne_ar_au
  have A_ad := A_ad.other W10 ne_ad_au
  have A_au := A10
  have K := K.wr W10 (Or.inl (by simp))
  have Z0 := Nat.le_trans Z0 (Nat.le_of_eq W10.size.symm)
  have N10 := own_fs (sl := Int32.toNatClampNeg (f1 + f2)) N9 g_au
  show own_Out p e below _ T10 (mkF m 35 #[.val (.ref o0), .val (.ref o1), .val (.int u2)] []) _ _ _
  refine own_ret0 X10 hx hlk hret (hb hby d11_35) (by decide) (by decide) ?_
  rw [e10]
  exact ⟨rfl, N10, K, A_ar, A_ad, A_au⟩
theorem d10_0 : decode prog_5_method_3_code 0 = .ok (.aload_n 0, 1) := by decide +kernel
theorem d10_1 : decode prog_5_method_3_code 1 = .ok (.aload_n 1, 1) := by decide +kernel
theorem d10_2 : decode prog_5_method_3_code 2 = .ok (.iconst 1, 1) := by decide +kernel
theorem d10_3 : decode prog_5_method_3_code 3 = .ok (.invokevirtual 35, 3) := by decide +kernel
theorem d10_6 : decode prog_5_method_3_code 6 = .ok (.return_, 1) := by decide +kernel
theorem ef_10 (m : MethodId) (o0 : Addr) (o1 : Addr) : entryFrame m #[(.ref o0), (.ref o1)] 2 = mkF m 0 #[.val (.ref o0), .val (.ref o1)] [] := by first | (simp [entryFrame, mkF, argsToLocals, Value.category]; done) | rfl
def Q10 (Z : State) (o0 : Addr) (o1 : Addr) (f1 : Int32) (f2 : Int32) (fn : Int32) (ar : Addr) (ad : Addr) (au : Addr) (gr : Nat → Int32) (gd : Nat → Int32) (gu : Nat → Int32) (h0 : Heap) (n0 : Nat) (v : Option Value) (h : Heap) (L : List Loc) : Prop := v = none ∧ Fr n0 L ∧ Keep h0 h [ar, ad, au] ∧ own_A Z h ar .boolean (fn + (1 : Int32)).toNatClampNeg (own_upd gr (f1.toNatClampNeg) (nar .boolean (1 : Int32))) ∧ own_A Z h ad .boolean ((2 : Int32) * fn).toNatClampNeg (own_upd gd (((f1 - f2) + fn).toNatClampNeg) (nar .boolean (1 : Int32))) ∧ own_A Z h au .boolean (((2 : Int32) * fn) + (1 : Int32)).toNatClampNeg (own_upd gu ((f1 + f2).toNatClampNeg) (nar .boolean (1 : Int32)))
theorem pd_2 : parseMethodDescriptor "(Lcom/example/queenside/queenside/Square;Z)V" = some ⟨[(.object "com/example/queenside/queenside/Square"), .boolean], none⟩ := by decide +kernel
set_option maxRecDepth 65536 in
set_option maxHeartbeats 40000000 in
theorem rm10 (l : Launch) (Z : State) (a0 : Array Value) (hw : ∀ d ∈ tables_1, d.before a0 Z = true) (o0 : Addr) (o1 : Addr) (f1 : Int32) (f2 : Int32) (fn : Int32) (ar : Addr) (ad : Addr) (au : Addr) (gr : Nat → Int32) (gd : Nat → Int32) (gu : Nat → Int32) (h0 : Heap) (n0 : Nat) (Z0 : n0 ≤ h0.size) (E_o0 : Exa Z h0 o0 "com/example/queenside/queenside/Lines") (E_o1 : Exa Z h0 o1 "com/example/queenside/queenside/Square") (F_o1_row : Fld Z h0 o1 "com/example/queenside/queenside/Square" "row" "I" (.int f1)) (F_o1_column : Fld Z h0 o1 "com/example/queenside/queenside/Square" "column" "I" (.int f2)) (F_o0_size : Fld Z h0 o0 "com/example/queenside/queenside/Lines" "size" "I" (.int fn)) (F_o0_rows : Fld Z h0 o0 "com/example/queenside/queenside/Lines" "rows" "[Z" (.ref ar)) (F_o0_downs : Fld Z h0 o0 "com/example/queenside/queenside/Lines" "downs" "[Z" (.ref ad)) (F_o0_ups : Fld Z h0 o0 "com/example/queenside/queenside/Lines" "ups" "[Z" (.ref au)) (A_ar : own_A Z h0 ar .boolean (fn + (1 : Int32)).toNatClampNeg gr) (A_ad : own_A Z h0 ad .boolean ((2 : Int32) * fn).toNatClampNeg gd) (A_au : own_A Z h0 au .boolean (((2 : Int32) * fn) + (1 : Int32)).toNatClampNeg gu) (hn : 1 ≤ fn.toInt ∧ fn.toInt ≤ 16) (h1 : 1 ≤ f1.toInt ∧ f1.toInt ≤ fn.toInt) (h2 : 1 ≤ f2.toInt ∧ f2.toInt ≤ fn.toInt) (ne_ar_ad : ar ≠ ad) (ne_ar_au : ar ≠ au) (ne_ad_au : ad ≠ au) (ne_o0_ar : o0 ≠ ar) (ne_o0_ad : o0 ≠ ad) (ne_o0_au : o0 ≠ au) (ne_o1_ar : o1 ≠ ar) (ne_o1_ad : o1 ≠ ad) (ne_o1_au : o1 ≠ au) (g_ar : n0 ≤ ar) (g_ad : n0 ≤ ad) (g_au : n0 ≤ au) :
    own_C l Z (⟨"com/example/queenside/queenside/Lines", "take", "(Lcom/example/queenside/queenside/Square;)V"⟩ : MethodName) prog_5_method_3_code 2 none ({ frames := 2, cells := 0, slots := 0, locals := 27 } : Room) #[(.ref o0), (.ref o1)] h0 (Q10 Z o0 o1 f1 f2 fn ar ad au gr gd gu h0 n0) := by
  refine own_met (plainFor_of_name pn_3) ?_
  intro p e s m below meth c s₁ hx hby hml hret hlk hown hnm hZ X0 e0
  refine own_cast (ef_10 m o0 o1) ?_
  have N0 := Fr.nil n0
  have ne_au_ad := Ne.symm ne_ad_au
  have ne_ad_ar := Ne.symm ne_ar_ad
  have ne_au_ar := Ne.symm ne_ar_au
  have ne_ad_o0 := Ne.symm ne_o0_ad
  have ne_ar_o0 := Ne.symm ne_o0_ar
  have ne_au_o0 := Ne.symm ne_o0_au
  have ne_ad_o1 := Ne.symm ne_o1_ad
  have ne_ar_o1 := Ne.symm ne_o1_ar
  have ne_au_o1 := Ne.symm ne_o1_au
  have K := Keep.refl h0 [ar, ad, au]
  show own_Out p e below _ s₁ (mkF m 0 #[.val (.ref o0), .val (.ref o1)] []) _ _ _
  refine own_to (fun t k => XS.aloadN X0.here hx rfl (hb hby d10_0) rfl rfl k) ?_
  show own_Out p e below _ s₁ (mkF m 1 #[.val (.ref o0), .val (.ref o1)] [(.ref o0)]) _ _ _
  refine own_to (fun t k => XS.aloadN X0.here hx rfl (hb hby d10_1) rfl rfl k) ?_
  show own_Out p e below _ s₁ (mkF m 2 #[.val (.ref o0), .val (.ref o1)] [(.ref o1), (.ref o0)]) _ _ _
  refine own_to (fun t k => XS.iconst X0.here hx rfl (hb hby d10_2) k) ?_
  show own_Out p e below _ s₁ (mkF m 3 #[.val (.ref o0), .val (.ref o1)] [(.int (1 : Int32)), (.ref o1), (.ref o0)]) _ _ _
  refine own_callP X0 hx hZ hown (a := o0) (argsL := [(.ref o1), (.int (1 : Int32))]) (rest := []) (hw _ (List.mem_of_getElem? (i := 64) rfl)) (hw _ (List.mem_of_getElem? (i := 66) rfl)) (hw _ (List.mem_of_getElem? (i := 24) rfl)) (hw _ (List.mem_of_getElem? (i := 65) rfl)) (hw _ (List.mem_of_getElem? (i := 25) rfl)) (hw _ (List.mem_of_getElem? (i := 67) rfl)) (by decide) (rm11 l Z a0 hw o0 o1 (1 : Int32) f1 f2 fn ar ad au gr gd gu h0 n0 Z0 E_o0 E_o1 F_o1_row F_o1_column F_o0_size F_o0_rows F_o0_downs F_o0_ups A_ar A_ad A_au hn h1 h2 ne_ar_ad ne_ar_au ne_ad_au ne_o0_ar ne_o0_ad ne_o0_au ne_o1_ar ne_o1_ad ne_o1_au g_ar g_ad g_au) (by decide) (by decide) e0 E_o0 rfl (by rw [hml]; rfl) (lenOf pd_2 rfl) rfl (W := 0) (by show 2 * 0 + _ ≤ _; exact Nat.le_of_eq rfl) (hb hby d10_3) (by decide) (by decide) fun v1 T1 hh1 L1 X1 e1 hQ1 => ?_
  obtain ⟨rfl, NL1, KK1, P1_0, P1_1, P1_2⟩ := hQ1
  have E_o0 := E_o0.keep KK1
  have E_o1 := E_o1.keep KK1
  have F_o1_row := F_o1_row.keep KK1 (by simp [ne_o1_ar, ne_o1_ad, ne_o1_au])
  have F_o1_column := F_o1_column.keep KK1 (by simp [ne_o1_ar, ne_o1_ad, ne_o1_au])
  have F_o0_size := F_o0_size.keep KK1 (by simp [ne_o0_ar, ne_o0_ad, ne_o0_au])
  have F_o0_rows := F_o0_rows.keep KK1 (by simp [ne_o0_ar, ne_o0_ad, ne_o0_au])
  have F_o0_downs := F_o0_downs.keep KK1 (by simp [ne_o0_ar, ne_o0_ad, ne_o0_au])
  have F_o0_ups := F_o0_ups.keep KK1 (by simp [ne_o0_ar, ne_o0_ad, ne_o0_au])
  have A_ar := P1_0
  have A_ad := P1_1
  have A_au := P1_2
  have K := K.trans KK1 (by intro z hz; simp only [List.mem_cons, List.not_mem_nil, or_false] at hz; rcases hz with rfl | rfl | rfl <;> first | (exact Or.inl (by simp)))
  have Z0 := Nat.le_trans Z0 KK1.1
  have N1 := Fr.app N0 NL1
  show own_Out p e below _ T1 (mkF m 6 #[.val (.ref o0), .val (.ref o1)] []) _ _ _
  refine own_ret0 X1 hx hlk hret (hb hby d10_6) (by decide) (by decide) ?_
  rw [e1]
  exact ⟨rfl, N1, K, A_ar, A_ad, A_au⟩
theorem d12_0 : decode method_4_code 0 = .ok (.iload_n 0, 1) := by decide +kernel
theorem d12_1 : decode method_4_code 1 = .ok (.iload_n 2, 1) := by decide +kernel
theorem d12_2 : decode method_4_code 2 = .ok (.if_icmp .eq 21, 3) := by decide +kernel
theorem d12_5 : decode method_4_code 5 = .ok (.iload_n 0, 1) := by decide +kernel
theorem d12_6 : decode method_4_code 6 = .ok (.iload_n 1, 1) := by decide +kernel
theorem d12_7 : decode method_4_code 7 = .ok (.isub, 1) := by decide +kernel
theorem d12_8 : decode method_4_code 8 = .ok (.iload_n 2, 1) := by decide +kernel
theorem d12_9 : decode method_4_code 9 = .ok (.iload_n 3, 1) := by decide +kernel
theorem d12_10 : decode method_4_code 10 = .ok (.isub, 1) := by decide +kernel
theorem d12_11 : decode method_4_code 11 = .ok (.if_icmp .eq 12, 3) := by decide +kernel
theorem d12_14 : decode method_4_code 14 = .ok (.iload_n 0, 1) := by decide +kernel
theorem d12_15 : decode method_4_code 15 = .ok (.iload_n 1, 1) := by decide +kernel
theorem d12_16 : decode method_4_code 16 = .ok (.iadd, 1) := by decide +kernel
theorem d12_17 : decode method_4_code 17 = .ok (.iload_n 2, 1) := by decide +kernel
theorem d12_18 : decode method_4_code 18 = .ok (.iload_n 3, 1) := by decide +kernel
theorem d12_19 : decode method_4_code 19 = .ok (.iadd, 1) := by decide +kernel
theorem d12_20 : decode method_4_code 20 = .ok (.if_icmp .ne 7, 3) := by decide +kernel
theorem d12_23 : decode method_4_code 23 = .ok (.iconst 1, 1) := by decide +kernel
theorem d12_24 : decode method_4_code 24 = .ok (.goto 4, 3) := by decide +kernel
theorem d12_27 : decode method_4_code 27 = .ok (.iconst 0, 1) := by decide +kernel
theorem d12_28 : decode method_4_code 28 = .ok (.ireturn, 1) := by decide +kernel
theorem ef_12 (m : MethodId) (u0 : Int32) (u1 : Int32) (u2 : Int32) (u3 : Int32) : entryFrame m #[(.int u0), (.int u1), (.int u2), (.int u3)] 4 = mkF m 0 #[.val (.int u0), .val (.int u1), .val (.int u2), .val (.int u3)] [] := by first | (simp [entryFrame, mkF, argsToLocals, Value.category]; done) | rfl
def R12 (u0 : Int32) (u1 : Int32) (u2 : Int32) (u3 : Int32) : Int32 := (if u0 = u2 then (1 : Int32) else (if (u0 - u1) = (u2 - u3) then (1 : Int32) else (if (u0 + u1) = (u2 + u3) then (1 : Int32) else (0 : Int32))))
def Q12 (Z : State) (u0 : Int32) (u1 : Int32) (u2 : Int32) (u3 : Int32) (h0 : Heap) (n0 : Nat) (v : Option Value) (h : Heap) (L : List Loc) : Prop := v = some (.int (R12 u0 u1 u2 u3)) ∧ Fr n0 L ∧ h = h0
set_option maxRecDepth 65536 in
set_option maxHeartbeats 40000000 in
theorem rm12 (l : Launch) (Z : State) (a0 : Array Value) (hw : ∀ d ∈ tables_1, d.before a0 Z = true) (u0 : Int32) (u1 : Int32) (u2 : Int32) (u3 : Int32) (h0 : Heap) (n0 : Nat) (Z0 : n0 ≤ h0.size) :
    own_C l Z (⟨"com/example/queenside/queenside/LinesFreePinLaw", "shares", "(IIII)Z"⟩ : MethodName) method_4_code 4 (some .boolean) ({ frames := 0, cells := 0, slots := 0, locals := 0 } : Room) #[(.int u0), (.int u1), (.int u2), (.int u3)] h0 (Q12 Z u0 u1 u2 u3 h0 n0) := by
  refine own_met (plainFor_of_name pn_0) ?_
  intro p e s m below meth c s₁ hx hby hml hret hlk hown hnm hZ X0 e0
  refine own_cast (ef_12 m u0 u1 u2 u3) ?_
  have N0 := Fr.nil n0
  show own_Out p e below _ s₁ (mkF m 0 #[.val (.int u0), .val (.int u1), .val (.int u2), .val (.int u3)] []) _ _ _
  refine own_to (fun t k => XS.iloadN X0.here hx rfl (hb hby d12_0) rfl k) ?_
  show own_Out p e below _ s₁ (mkF m 1 #[.val (.int u0), .val (.int u1), .val (.int u2), .val (.int u3)] [(.int u0)]) _ _ _
  refine own_to (fun t k => XS.iloadN X0.here hx rfl (hb hby d12_1) rfl k) ?_
  show own_Out p e below _ s₁ (mkF m 2 #[.val (.int u0), .val (.int u1), .val (.int u2), .val (.int u3)] [(.int u2), (.int u0)]) _ _ _
  by_cases hc2 : u0 = u2
  · refine own_to (fun t k => XS.icmpYes X0.here hx rfl (pc0 := 2) (pc' := 23) rfl (hb hby d12_2) rfl (teq hc2).1 (by decide) (by decide) k) ?_
    show own_Out p e below _ s₁ (mkF m 23 #[.val (.int u0), .val (.int u1), .val (.int u2), .val (.int u3)] []) _ _ _
    refine own_to (fun t k => XS.iconst X0.here hx rfl (hb hby d12_23) k) ?_
    show own_Out p e below _ s₁ (mkF m 24 #[.val (.int u0), .val (.int u1), .val (.int u2), .val (.int u3)] [(.int (1 : Int32))]) _ _ _
    refine own_to (fun t k => XS.goto X0.here hx rfl (pc0 := 24) (pc' := 28) rfl (hb hby d12_24) (by decide) (by decide) k) ?_
    show own_Out p e below _ s₁ (mkF m 28 #[.val (.int u0), .val (.int u1), .val (.int u2), .val (.int u3)] [(.int (1 : Int32))]) _ _ _
    refine own_retV X0 hx hlk (w := .int (1 : Int32)) hret rfl (Or.inl ⟨rfl, by simp, _, rfl⟩) (hb hby d12_28) (by decide) (by decide) ?_
    rw [e0]
    exact ⟨(by unfold R12; rw [if_pos hc2]), N0, rfl⟩
  · refine own_to (fun t k => XS.icmpNo X0.here hx rfl (hb hby d12_2) rfl (feq hc2).1 k) ?_
    show own_Out p e below _ s₁ (mkF m 5 #[.val (.int u0), .val (.int u1), .val (.int u2), .val (.int u3)] []) _ _ _
    refine own_to (fun t k => XS.iloadN X0.here hx rfl (hb hby d12_5) rfl k) ?_
    show own_Out p e below _ s₁ (mkF m 6 #[.val (.int u0), .val (.int u1), .val (.int u2), .val (.int u3)] [(.int u0)]) _ _ _
    refine own_to (fun t k => XS.iloadN X0.here hx rfl (hb hby d12_6) rfl k) ?_
    show own_Out p e below _ s₁ (mkF m 7 #[.val (.int u0), .val (.int u1), .val (.int u2), .val (.int u3)] [(.int u1), (.int u0)]) _ _ _
    refine own_to (fun t k => XS.isub X0.here hx rfl (hb hby d12_7) rfl k) ?_
    show own_Out p e below _ s₁ (mkF m 8 #[.val (.int u0), .val (.int u1), .val (.int u2), .val (.int u3)] [(.int (u0 - u1))]) _ _ _
    refine own_to (fun t k => XS.iloadN X0.here hx rfl (hb hby d12_8) rfl k) ?_
    show own_Out p e below _ s₁ (mkF m 9 #[.val (.int u0), .val (.int u1), .val (.int u2), .val (.int u3)] [(.int u2), (.int (u0 - u1))]) _ _ _
    refine own_to (fun t k => XS.iloadN X0.here hx rfl (hb hby d12_9) rfl k) ?_
    show own_Out p e below _ s₁ (mkF m 10 #[.val (.int u0), .val (.int u1), .val (.int u2), .val (.int u3)] [(.int u3), (.int u2), (.int (u0 - u1))]) _ _ _
    refine own_to (fun t k => XS.isub X0.here hx rfl (hb hby d12_10) rfl k) ?_
    show own_Out p e below _ s₁ (mkF m 11 #[.val (.int u0), .val (.int u1), .val (.int u2), .val (.int u3)] [(.int (u2 - u3)), (.int (u0 - u1))]) _ _ _
    by_cases hc11 : (u0 - u1) = (u2 - u3)
    · refine own_to (fun t k => XS.icmpYes X0.here hx rfl (pc0 := 11) (pc' := 23) rfl (hb hby d12_11) rfl (teq hc11).1 (by decide) (by decide) k) ?_
      show own_Out p e below _ s₁ (mkF m 23 #[.val (.int u0), .val (.int u1), .val (.int u2), .val (.int u3)] []) _ _ _
      refine own_to (fun t k => XS.iconst X0.here hx rfl (hb hby d12_23) k) ?_
      show own_Out p e below _ s₁ (mkF m 24 #[.val (.int u0), .val (.int u1), .val (.int u2), .val (.int u3)] [(.int (1 : Int32))]) _ _ _
      refine own_to (fun t k => XS.goto X0.here hx rfl (pc0 := 24) (pc' := 28) rfl (hb hby d12_24) (by decide) (by decide) k) ?_
      show own_Out p e below _ s₁ (mkF m 28 #[.val (.int u0), .val (.int u1), .val (.int u2), .val (.int u3)] [(.int (1 : Int32))]) _ _ _
      refine own_retV X0 hx hlk (w := .int (1 : Int32)) hret rfl (Or.inl ⟨rfl, by simp, _, rfl⟩) (hb hby d12_28) (by decide) (by decide) ?_
      rw [e0]
      exact ⟨(by unfold R12; rw [if_neg hc2, if_pos hc11]), N0, rfl⟩
    · refine own_to (fun t k => XS.icmpNo X0.here hx rfl (hb hby d12_11) rfl (feq hc11).1 k) ?_
      show own_Out p e below _ s₁ (mkF m 14 #[.val (.int u0), .val (.int u1), .val (.int u2), .val (.int u3)] []) _ _ _
      refine own_to (fun t k => XS.iloadN X0.here hx rfl (hb hby d12_14) rfl k) ?_
      show own_Out p e below _ s₁ (mkF m 15 #[.val (.int u0), .val (.int u1), .val (.int u2), .val (.int u3)] [(.int u0)]) _ _ _
      refine own_to (fun t k => XS.iloadN X0.here hx rfl (hb hby d12_15) rfl k) ?_
      show own_Out p e below _ s₁ (mkF m 16 #[.val (.int u0), .val (.int u1), .val (.int u2), .val (.int u3)] [(.int u1), (.int u0)]) _ _ _
      refine own_to (fun t k => XS.iadd X0.here hx rfl (hb hby d12_16) rfl k) ?_
      show own_Out p e below _ s₁ (mkF m 17 #[.val (.int u0), .val (.int u1), .val (.int u2), .val (.int u3)] [(.int (u0 + u1))]) _ _ _
      refine own_to (fun t k => XS.iloadN X0.here hx rfl (hb hby d12_17) rfl k) ?_
      show own_Out p e below _ s₁ (mkF m 18 #[.val (.int u0), .val (.int u1), .val (.int u2), .val (.int u3)] [(.int u2), (.int (u0 + u1))]) _ _ _
      refine own_to (fun t k => XS.iloadN X0.here hx rfl (hb hby d12_18) rfl k) ?_
      show own_Out p e below _ s₁ (mkF m 19 #[.val (.int u0), .val (.int u1), .val (.int u2), .val (.int u3)] [(.int u3), (.int u2), (.int (u0 + u1))]) _ _ _
      refine own_to (fun t k => XS.iadd X0.here hx rfl (hb hby d12_19) rfl k) ?_
      show own_Out p e below _ s₁ (mkF m 20 #[.val (.int u0), .val (.int u1), .val (.int u2), .val (.int u3)] [(.int (u2 + u3)), (.int (u0 + u1))]) _ _ _
      by_cases hc20 : (u0 + u1) = (u2 + u3)
      · refine own_to (fun t k => XS.icmpNo X0.here hx rfl (hb hby d12_20) rfl (teq hc20).2 k) ?_
        show own_Out p e below _ s₁ (mkF m 23 #[.val (.int u0), .val (.int u1), .val (.int u2), .val (.int u3)] []) _ _ _
        refine own_to (fun t k => XS.iconst X0.here hx rfl (hb hby d12_23) k) ?_
        show own_Out p e below _ s₁ (mkF m 24 #[.val (.int u0), .val (.int u1), .val (.int u2), .val (.int u3)] [(.int (1 : Int32))]) _ _ _
        refine own_to (fun t k => XS.goto X0.here hx rfl (pc0 := 24) (pc' := 28) rfl (hb hby d12_24) (by decide) (by decide) k) ?_
        show own_Out p e below _ s₁ (mkF m 28 #[.val (.int u0), .val (.int u1), .val (.int u2), .val (.int u3)] [(.int (1 : Int32))]) _ _ _
        refine own_retV X0 hx hlk (w := .int (1 : Int32)) hret rfl (Or.inl ⟨rfl, by simp, _, rfl⟩) (hb hby d12_28) (by decide) (by decide) ?_
        rw [e0]
        exact ⟨(by unfold R12; rw [if_neg hc2, if_neg hc11, if_pos hc20]), N0, rfl⟩
      · refine own_to (fun t k => XS.icmpYes X0.here hx rfl (pc0 := 20) (pc' := 27) rfl (hb hby d12_20) rfl (feq hc20).2 (by decide) (by decide) k) ?_
        show own_Out p e below _ s₁ (mkF m 27 #[.val (.int u0), .val (.int u1), .val (.int u2), .val (.int u3)] []) _ _ _
        refine own_to (fun t k => XS.iconst X0.here hx rfl (hb hby d12_27) k) ?_
        show own_Out p e below _ s₁ (mkF m 28 #[.val (.int u0), .val (.int u1), .val (.int u2), .val (.int u3)] [(.int (0 : Int32))]) _ _ _
        refine own_retV X0 hx hlk (w := .int (0 : Int32)) hret rfl (Or.inl ⟨rfl, by simp, _, rfl⟩) (hb hby d12_28) (by decide) (by decide) ?_
        rw [e0]
        exact ⟨(by unfold R12; rw [if_neg hc2, if_neg hc11, if_neg hc20]), N0, rfl⟩
theorem own_free0 (o o' : Addr) (q1 q2 n : Int32) (ra rd ru : Addr) : R6 o o' q1 q2 n ra rd ru (fun _ => 0) (fun _ => 0) (fun _ => 0) = 1 := by
  simp [R6]
theorem own_sh (a1 a2 q1 q2 n : Int32) (hn : 1 ≤ n.toInt ∧ n.toInt ≤ 16) (hq1 : 1 ≤ q1.toInt ∧ q1.toInt ≤ n.toInt) (hq2 : 1 ≤ q2.toInt ∧ q2.toInt ≤ n.toInt) (ha1 : 1 ≤ a1.toInt ∧ a1.toInt ≤ n.toInt) (ha2 : 1 ≤ a2.toInt ∧ a2.toInt ≤ n.toInt) : (R12 a1 a2 q1 q2 = 0) ↔ ¬ (a1.toInt = q1.toInt ∨ a1.toInt - a2.toInt = q1.toInt - q2.toInt ∨ a1.toInt + a2.toInt = q1.toInt + q2.toInt) := by
  have e1 := c_isub a1 a2
  have e2 := c_isub q1 q2
  have e3 := c_iadd a1 a2
  have e4 := c_iadd q1 q2
  have r1 := rng32 (a1 - a2)
  have r2 := rng32 (q1 - q2)
  have r3 := rng32 (a1 + a2)
  have r4 := rng32 (q1 + q2)
  have k0 : (0 : Int32).toInt = 0 := by decide
  have k1 : (1 : Int32).toInt = 1 := by decide
  unfold R12
  simp only [← Int32.toInt_inj]
  constructor
  · intro w
    (repeat' split at w) <;> omega
  · intro w
    (repeat' split) <;> omega
theorem own_one {i j : Nat} {f : Nat → Int32} : (own_upd f j (nar .boolean (1 : Int32)) i = 0) ↔ (i ≠ j ∧ f i = 0) := by
  have e : nar .boolean (1 : Int32) = 1 := by decide
  unfold own_upd
  rw [e]
  by_cases h : i = j
  · simp [h]
  · simp [h]
set_option maxHeartbeats 40000000 in
theorem own_free1 (o o' : Addr) (q1 q2 n : Int32) (ra rd ru : Addr) (a1 a2 : Int32) (hn : 1 ≤ n.toInt ∧ n.toInt ≤ 16) (hq1 : 1 ≤ q1.toInt ∧ q1.toInt ≤ n.toInt) (hq2 : 1 ≤ q2.toInt ∧ q2.toInt ≤ n.toInt) (ha1 : 1 ≤ a1.toInt ∧ a1.toInt ≤ n.toInt) (ha2 : 1 ≤ a2.toInt ∧ a2.toInt ≤ n.toInt) : R6 o o' q1 q2 n ra rd ru (own_upd (fun _ => 0) (a1.toNatClampNeg) (nar .boolean (1 : Int32))) (own_upd (fun _ => 0) (((a1 - a2) + n).toNatClampNeg) (nar .boolean (1 : Int32))) (own_upd (fun _ => 0) ((a1 + a2).toNatClampNeg) (nar .boolean (1 : Int32))) = if R12 a1 a2 q1 q2 = 0 then 1 else 0 := by
  have w := own_sh a1 a2 q1 q2 n hn hq1 hq2 ha1 ha2
  have e1 := own_ix n q1 q2 hn hq1 hq2
  have e2 := own_ix n a1 a2 hn ha1 ha2
  simp only [w, R6, own_one, own_nn, e1.1, e1.2, e2.1, e2.2, and_true]
  (repeat' split) <;> first | rfl | (exfalso; omega)
set_option maxRecDepth 65536 in
set_option maxHeartbeats 40000000 in
theorem own_free2 (o o' : Addr) (q1 q2 n : Int32) (ra rd ru : Addr) (a1 a2 b1 b2 : Int32) (hn : 1 ≤ n.toInt ∧ n.toInt ≤ 16) (hq1 : 1 ≤ q1.toInt ∧ q1.toInt ≤ n.toInt) (hq2 : 1 ≤ q2.toInt ∧ q2.toInt ≤ n.toInt) (ha1 : 1 ≤ a1.toInt ∧ a1.toInt ≤ n.toInt) (ha2 : 1 ≤ a2.toInt ∧ a2.toInt ≤ n.toInt) (hb1 : 1 ≤ b1.toInt ∧ b1.toInt ≤ n.toInt) (hb2 : 1 ≤ b2.toInt ∧ b2.toInt ≤ n.toInt) : R6 o o' q1 q2 n ra rd ru (own_upd (own_upd (fun _ => 0) (a1.toNatClampNeg) (nar .boolean (1 : Int32))) (b1.toNatClampNeg) (nar .boolean (1 : Int32))) (own_upd (own_upd (fun _ => 0) (((a1 - a2) + n).toNatClampNeg) (nar .boolean (1 : Int32))) (((b1 - b2) + n).toNatClampNeg) (nar .boolean (1 : Int32))) (own_upd (own_upd (fun _ => 0) ((a1 + a2).toNatClampNeg) (nar .boolean (1 : Int32))) ((b1 + b2).toNatClampNeg) (nar .boolean (1 : Int32))) = if R12 a1 a2 q1 q2 = 0 then (if R12 b1 b2 q1 q2 = 0 then 1 else 0) else 0 := by
  have w := own_sh a1 a2 q1 q2 n hn hq1 hq2 ha1 ha2
  have w' := own_sh b1 b2 q1 q2 n hn hq1 hq2 hb1 hb2
  have e1 := own_ix n q1 q2 hn hq1 hq2
  have e2 := own_ix n a1 a2 hn ha1 ha2
  have e3 := own_ix n b1 b2 hn hb1 hb2
  simp only [w, w', R6, own_one, own_nn, e1.1, e1.2, e2.1, e2.2, e3.1, e3.2, and_true]
  (repeat' split) <;> first | rfl | (exfalso; omega)
theorem own_k4 (x : Int32) : (x &&& (3 : Int32)) = (0 : Int32) ∨ (x &&& (3 : Int32)) = (1 : Int32) ∨ (x &&& (3 : Int32)) = (2 : Int32) ∨ (x &&& (3 : Int32)) = (3 : Int32) := by
  have h := c_mask x 3 2 (by decide) (by decide)
  have k0 : (0 : Int32).toInt = 0 := by decide
  have k1 : (1 : Int32).toInt = 1 := by decide
  have k2 : (2 : Int32).toInt = 2 := by decide
  have k3 : (3 : Int32).toInt = 3 := by decide
  simp only [← Int32.toInt_inj, k0, k1, k2, k3]
  omega
theorem ef_0 (m : MethodId) (x0 : Int32) (x1 : Int32) (x2 : Int32) (x3 : Int32) (x4 : Int32) : entryFrame m #[(.int x0), (.int x1), (.int x2), (.int x3), (.int x4)] maxLocals = mkF m 0 #[.val (.int x0), .val (.int x1), .val (.int x2), .val (.int x3), .val (.int x4), .unset, .unset, .unset, .unset, .unset, .unset, .unset, .unset, .unset, .unset, .unset, .unset, .unset, .unset, .unset, .unset, .unset] [] := by first | (simp [entryFrame, mkF, argsToLocals, Value.category, maxLocals]; done) | rfl
def Q0 (Z : State) (x0 : Int32) (x1 : Int32) (x2 : Int32) (x3 : Int32) (x4 : Int32) (h0 : Heap) (n0 : Nat) (v : Option Value) (h : Heap) (L : List Loc) : Prop := v = some (.int (1 : Int32)) ∧ Fr n0 L
theorem pd_3 : parseMethodDescriptor "(II)I" = some ⟨[.int, .int], some .int⟩ := by decide +kernel
theorem pd_4 : parseMethodDescriptor "(II)V" = some ⟨[.int, .int], none⟩ := by decide +kernel
theorem pd_5 : parseMethodDescriptor "(I)V" = some ⟨[.int], none⟩ := by decide +kernel
theorem pd_6 : parseMethodDescriptor "(Lcom/example/queenside/queenside/Square;)Z" = some ⟨[(.object "com/example/queenside/queenside/Square")], some .boolean⟩ := by decide +kernel
theorem pd_7 : parseMethodDescriptor "(Lcom/example/queenside/queenside/Square;)V" = some ⟨[(.object "com/example/queenside/queenside/Square")], none⟩ := by decide +kernel
theorem pd_8 : parseMethodDescriptor "(IIII)Z" = some ⟨[.int, .int, .int, .int], some .boolean⟩ := by decide +kernel
set_option maxRecDepth 65536 in
set_option maxHeartbeats 40000000 in
theorem rm0 (l : Launch) (Z : State) (a0 : Array Value) (hw : ∀ d ∈ tables_1, d.before a0 Z = true) (x0 : Int32) (x1 : Int32) (x2 : Int32) (x3 : Int32) (x4 : Int32) (h0 : Heap) (n0 : Nat) (Z0 : n0 ≤ h0.size) :
    own_C l Z x code maxLocals ret room_1 #[(.int x0), (.int x1), (.int x2), (.int x3), (.int x4)] h0 (Q0 Z x0 x1 x2 x3 x4 h0 n0) := by
  refine own_met (plainFor_of_name pn_0) ?_
  intro p e s m below meth c s₁ hx hby hml hret hlk hown hnm hZ X0 e0
  refine own_cast (ef_0 m x0 x1 x2 x3 x4) ?_
  have N0 := Fr.nil n0
  show own_Out p e below _ s₁ (mkF m 0 #[.val (.int x0), .val (.int x1), .val (.int x2), .val (.int x3), .val (.int x4), .unset, .unset, .unset, .unset, .unset, .unset, .unset, .unset, .unset, .unset, .unset, .unset, .unset, .unset, .unset, .unset, .unset] []) _ _ _
  refine own_to (fun t k => XS.iconst X0.here hx rfl (hb hby at_0) k) ?_
  show own_Out p e below _ s₁ (mkF m 1 #[.val (.int x0), .val (.int x1), .val (.int x2), .val (.int x3), .val (.int x4), .unset, .unset, .unset, .unset, .unset, .unset, .unset, .unset, .unset, .unset, .unset, .unset, .unset, .unset, .unset, .unset, .unset] [(.int (1 : Int32))]) _ _ _
  refine own_to (fun t k => XS.iloadN X0.here hx rfl (hb hby at_1) rfl k) ?_
  show own_Out p e below _ s₁ (mkF m 2 #[.val (.int x0), .val (.int x1), .val (.int x2), .val (.int x3), .val (.int x4), .unset, .unset, .unset, .unset, .unset, .unset, .unset, .unset, .unset, .unset, .unset, .unset, .unset, .unset, .unset, .unset, .unset] [(.int x0), (.int (1 : Int32))]) _ _ _
  refine own_to (fun t k => XS.bipush X0.here hx rfl (hb hby at_2) k) ?_
  show own_Out p e below _ s₁ (mkF m 4 #[.val (.int x0), .val (.int x1), .val (.int x2), .val (.int x3), .val (.int x4), .unset, .unset, .unset, .unset, .unset, .unset, .unset, .unset, .unset, .unset, .unset, .unset, .unset, .unset, .unset, .unset, .unset] [(.int (15 : Int32)), (.int x0), (.int (1 : Int32))]) _ _ _
  refine own_to (fun t k => XS.iand X0.here hx rfl (hb hby at_4) rfl k) ?_
  show own_Out p e below _ s₁ (mkF m 5 #[.val (.int x0), .val (.int x1), .val (.int x2), .val (.int x3), .val (.int x4), .unset, .unset, .unset, .unset, .unset, .unset, .unset, .unset, .unset, .unset, .unset, .unset, .unset, .unset, .unset, .unset, .unset] [(.int (x0 &&& (15 : Int32))), (.int (1 : Int32))]) _ _ _
  refine own_to (fun t k => XS.iadd X0.here hx rfl (hb hby at_5) rfl k) ?_
  show own_Out p e below _ s₁ (mkF m 6 #[.val (.int x0), .val (.int x1), .val (.int x2), .val (.int x3), .val (.int x4), .unset, .unset, .unset, .unset, .unset, .unset, .unset, .unset, .unset, .unset, .unset, .unset, .unset, .unset, .unset, .unset, .unset] [(.int ((1 : Int32) + (x0 &&& (15 : Int32))))]) _ _ _
  refine own_to (fun t k => XS.istore X0.here hx rfl (hb hby at_6) rfl (l' := #[.val (.int x0), .val (.int x1), .val (.int x2), .val (.int x3), .val (.int x4), .val (.int ((1 : Int32) + (x0 &&& (15 : Int32)))), .unset, .unset, .unset, .unset, .unset, .unset, .unset, .unset, .unset, .unset, .unset, .unset, .unset, .unset, .unset, .unset]) rfl k) ?_
  show own_Out p e below _ s₁ (mkF m 8 #[.val (.int x0), .val (.int x1), .val (.int x2), .val (.int x3), .val (.int x4), .val (.int ((1 : Int32) + (x0 &&& (15 : Int32)))), .unset, .unset, .unset, .unset, .unset, .unset, .unset, .unset, .unset, .unset, .unset, .unset, .unset, .unset, .unset, .unset] []) _ _ _
  generalize hv_kn : ((1 : Int32) + (x0 &&& (15 : Int32))) = kn
  show own_Out p e below _ s₁ (mkF m 8 #[.val (.int x0), .val (.int x1), .val (.int x2), .val (.int x3), .val (.int x4), .val (.int kn), .unset, .unset, .unset, .unset, .unset, .unset, .unset, .unset, .unset, .unset, .unset, .unset, .unset, .unset, .unset, .unset] []) _ _ _
  have bn := own_n x0
  rw [hv_kn] at bn
  refine own_to (fun t k => XS.iloadN X0.here hx rfl (hb hby at_8) rfl k) ?_
  show own_Out p e below _ s₁ (mkF m 9 #[.val (.int x0), .val (.int x1), .val (.int x2), .val (.int x3), .val (.int x4), .val (.int kn), .unset, .unset, .unset, .unset, .unset, .unset, .unset, .unset, .unset, .unset, .unset, .unset, .unset, .unset, .unset, .unset] [(.int x1)]) _ _ _
  refine own_to (fun t k => XS.iload X0.here hx rfl (hb hby at_9) rfl k) ?_
  show own_Out p e below _ s₁ (mkF m 11 #[.val (.int x0), .val (.int x1), .val (.int x2), .val (.int x3), .val (.int x4), .val (.int kn), .unset, .unset, .unset, .unset, .unset, .unset, .unset, .unset, .unset, .unset, .unset, .unset, .unset, .unset, .unset, .unset] [(.int kn), (.int x1)]) _ _ _
  refine own_callS X0 hx hZ hown (argsL := [(.int x1), (.int kn)]) (rest := []) (hw _ (List.mem_of_getElem? (i := 0) rfl)) (hw _ (List.mem_of_getElem? (i := 1) rfl)) (hw _ (List.mem_of_getElem? (i := 2) rfl)) (hw _ (List.mem_of_getElem? (i := 3) rfl)) (by decide) (rm1 l Z a0 hw x1 kn h0 n0 Z0 (own_nz kn bn)) (by decide) (by decide) e0 rfl (by rw [hml]; rfl) (lenOf pd_3 rfl) rfl (W := 0) (by show 2 * 0 + _ ≤ _; exact Nat.le_of_eq rfl) (hb hby at_11) (by decide) (by decide) fun v1 T1 hh1 L1 X1 e1 hQ1 => ?_
  obtain ⟨rfl, NL1, he1⟩ := hQ1
  replace e1 := e1.trans he1
  have N1 := Fr.app N0 NL1
  show own_Out p e below _ T1 (mkF m 14 #[.val (.int x0), .val (.int x1), .val (.int x2), .val (.int x3), .val (.int x4), .val (.int kn), .unset, .unset, .unset, .unset, .unset, .unset, .unset, .unset, .unset, .unset, .unset, .unset, .unset, .unset, .unset, .unset] [(.int ((1 : Int32) + ((x1 &&& (65535 : Int32)) % kn)))]) _ _ _
  refine own_to (fun t k => XS.istore X1.here hx rfl (hb hby at_14) rfl (l' := #[.val (.int x0), .val (.int x1), .val (.int x2), .val (.int x3), .val (.int x4), .val (.int kn), .val (.int ((1 : Int32) + ((x1 &&& (65535 : Int32)) % kn))), .unset, .unset, .unset, .unset, .unset, .unset, .unset, .unset, .unset, .unset, .unset, .unset, .unset, .unset, .unset]) rfl k) ?_
  show own_Out p e below _ T1 (mkF m 16 #[.val (.int x0), .val (.int x1), .val (.int x2), .val (.int x3), .val (.int x4), .val (.int kn), .val (.int ((1 : Int32) + ((x1 &&& (65535 : Int32)) % kn))), .unset, .unset, .unset, .unset, .unset, .unset, .unset, .unset, .unset, .unset, .unset, .unset, .unset, .unset, .unset] []) _ _ _
  generalize hv_r1 : ((1 : Int32) + ((x1 &&& (65535 : Int32)) % kn)) = r1
  show own_Out p e below _ T1 (mkF m 16 #[.val (.int x0), .val (.int x1), .val (.int x2), .val (.int x3), .val (.int x4), .val (.int kn), .val (.int r1), .unset, .unset, .unset, .unset, .unset, .unset, .unset, .unset, .unset, .unset, .unset, .unset, .unset, .unset, .unset] []) _ _ _
  have b_r1 := own_co x1 kn bn
  rw [hv_r1] at b_r1
  refine own_to (fun t k => XS.iloadN X1.here hx rfl (hb hby at_16) rfl k) ?_
  show own_Out p e below _ T1 (mkF m 17 #[.val (.int x0), .val (.int x1), .val (.int x2), .val (.int x3), .val (.int x4), .val (.int kn), .val (.int r1), .unset, .unset, .unset, .unset, .unset, .unset, .unset, .unset, .unset, .unset, .unset, .unset, .unset, .unset, .unset] [(.int x1)]) _ _ _
  refine own_to (fun t k => XS.bipush X1.here hx rfl (hb hby at_17) k) ?_
  show own_Out p e below _ T1 (mkF m 19 #[.val (.int x0), .val (.int x1), .val (.int x2), .val (.int x3), .val (.int x4), .val (.int kn), .val (.int r1), .unset, .unset, .unset, .unset, .unset, .unset, .unset, .unset, .unset, .unset, .unset, .unset, .unset, .unset, .unset] [(.int (16 : Int32)), (.int x1)]) _ _ _
  refine own_to (fun t k => XS.iushr X1.here hx rfl (hb hby at_19) rfl k) ?_
  show own_Out p e below _ T1 (mkF m 20 #[.val (.int x0), .val (.int x1), .val (.int x2), .val (.int x3), .val (.int x4), .val (.int kn), .val (.int r1), .unset, .unset, .unset, .unset, .unset, .unset, .unset, .unset, .unset, .unset, .unset, .unset, .unset, .unset, .unset] [(.int ((x1.toUInt32 >>> ((16 : Int32) &&& 31).toUInt32).toInt32))]) _ _ _
  refine own_to (fun t k => XS.iload X1.here hx rfl (hb hby at_20) rfl k) ?_
  show own_Out p e below _ T1 (mkF m 22 #[.val (.int x0), .val (.int x1), .val (.int x2), .val (.int x3), .val (.int x4), .val (.int kn), .val (.int r1), .unset, .unset, .unset, .unset, .unset, .unset, .unset, .unset, .unset, .unset, .unset, .unset, .unset, .unset, .unset] [(.int kn), (.int ((x1.toUInt32 >>> ((16 : Int32) &&& 31).toUInt32).toInt32))]) _ _ _
  refine own_callS X1 hx hZ hown (argsL := [(.int ((x1.toUInt32 >>> ((16 : Int32) &&& 31).toUInt32).toInt32)), (.int kn)]) (rest := []) (hw _ (List.mem_of_getElem? (i := 0) rfl)) (hw _ (List.mem_of_getElem? (i := 1) rfl)) (hw _ (List.mem_of_getElem? (i := 2) rfl)) (hw _ (List.mem_of_getElem? (i := 3) rfl)) (by decide) (rm1 l Z a0 hw ((x1.toUInt32 >>> ((16 : Int32) &&& 31).toUInt32).toInt32) kn h0 n0 Z0 (own_nz kn bn)) (by decide) (by decide) e1 rfl (by rw [hml]; rfl) (lenOf pd_3 rfl) rfl (W := 0) (by show 2 * 0 + _ ≤ _; exact Nat.le_of_eq rfl) (hb hby at_22) (by decide) (by decide) fun v2 T2 hh2 L2 X2 e2 hQ2 => ?_
  obtain ⟨rfl, NL2, he2⟩ := hQ2
  replace e2 := e2.trans he2
  have N2 := Fr.app N1 NL2
  show own_Out p e below _ T2 (mkF m 25 #[.val (.int x0), .val (.int x1), .val (.int x2), .val (.int x3), .val (.int x4), .val (.int kn), .val (.int r1), .unset, .unset, .unset, .unset, .unset, .unset, .unset, .unset, .unset, .unset, .unset, .unset, .unset, .unset, .unset] [(.int ((1 : Int32) + ((((x1.toUInt32 >>> ((16 : Int32) &&& 31).toUInt32).toInt32) &&& (65535 : Int32)) % kn)))]) _ _ _
  refine own_to (fun t k => XS.istore X2.here hx rfl (hb hby at_25) rfl (l' := #[.val (.int x0), .val (.int x1), .val (.int x2), .val (.int x3), .val (.int x4), .val (.int kn), .val (.int r1), .val (.int ((1 : Int32) + ((((x1.toUInt32 >>> ((16 : Int32) &&& 31).toUInt32).toInt32) &&& (65535 : Int32)) % kn))), .unset, .unset, .unset, .unset, .unset, .unset, .unset, .unset, .unset, .unset, .unset, .unset, .unset, .unset]) rfl k) ?_
  show own_Out p e below _ T2 (mkF m 27 #[.val (.int x0), .val (.int x1), .val (.int x2), .val (.int x3), .val (.int x4), .val (.int kn), .val (.int r1), .val (.int ((1 : Int32) + ((((x1.toUInt32 >>> ((16 : Int32) &&& 31).toUInt32).toInt32) &&& (65535 : Int32)) % kn))), .unset, .unset, .unset, .unset, .unset, .unset, .unset, .unset, .unset, .unset, .unset, .unset, .unset, .unset] []) _ _ _
  generalize hv_c1 : ((1 : Int32) + ((((x1.toUInt32 >>> ((16 : Int32) &&& 31).toUInt32).toInt32) &&& (65535 : Int32)) % kn)) = c1
  show own_Out p e below _ T2 (mkF m 27 #[.val (.int x0), .val (.int x1), .val (.int x2), .val (.int x3), .val (.int x4), .val (.int kn), .val (.int r1), .val (.int c1), .unset, .unset, .unset, .unset, .unset, .unset, .unset, .unset, .unset, .unset, .unset, .unset, .unset, .unset] []) _ _ _
  have b_c1 := own_co ((x1.toUInt32 >>> ((16 : Int32) &&& 31).toUInt32).toInt32) kn bn
  rw [hv_c1] at b_c1
  refine own_to (fun t k => XS.iloadN X2.here hx rfl (hb hby at_27) rfl k) ?_
  show own_Out p e below _ T2 (mkF m 28 #[.val (.int x0), .val (.int x1), .val (.int x2), .val (.int x3), .val (.int x4), .val (.int kn), .val (.int r1), .val (.int c1), .unset, .unset, .unset, .unset, .unset, .unset, .unset, .unset, .unset, .unset, .unset, .unset, .unset, .unset] [(.int x2)]) _ _ _
  refine own_to (fun t k => XS.iload X2.here hx rfl (hb hby at_28) rfl k) ?_
  show own_Out p e below _ T2 (mkF m 30 #[.val (.int x0), .val (.int x1), .val (.int x2), .val (.int x3), .val (.int x4), .val (.int kn), .val (.int r1), .val (.int c1), .unset, .unset, .unset, .unset, .unset, .unset, .unset, .unset, .unset, .unset, .unset, .unset, .unset, .unset] [(.int kn), (.int x2)]) _ _ _
  refine own_callS X2 hx hZ hown (argsL := [(.int x2), (.int kn)]) (rest := []) (hw _ (List.mem_of_getElem? (i := 0) rfl)) (hw _ (List.mem_of_getElem? (i := 1) rfl)) (hw _ (List.mem_of_getElem? (i := 2) rfl)) (hw _ (List.mem_of_getElem? (i := 3) rfl)) (by decide) (rm1 l Z a0 hw x2 kn h0 n0 Z0 (own_nz kn bn)) (by decide) (by decide) e2 rfl (by rw [hml]; rfl) (lenOf pd_3 rfl) rfl (W := 0) (by show 2 * 0 + _ ≤ _; exact Nat.le_of_eq rfl) (hb hby at_30) (by decide) (by decide) fun v3 T3 hh3 L3 X3 e3 hQ3 => ?_
  obtain ⟨rfl, NL3, he3⟩ := hQ3
  replace e3 := e3.trans he3
  have N3 := Fr.app N2 NL3
  show own_Out p e below _ T3 (mkF m 33 #[.val (.int x0), .val (.int x1), .val (.int x2), .val (.int x3), .val (.int x4), .val (.int kn), .val (.int r1), .val (.int c1), .unset, .unset, .unset, .unset, .unset, .unset, .unset, .unset, .unset, .unset, .unset, .unset, .unset, .unset] [(.int ((1 : Int32) + ((x2 &&& (65535 : Int32)) % kn)))]) _ _ _
  refine own_to (fun t k => XS.istore X3.here hx rfl (hb hby at_33) rfl (l' := #[.val (.int x0), .val (.int x1), .val (.int x2), .val (.int x3), .val (.int x4), .val (.int kn), .val (.int r1), .val (.int c1), .val (.int ((1 : Int32) + ((x2 &&& (65535 : Int32)) % kn))), .unset, .unset, .unset, .unset, .unset, .unset, .unset, .unset, .unset, .unset, .unset, .unset, .unset]) rfl k) ?_
  show own_Out p e below _ T3 (mkF m 35 #[.val (.int x0), .val (.int x1), .val (.int x2), .val (.int x3), .val (.int x4), .val (.int kn), .val (.int r1), .val (.int c1), .val (.int ((1 : Int32) + ((x2 &&& (65535 : Int32)) % kn))), .unset, .unset, .unset, .unset, .unset, .unset, .unset, .unset, .unset, .unset, .unset, .unset, .unset] []) _ _ _
  generalize hv_r2 : ((1 : Int32) + ((x2 &&& (65535 : Int32)) % kn)) = r2
  show own_Out p e below _ T3 (mkF m 35 #[.val (.int x0), .val (.int x1), .val (.int x2), .val (.int x3), .val (.int x4), .val (.int kn), .val (.int r1), .val (.int c1), .val (.int r2), .unset, .unset, .unset, .unset, .unset, .unset, .unset, .unset, .unset, .unset, .unset, .unset, .unset] []) _ _ _
  have b_r2 := own_co x2 kn bn
  rw [hv_r2] at b_r2
  refine own_to (fun t k => XS.iloadN X3.here hx rfl (hb hby at_35) rfl k) ?_
  show own_Out p e below _ T3 (mkF m 36 #[.val (.int x0), .val (.int x1), .val (.int x2), .val (.int x3), .val (.int x4), .val (.int kn), .val (.int r1), .val (.int c1), .val (.int r2), .unset, .unset, .unset, .unset, .unset, .unset, .unset, .unset, .unset, .unset, .unset, .unset, .unset] [(.int x2)]) _ _ _
  refine own_to (fun t k => XS.bipush X3.here hx rfl (hb hby at_36) k) ?_
  show own_Out p e below _ T3 (mkF m 38 #[.val (.int x0), .val (.int x1), .val (.int x2), .val (.int x3), .val (.int x4), .val (.int kn), .val (.int r1), .val (.int c1), .val (.int r2), .unset, .unset, .unset, .unset, .unset, .unset, .unset, .unset, .unset, .unset, .unset, .unset, .unset] [(.int (16 : Int32)), (.int x2)]) _ _ _
  refine own_to (fun t k => XS.iushr X3.here hx rfl (hb hby at_38) rfl k) ?_
  show own_Out p e below _ T3 (mkF m 39 #[.val (.int x0), .val (.int x1), .val (.int x2), .val (.int x3), .val (.int x4), .val (.int kn), .val (.int r1), .val (.int c1), .val (.int r2), .unset, .unset, .unset, .unset, .unset, .unset, .unset, .unset, .unset, .unset, .unset, .unset, .unset] [(.int ((x2.toUInt32 >>> ((16 : Int32) &&& 31).toUInt32).toInt32))]) _ _ _
  refine own_to (fun t k => XS.iload X3.here hx rfl (hb hby at_39) rfl k) ?_
  show own_Out p e below _ T3 (mkF m 41 #[.val (.int x0), .val (.int x1), .val (.int x2), .val (.int x3), .val (.int x4), .val (.int kn), .val (.int r1), .val (.int c1), .val (.int r2), .unset, .unset, .unset, .unset, .unset, .unset, .unset, .unset, .unset, .unset, .unset, .unset, .unset] [(.int kn), (.int ((x2.toUInt32 >>> ((16 : Int32) &&& 31).toUInt32).toInt32))]) _ _ _
  refine own_callS X3 hx hZ hown (argsL := [(.int ((x2.toUInt32 >>> ((16 : Int32) &&& 31).toUInt32).toInt32)), (.int kn)]) (rest := []) (hw _ (List.mem_of_getElem? (i := 0) rfl)) (hw _ (List.mem_of_getElem? (i := 1) rfl)) (hw _ (List.mem_of_getElem? (i := 2) rfl)) (hw _ (List.mem_of_getElem? (i := 3) rfl)) (by decide) (rm1 l Z a0 hw ((x2.toUInt32 >>> ((16 : Int32) &&& 31).toUInt32).toInt32) kn h0 n0 Z0 (own_nz kn bn)) (by decide) (by decide) e3 rfl (by rw [hml]; rfl) (lenOf pd_3 rfl) rfl (W := 0) (by show 2 * 0 + _ ≤ _; exact Nat.le_of_eq rfl) (hb hby at_41) (by decide) (by decide) fun v4 T4 hh4 L4 X4 e4 hQ4 => ?_
  obtain ⟨rfl, NL4, he4⟩ := hQ4
  replace e4 := e4.trans he4
  have N4 := Fr.app N3 NL4
  show own_Out p e below _ T4 (mkF m 44 #[.val (.int x0), .val (.int x1), .val (.int x2), .val (.int x3), .val (.int x4), .val (.int kn), .val (.int r1), .val (.int c1), .val (.int r2), .unset, .unset, .unset, .unset, .unset, .unset, .unset, .unset, .unset, .unset, .unset, .unset, .unset] [(.int ((1 : Int32) + ((((x2.toUInt32 >>> ((16 : Int32) &&& 31).toUInt32).toInt32) &&& (65535 : Int32)) % kn)))]) _ _ _
  refine own_to (fun t k => XS.istore X4.here hx rfl (hb hby at_44) rfl (l' := #[.val (.int x0), .val (.int x1), .val (.int x2), .val (.int x3), .val (.int x4), .val (.int kn), .val (.int r1), .val (.int c1), .val (.int r2), .val (.int ((1 : Int32) + ((((x2.toUInt32 >>> ((16 : Int32) &&& 31).toUInt32).toInt32) &&& (65535 : Int32)) % kn))), .unset, .unset, .unset, .unset, .unset, .unset, .unset, .unset, .unset, .unset, .unset, .unset]) rfl k) ?_
  show own_Out p e below _ T4 (mkF m 46 #[.val (.int x0), .val (.int x1), .val (.int x2), .val (.int x3), .val (.int x4), .val (.int kn), .val (.int r1), .val (.int c1), .val (.int r2), .val (.int ((1 : Int32) + ((((x2.toUInt32 >>> ((16 : Int32) &&& 31).toUInt32).toInt32) &&& (65535 : Int32)) % kn))), .unset, .unset, .unset, .unset, .unset, .unset, .unset, .unset, .unset, .unset, .unset, .unset] []) _ _ _
  generalize hv_c2 : ((1 : Int32) + ((((x2.toUInt32 >>> ((16 : Int32) &&& 31).toUInt32).toInt32) &&& (65535 : Int32)) % kn)) = c2
  show own_Out p e below _ T4 (mkF m 46 #[.val (.int x0), .val (.int x1), .val (.int x2), .val (.int x3), .val (.int x4), .val (.int kn), .val (.int r1), .val (.int c1), .val (.int r2), .val (.int c2), .unset, .unset, .unset, .unset, .unset, .unset, .unset, .unset, .unset, .unset, .unset, .unset] []) _ _ _
  have b_c2 := own_co ((x2.toUInt32 >>> ((16 : Int32) &&& 31).toUInt32).toInt32) kn bn
  rw [hv_c2] at b_c2
  refine own_to (fun t k => XS.iloadN X4.here hx rfl (hb hby at_46) rfl k) ?_
  show own_Out p e below _ T4 (mkF m 47 #[.val (.int x0), .val (.int x1), .val (.int x2), .val (.int x3), .val (.int x4), .val (.int kn), .val (.int r1), .val (.int c1), .val (.int r2), .val (.int c2), .unset, .unset, .unset, .unset, .unset, .unset, .unset, .unset, .unset, .unset, .unset, .unset] [(.int x3)]) _ _ _
  refine own_to (fun t k => XS.iload X4.here hx rfl (hb hby at_47) rfl k) ?_
  show own_Out p e below _ T4 (mkF m 49 #[.val (.int x0), .val (.int x1), .val (.int x2), .val (.int x3), .val (.int x4), .val (.int kn), .val (.int r1), .val (.int c1), .val (.int r2), .val (.int c2), .unset, .unset, .unset, .unset, .unset, .unset, .unset, .unset, .unset, .unset, .unset, .unset] [(.int kn), (.int x3)]) _ _ _
  refine own_callS X4 hx hZ hown (argsL := [(.int x3), (.int kn)]) (rest := []) (hw _ (List.mem_of_getElem? (i := 0) rfl)) (hw _ (List.mem_of_getElem? (i := 1) rfl)) (hw _ (List.mem_of_getElem? (i := 2) rfl)) (hw _ (List.mem_of_getElem? (i := 3) rfl)) (by decide) (rm1 l Z a0 hw x3 kn h0 n0 Z0 (own_nz kn bn)) (by decide) (by decide) e4 rfl (by rw [hml]; rfl) (lenOf pd_3 rfl) rfl (W := 0) (by show 2 * 0 + _ ≤ _; exact Nat.le_of_eq rfl) (hb hby at_49) (by decide) (by decide) fun v5 T5 hh5 L5 X5 e5 hQ5 => ?_
  obtain ⟨rfl, NL5, he5⟩ := hQ5
  replace e5 := e5.trans he5
  have N5 := Fr.app N4 NL5
  show own_Out p e below _ T5 (mkF m 52 #[.val (.int x0), .val (.int x1), .val (.int x2), .val (.int x3), .val (.int x4), .val (.int kn), .val (.int r1), .val (.int c1), .val (.int r2), .val (.int c2), .unset, .unset, .unset, .unset, .unset, .unset, .unset, .unset, .unset, .unset, .unset, .unset] [(.int ((1 : Int32) + ((x3 &&& (65535 : Int32)) % kn)))]) _ _ _
  refine own_to (fun t k => XS.istore X5.here hx rfl (hb hby at_52) rfl (l' := #[.val (.int x0), .val (.int x1), .val (.int x2), .val (.int x3), .val (.int x4), .val (.int kn), .val (.int r1), .val (.int c1), .val (.int r2), .val (.int c2), .val (.int ((1 : Int32) + ((x3 &&& (65535 : Int32)) % kn))), .unset, .unset, .unset, .unset, .unset, .unset, .unset, .unset, .unset, .unset, .unset]) rfl k) ?_
  show own_Out p e below _ T5 (mkF m 54 #[.val (.int x0), .val (.int x1), .val (.int x2), .val (.int x3), .val (.int x4), .val (.int kn), .val (.int r1), .val (.int c1), .val (.int r2), .val (.int c2), .val (.int ((1 : Int32) + ((x3 &&& (65535 : Int32)) % kn))), .unset, .unset, .unset, .unset, .unset, .unset, .unset, .unset, .unset, .unset, .unset] []) _ _ _
  generalize hv_q1 : ((1 : Int32) + ((x3 &&& (65535 : Int32)) % kn)) = q1
  show own_Out p e below _ T5 (mkF m 54 #[.val (.int x0), .val (.int x1), .val (.int x2), .val (.int x3), .val (.int x4), .val (.int kn), .val (.int r1), .val (.int c1), .val (.int r2), .val (.int c2), .val (.int q1), .unset, .unset, .unset, .unset, .unset, .unset, .unset, .unset, .unset, .unset, .unset] []) _ _ _
  have b_q1 := own_co x3 kn bn
  rw [hv_q1] at b_q1
  refine own_to (fun t k => XS.iloadN X5.here hx rfl (hb hby at_54) rfl k) ?_
  show own_Out p e below _ T5 (mkF m 55 #[.val (.int x0), .val (.int x1), .val (.int x2), .val (.int x3), .val (.int x4), .val (.int kn), .val (.int r1), .val (.int c1), .val (.int r2), .val (.int c2), .val (.int q1), .unset, .unset, .unset, .unset, .unset, .unset, .unset, .unset, .unset, .unset, .unset] [(.int x3)]) _ _ _
  refine own_to (fun t k => XS.bipush X5.here hx rfl (hb hby at_55) k) ?_
  show own_Out p e below _ T5 (mkF m 57 #[.val (.int x0), .val (.int x1), .val (.int x2), .val (.int x3), .val (.int x4), .val (.int kn), .val (.int r1), .val (.int c1), .val (.int r2), .val (.int c2), .val (.int q1), .unset, .unset, .unset, .unset, .unset, .unset, .unset, .unset, .unset, .unset, .unset] [(.int (16 : Int32)), (.int x3)]) _ _ _
  refine own_to (fun t k => XS.iushr X5.here hx rfl (hb hby at_57) rfl k) ?_
  show own_Out p e below _ T5 (mkF m 58 #[.val (.int x0), .val (.int x1), .val (.int x2), .val (.int x3), .val (.int x4), .val (.int kn), .val (.int r1), .val (.int c1), .val (.int r2), .val (.int c2), .val (.int q1), .unset, .unset, .unset, .unset, .unset, .unset, .unset, .unset, .unset, .unset, .unset] [(.int ((x3.toUInt32 >>> ((16 : Int32) &&& 31).toUInt32).toInt32))]) _ _ _
  refine own_to (fun t k => XS.iload X5.here hx rfl (hb hby at_58) rfl k) ?_
  show own_Out p e below _ T5 (mkF m 60 #[.val (.int x0), .val (.int x1), .val (.int x2), .val (.int x3), .val (.int x4), .val (.int kn), .val (.int r1), .val (.int c1), .val (.int r2), .val (.int c2), .val (.int q1), .unset, .unset, .unset, .unset, .unset, .unset, .unset, .unset, .unset, .unset, .unset] [(.int kn), (.int ((x3.toUInt32 >>> ((16 : Int32) &&& 31).toUInt32).toInt32))]) _ _ _
  refine own_callS X5 hx hZ hown (argsL := [(.int ((x3.toUInt32 >>> ((16 : Int32) &&& 31).toUInt32).toInt32)), (.int kn)]) (rest := []) (hw _ (List.mem_of_getElem? (i := 0) rfl)) (hw _ (List.mem_of_getElem? (i := 1) rfl)) (hw _ (List.mem_of_getElem? (i := 2) rfl)) (hw _ (List.mem_of_getElem? (i := 3) rfl)) (by decide) (rm1 l Z a0 hw ((x3.toUInt32 >>> ((16 : Int32) &&& 31).toUInt32).toInt32) kn h0 n0 Z0 (own_nz kn bn)) (by decide) (by decide) e5 rfl (by rw [hml]; rfl) (lenOf pd_3 rfl) rfl (W := 0) (by show 2 * 0 + _ ≤ _; exact Nat.le_of_eq rfl) (hb hby at_60) (by decide) (by decide) fun v6 T6 hh6 L6 X6 e6 hQ6 => ?_
  obtain ⟨rfl, NL6, he6⟩ := hQ6
  replace e6 := e6.trans he6
  have N6 := Fr.app N5 NL6
  show own_Out p e below _ T6 (mkF m 63 #[.val (.int x0), .val (.int x1), .val (.int x2), .val (.int x3), .val (.int x4), .val (.int kn), .val (.int r1), .val (.int c1), .val (.int r2), .val (.int c2), .val (.int q1), .unset, .unset, .unset, .unset, .unset, .unset, .unset, .unset, .unset, .unset, .unset] [(.int ((1 : Int32) + ((((x3.toUInt32 >>> ((16 : Int32) &&& 31).toUInt32).toInt32) &&& (65535 : Int32)) % kn)))]) _ _ _
  refine own_to (fun t k => XS.istore X6.here hx rfl (hb hby at_63) rfl (l' := #[.val (.int x0), .val (.int x1), .val (.int x2), .val (.int x3), .val (.int x4), .val (.int kn), .val (.int r1), .val (.int c1), .val (.int r2), .val (.int c2), .val (.int q1), .val (.int ((1 : Int32) + ((((x3.toUInt32 >>> ((16 : Int32) &&& 31).toUInt32).toInt32) &&& (65535 : Int32)) % kn))), .unset, .unset, .unset, .unset, .unset, .unset, .unset, .unset, .unset, .unset]) rfl k) ?_
  show own_Out p e below _ T6 (mkF m 65 #[.val (.int x0), .val (.int x1), .val (.int x2), .val (.int x3), .val (.int x4), .val (.int kn), .val (.int r1), .val (.int c1), .val (.int r2), .val (.int c2), .val (.int q1), .val (.int ((1 : Int32) + ((((x3.toUInt32 >>> ((16 : Int32) &&& 31).toUInt32).toInt32) &&& (65535 : Int32)) % kn))), .unset, .unset, .unset, .unset, .unset, .unset, .unset, .unset, .unset, .unset] []) _ _ _
  generalize hv_q2 : ((1 : Int32) + ((((x3.toUInt32 >>> ((16 : Int32) &&& 31).toUInt32).toInt32) &&& (65535 : Int32)) % kn)) = q2
  show own_Out p e below _ T6 (mkF m 65 #[.val (.int x0), .val (.int x1), .val (.int x2), .val (.int x3), .val (.int x4), .val (.int kn), .val (.int r1), .val (.int c1), .val (.int r2), .val (.int c2), .val (.int q1), .val (.int q2), .unset, .unset, .unset, .unset, .unset, .unset, .unset, .unset, .unset, .unset] []) _ _ _
  have b_q2 := own_co ((x3.toUInt32 >>> ((16 : Int32) &&& 31).toUInt32).toInt32) kn bn
  rw [hv_q2] at b_q2
  refine own_new X6 hx hZ hown (hw _ (List.mem_of_getElem? (i := 5) rfl)) (hw _ (List.mem_of_getElem? (i := 6) rfl)) (hw _ (List.mem_of_getElem? (i := 7) rfl)) e6 rfl (hb hby at_65) (by decide) (by decide) fun T7 hh7 ob7 gb7 X7 e7 E7 A7 D7 => ?_
  have g_ob7 : n0 ≤ ob7 := Nat.le_trans Z0 (Nat.le_of_eq gb7.symm)
  have Z0 := Nat.le_trans Z0 E7.1
  have E_ob7 := A7
  have F_ob7_row : Fld Z hh7 ob7 "com/example/queenside/queenside/Square" "row" "I" (.int (0 : Int32)) := D7 (Or.inr (hw _ (List.mem_of_getElem? (i := 20) rfl))) (ty := .int) (by decide)
  have F_ob7_column : Fld Z hh7 ob7 "com/example/queenside/queenside/Square" "column" "I" (.int (0 : Int32)) := D7 (Or.inr (hw _ (List.mem_of_getElem? (i := 22) rfl))) (ty := .int) (by decide)
  show own_Out p e below _ T7 (mkF m 68 #[.val (.int x0), .val (.int x1), .val (.int x2), .val (.int x3), .val (.int x4), .val (.int kn), .val (.int r1), .val (.int c1), .val (.int r2), .val (.int c2), .val (.int q1), .val (.int q2), .unset, .unset, .unset, .unset, .unset, .unset, .unset, .unset, .unset, .unset] [(.ref ob7)]) _ _ _
  refine own_to (fun t k => XS.dup X7.here hx rfl (hb hby at_68) rfl rfl k) ?_
  show own_Out p e below _ T7 (mkF m 69 #[.val (.int x0), .val (.int x1), .val (.int x2), .val (.int x3), .val (.int x4), .val (.int kn), .val (.int r1), .val (.int c1), .val (.int r2), .val (.int c2), .val (.int q1), .val (.int q2), .unset, .unset, .unset, .unset, .unset, .unset, .unset, .unset, .unset, .unset] [(.ref ob7), (.ref ob7)]) _ _ _
  refine own_to (fun t k => XS.iload X7.here hx rfl (hb hby at_69) rfl k) ?_
  show own_Out p e below _ T7 (mkF m 71 #[.val (.int x0), .val (.int x1), .val (.int x2), .val (.int x3), .val (.int x4), .val (.int kn), .val (.int r1), .val (.int c1), .val (.int r2), .val (.int c2), .val (.int q1), .val (.int q2), .unset, .unset, .unset, .unset, .unset, .unset, .unset, .unset, .unset, .unset] [(.int r1), (.ref ob7), (.ref ob7)]) _ _ _
  refine own_to (fun t k => XS.iload X7.here hx rfl (hb hby at_71) rfl k) ?_
  show own_Out p e below _ T7 (mkF m 73 #[.val (.int x0), .val (.int x1), .val (.int x2), .val (.int x3), .val (.int x4), .val (.int kn), .val (.int r1), .val (.int c1), .val (.int r2), .val (.int c2), .val (.int q1), .val (.int q2), .unset, .unset, .unset, .unset, .unset, .unset, .unset, .unset, .unset, .unset] [(.int c1), (.int r1), (.ref ob7), (.ref ob7)]) _ _ _
  refine own_callC X7 hx hZ hown (a := ob7) (argsL := [(.int r1), (.int c1)]) (rest := [(.ref ob7)]) rfl (hw _ (List.mem_of_getElem? (i := 8) rfl)) (hw _ (List.mem_of_getElem? (i := 9) rfl)) (hw _ (List.mem_of_getElem? (i := 7) rfl)) (hw _ (List.mem_of_getElem? (i := 10) rfl)) (by decide) (rm2 l Z a0 hw ob7 r1 c1 hh7 n0 Z0 E_ob7 F_ob7_row F_ob7_column g_ob7) (by decide) (by decide) e7 rfl (by rw [hml]; rfl) (lenOf pd_4 rfl) rfl (W := 1) (by show 2 * 0 + _ ≤ _; exact Nat.le_of_eq rfl) (hb hby at_73) (by decide) (by decide) fun v8 T8 hh8 L8 X8 e8 hQ8 => ?_
  obtain ⟨rfl, NL8, KK8, P8_0, P8_1⟩ := hQ8
  have E_ob7 := E_ob7.keep KK8
  have F_ob7_row := P8_0
  have F_ob7_column := P8_1
  have Z0 := Nat.le_trans Z0 KK8.1
  have N8 := Fr.app N6 NL8
  show own_Out p e below _ T8 (mkF m 76 #[.val (.int x0), .val (.int x1), .val (.int x2), .val (.int x3), .val (.int x4), .val (.int kn), .val (.int r1), .val (.int c1), .val (.int r2), .val (.int c2), .val (.int q1), .val (.int q2), .unset, .unset, .unset, .unset, .unset, .unset, .unset, .unset, .unset, .unset] [(.ref ob7)]) _ _ _
  refine own_to (fun t k => XS.astore X8.here hx rfl (hb hby at_76) rfl rfl (l' := #[.val (.int x0), .val (.int x1), .val (.int x2), .val (.int x3), .val (.int x4), .val (.int kn), .val (.int r1), .val (.int c1), .val (.int r2), .val (.int c2), .val (.int q1), .val (.int q2), .val (.ref ob7), .unset, .unset, .unset, .unset, .unset, .unset, .unset, .unset, .unset]) rfl k) ?_
  show own_Out p e below _ T8 (mkF m 78 #[.val (.int x0), .val (.int x1), .val (.int x2), .val (.int x3), .val (.int x4), .val (.int kn), .val (.int r1), .val (.int c1), .val (.int r2), .val (.int c2), .val (.int q1), .val (.int q2), .val (.ref ob7), .unset, .unset, .unset, .unset, .unset, .unset, .unset, .unset, .unset] []) _ _ _
  refine own_new X8 hx hZ hown (hw _ (List.mem_of_getElem? (i := 5) rfl)) (hw _ (List.mem_of_getElem? (i := 6) rfl)) (hw _ (List.mem_of_getElem? (i := 7) rfl)) e8 rfl (hb hby at_78) (by decide) (by decide) fun T9 hh9 ob9 gb9 X9 e9 E9 A9 D9 => ?_
  have ne_ob7_ob9 : ob7 ≠ ob9 := Nat.ne_of_lt (Nat.lt_of_lt_of_le E_ob7.lt (Nat.le_of_eq gb9.symm))
  have ne_ob9_ob7 := Ne.symm ne_ob7_ob9
  have g_ob9 : n0 ≤ ob9 := Nat.le_trans Z0 (Nat.le_of_eq gb9.symm)
  have E_ob7 := E_ob7.ext E9
  have F_ob7_row := F_ob7_row.ext E9
  have F_ob7_column := F_ob7_column.ext E9
  have Z0 := Nat.le_trans Z0 E9.1
  have E_ob9 := A9
  have F_ob9_row : Fld Z hh9 ob9 "com/example/queenside/queenside/Square" "row" "I" (.int (0 : Int32)) := D9 (Or.inr (hw _ (List.mem_of_getElem? (i := 20) rfl))) (ty := .int) (by decide)
  have F_ob9_column : Fld Z hh9 ob9 "com/example/queenside/queenside/Square" "column" "I" (.int (0 : Int32)) := D9 (Or.inr (hw _ (List.mem_of_getElem? (i := 22) rfl))) (ty := .int) (by decide)
  show own_Out p e below _ T9 (mkF m 81 #[.val (.int x0), .val (.int x1), .val (.int x2), .val (.int x3), .val (.int x4), .val (.int kn), .val (.int r1), .val (.int c1), .val (.int r2), .val (.int c2), .val (.int q1), .val (.int q2), .val (.ref ob7), .unset, .unset, .unset, .unset, .unset, .unset, .unset, .unset, .unset] [(.ref ob9)]) _ _ _
  refine own_to (fun t k => XS.dup X9.here hx rfl (hb hby at_81) rfl rfl k) ?_
  show own_Out p e below _ T9 (mkF m 82 #[.val (.int x0), .val (.int x1), .val (.int x2), .val (.int x3), .val (.int x4), .val (.int kn), .val (.int r1), .val (.int c1), .val (.int r2), .val (.int c2), .val (.int q1), .val (.int q2), .val (.ref ob7), .unset, .unset, .unset, .unset, .unset, .unset, .unset, .unset, .unset] [(.ref ob9), (.ref ob9)]) _ _ _
  refine own_to (fun t k => XS.iload X9.here hx rfl (hb hby at_82) rfl k) ?_
  show own_Out p e below _ T9 (mkF m 84 #[.val (.int x0), .val (.int x1), .val (.int x2), .val (.int x3), .val (.int x4), .val (.int kn), .val (.int r1), .val (.int c1), .val (.int r2), .val (.int c2), .val (.int q1), .val (.int q2), .val (.ref ob7), .unset, .unset, .unset, .unset, .unset, .unset, .unset, .unset, .unset] [(.int r2), (.ref ob9), (.ref ob9)]) _ _ _
  refine own_to (fun t k => XS.iload X9.here hx rfl (hb hby at_84) rfl k) ?_
  show own_Out p e below _ T9 (mkF m 86 #[.val (.int x0), .val (.int x1), .val (.int x2), .val (.int x3), .val (.int x4), .val (.int kn), .val (.int r1), .val (.int c1), .val (.int r2), .val (.int c2), .val (.int q1), .val (.int q2), .val (.ref ob7), .unset, .unset, .unset, .unset, .unset, .unset, .unset, .unset, .unset] [(.int c2), (.int r2), (.ref ob9), (.ref ob9)]) _ _ _
  refine own_callC X9 hx hZ hown (a := ob9) (argsL := [(.int r2), (.int c2)]) (rest := [(.ref ob9)]) rfl (hw _ (List.mem_of_getElem? (i := 8) rfl)) (hw _ (List.mem_of_getElem? (i := 9) rfl)) (hw _ (List.mem_of_getElem? (i := 7) rfl)) (hw _ (List.mem_of_getElem? (i := 10) rfl)) (by decide) (rm2 l Z a0 hw ob9 r2 c2 hh9 n0 Z0 E_ob9 F_ob9_row F_ob9_column g_ob9) (by decide) (by decide) e9 rfl (by rw [hml]; rfl) (lenOf pd_4 rfl) rfl (W := 1) (by show 2 * 0 + _ ≤ _; exact Nat.le_of_eq rfl) (hb hby at_86) (by decide) (by decide) fun v10 T10 hh10 L10 X10 e10 hQ10 => ?_
  obtain ⟨rfl, NL10, KK10, P10_0, P10_1⟩ := hQ10
  have E_ob7 := E_ob7.keep KK10
  have F_ob7_row := F_ob7_row.keep KK10 (by simp [ne_ob7_ob9])
  have F_ob7_column := F_ob7_column.keep KK10 (by simp [ne_ob7_ob9])
  have E_ob9 := E_ob9.keep KK10
  have F_ob9_row := P10_0
  have F_ob9_column := P10_1
  have Z0 := Nat.le_trans Z0 KK10.1
  have N10 := Fr.app N8 NL10
  show own_Out p e below _ T10 (mkF m 89 #[.val (.int x0), .val (.int x1), .val (.int x2), .val (.int x3), .val (.int x4), .val (.int kn), .val (.int r1), .val (.int c1), .val (.int r2), .val (.int c2), .val (.int q1), .val (.int q2), .val (.ref ob7), .unset, .unset, .unset, .unset, .unset, .unset, .unset, .unset, .unset] [(.ref ob9)]) _ _ _
  refine own_to (fun t k => XS.astore X10.here hx rfl (hb hby at_89) rfl rfl (l' := #[.val (.int x0), .val (.int x1), .val (.int x2), .val (.int x3), .val (.int x4), .val (.int kn), .val (.int r1), .val (.int c1), .val (.int r2), .val (.int c2), .val (.int q1), .val (.int q2), .val (.ref ob7), .val (.ref ob9), .unset, .unset, .unset, .unset, .unset, .unset, .unset, .unset]) rfl k) ?_
  show own_Out p e below _ T10 (mkF m 91 #[.val (.int x0), .val (.int x1), .val (.int x2), .val (.int x3), .val (.int x4), .val (.int kn), .val (.int r1), .val (.int c1), .val (.int r2), .val (.int c2), .val (.int q1), .val (.int q2), .val (.ref ob7), .val (.ref ob9), .unset, .unset, .unset, .unset, .unset, .unset, .unset, .unset] []) _ _ _
  refine own_new X10 hx hZ hown (hw _ (List.mem_of_getElem? (i := 5) rfl)) (hw _ (List.mem_of_getElem? (i := 6) rfl)) (hw _ (List.mem_of_getElem? (i := 7) rfl)) e10 rfl (hb hby at_91) (by decide) (by decide) fun T11 hh11 ob11 gb11 X11 e11 E11 A11 D11 => ?_
  have ne_ob7_ob11 : ob7 ≠ ob11 := Nat.ne_of_lt (Nat.lt_of_lt_of_le E_ob7.lt (Nat.le_of_eq gb11.symm))
  have ne_ob11_ob7 := Ne.symm ne_ob7_ob11
  have ne_ob9_ob11 : ob9 ≠ ob11 := Nat.ne_of_lt (Nat.lt_of_lt_of_le E_ob9.lt (Nat.le_of_eq gb11.symm))
  have ne_ob11_ob9 := Ne.symm ne_ob9_ob11
  have g_ob11 : n0 ≤ ob11 := Nat.le_trans Z0 (Nat.le_of_eq gb11.symm)
  have E_ob7 := E_ob7.ext E11
  have F_ob7_row := F_ob7_row.ext E11
  have F_ob7_column := F_ob7_column.ext E11
  have E_ob9 := E_ob9.ext E11
  have F_ob9_row := F_ob9_row.ext E11
  have F_ob9_column := F_ob9_column.ext E11
  have Z0 := Nat.le_trans Z0 E11.1
  have E_ob11 := A11
  have F_ob11_row : Fld Z hh11 ob11 "com/example/queenside/queenside/Square" "row" "I" (.int (0 : Int32)) := D11 (Or.inr (hw _ (List.mem_of_getElem? (i := 20) rfl))) (ty := .int) (by decide)
  have F_ob11_column : Fld Z hh11 ob11 "com/example/queenside/queenside/Square" "column" "I" (.int (0 : Int32)) := D11 (Or.inr (hw _ (List.mem_of_getElem? (i := 22) rfl))) (ty := .int) (by decide)
  show own_Out p e below _ T11 (mkF m 94 #[.val (.int x0), .val (.int x1), .val (.int x2), .val (.int x3), .val (.int x4), .val (.int kn), .val (.int r1), .val (.int c1), .val (.int r2), .val (.int c2), .val (.int q1), .val (.int q2), .val (.ref ob7), .val (.ref ob9), .unset, .unset, .unset, .unset, .unset, .unset, .unset, .unset] [(.ref ob11)]) _ _ _
  refine own_to (fun t k => XS.dup X11.here hx rfl (hb hby at_94) rfl rfl k) ?_
  show own_Out p e below _ T11 (mkF m 95 #[.val (.int x0), .val (.int x1), .val (.int x2), .val (.int x3), .val (.int x4), .val (.int kn), .val (.int r1), .val (.int c1), .val (.int r2), .val (.int c2), .val (.int q1), .val (.int q2), .val (.ref ob7), .val (.ref ob9), .unset, .unset, .unset, .unset, .unset, .unset, .unset, .unset] [(.ref ob11), (.ref ob11)]) _ _ _
  refine own_to (fun t k => XS.iload X11.here hx rfl (hb hby at_95) rfl k) ?_
  show own_Out p e below _ T11 (mkF m 97 #[.val (.int x0), .val (.int x1), .val (.int x2), .val (.int x3), .val (.int x4), .val (.int kn), .val (.int r1), .val (.int c1), .val (.int r2), .val (.int c2), .val (.int q1), .val (.int q2), .val (.ref ob7), .val (.ref ob9), .unset, .unset, .unset, .unset, .unset, .unset, .unset, .unset] [(.int q1), (.ref ob11), (.ref ob11)]) _ _ _
  refine own_to (fun t k => XS.iload X11.here hx rfl (hb hby at_97) rfl k) ?_
  show own_Out p e below _ T11 (mkF m 99 #[.val (.int x0), .val (.int x1), .val (.int x2), .val (.int x3), .val (.int x4), .val (.int kn), .val (.int r1), .val (.int c1), .val (.int r2), .val (.int c2), .val (.int q1), .val (.int q2), .val (.ref ob7), .val (.ref ob9), .unset, .unset, .unset, .unset, .unset, .unset, .unset, .unset] [(.int q2), (.int q1), (.ref ob11), (.ref ob11)]) _ _ _
  refine own_callC X11 hx hZ hown (a := ob11) (argsL := [(.int q1), (.int q2)]) (rest := [(.ref ob11)]) rfl (hw _ (List.mem_of_getElem? (i := 8) rfl)) (hw _ (List.mem_of_getElem? (i := 9) rfl)) (hw _ (List.mem_of_getElem? (i := 7) rfl)) (hw _ (List.mem_of_getElem? (i := 10) rfl)) (by decide) (rm2 l Z a0 hw ob11 q1 q2 hh11 n0 Z0 E_ob11 F_ob11_row F_ob11_column g_ob11) (by decide) (by decide) e11 rfl (by rw [hml]; rfl) (lenOf pd_4 rfl) rfl (W := 1) (by show 2 * 0 + _ ≤ _; exact Nat.le_of_eq rfl) (hb hby at_99) (by decide) (by decide) fun v12 T12 hh12 L12 X12 e12 hQ12 => ?_
  obtain ⟨rfl, NL12, KK12, P12_0, P12_1⟩ := hQ12
  have E_ob7 := E_ob7.keep KK12
  have F_ob7_row := F_ob7_row.keep KK12 (by simp [ne_ob7_ob11])
  have F_ob7_column := F_ob7_column.keep KK12 (by simp [ne_ob7_ob11])
  have E_ob9 := E_ob9.keep KK12
  have F_ob9_row := F_ob9_row.keep KK12 (by simp [ne_ob9_ob11])
  have F_ob9_column := F_ob9_column.keep KK12 (by simp [ne_ob9_ob11])
  have E_ob11 := E_ob11.keep KK12
  have F_ob11_row := P12_0
  have F_ob11_column := P12_1
  have Z0 := Nat.le_trans Z0 KK12.1
  have N12 := Fr.app N10 NL12
  show own_Out p e below _ T12 (mkF m 102 #[.val (.int x0), .val (.int x1), .val (.int x2), .val (.int x3), .val (.int x4), .val (.int kn), .val (.int r1), .val (.int c1), .val (.int r2), .val (.int c2), .val (.int q1), .val (.int q2), .val (.ref ob7), .val (.ref ob9), .unset, .unset, .unset, .unset, .unset, .unset, .unset, .unset] [(.ref ob11)]) _ _ _
  refine own_to (fun t k => XS.astore X12.here hx rfl (hb hby at_102) rfl rfl (l' := #[.val (.int x0), .val (.int x1), .val (.int x2), .val (.int x3), .val (.int x4), .val (.int kn), .val (.int r1), .val (.int c1), .val (.int r2), .val (.int c2), .val (.int q1), .val (.int q2), .val (.ref ob7), .val (.ref ob9), .val (.ref ob11), .unset, .unset, .unset, .unset, .unset, .unset, .unset]) rfl k) ?_
  show own_Out p e below _ T12 (mkF m 104 #[.val (.int x0), .val (.int x1), .val (.int x2), .val (.int x3), .val (.int x4), .val (.int kn), .val (.int r1), .val (.int c1), .val (.int r2), .val (.int c2), .val (.int q1), .val (.int q2), .val (.ref ob7), .val (.ref ob9), .val (.ref ob11), .unset, .unset, .unset, .unset, .unset, .unset, .unset] []) _ _ _
  refine own_new X12 hx hZ hown (hw _ (List.mem_of_getElem? (i := 23) rfl)) (hw _ (List.mem_of_getElem? (i := 24) rfl)) (hw _ (List.mem_of_getElem? (i := 25) rfl)) e12 rfl (hb hby at_104) (by decide) (by decide) fun T13 hh13 ob13 gb13 X13 e13 E13 A13 D13 => ?_
  have ne_ob7_ob13 : ob7 ≠ ob13 := Nat.ne_of_lt (Nat.lt_of_lt_of_le E_ob7.lt (Nat.le_of_eq gb13.symm))
  have ne_ob13_ob7 := Ne.symm ne_ob7_ob13
  have ne_ob9_ob13 : ob9 ≠ ob13 := Nat.ne_of_lt (Nat.lt_of_lt_of_le E_ob9.lt (Nat.le_of_eq gb13.symm))
  have ne_ob13_ob9 := Ne.symm ne_ob9_ob13
  have ne_ob11_ob13 : ob11 ≠ ob13 := Nat.ne_of_lt (Nat.lt_of_lt_of_le E_ob11.lt (Nat.le_of_eq gb13.symm))
  have ne_ob13_ob11 := Ne.symm ne_ob11_ob13
  have g_ob13 : n0 ≤ ob13 := Nat.le_trans Z0 (Nat.le_of_eq gb13.symm)
  have E_ob7 := E_ob7.ext E13
  have F_ob7_row := F_ob7_row.ext E13
  have F_ob7_column := F_ob7_column.ext E13
  have E_ob9 := E_ob9.ext E13
  have F_ob9_row := F_ob9_row.ext E13
  have F_ob9_column := F_ob9_column.ext E13
  have E_ob11 := E_ob11.ext E13
  have F_ob11_row := F_ob11_row.ext E13
  have F_ob11_column := F_ob11_column.ext E13
  have Z0 := Nat.le_trans Z0 E13.1
  have E_ob13 := A13
  have F_ob13_size : Fld Z hh13 ob13 "com/example/queenside/queenside/Lines" "size" "I" (.int (0 : Int32)) := D13 (Or.inr (hw _ (List.mem_of_getElem? (i := 31) rfl))) (ty := .int) (by decide)
  have F_ob13_rows : Fld Z hh13 ob13 "com/example/queenside/queenside/Lines" "rows" "[Z" .null := D13 (Or.inr (hw _ (List.mem_of_getElem? (i := 34) rfl))) (ty := (.array .boolean)) (by decide)
  have F_ob13_downs : Fld Z hh13 ob13 "com/example/queenside/queenside/Lines" "downs" "[Z" .null := D13 (Or.inr (hw _ (List.mem_of_getElem? (i := 36) rfl))) (ty := (.array .boolean)) (by decide)
  have F_ob13_ups : Fld Z hh13 ob13 "com/example/queenside/queenside/Lines" "ups" "[Z" .null := D13 (Or.inr (hw _ (List.mem_of_getElem? (i := 38) rfl))) (ty := (.array .boolean)) (by decide)
  show own_Out p e below _ T13 (mkF m 107 #[.val (.int x0), .val (.int x1), .val (.int x2), .val (.int x3), .val (.int x4), .val (.int kn), .val (.int r1), .val (.int c1), .val (.int r2), .val (.int c2), .val (.int q1), .val (.int q2), .val (.ref ob7), .val (.ref ob9), .val (.ref ob11), .unset, .unset, .unset, .unset, .unset, .unset, .unset] [(.ref ob13)]) _ _ _
  refine own_to (fun t k => XS.dup X13.here hx rfl (hb hby at_107) rfl rfl k) ?_
  show own_Out p e below _ T13 (mkF m 108 #[.val (.int x0), .val (.int x1), .val (.int x2), .val (.int x3), .val (.int x4), .val (.int kn), .val (.int r1), .val (.int c1), .val (.int r2), .val (.int c2), .val (.int q1), .val (.int q2), .val (.ref ob7), .val (.ref ob9), .val (.ref ob11), .unset, .unset, .unset, .unset, .unset, .unset, .unset] [(.ref ob13), (.ref ob13)]) _ _ _
  refine own_to (fun t k => XS.iload X13.here hx rfl (hb hby at_108) rfl k) ?_
  show own_Out p e below _ T13 (mkF m 110 #[.val (.int x0), .val (.int x1), .val (.int x2), .val (.int x3), .val (.int x4), .val (.int kn), .val (.int r1), .val (.int c1), .val (.int r2), .val (.int c2), .val (.int q1), .val (.int q2), .val (.ref ob7), .val (.ref ob9), .val (.ref ob11), .unset, .unset, .unset, .unset, .unset, .unset, .unset] [(.int kn), (.ref ob13), (.ref ob13)]) _ _ _
  refine own_callC X13 hx hZ hown (a := ob13) (argsL := [(.int kn)]) (rest := [(.ref ob13)]) rfl (hw _ (List.mem_of_getElem? (i := 26) rfl)) (hw _ (List.mem_of_getElem? (i := 27) rfl)) (hw _ (List.mem_of_getElem? (i := 25) rfl)) (hw _ (List.mem_of_getElem? (i := 28) rfl)) (by decide) (rm5 l Z a0 hw ob13 kn hh13 n0 Z0 E_ob13 F_ob13_size F_ob13_rows F_ob13_downs F_ob13_ups g_ob13 bn) (by decide) (by decide) e13 rfl (by rw [hml]; rfl) (lenOf pd_5 rfl) rfl (W := 1) (by show 2 * 0 + _ ≤ _; exact Nat.le_of_eq rfl) (hb hby at_110) (by decide) (by decide) fun v14 T14 hh14 L14 X14 e14 hQ14 => ?_
  obtain ⟨rfl, NL14, KK14, ob14ar, ob14ad, ob14au, szc_ob14ar, szc_ob14ad, szc_ob14au, ne_ob14ar_ob14ad, ne_ob14ar_ob14au, ne_ob14ad_ob14au, P14_0, P14_1, P14_2, P14_3, P14_4, P14_5, P14_6⟩ := hQ14
  have ne_ob14ad_ob14ar := Ne.symm ne_ob14ar_ob14ad
  have ne_ob14au_ob14ar := Ne.symm ne_ob14ar_ob14au
  have ne_ob14au_ob14ad := Ne.symm ne_ob14ad_ob14au
  have ne_ob7_ob14ar : ob7 ≠ ob14ar := Nat.ne_of_lt (Nat.lt_of_lt_of_le E_ob7.lt szc_ob14ar)
  have ne_ob14ar_ob7 := Ne.symm ne_ob7_ob14ar
  have ne_ob9_ob14ar : ob9 ≠ ob14ar := Nat.ne_of_lt (Nat.lt_of_lt_of_le E_ob9.lt szc_ob14ar)
  have ne_ob14ar_ob9 := Ne.symm ne_ob9_ob14ar
  have ne_ob11_ob14ar : ob11 ≠ ob14ar := Nat.ne_of_lt (Nat.lt_of_lt_of_le E_ob11.lt szc_ob14ar)
  have ne_ob14ar_ob11 := Ne.symm ne_ob11_ob14ar
  have ne_ob13_ob14ar : ob13 ≠ ob14ar := Nat.ne_of_lt (Nat.lt_of_lt_of_le E_ob13.lt szc_ob14ar)
  have ne_ob14ar_ob13 := Ne.symm ne_ob13_ob14ar
  have g_ob14ar : n0 ≤ ob14ar := Nat.le_trans Z0 szc_ob14ar
  have ne_ob7_ob14ad : ob7 ≠ ob14ad := Nat.ne_of_lt (Nat.lt_of_lt_of_le E_ob7.lt szc_ob14ad)
  have ne_ob14ad_ob7 := Ne.symm ne_ob7_ob14ad
  have ne_ob9_ob14ad : ob9 ≠ ob14ad := Nat.ne_of_lt (Nat.lt_of_lt_of_le E_ob9.lt szc_ob14ad)
  have ne_ob14ad_ob9 := Ne.symm ne_ob9_ob14ad
  have ne_ob11_ob14ad : ob11 ≠ ob14ad := Nat.ne_of_lt (Nat.lt_of_lt_of_le E_ob11.lt szc_ob14ad)
  have ne_ob14ad_ob11 := Ne.symm ne_ob11_ob14ad
  have ne_ob13_ob14ad : ob13 ≠ ob14ad := Nat.ne_of_lt (Nat.lt_of_lt_of_le E_ob13.lt szc_ob14ad)
  have ne_ob14ad_ob13 := Ne.symm ne_ob13_ob14ad
  have g_ob14ad : n0 ≤ ob14ad := Nat.le_trans Z0 szc_ob14ad
  have ne_ob7_ob14au : ob7 ≠ ob14au := Nat.ne_of_lt (Nat.lt_of_lt_of_le E_ob7.lt szc_ob14au)
  have ne_ob14au_ob7 := Ne.symm ne_ob7_ob14au
  have ne_ob9_ob14au : ob9 ≠ ob14au := Nat.ne_of_lt (Nat.lt_of_lt_of_le E_ob9.lt szc_ob14au)
  have ne_ob14au_ob9 := Ne.symm ne_ob9_ob14au
  have ne_ob11_ob14au : ob11 ≠ ob14au := Nat.ne_of_lt (Nat.lt_of_lt_of_le E_ob11.lt szc_ob14au)
  have ne_ob14au_ob11 := Ne.symm ne_ob11_ob14au
  have ne_ob13_ob14au : ob13 ≠ ob14au := Nat.ne_of_lt (Nat.lt_of_lt_of_le E_ob13.lt szc_ob14au)
  have ne_ob14au_ob13 := Ne.symm ne_ob13_ob14au
  have g_ob14au : n0 ≤ ob14au := Nat.le_trans Z0 szc_ob14au
  have E_ob7 := E_ob7.keep KK14
  have F_ob7_row := F_ob7_row.keep KK14 (by simp [ne_ob7_ob13])
  have F_ob7_column := F_ob7_column.keep KK14 (by simp [ne_ob7_ob13])
  have E_ob9 := E_ob9.keep KK14
  have F_ob9_row := F_ob9_row.keep KK14 (by simp [ne_ob9_ob13])
  have F_ob9_column := F_ob9_column.keep KK14 (by simp [ne_ob9_ob13])
  have E_ob11 := E_ob11.keep KK14
  have F_ob11_row := F_ob11_row.keep KK14 (by simp [ne_ob11_ob13])
  have F_ob11_column := F_ob11_column.keep KK14 (by simp [ne_ob11_ob13])
  have E_ob13 := E_ob13.keep KK14
  have F_ob13_size := P14_0
  have F_ob13_rows := P14_1
  have F_ob13_downs := P14_2
  have F_ob13_ups := P14_3
  have A_ob14ar := P14_4
  have A_ob14ad := P14_5
  have A_ob14au := P14_6
  have Z0 := Nat.le_trans Z0 KK14.1
  have N14 := Fr.app N12 NL14
  show own_Out p e below _ T14 (mkF m 113 #[.val (.int x0), .val (.int x1), .val (.int x2), .val (.int x3), .val (.int x4), .val (.int kn), .val (.int r1), .val (.int c1), .val (.int r2), .val (.int c2), .val (.int q1), .val (.int q2), .val (.ref ob7), .val (.ref ob9), .val (.ref ob11), .unset, .unset, .unset, .unset, .unset, .unset, .unset] [(.ref ob13)]) _ _ _
  refine own_to (fun t k => XS.astore X14.here hx rfl (hb hby at_113) rfl rfl (l' := #[.val (.int x0), .val (.int x1), .val (.int x2), .val (.int x3), .val (.int x4), .val (.int kn), .val (.int r1), .val (.int c1), .val (.int r2), .val (.int c2), .val (.int q1), .val (.int q2), .val (.ref ob7), .val (.ref ob9), .val (.ref ob11), .val (.ref ob13), .unset, .unset, .unset, .unset, .unset, .unset]) rfl k) ?_
  show own_Out p e below _ T14 (mkF m 115 #[.val (.int x0), .val (.int x1), .val (.int x2), .val (.int x3), .val (.int x4), .val (.int kn), .val (.int r1), .val (.int c1), .val (.int r2), .val (.int c2), .val (.int q1), .val (.int q2), .val (.ref ob7), .val (.ref ob9), .val (.ref ob11), .val (.ref ob13), .unset, .unset, .unset, .unset, .unset, .unset] []) _ _ _
  refine own_to (fun t k => XS.aload X14.here hx rfl (hb hby at_115) rfl rfl k) ?_
  show own_Out p e below _ T14 (mkF m 117 #[.val (.int x0), .val (.int x1), .val (.int x2), .val (.int x3), .val (.int x4), .val (.int kn), .val (.int r1), .val (.int c1), .val (.int r2), .val (.int c2), .val (.int q1), .val (.int q2), .val (.ref ob7), .val (.ref ob9), .val (.ref ob11), .val (.ref ob13), .unset, .unset, .unset, .unset, .unset, .unset] [(.ref ob13)]) _ _ _
  refine own_to (fun t k => XS.aload X14.here hx rfl (hb hby at_117) rfl rfl k) ?_
  show own_Out p e below _ T14 (mkF m 119 #[.val (.int x0), .val (.int x1), .val (.int x2), .val (.int x3), .val (.int x4), .val (.int kn), .val (.int r1), .val (.int c1), .val (.int r2), .val (.int c2), .val (.int q1), .val (.int q2), .val (.ref ob7), .val (.ref ob9), .val (.ref ob11), .val (.ref ob13), .unset, .unset, .unset, .unset, .unset, .unset] [(.ref ob11), (.ref ob13)]) _ _ _
  refine own_callV X14 hx hZ hown (a := ob13) (argsL := [(.ref ob11)]) (rest := []) (hw _ (List.mem_of_getElem? (i := 39) rfl)) (hw _ (List.mem_of_getElem? (i := 40) rfl)) (hw _ (List.mem_of_getElem? (i := 42) rfl)) (hw _ (List.mem_of_getElem? (i := 41) rfl)) (hw _ (List.mem_of_getElem? (i := 25) rfl)) (hw _ (List.mem_of_getElem? (i := 43) rfl)) (by decide) (rm6 l Z a0 hw ob13 ob11 q1 q2 kn ob14ar ob14ad ob14au (fun _ => 0) (fun _ => 0) (fun _ => 0) hh14 n0 Z0 E_ob13 E_ob11 F_ob11_row F_ob11_column F_ob13_size F_ob13_rows F_ob13_downs F_ob13_ups A_ob14ar A_ob14ad A_ob14au bn b_q1 b_q2) (by decide) (by decide) e14 E_ob13 rfl (by rw [hml]; rfl) (lenOf pd_6 rfl) rfl (W := 0) (by show 2 * 0 + _ ≤ _; exact Nat.le_of_eq rfl) (hb hby at_119) (by decide) (by decide) fun v15 T15 hh15 L15 X15 e15 hQ15 => ?_
  obtain ⟨rfl, NL15, he15⟩ := hQ15
  replace e15 := e15.trans he15
  have N15 := Fr.app N14 NL15
  show own_Out p e below _ T15 (mkF m 122 #[.val (.int x0), .val (.int x1), .val (.int x2), .val (.int x3), .val (.int x4), .val (.int kn), .val (.int r1), .val (.int c1), .val (.int r2), .val (.int c2), .val (.int q1), .val (.int q2), .val (.ref ob7), .val (.ref ob9), .val (.ref ob11), .val (.ref ob13), .unset, .unset, .unset, .unset, .unset, .unset] [(.int (R6 ob13 ob11 q1 q2 kn ob14ar ob14ad ob14au (fun _ => 0) (fun _ => 0) (fun _ => 0)))]) _ _ _
  rw [own_free0]
  show own_Out p e below _ T15 (mkF m 122 #[.val (.int x0), .val (.int x1), .val (.int x2), .val (.int x3), .val (.int x4), .val (.int kn), .val (.int r1), .val (.int c1), .val (.int r2), .val (.int c2), .val (.int q1), .val (.int q2), .val (.ref ob7), .val (.ref ob9), .val (.ref ob11), .val (.ref ob13), .unset, .unset, .unset, .unset, .unset, .unset] [(.int (1 : Int32))]) _ _ _
  refine own_to (fun t k => XS.istore X15.here hx rfl (hb hby at_122) rfl (l' := #[.val (.int x0), .val (.int x1), .val (.int x2), .val (.int x3), .val (.int x4), .val (.int kn), .val (.int r1), .val (.int c1), .val (.int r2), .val (.int c2), .val (.int q1), .val (.int q2), .val (.ref ob7), .val (.ref ob9), .val (.ref ob11), .val (.ref ob13), .val (.int (1 : Int32)), .unset, .unset, .unset, .unset, .unset]) rfl k) ?_
  show own_Out p e below _ T15 (mkF m 124 #[.val (.int x0), .val (.int x1), .val (.int x2), .val (.int x3), .val (.int x4), .val (.int kn), .val (.int r1), .val (.int c1), .val (.int r2), .val (.int c2), .val (.int q1), .val (.int q2), .val (.ref ob7), .val (.ref ob9), .val (.ref ob11), .val (.ref ob13), .val (.int (1 : Int32)), .unset, .unset, .unset, .unset, .unset] []) _ _ _
  refine own_to (fun t k => XS.iload X15.here hx rfl (hb hby at_124) rfl k) ?_
  show own_Out p e below _ T15 (mkF m 126 #[.val (.int x0), .val (.int x1), .val (.int x2), .val (.int x3), .val (.int x4), .val (.int kn), .val (.int r1), .val (.int c1), .val (.int r2), .val (.int c2), .val (.int q1), .val (.int q2), .val (.ref ob7), .val (.ref ob9), .val (.ref ob11), .val (.ref ob13), .val (.int (1 : Int32)), .unset, .unset, .unset, .unset, .unset] [(.int x4)]) _ _ _
  refine own_to (fun t k => XS.iconst X15.here hx rfl (hb hby at_126) k) ?_
  show own_Out p e below _ T15 (mkF m 127 #[.val (.int x0), .val (.int x1), .val (.int x2), .val (.int x3), .val (.int x4), .val (.int kn), .val (.int r1), .val (.int c1), .val (.int r2), .val (.int c2), .val (.int q1), .val (.int q2), .val (.ref ob7), .val (.ref ob9), .val (.ref ob11), .val (.ref ob13), .val (.int (1 : Int32)), .unset, .unset, .unset, .unset, .unset] [(.int (3 : Int32)), (.int x4)]) _ _ _
  refine own_to (fun t k => XS.iand X15.here hx rfl (hb hby at_127) rfl k) ?_
  show own_Out p e below _ T15 (mkF m 128 #[.val (.int x0), .val (.int x1), .val (.int x2), .val (.int x3), .val (.int x4), .val (.int kn), .val (.int r1), .val (.int c1), .val (.int r2), .val (.int c2), .val (.int q1), .val (.int q2), .val (.ref ob7), .val (.ref ob9), .val (.ref ob11), .val (.ref ob13), .val (.int (1 : Int32)), .unset, .unset, .unset, .unset, .unset] [(.int (x4 &&& (3 : Int32)))]) _ _ _
  refine own_to (fun t k => XS.istore X15.here hx rfl (hb hby at_128) rfl (l' := #[.val (.int x0), .val (.int x1), .val (.int x2), .val (.int x3), .val (.int x4), .val (.int kn), .val (.int r1), .val (.int c1), .val (.int r2), .val (.int c2), .val (.int q1), .val (.int q2), .val (.ref ob7), .val (.ref ob9), .val (.ref ob11), .val (.ref ob13), .val (.int (1 : Int32)), .val (.int (x4 &&& (3 : Int32))), .unset, .unset, .unset, .unset]) rfl k) ?_
  show own_Out p e below _ T15 (mkF m 130 #[.val (.int x0), .val (.int x1), .val (.int x2), .val (.int x3), .val (.int x4), .val (.int kn), .val (.int r1), .val (.int c1), .val (.int r2), .val (.int c2), .val (.int q1), .val (.int q2), .val (.ref ob7), .val (.ref ob9), .val (.ref ob11), .val (.ref ob13), .val (.int (1 : Int32)), .val (.int (x4 &&& (3 : Int32))), .unset, .unset, .unset, .unset] []) _ _ _
  generalize hv_kk : (x4 &&& (3 : Int32)) = kk
  show own_Out p e below _ T15 (mkF m 130 #[.val (.int x0), .val (.int x1), .val (.int x2), .val (.int x3), .val (.int x4), .val (.int kn), .val (.int r1), .val (.int c1), .val (.int r2), .val (.int c2), .val (.int q1), .val (.int q2), .val (.ref ob7), .val (.ref ob9), .val (.ref ob11), .val (.ref ob13), .val (.int (1 : Int32)), .val (.int kk), .unset, .unset, .unset, .unset] []) _ _ _
  have hk4 := own_k4 x4
  rw [hv_kk] at hk4
  rcases hk4 with hk_kk | hk_kk | hk_kk | hk_kk
  · subst hk_kk
    show own_Out p e below _ T15 (mkF m 130 #[.val (.int x0), .val (.int x1), .val (.int x2), .val (.int x3), .val (.int x4), .val (.int kn), .val (.int r1), .val (.int c1), .val (.int r2), .val (.int c2), .val (.int q1), .val (.int q2), .val (.ref ob7), .val (.ref ob9), .val (.ref ob11), .val (.ref ob13), .val (.int (1 : Int32)), .val (.int (0 : Int32)), .unset, .unset, .unset, .unset] []) _ _ _
    refine own_to (fun t k => XS.iload X15.here hx rfl (hb hby at_130) rfl k) ?_
    show own_Out p e below _ T15 (mkF m 132 #[.val (.int x0), .val (.int x1), .val (.int x2), .val (.int x3), .val (.int x4), .val (.int kn), .val (.int r1), .val (.int c1), .val (.int r2), .val (.int c2), .val (.int q1), .val (.int q2), .val (.ref ob7), .val (.ref ob9), .val (.ref ob11), .val (.ref ob13), .val (.int (1 : Int32)), .val (.int (0 : Int32)), .unset, .unset, .unset, .unset] [(.int (0 : Int32))]) _ _ _
    refine own_to (fun t k => XS.iconst X15.here hx rfl (hb hby at_132) k) ?_
    show own_Out p e below _ T15 (mkF m 133 #[.val (.int x0), .val (.int x1), .val (.int x2), .val (.int x3), .val (.int x4), .val (.int kn), .val (.int r1), .val (.int c1), .val (.int r2), .val (.int c2), .val (.int q1), .val (.int q2), .val (.ref ob7), .val (.ref ob9), .val (.ref ob11), .val (.ref ob13), .val (.int (1 : Int32)), .val (.int (0 : Int32)), .unset, .unset, .unset, .unset] [(.int (1 : Int32)), (.int (0 : Int32))]) _ _ _
    have hc133 : (0 : Int32) < (1 : Int32) := by decide
    refine own_to (fun t k => XS.icmpYes X15.here hx rfl (pc0 := 133) (pc' := 140) rfl (hb hby at_133) rfl (tlt hc133).1 (by decide) (by decide) k) ?_
    show own_Out p e below _ T15 (mkF m 140 #[.val (.int x0), .val (.int x1), .val (.int x2), .val (.int x3), .val (.int x4), .val (.int kn), .val (.int r1), .val (.int c1), .val (.int r2), .val (.int c2), .val (.int q1), .val (.int q2), .val (.ref ob7), .val (.ref ob9), .val (.ref ob11), .val (.ref ob13), .val (.int (1 : Int32)), .val (.int (0 : Int32)), .unset, .unset, .unset, .unset] []) _ _ _
    refine own_to (fun t k => XS.iconst X15.here hx rfl (hb hby at_140) k) ?_
    show own_Out p e below _ T15 (mkF m 141 #[.val (.int x0), .val (.int x1), .val (.int x2), .val (.int x3), .val (.int x4), .val (.int kn), .val (.int r1), .val (.int c1), .val (.int r2), .val (.int c2), .val (.int q1), .val (.int q2), .val (.ref ob7), .val (.ref ob9), .val (.ref ob11), .val (.ref ob13), .val (.int (1 : Int32)), .val (.int (0 : Int32)), .unset, .unset, .unset, .unset] [(.int (0 : Int32))]) _ _ _
    refine own_to (fun t k => XS.istore X15.here hx rfl (hb hby at_141) rfl (l' := #[.val (.int x0), .val (.int x1), .val (.int x2), .val (.int x3), .val (.int x4), .val (.int kn), .val (.int r1), .val (.int c1), .val (.int r2), .val (.int c2), .val (.int q1), .val (.int q2), .val (.ref ob7), .val (.ref ob9), .val (.ref ob11), .val (.ref ob13), .val (.int (1 : Int32)), .val (.int (0 : Int32)), .val (.int (0 : Int32)), .unset, .unset, .unset]) rfl k) ?_
    show own_Out p e below _ T15 (mkF m 143 #[.val (.int x0), .val (.int x1), .val (.int x2), .val (.int x3), .val (.int x4), .val (.int kn), .val (.int r1), .val (.int c1), .val (.int r2), .val (.int c2), .val (.int q1), .val (.int q2), .val (.ref ob7), .val (.ref ob9), .val (.ref ob11), .val (.ref ob13), .val (.int (1 : Int32)), .val (.int (0 : Int32)), .val (.int (0 : Int32)), .unset, .unset, .unset] []) _ _ _
    refine own_to (fun t k => XS.iload X15.here hx rfl (hb hby at_143) rfl k) ?_
    show own_Out p e below _ T15 (mkF m 145 #[.val (.int x0), .val (.int x1), .val (.int x2), .val (.int x3), .val (.int x4), .val (.int kn), .val (.int r1), .val (.int c1), .val (.int r2), .val (.int c2), .val (.int q1), .val (.int q2), .val (.ref ob7), .val (.ref ob9), .val (.ref ob11), .val (.ref ob13), .val (.int (1 : Int32)), .val (.int (0 : Int32)), .val (.int (0 : Int32)), .unset, .unset, .unset] [(.int (0 : Int32))]) _ _ _
    refine own_to (fun t k => XS.iconst X15.here hx rfl (hb hby at_145) k) ?_
    show own_Out p e below _ T15 (mkF m 146 #[.val (.int x0), .val (.int x1), .val (.int x2), .val (.int x3), .val (.int x4), .val (.int kn), .val (.int r1), .val (.int c1), .val (.int r2), .val (.int c2), .val (.int q1), .val (.int q2), .val (.ref ob7), .val (.ref ob9), .val (.ref ob11), .val (.ref ob13), .val (.int (1 : Int32)), .val (.int (0 : Int32)), .val (.int (0 : Int32)), .unset, .unset, .unset] [(.int (2 : Int32)), (.int (0 : Int32))]) _ _ _
    have hc146 : (0 : Int32) < (2 : Int32) := by decide
    refine own_to (fun t k => XS.icmpYes X15.here hx rfl (pc0 := 146) (pc' := 153) rfl (hb hby at_146) rfl (tlt hc146).1 (by decide) (by decide) k) ?_
    show own_Out p e below _ T15 (mkF m 153 #[.val (.int x0), .val (.int x1), .val (.int x2), .val (.int x3), .val (.int x4), .val (.int kn), .val (.int r1), .val (.int c1), .val (.int r2), .val (.int c2), .val (.int q1), .val (.int q2), .val (.ref ob7), .val (.ref ob9), .val (.ref ob11), .val (.ref ob13), .val (.int (1 : Int32)), .val (.int (0 : Int32)), .val (.int (0 : Int32)), .unset, .unset, .unset] []) _ _ _
    refine own_to (fun t k => XS.iconst X15.here hx rfl (hb hby at_153) k) ?_
    show own_Out p e below _ T15 (mkF m 154 #[.val (.int x0), .val (.int x1), .val (.int x2), .val (.int x3), .val (.int x4), .val (.int kn), .val (.int r1), .val (.int c1), .val (.int r2), .val (.int c2), .val (.int q1), .val (.int q2), .val (.ref ob7), .val (.ref ob9), .val (.ref ob11), .val (.ref ob13), .val (.int (1 : Int32)), .val (.int (0 : Int32)), .val (.int (0 : Int32)), .unset, .unset, .unset] [(.int (0 : Int32))]) _ _ _
    refine own_to (fun t k => XS.istore X15.here hx rfl (hb hby at_154) rfl (l' := #[.val (.int x0), .val (.int x1), .val (.int x2), .val (.int x3), .val (.int x4), .val (.int kn), .val (.int r1), .val (.int c1), .val (.int r2), .val (.int c2), .val (.int q1), .val (.int q2), .val (.ref ob7), .val (.ref ob9), .val (.ref ob11), .val (.ref ob13), .val (.int (1 : Int32)), .val (.int (0 : Int32)), .val (.int (0 : Int32)), .val (.int (0 : Int32)), .unset, .unset]) rfl k) ?_
    show own_Out p e below _ T15 (mkF m 156 #[.val (.int x0), .val (.int x1), .val (.int x2), .val (.int x3), .val (.int x4), .val (.int kn), .val (.int r1), .val (.int c1), .val (.int r2), .val (.int c2), .val (.int q1), .val (.int q2), .val (.ref ob7), .val (.ref ob9), .val (.ref ob11), .val (.ref ob13), .val (.int (1 : Int32)), .val (.int (0 : Int32)), .val (.int (0 : Int32)), .val (.int (0 : Int32)), .unset, .unset] []) _ _ _
    refine own_to (fun t k => XS.iload X15.here hx rfl (hb hby at_156) rfl k) ?_
    show own_Out p e below _ T15 (mkF m 158 #[.val (.int x0), .val (.int x1), .val (.int x2), .val (.int x3), .val (.int x4), .val (.int kn), .val (.int r1), .val (.int c1), .val (.int r2), .val (.int c2), .val (.int q1), .val (.int q2), .val (.ref ob7), .val (.ref ob9), .val (.ref ob11), .val (.ref ob13), .val (.int (1 : Int32)), .val (.int (0 : Int32)), .val (.int (0 : Int32)), .val (.int (0 : Int32)), .unset, .unset] [(.int (0 : Int32))]) _ _ _
    have hc158 : (0 : Int32) = (0 : Int32) := by decide
    refine own_to (fun t k => XS.ifYes X15.here hx rfl (pc0 := 158) (pc' := 168) rfl (hb hby at_158) rfl ((if0 _ _).trans (teq hc158).1) (by decide) (by decide) k) ?_
    show own_Out p e below _ T15 (mkF m 168 #[.val (.int x0), .val (.int x1), .val (.int x2), .val (.int x3), .val (.int x4), .val (.int kn), .val (.int r1), .val (.int c1), .val (.int r2), .val (.int c2), .val (.int q1), .val (.int q2), .val (.ref ob7), .val (.ref ob9), .val (.ref ob11), .val (.ref ob13), .val (.int (1 : Int32)), .val (.int (0 : Int32)), .val (.int (0 : Int32)), .val (.int (0 : Int32)), .unset, .unset] []) _ _ _
    refine own_to (fun t k => XS.iload X15.here hx rfl (hb hby at_168) rfl k) ?_
    show own_Out p e below _ T15 (mkF m 170 #[.val (.int x0), .val (.int x1), .val (.int x2), .val (.int x3), .val (.int x4), .val (.int kn), .val (.int r1), .val (.int c1), .val (.int r2), .val (.int c2), .val (.int q1), .val (.int q2), .val (.ref ob7), .val (.ref ob9), .val (.ref ob11), .val (.ref ob13), .val (.int (1 : Int32)), .val (.int (0 : Int32)), .val (.int (0 : Int32)), .val (.int (0 : Int32)), .unset, .unset] [(.int (0 : Int32))]) _ _ _
    have hc170 : (0 : Int32) = (0 : Int32) := by decide
    refine own_to (fun t k => XS.ifYes X15.here hx rfl (pc0 := 170) (pc' := 180) rfl (hb hby at_170) rfl ((if0 _ _).trans (teq hc170).1) (by decide) (by decide) k) ?_
    show own_Out p e below _ T15 (mkF m 180 #[.val (.int x0), .val (.int x1), .val (.int x2), .val (.int x3), .val (.int x4), .val (.int kn), .val (.int r1), .val (.int c1), .val (.int r2), .val (.int c2), .val (.int q1), .val (.int q2), .val (.ref ob7), .val (.ref ob9), .val (.ref ob11), .val (.ref ob13), .val (.int (1 : Int32)), .val (.int (0 : Int32)), .val (.int (0 : Int32)), .val (.int (0 : Int32)), .unset, .unset] []) _ _ _
    refine own_to (fun t k => XS.iconst X15.here hx rfl (hb hby at_180) k) ?_
    show own_Out p e below _ T15 (mkF m 181 #[.val (.int x0), .val (.int x1), .val (.int x2), .val (.int x3), .val (.int x4), .val (.int kn), .val (.int r1), .val (.int c1), .val (.int r2), .val (.int c2), .val (.int q1), .val (.int q2), .val (.ref ob7), .val (.ref ob9), .val (.ref ob11), .val (.ref ob13), .val (.int (1 : Int32)), .val (.int (0 : Int32)), .val (.int (0 : Int32)), .val (.int (0 : Int32)), .unset, .unset] [(.int (1 : Int32))]) _ _ _
    refine own_to (fun t k => XS.istore X15.here hx rfl (hb hby at_181) rfl (l' := #[.val (.int x0), .val (.int x1), .val (.int x2), .val (.int x3), .val (.int x4), .val (.int kn), .val (.int r1), .val (.int c1), .val (.int r2), .val (.int c2), .val (.int q1), .val (.int q2), .val (.ref ob7), .val (.ref ob9), .val (.ref ob11), .val (.ref ob13), .val (.int (1 : Int32)), .val (.int (0 : Int32)), .val (.int (0 : Int32)), .val (.int (0 : Int32)), .val (.int (1 : Int32)), .unset]) rfl k) ?_
    show own_Out p e below _ T15 (mkF m 183 #[.val (.int x0), .val (.int x1), .val (.int x2), .val (.int x3), .val (.int x4), .val (.int kn), .val (.int r1), .val (.int c1), .val (.int r2), .val (.int c2), .val (.int q1), .val (.int q2), .val (.ref ob7), .val (.ref ob9), .val (.ref ob11), .val (.ref ob13), .val (.int (1 : Int32)), .val (.int (0 : Int32)), .val (.int (0 : Int32)), .val (.int (0 : Int32)), .val (.int (1 : Int32)), .unset] []) _ _ _
    refine own_to (fun t k => XS.iload X15.here hx rfl (hb hby at_183) rfl k) ?_
    show own_Out p e below _ T15 (mkF m 185 #[.val (.int x0), .val (.int x1), .val (.int x2), .val (.int x3), .val (.int x4), .val (.int kn), .val (.int r1), .val (.int c1), .val (.int r2), .val (.int c2), .val (.int q1), .val (.int q2), .val (.ref ob7), .val (.ref ob9), .val (.ref ob11), .val (.ref ob13), .val (.int (1 : Int32)), .val (.int (0 : Int32)), .val (.int (0 : Int32)), .val (.int (0 : Int32)), .val (.int (1 : Int32)), .unset] [(.int (0 : Int32))]) _ _ _
    have hc185 : (0 : Int32) = (0 : Int32) := by decide
    refine own_to (fun t k => XS.ifYes X15.here hx rfl (pc0 := 185) (pc' := 205) rfl (hb hby at_185) rfl ((if0 _ _).trans (teq hc185).1) (by decide) (by decide) k) ?_
    show own_Out p e below _ T15 (mkF m 205 #[.val (.int x0), .val (.int x1), .val (.int x2), .val (.int x3), .val (.int x4), .val (.int kn), .val (.int r1), .val (.int c1), .val (.int r2), .val (.int c2), .val (.int q1), .val (.int q2), .val (.ref ob7), .val (.ref ob9), .val (.ref ob11), .val (.ref ob13), .val (.int (1 : Int32)), .val (.int (0 : Int32)), .val (.int (0 : Int32)), .val (.int (0 : Int32)), .val (.int (1 : Int32)), .unset] []) _ _ _
    refine own_to (fun t k => XS.iload X15.here hx rfl (hb hby at_205) rfl k) ?_
    show own_Out p e below _ T15 (mkF m 207 #[.val (.int x0), .val (.int x1), .val (.int x2), .val (.int x3), .val (.int x4), .val (.int kn), .val (.int r1), .val (.int c1), .val (.int r2), .val (.int c2), .val (.int q1), .val (.int q2), .val (.ref ob7), .val (.ref ob9), .val (.ref ob11), .val (.ref ob13), .val (.int (1 : Int32)), .val (.int (0 : Int32)), .val (.int (0 : Int32)), .val (.int (0 : Int32)), .val (.int (1 : Int32)), .unset] [(.int (0 : Int32))]) _ _ _
    have hc207 : (0 : Int32) = (0 : Int32) := by decide
    refine own_to (fun t k => XS.ifYes X15.here hx rfl (pc0 := 207) (pc' := 227) rfl (hb hby at_207) rfl ((if0 _ _).trans (teq hc207).1) (by decide) (by decide) k) ?_
    show own_Out p e below _ T15 (mkF m 227 #[.val (.int x0), .val (.int x1), .val (.int x2), .val (.int x3), .val (.int x4), .val (.int kn), .val (.int r1), .val (.int c1), .val (.int r2), .val (.int c2), .val (.int q1), .val (.int q2), .val (.ref ob7), .val (.ref ob9), .val (.ref ob11), .val (.ref ob13), .val (.int (1 : Int32)), .val (.int (0 : Int32)), .val (.int (0 : Int32)), .val (.int (0 : Int32)), .val (.int (1 : Int32)), .unset] []) _ _ _
    refine own_to (fun t k => XS.aload X15.here hx rfl (hb hby at_227) rfl rfl k) ?_
    show own_Out p e below _ T15 (mkF m 229 #[.val (.int x0), .val (.int x1), .val (.int x2), .val (.int x3), .val (.int x4), .val (.int kn), .val (.int r1), .val (.int c1), .val (.int r2), .val (.int c2), .val (.int q1), .val (.int q2), .val (.ref ob7), .val (.ref ob9), .val (.ref ob11), .val (.ref ob13), .val (.int (1 : Int32)), .val (.int (0 : Int32)), .val (.int (0 : Int32)), .val (.int (0 : Int32)), .val (.int (1 : Int32)), .unset] [(.ref ob13)]) _ _ _
    refine own_to (fun t k => XS.aload X15.here hx rfl (hb hby at_229) rfl rfl k) ?_
    show own_Out p e below _ T15 (mkF m 231 #[.val (.int x0), .val (.int x1), .val (.int x2), .val (.int x3), .val (.int x4), .val (.int kn), .val (.int r1), .val (.int c1), .val (.int r2), .val (.int c2), .val (.int q1), .val (.int q2), .val (.ref ob7), .val (.ref ob9), .val (.ref ob11), .val (.ref ob13), .val (.int (1 : Int32)), .val (.int (0 : Int32)), .val (.int (0 : Int32)), .val (.int (0 : Int32)), .val (.int (1 : Int32)), .unset] [(.ref ob11), (.ref ob13)]) _ _ _
    refine own_callV X15 hx hZ hown (a := ob13) (argsL := [(.ref ob11)]) (rest := []) (hw _ (List.mem_of_getElem? (i := 39) rfl)) (hw _ (List.mem_of_getElem? (i := 40) rfl)) (hw _ (List.mem_of_getElem? (i := 42) rfl)) (hw _ (List.mem_of_getElem? (i := 41) rfl)) (hw _ (List.mem_of_getElem? (i := 25) rfl)) (hw _ (List.mem_of_getElem? (i := 43) rfl)) (by decide) (rm6 l Z a0 hw ob13 ob11 q1 q2 kn ob14ar ob14ad ob14au (fun _ => 0) (fun _ => 0) (fun _ => 0) hh14 n0 Z0 E_ob13 E_ob11 F_ob11_row F_ob11_column F_ob13_size F_ob13_rows F_ob13_downs F_ob13_ups A_ob14ar A_ob14ad A_ob14au bn b_q1 b_q2) (by decide) (by decide) e15 E_ob13 rfl (by rw [hml]; rfl) (lenOf pd_6 rfl) rfl (W := 0) (by show 2 * 0 + _ ≤ _; exact Nat.le_of_eq rfl) (hb hby at_231) (by decide) (by decide) fun v16 T16 hh16 L16 X16 e16 hQ16 => ?_
    obtain ⟨rfl, NL16, he16⟩ := hQ16
    replace e16 := e16.trans he16
    have N16 := Fr.app N15 NL16
    show own_Out p e below _ T16 (mkF m 234 #[.val (.int x0), .val (.int x1), .val (.int x2), .val (.int x3), .val (.int x4), .val (.int kn), .val (.int r1), .val (.int c1), .val (.int r2), .val (.int c2), .val (.int q1), .val (.int q2), .val (.ref ob7), .val (.ref ob9), .val (.ref ob11), .val (.ref ob13), .val (.int (1 : Int32)), .val (.int (0 : Int32)), .val (.int (0 : Int32)), .val (.int (0 : Int32)), .val (.int (1 : Int32)), .unset] [(.int (R6 ob13 ob11 q1 q2 kn ob14ar ob14ad ob14au (fun _ => 0) (fun _ => 0) (fun _ => 0)))]) _ _ _
    rw [own_free0]
    show own_Out p e below _ T16 (mkF m 234 #[.val (.int x0), .val (.int x1), .val (.int x2), .val (.int x3), .val (.int x4), .val (.int kn), .val (.int r1), .val (.int c1), .val (.int r2), .val (.int c2), .val (.int q1), .val (.int q2), .val (.ref ob7), .val (.ref ob9), .val (.ref ob11), .val (.ref ob13), .val (.int (1 : Int32)), .val (.int (0 : Int32)), .val (.int (0 : Int32)), .val (.int (0 : Int32)), .val (.int (1 : Int32)), .unset] [(.int (1 : Int32))]) _ _ _
    refine own_to (fun t k => XS.istore X16.here hx rfl (hb hby at_234) rfl (l' := #[.val (.int x0), .val (.int x1), .val (.int x2), .val (.int x3), .val (.int x4), .val (.int kn), .val (.int r1), .val (.int c1), .val (.int r2), .val (.int c2), .val (.int q1), .val (.int q2), .val (.ref ob7), .val (.ref ob9), .val (.ref ob11), .val (.ref ob13), .val (.int (1 : Int32)), .val (.int (0 : Int32)), .val (.int (0 : Int32)), .val (.int (0 : Int32)), .val (.int (1 : Int32)), .val (.int (1 : Int32))]) rfl k) ?_
    show own_Out p e below _ T16 (mkF m 236 #[.val (.int x0), .val (.int x1), .val (.int x2), .val (.int x3), .val (.int x4), .val (.int kn), .val (.int r1), .val (.int c1), .val (.int r2), .val (.int c2), .val (.int q1), .val (.int q2), .val (.ref ob7), .val (.ref ob9), .val (.ref ob11), .val (.ref ob13), .val (.int (1 : Int32)), .val (.int (0 : Int32)), .val (.int (0 : Int32)), .val (.int (0 : Int32)), .val (.int (1 : Int32)), .val (.int (1 : Int32))] []) _ _ _
    refine own_to (fun t k => XS.iload X16.here hx rfl (hb hby at_236) rfl k) ?_
    show own_Out p e below _ T16 (mkF m 238 #[.val (.int x0), .val (.int x1), .val (.int x2), .val (.int x3), .val (.int x4), .val (.int kn), .val (.int r1), .val (.int c1), .val (.int r2), .val (.int c2), .val (.int q1), .val (.int q2), .val (.ref ob7), .val (.ref ob9), .val (.ref ob11), .val (.ref ob13), .val (.int (1 : Int32)), .val (.int (0 : Int32)), .val (.int (0 : Int32)), .val (.int (0 : Int32)), .val (.int (1 : Int32)), .val (.int (1 : Int32))] [(.int (1 : Int32))]) _ _ _
    have hc238 : ¬ ((1 : Int32) = (0 : Int32)) := by decide
    refine own_to (fun t k => XS.ifNo X16.here hx rfl (hb hby at_238) rfl ((if0 _ _).trans (feq hc238).1) k) ?_
    show own_Out p e below _ T16 (mkF m 241 #[.val (.int x0), .val (.int x1), .val (.int x2), .val (.int x3), .val (.int x4), .val (.int kn), .val (.int r1), .val (.int c1), .val (.int r2), .val (.int c2), .val (.int q1), .val (.int q2), .val (.ref ob7), .val (.ref ob9), .val (.ref ob11), .val (.ref ob13), .val (.int (1 : Int32)), .val (.int (0 : Int32)), .val (.int (0 : Int32)), .val (.int (0 : Int32)), .val (.int (1 : Int32)), .val (.int (1 : Int32))] []) _ _ _
    refine own_to (fun t k => XS.iload X16.here hx rfl (hb hby at_241) rfl k) ?_
    show own_Out p e below _ T16 (mkF m 243 #[.val (.int x0), .val (.int x1), .val (.int x2), .val (.int x3), .val (.int x4), .val (.int kn), .val (.int r1), .val (.int c1), .val (.int r2), .val (.int c2), .val (.int q1), .val (.int q2), .val (.ref ob7), .val (.ref ob9), .val (.ref ob11), .val (.ref ob13), .val (.int (1 : Int32)), .val (.int (0 : Int32)), .val (.int (0 : Int32)), .val (.int (0 : Int32)), .val (.int (1 : Int32)), .val (.int (1 : Int32))] [(.int (1 : Int32))]) _ _ _
    refine own_to (fun t k => XS.iload X16.here hx rfl (hb hby at_243) rfl k) ?_
    show own_Out p e below _ T16 (mkF m 245 #[.val (.int x0), .val (.int x1), .val (.int x2), .val (.int x3), .val (.int x4), .val (.int kn), .val (.int r1), .val (.int c1), .val (.int r2), .val (.int c2), .val (.int q1), .val (.int q2), .val (.ref ob7), .val (.ref ob9), .val (.ref ob11), .val (.ref ob13), .val (.int (1 : Int32)), .val (.int (0 : Int32)), .val (.int (0 : Int32)), .val (.int (0 : Int32)), .val (.int (1 : Int32)), .val (.int (1 : Int32))] [(.int (1 : Int32)), (.int (1 : Int32))]) _ _ _
    have hc245 : (1 : Int32) = (1 : Int32) := by decide
    refine own_to (fun t k => XS.icmpNo X16.here hx rfl (hb hby at_245) rfl (teq hc245).2 k) ?_
    show own_Out p e below _ T16 (mkF m 248 #[.val (.int x0), .val (.int x1), .val (.int x2), .val (.int x3), .val (.int x4), .val (.int kn), .val (.int r1), .val (.int c1), .val (.int r2), .val (.int c2), .val (.int q1), .val (.int q2), .val (.ref ob7), .val (.ref ob9), .val (.ref ob11), .val (.ref ob13), .val (.int (1 : Int32)), .val (.int (0 : Int32)), .val (.int (0 : Int32)), .val (.int (0 : Int32)), .val (.int (1 : Int32)), .val (.int (1 : Int32))] []) _ _ _
    refine own_to (fun t k => XS.iconst X16.here hx rfl (hb hby at_248) k) ?_
    show own_Out p e below _ T16 (mkF m 249 #[.val (.int x0), .val (.int x1), .val (.int x2), .val (.int x3), .val (.int x4), .val (.int kn), .val (.int r1), .val (.int c1), .val (.int r2), .val (.int c2), .val (.int q1), .val (.int q2), .val (.ref ob7), .val (.ref ob9), .val (.ref ob11), .val (.ref ob13), .val (.int (1 : Int32)), .val (.int (0 : Int32)), .val (.int (0 : Int32)), .val (.int (0 : Int32)), .val (.int (1 : Int32)), .val (.int (1 : Int32))] [(.int (1 : Int32))]) _ _ _
    refine own_to (fun t k => XS.goto X16.here hx rfl (pc0 := 249) (pc' := 253) rfl (hb hby at_249) (by decide) (by decide) k) ?_
    show own_Out p e below _ T16 (mkF m 253 #[.val (.int x0), .val (.int x1), .val (.int x2), .val (.int x3), .val (.int x4), .val (.int kn), .val (.int r1), .val (.int c1), .val (.int r2), .val (.int c2), .val (.int q1), .val (.int q2), .val (.ref ob7), .val (.ref ob9), .val (.ref ob11), .val (.ref ob13), .val (.int (1 : Int32)), .val (.int (0 : Int32)), .val (.int (0 : Int32)), .val (.int (0 : Int32)), .val (.int (1 : Int32)), .val (.int (1 : Int32))] [(.int (1 : Int32))]) _ _ _
    refine own_retV X16 hx hlk (w := .int (1 : Int32)) hret rfl (Or.inl ⟨rfl, by simp, _, rfl⟩) (hb hby at_253) (by decide) (by decide) ?_
    rw [e16]
    exact ⟨rfl, N16⟩
  · subst hk_kk
    show own_Out p e below _ T15 (mkF m 130 #[.val (.int x0), .val (.int x1), .val (.int x2), .val (.int x3), .val (.int x4), .val (.int kn), .val (.int r1), .val (.int c1), .val (.int r2), .val (.int c2), .val (.int q1), .val (.int q2), .val (.ref ob7), .val (.ref ob9), .val (.ref ob11), .val (.ref ob13), .val (.int (1 : Int32)), .val (.int (1 : Int32)), .unset, .unset, .unset, .unset] []) _ _ _
    refine own_to (fun t k => XS.iload X15.here hx rfl (hb hby at_130) rfl k) ?_
    show own_Out p e below _ T15 (mkF m 132 #[.val (.int x0), .val (.int x1), .val (.int x2), .val (.int x3), .val (.int x4), .val (.int kn), .val (.int r1), .val (.int c1), .val (.int r2), .val (.int c2), .val (.int q1), .val (.int q2), .val (.ref ob7), .val (.ref ob9), .val (.ref ob11), .val (.ref ob13), .val (.int (1 : Int32)), .val (.int (1 : Int32)), .unset, .unset, .unset, .unset] [(.int (1 : Int32))]) _ _ _
    refine own_to (fun t k => XS.iconst X15.here hx rfl (hb hby at_132) k) ?_
    show own_Out p e below _ T15 (mkF m 133 #[.val (.int x0), .val (.int x1), .val (.int x2), .val (.int x3), .val (.int x4), .val (.int kn), .val (.int r1), .val (.int c1), .val (.int r2), .val (.int c2), .val (.int q1), .val (.int q2), .val (.ref ob7), .val (.ref ob9), .val (.ref ob11), .val (.ref ob13), .val (.int (1 : Int32)), .val (.int (1 : Int32)), .unset, .unset, .unset, .unset] [(.int (1 : Int32)), (.int (1 : Int32))]) _ _ _
    have hc133 : ¬ ((1 : Int32) < (1 : Int32)) := by decide
    refine own_to (fun t k => XS.icmpNo X15.here hx rfl (hb hby at_133) rfl (flt hc133).1 k) ?_
    show own_Out p e below _ T15 (mkF m 136 #[.val (.int x0), .val (.int x1), .val (.int x2), .val (.int x3), .val (.int x4), .val (.int kn), .val (.int r1), .val (.int c1), .val (.int r2), .val (.int c2), .val (.int q1), .val (.int q2), .val (.ref ob7), .val (.ref ob9), .val (.ref ob11), .val (.ref ob13), .val (.int (1 : Int32)), .val (.int (1 : Int32)), .unset, .unset, .unset, .unset] []) _ _ _
    refine own_to (fun t k => XS.iconst X15.here hx rfl (hb hby at_136) k) ?_
    show own_Out p e below _ T15 (mkF m 137 #[.val (.int x0), .val (.int x1), .val (.int x2), .val (.int x3), .val (.int x4), .val (.int kn), .val (.int r1), .val (.int c1), .val (.int r2), .val (.int c2), .val (.int q1), .val (.int q2), .val (.ref ob7), .val (.ref ob9), .val (.ref ob11), .val (.ref ob13), .val (.int (1 : Int32)), .val (.int (1 : Int32)), .unset, .unset, .unset, .unset] [(.int (1 : Int32))]) _ _ _
    refine own_to (fun t k => XS.goto X15.here hx rfl (pc0 := 137) (pc' := 141) rfl (hb hby at_137) (by decide) (by decide) k) ?_
    show own_Out p e below _ T15 (mkF m 141 #[.val (.int x0), .val (.int x1), .val (.int x2), .val (.int x3), .val (.int x4), .val (.int kn), .val (.int r1), .val (.int c1), .val (.int r2), .val (.int c2), .val (.int q1), .val (.int q2), .val (.ref ob7), .val (.ref ob9), .val (.ref ob11), .val (.ref ob13), .val (.int (1 : Int32)), .val (.int (1 : Int32)), .unset, .unset, .unset, .unset] [(.int (1 : Int32))]) _ _ _
    refine own_to (fun t k => XS.istore X15.here hx rfl (hb hby at_141) rfl (l' := #[.val (.int x0), .val (.int x1), .val (.int x2), .val (.int x3), .val (.int x4), .val (.int kn), .val (.int r1), .val (.int c1), .val (.int r2), .val (.int c2), .val (.int q1), .val (.int q2), .val (.ref ob7), .val (.ref ob9), .val (.ref ob11), .val (.ref ob13), .val (.int (1 : Int32)), .val (.int (1 : Int32)), .val (.int (1 : Int32)), .unset, .unset, .unset]) rfl k) ?_
    show own_Out p e below _ T15 (mkF m 143 #[.val (.int x0), .val (.int x1), .val (.int x2), .val (.int x3), .val (.int x4), .val (.int kn), .val (.int r1), .val (.int c1), .val (.int r2), .val (.int c2), .val (.int q1), .val (.int q2), .val (.ref ob7), .val (.ref ob9), .val (.ref ob11), .val (.ref ob13), .val (.int (1 : Int32)), .val (.int (1 : Int32)), .val (.int (1 : Int32)), .unset, .unset, .unset] []) _ _ _
    refine own_to (fun t k => XS.iload X15.here hx rfl (hb hby at_143) rfl k) ?_
    show own_Out p e below _ T15 (mkF m 145 #[.val (.int x0), .val (.int x1), .val (.int x2), .val (.int x3), .val (.int x4), .val (.int kn), .val (.int r1), .val (.int c1), .val (.int r2), .val (.int c2), .val (.int q1), .val (.int q2), .val (.ref ob7), .val (.ref ob9), .val (.ref ob11), .val (.ref ob13), .val (.int (1 : Int32)), .val (.int (1 : Int32)), .val (.int (1 : Int32)), .unset, .unset, .unset] [(.int (1 : Int32))]) _ _ _
    refine own_to (fun t k => XS.iconst X15.here hx rfl (hb hby at_145) k) ?_
    show own_Out p e below _ T15 (mkF m 146 #[.val (.int x0), .val (.int x1), .val (.int x2), .val (.int x3), .val (.int x4), .val (.int kn), .val (.int r1), .val (.int c1), .val (.int r2), .val (.int c2), .val (.int q1), .val (.int q2), .val (.ref ob7), .val (.ref ob9), .val (.ref ob11), .val (.ref ob13), .val (.int (1 : Int32)), .val (.int (1 : Int32)), .val (.int (1 : Int32)), .unset, .unset, .unset] [(.int (2 : Int32)), (.int (1 : Int32))]) _ _ _
    have hc146 : (1 : Int32) < (2 : Int32) := by decide
    refine own_to (fun t k => XS.icmpYes X15.here hx rfl (pc0 := 146) (pc' := 153) rfl (hb hby at_146) rfl (tlt hc146).1 (by decide) (by decide) k) ?_
    show own_Out p e below _ T15 (mkF m 153 #[.val (.int x0), .val (.int x1), .val (.int x2), .val (.int x3), .val (.int x4), .val (.int kn), .val (.int r1), .val (.int c1), .val (.int r2), .val (.int c2), .val (.int q1), .val (.int q2), .val (.ref ob7), .val (.ref ob9), .val (.ref ob11), .val (.ref ob13), .val (.int (1 : Int32)), .val (.int (1 : Int32)), .val (.int (1 : Int32)), .unset, .unset, .unset] []) _ _ _
    refine own_to (fun t k => XS.iconst X15.here hx rfl (hb hby at_153) k) ?_
    show own_Out p e below _ T15 (mkF m 154 #[.val (.int x0), .val (.int x1), .val (.int x2), .val (.int x3), .val (.int x4), .val (.int kn), .val (.int r1), .val (.int c1), .val (.int r2), .val (.int c2), .val (.int q1), .val (.int q2), .val (.ref ob7), .val (.ref ob9), .val (.ref ob11), .val (.ref ob13), .val (.int (1 : Int32)), .val (.int (1 : Int32)), .val (.int (1 : Int32)), .unset, .unset, .unset] [(.int (0 : Int32))]) _ _ _
    refine own_to (fun t k => XS.istore X15.here hx rfl (hb hby at_154) rfl (l' := #[.val (.int x0), .val (.int x1), .val (.int x2), .val (.int x3), .val (.int x4), .val (.int kn), .val (.int r1), .val (.int c1), .val (.int r2), .val (.int c2), .val (.int q1), .val (.int q2), .val (.ref ob7), .val (.ref ob9), .val (.ref ob11), .val (.ref ob13), .val (.int (1 : Int32)), .val (.int (1 : Int32)), .val (.int (1 : Int32)), .val (.int (0 : Int32)), .unset, .unset]) rfl k) ?_
    show own_Out p e below _ T15 (mkF m 156 #[.val (.int x0), .val (.int x1), .val (.int x2), .val (.int x3), .val (.int x4), .val (.int kn), .val (.int r1), .val (.int c1), .val (.int r2), .val (.int c2), .val (.int q1), .val (.int q2), .val (.ref ob7), .val (.ref ob9), .val (.ref ob11), .val (.ref ob13), .val (.int (1 : Int32)), .val (.int (1 : Int32)), .val (.int (1 : Int32)), .val (.int (0 : Int32)), .unset, .unset] []) _ _ _
    refine own_to (fun t k => XS.iload X15.here hx rfl (hb hby at_156) rfl k) ?_
    show own_Out p e below _ T15 (mkF m 158 #[.val (.int x0), .val (.int x1), .val (.int x2), .val (.int x3), .val (.int x4), .val (.int kn), .val (.int r1), .val (.int c1), .val (.int r2), .val (.int c2), .val (.int q1), .val (.int q2), .val (.ref ob7), .val (.ref ob9), .val (.ref ob11), .val (.ref ob13), .val (.int (1 : Int32)), .val (.int (1 : Int32)), .val (.int (1 : Int32)), .val (.int (0 : Int32)), .unset, .unset] [(.int (1 : Int32))]) _ _ _
    have hc158 : ¬ ((1 : Int32) = (0 : Int32)) := by decide
    refine own_to (fun t k => XS.ifNo X15.here hx rfl (hb hby at_158) rfl ((if0 _ _).trans (feq hc158).1) k) ?_
    show own_Out p e below _ T15 (mkF m 161 #[.val (.int x0), .val (.int x1), .val (.int x2), .val (.int x3), .val (.int x4), .val (.int kn), .val (.int r1), .val (.int c1), .val (.int r2), .val (.int c2), .val (.int q1), .val (.int q2), .val (.ref ob7), .val (.ref ob9), .val (.ref ob11), .val (.ref ob13), .val (.int (1 : Int32)), .val (.int (1 : Int32)), .val (.int (1 : Int32)), .val (.int (0 : Int32)), .unset, .unset] []) _ _ _
    refine own_to (fun t k => XS.aload X15.here hx rfl (hb hby at_161) rfl rfl k) ?_
    show own_Out p e below _ T15 (mkF m 163 #[.val (.int x0), .val (.int x1), .val (.int x2), .val (.int x3), .val (.int x4), .val (.int kn), .val (.int r1), .val (.int c1), .val (.int r2), .val (.int c2), .val (.int q1), .val (.int q2), .val (.ref ob7), .val (.ref ob9), .val (.ref ob11), .val (.ref ob13), .val (.int (1 : Int32)), .val (.int (1 : Int32)), .val (.int (1 : Int32)), .val (.int (0 : Int32)), .unset, .unset] [(.ref ob13)]) _ _ _
    refine own_to (fun t k => XS.aload X15.here hx rfl (hb hby at_163) rfl rfl k) ?_
    show own_Out p e below _ T15 (mkF m 165 #[.val (.int x0), .val (.int x1), .val (.int x2), .val (.int x3), .val (.int x4), .val (.int kn), .val (.int r1), .val (.int c1), .val (.int r2), .val (.int c2), .val (.int q1), .val (.int q2), .val (.ref ob7), .val (.ref ob9), .val (.ref ob11), .val (.ref ob13), .val (.int (1 : Int32)), .val (.int (1 : Int32)), .val (.int (1 : Int32)), .val (.int (0 : Int32)), .unset, .unset] [(.ref ob7), (.ref ob13)]) _ _ _
    refine own_callV X15 hx hZ hown (a := ob13) (argsL := [(.ref ob7)]) (rest := []) (hw _ (List.mem_of_getElem? (i := 59) rfl)) (hw _ (List.mem_of_getElem? (i := 60) rfl)) (hw _ (List.mem_of_getElem? (i := 62) rfl)) (hw _ (List.mem_of_getElem? (i := 61) rfl)) (hw _ (List.mem_of_getElem? (i := 25) rfl)) (hw _ (List.mem_of_getElem? (i := 63) rfl)) (by decide) (rm10 l Z a0 hw ob13 ob7 r1 c1 kn ob14ar ob14ad ob14au (fun _ => 0) (fun _ => 0) (fun _ => 0) hh14 n0 Z0 E_ob13 E_ob7 F_ob7_row F_ob7_column F_ob13_size F_ob13_rows F_ob13_downs F_ob13_ups A_ob14ar A_ob14ad A_ob14au bn b_r1 b_c1 ne_ob14ar_ob14ad ne_ob14ar_ob14au ne_ob14ad_ob14au ne_ob13_ob14ar ne_ob13_ob14ad ne_ob13_ob14au ne_ob7_ob14ar ne_ob7_ob14ad ne_ob7_ob14au g_ob14ar g_ob14ad g_ob14au) (by decide) (by decide) e15 E_ob13 rfl (by rw [hml]; rfl) (lenOf pd_7 rfl) rfl (W := 0) (by show 2 * 0 + _ ≤ _; exact Nat.le_of_eq rfl) (hb hby at_165) (by decide) (by decide) fun v17 T17 hh17 L17 X17 e17 hQ17 => ?_
    obtain ⟨rfl, NL17, KK17, P17_0, P17_1, P17_2⟩ := hQ17
    have E_ob7 := E_ob7.keep KK17
    have F_ob7_row := F_ob7_row.keep KK17 (by simp [ne_ob7_ob14ar, ne_ob7_ob14ad, ne_ob7_ob14au])
    have F_ob7_column := F_ob7_column.keep KK17 (by simp [ne_ob7_ob14ar, ne_ob7_ob14ad, ne_ob7_ob14au])
    have E_ob9 := E_ob9.keep KK17
    have F_ob9_row := F_ob9_row.keep KK17 (by simp [ne_ob9_ob14ar, ne_ob9_ob14ad, ne_ob9_ob14au])
    have F_ob9_column := F_ob9_column.keep KK17 (by simp [ne_ob9_ob14ar, ne_ob9_ob14ad, ne_ob9_ob14au])
    have E_ob11 := E_ob11.keep KK17
    have F_ob11_row := F_ob11_row.keep KK17 (by simp [ne_ob11_ob14ar, ne_ob11_ob14ad, ne_ob11_ob14au])
    have F_ob11_column := F_ob11_column.keep KK17 (by simp [ne_ob11_ob14ar, ne_ob11_ob14ad, ne_ob11_ob14au])
    have E_ob13 := E_ob13.keep KK17
    have F_ob13_size := F_ob13_size.keep KK17 (by simp [ne_ob13_ob14ar, ne_ob13_ob14ad, ne_ob13_ob14au])
    have F_ob13_rows := F_ob13_rows.keep KK17 (by simp [ne_ob13_ob14ar, ne_ob13_ob14ad, ne_ob13_ob14au])
    have F_ob13_downs := F_ob13_downs.keep KK17 (by simp [ne_ob13_ob14ar, ne_ob13_ob14ad, ne_ob13_ob14au])
    have F_ob13_ups := F_ob13_ups.keep KK17 (by simp [ne_ob13_ob14ar, ne_ob13_ob14ad, ne_ob13_ob14au])
    have A_ob14ar := P17_0
    have A_ob14ad := P17_1
    have A_ob14au := P17_2
    have Z0 := Nat.le_trans Z0 KK17.1
    have N17 := Fr.app N15 NL17
    show own_Out p e below _ T17 (mkF m 168 #[.val (.int x0), .val (.int x1), .val (.int x2), .val (.int x3), .val (.int x4), .val (.int kn), .val (.int r1), .val (.int c1), .val (.int r2), .val (.int c2), .val (.int q1), .val (.int q2), .val (.ref ob7), .val (.ref ob9), .val (.ref ob11), .val (.ref ob13), .val (.int (1 : Int32)), .val (.int (1 : Int32)), .val (.int (1 : Int32)), .val (.int (0 : Int32)), .unset, .unset] []) _ _ _
    refine own_to (fun t k => XS.iload X17.here hx rfl (hb hby at_168) rfl k) ?_
    show own_Out p e below _ T17 (mkF m 170 #[.val (.int x0), .val (.int x1), .val (.int x2), .val (.int x3), .val (.int x4), .val (.int kn), .val (.int r1), .val (.int c1), .val (.int r2), .val (.int c2), .val (.int q1), .val (.int q2), .val (.ref ob7), .val (.ref ob9), .val (.ref ob11), .val (.ref ob13), .val (.int (1 : Int32)), .val (.int (1 : Int32)), .val (.int (1 : Int32)), .val (.int (0 : Int32)), .unset, .unset] [(.int (0 : Int32))]) _ _ _
    have hc170 : (0 : Int32) = (0 : Int32) := by decide
    refine own_to (fun t k => XS.ifYes X17.here hx rfl (pc0 := 170) (pc' := 180) rfl (hb hby at_170) rfl ((if0 _ _).trans (teq hc170).1) (by decide) (by decide) k) ?_
    show own_Out p e below _ T17 (mkF m 180 #[.val (.int x0), .val (.int x1), .val (.int x2), .val (.int x3), .val (.int x4), .val (.int kn), .val (.int r1), .val (.int c1), .val (.int r2), .val (.int c2), .val (.int q1), .val (.int q2), .val (.ref ob7), .val (.ref ob9), .val (.ref ob11), .val (.ref ob13), .val (.int (1 : Int32)), .val (.int (1 : Int32)), .val (.int (1 : Int32)), .val (.int (0 : Int32)), .unset, .unset] []) _ _ _
    refine own_to (fun t k => XS.iconst X17.here hx rfl (hb hby at_180) k) ?_
    show own_Out p e below _ T17 (mkF m 181 #[.val (.int x0), .val (.int x1), .val (.int x2), .val (.int x3), .val (.int x4), .val (.int kn), .val (.int r1), .val (.int c1), .val (.int r2), .val (.int c2), .val (.int q1), .val (.int q2), .val (.ref ob7), .val (.ref ob9), .val (.ref ob11), .val (.ref ob13), .val (.int (1 : Int32)), .val (.int (1 : Int32)), .val (.int (1 : Int32)), .val (.int (0 : Int32)), .unset, .unset] [(.int (1 : Int32))]) _ _ _
    refine own_to (fun t k => XS.istore X17.here hx rfl (hb hby at_181) rfl (l' := #[.val (.int x0), .val (.int x1), .val (.int x2), .val (.int x3), .val (.int x4), .val (.int kn), .val (.int r1), .val (.int c1), .val (.int r2), .val (.int c2), .val (.int q1), .val (.int q2), .val (.ref ob7), .val (.ref ob9), .val (.ref ob11), .val (.ref ob13), .val (.int (1 : Int32)), .val (.int (1 : Int32)), .val (.int (1 : Int32)), .val (.int (0 : Int32)), .val (.int (1 : Int32)), .unset]) rfl k) ?_
    show own_Out p e below _ T17 (mkF m 183 #[.val (.int x0), .val (.int x1), .val (.int x2), .val (.int x3), .val (.int x4), .val (.int kn), .val (.int r1), .val (.int c1), .val (.int r2), .val (.int c2), .val (.int q1), .val (.int q2), .val (.ref ob7), .val (.ref ob9), .val (.ref ob11), .val (.ref ob13), .val (.int (1 : Int32)), .val (.int (1 : Int32)), .val (.int (1 : Int32)), .val (.int (0 : Int32)), .val (.int (1 : Int32)), .unset] []) _ _ _
    refine own_to (fun t k => XS.iload X17.here hx rfl (hb hby at_183) rfl k) ?_
    show own_Out p e below _ T17 (mkF m 185 #[.val (.int x0), .val (.int x1), .val (.int x2), .val (.int x3), .val (.int x4), .val (.int kn), .val (.int r1), .val (.int c1), .val (.int r2), .val (.int c2), .val (.int q1), .val (.int q2), .val (.ref ob7), .val (.ref ob9), .val (.ref ob11), .val (.ref ob13), .val (.int (1 : Int32)), .val (.int (1 : Int32)), .val (.int (1 : Int32)), .val (.int (0 : Int32)), .val (.int (1 : Int32)), .unset] [(.int (1 : Int32))]) _ _ _
    have hc185 : ¬ ((1 : Int32) = (0 : Int32)) := by decide
    refine own_to (fun t k => XS.ifNo X17.here hx rfl (hb hby at_185) rfl ((if0 _ _).trans (feq hc185).1) k) ?_
    show own_Out p e below _ T17 (mkF m 188 #[.val (.int x0), .val (.int x1), .val (.int x2), .val (.int x3), .val (.int x4), .val (.int kn), .val (.int r1), .val (.int c1), .val (.int r2), .val (.int c2), .val (.int q1), .val (.int q2), .val (.ref ob7), .val (.ref ob9), .val (.ref ob11), .val (.ref ob13), .val (.int (1 : Int32)), .val (.int (1 : Int32)), .val (.int (1 : Int32)), .val (.int (0 : Int32)), .val (.int (1 : Int32)), .unset] []) _ _ _
    refine own_to (fun t k => XS.iload X17.here hx rfl (hb hby at_188) rfl k) ?_
    show own_Out p e below _ T17 (mkF m 190 #[.val (.int x0), .val (.int x1), .val (.int x2), .val (.int x3), .val (.int x4), .val (.int kn), .val (.int r1), .val (.int c1), .val (.int r2), .val (.int c2), .val (.int q1), .val (.int q2), .val (.ref ob7), .val (.ref ob9), .val (.ref ob11), .val (.ref ob13), .val (.int (1 : Int32)), .val (.int (1 : Int32)), .val (.int (1 : Int32)), .val (.int (0 : Int32)), .val (.int (1 : Int32)), .unset] [(.int r1)]) _ _ _
    refine own_to (fun t k => XS.iload X17.here hx rfl (hb hby at_190) rfl k) ?_
    show own_Out p e below _ T17 (mkF m 192 #[.val (.int x0), .val (.int x1), .val (.int x2), .val (.int x3), .val (.int x4), .val (.int kn), .val (.int r1), .val (.int c1), .val (.int r2), .val (.int c2), .val (.int q1), .val (.int q2), .val (.ref ob7), .val (.ref ob9), .val (.ref ob11), .val (.ref ob13), .val (.int (1 : Int32)), .val (.int (1 : Int32)), .val (.int (1 : Int32)), .val (.int (0 : Int32)), .val (.int (1 : Int32)), .unset] [(.int c1), (.int r1)]) _ _ _
    refine own_to (fun t k => XS.iload X17.here hx rfl (hb hby at_192) rfl k) ?_
    show own_Out p e below _ T17 (mkF m 194 #[.val (.int x0), .val (.int x1), .val (.int x2), .val (.int x3), .val (.int x4), .val (.int kn), .val (.int r1), .val (.int c1), .val (.int r2), .val (.int c2), .val (.int q1), .val (.int q2), .val (.ref ob7), .val (.ref ob9), .val (.ref ob11), .val (.ref ob13), .val (.int (1 : Int32)), .val (.int (1 : Int32)), .val (.int (1 : Int32)), .val (.int (0 : Int32)), .val (.int (1 : Int32)), .unset] [(.int q1), (.int c1), (.int r1)]) _ _ _
    refine own_to (fun t k => XS.iload X17.here hx rfl (hb hby at_194) rfl k) ?_
    show own_Out p e below _ T17 (mkF m 196 #[.val (.int x0), .val (.int x1), .val (.int x2), .val (.int x3), .val (.int x4), .val (.int kn), .val (.int r1), .val (.int c1), .val (.int r2), .val (.int c2), .val (.int q1), .val (.int q2), .val (.ref ob7), .val (.ref ob9), .val (.ref ob11), .val (.ref ob13), .val (.int (1 : Int32)), .val (.int (1 : Int32)), .val (.int (1 : Int32)), .val (.int (0 : Int32)), .val (.int (1 : Int32)), .unset] [(.int q2), (.int q1), (.int c1), (.int r1)]) _ _ _
    refine own_callS X17 hx hZ hown (argsL := [(.int r1), (.int c1), (.int q1), (.int q2)]) (rest := []) (hw _ (List.mem_of_getElem? (i := 68) rfl)) (hw _ (List.mem_of_getElem? (i := 69) rfl)) (hw _ (List.mem_of_getElem? (i := 2) rfl)) (hw _ (List.mem_of_getElem? (i := 70) rfl)) (by decide) (rm12 l Z a0 hw r1 c1 q1 q2 hh17 n0 Z0 ) (by decide) (by decide) e17 rfl (by rw [hml]; rfl) (lenOf pd_8 rfl) rfl (W := 0) (by show 2 * 0 + _ ≤ _; exact Nat.le_of_eq rfl) (hb hby at_196) (by decide) (by decide) fun v18 T18 hh18 L18 X18 e18 hQ18 => ?_
    obtain ⟨rfl, NL18, he18⟩ := hQ18
    replace e18 := e18.trans he18
    have N18 := Fr.app N17 NL18
    show own_Out p e below _ T18 (mkF m 199 #[.val (.int x0), .val (.int x1), .val (.int x2), .val (.int x3), .val (.int x4), .val (.int kn), .val (.int r1), .val (.int c1), .val (.int r2), .val (.int c2), .val (.int q1), .val (.int q2), .val (.ref ob7), .val (.ref ob9), .val (.ref ob11), .val (.ref ob13), .val (.int (1 : Int32)), .val (.int (1 : Int32)), .val (.int (1 : Int32)), .val (.int (0 : Int32)), .val (.int (1 : Int32)), .unset] [(.int (R12 r1 c1 q1 q2))]) _ _ _
    by_cases hc199 : (R12 r1 c1 q1 q2) = (0 : Int32)
    · refine own_to (fun t k => XS.ifYes X18.here hx rfl (pc0 := 199) (pc' := 205) rfl (hb hby at_199) rfl ((if0 _ _).trans (teq hc199).1) (by decide) (by decide) k) ?_
      show own_Out p e below _ T18 (mkF m 205 #[.val (.int x0), .val (.int x1), .val (.int x2), .val (.int x3), .val (.int x4), .val (.int kn), .val (.int r1), .val (.int c1), .val (.int r2), .val (.int c2), .val (.int q1), .val (.int q2), .val (.ref ob7), .val (.ref ob9), .val (.ref ob11), .val (.ref ob13), .val (.int (1 : Int32)), .val (.int (1 : Int32)), .val (.int (1 : Int32)), .val (.int (0 : Int32)), .val (.int (1 : Int32)), .unset] []) _ _ _
      refine own_to (fun t k => XS.iload X18.here hx rfl (hb hby at_205) rfl k) ?_
      show own_Out p e below _ T18 (mkF m 207 #[.val (.int x0), .val (.int x1), .val (.int x2), .val (.int x3), .val (.int x4), .val (.int kn), .val (.int r1), .val (.int c1), .val (.int r2), .val (.int c2), .val (.int q1), .val (.int q2), .val (.ref ob7), .val (.ref ob9), .val (.ref ob11), .val (.ref ob13), .val (.int (1 : Int32)), .val (.int (1 : Int32)), .val (.int (1 : Int32)), .val (.int (0 : Int32)), .val (.int (1 : Int32)), .unset] [(.int (0 : Int32))]) _ _ _
      have hc207 : (0 : Int32) = (0 : Int32) := by decide
      refine own_to (fun t k => XS.ifYes X18.here hx rfl (pc0 := 207) (pc' := 227) rfl (hb hby at_207) rfl ((if0 _ _).trans (teq hc207).1) (by decide) (by decide) k) ?_
      show own_Out p e below _ T18 (mkF m 227 #[.val (.int x0), .val (.int x1), .val (.int x2), .val (.int x3), .val (.int x4), .val (.int kn), .val (.int r1), .val (.int c1), .val (.int r2), .val (.int c2), .val (.int q1), .val (.int q2), .val (.ref ob7), .val (.ref ob9), .val (.ref ob11), .val (.ref ob13), .val (.int (1 : Int32)), .val (.int (1 : Int32)), .val (.int (1 : Int32)), .val (.int (0 : Int32)), .val (.int (1 : Int32)), .unset] []) _ _ _
      refine own_to (fun t k => XS.aload X18.here hx rfl (hb hby at_227) rfl rfl k) ?_
      show own_Out p e below _ T18 (mkF m 229 #[.val (.int x0), .val (.int x1), .val (.int x2), .val (.int x3), .val (.int x4), .val (.int kn), .val (.int r1), .val (.int c1), .val (.int r2), .val (.int c2), .val (.int q1), .val (.int q2), .val (.ref ob7), .val (.ref ob9), .val (.ref ob11), .val (.ref ob13), .val (.int (1 : Int32)), .val (.int (1 : Int32)), .val (.int (1 : Int32)), .val (.int (0 : Int32)), .val (.int (1 : Int32)), .unset] [(.ref ob13)]) _ _ _
      refine own_to (fun t k => XS.aload X18.here hx rfl (hb hby at_229) rfl rfl k) ?_
      show own_Out p e below _ T18 (mkF m 231 #[.val (.int x0), .val (.int x1), .val (.int x2), .val (.int x3), .val (.int x4), .val (.int kn), .val (.int r1), .val (.int c1), .val (.int r2), .val (.int c2), .val (.int q1), .val (.int q2), .val (.ref ob7), .val (.ref ob9), .val (.ref ob11), .val (.ref ob13), .val (.int (1 : Int32)), .val (.int (1 : Int32)), .val (.int (1 : Int32)), .val (.int (0 : Int32)), .val (.int (1 : Int32)), .unset] [(.ref ob11), (.ref ob13)]) _ _ _
      refine own_callV X18 hx hZ hown (a := ob13) (argsL := [(.ref ob11)]) (rest := []) (hw _ (List.mem_of_getElem? (i := 39) rfl)) (hw _ (List.mem_of_getElem? (i := 40) rfl)) (hw _ (List.mem_of_getElem? (i := 42) rfl)) (hw _ (List.mem_of_getElem? (i := 41) rfl)) (hw _ (List.mem_of_getElem? (i := 25) rfl)) (hw _ (List.mem_of_getElem? (i := 43) rfl)) (by decide) (rm6 l Z a0 hw ob13 ob11 q1 q2 kn ob14ar ob14ad ob14au (own_upd (fun _ => 0) (r1.toNatClampNeg) (nar .boolean (1 : Int32))) (own_upd (fun _ => 0) (((r1 - c1) + kn).toNatClampNeg) (nar .boolean (1 : Int32))) (own_upd (fun _ => 0) ((r1 + c1).toNatClampNeg) (nar .boolean (1 : Int32))) hh17 n0 Z0 E_ob13 E_ob11 F_ob11_row F_ob11_column F_ob13_size F_ob13_rows F_ob13_downs F_ob13_ups A_ob14ar A_ob14ad A_ob14au bn b_q1 b_q2) (by decide) (by decide) e18 E_ob13 rfl (by rw [hml]; rfl) (lenOf pd_6 rfl) rfl (W := 0) (by show 2 * 0 + _ ≤ _; exact Nat.le_of_eq rfl) (hb hby at_231) (by decide) (by decide) fun v19 T19 hh19 L19 X19 e19 hQ19 => ?_
      obtain ⟨rfl, NL19, he19⟩ := hQ19
      replace e19 := e19.trans he19
      have N19 := Fr.app N18 NL19
      show own_Out p e below _ T19 (mkF m 234 #[.val (.int x0), .val (.int x1), .val (.int x2), .val (.int x3), .val (.int x4), .val (.int kn), .val (.int r1), .val (.int c1), .val (.int r2), .val (.int c2), .val (.int q1), .val (.int q2), .val (.ref ob7), .val (.ref ob9), .val (.ref ob11), .val (.ref ob13), .val (.int (1 : Int32)), .val (.int (1 : Int32)), .val (.int (1 : Int32)), .val (.int (0 : Int32)), .val (.int (1 : Int32)), .unset] [(.int (R6 ob13 ob11 q1 q2 kn ob14ar ob14ad ob14au (own_upd (fun _ => 0) (r1.toNatClampNeg) (nar .boolean (1 : Int32))) (own_upd (fun _ => 0) (((r1 - c1) + kn).toNatClampNeg) (nar .boolean (1 : Int32))) (own_upd (fun _ => 0) ((r1 + c1).toNatClampNeg) (nar .boolean (1 : Int32)))))]) _ _ _
      rw [own_free1 _ _ q1 q2 kn _ _ _ r1 c1 bn b_q1 b_q2 b_r1 b_c1]
      rw [if_pos hc199]
      show own_Out p e below _ T19 (mkF m 234 #[.val (.int x0), .val (.int x1), .val (.int x2), .val (.int x3), .val (.int x4), .val (.int kn), .val (.int r1), .val (.int c1), .val (.int r2), .val (.int c2), .val (.int q1), .val (.int q2), .val (.ref ob7), .val (.ref ob9), .val (.ref ob11), .val (.ref ob13), .val (.int (1 : Int32)), .val (.int (1 : Int32)), .val (.int (1 : Int32)), .val (.int (0 : Int32)), .val (.int (1 : Int32)), .unset] [(.int (1 : Int32))]) _ _ _
      refine own_to (fun t k => XS.istore X19.here hx rfl (hb hby at_234) rfl (l' := #[.val (.int x0), .val (.int x1), .val (.int x2), .val (.int x3), .val (.int x4), .val (.int kn), .val (.int r1), .val (.int c1), .val (.int r2), .val (.int c2), .val (.int q1), .val (.int q2), .val (.ref ob7), .val (.ref ob9), .val (.ref ob11), .val (.ref ob13), .val (.int (1 : Int32)), .val (.int (1 : Int32)), .val (.int (1 : Int32)), .val (.int (0 : Int32)), .val (.int (1 : Int32)), .val (.int (1 : Int32))]) rfl k) ?_
      show own_Out p e below _ T19 (mkF m 236 #[.val (.int x0), .val (.int x1), .val (.int x2), .val (.int x3), .val (.int x4), .val (.int kn), .val (.int r1), .val (.int c1), .val (.int r2), .val (.int c2), .val (.int q1), .val (.int q2), .val (.ref ob7), .val (.ref ob9), .val (.ref ob11), .val (.ref ob13), .val (.int (1 : Int32)), .val (.int (1 : Int32)), .val (.int (1 : Int32)), .val (.int (0 : Int32)), .val (.int (1 : Int32)), .val (.int (1 : Int32))] []) _ _ _
      refine own_to (fun t k => XS.iload X19.here hx rfl (hb hby at_236) rfl k) ?_
      show own_Out p e below _ T19 (mkF m 238 #[.val (.int x0), .val (.int x1), .val (.int x2), .val (.int x3), .val (.int x4), .val (.int kn), .val (.int r1), .val (.int c1), .val (.int r2), .val (.int c2), .val (.int q1), .val (.int q2), .val (.ref ob7), .val (.ref ob9), .val (.ref ob11), .val (.ref ob13), .val (.int (1 : Int32)), .val (.int (1 : Int32)), .val (.int (1 : Int32)), .val (.int (0 : Int32)), .val (.int (1 : Int32)), .val (.int (1 : Int32))] [(.int (1 : Int32))]) _ _ _
      have hc238 : ¬ ((1 : Int32) = (0 : Int32)) := by decide
      refine own_to (fun t k => XS.ifNo X19.here hx rfl (hb hby at_238) rfl ((if0 _ _).trans (feq hc238).1) k) ?_
      show own_Out p e below _ T19 (mkF m 241 #[.val (.int x0), .val (.int x1), .val (.int x2), .val (.int x3), .val (.int x4), .val (.int kn), .val (.int r1), .val (.int c1), .val (.int r2), .val (.int c2), .val (.int q1), .val (.int q2), .val (.ref ob7), .val (.ref ob9), .val (.ref ob11), .val (.ref ob13), .val (.int (1 : Int32)), .val (.int (1 : Int32)), .val (.int (1 : Int32)), .val (.int (0 : Int32)), .val (.int (1 : Int32)), .val (.int (1 : Int32))] []) _ _ _
      refine own_to (fun t k => XS.iload X19.here hx rfl (hb hby at_241) rfl k) ?_
      show own_Out p e below _ T19 (mkF m 243 #[.val (.int x0), .val (.int x1), .val (.int x2), .val (.int x3), .val (.int x4), .val (.int kn), .val (.int r1), .val (.int c1), .val (.int r2), .val (.int c2), .val (.int q1), .val (.int q2), .val (.ref ob7), .val (.ref ob9), .val (.ref ob11), .val (.ref ob13), .val (.int (1 : Int32)), .val (.int (1 : Int32)), .val (.int (1 : Int32)), .val (.int (0 : Int32)), .val (.int (1 : Int32)), .val (.int (1 : Int32))] [(.int (1 : Int32))]) _ _ _
      refine own_to (fun t k => XS.iload X19.here hx rfl (hb hby at_243) rfl k) ?_
      show own_Out p e below _ T19 (mkF m 245 #[.val (.int x0), .val (.int x1), .val (.int x2), .val (.int x3), .val (.int x4), .val (.int kn), .val (.int r1), .val (.int c1), .val (.int r2), .val (.int c2), .val (.int q1), .val (.int q2), .val (.ref ob7), .val (.ref ob9), .val (.ref ob11), .val (.ref ob13), .val (.int (1 : Int32)), .val (.int (1 : Int32)), .val (.int (1 : Int32)), .val (.int (0 : Int32)), .val (.int (1 : Int32)), .val (.int (1 : Int32))] [(.int (1 : Int32)), (.int (1 : Int32))]) _ _ _
      have hc245 : (1 : Int32) = (1 : Int32) := by decide
      refine own_to (fun t k => XS.icmpNo X19.here hx rfl (hb hby at_245) rfl (teq hc245).2 k) ?_
      show own_Out p e below _ T19 (mkF m 248 #[.val (.int x0), .val (.int x1), .val (.int x2), .val (.int x3), .val (.int x4), .val (.int kn), .val (.int r1), .val (.int c1), .val (.int r2), .val (.int c2), .val (.int q1), .val (.int q2), .val (.ref ob7), .val (.ref ob9), .val (.ref ob11), .val (.ref ob13), .val (.int (1 : Int32)), .val (.int (1 : Int32)), .val (.int (1 : Int32)), .val (.int (0 : Int32)), .val (.int (1 : Int32)), .val (.int (1 : Int32))] []) _ _ _
      refine own_to (fun t k => XS.iconst X19.here hx rfl (hb hby at_248) k) ?_
      show own_Out p e below _ T19 (mkF m 249 #[.val (.int x0), .val (.int x1), .val (.int x2), .val (.int x3), .val (.int x4), .val (.int kn), .val (.int r1), .val (.int c1), .val (.int r2), .val (.int c2), .val (.int q1), .val (.int q2), .val (.ref ob7), .val (.ref ob9), .val (.ref ob11), .val (.ref ob13), .val (.int (1 : Int32)), .val (.int (1 : Int32)), .val (.int (1 : Int32)), .val (.int (0 : Int32)), .val (.int (1 : Int32)), .val (.int (1 : Int32))] [(.int (1 : Int32))]) _ _ _
      refine own_to (fun t k => XS.goto X19.here hx rfl (pc0 := 249) (pc' := 253) rfl (hb hby at_249) (by decide) (by decide) k) ?_
      show own_Out p e below _ T19 (mkF m 253 #[.val (.int x0), .val (.int x1), .val (.int x2), .val (.int x3), .val (.int x4), .val (.int kn), .val (.int r1), .val (.int c1), .val (.int r2), .val (.int c2), .val (.int q1), .val (.int q2), .val (.ref ob7), .val (.ref ob9), .val (.ref ob11), .val (.ref ob13), .val (.int (1 : Int32)), .val (.int (1 : Int32)), .val (.int (1 : Int32)), .val (.int (0 : Int32)), .val (.int (1 : Int32)), .val (.int (1 : Int32))] [(.int (1 : Int32))]) _ _ _
      refine own_retV X19 hx hlk (w := .int (1 : Int32)) hret rfl (Or.inl ⟨rfl, by simp, _, rfl⟩) (hb hby at_253) (by decide) (by decide) ?_
      rw [e19]
      exact ⟨rfl, N19⟩
    · refine own_to (fun t k => XS.ifNo X18.here hx rfl (hb hby at_199) rfl ((if0 _ _).trans (feq hc199).1) k) ?_
      show own_Out p e below _ T18 (mkF m 202 #[.val (.int x0), .val (.int x1), .val (.int x2), .val (.int x3), .val (.int x4), .val (.int kn), .val (.int r1), .val (.int c1), .val (.int r2), .val (.int c2), .val (.int q1), .val (.int q2), .val (.ref ob7), .val (.ref ob9), .val (.ref ob11), .val (.ref ob13), .val (.int (1 : Int32)), .val (.int (1 : Int32)), .val (.int (1 : Int32)), .val (.int (0 : Int32)), .val (.int (1 : Int32)), .unset] []) _ _ _
      refine own_to (fun t k => XS.iconst X18.here hx rfl (hb hby at_202) k) ?_
      show own_Out p e below _ T18 (mkF m 203 #[.val (.int x0), .val (.int x1), .val (.int x2), .val (.int x3), .val (.int x4), .val (.int kn), .val (.int r1), .val (.int c1), .val (.int r2), .val (.int c2), .val (.int q1), .val (.int q2), .val (.ref ob7), .val (.ref ob9), .val (.ref ob11), .val (.ref ob13), .val (.int (1 : Int32)), .val (.int (1 : Int32)), .val (.int (1 : Int32)), .val (.int (0 : Int32)), .val (.int (1 : Int32)), .unset] [(.int (0 : Int32))]) _ _ _
      refine own_to (fun t k => XS.istore X18.here hx rfl (hb hby at_203) rfl (l' := #[.val (.int x0), .val (.int x1), .val (.int x2), .val (.int x3), .val (.int x4), .val (.int kn), .val (.int r1), .val (.int c1), .val (.int r2), .val (.int c2), .val (.int q1), .val (.int q2), .val (.ref ob7), .val (.ref ob9), .val (.ref ob11), .val (.ref ob13), .val (.int (1 : Int32)), .val (.int (1 : Int32)), .val (.int (1 : Int32)), .val (.int (0 : Int32)), .val (.int (0 : Int32)), .unset]) rfl k) ?_
      show own_Out p e below _ T18 (mkF m 205 #[.val (.int x0), .val (.int x1), .val (.int x2), .val (.int x3), .val (.int x4), .val (.int kn), .val (.int r1), .val (.int c1), .val (.int r2), .val (.int c2), .val (.int q1), .val (.int q2), .val (.ref ob7), .val (.ref ob9), .val (.ref ob11), .val (.ref ob13), .val (.int (1 : Int32)), .val (.int (1 : Int32)), .val (.int (1 : Int32)), .val (.int (0 : Int32)), .val (.int (0 : Int32)), .unset] []) _ _ _
      refine own_to (fun t k => XS.iload X18.here hx rfl (hb hby at_205) rfl k) ?_
      show own_Out p e below _ T18 (mkF m 207 #[.val (.int x0), .val (.int x1), .val (.int x2), .val (.int x3), .val (.int x4), .val (.int kn), .val (.int r1), .val (.int c1), .val (.int r2), .val (.int c2), .val (.int q1), .val (.int q2), .val (.ref ob7), .val (.ref ob9), .val (.ref ob11), .val (.ref ob13), .val (.int (1 : Int32)), .val (.int (1 : Int32)), .val (.int (1 : Int32)), .val (.int (0 : Int32)), .val (.int (0 : Int32)), .unset] [(.int (0 : Int32))]) _ _ _
      have hc207 : (0 : Int32) = (0 : Int32) := by decide
      refine own_to (fun t k => XS.ifYes X18.here hx rfl (pc0 := 207) (pc' := 227) rfl (hb hby at_207) rfl ((if0 _ _).trans (teq hc207).1) (by decide) (by decide) k) ?_
      show own_Out p e below _ T18 (mkF m 227 #[.val (.int x0), .val (.int x1), .val (.int x2), .val (.int x3), .val (.int x4), .val (.int kn), .val (.int r1), .val (.int c1), .val (.int r2), .val (.int c2), .val (.int q1), .val (.int q2), .val (.ref ob7), .val (.ref ob9), .val (.ref ob11), .val (.ref ob13), .val (.int (1 : Int32)), .val (.int (1 : Int32)), .val (.int (1 : Int32)), .val (.int (0 : Int32)), .val (.int (0 : Int32)), .unset] []) _ _ _
      refine own_to (fun t k => XS.aload X18.here hx rfl (hb hby at_227) rfl rfl k) ?_
      show own_Out p e below _ T18 (mkF m 229 #[.val (.int x0), .val (.int x1), .val (.int x2), .val (.int x3), .val (.int x4), .val (.int kn), .val (.int r1), .val (.int c1), .val (.int r2), .val (.int c2), .val (.int q1), .val (.int q2), .val (.ref ob7), .val (.ref ob9), .val (.ref ob11), .val (.ref ob13), .val (.int (1 : Int32)), .val (.int (1 : Int32)), .val (.int (1 : Int32)), .val (.int (0 : Int32)), .val (.int (0 : Int32)), .unset] [(.ref ob13)]) _ _ _
      refine own_to (fun t k => XS.aload X18.here hx rfl (hb hby at_229) rfl rfl k) ?_
      show own_Out p e below _ T18 (mkF m 231 #[.val (.int x0), .val (.int x1), .val (.int x2), .val (.int x3), .val (.int x4), .val (.int kn), .val (.int r1), .val (.int c1), .val (.int r2), .val (.int c2), .val (.int q1), .val (.int q2), .val (.ref ob7), .val (.ref ob9), .val (.ref ob11), .val (.ref ob13), .val (.int (1 : Int32)), .val (.int (1 : Int32)), .val (.int (1 : Int32)), .val (.int (0 : Int32)), .val (.int (0 : Int32)), .unset] [(.ref ob11), (.ref ob13)]) _ _ _
      refine own_callV X18 hx hZ hown (a := ob13) (argsL := [(.ref ob11)]) (rest := []) (hw _ (List.mem_of_getElem? (i := 39) rfl)) (hw _ (List.mem_of_getElem? (i := 40) rfl)) (hw _ (List.mem_of_getElem? (i := 42) rfl)) (hw _ (List.mem_of_getElem? (i := 41) rfl)) (hw _ (List.mem_of_getElem? (i := 25) rfl)) (hw _ (List.mem_of_getElem? (i := 43) rfl)) (by decide) (rm6 l Z a0 hw ob13 ob11 q1 q2 kn ob14ar ob14ad ob14au (own_upd (fun _ => 0) (r1.toNatClampNeg) (nar .boolean (1 : Int32))) (own_upd (fun _ => 0) (((r1 - c1) + kn).toNatClampNeg) (nar .boolean (1 : Int32))) (own_upd (fun _ => 0) ((r1 + c1).toNatClampNeg) (nar .boolean (1 : Int32))) hh17 n0 Z0 E_ob13 E_ob11 F_ob11_row F_ob11_column F_ob13_size F_ob13_rows F_ob13_downs F_ob13_ups A_ob14ar A_ob14ad A_ob14au bn b_q1 b_q2) (by decide) (by decide) e18 E_ob13 rfl (by rw [hml]; rfl) (lenOf pd_6 rfl) rfl (W := 0) (by show 2 * 0 + _ ≤ _; exact Nat.le_of_eq rfl) (hb hby at_231) (by decide) (by decide) fun v20 T20 hh20 L20 X20 e20 hQ20 => ?_
      obtain ⟨rfl, NL20, he20⟩ := hQ20
      replace e20 := e20.trans he20
      have N20 := Fr.app N18 NL20
      show own_Out p e below _ T20 (mkF m 234 #[.val (.int x0), .val (.int x1), .val (.int x2), .val (.int x3), .val (.int x4), .val (.int kn), .val (.int r1), .val (.int c1), .val (.int r2), .val (.int c2), .val (.int q1), .val (.int q2), .val (.ref ob7), .val (.ref ob9), .val (.ref ob11), .val (.ref ob13), .val (.int (1 : Int32)), .val (.int (1 : Int32)), .val (.int (1 : Int32)), .val (.int (0 : Int32)), .val (.int (0 : Int32)), .unset] [(.int (R6 ob13 ob11 q1 q2 kn ob14ar ob14ad ob14au (own_upd (fun _ => 0) (r1.toNatClampNeg) (nar .boolean (1 : Int32))) (own_upd (fun _ => 0) (((r1 - c1) + kn).toNatClampNeg) (nar .boolean (1 : Int32))) (own_upd (fun _ => 0) ((r1 + c1).toNatClampNeg) (nar .boolean (1 : Int32)))))]) _ _ _
      rw [own_free1 _ _ q1 q2 kn _ _ _ r1 c1 bn b_q1 b_q2 b_r1 b_c1]
      rw [if_neg hc199]
      show own_Out p e below _ T20 (mkF m 234 #[.val (.int x0), .val (.int x1), .val (.int x2), .val (.int x3), .val (.int x4), .val (.int kn), .val (.int r1), .val (.int c1), .val (.int r2), .val (.int c2), .val (.int q1), .val (.int q2), .val (.ref ob7), .val (.ref ob9), .val (.ref ob11), .val (.ref ob13), .val (.int (1 : Int32)), .val (.int (1 : Int32)), .val (.int (1 : Int32)), .val (.int (0 : Int32)), .val (.int (0 : Int32)), .unset] [(.int (0 : Int32))]) _ _ _
      refine own_to (fun t k => XS.istore X20.here hx rfl (hb hby at_234) rfl (l' := #[.val (.int x0), .val (.int x1), .val (.int x2), .val (.int x3), .val (.int x4), .val (.int kn), .val (.int r1), .val (.int c1), .val (.int r2), .val (.int c2), .val (.int q1), .val (.int q2), .val (.ref ob7), .val (.ref ob9), .val (.ref ob11), .val (.ref ob13), .val (.int (1 : Int32)), .val (.int (1 : Int32)), .val (.int (1 : Int32)), .val (.int (0 : Int32)), .val (.int (0 : Int32)), .val (.int (0 : Int32))]) rfl k) ?_
      show own_Out p e below _ T20 (mkF m 236 #[.val (.int x0), .val (.int x1), .val (.int x2), .val (.int x3), .val (.int x4), .val (.int kn), .val (.int r1), .val (.int c1), .val (.int r2), .val (.int c2), .val (.int q1), .val (.int q2), .val (.ref ob7), .val (.ref ob9), .val (.ref ob11), .val (.ref ob13), .val (.int (1 : Int32)), .val (.int (1 : Int32)), .val (.int (1 : Int32)), .val (.int (0 : Int32)), .val (.int (0 : Int32)), .val (.int (0 : Int32))] []) _ _ _
      refine own_to (fun t k => XS.iload X20.here hx rfl (hb hby at_236) rfl k) ?_
      show own_Out p e below _ T20 (mkF m 238 #[.val (.int x0), .val (.int x1), .val (.int x2), .val (.int x3), .val (.int x4), .val (.int kn), .val (.int r1), .val (.int c1), .val (.int r2), .val (.int c2), .val (.int q1), .val (.int q2), .val (.ref ob7), .val (.ref ob9), .val (.ref ob11), .val (.ref ob13), .val (.int (1 : Int32)), .val (.int (1 : Int32)), .val (.int (1 : Int32)), .val (.int (0 : Int32)), .val (.int (0 : Int32)), .val (.int (0 : Int32))] [(.int (1 : Int32))]) _ _ _
      have hc238 : ¬ ((1 : Int32) = (0 : Int32)) := by decide
      refine own_to (fun t k => XS.ifNo X20.here hx rfl (hb hby at_238) rfl ((if0 _ _).trans (feq hc238).1) k) ?_
      show own_Out p e below _ T20 (mkF m 241 #[.val (.int x0), .val (.int x1), .val (.int x2), .val (.int x3), .val (.int x4), .val (.int kn), .val (.int r1), .val (.int c1), .val (.int r2), .val (.int c2), .val (.int q1), .val (.int q2), .val (.ref ob7), .val (.ref ob9), .val (.ref ob11), .val (.ref ob13), .val (.int (1 : Int32)), .val (.int (1 : Int32)), .val (.int (1 : Int32)), .val (.int (0 : Int32)), .val (.int (0 : Int32)), .val (.int (0 : Int32))] []) _ _ _
      refine own_to (fun t k => XS.iload X20.here hx rfl (hb hby at_241) rfl k) ?_
      show own_Out p e below _ T20 (mkF m 243 #[.val (.int x0), .val (.int x1), .val (.int x2), .val (.int x3), .val (.int x4), .val (.int kn), .val (.int r1), .val (.int c1), .val (.int r2), .val (.int c2), .val (.int q1), .val (.int q2), .val (.ref ob7), .val (.ref ob9), .val (.ref ob11), .val (.ref ob13), .val (.int (1 : Int32)), .val (.int (1 : Int32)), .val (.int (1 : Int32)), .val (.int (0 : Int32)), .val (.int (0 : Int32)), .val (.int (0 : Int32))] [(.int (0 : Int32))]) _ _ _
      refine own_to (fun t k => XS.iload X20.here hx rfl (hb hby at_243) rfl k) ?_
      show own_Out p e below _ T20 (mkF m 245 #[.val (.int x0), .val (.int x1), .val (.int x2), .val (.int x3), .val (.int x4), .val (.int kn), .val (.int r1), .val (.int c1), .val (.int r2), .val (.int c2), .val (.int q1), .val (.int q2), .val (.ref ob7), .val (.ref ob9), .val (.ref ob11), .val (.ref ob13), .val (.int (1 : Int32)), .val (.int (1 : Int32)), .val (.int (1 : Int32)), .val (.int (0 : Int32)), .val (.int (0 : Int32)), .val (.int (0 : Int32))] [(.int (0 : Int32)), (.int (0 : Int32))]) _ _ _
      have hc245 : (0 : Int32) = (0 : Int32) := by decide
      refine own_to (fun t k => XS.icmpNo X20.here hx rfl (hb hby at_245) rfl (teq hc245).2 k) ?_
      show own_Out p e below _ T20 (mkF m 248 #[.val (.int x0), .val (.int x1), .val (.int x2), .val (.int x3), .val (.int x4), .val (.int kn), .val (.int r1), .val (.int c1), .val (.int r2), .val (.int c2), .val (.int q1), .val (.int q2), .val (.ref ob7), .val (.ref ob9), .val (.ref ob11), .val (.ref ob13), .val (.int (1 : Int32)), .val (.int (1 : Int32)), .val (.int (1 : Int32)), .val (.int (0 : Int32)), .val (.int (0 : Int32)), .val (.int (0 : Int32))] []) _ _ _
      refine own_to (fun t k => XS.iconst X20.here hx rfl (hb hby at_248) k) ?_
      show own_Out p e below _ T20 (mkF m 249 #[.val (.int x0), .val (.int x1), .val (.int x2), .val (.int x3), .val (.int x4), .val (.int kn), .val (.int r1), .val (.int c1), .val (.int r2), .val (.int c2), .val (.int q1), .val (.int q2), .val (.ref ob7), .val (.ref ob9), .val (.ref ob11), .val (.ref ob13), .val (.int (1 : Int32)), .val (.int (1 : Int32)), .val (.int (1 : Int32)), .val (.int (0 : Int32)), .val (.int (0 : Int32)), .val (.int (0 : Int32))] [(.int (1 : Int32))]) _ _ _
      refine own_to (fun t k => XS.goto X20.here hx rfl (pc0 := 249) (pc' := 253) rfl (hb hby at_249) (by decide) (by decide) k) ?_
      show own_Out p e below _ T20 (mkF m 253 #[.val (.int x0), .val (.int x1), .val (.int x2), .val (.int x3), .val (.int x4), .val (.int kn), .val (.int r1), .val (.int c1), .val (.int r2), .val (.int c2), .val (.int q1), .val (.int q2), .val (.ref ob7), .val (.ref ob9), .val (.ref ob11), .val (.ref ob13), .val (.int (1 : Int32)), .val (.int (1 : Int32)), .val (.int (1 : Int32)), .val (.int (0 : Int32)), .val (.int (0 : Int32)), .val (.int (0 : Int32))] [(.int (1 : Int32))]) _ _ _
      refine own_retV X20 hx hlk (w := .int (1 : Int32)) hret rfl (Or.inl ⟨rfl, by simp, _, rfl⟩) (hb hby at_253) (by decide) (by decide) ?_
      rw [e20]
      exact ⟨rfl, N20⟩
  · subst hk_kk
    show own_Out p e below _ T15 (mkF m 130 #[.val (.int x0), .val (.int x1), .val (.int x2), .val (.int x3), .val (.int x4), .val (.int kn), .val (.int r1), .val (.int c1), .val (.int r2), .val (.int c2), .val (.int q1), .val (.int q2), .val (.ref ob7), .val (.ref ob9), .val (.ref ob11), .val (.ref ob13), .val (.int (1 : Int32)), .val (.int (2 : Int32)), .unset, .unset, .unset, .unset] []) _ _ _
    refine own_to (fun t k => XS.iload X15.here hx rfl (hb hby at_130) rfl k) ?_
    show own_Out p e below _ T15 (mkF m 132 #[.val (.int x0), .val (.int x1), .val (.int x2), .val (.int x3), .val (.int x4), .val (.int kn), .val (.int r1), .val (.int c1), .val (.int r2), .val (.int c2), .val (.int q1), .val (.int q2), .val (.ref ob7), .val (.ref ob9), .val (.ref ob11), .val (.ref ob13), .val (.int (1 : Int32)), .val (.int (2 : Int32)), .unset, .unset, .unset, .unset] [(.int (2 : Int32))]) _ _ _
    refine own_to (fun t k => XS.iconst X15.here hx rfl (hb hby at_132) k) ?_
    show own_Out p e below _ T15 (mkF m 133 #[.val (.int x0), .val (.int x1), .val (.int x2), .val (.int x3), .val (.int x4), .val (.int kn), .val (.int r1), .val (.int c1), .val (.int r2), .val (.int c2), .val (.int q1), .val (.int q2), .val (.ref ob7), .val (.ref ob9), .val (.ref ob11), .val (.ref ob13), .val (.int (1 : Int32)), .val (.int (2 : Int32)), .unset, .unset, .unset, .unset] [(.int (1 : Int32)), (.int (2 : Int32))]) _ _ _
    have hc133 : ¬ ((2 : Int32) < (1 : Int32)) := by decide
    refine own_to (fun t k => XS.icmpNo X15.here hx rfl (hb hby at_133) rfl (flt hc133).1 k) ?_
    show own_Out p e below _ T15 (mkF m 136 #[.val (.int x0), .val (.int x1), .val (.int x2), .val (.int x3), .val (.int x4), .val (.int kn), .val (.int r1), .val (.int c1), .val (.int r2), .val (.int c2), .val (.int q1), .val (.int q2), .val (.ref ob7), .val (.ref ob9), .val (.ref ob11), .val (.ref ob13), .val (.int (1 : Int32)), .val (.int (2 : Int32)), .unset, .unset, .unset, .unset] []) _ _ _
    refine own_to (fun t k => XS.iconst X15.here hx rfl (hb hby at_136) k) ?_
    show own_Out p e below _ T15 (mkF m 137 #[.val (.int x0), .val (.int x1), .val (.int x2), .val (.int x3), .val (.int x4), .val (.int kn), .val (.int r1), .val (.int c1), .val (.int r2), .val (.int c2), .val (.int q1), .val (.int q2), .val (.ref ob7), .val (.ref ob9), .val (.ref ob11), .val (.ref ob13), .val (.int (1 : Int32)), .val (.int (2 : Int32)), .unset, .unset, .unset, .unset] [(.int (1 : Int32))]) _ _ _
    refine own_to (fun t k => XS.goto X15.here hx rfl (pc0 := 137) (pc' := 141) rfl (hb hby at_137) (by decide) (by decide) k) ?_
    show own_Out p e below _ T15 (mkF m 141 #[.val (.int x0), .val (.int x1), .val (.int x2), .val (.int x3), .val (.int x4), .val (.int kn), .val (.int r1), .val (.int c1), .val (.int r2), .val (.int c2), .val (.int q1), .val (.int q2), .val (.ref ob7), .val (.ref ob9), .val (.ref ob11), .val (.ref ob13), .val (.int (1 : Int32)), .val (.int (2 : Int32)), .unset, .unset, .unset, .unset] [(.int (1 : Int32))]) _ _ _
    refine own_to (fun t k => XS.istore X15.here hx rfl (hb hby at_141) rfl (l' := #[.val (.int x0), .val (.int x1), .val (.int x2), .val (.int x3), .val (.int x4), .val (.int kn), .val (.int r1), .val (.int c1), .val (.int r2), .val (.int c2), .val (.int q1), .val (.int q2), .val (.ref ob7), .val (.ref ob9), .val (.ref ob11), .val (.ref ob13), .val (.int (1 : Int32)), .val (.int (2 : Int32)), .val (.int (1 : Int32)), .unset, .unset, .unset]) rfl k) ?_
    show own_Out p e below _ T15 (mkF m 143 #[.val (.int x0), .val (.int x1), .val (.int x2), .val (.int x3), .val (.int x4), .val (.int kn), .val (.int r1), .val (.int c1), .val (.int r2), .val (.int c2), .val (.int q1), .val (.int q2), .val (.ref ob7), .val (.ref ob9), .val (.ref ob11), .val (.ref ob13), .val (.int (1 : Int32)), .val (.int (2 : Int32)), .val (.int (1 : Int32)), .unset, .unset, .unset] []) _ _ _
    refine own_to (fun t k => XS.iload X15.here hx rfl (hb hby at_143) rfl k) ?_
    show own_Out p e below _ T15 (mkF m 145 #[.val (.int x0), .val (.int x1), .val (.int x2), .val (.int x3), .val (.int x4), .val (.int kn), .val (.int r1), .val (.int c1), .val (.int r2), .val (.int c2), .val (.int q1), .val (.int q2), .val (.ref ob7), .val (.ref ob9), .val (.ref ob11), .val (.ref ob13), .val (.int (1 : Int32)), .val (.int (2 : Int32)), .val (.int (1 : Int32)), .unset, .unset, .unset] [(.int (2 : Int32))]) _ _ _
    refine own_to (fun t k => XS.iconst X15.here hx rfl (hb hby at_145) k) ?_
    show own_Out p e below _ T15 (mkF m 146 #[.val (.int x0), .val (.int x1), .val (.int x2), .val (.int x3), .val (.int x4), .val (.int kn), .val (.int r1), .val (.int c1), .val (.int r2), .val (.int c2), .val (.int q1), .val (.int q2), .val (.ref ob7), .val (.ref ob9), .val (.ref ob11), .val (.ref ob13), .val (.int (1 : Int32)), .val (.int (2 : Int32)), .val (.int (1 : Int32)), .unset, .unset, .unset] [(.int (2 : Int32)), (.int (2 : Int32))]) _ _ _
    have hc146 : ¬ ((2 : Int32) < (2 : Int32)) := by decide
    refine own_to (fun t k => XS.icmpNo X15.here hx rfl (hb hby at_146) rfl (flt hc146).1 k) ?_
    show own_Out p e below _ T15 (mkF m 149 #[.val (.int x0), .val (.int x1), .val (.int x2), .val (.int x3), .val (.int x4), .val (.int kn), .val (.int r1), .val (.int c1), .val (.int r2), .val (.int c2), .val (.int q1), .val (.int q2), .val (.ref ob7), .val (.ref ob9), .val (.ref ob11), .val (.ref ob13), .val (.int (1 : Int32)), .val (.int (2 : Int32)), .val (.int (1 : Int32)), .unset, .unset, .unset] []) _ _ _
    refine own_to (fun t k => XS.iconst X15.here hx rfl (hb hby at_149) k) ?_
    show own_Out p e below _ T15 (mkF m 150 #[.val (.int x0), .val (.int x1), .val (.int x2), .val (.int x3), .val (.int x4), .val (.int kn), .val (.int r1), .val (.int c1), .val (.int r2), .val (.int c2), .val (.int q1), .val (.int q2), .val (.ref ob7), .val (.ref ob9), .val (.ref ob11), .val (.ref ob13), .val (.int (1 : Int32)), .val (.int (2 : Int32)), .val (.int (1 : Int32)), .unset, .unset, .unset] [(.int (1 : Int32))]) _ _ _
    refine own_to (fun t k => XS.goto X15.here hx rfl (pc0 := 150) (pc' := 154) rfl (hb hby at_150) (by decide) (by decide) k) ?_
    show own_Out p e below _ T15 (mkF m 154 #[.val (.int x0), .val (.int x1), .val (.int x2), .val (.int x3), .val (.int x4), .val (.int kn), .val (.int r1), .val (.int c1), .val (.int r2), .val (.int c2), .val (.int q1), .val (.int q2), .val (.ref ob7), .val (.ref ob9), .val (.ref ob11), .val (.ref ob13), .val (.int (1 : Int32)), .val (.int (2 : Int32)), .val (.int (1 : Int32)), .unset, .unset, .unset] [(.int (1 : Int32))]) _ _ _
    refine own_to (fun t k => XS.istore X15.here hx rfl (hb hby at_154) rfl (l' := #[.val (.int x0), .val (.int x1), .val (.int x2), .val (.int x3), .val (.int x4), .val (.int kn), .val (.int r1), .val (.int c1), .val (.int r2), .val (.int c2), .val (.int q1), .val (.int q2), .val (.ref ob7), .val (.ref ob9), .val (.ref ob11), .val (.ref ob13), .val (.int (1 : Int32)), .val (.int (2 : Int32)), .val (.int (1 : Int32)), .val (.int (1 : Int32)), .unset, .unset]) rfl k) ?_
    show own_Out p e below _ T15 (mkF m 156 #[.val (.int x0), .val (.int x1), .val (.int x2), .val (.int x3), .val (.int x4), .val (.int kn), .val (.int r1), .val (.int c1), .val (.int r2), .val (.int c2), .val (.int q1), .val (.int q2), .val (.ref ob7), .val (.ref ob9), .val (.ref ob11), .val (.ref ob13), .val (.int (1 : Int32)), .val (.int (2 : Int32)), .val (.int (1 : Int32)), .val (.int (1 : Int32)), .unset, .unset] []) _ _ _
    refine own_to (fun t k => XS.iload X15.here hx rfl (hb hby at_156) rfl k) ?_
    show own_Out p e below _ T15 (mkF m 158 #[.val (.int x0), .val (.int x1), .val (.int x2), .val (.int x3), .val (.int x4), .val (.int kn), .val (.int r1), .val (.int c1), .val (.int r2), .val (.int c2), .val (.int q1), .val (.int q2), .val (.ref ob7), .val (.ref ob9), .val (.ref ob11), .val (.ref ob13), .val (.int (1 : Int32)), .val (.int (2 : Int32)), .val (.int (1 : Int32)), .val (.int (1 : Int32)), .unset, .unset] [(.int (1 : Int32))]) _ _ _
    have hc158 : ¬ ((1 : Int32) = (0 : Int32)) := by decide
    refine own_to (fun t k => XS.ifNo X15.here hx rfl (hb hby at_158) rfl ((if0 _ _).trans (feq hc158).1) k) ?_
    show own_Out p e below _ T15 (mkF m 161 #[.val (.int x0), .val (.int x1), .val (.int x2), .val (.int x3), .val (.int x4), .val (.int kn), .val (.int r1), .val (.int c1), .val (.int r2), .val (.int c2), .val (.int q1), .val (.int q2), .val (.ref ob7), .val (.ref ob9), .val (.ref ob11), .val (.ref ob13), .val (.int (1 : Int32)), .val (.int (2 : Int32)), .val (.int (1 : Int32)), .val (.int (1 : Int32)), .unset, .unset] []) _ _ _
    refine own_to (fun t k => XS.aload X15.here hx rfl (hb hby at_161) rfl rfl k) ?_
    show own_Out p e below _ T15 (mkF m 163 #[.val (.int x0), .val (.int x1), .val (.int x2), .val (.int x3), .val (.int x4), .val (.int kn), .val (.int r1), .val (.int c1), .val (.int r2), .val (.int c2), .val (.int q1), .val (.int q2), .val (.ref ob7), .val (.ref ob9), .val (.ref ob11), .val (.ref ob13), .val (.int (1 : Int32)), .val (.int (2 : Int32)), .val (.int (1 : Int32)), .val (.int (1 : Int32)), .unset, .unset] [(.ref ob13)]) _ _ _
    refine own_to (fun t k => XS.aload X15.here hx rfl (hb hby at_163) rfl rfl k) ?_
    show own_Out p e below _ T15 (mkF m 165 #[.val (.int x0), .val (.int x1), .val (.int x2), .val (.int x3), .val (.int x4), .val (.int kn), .val (.int r1), .val (.int c1), .val (.int r2), .val (.int c2), .val (.int q1), .val (.int q2), .val (.ref ob7), .val (.ref ob9), .val (.ref ob11), .val (.ref ob13), .val (.int (1 : Int32)), .val (.int (2 : Int32)), .val (.int (1 : Int32)), .val (.int (1 : Int32)), .unset, .unset] [(.ref ob7), (.ref ob13)]) _ _ _
    refine own_callV X15 hx hZ hown (a := ob13) (argsL := [(.ref ob7)]) (rest := []) (hw _ (List.mem_of_getElem? (i := 59) rfl)) (hw _ (List.mem_of_getElem? (i := 60) rfl)) (hw _ (List.mem_of_getElem? (i := 62) rfl)) (hw _ (List.mem_of_getElem? (i := 61) rfl)) (hw _ (List.mem_of_getElem? (i := 25) rfl)) (hw _ (List.mem_of_getElem? (i := 63) rfl)) (by decide) (rm10 l Z a0 hw ob13 ob7 r1 c1 kn ob14ar ob14ad ob14au (fun _ => 0) (fun _ => 0) (fun _ => 0) hh14 n0 Z0 E_ob13 E_ob7 F_ob7_row F_ob7_column F_ob13_size F_ob13_rows F_ob13_downs F_ob13_ups A_ob14ar A_ob14ad A_ob14au bn b_r1 b_c1 ne_ob14ar_ob14ad ne_ob14ar_ob14au ne_ob14ad_ob14au ne_ob13_ob14ar ne_ob13_ob14ad ne_ob13_ob14au ne_ob7_ob14ar ne_ob7_ob14ad ne_ob7_ob14au g_ob14ar g_ob14ad g_ob14au) (by decide) (by decide) e15 E_ob13 rfl (by rw [hml]; rfl) (lenOf pd_7 rfl) rfl (W := 0) (by show 2 * 0 + _ ≤ _; exact Nat.le_of_eq rfl) (hb hby at_165) (by decide) (by decide) fun v21 T21 hh21 L21 X21 e21 hQ21 => ?_
    obtain ⟨rfl, NL21, KK21, P21_0, P21_1, P21_2⟩ := hQ21
    have E_ob7 := E_ob7.keep KK21
    have F_ob7_row := F_ob7_row.keep KK21 (by simp [ne_ob7_ob14ar, ne_ob7_ob14ad, ne_ob7_ob14au])
    have F_ob7_column := F_ob7_column.keep KK21 (by simp [ne_ob7_ob14ar, ne_ob7_ob14ad, ne_ob7_ob14au])
    have E_ob9 := E_ob9.keep KK21
    have F_ob9_row := F_ob9_row.keep KK21 (by simp [ne_ob9_ob14ar, ne_ob9_ob14ad, ne_ob9_ob14au])
    have F_ob9_column := F_ob9_column.keep KK21 (by simp [ne_ob9_ob14ar, ne_ob9_ob14ad, ne_ob9_ob14au])
    have E_ob11 := E_ob11.keep KK21
    have F_ob11_row := F_ob11_row.keep KK21 (by simp [ne_ob11_ob14ar, ne_ob11_ob14ad, ne_ob11_ob14au])
    have F_ob11_column := F_ob11_column.keep KK21 (by simp [ne_ob11_ob14ar, ne_ob11_ob14ad, ne_ob11_ob14au])
    have E_ob13 := E_ob13.keep KK21
    have F_ob13_size := F_ob13_size.keep KK21 (by simp [ne_ob13_ob14ar, ne_ob13_ob14ad, ne_ob13_ob14au])
    have F_ob13_rows := F_ob13_rows.keep KK21 (by simp [ne_ob13_ob14ar, ne_ob13_ob14ad, ne_ob13_ob14au])
    have F_ob13_downs := F_ob13_downs.keep KK21 (by simp [ne_ob13_ob14ar, ne_ob13_ob14ad, ne_ob13_ob14au])
    have F_ob13_ups := F_ob13_ups.keep KK21 (by simp [ne_ob13_ob14ar, ne_ob13_ob14ad, ne_ob13_ob14au])
    have A_ob14ar := P21_0
    have A_ob14ad := P21_1
    have A_ob14au := P21_2
    have Z0 := Nat.le_trans Z0 KK21.1
    have N21 := Fr.app N15 NL21
    show own_Out p e below _ T21 (mkF m 168 #[.val (.int x0), .val (.int x1), .val (.int x2), .val (.int x3), .val (.int x4), .val (.int kn), .val (.int r1), .val (.int c1), .val (.int r2), .val (.int c2), .val (.int q1), .val (.int q2), .val (.ref ob7), .val (.ref ob9), .val (.ref ob11), .val (.ref ob13), .val (.int (1 : Int32)), .val (.int (2 : Int32)), .val (.int (1 : Int32)), .val (.int (1 : Int32)), .unset, .unset] []) _ _ _
    refine own_to (fun t k => XS.iload X21.here hx rfl (hb hby at_168) rfl k) ?_
    show own_Out p e below _ T21 (mkF m 170 #[.val (.int x0), .val (.int x1), .val (.int x2), .val (.int x3), .val (.int x4), .val (.int kn), .val (.int r1), .val (.int c1), .val (.int r2), .val (.int c2), .val (.int q1), .val (.int q2), .val (.ref ob7), .val (.ref ob9), .val (.ref ob11), .val (.ref ob13), .val (.int (1 : Int32)), .val (.int (2 : Int32)), .val (.int (1 : Int32)), .val (.int (1 : Int32)), .unset, .unset] [(.int (1 : Int32))]) _ _ _
    have hc170 : ¬ ((1 : Int32) = (0 : Int32)) := by decide
    refine own_to (fun t k => XS.ifNo X21.here hx rfl (hb hby at_170) rfl ((if0 _ _).trans (feq hc170).1) k) ?_
    show own_Out p e below _ T21 (mkF m 173 #[.val (.int x0), .val (.int x1), .val (.int x2), .val (.int x3), .val (.int x4), .val (.int kn), .val (.int r1), .val (.int c1), .val (.int r2), .val (.int c2), .val (.int q1), .val (.int q2), .val (.ref ob7), .val (.ref ob9), .val (.ref ob11), .val (.ref ob13), .val (.int (1 : Int32)), .val (.int (2 : Int32)), .val (.int (1 : Int32)), .val (.int (1 : Int32)), .unset, .unset] []) _ _ _
    refine own_to (fun t k => XS.aload X21.here hx rfl (hb hby at_173) rfl rfl k) ?_
    show own_Out p e below _ T21 (mkF m 175 #[.val (.int x0), .val (.int x1), .val (.int x2), .val (.int x3), .val (.int x4), .val (.int kn), .val (.int r1), .val (.int c1), .val (.int r2), .val (.int c2), .val (.int q1), .val (.int q2), .val (.ref ob7), .val (.ref ob9), .val (.ref ob11), .val (.ref ob13), .val (.int (1 : Int32)), .val (.int (2 : Int32)), .val (.int (1 : Int32)), .val (.int (1 : Int32)), .unset, .unset] [(.ref ob13)]) _ _ _
    refine own_to (fun t k => XS.aload X21.here hx rfl (hb hby at_175) rfl rfl k) ?_
    show own_Out p e below _ T21 (mkF m 177 #[.val (.int x0), .val (.int x1), .val (.int x2), .val (.int x3), .val (.int x4), .val (.int kn), .val (.int r1), .val (.int c1), .val (.int r2), .val (.int c2), .val (.int q1), .val (.int q2), .val (.ref ob7), .val (.ref ob9), .val (.ref ob11), .val (.ref ob13), .val (.int (1 : Int32)), .val (.int (2 : Int32)), .val (.int (1 : Int32)), .val (.int (1 : Int32)), .unset, .unset] [(.ref ob9), (.ref ob13)]) _ _ _
    refine own_callV X21 hx hZ hown (a := ob13) (argsL := [(.ref ob9)]) (rest := []) (hw _ (List.mem_of_getElem? (i := 59) rfl)) (hw _ (List.mem_of_getElem? (i := 60) rfl)) (hw _ (List.mem_of_getElem? (i := 62) rfl)) (hw _ (List.mem_of_getElem? (i := 61) rfl)) (hw _ (List.mem_of_getElem? (i := 25) rfl)) (hw _ (List.mem_of_getElem? (i := 63) rfl)) (by decide) (rm10 l Z a0 hw ob13 ob9 r2 c2 kn ob14ar ob14ad ob14au (own_upd (fun _ => 0) (r1.toNatClampNeg) (nar .boolean (1 : Int32))) (own_upd (fun _ => 0) (((r1 - c1) + kn).toNatClampNeg) (nar .boolean (1 : Int32))) (own_upd (fun _ => 0) ((r1 + c1).toNatClampNeg) (nar .boolean (1 : Int32))) hh21 n0 Z0 E_ob13 E_ob9 F_ob9_row F_ob9_column F_ob13_size F_ob13_rows F_ob13_downs F_ob13_ups A_ob14ar A_ob14ad A_ob14au bn b_r2 b_c2 ne_ob14ar_ob14ad ne_ob14ar_ob14au ne_ob14ad_ob14au ne_ob13_ob14ar ne_ob13_ob14ad ne_ob13_ob14au ne_ob9_ob14ar ne_ob9_ob14ad ne_ob9_ob14au g_ob14ar g_ob14ad g_ob14au) (by decide) (by decide) e21 E_ob13 rfl (by rw [hml]; rfl) (lenOf pd_7 rfl) rfl (W := 0) (by show 2 * 0 + _ ≤ _; exact Nat.le_of_eq rfl) (hb hby at_177) (by decide) (by decide) fun v22 T22 hh22 L22 X22 e22 hQ22 => ?_
    obtain ⟨rfl, NL22, KK22, P22_0, P22_1, P22_2⟩ := hQ22
    have E_ob7 := E_ob7.keep KK22
    have F_ob7_row := F_ob7_row.keep KK22 (by simp [ne_ob7_ob14ar, ne_ob7_ob14ad, ne_ob7_ob14au])
    have F_ob7_column := F_ob7_column.keep KK22 (by simp [ne_ob7_ob14ar, ne_ob7_ob14ad, ne_ob7_ob14au])
    have E_ob9 := E_ob9.keep KK22
    have F_ob9_row := F_ob9_row.keep KK22 (by simp [ne_ob9_ob14ar, ne_ob9_ob14ad, ne_ob9_ob14au])
    have F_ob9_column := F_ob9_column.keep KK22 (by simp [ne_ob9_ob14ar, ne_ob9_ob14ad, ne_ob9_ob14au])
    have E_ob11 := E_ob11.keep KK22
    have F_ob11_row := F_ob11_row.keep KK22 (by simp [ne_ob11_ob14ar, ne_ob11_ob14ad, ne_ob11_ob14au])
    have F_ob11_column := F_ob11_column.keep KK22 (by simp [ne_ob11_ob14ar, ne_ob11_ob14ad, ne_ob11_ob14au])
    have E_ob13 := E_ob13.keep KK22
    have F_ob13_size := F_ob13_size.keep KK22 (by simp [ne_ob13_ob14ar, ne_ob13_ob14ad, ne_ob13_ob14au])
    have F_ob13_rows := F_ob13_rows.keep KK22 (by simp [ne_ob13_ob14ar, ne_ob13_ob14ad, ne_ob13_ob14au])
    have F_ob13_downs := F_ob13_downs.keep KK22 (by simp [ne_ob13_ob14ar, ne_ob13_ob14ad, ne_ob13_ob14au])
    have F_ob13_ups := F_ob13_ups.keep KK22 (by simp [ne_ob13_ob14ar, ne_ob13_ob14ad, ne_ob13_ob14au])
    have A_ob14ar := P22_0
    have A_ob14ad := P22_1
    have A_ob14au := P22_2
    have Z0 := Nat.le_trans Z0 KK22.1
    have N22 := Fr.app N21 NL22
    show own_Out p e below _ T22 (mkF m 180 #[.val (.int x0), .val (.int x1), .val (.int x2), .val (.int x3), .val (.int x4), .val (.int kn), .val (.int r1), .val (.int c1), .val (.int r2), .val (.int c2), .val (.int q1), .val (.int q2), .val (.ref ob7), .val (.ref ob9), .val (.ref ob11), .val (.ref ob13), .val (.int (1 : Int32)), .val (.int (2 : Int32)), .val (.int (1 : Int32)), .val (.int (1 : Int32)), .unset, .unset] []) _ _ _
    refine own_to (fun t k => XS.iconst X22.here hx rfl (hb hby at_180) k) ?_
    show own_Out p e below _ T22 (mkF m 181 #[.val (.int x0), .val (.int x1), .val (.int x2), .val (.int x3), .val (.int x4), .val (.int kn), .val (.int r1), .val (.int c1), .val (.int r2), .val (.int c2), .val (.int q1), .val (.int q2), .val (.ref ob7), .val (.ref ob9), .val (.ref ob11), .val (.ref ob13), .val (.int (1 : Int32)), .val (.int (2 : Int32)), .val (.int (1 : Int32)), .val (.int (1 : Int32)), .unset, .unset] [(.int (1 : Int32))]) _ _ _
    refine own_to (fun t k => XS.istore X22.here hx rfl (hb hby at_181) rfl (l' := #[.val (.int x0), .val (.int x1), .val (.int x2), .val (.int x3), .val (.int x4), .val (.int kn), .val (.int r1), .val (.int c1), .val (.int r2), .val (.int c2), .val (.int q1), .val (.int q2), .val (.ref ob7), .val (.ref ob9), .val (.ref ob11), .val (.ref ob13), .val (.int (1 : Int32)), .val (.int (2 : Int32)), .val (.int (1 : Int32)), .val (.int (1 : Int32)), .val (.int (1 : Int32)), .unset]) rfl k) ?_
    show own_Out p e below _ T22 (mkF m 183 #[.val (.int x0), .val (.int x1), .val (.int x2), .val (.int x3), .val (.int x4), .val (.int kn), .val (.int r1), .val (.int c1), .val (.int r2), .val (.int c2), .val (.int q1), .val (.int q2), .val (.ref ob7), .val (.ref ob9), .val (.ref ob11), .val (.ref ob13), .val (.int (1 : Int32)), .val (.int (2 : Int32)), .val (.int (1 : Int32)), .val (.int (1 : Int32)), .val (.int (1 : Int32)), .unset] []) _ _ _
    refine own_to (fun t k => XS.iload X22.here hx rfl (hb hby at_183) rfl k) ?_
    show own_Out p e below _ T22 (mkF m 185 #[.val (.int x0), .val (.int x1), .val (.int x2), .val (.int x3), .val (.int x4), .val (.int kn), .val (.int r1), .val (.int c1), .val (.int r2), .val (.int c2), .val (.int q1), .val (.int q2), .val (.ref ob7), .val (.ref ob9), .val (.ref ob11), .val (.ref ob13), .val (.int (1 : Int32)), .val (.int (2 : Int32)), .val (.int (1 : Int32)), .val (.int (1 : Int32)), .val (.int (1 : Int32)), .unset] [(.int (1 : Int32))]) _ _ _
    have hc185 : ¬ ((1 : Int32) = (0 : Int32)) := by decide
    refine own_to (fun t k => XS.ifNo X22.here hx rfl (hb hby at_185) rfl ((if0 _ _).trans (feq hc185).1) k) ?_
    show own_Out p e below _ T22 (mkF m 188 #[.val (.int x0), .val (.int x1), .val (.int x2), .val (.int x3), .val (.int x4), .val (.int kn), .val (.int r1), .val (.int c1), .val (.int r2), .val (.int c2), .val (.int q1), .val (.int q2), .val (.ref ob7), .val (.ref ob9), .val (.ref ob11), .val (.ref ob13), .val (.int (1 : Int32)), .val (.int (2 : Int32)), .val (.int (1 : Int32)), .val (.int (1 : Int32)), .val (.int (1 : Int32)), .unset] []) _ _ _
    refine own_to (fun t k => XS.iload X22.here hx rfl (hb hby at_188) rfl k) ?_
    show own_Out p e below _ T22 (mkF m 190 #[.val (.int x0), .val (.int x1), .val (.int x2), .val (.int x3), .val (.int x4), .val (.int kn), .val (.int r1), .val (.int c1), .val (.int r2), .val (.int c2), .val (.int q1), .val (.int q2), .val (.ref ob7), .val (.ref ob9), .val (.ref ob11), .val (.ref ob13), .val (.int (1 : Int32)), .val (.int (2 : Int32)), .val (.int (1 : Int32)), .val (.int (1 : Int32)), .val (.int (1 : Int32)), .unset] [(.int r1)]) _ _ _
    refine own_to (fun t k => XS.iload X22.here hx rfl (hb hby at_190) rfl k) ?_
    show own_Out p e below _ T22 (mkF m 192 #[.val (.int x0), .val (.int x1), .val (.int x2), .val (.int x3), .val (.int x4), .val (.int kn), .val (.int r1), .val (.int c1), .val (.int r2), .val (.int c2), .val (.int q1), .val (.int q2), .val (.ref ob7), .val (.ref ob9), .val (.ref ob11), .val (.ref ob13), .val (.int (1 : Int32)), .val (.int (2 : Int32)), .val (.int (1 : Int32)), .val (.int (1 : Int32)), .val (.int (1 : Int32)), .unset] [(.int c1), (.int r1)]) _ _ _
    refine own_to (fun t k => XS.iload X22.here hx rfl (hb hby at_192) rfl k) ?_
    show own_Out p e below _ T22 (mkF m 194 #[.val (.int x0), .val (.int x1), .val (.int x2), .val (.int x3), .val (.int x4), .val (.int kn), .val (.int r1), .val (.int c1), .val (.int r2), .val (.int c2), .val (.int q1), .val (.int q2), .val (.ref ob7), .val (.ref ob9), .val (.ref ob11), .val (.ref ob13), .val (.int (1 : Int32)), .val (.int (2 : Int32)), .val (.int (1 : Int32)), .val (.int (1 : Int32)), .val (.int (1 : Int32)), .unset] [(.int q1), (.int c1), (.int r1)]) _ _ _
    refine own_to (fun t k => XS.iload X22.here hx rfl (hb hby at_194) rfl k) ?_
    show own_Out p e below _ T22 (mkF m 196 #[.val (.int x0), .val (.int x1), .val (.int x2), .val (.int x3), .val (.int x4), .val (.int kn), .val (.int r1), .val (.int c1), .val (.int r2), .val (.int c2), .val (.int q1), .val (.int q2), .val (.ref ob7), .val (.ref ob9), .val (.ref ob11), .val (.ref ob13), .val (.int (1 : Int32)), .val (.int (2 : Int32)), .val (.int (1 : Int32)), .val (.int (1 : Int32)), .val (.int (1 : Int32)), .unset] [(.int q2), (.int q1), (.int c1), (.int r1)]) _ _ _
    refine own_callS X22 hx hZ hown (argsL := [(.int r1), (.int c1), (.int q1), (.int q2)]) (rest := []) (hw _ (List.mem_of_getElem? (i := 68) rfl)) (hw _ (List.mem_of_getElem? (i := 69) rfl)) (hw _ (List.mem_of_getElem? (i := 2) rfl)) (hw _ (List.mem_of_getElem? (i := 70) rfl)) (by decide) (rm12 l Z a0 hw r1 c1 q1 q2 hh22 n0 Z0 ) (by decide) (by decide) e22 rfl (by rw [hml]; rfl) (lenOf pd_8 rfl) rfl (W := 0) (by show 2 * 0 + _ ≤ _; exact Nat.le_of_eq rfl) (hb hby at_196) (by decide) (by decide) fun v23 T23 hh23 L23 X23 e23 hQ23 => ?_
    obtain ⟨rfl, NL23, he23⟩ := hQ23
    replace e23 := e23.trans he23
    have N23 := Fr.app N22 NL23
    show own_Out p e below _ T23 (mkF m 199 #[.val (.int x0), .val (.int x1), .val (.int x2), .val (.int x3), .val (.int x4), .val (.int kn), .val (.int r1), .val (.int c1), .val (.int r2), .val (.int c2), .val (.int q1), .val (.int q2), .val (.ref ob7), .val (.ref ob9), .val (.ref ob11), .val (.ref ob13), .val (.int (1 : Int32)), .val (.int (2 : Int32)), .val (.int (1 : Int32)), .val (.int (1 : Int32)), .val (.int (1 : Int32)), .unset] [(.int (R12 r1 c1 q1 q2))]) _ _ _
    by_cases hc199 : (R12 r1 c1 q1 q2) = (0 : Int32)
    · refine own_to (fun t k => XS.ifYes X23.here hx rfl (pc0 := 199) (pc' := 205) rfl (hb hby at_199) rfl ((if0 _ _).trans (teq hc199).1) (by decide) (by decide) k) ?_
      show own_Out p e below _ T23 (mkF m 205 #[.val (.int x0), .val (.int x1), .val (.int x2), .val (.int x3), .val (.int x4), .val (.int kn), .val (.int r1), .val (.int c1), .val (.int r2), .val (.int c2), .val (.int q1), .val (.int q2), .val (.ref ob7), .val (.ref ob9), .val (.ref ob11), .val (.ref ob13), .val (.int (1 : Int32)), .val (.int (2 : Int32)), .val (.int (1 : Int32)), .val (.int (1 : Int32)), .val (.int (1 : Int32)), .unset] []) _ _ _
      refine own_to (fun t k => XS.iload X23.here hx rfl (hb hby at_205) rfl k) ?_
      show own_Out p e below _ T23 (mkF m 207 #[.val (.int x0), .val (.int x1), .val (.int x2), .val (.int x3), .val (.int x4), .val (.int kn), .val (.int r1), .val (.int c1), .val (.int r2), .val (.int c2), .val (.int q1), .val (.int q2), .val (.ref ob7), .val (.ref ob9), .val (.ref ob11), .val (.ref ob13), .val (.int (1 : Int32)), .val (.int (2 : Int32)), .val (.int (1 : Int32)), .val (.int (1 : Int32)), .val (.int (1 : Int32)), .unset] [(.int (1 : Int32))]) _ _ _
      have hc207 : ¬ ((1 : Int32) = (0 : Int32)) := by decide
      refine own_to (fun t k => XS.ifNo X23.here hx rfl (hb hby at_207) rfl ((if0 _ _).trans (feq hc207).1) k) ?_
      show own_Out p e below _ T23 (mkF m 210 #[.val (.int x0), .val (.int x1), .val (.int x2), .val (.int x3), .val (.int x4), .val (.int kn), .val (.int r1), .val (.int c1), .val (.int r2), .val (.int c2), .val (.int q1), .val (.int q2), .val (.ref ob7), .val (.ref ob9), .val (.ref ob11), .val (.ref ob13), .val (.int (1 : Int32)), .val (.int (2 : Int32)), .val (.int (1 : Int32)), .val (.int (1 : Int32)), .val (.int (1 : Int32)), .unset] []) _ _ _
      refine own_to (fun t k => XS.iload X23.here hx rfl (hb hby at_210) rfl k) ?_
      show own_Out p e below _ T23 (mkF m 212 #[.val (.int x0), .val (.int x1), .val (.int x2), .val (.int x3), .val (.int x4), .val (.int kn), .val (.int r1), .val (.int c1), .val (.int r2), .val (.int c2), .val (.int q1), .val (.int q2), .val (.ref ob7), .val (.ref ob9), .val (.ref ob11), .val (.ref ob13), .val (.int (1 : Int32)), .val (.int (2 : Int32)), .val (.int (1 : Int32)), .val (.int (1 : Int32)), .val (.int (1 : Int32)), .unset] [(.int r2)]) _ _ _
      refine own_to (fun t k => XS.iload X23.here hx rfl (hb hby at_212) rfl k) ?_
      show own_Out p e below _ T23 (mkF m 214 #[.val (.int x0), .val (.int x1), .val (.int x2), .val (.int x3), .val (.int x4), .val (.int kn), .val (.int r1), .val (.int c1), .val (.int r2), .val (.int c2), .val (.int q1), .val (.int q2), .val (.ref ob7), .val (.ref ob9), .val (.ref ob11), .val (.ref ob13), .val (.int (1 : Int32)), .val (.int (2 : Int32)), .val (.int (1 : Int32)), .val (.int (1 : Int32)), .val (.int (1 : Int32)), .unset] [(.int c2), (.int r2)]) _ _ _
      refine own_to (fun t k => XS.iload X23.here hx rfl (hb hby at_214) rfl k) ?_
      show own_Out p e below _ T23 (mkF m 216 #[.val (.int x0), .val (.int x1), .val (.int x2), .val (.int x3), .val (.int x4), .val (.int kn), .val (.int r1), .val (.int c1), .val (.int r2), .val (.int c2), .val (.int q1), .val (.int q2), .val (.ref ob7), .val (.ref ob9), .val (.ref ob11), .val (.ref ob13), .val (.int (1 : Int32)), .val (.int (2 : Int32)), .val (.int (1 : Int32)), .val (.int (1 : Int32)), .val (.int (1 : Int32)), .unset] [(.int q1), (.int c2), (.int r2)]) _ _ _
      refine own_to (fun t k => XS.iload X23.here hx rfl (hb hby at_216) rfl k) ?_
      show own_Out p e below _ T23 (mkF m 218 #[.val (.int x0), .val (.int x1), .val (.int x2), .val (.int x3), .val (.int x4), .val (.int kn), .val (.int r1), .val (.int c1), .val (.int r2), .val (.int c2), .val (.int q1), .val (.int q2), .val (.ref ob7), .val (.ref ob9), .val (.ref ob11), .val (.ref ob13), .val (.int (1 : Int32)), .val (.int (2 : Int32)), .val (.int (1 : Int32)), .val (.int (1 : Int32)), .val (.int (1 : Int32)), .unset] [(.int q2), (.int q1), (.int c2), (.int r2)]) _ _ _
      refine own_callS X23 hx hZ hown (argsL := [(.int r2), (.int c2), (.int q1), (.int q2)]) (rest := []) (hw _ (List.mem_of_getElem? (i := 68) rfl)) (hw _ (List.mem_of_getElem? (i := 69) rfl)) (hw _ (List.mem_of_getElem? (i := 2) rfl)) (hw _ (List.mem_of_getElem? (i := 70) rfl)) (by decide) (rm12 l Z a0 hw r2 c2 q1 q2 hh22 n0 Z0 ) (by decide) (by decide) e23 rfl (by rw [hml]; rfl) (lenOf pd_8 rfl) rfl (W := 0) (by show 2 * 0 + _ ≤ _; exact Nat.le_of_eq rfl) (hb hby at_218) (by decide) (by decide) fun v24 T24 hh24 L24 X24 e24 hQ24 => ?_
      obtain ⟨rfl, NL24, he24⟩ := hQ24
      replace e24 := e24.trans he24
      have N24 := Fr.app N23 NL24
      show own_Out p e below _ T24 (mkF m 221 #[.val (.int x0), .val (.int x1), .val (.int x2), .val (.int x3), .val (.int x4), .val (.int kn), .val (.int r1), .val (.int c1), .val (.int r2), .val (.int c2), .val (.int q1), .val (.int q2), .val (.ref ob7), .val (.ref ob9), .val (.ref ob11), .val (.ref ob13), .val (.int (1 : Int32)), .val (.int (2 : Int32)), .val (.int (1 : Int32)), .val (.int (1 : Int32)), .val (.int (1 : Int32)), .unset] [(.int (R12 r2 c2 q1 q2))]) _ _ _
      by_cases hc221 : (R12 r2 c2 q1 q2) = (0 : Int32)
      · refine own_to (fun t k => XS.ifYes X24.here hx rfl (pc0 := 221) (pc' := 227) rfl (hb hby at_221) rfl ((if0 _ _).trans (teq hc221).1) (by decide) (by decide) k) ?_
        show own_Out p e below _ T24 (mkF m 227 #[.val (.int x0), .val (.int x1), .val (.int x2), .val (.int x3), .val (.int x4), .val (.int kn), .val (.int r1), .val (.int c1), .val (.int r2), .val (.int c2), .val (.int q1), .val (.int q2), .val (.ref ob7), .val (.ref ob9), .val (.ref ob11), .val (.ref ob13), .val (.int (1 : Int32)), .val (.int (2 : Int32)), .val (.int (1 : Int32)), .val (.int (1 : Int32)), .val (.int (1 : Int32)), .unset] []) _ _ _
        refine own_to (fun t k => XS.aload X24.here hx rfl (hb hby at_227) rfl rfl k) ?_
        show own_Out p e below _ T24 (mkF m 229 #[.val (.int x0), .val (.int x1), .val (.int x2), .val (.int x3), .val (.int x4), .val (.int kn), .val (.int r1), .val (.int c1), .val (.int r2), .val (.int c2), .val (.int q1), .val (.int q2), .val (.ref ob7), .val (.ref ob9), .val (.ref ob11), .val (.ref ob13), .val (.int (1 : Int32)), .val (.int (2 : Int32)), .val (.int (1 : Int32)), .val (.int (1 : Int32)), .val (.int (1 : Int32)), .unset] [(.ref ob13)]) _ _ _
        refine own_to (fun t k => XS.aload X24.here hx rfl (hb hby at_229) rfl rfl k) ?_
        show own_Out p e below _ T24 (mkF m 231 #[.val (.int x0), .val (.int x1), .val (.int x2), .val (.int x3), .val (.int x4), .val (.int kn), .val (.int r1), .val (.int c1), .val (.int r2), .val (.int c2), .val (.int q1), .val (.int q2), .val (.ref ob7), .val (.ref ob9), .val (.ref ob11), .val (.ref ob13), .val (.int (1 : Int32)), .val (.int (2 : Int32)), .val (.int (1 : Int32)), .val (.int (1 : Int32)), .val (.int (1 : Int32)), .unset] [(.ref ob11), (.ref ob13)]) _ _ _
        refine own_callV X24 hx hZ hown (a := ob13) (argsL := [(.ref ob11)]) (rest := []) (hw _ (List.mem_of_getElem? (i := 39) rfl)) (hw _ (List.mem_of_getElem? (i := 40) rfl)) (hw _ (List.mem_of_getElem? (i := 42) rfl)) (hw _ (List.mem_of_getElem? (i := 41) rfl)) (hw _ (List.mem_of_getElem? (i := 25) rfl)) (hw _ (List.mem_of_getElem? (i := 43) rfl)) (by decide) (rm6 l Z a0 hw ob13 ob11 q1 q2 kn ob14ar ob14ad ob14au (own_upd (own_upd (fun _ => 0) (r1.toNatClampNeg) (nar .boolean (1 : Int32))) (r2.toNatClampNeg) (nar .boolean (1 : Int32))) (own_upd (own_upd (fun _ => 0) (((r1 - c1) + kn).toNatClampNeg) (nar .boolean (1 : Int32))) (((r2 - c2) + kn).toNatClampNeg) (nar .boolean (1 : Int32))) (own_upd (own_upd (fun _ => 0) ((r1 + c1).toNatClampNeg) (nar .boolean (1 : Int32))) ((r2 + c2).toNatClampNeg) (nar .boolean (1 : Int32))) hh22 n0 Z0 E_ob13 E_ob11 F_ob11_row F_ob11_column F_ob13_size F_ob13_rows F_ob13_downs F_ob13_ups A_ob14ar A_ob14ad A_ob14au bn b_q1 b_q2) (by decide) (by decide) e24 E_ob13 rfl (by rw [hml]; rfl) (lenOf pd_6 rfl) rfl (W := 0) (by show 2 * 0 + _ ≤ _; exact Nat.le_of_eq rfl) (hb hby at_231) (by decide) (by decide) fun v25 T25 hh25 L25 X25 e25 hQ25 => ?_
        obtain ⟨rfl, NL25, he25⟩ := hQ25
        replace e25 := e25.trans he25
        have N25 := Fr.app N24 NL25
        show own_Out p e below _ T25 (mkF m 234 #[.val (.int x0), .val (.int x1), .val (.int x2), .val (.int x3), .val (.int x4), .val (.int kn), .val (.int r1), .val (.int c1), .val (.int r2), .val (.int c2), .val (.int q1), .val (.int q2), .val (.ref ob7), .val (.ref ob9), .val (.ref ob11), .val (.ref ob13), .val (.int (1 : Int32)), .val (.int (2 : Int32)), .val (.int (1 : Int32)), .val (.int (1 : Int32)), .val (.int (1 : Int32)), .unset] [(.int (R6 ob13 ob11 q1 q2 kn ob14ar ob14ad ob14au (own_upd (own_upd (fun _ => 0) (r1.toNatClampNeg) (nar .boolean (1 : Int32))) (r2.toNatClampNeg) (nar .boolean (1 : Int32))) (own_upd (own_upd (fun _ => 0) (((r1 - c1) + kn).toNatClampNeg) (nar .boolean (1 : Int32))) (((r2 - c2) + kn).toNatClampNeg) (nar .boolean (1 : Int32))) (own_upd (own_upd (fun _ => 0) ((r1 + c1).toNatClampNeg) (nar .boolean (1 : Int32))) ((r2 + c2).toNatClampNeg) (nar .boolean (1 : Int32)))))]) _ _ _
        rw [own_free2 _ _ q1 q2 kn _ _ _ r1 c1 r2 c2 bn b_q1 b_q2 b_r1 b_c1 b_r2 b_c2]
        rw [if_pos hc199]
        rw [if_pos hc221]
        show own_Out p e below _ T25 (mkF m 234 #[.val (.int x0), .val (.int x1), .val (.int x2), .val (.int x3), .val (.int x4), .val (.int kn), .val (.int r1), .val (.int c1), .val (.int r2), .val (.int c2), .val (.int q1), .val (.int q2), .val (.ref ob7), .val (.ref ob9), .val (.ref ob11), .val (.ref ob13), .val (.int (1 : Int32)), .val (.int (2 : Int32)), .val (.int (1 : Int32)), .val (.int (1 : Int32)), .val (.int (1 : Int32)), .unset] [(.int (1 : Int32))]) _ _ _
        refine own_to (fun t k => XS.istore X25.here hx rfl (hb hby at_234) rfl (l' := #[.val (.int x0), .val (.int x1), .val (.int x2), .val (.int x3), .val (.int x4), .val (.int kn), .val (.int r1), .val (.int c1), .val (.int r2), .val (.int c2), .val (.int q1), .val (.int q2), .val (.ref ob7), .val (.ref ob9), .val (.ref ob11), .val (.ref ob13), .val (.int (1 : Int32)), .val (.int (2 : Int32)), .val (.int (1 : Int32)), .val (.int (1 : Int32)), .val (.int (1 : Int32)), .val (.int (1 : Int32))]) rfl k) ?_
        show own_Out p e below _ T25 (mkF m 236 #[.val (.int x0), .val (.int x1), .val (.int x2), .val (.int x3), .val (.int x4), .val (.int kn), .val (.int r1), .val (.int c1), .val (.int r2), .val (.int c2), .val (.int q1), .val (.int q2), .val (.ref ob7), .val (.ref ob9), .val (.ref ob11), .val (.ref ob13), .val (.int (1 : Int32)), .val (.int (2 : Int32)), .val (.int (1 : Int32)), .val (.int (1 : Int32)), .val (.int (1 : Int32)), .val (.int (1 : Int32))] []) _ _ _
        refine own_to (fun t k => XS.iload X25.here hx rfl (hb hby at_236) rfl k) ?_
        show own_Out p e below _ T25 (mkF m 238 #[.val (.int x0), .val (.int x1), .val (.int x2), .val (.int x3), .val (.int x4), .val (.int kn), .val (.int r1), .val (.int c1), .val (.int r2), .val (.int c2), .val (.int q1), .val (.int q2), .val (.ref ob7), .val (.ref ob9), .val (.ref ob11), .val (.ref ob13), .val (.int (1 : Int32)), .val (.int (2 : Int32)), .val (.int (1 : Int32)), .val (.int (1 : Int32)), .val (.int (1 : Int32)), .val (.int (1 : Int32))] [(.int (1 : Int32))]) _ _ _
        have hc238 : ¬ ((1 : Int32) = (0 : Int32)) := by decide
        refine own_to (fun t k => XS.ifNo X25.here hx rfl (hb hby at_238) rfl ((if0 _ _).trans (feq hc238).1) k) ?_
        show own_Out p e below _ T25 (mkF m 241 #[.val (.int x0), .val (.int x1), .val (.int x2), .val (.int x3), .val (.int x4), .val (.int kn), .val (.int r1), .val (.int c1), .val (.int r2), .val (.int c2), .val (.int q1), .val (.int q2), .val (.ref ob7), .val (.ref ob9), .val (.ref ob11), .val (.ref ob13), .val (.int (1 : Int32)), .val (.int (2 : Int32)), .val (.int (1 : Int32)), .val (.int (1 : Int32)), .val (.int (1 : Int32)), .val (.int (1 : Int32))] []) _ _ _
        refine own_to (fun t k => XS.iload X25.here hx rfl (hb hby at_241) rfl k) ?_
        show own_Out p e below _ T25 (mkF m 243 #[.val (.int x0), .val (.int x1), .val (.int x2), .val (.int x3), .val (.int x4), .val (.int kn), .val (.int r1), .val (.int c1), .val (.int r2), .val (.int c2), .val (.int q1), .val (.int q2), .val (.ref ob7), .val (.ref ob9), .val (.ref ob11), .val (.ref ob13), .val (.int (1 : Int32)), .val (.int (2 : Int32)), .val (.int (1 : Int32)), .val (.int (1 : Int32)), .val (.int (1 : Int32)), .val (.int (1 : Int32))] [(.int (1 : Int32))]) _ _ _
        refine own_to (fun t k => XS.iload X25.here hx rfl (hb hby at_243) rfl k) ?_
        show own_Out p e below _ T25 (mkF m 245 #[.val (.int x0), .val (.int x1), .val (.int x2), .val (.int x3), .val (.int x4), .val (.int kn), .val (.int r1), .val (.int c1), .val (.int r2), .val (.int c2), .val (.int q1), .val (.int q2), .val (.ref ob7), .val (.ref ob9), .val (.ref ob11), .val (.ref ob13), .val (.int (1 : Int32)), .val (.int (2 : Int32)), .val (.int (1 : Int32)), .val (.int (1 : Int32)), .val (.int (1 : Int32)), .val (.int (1 : Int32))] [(.int (1 : Int32)), (.int (1 : Int32))]) _ _ _
        have hc245 : (1 : Int32) = (1 : Int32) := by decide
        refine own_to (fun t k => XS.icmpNo X25.here hx rfl (hb hby at_245) rfl (teq hc245).2 k) ?_
        show own_Out p e below _ T25 (mkF m 248 #[.val (.int x0), .val (.int x1), .val (.int x2), .val (.int x3), .val (.int x4), .val (.int kn), .val (.int r1), .val (.int c1), .val (.int r2), .val (.int c2), .val (.int q1), .val (.int q2), .val (.ref ob7), .val (.ref ob9), .val (.ref ob11), .val (.ref ob13), .val (.int (1 : Int32)), .val (.int (2 : Int32)), .val (.int (1 : Int32)), .val (.int (1 : Int32)), .val (.int (1 : Int32)), .val (.int (1 : Int32))] []) _ _ _
        refine own_to (fun t k => XS.iconst X25.here hx rfl (hb hby at_248) k) ?_
        show own_Out p e below _ T25 (mkF m 249 #[.val (.int x0), .val (.int x1), .val (.int x2), .val (.int x3), .val (.int x4), .val (.int kn), .val (.int r1), .val (.int c1), .val (.int r2), .val (.int c2), .val (.int q1), .val (.int q2), .val (.ref ob7), .val (.ref ob9), .val (.ref ob11), .val (.ref ob13), .val (.int (1 : Int32)), .val (.int (2 : Int32)), .val (.int (1 : Int32)), .val (.int (1 : Int32)), .val (.int (1 : Int32)), .val (.int (1 : Int32))] [(.int (1 : Int32))]) _ _ _
        refine own_to (fun t k => XS.goto X25.here hx rfl (pc0 := 249) (pc' := 253) rfl (hb hby at_249) (by decide) (by decide) k) ?_
        show own_Out p e below _ T25 (mkF m 253 #[.val (.int x0), .val (.int x1), .val (.int x2), .val (.int x3), .val (.int x4), .val (.int kn), .val (.int r1), .val (.int c1), .val (.int r2), .val (.int c2), .val (.int q1), .val (.int q2), .val (.ref ob7), .val (.ref ob9), .val (.ref ob11), .val (.ref ob13), .val (.int (1 : Int32)), .val (.int (2 : Int32)), .val (.int (1 : Int32)), .val (.int (1 : Int32)), .val (.int (1 : Int32)), .val (.int (1 : Int32))] [(.int (1 : Int32))]) _ _ _
        refine own_retV X25 hx hlk (w := .int (1 : Int32)) hret rfl (Or.inl ⟨rfl, by simp, _, rfl⟩) (hb hby at_253) (by decide) (by decide) ?_
        rw [e25]
        exact ⟨rfl, N25⟩
      · refine own_to (fun t k => XS.ifNo X24.here hx rfl (hb hby at_221) rfl ((if0 _ _).trans (feq hc221).1) k) ?_
        show own_Out p e below _ T24 (mkF m 224 #[.val (.int x0), .val (.int x1), .val (.int x2), .val (.int x3), .val (.int x4), .val (.int kn), .val (.int r1), .val (.int c1), .val (.int r2), .val (.int c2), .val (.int q1), .val (.int q2), .val (.ref ob7), .val (.ref ob9), .val (.ref ob11), .val (.ref ob13), .val (.int (1 : Int32)), .val (.int (2 : Int32)), .val (.int (1 : Int32)), .val (.int (1 : Int32)), .val (.int (1 : Int32)), .unset] []) _ _ _
        refine own_to (fun t k => XS.iconst X24.here hx rfl (hb hby at_224) k) ?_
        show own_Out p e below _ T24 (mkF m 225 #[.val (.int x0), .val (.int x1), .val (.int x2), .val (.int x3), .val (.int x4), .val (.int kn), .val (.int r1), .val (.int c1), .val (.int r2), .val (.int c2), .val (.int q1), .val (.int q2), .val (.ref ob7), .val (.ref ob9), .val (.ref ob11), .val (.ref ob13), .val (.int (1 : Int32)), .val (.int (2 : Int32)), .val (.int (1 : Int32)), .val (.int (1 : Int32)), .val (.int (1 : Int32)), .unset] [(.int (0 : Int32))]) _ _ _
        refine own_to (fun t k => XS.istore X24.here hx rfl (hb hby at_225) rfl (l' := #[.val (.int x0), .val (.int x1), .val (.int x2), .val (.int x3), .val (.int x4), .val (.int kn), .val (.int r1), .val (.int c1), .val (.int r2), .val (.int c2), .val (.int q1), .val (.int q2), .val (.ref ob7), .val (.ref ob9), .val (.ref ob11), .val (.ref ob13), .val (.int (1 : Int32)), .val (.int (2 : Int32)), .val (.int (1 : Int32)), .val (.int (1 : Int32)), .val (.int (0 : Int32)), .unset]) rfl k) ?_
        show own_Out p e below _ T24 (mkF m 227 #[.val (.int x0), .val (.int x1), .val (.int x2), .val (.int x3), .val (.int x4), .val (.int kn), .val (.int r1), .val (.int c1), .val (.int r2), .val (.int c2), .val (.int q1), .val (.int q2), .val (.ref ob7), .val (.ref ob9), .val (.ref ob11), .val (.ref ob13), .val (.int (1 : Int32)), .val (.int (2 : Int32)), .val (.int (1 : Int32)), .val (.int (1 : Int32)), .val (.int (0 : Int32)), .unset] []) _ _ _
        refine own_to (fun t k => XS.aload X24.here hx rfl (hb hby at_227) rfl rfl k) ?_
        show own_Out p e below _ T24 (mkF m 229 #[.val (.int x0), .val (.int x1), .val (.int x2), .val (.int x3), .val (.int x4), .val (.int kn), .val (.int r1), .val (.int c1), .val (.int r2), .val (.int c2), .val (.int q1), .val (.int q2), .val (.ref ob7), .val (.ref ob9), .val (.ref ob11), .val (.ref ob13), .val (.int (1 : Int32)), .val (.int (2 : Int32)), .val (.int (1 : Int32)), .val (.int (1 : Int32)), .val (.int (0 : Int32)), .unset] [(.ref ob13)]) _ _ _
        refine own_to (fun t k => XS.aload X24.here hx rfl (hb hby at_229) rfl rfl k) ?_
        show own_Out p e below _ T24 (mkF m 231 #[.val (.int x0), .val (.int x1), .val (.int x2), .val (.int x3), .val (.int x4), .val (.int kn), .val (.int r1), .val (.int c1), .val (.int r2), .val (.int c2), .val (.int q1), .val (.int q2), .val (.ref ob7), .val (.ref ob9), .val (.ref ob11), .val (.ref ob13), .val (.int (1 : Int32)), .val (.int (2 : Int32)), .val (.int (1 : Int32)), .val (.int (1 : Int32)), .val (.int (0 : Int32)), .unset] [(.ref ob11), (.ref ob13)]) _ _ _
        refine own_callV X24 hx hZ hown (a := ob13) (argsL := [(.ref ob11)]) (rest := []) (hw _ (List.mem_of_getElem? (i := 39) rfl)) (hw _ (List.mem_of_getElem? (i := 40) rfl)) (hw _ (List.mem_of_getElem? (i := 42) rfl)) (hw _ (List.mem_of_getElem? (i := 41) rfl)) (hw _ (List.mem_of_getElem? (i := 25) rfl)) (hw _ (List.mem_of_getElem? (i := 43) rfl)) (by decide) (rm6 l Z a0 hw ob13 ob11 q1 q2 kn ob14ar ob14ad ob14au (own_upd (own_upd (fun _ => 0) (r1.toNatClampNeg) (nar .boolean (1 : Int32))) (r2.toNatClampNeg) (nar .boolean (1 : Int32))) (own_upd (own_upd (fun _ => 0) (((r1 - c1) + kn).toNatClampNeg) (nar .boolean (1 : Int32))) (((r2 - c2) + kn).toNatClampNeg) (nar .boolean (1 : Int32))) (own_upd (own_upd (fun _ => 0) ((r1 + c1).toNatClampNeg) (nar .boolean (1 : Int32))) ((r2 + c2).toNatClampNeg) (nar .boolean (1 : Int32))) hh22 n0 Z0 E_ob13 E_ob11 F_ob11_row F_ob11_column F_ob13_size F_ob13_rows F_ob13_downs F_ob13_ups A_ob14ar A_ob14ad A_ob14au bn b_q1 b_q2) (by decide) (by decide) e24 E_ob13 rfl (by rw [hml]; rfl) (lenOf pd_6 rfl) rfl (W := 0) (by show 2 * 0 + _ ≤ _; exact Nat.le_of_eq rfl) (hb hby at_231) (by decide) (by decide) fun v26 T26 hh26 L26 X26 e26 hQ26 => ?_
        obtain ⟨rfl, NL26, he26⟩ := hQ26
        replace e26 := e26.trans he26
        have N26 := Fr.app N24 NL26
        show own_Out p e below _ T26 (mkF m 234 #[.val (.int x0), .val (.int x1), .val (.int x2), .val (.int x3), .val (.int x4), .val (.int kn), .val (.int r1), .val (.int c1), .val (.int r2), .val (.int c2), .val (.int q1), .val (.int q2), .val (.ref ob7), .val (.ref ob9), .val (.ref ob11), .val (.ref ob13), .val (.int (1 : Int32)), .val (.int (2 : Int32)), .val (.int (1 : Int32)), .val (.int (1 : Int32)), .val (.int (0 : Int32)), .unset] [(.int (R6 ob13 ob11 q1 q2 kn ob14ar ob14ad ob14au (own_upd (own_upd (fun _ => 0) (r1.toNatClampNeg) (nar .boolean (1 : Int32))) (r2.toNatClampNeg) (nar .boolean (1 : Int32))) (own_upd (own_upd (fun _ => 0) (((r1 - c1) + kn).toNatClampNeg) (nar .boolean (1 : Int32))) (((r2 - c2) + kn).toNatClampNeg) (nar .boolean (1 : Int32))) (own_upd (own_upd (fun _ => 0) ((r1 + c1).toNatClampNeg) (nar .boolean (1 : Int32))) ((r2 + c2).toNatClampNeg) (nar .boolean (1 : Int32)))))]) _ _ _
        rw [own_free2 _ _ q1 q2 kn _ _ _ r1 c1 r2 c2 bn b_q1 b_q2 b_r1 b_c1 b_r2 b_c2]
        rw [if_pos hc199]
        rw [if_neg hc221]
        show own_Out p e below _ T26 (mkF m 234 #[.val (.int x0), .val (.int x1), .val (.int x2), .val (.int x3), .val (.int x4), .val (.int kn), .val (.int r1), .val (.int c1), .val (.int r2), .val (.int c2), .val (.int q1), .val (.int q2), .val (.ref ob7), .val (.ref ob9), .val (.ref ob11), .val (.ref ob13), .val (.int (1 : Int32)), .val (.int (2 : Int32)), .val (.int (1 : Int32)), .val (.int (1 : Int32)), .val (.int (0 : Int32)), .unset] [(.int (0 : Int32))]) _ _ _
        refine own_to (fun t k => XS.istore X26.here hx rfl (hb hby at_234) rfl (l' := #[.val (.int x0), .val (.int x1), .val (.int x2), .val (.int x3), .val (.int x4), .val (.int kn), .val (.int r1), .val (.int c1), .val (.int r2), .val (.int c2), .val (.int q1), .val (.int q2), .val (.ref ob7), .val (.ref ob9), .val (.ref ob11), .val (.ref ob13), .val (.int (1 : Int32)), .val (.int (2 : Int32)), .val (.int (1 : Int32)), .val (.int (1 : Int32)), .val (.int (0 : Int32)), .val (.int (0 : Int32))]) rfl k) ?_
        show own_Out p e below _ T26 (mkF m 236 #[.val (.int x0), .val (.int x1), .val (.int x2), .val (.int x3), .val (.int x4), .val (.int kn), .val (.int r1), .val (.int c1), .val (.int r2), .val (.int c2), .val (.int q1), .val (.int q2), .val (.ref ob7), .val (.ref ob9), .val (.ref ob11), .val (.ref ob13), .val (.int (1 : Int32)), .val (.int (2 : Int32)), .val (.int (1 : Int32)), .val (.int (1 : Int32)), .val (.int (0 : Int32)), .val (.int (0 : Int32))] []) _ _ _
        refine own_to (fun t k => XS.iload X26.here hx rfl (hb hby at_236) rfl k) ?_
        show own_Out p e below _ T26 (mkF m 238 #[.val (.int x0), .val (.int x1), .val (.int x2), .val (.int x3), .val (.int x4), .val (.int kn), .val (.int r1), .val (.int c1), .val (.int r2), .val (.int c2), .val (.int q1), .val (.int q2), .val (.ref ob7), .val (.ref ob9), .val (.ref ob11), .val (.ref ob13), .val (.int (1 : Int32)), .val (.int (2 : Int32)), .val (.int (1 : Int32)), .val (.int (1 : Int32)), .val (.int (0 : Int32)), .val (.int (0 : Int32))] [(.int (1 : Int32))]) _ _ _
        have hc238 : ¬ ((1 : Int32) = (0 : Int32)) := by decide
        refine own_to (fun t k => XS.ifNo X26.here hx rfl (hb hby at_238) rfl ((if0 _ _).trans (feq hc238).1) k) ?_
        show own_Out p e below _ T26 (mkF m 241 #[.val (.int x0), .val (.int x1), .val (.int x2), .val (.int x3), .val (.int x4), .val (.int kn), .val (.int r1), .val (.int c1), .val (.int r2), .val (.int c2), .val (.int q1), .val (.int q2), .val (.ref ob7), .val (.ref ob9), .val (.ref ob11), .val (.ref ob13), .val (.int (1 : Int32)), .val (.int (2 : Int32)), .val (.int (1 : Int32)), .val (.int (1 : Int32)), .val (.int (0 : Int32)), .val (.int (0 : Int32))] []) _ _ _
        refine own_to (fun t k => XS.iload X26.here hx rfl (hb hby at_241) rfl k) ?_
        show own_Out p e below _ T26 (mkF m 243 #[.val (.int x0), .val (.int x1), .val (.int x2), .val (.int x3), .val (.int x4), .val (.int kn), .val (.int r1), .val (.int c1), .val (.int r2), .val (.int c2), .val (.int q1), .val (.int q2), .val (.ref ob7), .val (.ref ob9), .val (.ref ob11), .val (.ref ob13), .val (.int (1 : Int32)), .val (.int (2 : Int32)), .val (.int (1 : Int32)), .val (.int (1 : Int32)), .val (.int (0 : Int32)), .val (.int (0 : Int32))] [(.int (0 : Int32))]) _ _ _
        refine own_to (fun t k => XS.iload X26.here hx rfl (hb hby at_243) rfl k) ?_
        show own_Out p e below _ T26 (mkF m 245 #[.val (.int x0), .val (.int x1), .val (.int x2), .val (.int x3), .val (.int x4), .val (.int kn), .val (.int r1), .val (.int c1), .val (.int r2), .val (.int c2), .val (.int q1), .val (.int q2), .val (.ref ob7), .val (.ref ob9), .val (.ref ob11), .val (.ref ob13), .val (.int (1 : Int32)), .val (.int (2 : Int32)), .val (.int (1 : Int32)), .val (.int (1 : Int32)), .val (.int (0 : Int32)), .val (.int (0 : Int32))] [(.int (0 : Int32)), (.int (0 : Int32))]) _ _ _
        have hc245 : (0 : Int32) = (0 : Int32) := by decide
        refine own_to (fun t k => XS.icmpNo X26.here hx rfl (hb hby at_245) rfl (teq hc245).2 k) ?_
        show own_Out p e below _ T26 (mkF m 248 #[.val (.int x0), .val (.int x1), .val (.int x2), .val (.int x3), .val (.int x4), .val (.int kn), .val (.int r1), .val (.int c1), .val (.int r2), .val (.int c2), .val (.int q1), .val (.int q2), .val (.ref ob7), .val (.ref ob9), .val (.ref ob11), .val (.ref ob13), .val (.int (1 : Int32)), .val (.int (2 : Int32)), .val (.int (1 : Int32)), .val (.int (1 : Int32)), .val (.int (0 : Int32)), .val (.int (0 : Int32))] []) _ _ _
        refine own_to (fun t k => XS.iconst X26.here hx rfl (hb hby at_248) k) ?_
        show own_Out p e below _ T26 (mkF m 249 #[.val (.int x0), .val (.int x1), .val (.int x2), .val (.int x3), .val (.int x4), .val (.int kn), .val (.int r1), .val (.int c1), .val (.int r2), .val (.int c2), .val (.int q1), .val (.int q2), .val (.ref ob7), .val (.ref ob9), .val (.ref ob11), .val (.ref ob13), .val (.int (1 : Int32)), .val (.int (2 : Int32)), .val (.int (1 : Int32)), .val (.int (1 : Int32)), .val (.int (0 : Int32)), .val (.int (0 : Int32))] [(.int (1 : Int32))]) _ _ _
        refine own_to (fun t k => XS.goto X26.here hx rfl (pc0 := 249) (pc' := 253) rfl (hb hby at_249) (by decide) (by decide) k) ?_
        show own_Out p e below _ T26 (mkF m 253 #[.val (.int x0), .val (.int x1), .val (.int x2), .val (.int x3), .val (.int x4), .val (.int kn), .val (.int r1), .val (.int c1), .val (.int r2), .val (.int c2), .val (.int q1), .val (.int q2), .val (.ref ob7), .val (.ref ob9), .val (.ref ob11), .val (.ref ob13), .val (.int (1 : Int32)), .val (.int (2 : Int32)), .val (.int (1 : Int32)), .val (.int (1 : Int32)), .val (.int (0 : Int32)), .val (.int (0 : Int32))] [(.int (1 : Int32))]) _ _ _
        refine own_retV X26 hx hlk (w := .int (1 : Int32)) hret rfl (Or.inl ⟨rfl, by simp, _, rfl⟩) (hb hby at_253) (by decide) (by decide) ?_
        rw [e26]
        exact ⟨rfl, N26⟩
    · refine own_to (fun t k => XS.ifNo X23.here hx rfl (hb hby at_199) rfl ((if0 _ _).trans (feq hc199).1) k) ?_
      show own_Out p e below _ T23 (mkF m 202 #[.val (.int x0), .val (.int x1), .val (.int x2), .val (.int x3), .val (.int x4), .val (.int kn), .val (.int r1), .val (.int c1), .val (.int r2), .val (.int c2), .val (.int q1), .val (.int q2), .val (.ref ob7), .val (.ref ob9), .val (.ref ob11), .val (.ref ob13), .val (.int (1 : Int32)), .val (.int (2 : Int32)), .val (.int (1 : Int32)), .val (.int (1 : Int32)), .val (.int (1 : Int32)), .unset] []) _ _ _
      refine own_to (fun t k => XS.iconst X23.here hx rfl (hb hby at_202) k) ?_
      show own_Out p e below _ T23 (mkF m 203 #[.val (.int x0), .val (.int x1), .val (.int x2), .val (.int x3), .val (.int x4), .val (.int kn), .val (.int r1), .val (.int c1), .val (.int r2), .val (.int c2), .val (.int q1), .val (.int q2), .val (.ref ob7), .val (.ref ob9), .val (.ref ob11), .val (.ref ob13), .val (.int (1 : Int32)), .val (.int (2 : Int32)), .val (.int (1 : Int32)), .val (.int (1 : Int32)), .val (.int (1 : Int32)), .unset] [(.int (0 : Int32))]) _ _ _
      refine own_to (fun t k => XS.istore X23.here hx rfl (hb hby at_203) rfl (l' := #[.val (.int x0), .val (.int x1), .val (.int x2), .val (.int x3), .val (.int x4), .val (.int kn), .val (.int r1), .val (.int c1), .val (.int r2), .val (.int c2), .val (.int q1), .val (.int q2), .val (.ref ob7), .val (.ref ob9), .val (.ref ob11), .val (.ref ob13), .val (.int (1 : Int32)), .val (.int (2 : Int32)), .val (.int (1 : Int32)), .val (.int (1 : Int32)), .val (.int (0 : Int32)), .unset]) rfl k) ?_
      show own_Out p e below _ T23 (mkF m 205 #[.val (.int x0), .val (.int x1), .val (.int x2), .val (.int x3), .val (.int x4), .val (.int kn), .val (.int r1), .val (.int c1), .val (.int r2), .val (.int c2), .val (.int q1), .val (.int q2), .val (.ref ob7), .val (.ref ob9), .val (.ref ob11), .val (.ref ob13), .val (.int (1 : Int32)), .val (.int (2 : Int32)), .val (.int (1 : Int32)), .val (.int (1 : Int32)), .val (.int (0 : Int32)), .unset] []) _ _ _
      refine own_to (fun t k => XS.iload X23.here hx rfl (hb hby at_205) rfl k) ?_
      show own_Out p e below _ T23 (mkF m 207 #[.val (.int x0), .val (.int x1), .val (.int x2), .val (.int x3), .val (.int x4), .val (.int kn), .val (.int r1), .val (.int c1), .val (.int r2), .val (.int c2), .val (.int q1), .val (.int q2), .val (.ref ob7), .val (.ref ob9), .val (.ref ob11), .val (.ref ob13), .val (.int (1 : Int32)), .val (.int (2 : Int32)), .val (.int (1 : Int32)), .val (.int (1 : Int32)), .val (.int (0 : Int32)), .unset] [(.int (1 : Int32))]) _ _ _
      have hc207 : ¬ ((1 : Int32) = (0 : Int32)) := by decide
      refine own_to (fun t k => XS.ifNo X23.here hx rfl (hb hby at_207) rfl ((if0 _ _).trans (feq hc207).1) k) ?_
      show own_Out p e below _ T23 (mkF m 210 #[.val (.int x0), .val (.int x1), .val (.int x2), .val (.int x3), .val (.int x4), .val (.int kn), .val (.int r1), .val (.int c1), .val (.int r2), .val (.int c2), .val (.int q1), .val (.int q2), .val (.ref ob7), .val (.ref ob9), .val (.ref ob11), .val (.ref ob13), .val (.int (1 : Int32)), .val (.int (2 : Int32)), .val (.int (1 : Int32)), .val (.int (1 : Int32)), .val (.int (0 : Int32)), .unset] []) _ _ _
      refine own_to (fun t k => XS.iload X23.here hx rfl (hb hby at_210) rfl k) ?_
      show own_Out p e below _ T23 (mkF m 212 #[.val (.int x0), .val (.int x1), .val (.int x2), .val (.int x3), .val (.int x4), .val (.int kn), .val (.int r1), .val (.int c1), .val (.int r2), .val (.int c2), .val (.int q1), .val (.int q2), .val (.ref ob7), .val (.ref ob9), .val (.ref ob11), .val (.ref ob13), .val (.int (1 : Int32)), .val (.int (2 : Int32)), .val (.int (1 : Int32)), .val (.int (1 : Int32)), .val (.int (0 : Int32)), .unset] [(.int r2)]) _ _ _
      refine own_to (fun t k => XS.iload X23.here hx rfl (hb hby at_212) rfl k) ?_
      show own_Out p e below _ T23 (mkF m 214 #[.val (.int x0), .val (.int x1), .val (.int x2), .val (.int x3), .val (.int x4), .val (.int kn), .val (.int r1), .val (.int c1), .val (.int r2), .val (.int c2), .val (.int q1), .val (.int q2), .val (.ref ob7), .val (.ref ob9), .val (.ref ob11), .val (.ref ob13), .val (.int (1 : Int32)), .val (.int (2 : Int32)), .val (.int (1 : Int32)), .val (.int (1 : Int32)), .val (.int (0 : Int32)), .unset] [(.int c2), (.int r2)]) _ _ _
      refine own_to (fun t k => XS.iload X23.here hx rfl (hb hby at_214) rfl k) ?_
      show own_Out p e below _ T23 (mkF m 216 #[.val (.int x0), .val (.int x1), .val (.int x2), .val (.int x3), .val (.int x4), .val (.int kn), .val (.int r1), .val (.int c1), .val (.int r2), .val (.int c2), .val (.int q1), .val (.int q2), .val (.ref ob7), .val (.ref ob9), .val (.ref ob11), .val (.ref ob13), .val (.int (1 : Int32)), .val (.int (2 : Int32)), .val (.int (1 : Int32)), .val (.int (1 : Int32)), .val (.int (0 : Int32)), .unset] [(.int q1), (.int c2), (.int r2)]) _ _ _
      refine own_to (fun t k => XS.iload X23.here hx rfl (hb hby at_216) rfl k) ?_
      show own_Out p e below _ T23 (mkF m 218 #[.val (.int x0), .val (.int x1), .val (.int x2), .val (.int x3), .val (.int x4), .val (.int kn), .val (.int r1), .val (.int c1), .val (.int r2), .val (.int c2), .val (.int q1), .val (.int q2), .val (.ref ob7), .val (.ref ob9), .val (.ref ob11), .val (.ref ob13), .val (.int (1 : Int32)), .val (.int (2 : Int32)), .val (.int (1 : Int32)), .val (.int (1 : Int32)), .val (.int (0 : Int32)), .unset] [(.int q2), (.int q1), (.int c2), (.int r2)]) _ _ _
      refine own_callS X23 hx hZ hown (argsL := [(.int r2), (.int c2), (.int q1), (.int q2)]) (rest := []) (hw _ (List.mem_of_getElem? (i := 68) rfl)) (hw _ (List.mem_of_getElem? (i := 69) rfl)) (hw _ (List.mem_of_getElem? (i := 2) rfl)) (hw _ (List.mem_of_getElem? (i := 70) rfl)) (by decide) (rm12 l Z a0 hw r2 c2 q1 q2 hh22 n0 Z0 ) (by decide) (by decide) e23 rfl (by rw [hml]; rfl) (lenOf pd_8 rfl) rfl (W := 0) (by show 2 * 0 + _ ≤ _; exact Nat.le_of_eq rfl) (hb hby at_218) (by decide) (by decide) fun v27 T27 hh27 L27 X27 e27 hQ27 => ?_
      obtain ⟨rfl, NL27, he27⟩ := hQ27
      replace e27 := e27.trans he27
      have N27 := Fr.app N23 NL27
      show own_Out p e below _ T27 (mkF m 221 #[.val (.int x0), .val (.int x1), .val (.int x2), .val (.int x3), .val (.int x4), .val (.int kn), .val (.int r1), .val (.int c1), .val (.int r2), .val (.int c2), .val (.int q1), .val (.int q2), .val (.ref ob7), .val (.ref ob9), .val (.ref ob11), .val (.ref ob13), .val (.int (1 : Int32)), .val (.int (2 : Int32)), .val (.int (1 : Int32)), .val (.int (1 : Int32)), .val (.int (0 : Int32)), .unset] [(.int (R12 r2 c2 q1 q2))]) _ _ _
      by_cases hc221 : (R12 r2 c2 q1 q2) = (0 : Int32)
      · refine own_to (fun t k => XS.ifYes X27.here hx rfl (pc0 := 221) (pc' := 227) rfl (hb hby at_221) rfl ((if0 _ _).trans (teq hc221).1) (by decide) (by decide) k) ?_
        show own_Out p e below _ T27 (mkF m 227 #[.val (.int x0), .val (.int x1), .val (.int x2), .val (.int x3), .val (.int x4), .val (.int kn), .val (.int r1), .val (.int c1), .val (.int r2), .val (.int c2), .val (.int q1), .val (.int q2), .val (.ref ob7), .val (.ref ob9), .val (.ref ob11), .val (.ref ob13), .val (.int (1 : Int32)), .val (.int (2 : Int32)), .val (.int (1 : Int32)), .val (.int (1 : Int32)), .val (.int (0 : Int32)), .unset] []) _ _ _
        refine own_to (fun t k => XS.aload X27.here hx rfl (hb hby at_227) rfl rfl k) ?_
        show own_Out p e below _ T27 (mkF m 229 #[.val (.int x0), .val (.int x1), .val (.int x2), .val (.int x3), .val (.int x4), .val (.int kn), .val (.int r1), .val (.int c1), .val (.int r2), .val (.int c2), .val (.int q1), .val (.int q2), .val (.ref ob7), .val (.ref ob9), .val (.ref ob11), .val (.ref ob13), .val (.int (1 : Int32)), .val (.int (2 : Int32)), .val (.int (1 : Int32)), .val (.int (1 : Int32)), .val (.int (0 : Int32)), .unset] [(.ref ob13)]) _ _ _
        refine own_to (fun t k => XS.aload X27.here hx rfl (hb hby at_229) rfl rfl k) ?_
        show own_Out p e below _ T27 (mkF m 231 #[.val (.int x0), .val (.int x1), .val (.int x2), .val (.int x3), .val (.int x4), .val (.int kn), .val (.int r1), .val (.int c1), .val (.int r2), .val (.int c2), .val (.int q1), .val (.int q2), .val (.ref ob7), .val (.ref ob9), .val (.ref ob11), .val (.ref ob13), .val (.int (1 : Int32)), .val (.int (2 : Int32)), .val (.int (1 : Int32)), .val (.int (1 : Int32)), .val (.int (0 : Int32)), .unset] [(.ref ob11), (.ref ob13)]) _ _ _
        refine own_callV X27 hx hZ hown (a := ob13) (argsL := [(.ref ob11)]) (rest := []) (hw _ (List.mem_of_getElem? (i := 39) rfl)) (hw _ (List.mem_of_getElem? (i := 40) rfl)) (hw _ (List.mem_of_getElem? (i := 42) rfl)) (hw _ (List.mem_of_getElem? (i := 41) rfl)) (hw _ (List.mem_of_getElem? (i := 25) rfl)) (hw _ (List.mem_of_getElem? (i := 43) rfl)) (by decide) (rm6 l Z a0 hw ob13 ob11 q1 q2 kn ob14ar ob14ad ob14au (own_upd (own_upd (fun _ => 0) (r1.toNatClampNeg) (nar .boolean (1 : Int32))) (r2.toNatClampNeg) (nar .boolean (1 : Int32))) (own_upd (own_upd (fun _ => 0) (((r1 - c1) + kn).toNatClampNeg) (nar .boolean (1 : Int32))) (((r2 - c2) + kn).toNatClampNeg) (nar .boolean (1 : Int32))) (own_upd (own_upd (fun _ => 0) ((r1 + c1).toNatClampNeg) (nar .boolean (1 : Int32))) ((r2 + c2).toNatClampNeg) (nar .boolean (1 : Int32))) hh22 n0 Z0 E_ob13 E_ob11 F_ob11_row F_ob11_column F_ob13_size F_ob13_rows F_ob13_downs F_ob13_ups A_ob14ar A_ob14ad A_ob14au bn b_q1 b_q2) (by decide) (by decide) e27 E_ob13 rfl (by rw [hml]; rfl) (lenOf pd_6 rfl) rfl (W := 0) (by show 2 * 0 + _ ≤ _; exact Nat.le_of_eq rfl) (hb hby at_231) (by decide) (by decide) fun v28 T28 hh28 L28 X28 e28 hQ28 => ?_
        obtain ⟨rfl, NL28, he28⟩ := hQ28
        replace e28 := e28.trans he28
        have N28 := Fr.app N27 NL28
        show own_Out p e below _ T28 (mkF m 234 #[.val (.int x0), .val (.int x1), .val (.int x2), .val (.int x3), .val (.int x4), .val (.int kn), .val (.int r1), .val (.int c1), .val (.int r2), .val (.int c2), .val (.int q1), .val (.int q2), .val (.ref ob7), .val (.ref ob9), .val (.ref ob11), .val (.ref ob13), .val (.int (1 : Int32)), .val (.int (2 : Int32)), .val (.int (1 : Int32)), .val (.int (1 : Int32)), .val (.int (0 : Int32)), .unset] [(.int (R6 ob13 ob11 q1 q2 kn ob14ar ob14ad ob14au (own_upd (own_upd (fun _ => 0) (r1.toNatClampNeg) (nar .boolean (1 : Int32))) (r2.toNatClampNeg) (nar .boolean (1 : Int32))) (own_upd (own_upd (fun _ => 0) (((r1 - c1) + kn).toNatClampNeg) (nar .boolean (1 : Int32))) (((r2 - c2) + kn).toNatClampNeg) (nar .boolean (1 : Int32))) (own_upd (own_upd (fun _ => 0) ((r1 + c1).toNatClampNeg) (nar .boolean (1 : Int32))) ((r2 + c2).toNatClampNeg) (nar .boolean (1 : Int32)))))]) _ _ _
        rw [own_free2 _ _ q1 q2 kn _ _ _ r1 c1 r2 c2 bn b_q1 b_q2 b_r1 b_c1 b_r2 b_c2]
        rw [if_neg hc199]
        show own_Out p e below _ T28 (mkF m 234 #[.val (.int x0), .val (.int x1), .val (.int x2), .val (.int x3), .val (.int x4), .val (.int kn), .val (.int r1), .val (.int c1), .val (.int r2), .val (.int c2), .val (.int q1), .val (.int q2), .val (.ref ob7), .val (.ref ob9), .val (.ref ob11), .val (.ref ob13), .val (.int (1 : Int32)), .val (.int (2 : Int32)), .val (.int (1 : Int32)), .val (.int (1 : Int32)), .val (.int (0 : Int32)), .unset] [(.int (0 : Int32))]) _ _ _
        refine own_to (fun t k => XS.istore X28.here hx rfl (hb hby at_234) rfl (l' := #[.val (.int x0), .val (.int x1), .val (.int x2), .val (.int x3), .val (.int x4), .val (.int kn), .val (.int r1), .val (.int c1), .val (.int r2), .val (.int c2), .val (.int q1), .val (.int q2), .val (.ref ob7), .val (.ref ob9), .val (.ref ob11), .val (.ref ob13), .val (.int (1 : Int32)), .val (.int (2 : Int32)), .val (.int (1 : Int32)), .val (.int (1 : Int32)), .val (.int (0 : Int32)), .val (.int (0 : Int32))]) rfl k) ?_
        show own_Out p e below _ T28 (mkF m 236 #[.val (.int x0), .val (.int x1), .val (.int x2), .val (.int x3), .val (.int x4), .val (.int kn), .val (.int r1), .val (.int c1), .val (.int r2), .val (.int c2), .val (.int q1), .val (.int q2), .val (.ref ob7), .val (.ref ob9), .val (.ref ob11), .val (.ref ob13), .val (.int (1 : Int32)), .val (.int (2 : Int32)), .val (.int (1 : Int32)), .val (.int (1 : Int32)), .val (.int (0 : Int32)), .val (.int (0 : Int32))] []) _ _ _
        refine own_to (fun t k => XS.iload X28.here hx rfl (hb hby at_236) rfl k) ?_
        show own_Out p e below _ T28 (mkF m 238 #[.val (.int x0), .val (.int x1), .val (.int x2), .val (.int x3), .val (.int x4), .val (.int kn), .val (.int r1), .val (.int c1), .val (.int r2), .val (.int c2), .val (.int q1), .val (.int q2), .val (.ref ob7), .val (.ref ob9), .val (.ref ob11), .val (.ref ob13), .val (.int (1 : Int32)), .val (.int (2 : Int32)), .val (.int (1 : Int32)), .val (.int (1 : Int32)), .val (.int (0 : Int32)), .val (.int (0 : Int32))] [(.int (1 : Int32))]) _ _ _
        have hc238 : ¬ ((1 : Int32) = (0 : Int32)) := by decide
        refine own_to (fun t k => XS.ifNo X28.here hx rfl (hb hby at_238) rfl ((if0 _ _).trans (feq hc238).1) k) ?_
        show own_Out p e below _ T28 (mkF m 241 #[.val (.int x0), .val (.int x1), .val (.int x2), .val (.int x3), .val (.int x4), .val (.int kn), .val (.int r1), .val (.int c1), .val (.int r2), .val (.int c2), .val (.int q1), .val (.int q2), .val (.ref ob7), .val (.ref ob9), .val (.ref ob11), .val (.ref ob13), .val (.int (1 : Int32)), .val (.int (2 : Int32)), .val (.int (1 : Int32)), .val (.int (1 : Int32)), .val (.int (0 : Int32)), .val (.int (0 : Int32))] []) _ _ _
        refine own_to (fun t k => XS.iload X28.here hx rfl (hb hby at_241) rfl k) ?_
        show own_Out p e below _ T28 (mkF m 243 #[.val (.int x0), .val (.int x1), .val (.int x2), .val (.int x3), .val (.int x4), .val (.int kn), .val (.int r1), .val (.int c1), .val (.int r2), .val (.int c2), .val (.int q1), .val (.int q2), .val (.ref ob7), .val (.ref ob9), .val (.ref ob11), .val (.ref ob13), .val (.int (1 : Int32)), .val (.int (2 : Int32)), .val (.int (1 : Int32)), .val (.int (1 : Int32)), .val (.int (0 : Int32)), .val (.int (0 : Int32))] [(.int (0 : Int32))]) _ _ _
        refine own_to (fun t k => XS.iload X28.here hx rfl (hb hby at_243) rfl k) ?_
        show own_Out p e below _ T28 (mkF m 245 #[.val (.int x0), .val (.int x1), .val (.int x2), .val (.int x3), .val (.int x4), .val (.int kn), .val (.int r1), .val (.int c1), .val (.int r2), .val (.int c2), .val (.int q1), .val (.int q2), .val (.ref ob7), .val (.ref ob9), .val (.ref ob11), .val (.ref ob13), .val (.int (1 : Int32)), .val (.int (2 : Int32)), .val (.int (1 : Int32)), .val (.int (1 : Int32)), .val (.int (0 : Int32)), .val (.int (0 : Int32))] [(.int (0 : Int32)), (.int (0 : Int32))]) _ _ _
        have hc245 : (0 : Int32) = (0 : Int32) := by decide
        refine own_to (fun t k => XS.icmpNo X28.here hx rfl (hb hby at_245) rfl (teq hc245).2 k) ?_
        show own_Out p e below _ T28 (mkF m 248 #[.val (.int x0), .val (.int x1), .val (.int x2), .val (.int x3), .val (.int x4), .val (.int kn), .val (.int r1), .val (.int c1), .val (.int r2), .val (.int c2), .val (.int q1), .val (.int q2), .val (.ref ob7), .val (.ref ob9), .val (.ref ob11), .val (.ref ob13), .val (.int (1 : Int32)), .val (.int (2 : Int32)), .val (.int (1 : Int32)), .val (.int (1 : Int32)), .val (.int (0 : Int32)), .val (.int (0 : Int32))] []) _ _ _
        refine own_to (fun t k => XS.iconst X28.here hx rfl (hb hby at_248) k) ?_
        show own_Out p e below _ T28 (mkF m 249 #[.val (.int x0), .val (.int x1), .val (.int x2), .val (.int x3), .val (.int x4), .val (.int kn), .val (.int r1), .val (.int c1), .val (.int r2), .val (.int c2), .val (.int q1), .val (.int q2), .val (.ref ob7), .val (.ref ob9), .val (.ref ob11), .val (.ref ob13), .val (.int (1 : Int32)), .val (.int (2 : Int32)), .val (.int (1 : Int32)), .val (.int (1 : Int32)), .val (.int (0 : Int32)), .val (.int (0 : Int32))] [(.int (1 : Int32))]) _ _ _
        refine own_to (fun t k => XS.goto X28.here hx rfl (pc0 := 249) (pc' := 253) rfl (hb hby at_249) (by decide) (by decide) k) ?_
        show own_Out p e below _ T28 (mkF m 253 #[.val (.int x0), .val (.int x1), .val (.int x2), .val (.int x3), .val (.int x4), .val (.int kn), .val (.int r1), .val (.int c1), .val (.int r2), .val (.int c2), .val (.int q1), .val (.int q2), .val (.ref ob7), .val (.ref ob9), .val (.ref ob11), .val (.ref ob13), .val (.int (1 : Int32)), .val (.int (2 : Int32)), .val (.int (1 : Int32)), .val (.int (1 : Int32)), .val (.int (0 : Int32)), .val (.int (0 : Int32))] [(.int (1 : Int32))]) _ _ _
        refine own_retV X28 hx hlk (w := .int (1 : Int32)) hret rfl (Or.inl ⟨rfl, by simp, _, rfl⟩) (hb hby at_253) (by decide) (by decide) ?_
        rw [e28]
        exact ⟨rfl, N28⟩
      · refine own_to (fun t k => XS.ifNo X27.here hx rfl (hb hby at_221) rfl ((if0 _ _).trans (feq hc221).1) k) ?_
        show own_Out p e below _ T27 (mkF m 224 #[.val (.int x0), .val (.int x1), .val (.int x2), .val (.int x3), .val (.int x4), .val (.int kn), .val (.int r1), .val (.int c1), .val (.int r2), .val (.int c2), .val (.int q1), .val (.int q2), .val (.ref ob7), .val (.ref ob9), .val (.ref ob11), .val (.ref ob13), .val (.int (1 : Int32)), .val (.int (2 : Int32)), .val (.int (1 : Int32)), .val (.int (1 : Int32)), .val (.int (0 : Int32)), .unset] []) _ _ _
        refine own_to (fun t k => XS.iconst X27.here hx rfl (hb hby at_224) k) ?_
        show own_Out p e below _ T27 (mkF m 225 #[.val (.int x0), .val (.int x1), .val (.int x2), .val (.int x3), .val (.int x4), .val (.int kn), .val (.int r1), .val (.int c1), .val (.int r2), .val (.int c2), .val (.int q1), .val (.int q2), .val (.ref ob7), .val (.ref ob9), .val (.ref ob11), .val (.ref ob13), .val (.int (1 : Int32)), .val (.int (2 : Int32)), .val (.int (1 : Int32)), .val (.int (1 : Int32)), .val (.int (0 : Int32)), .unset] [(.int (0 : Int32))]) _ _ _
        refine own_to (fun t k => XS.istore X27.here hx rfl (hb hby at_225) rfl (l' := #[.val (.int x0), .val (.int x1), .val (.int x2), .val (.int x3), .val (.int x4), .val (.int kn), .val (.int r1), .val (.int c1), .val (.int r2), .val (.int c2), .val (.int q1), .val (.int q2), .val (.ref ob7), .val (.ref ob9), .val (.ref ob11), .val (.ref ob13), .val (.int (1 : Int32)), .val (.int (2 : Int32)), .val (.int (1 : Int32)), .val (.int (1 : Int32)), .val (.int (0 : Int32)), .unset]) rfl k) ?_
        show own_Out p e below _ T27 (mkF m 227 #[.val (.int x0), .val (.int x1), .val (.int x2), .val (.int x3), .val (.int x4), .val (.int kn), .val (.int r1), .val (.int c1), .val (.int r2), .val (.int c2), .val (.int q1), .val (.int q2), .val (.ref ob7), .val (.ref ob9), .val (.ref ob11), .val (.ref ob13), .val (.int (1 : Int32)), .val (.int (2 : Int32)), .val (.int (1 : Int32)), .val (.int (1 : Int32)), .val (.int (0 : Int32)), .unset] []) _ _ _
        refine own_to (fun t k => XS.aload X27.here hx rfl (hb hby at_227) rfl rfl k) ?_
        show own_Out p e below _ T27 (mkF m 229 #[.val (.int x0), .val (.int x1), .val (.int x2), .val (.int x3), .val (.int x4), .val (.int kn), .val (.int r1), .val (.int c1), .val (.int r2), .val (.int c2), .val (.int q1), .val (.int q2), .val (.ref ob7), .val (.ref ob9), .val (.ref ob11), .val (.ref ob13), .val (.int (1 : Int32)), .val (.int (2 : Int32)), .val (.int (1 : Int32)), .val (.int (1 : Int32)), .val (.int (0 : Int32)), .unset] [(.ref ob13)]) _ _ _
        refine own_to (fun t k => XS.aload X27.here hx rfl (hb hby at_229) rfl rfl k) ?_
        show own_Out p e below _ T27 (mkF m 231 #[.val (.int x0), .val (.int x1), .val (.int x2), .val (.int x3), .val (.int x4), .val (.int kn), .val (.int r1), .val (.int c1), .val (.int r2), .val (.int c2), .val (.int q1), .val (.int q2), .val (.ref ob7), .val (.ref ob9), .val (.ref ob11), .val (.ref ob13), .val (.int (1 : Int32)), .val (.int (2 : Int32)), .val (.int (1 : Int32)), .val (.int (1 : Int32)), .val (.int (0 : Int32)), .unset] [(.ref ob11), (.ref ob13)]) _ _ _
        refine own_callV X27 hx hZ hown (a := ob13) (argsL := [(.ref ob11)]) (rest := []) (hw _ (List.mem_of_getElem? (i := 39) rfl)) (hw _ (List.mem_of_getElem? (i := 40) rfl)) (hw _ (List.mem_of_getElem? (i := 42) rfl)) (hw _ (List.mem_of_getElem? (i := 41) rfl)) (hw _ (List.mem_of_getElem? (i := 25) rfl)) (hw _ (List.mem_of_getElem? (i := 43) rfl)) (by decide) (rm6 l Z a0 hw ob13 ob11 q1 q2 kn ob14ar ob14ad ob14au (own_upd (own_upd (fun _ => 0) (r1.toNatClampNeg) (nar .boolean (1 : Int32))) (r2.toNatClampNeg) (nar .boolean (1 : Int32))) (own_upd (own_upd (fun _ => 0) (((r1 - c1) + kn).toNatClampNeg) (nar .boolean (1 : Int32))) (((r2 - c2) + kn).toNatClampNeg) (nar .boolean (1 : Int32))) (own_upd (own_upd (fun _ => 0) ((r1 + c1).toNatClampNeg) (nar .boolean (1 : Int32))) ((r2 + c2).toNatClampNeg) (nar .boolean (1 : Int32))) hh22 n0 Z0 E_ob13 E_ob11 F_ob11_row F_ob11_column F_ob13_size F_ob13_rows F_ob13_downs F_ob13_ups A_ob14ar A_ob14ad A_ob14au bn b_q1 b_q2) (by decide) (by decide) e27 E_ob13 rfl (by rw [hml]; rfl) (lenOf pd_6 rfl) rfl (W := 0) (by show 2 * 0 + _ ≤ _; exact Nat.le_of_eq rfl) (hb hby at_231) (by decide) (by decide) fun v29 T29 hh29 L29 X29 e29 hQ29 => ?_
        obtain ⟨rfl, NL29, he29⟩ := hQ29
        replace e29 := e29.trans he29
        have N29 := Fr.app N27 NL29
        show own_Out p e below _ T29 (mkF m 234 #[.val (.int x0), .val (.int x1), .val (.int x2), .val (.int x3), .val (.int x4), .val (.int kn), .val (.int r1), .val (.int c1), .val (.int r2), .val (.int c2), .val (.int q1), .val (.int q2), .val (.ref ob7), .val (.ref ob9), .val (.ref ob11), .val (.ref ob13), .val (.int (1 : Int32)), .val (.int (2 : Int32)), .val (.int (1 : Int32)), .val (.int (1 : Int32)), .val (.int (0 : Int32)), .unset] [(.int (R6 ob13 ob11 q1 q2 kn ob14ar ob14ad ob14au (own_upd (own_upd (fun _ => 0) (r1.toNatClampNeg) (nar .boolean (1 : Int32))) (r2.toNatClampNeg) (nar .boolean (1 : Int32))) (own_upd (own_upd (fun _ => 0) (((r1 - c1) + kn).toNatClampNeg) (nar .boolean (1 : Int32))) (((r2 - c2) + kn).toNatClampNeg) (nar .boolean (1 : Int32))) (own_upd (own_upd (fun _ => 0) ((r1 + c1).toNatClampNeg) (nar .boolean (1 : Int32))) ((r2 + c2).toNatClampNeg) (nar .boolean (1 : Int32)))))]) _ _ _
        rw [own_free2 _ _ q1 q2 kn _ _ _ r1 c1 r2 c2 bn b_q1 b_q2 b_r1 b_c1 b_r2 b_c2]
        rw [if_neg hc199]
        show own_Out p e below _ T29 (mkF m 234 #[.val (.int x0), .val (.int x1), .val (.int x2), .val (.int x3), .val (.int x4), .val (.int kn), .val (.int r1), .val (.int c1), .val (.int r2), .val (.int c2), .val (.int q1), .val (.int q2), .val (.ref ob7), .val (.ref ob9), .val (.ref ob11), .val (.ref ob13), .val (.int (1 : Int32)), .val (.int (2 : Int32)), .val (.int (1 : Int32)), .val (.int (1 : Int32)), .val (.int (0 : Int32)), .unset] [(.int (0 : Int32))]) _ _ _
        refine own_to (fun t k => XS.istore X29.here hx rfl (hb hby at_234) rfl (l' := #[.val (.int x0), .val (.int x1), .val (.int x2), .val (.int x3), .val (.int x4), .val (.int kn), .val (.int r1), .val (.int c1), .val (.int r2), .val (.int c2), .val (.int q1), .val (.int q2), .val (.ref ob7), .val (.ref ob9), .val (.ref ob11), .val (.ref ob13), .val (.int (1 : Int32)), .val (.int (2 : Int32)), .val (.int (1 : Int32)), .val (.int (1 : Int32)), .val (.int (0 : Int32)), .val (.int (0 : Int32))]) rfl k) ?_
        show own_Out p e below _ T29 (mkF m 236 #[.val (.int x0), .val (.int x1), .val (.int x2), .val (.int x3), .val (.int x4), .val (.int kn), .val (.int r1), .val (.int c1), .val (.int r2), .val (.int c2), .val (.int q1), .val (.int q2), .val (.ref ob7), .val (.ref ob9), .val (.ref ob11), .val (.ref ob13), .val (.int (1 : Int32)), .val (.int (2 : Int32)), .val (.int (1 : Int32)), .val (.int (1 : Int32)), .val (.int (0 : Int32)), .val (.int (0 : Int32))] []) _ _ _
        refine own_to (fun t k => XS.iload X29.here hx rfl (hb hby at_236) rfl k) ?_
        show own_Out p e below _ T29 (mkF m 238 #[.val (.int x0), .val (.int x1), .val (.int x2), .val (.int x3), .val (.int x4), .val (.int kn), .val (.int r1), .val (.int c1), .val (.int r2), .val (.int c2), .val (.int q1), .val (.int q2), .val (.ref ob7), .val (.ref ob9), .val (.ref ob11), .val (.ref ob13), .val (.int (1 : Int32)), .val (.int (2 : Int32)), .val (.int (1 : Int32)), .val (.int (1 : Int32)), .val (.int (0 : Int32)), .val (.int (0 : Int32))] [(.int (1 : Int32))]) _ _ _
        have hc238 : ¬ ((1 : Int32) = (0 : Int32)) := by decide
        refine own_to (fun t k => XS.ifNo X29.here hx rfl (hb hby at_238) rfl ((if0 _ _).trans (feq hc238).1) k) ?_
        show own_Out p e below _ T29 (mkF m 241 #[.val (.int x0), .val (.int x1), .val (.int x2), .val (.int x3), .val (.int x4), .val (.int kn), .val (.int r1), .val (.int c1), .val (.int r2), .val (.int c2), .val (.int q1), .val (.int q2), .val (.ref ob7), .val (.ref ob9), .val (.ref ob11), .val (.ref ob13), .val (.int (1 : Int32)), .val (.int (2 : Int32)), .val (.int (1 : Int32)), .val (.int (1 : Int32)), .val (.int (0 : Int32)), .val (.int (0 : Int32))] []) _ _ _
        refine own_to (fun t k => XS.iload X29.here hx rfl (hb hby at_241) rfl k) ?_
        show own_Out p e below _ T29 (mkF m 243 #[.val (.int x0), .val (.int x1), .val (.int x2), .val (.int x3), .val (.int x4), .val (.int kn), .val (.int r1), .val (.int c1), .val (.int r2), .val (.int c2), .val (.int q1), .val (.int q2), .val (.ref ob7), .val (.ref ob9), .val (.ref ob11), .val (.ref ob13), .val (.int (1 : Int32)), .val (.int (2 : Int32)), .val (.int (1 : Int32)), .val (.int (1 : Int32)), .val (.int (0 : Int32)), .val (.int (0 : Int32))] [(.int (0 : Int32))]) _ _ _
        refine own_to (fun t k => XS.iload X29.here hx rfl (hb hby at_243) rfl k) ?_
        show own_Out p e below _ T29 (mkF m 245 #[.val (.int x0), .val (.int x1), .val (.int x2), .val (.int x3), .val (.int x4), .val (.int kn), .val (.int r1), .val (.int c1), .val (.int r2), .val (.int c2), .val (.int q1), .val (.int q2), .val (.ref ob7), .val (.ref ob9), .val (.ref ob11), .val (.ref ob13), .val (.int (1 : Int32)), .val (.int (2 : Int32)), .val (.int (1 : Int32)), .val (.int (1 : Int32)), .val (.int (0 : Int32)), .val (.int (0 : Int32))] [(.int (0 : Int32)), (.int (0 : Int32))]) _ _ _
        have hc245 : (0 : Int32) = (0 : Int32) := by decide
        refine own_to (fun t k => XS.icmpNo X29.here hx rfl (hb hby at_245) rfl (teq hc245).2 k) ?_
        show own_Out p e below _ T29 (mkF m 248 #[.val (.int x0), .val (.int x1), .val (.int x2), .val (.int x3), .val (.int x4), .val (.int kn), .val (.int r1), .val (.int c1), .val (.int r2), .val (.int c2), .val (.int q1), .val (.int q2), .val (.ref ob7), .val (.ref ob9), .val (.ref ob11), .val (.ref ob13), .val (.int (1 : Int32)), .val (.int (2 : Int32)), .val (.int (1 : Int32)), .val (.int (1 : Int32)), .val (.int (0 : Int32)), .val (.int (0 : Int32))] []) _ _ _
        refine own_to (fun t k => XS.iconst X29.here hx rfl (hb hby at_248) k) ?_
        show own_Out p e below _ T29 (mkF m 249 #[.val (.int x0), .val (.int x1), .val (.int x2), .val (.int x3), .val (.int x4), .val (.int kn), .val (.int r1), .val (.int c1), .val (.int r2), .val (.int c2), .val (.int q1), .val (.int q2), .val (.ref ob7), .val (.ref ob9), .val (.ref ob11), .val (.ref ob13), .val (.int (1 : Int32)), .val (.int (2 : Int32)), .val (.int (1 : Int32)), .val (.int (1 : Int32)), .val (.int (0 : Int32)), .val (.int (0 : Int32))] [(.int (1 : Int32))]) _ _ _
        refine own_to (fun t k => XS.goto X29.here hx rfl (pc0 := 249) (pc' := 253) rfl (hb hby at_249) (by decide) (by decide) k) ?_
        show own_Out p e below _ T29 (mkF m 253 #[.val (.int x0), .val (.int x1), .val (.int x2), .val (.int x3), .val (.int x4), .val (.int kn), .val (.int r1), .val (.int c1), .val (.int r2), .val (.int c2), .val (.int q1), .val (.int q2), .val (.ref ob7), .val (.ref ob9), .val (.ref ob11), .val (.ref ob13), .val (.int (1 : Int32)), .val (.int (2 : Int32)), .val (.int (1 : Int32)), .val (.int (1 : Int32)), .val (.int (0 : Int32)), .val (.int (0 : Int32))] [(.int (1 : Int32))]) _ _ _
        refine own_retV X29 hx hlk (w := .int (1 : Int32)) hret rfl (Or.inl ⟨rfl, by simp, _, rfl⟩) (hb hby at_253) (by decide) (by decide) ?_
        rw [e29]
        exact ⟨rfl, N29⟩
  · subst hk_kk
    show own_Out p e below _ T15 (mkF m 130 #[.val (.int x0), .val (.int x1), .val (.int x2), .val (.int x3), .val (.int x4), .val (.int kn), .val (.int r1), .val (.int c1), .val (.int r2), .val (.int c2), .val (.int q1), .val (.int q2), .val (.ref ob7), .val (.ref ob9), .val (.ref ob11), .val (.ref ob13), .val (.int (1 : Int32)), .val (.int (3 : Int32)), .unset, .unset, .unset, .unset] []) _ _ _
    refine own_to (fun t k => XS.iload X15.here hx rfl (hb hby at_130) rfl k) ?_
    show own_Out p e below _ T15 (mkF m 132 #[.val (.int x0), .val (.int x1), .val (.int x2), .val (.int x3), .val (.int x4), .val (.int kn), .val (.int r1), .val (.int c1), .val (.int r2), .val (.int c2), .val (.int q1), .val (.int q2), .val (.ref ob7), .val (.ref ob9), .val (.ref ob11), .val (.ref ob13), .val (.int (1 : Int32)), .val (.int (3 : Int32)), .unset, .unset, .unset, .unset] [(.int (3 : Int32))]) _ _ _
    refine own_to (fun t k => XS.iconst X15.here hx rfl (hb hby at_132) k) ?_
    show own_Out p e below _ T15 (mkF m 133 #[.val (.int x0), .val (.int x1), .val (.int x2), .val (.int x3), .val (.int x4), .val (.int kn), .val (.int r1), .val (.int c1), .val (.int r2), .val (.int c2), .val (.int q1), .val (.int q2), .val (.ref ob7), .val (.ref ob9), .val (.ref ob11), .val (.ref ob13), .val (.int (1 : Int32)), .val (.int (3 : Int32)), .unset, .unset, .unset, .unset] [(.int (1 : Int32)), (.int (3 : Int32))]) _ _ _
    have hc133 : ¬ ((3 : Int32) < (1 : Int32)) := by decide
    refine own_to (fun t k => XS.icmpNo X15.here hx rfl (hb hby at_133) rfl (flt hc133).1 k) ?_
    show own_Out p e below _ T15 (mkF m 136 #[.val (.int x0), .val (.int x1), .val (.int x2), .val (.int x3), .val (.int x4), .val (.int kn), .val (.int r1), .val (.int c1), .val (.int r2), .val (.int c2), .val (.int q1), .val (.int q2), .val (.ref ob7), .val (.ref ob9), .val (.ref ob11), .val (.ref ob13), .val (.int (1 : Int32)), .val (.int (3 : Int32)), .unset, .unset, .unset, .unset] []) _ _ _
    refine own_to (fun t k => XS.iconst X15.here hx rfl (hb hby at_136) k) ?_
    show own_Out p e below _ T15 (mkF m 137 #[.val (.int x0), .val (.int x1), .val (.int x2), .val (.int x3), .val (.int x4), .val (.int kn), .val (.int r1), .val (.int c1), .val (.int r2), .val (.int c2), .val (.int q1), .val (.int q2), .val (.ref ob7), .val (.ref ob9), .val (.ref ob11), .val (.ref ob13), .val (.int (1 : Int32)), .val (.int (3 : Int32)), .unset, .unset, .unset, .unset] [(.int (1 : Int32))]) _ _ _
    refine own_to (fun t k => XS.goto X15.here hx rfl (pc0 := 137) (pc' := 141) rfl (hb hby at_137) (by decide) (by decide) k) ?_
    show own_Out p e below _ T15 (mkF m 141 #[.val (.int x0), .val (.int x1), .val (.int x2), .val (.int x3), .val (.int x4), .val (.int kn), .val (.int r1), .val (.int c1), .val (.int r2), .val (.int c2), .val (.int q1), .val (.int q2), .val (.ref ob7), .val (.ref ob9), .val (.ref ob11), .val (.ref ob13), .val (.int (1 : Int32)), .val (.int (3 : Int32)), .unset, .unset, .unset, .unset] [(.int (1 : Int32))]) _ _ _
    refine own_to (fun t k => XS.istore X15.here hx rfl (hb hby at_141) rfl (l' := #[.val (.int x0), .val (.int x1), .val (.int x2), .val (.int x3), .val (.int x4), .val (.int kn), .val (.int r1), .val (.int c1), .val (.int r2), .val (.int c2), .val (.int q1), .val (.int q2), .val (.ref ob7), .val (.ref ob9), .val (.ref ob11), .val (.ref ob13), .val (.int (1 : Int32)), .val (.int (3 : Int32)), .val (.int (1 : Int32)), .unset, .unset, .unset]) rfl k) ?_
    show own_Out p e below _ T15 (mkF m 143 #[.val (.int x0), .val (.int x1), .val (.int x2), .val (.int x3), .val (.int x4), .val (.int kn), .val (.int r1), .val (.int c1), .val (.int r2), .val (.int c2), .val (.int q1), .val (.int q2), .val (.ref ob7), .val (.ref ob9), .val (.ref ob11), .val (.ref ob13), .val (.int (1 : Int32)), .val (.int (3 : Int32)), .val (.int (1 : Int32)), .unset, .unset, .unset] []) _ _ _
    refine own_to (fun t k => XS.iload X15.here hx rfl (hb hby at_143) rfl k) ?_
    show own_Out p e below _ T15 (mkF m 145 #[.val (.int x0), .val (.int x1), .val (.int x2), .val (.int x3), .val (.int x4), .val (.int kn), .val (.int r1), .val (.int c1), .val (.int r2), .val (.int c2), .val (.int q1), .val (.int q2), .val (.ref ob7), .val (.ref ob9), .val (.ref ob11), .val (.ref ob13), .val (.int (1 : Int32)), .val (.int (3 : Int32)), .val (.int (1 : Int32)), .unset, .unset, .unset] [(.int (3 : Int32))]) _ _ _
    refine own_to (fun t k => XS.iconst X15.here hx rfl (hb hby at_145) k) ?_
    show own_Out p e below _ T15 (mkF m 146 #[.val (.int x0), .val (.int x1), .val (.int x2), .val (.int x3), .val (.int x4), .val (.int kn), .val (.int r1), .val (.int c1), .val (.int r2), .val (.int c2), .val (.int q1), .val (.int q2), .val (.ref ob7), .val (.ref ob9), .val (.ref ob11), .val (.ref ob13), .val (.int (1 : Int32)), .val (.int (3 : Int32)), .val (.int (1 : Int32)), .unset, .unset, .unset] [(.int (2 : Int32)), (.int (3 : Int32))]) _ _ _
    have hc146 : ¬ ((3 : Int32) < (2 : Int32)) := by decide
    refine own_to (fun t k => XS.icmpNo X15.here hx rfl (hb hby at_146) rfl (flt hc146).1 k) ?_
    show own_Out p e below _ T15 (mkF m 149 #[.val (.int x0), .val (.int x1), .val (.int x2), .val (.int x3), .val (.int x4), .val (.int kn), .val (.int r1), .val (.int c1), .val (.int r2), .val (.int c2), .val (.int q1), .val (.int q2), .val (.ref ob7), .val (.ref ob9), .val (.ref ob11), .val (.ref ob13), .val (.int (1 : Int32)), .val (.int (3 : Int32)), .val (.int (1 : Int32)), .unset, .unset, .unset] []) _ _ _
    refine own_to (fun t k => XS.iconst X15.here hx rfl (hb hby at_149) k) ?_
    show own_Out p e below _ T15 (mkF m 150 #[.val (.int x0), .val (.int x1), .val (.int x2), .val (.int x3), .val (.int x4), .val (.int kn), .val (.int r1), .val (.int c1), .val (.int r2), .val (.int c2), .val (.int q1), .val (.int q2), .val (.ref ob7), .val (.ref ob9), .val (.ref ob11), .val (.ref ob13), .val (.int (1 : Int32)), .val (.int (3 : Int32)), .val (.int (1 : Int32)), .unset, .unset, .unset] [(.int (1 : Int32))]) _ _ _
    refine own_to (fun t k => XS.goto X15.here hx rfl (pc0 := 150) (pc' := 154) rfl (hb hby at_150) (by decide) (by decide) k) ?_
    show own_Out p e below _ T15 (mkF m 154 #[.val (.int x0), .val (.int x1), .val (.int x2), .val (.int x3), .val (.int x4), .val (.int kn), .val (.int r1), .val (.int c1), .val (.int r2), .val (.int c2), .val (.int q1), .val (.int q2), .val (.ref ob7), .val (.ref ob9), .val (.ref ob11), .val (.ref ob13), .val (.int (1 : Int32)), .val (.int (3 : Int32)), .val (.int (1 : Int32)), .unset, .unset, .unset] [(.int (1 : Int32))]) _ _ _
    refine own_to (fun t k => XS.istore X15.here hx rfl (hb hby at_154) rfl (l' := #[.val (.int x0), .val (.int x1), .val (.int x2), .val (.int x3), .val (.int x4), .val (.int kn), .val (.int r1), .val (.int c1), .val (.int r2), .val (.int c2), .val (.int q1), .val (.int q2), .val (.ref ob7), .val (.ref ob9), .val (.ref ob11), .val (.ref ob13), .val (.int (1 : Int32)), .val (.int (3 : Int32)), .val (.int (1 : Int32)), .val (.int (1 : Int32)), .unset, .unset]) rfl k) ?_
    show own_Out p e below _ T15 (mkF m 156 #[.val (.int x0), .val (.int x1), .val (.int x2), .val (.int x3), .val (.int x4), .val (.int kn), .val (.int r1), .val (.int c1), .val (.int r2), .val (.int c2), .val (.int q1), .val (.int q2), .val (.ref ob7), .val (.ref ob9), .val (.ref ob11), .val (.ref ob13), .val (.int (1 : Int32)), .val (.int (3 : Int32)), .val (.int (1 : Int32)), .val (.int (1 : Int32)), .unset, .unset] []) _ _ _
    refine own_to (fun t k => XS.iload X15.here hx rfl (hb hby at_156) rfl k) ?_
    show own_Out p e below _ T15 (mkF m 158 #[.val (.int x0), .val (.int x1), .val (.int x2), .val (.int x3), .val (.int x4), .val (.int kn), .val (.int r1), .val (.int c1), .val (.int r2), .val (.int c2), .val (.int q1), .val (.int q2), .val (.ref ob7), .val (.ref ob9), .val (.ref ob11), .val (.ref ob13), .val (.int (1 : Int32)), .val (.int (3 : Int32)), .val (.int (1 : Int32)), .val (.int (1 : Int32)), .unset, .unset] [(.int (1 : Int32))]) _ _ _
    have hc158 : ¬ ((1 : Int32) = (0 : Int32)) := by decide
    refine own_to (fun t k => XS.ifNo X15.here hx rfl (hb hby at_158) rfl ((if0 _ _).trans (feq hc158).1) k) ?_
    show own_Out p e below _ T15 (mkF m 161 #[.val (.int x0), .val (.int x1), .val (.int x2), .val (.int x3), .val (.int x4), .val (.int kn), .val (.int r1), .val (.int c1), .val (.int r2), .val (.int c2), .val (.int q1), .val (.int q2), .val (.ref ob7), .val (.ref ob9), .val (.ref ob11), .val (.ref ob13), .val (.int (1 : Int32)), .val (.int (3 : Int32)), .val (.int (1 : Int32)), .val (.int (1 : Int32)), .unset, .unset] []) _ _ _
    refine own_to (fun t k => XS.aload X15.here hx rfl (hb hby at_161) rfl rfl k) ?_
    show own_Out p e below _ T15 (mkF m 163 #[.val (.int x0), .val (.int x1), .val (.int x2), .val (.int x3), .val (.int x4), .val (.int kn), .val (.int r1), .val (.int c1), .val (.int r2), .val (.int c2), .val (.int q1), .val (.int q2), .val (.ref ob7), .val (.ref ob9), .val (.ref ob11), .val (.ref ob13), .val (.int (1 : Int32)), .val (.int (3 : Int32)), .val (.int (1 : Int32)), .val (.int (1 : Int32)), .unset, .unset] [(.ref ob13)]) _ _ _
    refine own_to (fun t k => XS.aload X15.here hx rfl (hb hby at_163) rfl rfl k) ?_
    show own_Out p e below _ T15 (mkF m 165 #[.val (.int x0), .val (.int x1), .val (.int x2), .val (.int x3), .val (.int x4), .val (.int kn), .val (.int r1), .val (.int c1), .val (.int r2), .val (.int c2), .val (.int q1), .val (.int q2), .val (.ref ob7), .val (.ref ob9), .val (.ref ob11), .val (.ref ob13), .val (.int (1 : Int32)), .val (.int (3 : Int32)), .val (.int (1 : Int32)), .val (.int (1 : Int32)), .unset, .unset] [(.ref ob7), (.ref ob13)]) _ _ _
    refine own_callV X15 hx hZ hown (a := ob13) (argsL := [(.ref ob7)]) (rest := []) (hw _ (List.mem_of_getElem? (i := 59) rfl)) (hw _ (List.mem_of_getElem? (i := 60) rfl)) (hw _ (List.mem_of_getElem? (i := 62) rfl)) (hw _ (List.mem_of_getElem? (i := 61) rfl)) (hw _ (List.mem_of_getElem? (i := 25) rfl)) (hw _ (List.mem_of_getElem? (i := 63) rfl)) (by decide) (rm10 l Z a0 hw ob13 ob7 r1 c1 kn ob14ar ob14ad ob14au (fun _ => 0) (fun _ => 0) (fun _ => 0) hh14 n0 Z0 E_ob13 E_ob7 F_ob7_row F_ob7_column F_ob13_size F_ob13_rows F_ob13_downs F_ob13_ups A_ob14ar A_ob14ad A_ob14au bn b_r1 b_c1 ne_ob14ar_ob14ad ne_ob14ar_ob14au ne_ob14ad_ob14au ne_ob13_ob14ar ne_ob13_ob14ad ne_ob13_ob14au ne_ob7_ob14ar ne_ob7_ob14ad ne_ob7_ob14au g_ob14ar g_ob14ad g_ob14au) (by decide) (by decide) e15 E_ob13 rfl (by rw [hml]; rfl) (lenOf pd_7 rfl) rfl (W := 0) (by show 2 * 0 + _ ≤ _; exact Nat.le_of_eq rfl) (hb hby at_165) (by decide) (by decide) fun v30 T30 hh30 L30 X30 e30 hQ30 => ?_
    obtain ⟨rfl, NL30, KK30, P30_0, P30_1, P30_2⟩ := hQ30
    have E_ob7 := E_ob7.keep KK30
    have F_ob7_row := F_ob7_row.keep KK30 (by simp [ne_ob7_ob14ar, ne_ob7_ob14ad, ne_ob7_ob14au])
    have F_ob7_column := F_ob7_column.keep KK30 (by simp [ne_ob7_ob14ar, ne_ob7_ob14ad, ne_ob7_ob14au])
    have E_ob9 := E_ob9.keep KK30
    have F_ob9_row := F_ob9_row.keep KK30 (by simp [ne_ob9_ob14ar, ne_ob9_ob14ad, ne_ob9_ob14au])
    have F_ob9_column := F_ob9_column.keep KK30 (by simp [ne_ob9_ob14ar, ne_ob9_ob14ad, ne_ob9_ob14au])
    have E_ob11 := E_ob11.keep KK30
    have F_ob11_row := F_ob11_row.keep KK30 (by simp [ne_ob11_ob14ar, ne_ob11_ob14ad, ne_ob11_ob14au])
    have F_ob11_column := F_ob11_column.keep KK30 (by simp [ne_ob11_ob14ar, ne_ob11_ob14ad, ne_ob11_ob14au])
    have E_ob13 := E_ob13.keep KK30
    have F_ob13_size := F_ob13_size.keep KK30 (by simp [ne_ob13_ob14ar, ne_ob13_ob14ad, ne_ob13_ob14au])
    have F_ob13_rows := F_ob13_rows.keep KK30 (by simp [ne_ob13_ob14ar, ne_ob13_ob14ad, ne_ob13_ob14au])
    have F_ob13_downs := F_ob13_downs.keep KK30 (by simp [ne_ob13_ob14ar, ne_ob13_ob14ad, ne_ob13_ob14au])
    have F_ob13_ups := F_ob13_ups.keep KK30 (by simp [ne_ob13_ob14ar, ne_ob13_ob14ad, ne_ob13_ob14au])
    have A_ob14ar := P30_0
    have A_ob14ad := P30_1
    have A_ob14au := P30_2
    have Z0 := Nat.le_trans Z0 KK30.1
    have N30 := Fr.app N15 NL30
    show own_Out p e below _ T30 (mkF m 168 #[.val (.int x0), .val (.int x1), .val (.int x2), .val (.int x3), .val (.int x4), .val (.int kn), .val (.int r1), .val (.int c1), .val (.int r2), .val (.int c2), .val (.int q1), .val (.int q2), .val (.ref ob7), .val (.ref ob9), .val (.ref ob11), .val (.ref ob13), .val (.int (1 : Int32)), .val (.int (3 : Int32)), .val (.int (1 : Int32)), .val (.int (1 : Int32)), .unset, .unset] []) _ _ _
    refine own_to (fun t k => XS.iload X30.here hx rfl (hb hby at_168) rfl k) ?_
    show own_Out p e below _ T30 (mkF m 170 #[.val (.int x0), .val (.int x1), .val (.int x2), .val (.int x3), .val (.int x4), .val (.int kn), .val (.int r1), .val (.int c1), .val (.int r2), .val (.int c2), .val (.int q1), .val (.int q2), .val (.ref ob7), .val (.ref ob9), .val (.ref ob11), .val (.ref ob13), .val (.int (1 : Int32)), .val (.int (3 : Int32)), .val (.int (1 : Int32)), .val (.int (1 : Int32)), .unset, .unset] [(.int (1 : Int32))]) _ _ _
    have hc170 : ¬ ((1 : Int32) = (0 : Int32)) := by decide
    refine own_to (fun t k => XS.ifNo X30.here hx rfl (hb hby at_170) rfl ((if0 _ _).trans (feq hc170).1) k) ?_
    show own_Out p e below _ T30 (mkF m 173 #[.val (.int x0), .val (.int x1), .val (.int x2), .val (.int x3), .val (.int x4), .val (.int kn), .val (.int r1), .val (.int c1), .val (.int r2), .val (.int c2), .val (.int q1), .val (.int q2), .val (.ref ob7), .val (.ref ob9), .val (.ref ob11), .val (.ref ob13), .val (.int (1 : Int32)), .val (.int (3 : Int32)), .val (.int (1 : Int32)), .val (.int (1 : Int32)), .unset, .unset] []) _ _ _
    refine own_to (fun t k => XS.aload X30.here hx rfl (hb hby at_173) rfl rfl k) ?_
    show own_Out p e below _ T30 (mkF m 175 #[.val (.int x0), .val (.int x1), .val (.int x2), .val (.int x3), .val (.int x4), .val (.int kn), .val (.int r1), .val (.int c1), .val (.int r2), .val (.int c2), .val (.int q1), .val (.int q2), .val (.ref ob7), .val (.ref ob9), .val (.ref ob11), .val (.ref ob13), .val (.int (1 : Int32)), .val (.int (3 : Int32)), .val (.int (1 : Int32)), .val (.int (1 : Int32)), .unset, .unset] [(.ref ob13)]) _ _ _
    refine own_to (fun t k => XS.aload X30.here hx rfl (hb hby at_175) rfl rfl k) ?_
    show own_Out p e below _ T30 (mkF m 177 #[.val (.int x0), .val (.int x1), .val (.int x2), .val (.int x3), .val (.int x4), .val (.int kn), .val (.int r1), .val (.int c1), .val (.int r2), .val (.int c2), .val (.int q1), .val (.int q2), .val (.ref ob7), .val (.ref ob9), .val (.ref ob11), .val (.ref ob13), .val (.int (1 : Int32)), .val (.int (3 : Int32)), .val (.int (1 : Int32)), .val (.int (1 : Int32)), .unset, .unset] [(.ref ob9), (.ref ob13)]) _ _ _
    refine own_callV X30 hx hZ hown (a := ob13) (argsL := [(.ref ob9)]) (rest := []) (hw _ (List.mem_of_getElem? (i := 59) rfl)) (hw _ (List.mem_of_getElem? (i := 60) rfl)) (hw _ (List.mem_of_getElem? (i := 62) rfl)) (hw _ (List.mem_of_getElem? (i := 61) rfl)) (hw _ (List.mem_of_getElem? (i := 25) rfl)) (hw _ (List.mem_of_getElem? (i := 63) rfl)) (by decide) (rm10 l Z a0 hw ob13 ob9 r2 c2 kn ob14ar ob14ad ob14au (own_upd (fun _ => 0) (r1.toNatClampNeg) (nar .boolean (1 : Int32))) (own_upd (fun _ => 0) (((r1 - c1) + kn).toNatClampNeg) (nar .boolean (1 : Int32))) (own_upd (fun _ => 0) ((r1 + c1).toNatClampNeg) (nar .boolean (1 : Int32))) hh30 n0 Z0 E_ob13 E_ob9 F_ob9_row F_ob9_column F_ob13_size F_ob13_rows F_ob13_downs F_ob13_ups A_ob14ar A_ob14ad A_ob14au bn b_r2 b_c2 ne_ob14ar_ob14ad ne_ob14ar_ob14au ne_ob14ad_ob14au ne_ob13_ob14ar ne_ob13_ob14ad ne_ob13_ob14au ne_ob9_ob14ar ne_ob9_ob14ad ne_ob9_ob14au g_ob14ar g_ob14ad g_ob14au) (by decide) (by decide) e30 E_ob13 rfl (by rw [hml]; rfl) (lenOf pd_7 rfl) rfl (W := 0) (by show 2 * 0 + _ ≤ _; exact Nat.le_of_eq rfl) (hb hby at_177) (by decide) (by decide) fun v31 T31 hh31 L31 X31 e31 hQ31 => ?_
    obtain ⟨rfl, NL31, KK31, P31_0, P31_1, P31_2⟩ := hQ31
    have E_ob7 := E_ob7.keep KK31
    have F_ob7_row := F_ob7_row.keep KK31 (by simp [ne_ob7_ob14ar, ne_ob7_ob14ad, ne_ob7_ob14au])
    have F_ob7_column := F_ob7_column.keep KK31 (by simp [ne_ob7_ob14ar, ne_ob7_ob14ad, ne_ob7_ob14au])
    have E_ob9 := E_ob9.keep KK31
    have F_ob9_row := F_ob9_row.keep KK31 (by simp [ne_ob9_ob14ar, ne_ob9_ob14ad, ne_ob9_ob14au])
    have F_ob9_column := F_ob9_column.keep KK31 (by simp [ne_ob9_ob14ar, ne_ob9_ob14ad, ne_ob9_ob14au])
    have E_ob11 := E_ob11.keep KK31
    have F_ob11_row := F_ob11_row.keep KK31 (by simp [ne_ob11_ob14ar, ne_ob11_ob14ad, ne_ob11_ob14au])
    have F_ob11_column := F_ob11_column.keep KK31 (by simp [ne_ob11_ob14ar, ne_ob11_ob14ad, ne_ob11_ob14au])
    have E_ob13 := E_ob13.keep KK31
    have F_ob13_size := F_ob13_size.keep KK31 (by simp [ne_ob13_ob14ar, ne_ob13_ob14ad, ne_ob13_ob14au])
    have F_ob13_rows := F_ob13_rows.keep KK31 (by simp [ne_ob13_ob14ar, ne_ob13_ob14ad, ne_ob13_ob14au])
    have F_ob13_downs := F_ob13_downs.keep KK31 (by simp [ne_ob13_ob14ar, ne_ob13_ob14ad, ne_ob13_ob14au])
    have F_ob13_ups := F_ob13_ups.keep KK31 (by simp [ne_ob13_ob14ar, ne_ob13_ob14ad, ne_ob13_ob14au])
    have A_ob14ar := P31_0
    have A_ob14ad := P31_1
    have A_ob14au := P31_2
    have Z0 := Nat.le_trans Z0 KK31.1
    have N31 := Fr.app N30 NL31
    show own_Out p e below _ T31 (mkF m 180 #[.val (.int x0), .val (.int x1), .val (.int x2), .val (.int x3), .val (.int x4), .val (.int kn), .val (.int r1), .val (.int c1), .val (.int r2), .val (.int c2), .val (.int q1), .val (.int q2), .val (.ref ob7), .val (.ref ob9), .val (.ref ob11), .val (.ref ob13), .val (.int (1 : Int32)), .val (.int (3 : Int32)), .val (.int (1 : Int32)), .val (.int (1 : Int32)), .unset, .unset] []) _ _ _
    refine own_to (fun t k => XS.iconst X31.here hx rfl (hb hby at_180) k) ?_
    show own_Out p e below _ T31 (mkF m 181 #[.val (.int x0), .val (.int x1), .val (.int x2), .val (.int x3), .val (.int x4), .val (.int kn), .val (.int r1), .val (.int c1), .val (.int r2), .val (.int c2), .val (.int q1), .val (.int q2), .val (.ref ob7), .val (.ref ob9), .val (.ref ob11), .val (.ref ob13), .val (.int (1 : Int32)), .val (.int (3 : Int32)), .val (.int (1 : Int32)), .val (.int (1 : Int32)), .unset, .unset] [(.int (1 : Int32))]) _ _ _
    refine own_to (fun t k => XS.istore X31.here hx rfl (hb hby at_181) rfl (l' := #[.val (.int x0), .val (.int x1), .val (.int x2), .val (.int x3), .val (.int x4), .val (.int kn), .val (.int r1), .val (.int c1), .val (.int r2), .val (.int c2), .val (.int q1), .val (.int q2), .val (.ref ob7), .val (.ref ob9), .val (.ref ob11), .val (.ref ob13), .val (.int (1 : Int32)), .val (.int (3 : Int32)), .val (.int (1 : Int32)), .val (.int (1 : Int32)), .val (.int (1 : Int32)), .unset]) rfl k) ?_
    show own_Out p e below _ T31 (mkF m 183 #[.val (.int x0), .val (.int x1), .val (.int x2), .val (.int x3), .val (.int x4), .val (.int kn), .val (.int r1), .val (.int c1), .val (.int r2), .val (.int c2), .val (.int q1), .val (.int q2), .val (.ref ob7), .val (.ref ob9), .val (.ref ob11), .val (.ref ob13), .val (.int (1 : Int32)), .val (.int (3 : Int32)), .val (.int (1 : Int32)), .val (.int (1 : Int32)), .val (.int (1 : Int32)), .unset] []) _ _ _
    refine own_to (fun t k => XS.iload X31.here hx rfl (hb hby at_183) rfl k) ?_
    show own_Out p e below _ T31 (mkF m 185 #[.val (.int x0), .val (.int x1), .val (.int x2), .val (.int x3), .val (.int x4), .val (.int kn), .val (.int r1), .val (.int c1), .val (.int r2), .val (.int c2), .val (.int q1), .val (.int q2), .val (.ref ob7), .val (.ref ob9), .val (.ref ob11), .val (.ref ob13), .val (.int (1 : Int32)), .val (.int (3 : Int32)), .val (.int (1 : Int32)), .val (.int (1 : Int32)), .val (.int (1 : Int32)), .unset] [(.int (1 : Int32))]) _ _ _
    have hc185 : ¬ ((1 : Int32) = (0 : Int32)) := by decide
    refine own_to (fun t k => XS.ifNo X31.here hx rfl (hb hby at_185) rfl ((if0 _ _).trans (feq hc185).1) k) ?_
    show own_Out p e below _ T31 (mkF m 188 #[.val (.int x0), .val (.int x1), .val (.int x2), .val (.int x3), .val (.int x4), .val (.int kn), .val (.int r1), .val (.int c1), .val (.int r2), .val (.int c2), .val (.int q1), .val (.int q2), .val (.ref ob7), .val (.ref ob9), .val (.ref ob11), .val (.ref ob13), .val (.int (1 : Int32)), .val (.int (3 : Int32)), .val (.int (1 : Int32)), .val (.int (1 : Int32)), .val (.int (1 : Int32)), .unset] []) _ _ _
    refine own_to (fun t k => XS.iload X31.here hx rfl (hb hby at_188) rfl k) ?_
    show own_Out p e below _ T31 (mkF m 190 #[.val (.int x0), .val (.int x1), .val (.int x2), .val (.int x3), .val (.int x4), .val (.int kn), .val (.int r1), .val (.int c1), .val (.int r2), .val (.int c2), .val (.int q1), .val (.int q2), .val (.ref ob7), .val (.ref ob9), .val (.ref ob11), .val (.ref ob13), .val (.int (1 : Int32)), .val (.int (3 : Int32)), .val (.int (1 : Int32)), .val (.int (1 : Int32)), .val (.int (1 : Int32)), .unset] [(.int r1)]) _ _ _
    refine own_to (fun t k => XS.iload X31.here hx rfl (hb hby at_190) rfl k) ?_
    show own_Out p e below _ T31 (mkF m 192 #[.val (.int x0), .val (.int x1), .val (.int x2), .val (.int x3), .val (.int x4), .val (.int kn), .val (.int r1), .val (.int c1), .val (.int r2), .val (.int c2), .val (.int q1), .val (.int q2), .val (.ref ob7), .val (.ref ob9), .val (.ref ob11), .val (.ref ob13), .val (.int (1 : Int32)), .val (.int (3 : Int32)), .val (.int (1 : Int32)), .val (.int (1 : Int32)), .val (.int (1 : Int32)), .unset] [(.int c1), (.int r1)]) _ _ _
    refine own_to (fun t k => XS.iload X31.here hx rfl (hb hby at_192) rfl k) ?_
    show own_Out p e below _ T31 (mkF m 194 #[.val (.int x0), .val (.int x1), .val (.int x2), .val (.int x3), .val (.int x4), .val (.int kn), .val (.int r1), .val (.int c1), .val (.int r2), .val (.int c2), .val (.int q1), .val (.int q2), .val (.ref ob7), .val (.ref ob9), .val (.ref ob11), .val (.ref ob13), .val (.int (1 : Int32)), .val (.int (3 : Int32)), .val (.int (1 : Int32)), .val (.int (1 : Int32)), .val (.int (1 : Int32)), .unset] [(.int q1), (.int c1), (.int r1)]) _ _ _
    refine own_to (fun t k => XS.iload X31.here hx rfl (hb hby at_194) rfl k) ?_
    show own_Out p e below _ T31 (mkF m 196 #[.val (.int x0), .val (.int x1), .val (.int x2), .val (.int x3), .val (.int x4), .val (.int kn), .val (.int r1), .val (.int c1), .val (.int r2), .val (.int c2), .val (.int q1), .val (.int q2), .val (.ref ob7), .val (.ref ob9), .val (.ref ob11), .val (.ref ob13), .val (.int (1 : Int32)), .val (.int (3 : Int32)), .val (.int (1 : Int32)), .val (.int (1 : Int32)), .val (.int (1 : Int32)), .unset] [(.int q2), (.int q1), (.int c1), (.int r1)]) _ _ _
    refine own_callS X31 hx hZ hown (argsL := [(.int r1), (.int c1), (.int q1), (.int q2)]) (rest := []) (hw _ (List.mem_of_getElem? (i := 68) rfl)) (hw _ (List.mem_of_getElem? (i := 69) rfl)) (hw _ (List.mem_of_getElem? (i := 2) rfl)) (hw _ (List.mem_of_getElem? (i := 70) rfl)) (by decide) (rm12 l Z a0 hw r1 c1 q1 q2 hh31 n0 Z0 ) (by decide) (by decide) e31 rfl (by rw [hml]; rfl) (lenOf pd_8 rfl) rfl (W := 0) (by show 2 * 0 + _ ≤ _; exact Nat.le_of_eq rfl) (hb hby at_196) (by decide) (by decide) fun v32 T32 hh32 L32 X32 e32 hQ32 => ?_
    obtain ⟨rfl, NL32, he32⟩ := hQ32
    replace e32 := e32.trans he32
    have N32 := Fr.app N31 NL32
    show own_Out p e below _ T32 (mkF m 199 #[.val (.int x0), .val (.int x1), .val (.int x2), .val (.int x3), .val (.int x4), .val (.int kn), .val (.int r1), .val (.int c1), .val (.int r2), .val (.int c2), .val (.int q1), .val (.int q2), .val (.ref ob7), .val (.ref ob9), .val (.ref ob11), .val (.ref ob13), .val (.int (1 : Int32)), .val (.int (3 : Int32)), .val (.int (1 : Int32)), .val (.int (1 : Int32)), .val (.int (1 : Int32)), .unset] [(.int (R12 r1 c1 q1 q2))]) _ _ _
    by_cases hc199 : (R12 r1 c1 q1 q2) = (0 : Int32)
    · refine own_to (fun t k => XS.ifYes X32.here hx rfl (pc0 := 199) (pc' := 205) rfl (hb hby at_199) rfl ((if0 _ _).trans (teq hc199).1) (by decide) (by decide) k) ?_
      show own_Out p e below _ T32 (mkF m 205 #[.val (.int x0), .val (.int x1), .val (.int x2), .val (.int x3), .val (.int x4), .val (.int kn), .val (.int r1), .val (.int c1), .val (.int r2), .val (.int c2), .val (.int q1), .val (.int q2), .val (.ref ob7), .val (.ref ob9), .val (.ref ob11), .val (.ref ob13), .val (.int (1 : Int32)), .val (.int (3 : Int32)), .val (.int (1 : Int32)), .val (.int (1 : Int32)), .val (.int (1 : Int32)), .unset] []) _ _ _
      refine own_to (fun t k => XS.iload X32.here hx rfl (hb hby at_205) rfl k) ?_
      show own_Out p e below _ T32 (mkF m 207 #[.val (.int x0), .val (.int x1), .val (.int x2), .val (.int x3), .val (.int x4), .val (.int kn), .val (.int r1), .val (.int c1), .val (.int r2), .val (.int c2), .val (.int q1), .val (.int q2), .val (.ref ob7), .val (.ref ob9), .val (.ref ob11), .val (.ref ob13), .val (.int (1 : Int32)), .val (.int (3 : Int32)), .val (.int (1 : Int32)), .val (.int (1 : Int32)), .val (.int (1 : Int32)), .unset] [(.int (1 : Int32))]) _ _ _
      have hc207 : ¬ ((1 : Int32) = (0 : Int32)) := by decide
      refine own_to (fun t k => XS.ifNo X32.here hx rfl (hb hby at_207) rfl ((if0 _ _).trans (feq hc207).1) k) ?_
      show own_Out p e below _ T32 (mkF m 210 #[.val (.int x0), .val (.int x1), .val (.int x2), .val (.int x3), .val (.int x4), .val (.int kn), .val (.int r1), .val (.int c1), .val (.int r2), .val (.int c2), .val (.int q1), .val (.int q2), .val (.ref ob7), .val (.ref ob9), .val (.ref ob11), .val (.ref ob13), .val (.int (1 : Int32)), .val (.int (3 : Int32)), .val (.int (1 : Int32)), .val (.int (1 : Int32)), .val (.int (1 : Int32)), .unset] []) _ _ _
      refine own_to (fun t k => XS.iload X32.here hx rfl (hb hby at_210) rfl k) ?_
      show own_Out p e below _ T32 (mkF m 212 #[.val (.int x0), .val (.int x1), .val (.int x2), .val (.int x3), .val (.int x4), .val (.int kn), .val (.int r1), .val (.int c1), .val (.int r2), .val (.int c2), .val (.int q1), .val (.int q2), .val (.ref ob7), .val (.ref ob9), .val (.ref ob11), .val (.ref ob13), .val (.int (1 : Int32)), .val (.int (3 : Int32)), .val (.int (1 : Int32)), .val (.int (1 : Int32)), .val (.int (1 : Int32)), .unset] [(.int r2)]) _ _ _
      refine own_to (fun t k => XS.iload X32.here hx rfl (hb hby at_212) rfl k) ?_
      show own_Out p e below _ T32 (mkF m 214 #[.val (.int x0), .val (.int x1), .val (.int x2), .val (.int x3), .val (.int x4), .val (.int kn), .val (.int r1), .val (.int c1), .val (.int r2), .val (.int c2), .val (.int q1), .val (.int q2), .val (.ref ob7), .val (.ref ob9), .val (.ref ob11), .val (.ref ob13), .val (.int (1 : Int32)), .val (.int (3 : Int32)), .val (.int (1 : Int32)), .val (.int (1 : Int32)), .val (.int (1 : Int32)), .unset] [(.int c2), (.int r2)]) _ _ _
      refine own_to (fun t k => XS.iload X32.here hx rfl (hb hby at_214) rfl k) ?_
      show own_Out p e below _ T32 (mkF m 216 #[.val (.int x0), .val (.int x1), .val (.int x2), .val (.int x3), .val (.int x4), .val (.int kn), .val (.int r1), .val (.int c1), .val (.int r2), .val (.int c2), .val (.int q1), .val (.int q2), .val (.ref ob7), .val (.ref ob9), .val (.ref ob11), .val (.ref ob13), .val (.int (1 : Int32)), .val (.int (3 : Int32)), .val (.int (1 : Int32)), .val (.int (1 : Int32)), .val (.int (1 : Int32)), .unset] [(.int q1), (.int c2), (.int r2)]) _ _ _
      refine own_to (fun t k => XS.iload X32.here hx rfl (hb hby at_216) rfl k) ?_
      show own_Out p e below _ T32 (mkF m 218 #[.val (.int x0), .val (.int x1), .val (.int x2), .val (.int x3), .val (.int x4), .val (.int kn), .val (.int r1), .val (.int c1), .val (.int r2), .val (.int c2), .val (.int q1), .val (.int q2), .val (.ref ob7), .val (.ref ob9), .val (.ref ob11), .val (.ref ob13), .val (.int (1 : Int32)), .val (.int (3 : Int32)), .val (.int (1 : Int32)), .val (.int (1 : Int32)), .val (.int (1 : Int32)), .unset] [(.int q2), (.int q1), (.int c2), (.int r2)]) _ _ _
      refine own_callS X32 hx hZ hown (argsL := [(.int r2), (.int c2), (.int q1), (.int q2)]) (rest := []) (hw _ (List.mem_of_getElem? (i := 68) rfl)) (hw _ (List.mem_of_getElem? (i := 69) rfl)) (hw _ (List.mem_of_getElem? (i := 2) rfl)) (hw _ (List.mem_of_getElem? (i := 70) rfl)) (by decide) (rm12 l Z a0 hw r2 c2 q1 q2 hh31 n0 Z0 ) (by decide) (by decide) e32 rfl (by rw [hml]; rfl) (lenOf pd_8 rfl) rfl (W := 0) (by show 2 * 0 + _ ≤ _; exact Nat.le_of_eq rfl) (hb hby at_218) (by decide) (by decide) fun v33 T33 hh33 L33 X33 e33 hQ33 => ?_
      obtain ⟨rfl, NL33, he33⟩ := hQ33
      replace e33 := e33.trans he33
      have N33 := Fr.app N32 NL33
      show own_Out p e below _ T33 (mkF m 221 #[.val (.int x0), .val (.int x1), .val (.int x2), .val (.int x3), .val (.int x4), .val (.int kn), .val (.int r1), .val (.int c1), .val (.int r2), .val (.int c2), .val (.int q1), .val (.int q2), .val (.ref ob7), .val (.ref ob9), .val (.ref ob11), .val (.ref ob13), .val (.int (1 : Int32)), .val (.int (3 : Int32)), .val (.int (1 : Int32)), .val (.int (1 : Int32)), .val (.int (1 : Int32)), .unset] [(.int (R12 r2 c2 q1 q2))]) _ _ _
      by_cases hc221 : (R12 r2 c2 q1 q2) = (0 : Int32)
      · refine own_to (fun t k => XS.ifYes X33.here hx rfl (pc0 := 221) (pc' := 227) rfl (hb hby at_221) rfl ((if0 _ _).trans (teq hc221).1) (by decide) (by decide) k) ?_
        show own_Out p e below _ T33 (mkF m 227 #[.val (.int x0), .val (.int x1), .val (.int x2), .val (.int x3), .val (.int x4), .val (.int kn), .val (.int r1), .val (.int c1), .val (.int r2), .val (.int c2), .val (.int q1), .val (.int q2), .val (.ref ob7), .val (.ref ob9), .val (.ref ob11), .val (.ref ob13), .val (.int (1 : Int32)), .val (.int (3 : Int32)), .val (.int (1 : Int32)), .val (.int (1 : Int32)), .val (.int (1 : Int32)), .unset] []) _ _ _
        refine own_to (fun t k => XS.aload X33.here hx rfl (hb hby at_227) rfl rfl k) ?_
        show own_Out p e below _ T33 (mkF m 229 #[.val (.int x0), .val (.int x1), .val (.int x2), .val (.int x3), .val (.int x4), .val (.int kn), .val (.int r1), .val (.int c1), .val (.int r2), .val (.int c2), .val (.int q1), .val (.int q2), .val (.ref ob7), .val (.ref ob9), .val (.ref ob11), .val (.ref ob13), .val (.int (1 : Int32)), .val (.int (3 : Int32)), .val (.int (1 : Int32)), .val (.int (1 : Int32)), .val (.int (1 : Int32)), .unset] [(.ref ob13)]) _ _ _
        refine own_to (fun t k => XS.aload X33.here hx rfl (hb hby at_229) rfl rfl k) ?_
        show own_Out p e below _ T33 (mkF m 231 #[.val (.int x0), .val (.int x1), .val (.int x2), .val (.int x3), .val (.int x4), .val (.int kn), .val (.int r1), .val (.int c1), .val (.int r2), .val (.int c2), .val (.int q1), .val (.int q2), .val (.ref ob7), .val (.ref ob9), .val (.ref ob11), .val (.ref ob13), .val (.int (1 : Int32)), .val (.int (3 : Int32)), .val (.int (1 : Int32)), .val (.int (1 : Int32)), .val (.int (1 : Int32)), .unset] [(.ref ob11), (.ref ob13)]) _ _ _
        refine own_callV X33 hx hZ hown (a := ob13) (argsL := [(.ref ob11)]) (rest := []) (hw _ (List.mem_of_getElem? (i := 39) rfl)) (hw _ (List.mem_of_getElem? (i := 40) rfl)) (hw _ (List.mem_of_getElem? (i := 42) rfl)) (hw _ (List.mem_of_getElem? (i := 41) rfl)) (hw _ (List.mem_of_getElem? (i := 25) rfl)) (hw _ (List.mem_of_getElem? (i := 43) rfl)) (by decide) (rm6 l Z a0 hw ob13 ob11 q1 q2 kn ob14ar ob14ad ob14au (own_upd (own_upd (fun _ => 0) (r1.toNatClampNeg) (nar .boolean (1 : Int32))) (r2.toNatClampNeg) (nar .boolean (1 : Int32))) (own_upd (own_upd (fun _ => 0) (((r1 - c1) + kn).toNatClampNeg) (nar .boolean (1 : Int32))) (((r2 - c2) + kn).toNatClampNeg) (nar .boolean (1 : Int32))) (own_upd (own_upd (fun _ => 0) ((r1 + c1).toNatClampNeg) (nar .boolean (1 : Int32))) ((r2 + c2).toNatClampNeg) (nar .boolean (1 : Int32))) hh31 n0 Z0 E_ob13 E_ob11 F_ob11_row F_ob11_column F_ob13_size F_ob13_rows F_ob13_downs F_ob13_ups A_ob14ar A_ob14ad A_ob14au bn b_q1 b_q2) (by decide) (by decide) e33 E_ob13 rfl (by rw [hml]; rfl) (lenOf pd_6 rfl) rfl (W := 0) (by show 2 * 0 + _ ≤ _; exact Nat.le_of_eq rfl) (hb hby at_231) (by decide) (by decide) fun v34 T34 hh34 L34 X34 e34 hQ34 => ?_
        obtain ⟨rfl, NL34, he34⟩ := hQ34
        replace e34 := e34.trans he34
        have N34 := Fr.app N33 NL34
        show own_Out p e below _ T34 (mkF m 234 #[.val (.int x0), .val (.int x1), .val (.int x2), .val (.int x3), .val (.int x4), .val (.int kn), .val (.int r1), .val (.int c1), .val (.int r2), .val (.int c2), .val (.int q1), .val (.int q2), .val (.ref ob7), .val (.ref ob9), .val (.ref ob11), .val (.ref ob13), .val (.int (1 : Int32)), .val (.int (3 : Int32)), .val (.int (1 : Int32)), .val (.int (1 : Int32)), .val (.int (1 : Int32)), .unset] [(.int (R6 ob13 ob11 q1 q2 kn ob14ar ob14ad ob14au (own_upd (own_upd (fun _ => 0) (r1.toNatClampNeg) (nar .boolean (1 : Int32))) (r2.toNatClampNeg) (nar .boolean (1 : Int32))) (own_upd (own_upd (fun _ => 0) (((r1 - c1) + kn).toNatClampNeg) (nar .boolean (1 : Int32))) (((r2 - c2) + kn).toNatClampNeg) (nar .boolean (1 : Int32))) (own_upd (own_upd (fun _ => 0) ((r1 + c1).toNatClampNeg) (nar .boolean (1 : Int32))) ((r2 + c2).toNatClampNeg) (nar .boolean (1 : Int32)))))]) _ _ _
        rw [own_free2 _ _ q1 q2 kn _ _ _ r1 c1 r2 c2 bn b_q1 b_q2 b_r1 b_c1 b_r2 b_c2]
        rw [if_pos hc199]
        rw [if_pos hc221]
        show own_Out p e below _ T34 (mkF m 234 #[.val (.int x0), .val (.int x1), .val (.int x2), .val (.int x3), .val (.int x4), .val (.int kn), .val (.int r1), .val (.int c1), .val (.int r2), .val (.int c2), .val (.int q1), .val (.int q2), .val (.ref ob7), .val (.ref ob9), .val (.ref ob11), .val (.ref ob13), .val (.int (1 : Int32)), .val (.int (3 : Int32)), .val (.int (1 : Int32)), .val (.int (1 : Int32)), .val (.int (1 : Int32)), .unset] [(.int (1 : Int32))]) _ _ _
        refine own_to (fun t k => XS.istore X34.here hx rfl (hb hby at_234) rfl (l' := #[.val (.int x0), .val (.int x1), .val (.int x2), .val (.int x3), .val (.int x4), .val (.int kn), .val (.int r1), .val (.int c1), .val (.int r2), .val (.int c2), .val (.int q1), .val (.int q2), .val (.ref ob7), .val (.ref ob9), .val (.ref ob11), .val (.ref ob13), .val (.int (1 : Int32)), .val (.int (3 : Int32)), .val (.int (1 : Int32)), .val (.int (1 : Int32)), .val (.int (1 : Int32)), .val (.int (1 : Int32))]) rfl k) ?_
        show own_Out p e below _ T34 (mkF m 236 #[.val (.int x0), .val (.int x1), .val (.int x2), .val (.int x3), .val (.int x4), .val (.int kn), .val (.int r1), .val (.int c1), .val (.int r2), .val (.int c2), .val (.int q1), .val (.int q2), .val (.ref ob7), .val (.ref ob9), .val (.ref ob11), .val (.ref ob13), .val (.int (1 : Int32)), .val (.int (3 : Int32)), .val (.int (1 : Int32)), .val (.int (1 : Int32)), .val (.int (1 : Int32)), .val (.int (1 : Int32))] []) _ _ _
        refine own_to (fun t k => XS.iload X34.here hx rfl (hb hby at_236) rfl k) ?_
        show own_Out p e below _ T34 (mkF m 238 #[.val (.int x0), .val (.int x1), .val (.int x2), .val (.int x3), .val (.int x4), .val (.int kn), .val (.int r1), .val (.int c1), .val (.int r2), .val (.int c2), .val (.int q1), .val (.int q2), .val (.ref ob7), .val (.ref ob9), .val (.ref ob11), .val (.ref ob13), .val (.int (1 : Int32)), .val (.int (3 : Int32)), .val (.int (1 : Int32)), .val (.int (1 : Int32)), .val (.int (1 : Int32)), .val (.int (1 : Int32))] [(.int (1 : Int32))]) _ _ _
        have hc238 : ¬ ((1 : Int32) = (0 : Int32)) := by decide
        refine own_to (fun t k => XS.ifNo X34.here hx rfl (hb hby at_238) rfl ((if0 _ _).trans (feq hc238).1) k) ?_
        show own_Out p e below _ T34 (mkF m 241 #[.val (.int x0), .val (.int x1), .val (.int x2), .val (.int x3), .val (.int x4), .val (.int kn), .val (.int r1), .val (.int c1), .val (.int r2), .val (.int c2), .val (.int q1), .val (.int q2), .val (.ref ob7), .val (.ref ob9), .val (.ref ob11), .val (.ref ob13), .val (.int (1 : Int32)), .val (.int (3 : Int32)), .val (.int (1 : Int32)), .val (.int (1 : Int32)), .val (.int (1 : Int32)), .val (.int (1 : Int32))] []) _ _ _
        refine own_to (fun t k => XS.iload X34.here hx rfl (hb hby at_241) rfl k) ?_
        show own_Out p e below _ T34 (mkF m 243 #[.val (.int x0), .val (.int x1), .val (.int x2), .val (.int x3), .val (.int x4), .val (.int kn), .val (.int r1), .val (.int c1), .val (.int r2), .val (.int c2), .val (.int q1), .val (.int q2), .val (.ref ob7), .val (.ref ob9), .val (.ref ob11), .val (.ref ob13), .val (.int (1 : Int32)), .val (.int (3 : Int32)), .val (.int (1 : Int32)), .val (.int (1 : Int32)), .val (.int (1 : Int32)), .val (.int (1 : Int32))] [(.int (1 : Int32))]) _ _ _
        refine own_to (fun t k => XS.iload X34.here hx rfl (hb hby at_243) rfl k) ?_
        show own_Out p e below _ T34 (mkF m 245 #[.val (.int x0), .val (.int x1), .val (.int x2), .val (.int x3), .val (.int x4), .val (.int kn), .val (.int r1), .val (.int c1), .val (.int r2), .val (.int c2), .val (.int q1), .val (.int q2), .val (.ref ob7), .val (.ref ob9), .val (.ref ob11), .val (.ref ob13), .val (.int (1 : Int32)), .val (.int (3 : Int32)), .val (.int (1 : Int32)), .val (.int (1 : Int32)), .val (.int (1 : Int32)), .val (.int (1 : Int32))] [(.int (1 : Int32)), (.int (1 : Int32))]) _ _ _
        have hc245 : (1 : Int32) = (1 : Int32) := by decide
        refine own_to (fun t k => XS.icmpNo X34.here hx rfl (hb hby at_245) rfl (teq hc245).2 k) ?_
        show own_Out p e below _ T34 (mkF m 248 #[.val (.int x0), .val (.int x1), .val (.int x2), .val (.int x3), .val (.int x4), .val (.int kn), .val (.int r1), .val (.int c1), .val (.int r2), .val (.int c2), .val (.int q1), .val (.int q2), .val (.ref ob7), .val (.ref ob9), .val (.ref ob11), .val (.ref ob13), .val (.int (1 : Int32)), .val (.int (3 : Int32)), .val (.int (1 : Int32)), .val (.int (1 : Int32)), .val (.int (1 : Int32)), .val (.int (1 : Int32))] []) _ _ _
        refine own_to (fun t k => XS.iconst X34.here hx rfl (hb hby at_248) k) ?_
        show own_Out p e below _ T34 (mkF m 249 #[.val (.int x0), .val (.int x1), .val (.int x2), .val (.int x3), .val (.int x4), .val (.int kn), .val (.int r1), .val (.int c1), .val (.int r2), .val (.int c2), .val (.int q1), .val (.int q2), .val (.ref ob7), .val (.ref ob9), .val (.ref ob11), .val (.ref ob13), .val (.int (1 : Int32)), .val (.int (3 : Int32)), .val (.int (1 : Int32)), .val (.int (1 : Int32)), .val (.int (1 : Int32)), .val (.int (1 : Int32))] [(.int (1 : Int32))]) _ _ _
        refine own_to (fun t k => XS.goto X34.here hx rfl (pc0 := 249) (pc' := 253) rfl (hb hby at_249) (by decide) (by decide) k) ?_
        show own_Out p e below _ T34 (mkF m 253 #[.val (.int x0), .val (.int x1), .val (.int x2), .val (.int x3), .val (.int x4), .val (.int kn), .val (.int r1), .val (.int c1), .val (.int r2), .val (.int c2), .val (.int q1), .val (.int q2), .val (.ref ob7), .val (.ref ob9), .val (.ref ob11), .val (.ref ob13), .val (.int (1 : Int32)), .val (.int (3 : Int32)), .val (.int (1 : Int32)), .val (.int (1 : Int32)), .val (.int (1 : Int32)), .val (.int (1 : Int32))] [(.int (1 : Int32))]) _ _ _
        refine own_retV X34 hx hlk (w := .int (1 : Int32)) hret rfl (Or.inl ⟨rfl, by simp, _, rfl⟩) (hb hby at_253) (by decide) (by decide) ?_
        rw [e34]
        exact ⟨rfl, N34⟩
      · refine own_to (fun t k => XS.ifNo X33.here hx rfl (hb hby at_221) rfl ((if0 _ _).trans (feq hc221).1) k) ?_
        show own_Out p e below _ T33 (mkF m 224 #[.val (.int x0), .val (.int x1), .val (.int x2), .val (.int x3), .val (.int x4), .val (.int kn), .val (.int r1), .val (.int c1), .val (.int r2), .val (.int c2), .val (.int q1), .val (.int q2), .val (.ref ob7), .val (.ref ob9), .val (.ref ob11), .val (.ref ob13), .val (.int (1 : Int32)), .val (.int (3 : Int32)), .val (.int (1 : Int32)), .val (.int (1 : Int32)), .val (.int (1 : Int32)), .unset] []) _ _ _
        refine own_to (fun t k => XS.iconst X33.here hx rfl (hb hby at_224) k) ?_
        show own_Out p e below _ T33 (mkF m 225 #[.val (.int x0), .val (.int x1), .val (.int x2), .val (.int x3), .val (.int x4), .val (.int kn), .val (.int r1), .val (.int c1), .val (.int r2), .val (.int c2), .val (.int q1), .val (.int q2), .val (.ref ob7), .val (.ref ob9), .val (.ref ob11), .val (.ref ob13), .val (.int (1 : Int32)), .val (.int (3 : Int32)), .val (.int (1 : Int32)), .val (.int (1 : Int32)), .val (.int (1 : Int32)), .unset] [(.int (0 : Int32))]) _ _ _
        refine own_to (fun t k => XS.istore X33.here hx rfl (hb hby at_225) rfl (l' := #[.val (.int x0), .val (.int x1), .val (.int x2), .val (.int x3), .val (.int x4), .val (.int kn), .val (.int r1), .val (.int c1), .val (.int r2), .val (.int c2), .val (.int q1), .val (.int q2), .val (.ref ob7), .val (.ref ob9), .val (.ref ob11), .val (.ref ob13), .val (.int (1 : Int32)), .val (.int (3 : Int32)), .val (.int (1 : Int32)), .val (.int (1 : Int32)), .val (.int (0 : Int32)), .unset]) rfl k) ?_
        show own_Out p e below _ T33 (mkF m 227 #[.val (.int x0), .val (.int x1), .val (.int x2), .val (.int x3), .val (.int x4), .val (.int kn), .val (.int r1), .val (.int c1), .val (.int r2), .val (.int c2), .val (.int q1), .val (.int q2), .val (.ref ob7), .val (.ref ob9), .val (.ref ob11), .val (.ref ob13), .val (.int (1 : Int32)), .val (.int (3 : Int32)), .val (.int (1 : Int32)), .val (.int (1 : Int32)), .val (.int (0 : Int32)), .unset] []) _ _ _
        refine own_to (fun t k => XS.aload X33.here hx rfl (hb hby at_227) rfl rfl k) ?_
        show own_Out p e below _ T33 (mkF m 229 #[.val (.int x0), .val (.int x1), .val (.int x2), .val (.int x3), .val (.int x4), .val (.int kn), .val (.int r1), .val (.int c1), .val (.int r2), .val (.int c2), .val (.int q1), .val (.int q2), .val (.ref ob7), .val (.ref ob9), .val (.ref ob11), .val (.ref ob13), .val (.int (1 : Int32)), .val (.int (3 : Int32)), .val (.int (1 : Int32)), .val (.int (1 : Int32)), .val (.int (0 : Int32)), .unset] [(.ref ob13)]) _ _ _
        refine own_to (fun t k => XS.aload X33.here hx rfl (hb hby at_229) rfl rfl k) ?_
        show own_Out p e below _ T33 (mkF m 231 #[.val (.int x0), .val (.int x1), .val (.int x2), .val (.int x3), .val (.int x4), .val (.int kn), .val (.int r1), .val (.int c1), .val (.int r2), .val (.int c2), .val (.int q1), .val (.int q2), .val (.ref ob7), .val (.ref ob9), .val (.ref ob11), .val (.ref ob13), .val (.int (1 : Int32)), .val (.int (3 : Int32)), .val (.int (1 : Int32)), .val (.int (1 : Int32)), .val (.int (0 : Int32)), .unset] [(.ref ob11), (.ref ob13)]) _ _ _
        refine own_callV X33 hx hZ hown (a := ob13) (argsL := [(.ref ob11)]) (rest := []) (hw _ (List.mem_of_getElem? (i := 39) rfl)) (hw _ (List.mem_of_getElem? (i := 40) rfl)) (hw _ (List.mem_of_getElem? (i := 42) rfl)) (hw _ (List.mem_of_getElem? (i := 41) rfl)) (hw _ (List.mem_of_getElem? (i := 25) rfl)) (hw _ (List.mem_of_getElem? (i := 43) rfl)) (by decide) (rm6 l Z a0 hw ob13 ob11 q1 q2 kn ob14ar ob14ad ob14au (own_upd (own_upd (fun _ => 0) (r1.toNatClampNeg) (nar .boolean (1 : Int32))) (r2.toNatClampNeg) (nar .boolean (1 : Int32))) (own_upd (own_upd (fun _ => 0) (((r1 - c1) + kn).toNatClampNeg) (nar .boolean (1 : Int32))) (((r2 - c2) + kn).toNatClampNeg) (nar .boolean (1 : Int32))) (own_upd (own_upd (fun _ => 0) ((r1 + c1).toNatClampNeg) (nar .boolean (1 : Int32))) ((r2 + c2).toNatClampNeg) (nar .boolean (1 : Int32))) hh31 n0 Z0 E_ob13 E_ob11 F_ob11_row F_ob11_column F_ob13_size F_ob13_rows F_ob13_downs F_ob13_ups A_ob14ar A_ob14ad A_ob14au bn b_q1 b_q2) (by decide) (by decide) e33 E_ob13 rfl (by rw [hml]; rfl) (lenOf pd_6 rfl) rfl (W := 0) (by show 2 * 0 + _ ≤ _; exact Nat.le_of_eq rfl) (hb hby at_231) (by decide) (by decide) fun v35 T35 hh35 L35 X35 e35 hQ35 => ?_
        obtain ⟨rfl, NL35, he35⟩ := hQ35
        replace e35 := e35.trans he35
        have N35 := Fr.app N33 NL35
        show own_Out p e below _ T35 (mkF m 234 #[.val (.int x0), .val (.int x1), .val (.int x2), .val (.int x3), .val (.int x4), .val (.int kn), .val (.int r1), .val (.int c1), .val (.int r2), .val (.int c2), .val (.int q1), .val (.int q2), .val (.ref ob7), .val (.ref ob9), .val (.ref ob11), .val (.ref ob13), .val (.int (1 : Int32)), .val (.int (3 : Int32)), .val (.int (1 : Int32)), .val (.int (1 : Int32)), .val (.int (0 : Int32)), .unset] [(.int (R6 ob13 ob11 q1 q2 kn ob14ar ob14ad ob14au (own_upd (own_upd (fun _ => 0) (r1.toNatClampNeg) (nar .boolean (1 : Int32))) (r2.toNatClampNeg) (nar .boolean (1 : Int32))) (own_upd (own_upd (fun _ => 0) (((r1 - c1) + kn).toNatClampNeg) (nar .boolean (1 : Int32))) (((r2 - c2) + kn).toNatClampNeg) (nar .boolean (1 : Int32))) (own_upd (own_upd (fun _ => 0) ((r1 + c1).toNatClampNeg) (nar .boolean (1 : Int32))) ((r2 + c2).toNatClampNeg) (nar .boolean (1 : Int32)))))]) _ _ _
        rw [own_free2 _ _ q1 q2 kn _ _ _ r1 c1 r2 c2 bn b_q1 b_q2 b_r1 b_c1 b_r2 b_c2]
        rw [if_pos hc199]
        rw [if_neg hc221]
        show own_Out p e below _ T35 (mkF m 234 #[.val (.int x0), .val (.int x1), .val (.int x2), .val (.int x3), .val (.int x4), .val (.int kn), .val (.int r1), .val (.int c1), .val (.int r2), .val (.int c2), .val (.int q1), .val (.int q2), .val (.ref ob7), .val (.ref ob9), .val (.ref ob11), .val (.ref ob13), .val (.int (1 : Int32)), .val (.int (3 : Int32)), .val (.int (1 : Int32)), .val (.int (1 : Int32)), .val (.int (0 : Int32)), .unset] [(.int (0 : Int32))]) _ _ _
        refine own_to (fun t k => XS.istore X35.here hx rfl (hb hby at_234) rfl (l' := #[.val (.int x0), .val (.int x1), .val (.int x2), .val (.int x3), .val (.int x4), .val (.int kn), .val (.int r1), .val (.int c1), .val (.int r2), .val (.int c2), .val (.int q1), .val (.int q2), .val (.ref ob7), .val (.ref ob9), .val (.ref ob11), .val (.ref ob13), .val (.int (1 : Int32)), .val (.int (3 : Int32)), .val (.int (1 : Int32)), .val (.int (1 : Int32)), .val (.int (0 : Int32)), .val (.int (0 : Int32))]) rfl k) ?_
        show own_Out p e below _ T35 (mkF m 236 #[.val (.int x0), .val (.int x1), .val (.int x2), .val (.int x3), .val (.int x4), .val (.int kn), .val (.int r1), .val (.int c1), .val (.int r2), .val (.int c2), .val (.int q1), .val (.int q2), .val (.ref ob7), .val (.ref ob9), .val (.ref ob11), .val (.ref ob13), .val (.int (1 : Int32)), .val (.int (3 : Int32)), .val (.int (1 : Int32)), .val (.int (1 : Int32)), .val (.int (0 : Int32)), .val (.int (0 : Int32))] []) _ _ _
        refine own_to (fun t k => XS.iload X35.here hx rfl (hb hby at_236) rfl k) ?_
        show own_Out p e below _ T35 (mkF m 238 #[.val (.int x0), .val (.int x1), .val (.int x2), .val (.int x3), .val (.int x4), .val (.int kn), .val (.int r1), .val (.int c1), .val (.int r2), .val (.int c2), .val (.int q1), .val (.int q2), .val (.ref ob7), .val (.ref ob9), .val (.ref ob11), .val (.ref ob13), .val (.int (1 : Int32)), .val (.int (3 : Int32)), .val (.int (1 : Int32)), .val (.int (1 : Int32)), .val (.int (0 : Int32)), .val (.int (0 : Int32))] [(.int (1 : Int32))]) _ _ _
        have hc238 : ¬ ((1 : Int32) = (0 : Int32)) := by decide
        refine own_to (fun t k => XS.ifNo X35.here hx rfl (hb hby at_238) rfl ((if0 _ _).trans (feq hc238).1) k) ?_
        show own_Out p e below _ T35 (mkF m 241 #[.val (.int x0), .val (.int x1), .val (.int x2), .val (.int x3), .val (.int x4), .val (.int kn), .val (.int r1), .val (.int c1), .val (.int r2), .val (.int c2), .val (.int q1), .val (.int q2), .val (.ref ob7), .val (.ref ob9), .val (.ref ob11), .val (.ref ob13), .val (.int (1 : Int32)), .val (.int (3 : Int32)), .val (.int (1 : Int32)), .val (.int (1 : Int32)), .val (.int (0 : Int32)), .val (.int (0 : Int32))] []) _ _ _
        refine own_to (fun t k => XS.iload X35.here hx rfl (hb hby at_241) rfl k) ?_
        show own_Out p e below _ T35 (mkF m 243 #[.val (.int x0), .val (.int x1), .val (.int x2), .val (.int x3), .val (.int x4), .val (.int kn), .val (.int r1), .val (.int c1), .val (.int r2), .val (.int c2), .val (.int q1), .val (.int q2), .val (.ref ob7), .val (.ref ob9), .val (.ref ob11), .val (.ref ob13), .val (.int (1 : Int32)), .val (.int (3 : Int32)), .val (.int (1 : Int32)), .val (.int (1 : Int32)), .val (.int (0 : Int32)), .val (.int (0 : Int32))] [(.int (0 : Int32))]) _ _ _
        refine own_to (fun t k => XS.iload X35.here hx rfl (hb hby at_243) rfl k) ?_
        show own_Out p e below _ T35 (mkF m 245 #[.val (.int x0), .val (.int x1), .val (.int x2), .val (.int x3), .val (.int x4), .val (.int kn), .val (.int r1), .val (.int c1), .val (.int r2), .val (.int c2), .val (.int q1), .val (.int q2), .val (.ref ob7), .val (.ref ob9), .val (.ref ob11), .val (.ref ob13), .val (.int (1 : Int32)), .val (.int (3 : Int32)), .val (.int (1 : Int32)), .val (.int (1 : Int32)), .val (.int (0 : Int32)), .val (.int (0 : Int32))] [(.int (0 : Int32)), (.int (0 : Int32))]) _ _ _
        have hc245 : (0 : Int32) = (0 : Int32) := by decide
        refine own_to (fun t k => XS.icmpNo X35.here hx rfl (hb hby at_245) rfl (teq hc245).2 k) ?_
        show own_Out p e below _ T35 (mkF m 248 #[.val (.int x0), .val (.int x1), .val (.int x2), .val (.int x3), .val (.int x4), .val (.int kn), .val (.int r1), .val (.int c1), .val (.int r2), .val (.int c2), .val (.int q1), .val (.int q2), .val (.ref ob7), .val (.ref ob9), .val (.ref ob11), .val (.ref ob13), .val (.int (1 : Int32)), .val (.int (3 : Int32)), .val (.int (1 : Int32)), .val (.int (1 : Int32)), .val (.int (0 : Int32)), .val (.int (0 : Int32))] []) _ _ _
        refine own_to (fun t k => XS.iconst X35.here hx rfl (hb hby at_248) k) ?_
        show own_Out p e below _ T35 (mkF m 249 #[.val (.int x0), .val (.int x1), .val (.int x2), .val (.int x3), .val (.int x4), .val (.int kn), .val (.int r1), .val (.int c1), .val (.int r2), .val (.int c2), .val (.int q1), .val (.int q2), .val (.ref ob7), .val (.ref ob9), .val (.ref ob11), .val (.ref ob13), .val (.int (1 : Int32)), .val (.int (3 : Int32)), .val (.int (1 : Int32)), .val (.int (1 : Int32)), .val (.int (0 : Int32)), .val (.int (0 : Int32))] [(.int (1 : Int32))]) _ _ _
        refine own_to (fun t k => XS.goto X35.here hx rfl (pc0 := 249) (pc' := 253) rfl (hb hby at_249) (by decide) (by decide) k) ?_
        show own_Out p e below _ T35 (mkF m 253 #[.val (.int x0), .val (.int x1), .val (.int x2), .val (.int x3), .val (.int x4), .val (.int kn), .val (.int r1), .val (.int c1), .val (.int r2), .val (.int c2), .val (.int q1), .val (.int q2), .val (.ref ob7), .val (.ref ob9), .val (.ref ob11), .val (.ref ob13), .val (.int (1 : Int32)), .val (.int (3 : Int32)), .val (.int (1 : Int32)), .val (.int (1 : Int32)), .val (.int (0 : Int32)), .val (.int (0 : Int32))] [(.int (1 : Int32))]) _ _ _
        refine own_retV X35 hx hlk (w := .int (1 : Int32)) hret rfl (Or.inl ⟨rfl, by simp, _, rfl⟩) (hb hby at_253) (by decide) (by decide) ?_
        rw [e35]
        exact ⟨rfl, N35⟩
    · refine own_to (fun t k => XS.ifNo X32.here hx rfl (hb hby at_199) rfl ((if0 _ _).trans (feq hc199).1) k) ?_
      show own_Out p e below _ T32 (mkF m 202 #[.val (.int x0), .val (.int x1), .val (.int x2), .val (.int x3), .val (.int x4), .val (.int kn), .val (.int r1), .val (.int c1), .val (.int r2), .val (.int c2), .val (.int q1), .val (.int q2), .val (.ref ob7), .val (.ref ob9), .val (.ref ob11), .val (.ref ob13), .val (.int (1 : Int32)), .val (.int (3 : Int32)), .val (.int (1 : Int32)), .val (.int (1 : Int32)), .val (.int (1 : Int32)), .unset] []) _ _ _
      refine own_to (fun t k => XS.iconst X32.here hx rfl (hb hby at_202) k) ?_
      show own_Out p e below _ T32 (mkF m 203 #[.val (.int x0), .val (.int x1), .val (.int x2), .val (.int x3), .val (.int x4), .val (.int kn), .val (.int r1), .val (.int c1), .val (.int r2), .val (.int c2), .val (.int q1), .val (.int q2), .val (.ref ob7), .val (.ref ob9), .val (.ref ob11), .val (.ref ob13), .val (.int (1 : Int32)), .val (.int (3 : Int32)), .val (.int (1 : Int32)), .val (.int (1 : Int32)), .val (.int (1 : Int32)), .unset] [(.int (0 : Int32))]) _ _ _
      refine own_to (fun t k => XS.istore X32.here hx rfl (hb hby at_203) rfl (l' := #[.val (.int x0), .val (.int x1), .val (.int x2), .val (.int x3), .val (.int x4), .val (.int kn), .val (.int r1), .val (.int c1), .val (.int r2), .val (.int c2), .val (.int q1), .val (.int q2), .val (.ref ob7), .val (.ref ob9), .val (.ref ob11), .val (.ref ob13), .val (.int (1 : Int32)), .val (.int (3 : Int32)), .val (.int (1 : Int32)), .val (.int (1 : Int32)), .val (.int (0 : Int32)), .unset]) rfl k) ?_
      show own_Out p e below _ T32 (mkF m 205 #[.val (.int x0), .val (.int x1), .val (.int x2), .val (.int x3), .val (.int x4), .val (.int kn), .val (.int r1), .val (.int c1), .val (.int r2), .val (.int c2), .val (.int q1), .val (.int q2), .val (.ref ob7), .val (.ref ob9), .val (.ref ob11), .val (.ref ob13), .val (.int (1 : Int32)), .val (.int (3 : Int32)), .val (.int (1 : Int32)), .val (.int (1 : Int32)), .val (.int (0 : Int32)), .unset] []) _ _ _
      refine own_to (fun t k => XS.iload X32.here hx rfl (hb hby at_205) rfl k) ?_
      show own_Out p e below _ T32 (mkF m 207 #[.val (.int x0), .val (.int x1), .val (.int x2), .val (.int x3), .val (.int x4), .val (.int kn), .val (.int r1), .val (.int c1), .val (.int r2), .val (.int c2), .val (.int q1), .val (.int q2), .val (.ref ob7), .val (.ref ob9), .val (.ref ob11), .val (.ref ob13), .val (.int (1 : Int32)), .val (.int (3 : Int32)), .val (.int (1 : Int32)), .val (.int (1 : Int32)), .val (.int (0 : Int32)), .unset] [(.int (1 : Int32))]) _ _ _
      have hc207 : ¬ ((1 : Int32) = (0 : Int32)) := by decide
      refine own_to (fun t k => XS.ifNo X32.here hx rfl (hb hby at_207) rfl ((if0 _ _).trans (feq hc207).1) k) ?_
      show own_Out p e below _ T32 (mkF m 210 #[.val (.int x0), .val (.int x1), .val (.int x2), .val (.int x3), .val (.int x4), .val (.int kn), .val (.int r1), .val (.int c1), .val (.int r2), .val (.int c2), .val (.int q1), .val (.int q2), .val (.ref ob7), .val (.ref ob9), .val (.ref ob11), .val (.ref ob13), .val (.int (1 : Int32)), .val (.int (3 : Int32)), .val (.int (1 : Int32)), .val (.int (1 : Int32)), .val (.int (0 : Int32)), .unset] []) _ _ _
      refine own_to (fun t k => XS.iload X32.here hx rfl (hb hby at_210) rfl k) ?_
      show own_Out p e below _ T32 (mkF m 212 #[.val (.int x0), .val (.int x1), .val (.int x2), .val (.int x3), .val (.int x4), .val (.int kn), .val (.int r1), .val (.int c1), .val (.int r2), .val (.int c2), .val (.int q1), .val (.int q2), .val (.ref ob7), .val (.ref ob9), .val (.ref ob11), .val (.ref ob13), .val (.int (1 : Int32)), .val (.int (3 : Int32)), .val (.int (1 : Int32)), .val (.int (1 : Int32)), .val (.int (0 : Int32)), .unset] [(.int r2)]) _ _ _
      refine own_to (fun t k => XS.iload X32.here hx rfl (hb hby at_212) rfl k) ?_
      show own_Out p e below _ T32 (mkF m 214 #[.val (.int x0), .val (.int x1), .val (.int x2), .val (.int x3), .val (.int x4), .val (.int kn), .val (.int r1), .val (.int c1), .val (.int r2), .val (.int c2), .val (.int q1), .val (.int q2), .val (.ref ob7), .val (.ref ob9), .val (.ref ob11), .val (.ref ob13), .val (.int (1 : Int32)), .val (.int (3 : Int32)), .val (.int (1 : Int32)), .val (.int (1 : Int32)), .val (.int (0 : Int32)), .unset] [(.int c2), (.int r2)]) _ _ _
      refine own_to (fun t k => XS.iload X32.here hx rfl (hb hby at_214) rfl k) ?_
      show own_Out p e below _ T32 (mkF m 216 #[.val (.int x0), .val (.int x1), .val (.int x2), .val (.int x3), .val (.int x4), .val (.int kn), .val (.int r1), .val (.int c1), .val (.int r2), .val (.int c2), .val (.int q1), .val (.int q2), .val (.ref ob7), .val (.ref ob9), .val (.ref ob11), .val (.ref ob13), .val (.int (1 : Int32)), .val (.int (3 : Int32)), .val (.int (1 : Int32)), .val (.int (1 : Int32)), .val (.int (0 : Int32)), .unset] [(.int q1), (.int c2), (.int r2)]) _ _ _
      refine own_to (fun t k => XS.iload X32.here hx rfl (hb hby at_216) rfl k) ?_
      show own_Out p e below _ T32 (mkF m 218 #[.val (.int x0), .val (.int x1), .val (.int x2), .val (.int x3), .val (.int x4), .val (.int kn), .val (.int r1), .val (.int c1), .val (.int r2), .val (.int c2), .val (.int q1), .val (.int q2), .val (.ref ob7), .val (.ref ob9), .val (.ref ob11), .val (.ref ob13), .val (.int (1 : Int32)), .val (.int (3 : Int32)), .val (.int (1 : Int32)), .val (.int (1 : Int32)), .val (.int (0 : Int32)), .unset] [(.int q2), (.int q1), (.int c2), (.int r2)]) _ _ _
      refine own_callS X32 hx hZ hown (argsL := [(.int r2), (.int c2), (.int q1), (.int q2)]) (rest := []) (hw _ (List.mem_of_getElem? (i := 68) rfl)) (hw _ (List.mem_of_getElem? (i := 69) rfl)) (hw _ (List.mem_of_getElem? (i := 2) rfl)) (hw _ (List.mem_of_getElem? (i := 70) rfl)) (by decide) (rm12 l Z a0 hw r2 c2 q1 q2 hh31 n0 Z0 ) (by decide) (by decide) e32 rfl (by rw [hml]; rfl) (lenOf pd_8 rfl) rfl (W := 0) (by show 2 * 0 + _ ≤ _; exact Nat.le_of_eq rfl) (hb hby at_218) (by decide) (by decide) fun v36 T36 hh36 L36 X36 e36 hQ36 => ?_
      obtain ⟨rfl, NL36, he36⟩ := hQ36
      replace e36 := e36.trans he36
      have N36 := Fr.app N32 NL36
      show own_Out p e below _ T36 (mkF m 221 #[.val (.int x0), .val (.int x1), .val (.int x2), .val (.int x3), .val (.int x4), .val (.int kn), .val (.int r1), .val (.int c1), .val (.int r2), .val (.int c2), .val (.int q1), .val (.int q2), .val (.ref ob7), .val (.ref ob9), .val (.ref ob11), .val (.ref ob13), .val (.int (1 : Int32)), .val (.int (3 : Int32)), .val (.int (1 : Int32)), .val (.int (1 : Int32)), .val (.int (0 : Int32)), .unset] [(.int (R12 r2 c2 q1 q2))]) _ _ _
      by_cases hc221 : (R12 r2 c2 q1 q2) = (0 : Int32)
      · refine own_to (fun t k => XS.ifYes X36.here hx rfl (pc0 := 221) (pc' := 227) rfl (hb hby at_221) rfl ((if0 _ _).trans (teq hc221).1) (by decide) (by decide) k) ?_
        show own_Out p e below _ T36 (mkF m 227 #[.val (.int x0), .val (.int x1), .val (.int x2), .val (.int x3), .val (.int x4), .val (.int kn), .val (.int r1), .val (.int c1), .val (.int r2), .val (.int c2), .val (.int q1), .val (.int q2), .val (.ref ob7), .val (.ref ob9), .val (.ref ob11), .val (.ref ob13), .val (.int (1 : Int32)), .val (.int (3 : Int32)), .val (.int (1 : Int32)), .val (.int (1 : Int32)), .val (.int (0 : Int32)), .unset] []) _ _ _
        refine own_to (fun t k => XS.aload X36.here hx rfl (hb hby at_227) rfl rfl k) ?_
        show own_Out p e below _ T36 (mkF m 229 #[.val (.int x0), .val (.int x1), .val (.int x2), .val (.int x3), .val (.int x4), .val (.int kn), .val (.int r1), .val (.int c1), .val (.int r2), .val (.int c2), .val (.int q1), .val (.int q2), .val (.ref ob7), .val (.ref ob9), .val (.ref ob11), .val (.ref ob13), .val (.int (1 : Int32)), .val (.int (3 : Int32)), .val (.int (1 : Int32)), .val (.int (1 : Int32)), .val (.int (0 : Int32)), .unset] [(.ref ob13)]) _ _ _
        refine own_to (fun t k => XS.aload X36.here hx rfl (hb hby at_229) rfl rfl k) ?_
        show own_Out p e below _ T36 (mkF m 231 #[.val (.int x0), .val (.int x1), .val (.int x2), .val (.int x3), .val (.int x4), .val (.int kn), .val (.int r1), .val (.int c1), .val (.int r2), .val (.int c2), .val (.int q1), .val (.int q2), .val (.ref ob7), .val (.ref ob9), .val (.ref ob11), .val (.ref ob13), .val (.int (1 : Int32)), .val (.int (3 : Int32)), .val (.int (1 : Int32)), .val (.int (1 : Int32)), .val (.int (0 : Int32)), .unset] [(.ref ob11), (.ref ob13)]) _ _ _
        refine own_callV X36 hx hZ hown (a := ob13) (argsL := [(.ref ob11)]) (rest := []) (hw _ (List.mem_of_getElem? (i := 39) rfl)) (hw _ (List.mem_of_getElem? (i := 40) rfl)) (hw _ (List.mem_of_getElem? (i := 42) rfl)) (hw _ (List.mem_of_getElem? (i := 41) rfl)) (hw _ (List.mem_of_getElem? (i := 25) rfl)) (hw _ (List.mem_of_getElem? (i := 43) rfl)) (by decide) (rm6 l Z a0 hw ob13 ob11 q1 q2 kn ob14ar ob14ad ob14au (own_upd (own_upd (fun _ => 0) (r1.toNatClampNeg) (nar .boolean (1 : Int32))) (r2.toNatClampNeg) (nar .boolean (1 : Int32))) (own_upd (own_upd (fun _ => 0) (((r1 - c1) + kn).toNatClampNeg) (nar .boolean (1 : Int32))) (((r2 - c2) + kn).toNatClampNeg) (nar .boolean (1 : Int32))) (own_upd (own_upd (fun _ => 0) ((r1 + c1).toNatClampNeg) (nar .boolean (1 : Int32))) ((r2 + c2).toNatClampNeg) (nar .boolean (1 : Int32))) hh31 n0 Z0 E_ob13 E_ob11 F_ob11_row F_ob11_column F_ob13_size F_ob13_rows F_ob13_downs F_ob13_ups A_ob14ar A_ob14ad A_ob14au bn b_q1 b_q2) (by decide) (by decide) e36 E_ob13 rfl (by rw [hml]; rfl) (lenOf pd_6 rfl) rfl (W := 0) (by show 2 * 0 + _ ≤ _; exact Nat.le_of_eq rfl) (hb hby at_231) (by decide) (by decide) fun v37 T37 hh37 L37 X37 e37 hQ37 => ?_
        obtain ⟨rfl, NL37, he37⟩ := hQ37
        replace e37 := e37.trans he37
        have N37 := Fr.app N36 NL37
        show own_Out p e below _ T37 (mkF m 234 #[.val (.int x0), .val (.int x1), .val (.int x2), .val (.int x3), .val (.int x4), .val (.int kn), .val (.int r1), .val (.int c1), .val (.int r2), .val (.int c2), .val (.int q1), .val (.int q2), .val (.ref ob7), .val (.ref ob9), .val (.ref ob11), .val (.ref ob13), .val (.int (1 : Int32)), .val (.int (3 : Int32)), .val (.int (1 : Int32)), .val (.int (1 : Int32)), .val (.int (0 : Int32)), .unset] [(.int (R6 ob13 ob11 q1 q2 kn ob14ar ob14ad ob14au (own_upd (own_upd (fun _ => 0) (r1.toNatClampNeg) (nar .boolean (1 : Int32))) (r2.toNatClampNeg) (nar .boolean (1 : Int32))) (own_upd (own_upd (fun _ => 0) (((r1 - c1) + kn).toNatClampNeg) (nar .boolean (1 : Int32))) (((r2 - c2) + kn).toNatClampNeg) (nar .boolean (1 : Int32))) (own_upd (own_upd (fun _ => 0) ((r1 + c1).toNatClampNeg) (nar .boolean (1 : Int32))) ((r2 + c2).toNatClampNeg) (nar .boolean (1 : Int32)))))]) _ _ _
        rw [own_free2 _ _ q1 q2 kn _ _ _ r1 c1 r2 c2 bn b_q1 b_q2 b_r1 b_c1 b_r2 b_c2]
        rw [if_neg hc199]
        show own_Out p e below _ T37 (mkF m 234 #[.val (.int x0), .val (.int x1), .val (.int x2), .val (.int x3), .val (.int x4), .val (.int kn), .val (.int r1), .val (.int c1), .val (.int r2), .val (.int c2), .val (.int q1), .val (.int q2), .val (.ref ob7), .val (.ref ob9), .val (.ref ob11), .val (.ref ob13), .val (.int (1 : Int32)), .val (.int (3 : Int32)), .val (.int (1 : Int32)), .val (.int (1 : Int32)), .val (.int (0 : Int32)), .unset] [(.int (0 : Int32))]) _ _ _
        refine own_to (fun t k => XS.istore X37.here hx rfl (hb hby at_234) rfl (l' := #[.val (.int x0), .val (.int x1), .val (.int x2), .val (.int x3), .val (.int x4), .val (.int kn), .val (.int r1), .val (.int c1), .val (.int r2), .val (.int c2), .val (.int q1), .val (.int q2), .val (.ref ob7), .val (.ref ob9), .val (.ref ob11), .val (.ref ob13), .val (.int (1 : Int32)), .val (.int (3 : Int32)), .val (.int (1 : Int32)), .val (.int (1 : Int32)), .val (.int (0 : Int32)), .val (.int (0 : Int32))]) rfl k) ?_
        show own_Out p e below _ T37 (mkF m 236 #[.val (.int x0), .val (.int x1), .val (.int x2), .val (.int x3), .val (.int x4), .val (.int kn), .val (.int r1), .val (.int c1), .val (.int r2), .val (.int c2), .val (.int q1), .val (.int q2), .val (.ref ob7), .val (.ref ob9), .val (.ref ob11), .val (.ref ob13), .val (.int (1 : Int32)), .val (.int (3 : Int32)), .val (.int (1 : Int32)), .val (.int (1 : Int32)), .val (.int (0 : Int32)), .val (.int (0 : Int32))] []) _ _ _
        refine own_to (fun t k => XS.iload X37.here hx rfl (hb hby at_236) rfl k) ?_
        show own_Out p e below _ T37 (mkF m 238 #[.val (.int x0), .val (.int x1), .val (.int x2), .val (.int x3), .val (.int x4), .val (.int kn), .val (.int r1), .val (.int c1), .val (.int r2), .val (.int c2), .val (.int q1), .val (.int q2), .val (.ref ob7), .val (.ref ob9), .val (.ref ob11), .val (.ref ob13), .val (.int (1 : Int32)), .val (.int (3 : Int32)), .val (.int (1 : Int32)), .val (.int (1 : Int32)), .val (.int (0 : Int32)), .val (.int (0 : Int32))] [(.int (1 : Int32))]) _ _ _
        have hc238 : ¬ ((1 : Int32) = (0 : Int32)) := by decide
        refine own_to (fun t k => XS.ifNo X37.here hx rfl (hb hby at_238) rfl ((if0 _ _).trans (feq hc238).1) k) ?_
        show own_Out p e below _ T37 (mkF m 241 #[.val (.int x0), .val (.int x1), .val (.int x2), .val (.int x3), .val (.int x4), .val (.int kn), .val (.int r1), .val (.int c1), .val (.int r2), .val (.int c2), .val (.int q1), .val (.int q2), .val (.ref ob7), .val (.ref ob9), .val (.ref ob11), .val (.ref ob13), .val (.int (1 : Int32)), .val (.int (3 : Int32)), .val (.int (1 : Int32)), .val (.int (1 : Int32)), .val (.int (0 : Int32)), .val (.int (0 : Int32))] []) _ _ _
        refine own_to (fun t k => XS.iload X37.here hx rfl (hb hby at_241) rfl k) ?_
        show own_Out p e below _ T37 (mkF m 243 #[.val (.int x0), .val (.int x1), .val (.int x2), .val (.int x3), .val (.int x4), .val (.int kn), .val (.int r1), .val (.int c1), .val (.int r2), .val (.int c2), .val (.int q1), .val (.int q2), .val (.ref ob7), .val (.ref ob9), .val (.ref ob11), .val (.ref ob13), .val (.int (1 : Int32)), .val (.int (3 : Int32)), .val (.int (1 : Int32)), .val (.int (1 : Int32)), .val (.int (0 : Int32)), .val (.int (0 : Int32))] [(.int (0 : Int32))]) _ _ _
        refine own_to (fun t k => XS.iload X37.here hx rfl (hb hby at_243) rfl k) ?_
        show own_Out p e below _ T37 (mkF m 245 #[.val (.int x0), .val (.int x1), .val (.int x2), .val (.int x3), .val (.int x4), .val (.int kn), .val (.int r1), .val (.int c1), .val (.int r2), .val (.int c2), .val (.int q1), .val (.int q2), .val (.ref ob7), .val (.ref ob9), .val (.ref ob11), .val (.ref ob13), .val (.int (1 : Int32)), .val (.int (3 : Int32)), .val (.int (1 : Int32)), .val (.int (1 : Int32)), .val (.int (0 : Int32)), .val (.int (0 : Int32))] [(.int (0 : Int32)), (.int (0 : Int32))]) _ _ _
        have hc245 : (0 : Int32) = (0 : Int32) := by decide
        refine own_to (fun t k => XS.icmpNo X37.here hx rfl (hb hby at_245) rfl (teq hc245).2 k) ?_
        show own_Out p e below _ T37 (mkF m 248 #[.val (.int x0), .val (.int x1), .val (.int x2), .val (.int x3), .val (.int x4), .val (.int kn), .val (.int r1), .val (.int c1), .val (.int r2), .val (.int c2), .val (.int q1), .val (.int q2), .val (.ref ob7), .val (.ref ob9), .val (.ref ob11), .val (.ref ob13), .val (.int (1 : Int32)), .val (.int (3 : Int32)), .val (.int (1 : Int32)), .val (.int (1 : Int32)), .val (.int (0 : Int32)), .val (.int (0 : Int32))] []) _ _ _
        refine own_to (fun t k => XS.iconst X37.here hx rfl (hb hby at_248) k) ?_
        show own_Out p e below _ T37 (mkF m 249 #[.val (.int x0), .val (.int x1), .val (.int x2), .val (.int x3), .val (.int x4), .val (.int kn), .val (.int r1), .val (.int c1), .val (.int r2), .val (.int c2), .val (.int q1), .val (.int q2), .val (.ref ob7), .val (.ref ob9), .val (.ref ob11), .val (.ref ob13), .val (.int (1 : Int32)), .val (.int (3 : Int32)), .val (.int (1 : Int32)), .val (.int (1 : Int32)), .val (.int (0 : Int32)), .val (.int (0 : Int32))] [(.int (1 : Int32))]) _ _ _
        refine own_to (fun t k => XS.goto X37.here hx rfl (pc0 := 249) (pc' := 253) rfl (hb hby at_249) (by decide) (by decide) k) ?_
        show own_Out p e below _ T37 (mkF m 253 #[.val (.int x0), .val (.int x1), .val (.int x2), .val (.int x3), .val (.int x4), .val (.int kn), .val (.int r1), .val (.int c1), .val (.int r2), .val (.int c2), .val (.int q1), .val (.int q2), .val (.ref ob7), .val (.ref ob9), .val (.ref ob11), .val (.ref ob13), .val (.int (1 : Int32)), .val (.int (3 : Int32)), .val (.int (1 : Int32)), .val (.int (1 : Int32)), .val (.int (0 : Int32)), .val (.int (0 : Int32))] [(.int (1 : Int32))]) _ _ _
        refine own_retV X37 hx hlk (w := .int (1 : Int32)) hret rfl (Or.inl ⟨rfl, by simp, _, rfl⟩) (hb hby at_253) (by decide) (by decide) ?_
        rw [e37]
        exact ⟨rfl, N37⟩
      · refine own_to (fun t k => XS.ifNo X36.here hx rfl (hb hby at_221) rfl ((if0 _ _).trans (feq hc221).1) k) ?_
        show own_Out p e below _ T36 (mkF m 224 #[.val (.int x0), .val (.int x1), .val (.int x2), .val (.int x3), .val (.int x4), .val (.int kn), .val (.int r1), .val (.int c1), .val (.int r2), .val (.int c2), .val (.int q1), .val (.int q2), .val (.ref ob7), .val (.ref ob9), .val (.ref ob11), .val (.ref ob13), .val (.int (1 : Int32)), .val (.int (3 : Int32)), .val (.int (1 : Int32)), .val (.int (1 : Int32)), .val (.int (0 : Int32)), .unset] []) _ _ _
        refine own_to (fun t k => XS.iconst X36.here hx rfl (hb hby at_224) k) ?_
        show own_Out p e below _ T36 (mkF m 225 #[.val (.int x0), .val (.int x1), .val (.int x2), .val (.int x3), .val (.int x4), .val (.int kn), .val (.int r1), .val (.int c1), .val (.int r2), .val (.int c2), .val (.int q1), .val (.int q2), .val (.ref ob7), .val (.ref ob9), .val (.ref ob11), .val (.ref ob13), .val (.int (1 : Int32)), .val (.int (3 : Int32)), .val (.int (1 : Int32)), .val (.int (1 : Int32)), .val (.int (0 : Int32)), .unset] [(.int (0 : Int32))]) _ _ _
        refine own_to (fun t k => XS.istore X36.here hx rfl (hb hby at_225) rfl (l' := #[.val (.int x0), .val (.int x1), .val (.int x2), .val (.int x3), .val (.int x4), .val (.int kn), .val (.int r1), .val (.int c1), .val (.int r2), .val (.int c2), .val (.int q1), .val (.int q2), .val (.ref ob7), .val (.ref ob9), .val (.ref ob11), .val (.ref ob13), .val (.int (1 : Int32)), .val (.int (3 : Int32)), .val (.int (1 : Int32)), .val (.int (1 : Int32)), .val (.int (0 : Int32)), .unset]) rfl k) ?_
        show own_Out p e below _ T36 (mkF m 227 #[.val (.int x0), .val (.int x1), .val (.int x2), .val (.int x3), .val (.int x4), .val (.int kn), .val (.int r1), .val (.int c1), .val (.int r2), .val (.int c2), .val (.int q1), .val (.int q2), .val (.ref ob7), .val (.ref ob9), .val (.ref ob11), .val (.ref ob13), .val (.int (1 : Int32)), .val (.int (3 : Int32)), .val (.int (1 : Int32)), .val (.int (1 : Int32)), .val (.int (0 : Int32)), .unset] []) _ _ _
        refine own_to (fun t k => XS.aload X36.here hx rfl (hb hby at_227) rfl rfl k) ?_
        show own_Out p e below _ T36 (mkF m 229 #[.val (.int x0), .val (.int x1), .val (.int x2), .val (.int x3), .val (.int x4), .val (.int kn), .val (.int r1), .val (.int c1), .val (.int r2), .val (.int c2), .val (.int q1), .val (.int q2), .val (.ref ob7), .val (.ref ob9), .val (.ref ob11), .val (.ref ob13), .val (.int (1 : Int32)), .val (.int (3 : Int32)), .val (.int (1 : Int32)), .val (.int (1 : Int32)), .val (.int (0 : Int32)), .unset] [(.ref ob13)]) _ _ _
        refine own_to (fun t k => XS.aload X36.here hx rfl (hb hby at_229) rfl rfl k) ?_
        show own_Out p e below _ T36 (mkF m 231 #[.val (.int x0), .val (.int x1), .val (.int x2), .val (.int x3), .val (.int x4), .val (.int kn), .val (.int r1), .val (.int c1), .val (.int r2), .val (.int c2), .val (.int q1), .val (.int q2), .val (.ref ob7), .val (.ref ob9), .val (.ref ob11), .val (.ref ob13), .val (.int (1 : Int32)), .val (.int (3 : Int32)), .val (.int (1 : Int32)), .val (.int (1 : Int32)), .val (.int (0 : Int32)), .unset] [(.ref ob11), (.ref ob13)]) _ _ _
        refine own_callV X36 hx hZ hown (a := ob13) (argsL := [(.ref ob11)]) (rest := []) (hw _ (List.mem_of_getElem? (i := 39) rfl)) (hw _ (List.mem_of_getElem? (i := 40) rfl)) (hw _ (List.mem_of_getElem? (i := 42) rfl)) (hw _ (List.mem_of_getElem? (i := 41) rfl)) (hw _ (List.mem_of_getElem? (i := 25) rfl)) (hw _ (List.mem_of_getElem? (i := 43) rfl)) (by decide) (rm6 l Z a0 hw ob13 ob11 q1 q2 kn ob14ar ob14ad ob14au (own_upd (own_upd (fun _ => 0) (r1.toNatClampNeg) (nar .boolean (1 : Int32))) (r2.toNatClampNeg) (nar .boolean (1 : Int32))) (own_upd (own_upd (fun _ => 0) (((r1 - c1) + kn).toNatClampNeg) (nar .boolean (1 : Int32))) (((r2 - c2) + kn).toNatClampNeg) (nar .boolean (1 : Int32))) (own_upd (own_upd (fun _ => 0) ((r1 + c1).toNatClampNeg) (nar .boolean (1 : Int32))) ((r2 + c2).toNatClampNeg) (nar .boolean (1 : Int32))) hh31 n0 Z0 E_ob13 E_ob11 F_ob11_row F_ob11_column F_ob13_size F_ob13_rows F_ob13_downs F_ob13_ups A_ob14ar A_ob14ad A_ob14au bn b_q1 b_q2) (by decide) (by decide) e36 E_ob13 rfl (by rw [hml]; rfl) (lenOf pd_6 rfl) rfl (W := 0) (by show 2 * 0 + _ ≤ _; exact Nat.le_of_eq rfl) (hb hby at_231) (by decide) (by decide) fun v38 T38 hh38 L38 X38 e38 hQ38 => ?_
        obtain ⟨rfl, NL38, he38⟩ := hQ38
        replace e38 := e38.trans he38
        have N38 := Fr.app N36 NL38
        show own_Out p e below _ T38 (mkF m 234 #[.val (.int x0), .val (.int x1), .val (.int x2), .val (.int x3), .val (.int x4), .val (.int kn), .val (.int r1), .val (.int c1), .val (.int r2), .val (.int c2), .val (.int q1), .val (.int q2), .val (.ref ob7), .val (.ref ob9), .val (.ref ob11), .val (.ref ob13), .val (.int (1 : Int32)), .val (.int (3 : Int32)), .val (.int (1 : Int32)), .val (.int (1 : Int32)), .val (.int (0 : Int32)), .unset] [(.int (R6 ob13 ob11 q1 q2 kn ob14ar ob14ad ob14au (own_upd (own_upd (fun _ => 0) (r1.toNatClampNeg) (nar .boolean (1 : Int32))) (r2.toNatClampNeg) (nar .boolean (1 : Int32))) (own_upd (own_upd (fun _ => 0) (((r1 - c1) + kn).toNatClampNeg) (nar .boolean (1 : Int32))) (((r2 - c2) + kn).toNatClampNeg) (nar .boolean (1 : Int32))) (own_upd (own_upd (fun _ => 0) ((r1 + c1).toNatClampNeg) (nar .boolean (1 : Int32))) ((r2 + c2).toNatClampNeg) (nar .boolean (1 : Int32)))))]) _ _ _
        rw [own_free2 _ _ q1 q2 kn _ _ _ r1 c1 r2 c2 bn b_q1 b_q2 b_r1 b_c1 b_r2 b_c2]
        rw [if_neg hc199]
        show own_Out p e below _ T38 (mkF m 234 #[.val (.int x0), .val (.int x1), .val (.int x2), .val (.int x3), .val (.int x4), .val (.int kn), .val (.int r1), .val (.int c1), .val (.int r2), .val (.int c2), .val (.int q1), .val (.int q2), .val (.ref ob7), .val (.ref ob9), .val (.ref ob11), .val (.ref ob13), .val (.int (1 : Int32)), .val (.int (3 : Int32)), .val (.int (1 : Int32)), .val (.int (1 : Int32)), .val (.int (0 : Int32)), .unset] [(.int (0 : Int32))]) _ _ _
        refine own_to (fun t k => XS.istore X38.here hx rfl (hb hby at_234) rfl (l' := #[.val (.int x0), .val (.int x1), .val (.int x2), .val (.int x3), .val (.int x4), .val (.int kn), .val (.int r1), .val (.int c1), .val (.int r2), .val (.int c2), .val (.int q1), .val (.int q2), .val (.ref ob7), .val (.ref ob9), .val (.ref ob11), .val (.ref ob13), .val (.int (1 : Int32)), .val (.int (3 : Int32)), .val (.int (1 : Int32)), .val (.int (1 : Int32)), .val (.int (0 : Int32)), .val (.int (0 : Int32))]) rfl k) ?_
        show own_Out p e below _ T38 (mkF m 236 #[.val (.int x0), .val (.int x1), .val (.int x2), .val (.int x3), .val (.int x4), .val (.int kn), .val (.int r1), .val (.int c1), .val (.int r2), .val (.int c2), .val (.int q1), .val (.int q2), .val (.ref ob7), .val (.ref ob9), .val (.ref ob11), .val (.ref ob13), .val (.int (1 : Int32)), .val (.int (3 : Int32)), .val (.int (1 : Int32)), .val (.int (1 : Int32)), .val (.int (0 : Int32)), .val (.int (0 : Int32))] []) _ _ _
        refine own_to (fun t k => XS.iload X38.here hx rfl (hb hby at_236) rfl k) ?_
        show own_Out p e below _ T38 (mkF m 238 #[.val (.int x0), .val (.int x1), .val (.int x2), .val (.int x3), .val (.int x4), .val (.int kn), .val (.int r1), .val (.int c1), .val (.int r2), .val (.int c2), .val (.int q1), .val (.int q2), .val (.ref ob7), .val (.ref ob9), .val (.ref ob11), .val (.ref ob13), .val (.int (1 : Int32)), .val (.int (3 : Int32)), .val (.int (1 : Int32)), .val (.int (1 : Int32)), .val (.int (0 : Int32)), .val (.int (0 : Int32))] [(.int (1 : Int32))]) _ _ _
        have hc238 : ¬ ((1 : Int32) = (0 : Int32)) := by decide
        refine own_to (fun t k => XS.ifNo X38.here hx rfl (hb hby at_238) rfl ((if0 _ _).trans (feq hc238).1) k) ?_
        show own_Out p e below _ T38 (mkF m 241 #[.val (.int x0), .val (.int x1), .val (.int x2), .val (.int x3), .val (.int x4), .val (.int kn), .val (.int r1), .val (.int c1), .val (.int r2), .val (.int c2), .val (.int q1), .val (.int q2), .val (.ref ob7), .val (.ref ob9), .val (.ref ob11), .val (.ref ob13), .val (.int (1 : Int32)), .val (.int (3 : Int32)), .val (.int (1 : Int32)), .val (.int (1 : Int32)), .val (.int (0 : Int32)), .val (.int (0 : Int32))] []) _ _ _
        refine own_to (fun t k => XS.iload X38.here hx rfl (hb hby at_241) rfl k) ?_
        show own_Out p e below _ T38 (mkF m 243 #[.val (.int x0), .val (.int x1), .val (.int x2), .val (.int x3), .val (.int x4), .val (.int kn), .val (.int r1), .val (.int c1), .val (.int r2), .val (.int c2), .val (.int q1), .val (.int q2), .val (.ref ob7), .val (.ref ob9), .val (.ref ob11), .val (.ref ob13), .val (.int (1 : Int32)), .val (.int (3 : Int32)), .val (.int (1 : Int32)), .val (.int (1 : Int32)), .val (.int (0 : Int32)), .val (.int (0 : Int32))] [(.int (0 : Int32))]) _ _ _
        refine own_to (fun t k => XS.iload X38.here hx rfl (hb hby at_243) rfl k) ?_
        show own_Out p e below _ T38 (mkF m 245 #[.val (.int x0), .val (.int x1), .val (.int x2), .val (.int x3), .val (.int x4), .val (.int kn), .val (.int r1), .val (.int c1), .val (.int r2), .val (.int c2), .val (.int q1), .val (.int q2), .val (.ref ob7), .val (.ref ob9), .val (.ref ob11), .val (.ref ob13), .val (.int (1 : Int32)), .val (.int (3 : Int32)), .val (.int (1 : Int32)), .val (.int (1 : Int32)), .val (.int (0 : Int32)), .val (.int (0 : Int32))] [(.int (0 : Int32)), (.int (0 : Int32))]) _ _ _
        have hc245 : (0 : Int32) = (0 : Int32) := by decide
        refine own_to (fun t k => XS.icmpNo X38.here hx rfl (hb hby at_245) rfl (teq hc245).2 k) ?_
        show own_Out p e below _ T38 (mkF m 248 #[.val (.int x0), .val (.int x1), .val (.int x2), .val (.int x3), .val (.int x4), .val (.int kn), .val (.int r1), .val (.int c1), .val (.int r2), .val (.int c2), .val (.int q1), .val (.int q2), .val (.ref ob7), .val (.ref ob9), .val (.ref ob11), .val (.ref ob13), .val (.int (1 : Int32)), .val (.int (3 : Int32)), .val (.int (1 : Int32)), .val (.int (1 : Int32)), .val (.int (0 : Int32)), .val (.int (0 : Int32))] []) _ _ _
        refine own_to (fun t k => XS.iconst X38.here hx rfl (hb hby at_248) k) ?_
        show own_Out p e below _ T38 (mkF m 249 #[.val (.int x0), .val (.int x1), .val (.int x2), .val (.int x3), .val (.int x4), .val (.int kn), .val (.int r1), .val (.int c1), .val (.int r2), .val (.int c2), .val (.int q1), .val (.int q2), .val (.ref ob7), .val (.ref ob9), .val (.ref ob11), .val (.ref ob13), .val (.int (1 : Int32)), .val (.int (3 : Int32)), .val (.int (1 : Int32)), .val (.int (1 : Int32)), .val (.int (0 : Int32)), .val (.int (0 : Int32))] [(.int (1 : Int32))]) _ _ _
        refine own_to (fun t k => XS.goto X38.here hx rfl (pc0 := 249) (pc' := 253) rfl (hb hby at_249) (by decide) (by decide) k) ?_
        show own_Out p e below _ T38 (mkF m 253 #[.val (.int x0), .val (.int x1), .val (.int x2), .val (.int x3), .val (.int x4), .val (.int kn), .val (.int r1), .val (.int c1), .val (.int r2), .val (.int c2), .val (.int q1), .val (.int q2), .val (.ref ob7), .val (.ref ob9), .val (.ref ob11), .val (.ref ob13), .val (.int (1 : Int32)), .val (.int (3 : Int32)), .val (.int (1 : Int32)), .val (.int (1 : Int32)), .val (.int (0 : Int32)), .val (.int (0 : Int32))] [(.int (1 : Int32))]) _ _ _
        refine own_retV X38 hx hlk (w := .int (1 : Int32)) hret rfl (Or.inl ⟨rfl, by simp, _, rfl⟩) (hb hby at_253) (by decide) (by decide) ?_
        rw [e38]
        exact ⟨rfl, N38⟩
set_option maxRecDepth 65536 in
set_option maxHeartbeats 40000000 in
theorem comes_1 {Post : Tables → Env → Array Value → State → Outcome → State → Prop} (hpost : ∀ tb e args s v u, (limb_1_1.after args s (.returned v) u = true ∧ limb_1_2.after args s (.returned v) u = true ∧ True) → FrameEnd s (.returned v) u (Jvm.fieldLocs frame_1_writes args s ++ Jvm.arrayLocs frame_1_arrays args s ++ Jvm.staticLocs frame_1_statics s) 24 256 → Post tb e args s (.returned v) u) :
    ArmFor flags0 classFile x code maxLocals ret World_1 tables_1 room_1 Calls_1 rest_1 Pre_1 Post := by
  intro l hfl _ _ p e ha hc hk s m args below hf hA hF happ hP
  obtain ⟨hcalls, hrest, hpre⟩ := hP
  obtain ⟨-, -, -, hnamed, -, -, -, hat⟩ := (Spec.applies_iff hf).mp happ
  obtain ⟨hg, hn⟩ := and_e (Cond.before_iff.mp (show (Jvm.Cond.and given_1 narrow_1).before args s = true from hpre))
  obtain ⟨gg2, gg3⟩ := and_e hg
  obtain ⟨gg4, gg5⟩ := and_e gg3
  obtain ⟨gg6, gg7⟩ := and_e gg5
  obtain ⟨gg8, gg9⟩ := and_e gg7
  obtain ⟨gg10, gg11⟩ := and_e gg9
  obtain ⟨w0, w1, w2, w3, w4, rfl⟩ : ∃ w0 w1 w2 w3 w4 : Value, args = #[w0, w1, w2, w3, w4] := by
    have hs : args.size = 5 := by simpa [Cond.value, given_1] using gg2
    obtain ⟨L⟩ := args
    match L, hs with
    | [w0, w1, w2, w3, w4], _ => exact ⟨w0, w1, w2, w3, w4, rfl⟩
  have hw := fun d (hd : d ∈ tables_1) => atoms_spec (ws := Jvm.Cond.code x code maxLocals ret :: tables_1) hat d (List.mem_cons_of_mem _ hd)
  have hfit : Fit s := fun {y c} hc i hi => by
    obtain ⟨ha, rfl⟩ := Array.getElem?_eq_some_iff.mp hc
    have q := List.all_eq_true.mp ((Array.all_eq_true_iff_forall_mem.mp hF) _ (Array.getElem_mem ha)) i (List.mem_range.mpr hi)
    simpa [Array.getElem?_eq_getElem hi] using q
  obtain ⟨i0, ei0⟩ := is_v gg4
  obtain rfl : w0 = (.int i0) := Option.some.inj ei0
  obtain ⟨i1, ei1⟩ := is_v gg6
  obtain rfl : w1 = (.int i1) := Option.some.inj ei1
  obtain ⟨i2, ei2⟩ := is_v gg8
  obtain rfl : w2 = (.int i2) := Option.some.inj ei2
  obtain ⟨i3, ei3⟩ := is_v gg10
  obtain rfl : w3 = (.int i3) := Option.some.inj ei3
  obtain ⟨i4, ei4⟩ := is_v gg11
  obtain rfl : w4 = (.int i4) := Option.some.inj ei4
  obtain ⟨n, o, h1, h2, h3, _, L, rfl, ⟨rfl, N⟩, hq⟩ := rm0 l s _ hw i0 i1 i2 i3 i4 s.heap s.heap.size (Nat.le_refl _) tables_1 p e ha hc hk s m _ below hf ((Spec.applies_iff_loose hf).mp happ).1 ⟨rfl, State.Warmed39.refl s, rfl⟩ trivial
  refine ⟨n, _, h1, h2, h3, hpost _ _ _ _ _ _ ⟨Cond.after_iff.mpr rfl, Cond.after_iff.mpr (eq_i res_at (Term.int_eval (1)) rfl), trivial⟩ ⟨hq.1, hq.2.1, (hq.2.2.sift fun y hy => Or.inr (N y hy)).mono (by decide) (by decide)⟩⟩
theorem main_1_1 : Claimed_1_1 := comes_1 fun _ _ _ _ _ _ h hF => ⟨h.1, hF⟩
theorem main_1_2 : Claimed_1_2 := comes_1 fun _ _ _ _ _ _ h hF => ⟨h.2.1, hF⟩
end Jvm.Pilot.@@N@@
namespace Jvm.Pilot.@@N@@
open Jvm Jvm.ClassFile Sem Op Lib Jvm.Free Jvm.Stand Jvm.Pilot.@@N@@.Jvm.D
/-! MADE BY PROGRAM (witnessworld.py) out of the Statement's table words and the real class files: 13 classes; the members and pool entries that the words name. The judged class is class 1, her method 1. -/
namespace start1
open Jvm.ClassFile
def u (s : String) : CpInfo := .utf8 (stringToUtf16 s)
/-- a pool by its gaps: so many unusable entries, then the entry; so many at the end -/
def gap : Nat → List CpInfo → List CpInfo
  | 0, r => r
  | n + 1, r => .unusable :: gap n r
def poolList (es : List (Nat × CpInfo)) (last : Nat) : List CpInfo := es.foldr (fun e r => gap e.1 (e.2 :: r)) (gap last [])
def pool (es : List (Nat × CpInfo)) (last : Nat) : Array CpInfo := ⟨poolList es last⟩
def fileOf (pool : Array CpInfo) (this : Nat) (attrs : Array Attribute := #[]) (ms : Array MethodInfo := #[]) (fl : Nat := 33) (sup : Nat := 0) (ifs : Array Nat := #[]) (fds : Array FieldInfo := #[]) : ClassFile where
  minorVersion := 0
  majorVersion := 65
  constantPool := pool
  accessFlags := fl
  thisClass := this
  superClass := sup
  interfaces := ifs
  fields := fds
  methods := ms
  attributes := attrs
def plain (name : String) (sup : Option ClassId) : Class where
  name := name
  kind := .ordinary
  loader := none
  accessFlags := 33
  super := sup
  interfaces := #[]
  cf := none
  fields := #[]
  methods := #[]
  instanceTypes := #[]
  staticTypes := #[]
  resolved := #[]
  callSites := []
  init := .initialized
  statics := none
  mirror := none

def pool0 : Array CpInfo := pool [(5, u "<init>"), (0, u "()V"), (1, .class_ 10), (1, u "java/lang/Object")] 113

def k0c0 : Code := { maxStack := 0, maxLocals := 1, code := object_method_1_code, exceptionTable := #[], attributes := #[] }
def k0m0 : Method := { name := "<init>", desc := "()V", sig := { parameters := [], returnType := none }, accessFlags := 1, code := some k0c0 }
/-- java/lang/Object -/
def k0 : Class := { plain "java/lang/Object" none with
  accessFlags := 33
  interfaces := #[]
  cf := some (fileOf pool0 8 #[] #[{ accessFlags := 1, nameIndex := 5, descriptorIndex := 6, attributes := #[] }] 33 0 #[] #[])
  fields := #[]
  methods := #[k0m0]
  instanceTypes := #[]
  staticTypes := #[]
  resolved := Array.replicate 124 none
  statics := none }

def pool1 : Array CpInfo := pool [(2, .class_ 4), (1, u "java/lang/Object"), (0, u "<init>"), (0, u "()V"), (0, .methodref 8 9), (0, .class_ 10), (0, .nameAndType 11 12), (0, u "com/example/queenside/queenside/LinesFreePinLaw"), (0, u "coord"), (0, u "(II)I"), (0, .class_ 14), (0, u "com/example/queenside/queenside/Square"), (0, .methodref 13 16), (0, .nameAndType 5 17), (0, u "(II)V"), (0, .class_ 19), (0, u "com/example/queenside/queenside/Lines"), (0, .methodref 18 21), (0, .nameAndType 5 22), (0, u "(I)V"), (0, .methodref 18 24), (0, .nameAndType 25 26), (0, u "free"), (0, u "(Lcom/example/queenside/queenside/Square;)Z"), (0, .methodref 18 28), (0, .nameAndType 29 30), (0, u "take"), (0, u "(Lcom/example/queenside/queenside/Square;)V"), (0, .methodref 8 32), (0, .nameAndType 33 34), (0, u "shares"), (0, u "(IIII)Z"), (0, .integer 65535), (2, u "law"), (0, u "(IIIII)Z")] 3

def k1m0 : Method := { name := "<init>", desc := "()V", sig := { parameters := [], returnType := none }, accessFlags := 1, code := none }
def k1c1 : Code := { maxStack := 4, maxLocals := 22, code := code, exceptionTable := #[], attributes := #[] }
def k1m1 : Method := { name := "law", desc := "(IIIII)Z", sig := { parameters := [.int, .int, .int, .int, .int], returnType := some .boolean }, accessFlags := 9, code := some k1c1 }
def k1c2 : Code := { maxStack := 3, maxLocals := 2, code := method_3_code, exceptionTable := #[], attributes := #[] }
def k1m2 : Method := { name := "coord", desc := "(II)I", sig := { parameters := [.int, .int], returnType := some .int }, accessFlags := 10, code := some k1c2 }
def k1c3 : Code := { maxStack := 3, maxLocals := 4, code := method_4_code, exceptionTable := #[], attributes := #[] }
def k1m3 : Method := { name := "shares", desc := "(IIII)Z", sig := { parameters := [.int, .int, .int, .int], returnType := some .boolean }, accessFlags := 10, code := some k1c3 }
/-- com/example/queenside/queenside/LinesFreePinLaw -/
def k1 : Class := { plain "com/example/queenside/queenside/LinesFreePinLaw" (some 0) with
  accessFlags := 49
  interfaces := #[]
  cf := some (fileOf pool1 8 #[] #[{ accessFlags := 1, nameIndex := 5, descriptorIndex := 6, attributes := #[] }, { accessFlags := 9, nameIndex := 38, descriptorIndex := 39, attributes := #[] }, { accessFlags := 10, nameIndex := 11, descriptorIndex := 12, attributes := #[] }, { accessFlags := 10, nameIndex := 33, descriptorIndex := 34, attributes := #[] }] 49 2 #[] #[])
  fields := #[]
  methods := #[k1m0, k1m1, k1m2, k1m3]
  instanceTypes := #[]
  staticTypes := #[]
  resolved := Array.replicate 43 none
  statics := none }

def pool2 : Array CpInfo := pool [(1, .methodref 2 3), (0, .class_ 4), (0, .nameAndType 5 6), (0, u "java/lang/Object"), (0, u "<init>"), (0, u "()V"), (0, .class_ 8), (0, u "java/lang/Record")] 13

def k2c0 : Code := { maxStack := 1, maxLocals := 1, code := jdk_30_method_1_code, exceptionTable := #[], attributes := #[] }
def k2m0 : Method := { name := "<init>", desc := "()V", sig := { parameters := [], returnType := none }, accessFlags := 4, code := some k2c0 }
/-- java/lang/Record -/
def k2 : Class := { plain "java/lang/Record" (some 0) with
  accessFlags := 1057
  interfaces := #[]
  cf := some (fileOf pool2 7 #[] #[{ accessFlags := 4, nameIndex := 5, descriptorIndex := 6, attributes := #[] }] 1057 2 #[] #[])
  fields := #[]
  methods := #[k2m0]
  instanceTypes := #[]
  staticTypes := #[]
  resolved := Array.replicate 22 none
  statics := none }

def pool3 : Array CpInfo := pool [(1, .methodref 2 3), (0, .class_ 4), (0, .nameAndType 5 6), (0, u "java/lang/Record"), (0, u "<init>"), (0, u "()V"), (0, .fieldref 8 9), (0, .class_ 10), (0, .nameAndType 11 12), (0, u "com/example/queenside/queenside/Square"), (0, u "row"), (0, u "I"), (0, .fieldref 8 14), (0, .nameAndType 15 12), (0, u "column"), (2, u "down"), (0, u "()I"), (2, u "up"), (12, u "(II)V")] 38

def k3c0 : Code := { maxStack := 2, maxLocals := 3, code := prog_15_method_1_code, exceptionTable := #[], attributes := #[] }
def k3m0 : Method := { name := "<init>", desc := "(II)V", sig := { parameters := [.int, .int], returnType := none }, accessFlags := 0, code := some k3c0 }
def k3c1 : Code := { maxStack := 2, maxLocals := 1, code := prog_15_method_3_code, exceptionTable := #[], attributes := #[] }
def k3m1 : Method := { name := "down", desc := "()I", sig := { parameters := [], returnType := some .int }, accessFlags := 0, code := some k3c1 }
def k3c2 : Code := { maxStack := 2, maxLocals := 1, code := prog_15_method_4_code, exceptionTable := #[], attributes := #[] }
def k3m2 : Method := { name := "up", desc := "()I", sig := { parameters := [], returnType := some .int }, accessFlags := 0, code := some k3c2 }
def k3c3 : Code := { maxStack := 1, maxLocals := 1, code := prog_15_method_8_code, exceptionTable := #[], attributes := #[] }
def k3m3 : Method := { name := "row", desc := "()I", sig := { parameters := [], returnType := some .int }, accessFlags := 1, code := some k3c3 }
/-- com/example/queenside/queenside/Square -/
def k3 : Class := { plain "com/example/queenside/queenside/Square" (some 2) with
  accessFlags := 48
  interfaces := #[]
  cf := some (fileOf pool3 8 #[] #[{ accessFlags := 0, nameIndex := 5, descriptorIndex := 35, attributes := #[] }, { accessFlags := 0, nameIndex := 18, descriptorIndex := 19, attributes := #[] }, { accessFlags := 0, nameIndex := 22, descriptorIndex := 19, attributes := #[] }, { accessFlags := 1, nameIndex := 11, descriptorIndex := 19, attributes := #[] }] 48 2 #[] #[{ accessFlags := 18, nameIndex := 11, descriptorIndex := 12, attributes := #[] }, { accessFlags := 18, nameIndex := 15, descriptorIndex := 12, attributes := #[] }])
  fields := #[{ name := "row", type := .int, accessFlags := 18, slot := 0, constantValue := 0 }, { name := "column", type := .int, accessFlags := 18, slot := 1, constantValue := 0 }]
  methods := #[k3m0, k3m1, k3m2, k3m3]
  instanceTypes := #[.int, .int]
  staticTypes := #[]
  resolved := Array.replicate 74 none
  statics := none }

def pool4 : Array CpInfo := pool [(1, .methodref 2 3), (0, .class_ 4), (0, .nameAndType 5 6), (0, u "java/lang/Object"), (0, u "<init>"), (0, u "()V"), (0, .fieldref 8 9), (0, .class_ 10), (0, .nameAndType 11 12), (0, u "com/example/queenside/queenside/Lines"), (0, u "size"), (0, u "I"), (0, .fieldref 8 14), (0, .nameAndType 15 16), (0, u "rows"), (0, u "[Z"), (0, .fieldref 8 18), (0, .nameAndType 19 16), (0, u "downs"), (0, .fieldref 8 21), (0, .nameAndType 22 16), (0, u "ups"), (0, .methodref 24 25), (0, .class_ 26), (0, .nameAndType 27 28), (0, u "com/example/queenside/queenside/Square"), (0, u "row"), (0, u "()I"), (0, .methodref 24 30), (0, .nameAndType 31 28), (0, u "down"), (0, .methodref 24 33), (0, .nameAndType 34 28), (0, u "up"), (0, .methodref 8 36), (0, .nameAndType 37 38), (0, u "mark"), (0, u "(Lcom/example/queenside/queenside/Square;Z)V"), (0, u "(I)V"), (2, u "free"), (0, u "(Lcom/example/queenside/queenside/Square;)Z"), (1, u "take"), (0, u "(Lcom/example/queenside/queenside/Square;)V")] 3

def k4c0 : Code := { maxStack := 3, maxLocals := 2, code := prog_5_method_1_code, exceptionTable := #[], attributes := #[] }
def k4m0 : Method := { name := "<init>", desc := "(I)V", sig := { parameters := [.int], returnType := none }, accessFlags := 0, code := some k4c0 }
def k4c1 : Code := { maxStack := 3, maxLocals := 2, code := prog_5_method_2_code, exceptionTable := #[], attributes := #[] }
def k4m1 : Method := { name := "free", desc := "(Lcom/example/queenside/queenside/Square;)Z", sig := { parameters := [(.object "com/example/queenside/queenside/Square")], returnType := some .boolean }, accessFlags := 0, code := some k4c1 }
def k4c2 : Code := { maxStack := 3, maxLocals := 2, code := prog_5_method_3_code, exceptionTable := #[], attributes := #[] }
def k4m2 : Method := { name := "take", desc := "(Lcom/example/queenside/queenside/Square;)V", sig := { parameters := [(.object "com/example/queenside/queenside/Square")], returnType := none }, accessFlags := 0, code := some k4c2 }
def k4c3 : Code := { maxStack := 3, maxLocals := 3, code := prog_5_method_5_code, exceptionTable := #[], attributes := #[] }
def k4m3 : Method := { name := "mark", desc := "(Lcom/example/queenside/queenside/Square;Z)V", sig := { parameters := [(.object "com/example/queenside/queenside/Square"), .boolean], returnType := none }, accessFlags := 2, code := some k4c3 }
/-- com/example/queenside/queenside/Lines -/
def k4 : Class := { plain "com/example/queenside/queenside/Lines" (some 0) with
  accessFlags := 48
  interfaces := #[]
  cf := some (fileOf pool4 8 #[] #[{ accessFlags := 0, nameIndex := 5, descriptorIndex := 39, attributes := #[] }, { accessFlags := 0, nameIndex := 42, descriptorIndex := 43, attributes := #[] }, { accessFlags := 0, nameIndex := 45, descriptorIndex := 46, attributes := #[] }, { accessFlags := 2, nameIndex := 37, descriptorIndex := 38, attributes := #[] }] 48 2 #[] #[{ accessFlags := 18, nameIndex := 11, descriptorIndex := 12, attributes := #[] }, { accessFlags := 18, nameIndex := 15, descriptorIndex := 16, attributes := #[] }, { accessFlags := 18, nameIndex := 19, descriptorIndex := 16, attributes := #[] }, { accessFlags := 18, nameIndex := 22, descriptorIndex := 16, attributes := #[] }])
  fields := #[{ name := "size", type := .int, accessFlags := 18, slot := 0, constantValue := 0 }, { name := "rows", type := (.array .boolean), accessFlags := 18, slot := 1, constantValue := 0 }, { name := "downs", type := (.array .boolean), accessFlags := 18, slot := 2, constantValue := 0 }, { name := "ups", type := (.array .boolean), accessFlags := 18, slot := 3, constantValue := 0 }]
  methods := #[k4m0, k4m1, k4m2, k4m3]
  instanceTypes := #[.int, (.array .boolean), (.array .boolean), (.array .boolean)]
  staticTypes := #[]
  resolved := Array.replicate 50 none
  statics := none }

def pool5 : Array CpInfo := pool [(1, u "java/lang/Cloneable"), (0, .class_ 1), (0, u "java/lang/Object"), (0, .class_ 3)] 3

/-- java/lang/Cloneable -/
def k5 : Class := { plain "java/lang/Cloneable" (some 0) with
  accessFlags := 1537
  interfaces := #[]
  cf := some (fileOf pool5 2 #[] #[] 1537 4 #[] #[])
  fields := #[]
  methods := #[]
  instanceTypes := #[]
  staticTypes := #[]
  resolved := Array.replicate 8 none
  statics := none }

def pool6 : Array CpInfo := pool [(1, u "java/io/Serializable"), (0, .class_ 1), (0, u "java/lang/Object"), (0, .class_ 3)] 3

/-- java/io/Serializable -/
def k6 : Class := { plain "java/io/Serializable" (some 0) with
  accessFlags := 1537
  interfaces := #[]
  cf := some (fileOf pool6 2 #[] #[] 1537 4 #[] #[])
  fields := #[]
  methods := #[]
  instanceTypes := #[]
  staticTypes := #[]
  resolved := Array.replicate 8 none
  statics := none }

/-- the primitive boolean -/
def k7 : Class := { plain "boolean" none with kind := .primitive 'Z', accessFlags := 0x411 }
/-- [Z -/
def k8 : Class := { plain "[Z" (some 0) with kind := .array 7 .boolean, interfaces := #[5, 6], accessFlags := 1041 }

/-- the primitive byte -/
def k9 : Class := { plain "byte" none with kind := .primitive 'B', accessFlags := 0x411 }
/-- [B -/
def k10 : Class := { plain "[B" (some 0) with kind := .array 9 .byte, interfaces := #[5, 6], accessFlags := 1041 }

/-- the primitive int -/
def k11 : Class := { plain "int" none with kind := .primitive 'I', accessFlags := 0x411 }
/-- [I -/
def k12 : Class := { plain "[I" (some 0) with kind := .array 11 .int, interfaces := #[5, 6], accessFlags := 1041 }

def heap : Heap := #[]
def classes : Array Class := #[k0, k1, k2, k3, k4, k5, k6, k7, k8, k9, k10, k11, k12]
def interned : List (Array UInt16 × Addr) := []
def slotsUsed : Nat := 0
def theMethod : MethodId := ⟨1, 1⟩
def args0 : Array Value := #[.int 5, .int 65, .int 1, .int 2, .int 3]
def aboutOver (below : List Frame) : State where
  vm := { classes := classes, interned := interned.toArray }
  heap := heap
  slotsUsed := slotsUsed
  threads := #[{ frames := .invoking theMethod args0 :: below }]
def below0 : List Frame := [.native { method := ⟨0, 0⟩, args := #[] }]
def about1 : State := aboutOver below0
def p0 : Program := .bare "" "" ""
def e0 : Env := launch0.env 0 0 0
theorem w_frames : about1.frames = Frame.invoking theMethod args0 :: below0 := rfl
set_option maxRecDepth 65536 in
theorem w_args : argsFit about1.vm theMethod args0 = true := by decide +kernel
set_option maxRecDepth 65536 in
theorem w_heap : heapFits about1 = true := by decide +kernel
set_option maxRecDepth 65536 in
theorem w_runnable : about1.curStatus? = some .runnable := by decide +kernel
set_option maxRecDepth 65536 in
theorem w_alone : about1.alone = true := by decide +kernel
set_option maxRecDepth 65536 in
theorem w_named : about1.methodNamed? x = some theMethod := by decide +kernel
set_option maxRecDepth 65536 in
theorem w_hears : about1.hears theMethod below0 = true := by decide +kernel
set_option maxRecDepth 65536 in
theorem w_ripe : about1.ripe theMethod args0 below0 = true := by decide +kernel
theorem w_running : about1.status = .running := rfl
set_option maxRecDepth 65536 in
theorem w_room : about1.hasRoom e0.platform room_1 = true :=
  launch0.hasRoom_least _ room_1 (by decide +kernel) (by decide +kernel) (by decide +kernel) (by decide +kernel) (by decide +kernel) (by decide +kernel)
theorem allAtoms_all (ts : List Jvm.Cond) (a : Array Jvm.Value) (st : Jvm.State) : (allAtoms ts).before a st = ts.all (fun c => c.before a st) := by
  induction ts with
  | nil => rfl
  | cons c t ih =>
    show (Jvm.Cond.and c (allAtoms t)).before a st = _
    rw [Jvm.Cond.before_and, ih, List.all_cons]
def words1 : List Jvm.Cond := Jvm.Cond.code x code maxLocals ret :: tables_1
/-- a 'code' word, met by the world's own term for the bytes: nothing is compared byte by byte -/
theorem code_word {y : MethodName} {bytes : ByteArray} {mx : Nat} {rt : Option FieldType} {a : Array Value} {s : State} {m : MethodId} {meth : Method} {c : Code} (h1 : s.methodNamed? y = some m) (h2 : s.vm.method? m = some meth) (h3 : meth.code = some c) (h4 : c.code = bytes)
    (h5 : (c.maxLocals == mx && c.exceptionTable.isEmpty && decide (c.maxStack ≤ mostOperands) && decide (meth.sig.returnType = rt) && !meth.locks && decide (parseMethodDescriptor y.desc = some meth.sig)) = true) : (Jvm.Cond.code y bytes mx rt).before a s = true := by
  simp only [Bool.and_eq_true, beq_iff_eq, Bool.not_eq_true', decide_eq_true_eq] at h5
  obtain ⟨⟨⟨⟨⟨g1, g2⟩, g3⟩, g4⟩, g5⟩, g6⟩ := h5
  simp [Cond.before, Cond.holds, Cond.value, h1, h2, h3, h4, g1, g2, g3, g4, g5, g6]
def isCode : Jvm.Cond → Bool
  | .code _ _ _ _ => true
  | _ => false
theorem all_split {L : List Jvm.Cond} {P : Jvm.Cond → Bool} (h1 : L.all (fun c => isCode c || P c) = true) (h2 : ∀ c ∈ L.filter isCode, P c = true) : L.all P = true := by
  refine List.all_eq_true.mpr fun c hc => ?_
  have h := List.all_eq_true.mp h1 c hc
  rcases Bool.eq_false_or_eq_true (isCode c) with hi | hi
  · exact h2 c (List.mem_filter.mpr ⟨hc, hi⟩)
  · simpa [hi] using h
set_option maxRecDepth 65536 in
theorem w_c0 : (Jvm.Cond.code x code maxLocals ret).before args0 about1 = true := code_word (m := ⟨1, 1⟩) (meth := k1m1) (c := k1c1) (by decide +kernel) rfl rfl rfl (by decide +kernel)
set_option maxRecDepth 65536 in
theorem w_c1 : (Jvm.Cond.code ({ cls := "com/example/queenside/queenside/LinesFreePinLaw", name := "coord", desc := "(II)I" } : Jvm.MethodName) method_3_code (2 : Nat) (Option.some Jvm.ClassFile.FieldType.int)).before args0 about1 = true := code_word (m := ⟨1, 2⟩) (meth := k1m2) (c := k1c2) (by decide +kernel) rfl rfl rfl (by decide +kernel)
set_option maxRecDepth 65536 in
theorem w_c2 : (Jvm.Cond.code ({ cls := "com/example/queenside/queenside/Square", name := "<init>", desc := "(II)V" } : Jvm.MethodName) prog_15_method_1_code (3 : Nat) (Option.none : Option Jvm.ClassFile.FieldType)).before args0 about1 = true := code_word (m := ⟨3, 0⟩) (meth := k3m0) (c := k3c0) (by decide +kernel) rfl rfl rfl (by decide +kernel)
set_option maxRecDepth 65536 in
theorem w_c3 : (Jvm.Cond.code ({ cls := "java/lang/Record", name := "<init>", desc := "()V" } : Jvm.MethodName) jdk_30_method_1_code (1 : Nat) (Option.none : Option Jvm.ClassFile.FieldType)).before args0 about1 = true := code_word (m := ⟨2, 0⟩) (meth := k2m0) (c := k2c0) (by decide +kernel) rfl rfl rfl (by decide +kernel)
set_option maxRecDepth 65536 in
theorem w_c4 : (Jvm.Cond.code ({ cls := "java/lang/Object", name := "<init>", desc := "()V" } : Jvm.MethodName) object_method_1_code (1 : Nat) (Option.none : Option Jvm.ClassFile.FieldType)).before args0 about1 = true := code_word (m := ⟨0, 0⟩) (meth := k0m0) (c := k0c0) (by decide +kernel) rfl rfl rfl (by decide +kernel)
set_option maxRecDepth 65536 in
theorem w_c5 : (Jvm.Cond.code ({ cls := "com/example/queenside/queenside/Lines", name := "<init>", desc := "(I)V" } : Jvm.MethodName) prog_5_method_1_code (2 : Nat) (Option.none : Option Jvm.ClassFile.FieldType)).before args0 about1 = true := code_word (m := ⟨4, 0⟩) (meth := k4m0) (c := k4c0) (by decide +kernel) rfl rfl rfl (by decide +kernel)
set_option maxRecDepth 65536 in
theorem w_c6 : (Jvm.Cond.code ({ cls := "com/example/queenside/queenside/Lines", name := "free", desc := "(Lcom/example/queenside/queenside/Square;)Z" } : Jvm.MethodName) prog_5_method_2_code (2 : Nat) (Option.some Jvm.ClassFile.FieldType.boolean)).before args0 about1 = true := code_word (m := ⟨4, 1⟩) (meth := k4m1) (c := k4c1) (by decide +kernel) rfl rfl rfl (by decide +kernel)
set_option maxRecDepth 65536 in
theorem w_c7 : (Jvm.Cond.code ({ cls := "com/example/queenside/queenside/Square", name := "row", desc := "()I" } : Jvm.MethodName) prog_15_method_8_code (1 : Nat) (Option.some Jvm.ClassFile.FieldType.int)).before args0 about1 = true := code_word (m := ⟨3, 3⟩) (meth := k3m3) (c := k3c3) (by decide +kernel) rfl rfl rfl (by decide +kernel)
set_option maxRecDepth 65536 in
theorem w_c8 : (Jvm.Cond.code ({ cls := "com/example/queenside/queenside/Square", name := "down", desc := "()I" } : Jvm.MethodName) prog_15_method_3_code (1 : Nat) (Option.some Jvm.ClassFile.FieldType.int)).before args0 about1 = true := code_word (m := ⟨3, 1⟩) (meth := k3m1) (c := k3c1) (by decide +kernel) rfl rfl rfl (by decide +kernel)
set_option maxRecDepth 65536 in
theorem w_c9 : (Jvm.Cond.code ({ cls := "com/example/queenside/queenside/Square", name := "up", desc := "()I" } : Jvm.MethodName) prog_15_method_4_code (1 : Nat) (Option.some Jvm.ClassFile.FieldType.int)).before args0 about1 = true := code_word (m := ⟨3, 2⟩) (meth := k3m2) (c := k3c2) (by decide +kernel) rfl rfl rfl (by decide +kernel)
set_option maxRecDepth 65536 in
theorem w_c10 : (Jvm.Cond.code ({ cls := "com/example/queenside/queenside/Lines", name := "take", desc := "(Lcom/example/queenside/queenside/Square;)V" } : Jvm.MethodName) prog_5_method_3_code (2 : Nat) (Option.none : Option Jvm.ClassFile.FieldType)).before args0 about1 = true := code_word (m := ⟨4, 2⟩) (meth := k4m2) (c := k4c2) (by decide +kernel) rfl rfl rfl (by decide +kernel)
set_option maxRecDepth 65536 in
theorem w_c11 : (Jvm.Cond.code ({ cls := "com/example/queenside/queenside/Lines", name := "mark", desc := "(Lcom/example/queenside/queenside/Square;Z)V" } : Jvm.MethodName) prog_5_method_5_code (3 : Nat) (Option.none : Option Jvm.ClassFile.FieldType)).before args0 about1 = true := code_word (m := ⟨4, 3⟩) (meth := k4m3) (c := k4c3) (by decide +kernel) rfl rfl rfl (by decide +kernel)
set_option maxRecDepth 65536 in
theorem w_c12 : (Jvm.Cond.code ({ cls := "com/example/queenside/queenside/LinesFreePinLaw", name := "shares", desc := "(IIII)Z" } : Jvm.MethodName) method_4_code (4 : Nat) (Option.some Jvm.ClassFile.FieldType.boolean)).before args0 about1 = true := code_word (m := ⟨1, 3⟩) (meth := k1m3) (c := k1c3) (by decide +kernel) rfl rfl rfl (by decide +kernel)
def codes1 : List Jvm.Cond := [Jvm.Cond.code x code maxLocals ret, Jvm.Cond.code ({ cls := "com/example/queenside/queenside/LinesFreePinLaw", name := "coord", desc := "(II)I" } : Jvm.MethodName) method_3_code (2 : Nat) (Option.some Jvm.ClassFile.FieldType.int), Jvm.Cond.code ({ cls := "com/example/queenside/queenside/Square", name := "<init>", desc := "(II)V" } : Jvm.MethodName) prog_15_method_1_code (3 : Nat) (Option.none : Option Jvm.ClassFile.FieldType), Jvm.Cond.code ({ cls := "java/lang/Record", name := "<init>", desc := "()V" } : Jvm.MethodName) jdk_30_method_1_code (1 : Nat) (Option.none : Option Jvm.ClassFile.FieldType), Jvm.Cond.code ({ cls := "java/lang/Object", name := "<init>", desc := "()V" } : Jvm.MethodName) object_method_1_code (1 : Nat) (Option.none : Option Jvm.ClassFile.FieldType), Jvm.Cond.code ({ cls := "com/example/queenside/queenside/Lines", name := "<init>", desc := "(I)V" } : Jvm.MethodName) prog_5_method_1_code (2 : Nat) (Option.none : Option Jvm.ClassFile.FieldType), Jvm.Cond.code ({ cls := "com/example/queenside/queenside/Lines", name := "free", desc := "(Lcom/example/queenside/queenside/Square;)Z" } : Jvm.MethodName) prog_5_method_2_code (2 : Nat) (Option.some Jvm.ClassFile.FieldType.boolean), Jvm.Cond.code ({ cls := "com/example/queenside/queenside/Square", name := "row", desc := "()I" } : Jvm.MethodName) prog_15_method_8_code (1 : Nat) (Option.some Jvm.ClassFile.FieldType.int), Jvm.Cond.code ({ cls := "com/example/queenside/queenside/Square", name := "down", desc := "()I" } : Jvm.MethodName) prog_15_method_3_code (1 : Nat) (Option.some Jvm.ClassFile.FieldType.int), Jvm.Cond.code ({ cls := "com/example/queenside/queenside/Square", name := "up", desc := "()I" } : Jvm.MethodName) prog_15_method_4_code (1 : Nat) (Option.some Jvm.ClassFile.FieldType.int), Jvm.Cond.code ({ cls := "com/example/queenside/queenside/Lines", name := "take", desc := "(Lcom/example/queenside/queenside/Square;)V" } : Jvm.MethodName) prog_5_method_3_code (2 : Nat) (Option.none : Option Jvm.ClassFile.FieldType), Jvm.Cond.code ({ cls := "com/example/queenside/queenside/Lines", name := "mark", desc := "(Lcom/example/queenside/queenside/Square;Z)V" } : Jvm.MethodName) prog_5_method_5_code (3 : Nat) (Option.none : Option Jvm.ClassFile.FieldType), Jvm.Cond.code ({ cls := "com/example/queenside/queenside/LinesFreePinLaw", name := "shares", desc := "(IIII)Z" } : Jvm.MethodName) method_4_code (4 : Nat) (Option.some Jvm.ClassFile.FieldType.boolean)]
set_option maxRecDepth 65536 in
theorem codes_eq : words1.filter isCode = codes1 := rfl
theorem w_codes : ∀ c ∈ words1.filter isCode, c.before args0 about1 = true := by
  rw [codes_eq]
  intro c hc
  simp only [codes1, List.mem_cons, List.not_mem_nil, or_false] at hc
  rcases hc with rfl | rfl | rfl | rfl | rfl | rfl | rfl | rfl | rfl | rfl | rfl | rfl | rfl
  · exact w_c0
  · exact w_c1
  · exact w_c2
  · exact w_c3
  · exact w_c4
  · exact w_c5
  · exact w_c6
  · exact w_c7
  · exact w_c8
  · exact w_c9
  · exact w_c10
  · exact w_c11
  · exact w_c12
set_option maxRecDepth 65536 in
theorem w_t1 : (words1.take 24).all (fun c => isCode c || c.before args0 about1) = true := by decide +kernel
set_option maxRecDepth 65536 in
theorem w_t2 : ((words1.drop 24).take 24).all (fun c => isCode c || c.before args0 about1) = true := by decide +kernel
set_option maxRecDepth 65536 in
theorem w_t3 : ((words1.drop 24).drop 24).all (fun c => isCode c || c.before args0 about1) = true := by decide +kernel
theorem w_tables : (allAtoms (Jvm.Cond.code x code maxLocals ret :: tables_1)).before args0 about1 = true := by
  rw [allAtoms_all]
  show words1.all (fun c => c.before args0 about1) = true
  refine all_split ?_ w_codes
  rw [← List.take_append_drop 24 words1, List.all_append, w_t1, ← List.take_append_drop 24 (words1.drop 24), List.all_append, w_t2, w_t3]
  rfl
set_option maxRecDepth 65536 in
theorem w_case : (Jvm.Cond.and given_1 narrow_1).before args0 about1 = true := by decide +kernel
theorem w_applies : (headSpec (Jvm.Cond.code x code maxLocals ret :: tables_1) room_1).applies x e0.platform about1 = true :=
  (Spec.applies_iff w_frames).mpr ⟨w_running, w_runnable, w_alone, w_named, w_hears, w_ripe, w_room, w_tables⟩
theorem atStart : AtStart classFile x code maxLocals ret World_1 tables_1 room_1 Calls_1 rest_1 Pre_1 launch0 p0 e0 about1 theMethod args0 below0 :=
  ⟨lists_1, trivial, launch0.admits_env _ _ _, launch0.least_env, fairChoices_fair.cas, fairChoices_fair.clock, w_frames, w_args, w_heap, w_applies, trivial, trivial, w_case⟩
end start1
theorem witness_1 : WitnessClaimed_1 := ⟨start1.p0, start1.e0, start1.about1, start1.theMethod, start1.args0, start1.below0, start1.atStart⟩
end Jvm.Pilot.@@N@@
