import JvmDerived
import JvmDerived.Pilot.@@N@@Statement
import JvmDerived.Pilot.@@N@@Code
set_option linter.unusedVariables false
set_option linter.unusedSimpArgs false
namespace Jvm.Pilot.@@N@@
open Jvm Jvm.ClassFile Sem Op Lib Jvm.Free Jvm.Stand Jvm.LawKit Jvm.RoadKit Bundle Jvm.Pilot.@@N@@.Jvm.D
/-! ### own kit: a walk as one chain, from a place of the run to the method's end -/
/-- from A the run comes to an end of which P holds -/
def own_E (p : Program) (e : Env) (below : List Frame) (P : Outcome → State → Prop) (A : State) : Prop :=
  ∃ s₂ o, Steps p.tables e below A s₂ ∧ s₂.status = .running ∧ Ended s₂ below o ∧ P o s₂
/-- what a contract says at the end -/
def own_P (Q : Option Value → Heap → List Loc → Prop) (s : State) (C S : Nat) : Outcome → State → Prop :=
  fun o U => ∃ v L, o = .returned v ∧ Q v U.heap L ∧ FrameEnd s o U L C S
/-- a contract: called with these arguments over the heap h, the body returns, and Q tells what and what is written -/
def own_Con (l : Launch) (Z : State) (y : MethodName) (bytes : ByteArray) (maxL : Nat) (ret : Option FieldType) (ws : List Jvm.Cond) (rm : Room) (as : Array Value) (h : Heap) (Q : Option Value → Heap → List Loc → Prop) : Prop :=
  MetFree l y (head1 (Jvm.Cond.code y bytes maxL ret :: ws) rm) (fun a U => a = as ∧ Z.Warmed39 U.vm ∧ U.heap = h) (fun _ _ _ _ _ => True) (fun _ U o U' => ∃ v L, o = .returned v ∧ Q v U'.heap L ∧ FrameEnd U o U' L rm.cells rm.slots)
theorem own_w {Z : State} {a0 : Array Value} (hw : ∀ d ∈ tables_1, d.before a0 Z = true) (i : Nat) {d : Jvm.Cond} (q : tables_1[i]? = some d) : d.before a0 Z = true := hw d (List.mem_of_getElem? q)
section Own
variable {p : Program} {l : Launch} {e : Env} {R : Room} {s : State} {m : MethodId} {args : Array Value} {below : List Frame} {meth : Method} {c : Code} {T : State} {locs : List Loc} {cells slots : Nat} {Z : State} {a0 : Array Value} {h h' : Heap} {P : Outcome → State → Prop} {A B : State} {Q : Option Value → Heap → List Loc → Prop}
theorem own_s (st : ∀ t, Steps p.tables e below B t → Steps p.tables e below A t) (k : own_E p e below P B) : own_E p e below P A := by
  obtain ⟨s2, o, h1, h2⟩ := k; exact ⟨s2, o, st _ h1, h2⟩
theorem own_g {g : JFrame} (g' : JFrame) (st : ∀ t, Steps p.tables e below (T.setTop g') t → Steps p.tables e below (T.setTop g) t) (k : own_E p e below P (T.setTop g')) : own_E p e below P (T.setTop g) := own_s st k
theorem own_t (st : Steps p.tables e below A B) (k : own_E p e below P B) : own_E p e below P A := by
  obtain ⟨s2, o, h1, h2⟩ := k; exact ⟨s2, o, st.trans h1, h2⟩
theorem own_enter {y : MethodName} {bytes : ByteArray} {maxL : Nat} {ret : Option FieldType} {ws : List Jvm.Cond} {rm : Room} {as : Array Value} (hpl : plainFor y = true)
    (body : ∀ (p : Program) (e : Env) (s : State) (m : MethodId) (below : List Frame) (meth : Method) (c : Code) (s₁ : State), Stand p l e rm s m as below meth c s₁ [] 0 0 → s₁.heap = h → p.tables.exec = Jvm.exec → Z.Warmed39 s.vm → c.code = bytes → c.maxLocals = maxL → s.vm.findClass y.cls = some m.cls → meth.name = y.name → meth.sig.returnType = ret → meth.locks = false →
      own_E p e below (own_P Q s rm.cells rm.slots) (s₁.setTop (entryFrame m as maxL))) : own_Con l Z y bytes maxL ret ws rm as h Q := by
  refine MetFree.of_bodySF hpl hisR ?_
  intro p e s m args below meth c s₁ Bd hml hP hK
  obtain ⟨rfl, hZ, hh⟩ := hP
  have X0 : Stand p l e rm s m args below meth c s₁ [] 0 0 := Stand.of_body Bd
  have e0 : s₁.heap = h := by rw [← hh, Bd.state]; rfl
  exact body p e s m below meth c s₁ X0 e0 Bd.exec hZ Bd.bytes hml (findClass_of_methodNamed Bd.named) (name_of_methodNamed Bd.named Bd.method).1 Bd.returns Bd.notSynchronized
theorem own_cast {g g' : JFrame} (q : g = g') (k : own_E p e below P (T.setTop g')) : own_E p e below P (T.setTop g) := q ▸ k
/-! returns -/
theorem own_retZ (X : Stand p l e R s m args below meth c T locs cells slots) (hx : p.tables.exec = Jvm.exec) (hret : meth.sig.returnType = some .boolean) (hlk : meth.locks = false) {pc : Nat} {Ls : Array Slot} {z : Int32} {C S : Nat} {rest : List Value} (hd : decode c.code pc = .ok (.ireturn, 1)) (hz : nar .boolean z = z) (hc : cells ≤ C) (hs : slots ≤ S) (hQ : Q (some (.int z)) T.heap locs) :
    own_E p e below (own_P Q s C S) (T.setTop (mkF m pc Ls (.int z :: rest))) := by
  obtain ⟨fs, hr, hrun, hended, hW, hsame⟩ := X.leave (v := some (.int z)) (fun q => by rw [hret] at q; cases q) hlk
  exact ⟨_, _, retN X hx (t := .boolean) hret (by simp) hd (by rw [hz]; exact hr), hrun, hended, _, _, rfl, hQ, ⟨_, rfl⟩, hW, hsame.mono hc hs⟩
theorem own_retI (X : Stand p l e R s m args below meth c T locs cells slots) (hx : p.tables.exec = Jvm.exec) (hret : meth.sig.returnType = some .int) (hlk : meth.locks = false) {pc : Nat} {Ls : Array Slot} {z : Int32} {C S : Nat} (hd : decode c.code pc = .ok (.ireturn, 1)) (hc : cells ≤ C) (hs : slots ≤ S) (hQ : Q (some (.int z)) T.heap locs) :
    own_E p e below (own_P Q s C S) (T.setTop (mkF m pc Ls [.int z])) := by
  obtain ⟨fs, hr, hrun, hended, hW, hsame⟩ := X.leave (v := some (.int z)) (fun q => by rw [hret] at q; cases q) hlk
  exact ⟨_, _, X.ireturnOut hx hret rfl (Or.inl rfl) hd hr, hrun, hended, _, _, rfl, hQ, ⟨_, rfl⟩, hW, hsame.mono hc hs⟩
theorem own_retJ (X : Stand p l e R s m args below meth c T locs cells slots) (hx : p.tables.exec = Jvm.exec) (hret : meth.sig.returnType = some .long) (hlk : meth.locks = false) {pc : Nat} {Ls : Array Slot} {z : Int64} {C S : Nat} (hd : decode c.code pc = .ok (.lreturn, 1)) (hc : cells ≤ C) (hs : slots ≤ S) (hQ : Q (some (.long z)) T.heap locs) :
    own_E p e below (own_P Q s C S) (T.setTop (mkF m pc Ls [.long z])) := by
  obtain ⟨fs, hr, hrun, hended, hW, hsame⟩ := X.leave (v := some (.long z)) (fun q => by rw [hret] at q; cases q) hlk
  exact ⟨_, _, X.lreturnOut hx hret hd hr, hrun, hended, _, _, rfl, hQ, ⟨_, rfl⟩, hW, hsame.mono hc hs⟩
theorem own_retA (X : Stand p l e R s m args below meth c T locs cells slots) (hx : p.tables.exec = Jvm.exec) {t : FieldType} (ht : t.isReference = true) (hret : meth.sig.returnType = some t) (hlk : meth.locks = false) {pc : Nat} {Ls : Array Slot} {a : Addr} {C S : Nat} (hd : decode c.code pc = .ok (.areturn, 1)) (hc : cells ≤ C) (hs : slots ≤ S) (hQ : Q (some (.ref a)) T.heap locs) :
    own_E p e below (own_P Q s C S) (T.setTop (mkF m pc Ls [.ref a])) := by
  obtain ⟨fs, hr, hrun, hended, hW, hsame⟩ := X.leave (v := some (.ref a)) (fun q => by rw [hret] at q; cases q) hlk
  exact ⟨_, _, X.areturnOut hx (w := .ref a) rfl hret ht hd hr, hrun, hended, _, _, rfl, hQ, ⟨_, rfl⟩, hW, hsame.mono hc hs⟩
theorem own_retV (X : Stand p l e R s m args below meth c T locs cells slots) (hx : p.tables.exec = Jvm.exec) (hret : meth.sig.returnType = none) (hlk : meth.locks = false) {pc : Nat} {Ls : Array Slot} {C S : Nat} (hd : decode c.code pc = .ok (.return_, 1)) (hc : cells ≤ C) (hs : slots ≤ S) (hQ : Q none T.heap locs) :
    own_E p e below (own_P Q s C S) (T.setTop (mkF m pc Ls [])) := by
  obtain ⟨fs, hr, hrun, hended, hW, hsame⟩ := X.leave (v := none) (fun _ => rfl) hlk
  exact ⟨_, _, X.returnOut hx hret hd hr, hrun, hended, _, _, rfl, hQ, ⟨_, rfl⟩, hW, hsame.mono hc hs⟩
/-! calls by a contract -/
theorem own_callS {y : MethodName} {bytes : ByteArray} {maxL : Nat} {ret : Option FieldType} {rm : Room} {own : String} {index : Nat} {as : List Value} (X : Stand p l e R s m args below meth c T locs cells slots) (hx : p.tables.exec = Jvm.exec) (hZ : Z.Warmed39 s.vm) (hown : s.vm.findClass own = some m.cls) (hT : T.heap = h) (hM : own_Con l Z y bytes maxL ret [] rm as.toArray h Q)
    (w1 : (Jvm.Cond.methodLink own index y).before a0 Z = true) (w2 : (Jvm.Cond.static y).before a0 Z = true) (w3 : (Jvm.Cond.initialized y.cls).before a0 Z = true) (w4 : (Jvm.Cond.code y bytes maxL ret).before a0 Z = true) (hy : y.cls ≠ "java/lang/invoke/MethodHandle" ∧ y.cls ≠ "java/lang/invoke/VarHandle") {ps : List FieldType} {r : Option FieldType} (hpd : parseMethodDescriptor y.desc = some ⟨ps, r⟩) (hlen : as.length = ps.length)
    {pc : Nat} {Ls : Array Slot} {st rest : List Value} (hml : Ls.size = c.maxLocals) (hst : st = as.reverse ++ rest) (hd : decode c.code pc = .ok (.invokestatic index, 3)) (W : Nat) (hW : 2 * 0 + (rest.map fun v => v.category).sum ≤ W) (hf : rm.frames + 1 ≤ R.frames) (hl : W + (maxL + 11) + rm.locals ≤ R.locals) (hc : cells + rm.cells ≤ R.cells) (hs : slots + rm.slots ≤ R.slots)
    (k : ∀ (v : Option Value) (T' : State) (L : List Loc), Stand p l e R s m args below meth c T' (locs ++ L) (cells + rm.cells) (slots + rm.slots) → Q v T'.heap L → own_E p e below P (T'.setTop (mkF m (pc + 3) Ls (v.toList ++ rest)))) :
    own_E p e below P (T.setTop (mkF m pc Ls st)) := by
  obtain ⟨v, _, ⟨T', L', k', n'⟩, -, X', ⟨L, hQ, h1, h2, h3⟩, stp⟩ := Jvm.LawKit.callS X hx hown (mvT hZ w1) (mvT hZ w2) (mvT hZ w3) (mvT hZ w4) hy (backOf (W := W) hM hZ w4 w3 hf hl) (g := mkF m pc Ls st) rfl hml (argsL := as) (rest := rest) (lenOf hpd hlen) hst hW hd (fun _ _ => ⟨rfl, hT, hc, hs⟩)
  dsimp only [Pt.U, Pt.locs, Pt.cells, Pt.slots] at X' h1 h2 h3 stp hQ
  subst h1 h2 h3
  exact own_s stp (k v T' L X' hQ)
theorem own_callI {y : MethodName} {bytes : ByteArray} {maxL : Nat} {rm : Room} {own : String} {index : Nat} {a : Addr} {as : List Value} (X : Stand p l e R s m args below meth c T locs cells slots) (hx : p.tables.exec = Jvm.exec) (hZ : Z.Warmed39 s.vm) (hown : s.vm.findClass own = some m.cls) (hT : T.heap = h) (hM : own_Con l Z y bytes maxL none [] rm (.ref a :: as).toArray h Q) (hy1 : y.name = "<init>")
    (w1 : (Jvm.Cond.methodLink own index y).before a0 Z = true) (w2 : (Jvm.Cond.instanceMethod y).before a0 Z = true) (w3 : (Jvm.Cond.initialized y.cls).before a0 Z = true) (w4 : (Jvm.Cond.code y bytes maxL none).before a0 Z = true) (hy : y.cls ≠ "java/lang/invoke/MethodHandle" ∧ y.cls ≠ "java/lang/invoke/VarHandle") {ps : List FieldType} {r : Option FieldType} (hpd : parseMethodDescriptor y.desc = some ⟨ps, r⟩) (hlen : as.length = ps.length)
    {pc : Nat} {Ls : Array Slot} {st rest : List Value} (hml : Ls.size = c.maxLocals) (hst : st = as.reverse ++ .ref a :: rest) (hd : decode c.code pc = .ok (.invokespecial index, 3)) (W : Nat) (hW : 2 * 0 + (rest.map fun v => v.category).sum ≤ W) (hf : rm.frames + 1 ≤ R.frames) (hl : W + (maxL + 11) + rm.locals ≤ R.locals) (hc : cells + rm.cells ≤ R.cells) (hs : slots + rm.slots ≤ R.slots)
    (k : ∀ (v : Option Value) (T' : State) (L : List Loc), Stand p l e R s m args below meth c T' (locs ++ L) (cells + rm.cells) (slots + rm.slots) → Q v T'.heap L → own_E p e below P (T'.setTop (mkF m (pc + 3) Ls (v.toList ++ rest)))) :
    own_E p e below P (T.setTop (mkF m pc Ls st)) := by
  obtain ⟨v, _, ⟨T', L', k', n'⟩, -, X', ⟨L, hQ, h1, h2, h3⟩, stp⟩ := X.specialBack hx hy1 hown (mvT hZ w1) (mvT hZ w2) (mvT hZ w4) hy (backOf (W := W) hM hZ w4 w3 hf hl) (g := mkF m pc Ls st) rfl hml (Steps.refl _) (a := a) (argsL := as) (rest := rest) (lenOf hpd hlen) hst hW hd (fun _ _ => ⟨rfl, hT, hc, hs⟩)
  dsimp only [Pt.U, Pt.locs, Pt.cells, Pt.slots] at X' h1 h2 h3 stp hQ
  subst h1 h2 h3
  exact own_t stp (k v T' L X' hQ)
theorem own_callV {y : MethodName} {bytes : ByteArray} {maxL : Nat} {ret : Option FieldType} {rm : Room} {own : String} {index : Nat} {a : Addr} {as : List Value} (X : Stand p l e R s m args below meth c T locs cells slots) (hx : p.tables.exec = Jvm.exec) (hZ : Z.Warmed39 s.vm) (hown : s.vm.findClass own = some m.cls) (hT : T.heap = h) (hM : own_Con l Z y bytes maxL ret [] rm (.ref a :: as).toArray h Q) (hE : Exa Z h a y.cls)
    (w1 : (Jvm.Cond.methodLink own index y).before a0 Z = true) (w2 : (Jvm.Cond.declares y).before a0 Z = true) (w5 : (Jvm.Cond.selects y.cls y y).before a0 Z = true) (w6 : (Jvm.Cond.instanceMethod y).before a0 Z = true) (w3 : (Jvm.Cond.initialized y.cls).before a0 Z = true) (w4 : (Jvm.Cond.code y bytes maxL ret).before a0 Z = true) (hy : y.cls ≠ "java/lang/invoke/MethodHandle" ∧ y.cls ≠ "java/lang/invoke/VarHandle") {ps : List FieldType} {r : Option FieldType} (hpd : parseMethodDescriptor y.desc = some ⟨ps, r⟩) (hlen : as.length = ps.length)
    {pc : Nat} {Ls : Array Slot} {st rest : List Value} (hml : Ls.size = c.maxLocals) (hst : st = as.reverse ++ .ref a :: rest) (hd : decode c.code pc = .ok (.invokevirtual index, 3)) (W : Nat) (hW : 2 * 0 + (rest.map fun v => v.category).sum ≤ W) (hf : rm.frames + 1 ≤ R.frames) (hl : W + (maxL + 11) + rm.locals ≤ R.locals) (hc : cells + rm.cells ≤ R.cells) (hs : slots + rm.slots ≤ R.slots)
    (k : ∀ (v : Option Value) (T' : State) (L : List Loc), Stand p l e R s m args below meth c T' (locs ++ L) (cells + rm.cells) (slots + rm.slots) → Q v T'.heap L → own_E p e below P (T'.setTop (mkF m (pc + 3) Ls (v.toList ++ rest)))) :
    own_E p e below P (T.setTop (mkF m pc Ls st)) := by
  obtain ⟨cq, kq, qa, qb, qc⟩ := isOf hZ hT hE
  obtain ⟨v, _, ⟨T', L', k', n'⟩, -, X', ⟨L, hQ, h1, h2, h3⟩, stp⟩ := X.virtualBack hx hown (mvT hZ w1) (mvT hZ w2) (notFace_of_selects (args := #[]) (mvT hZ w5)) (mvT hZ w5) (mvT hZ w6) hy (backOf (W := W) hM hZ w4 w3 hf hl) qa qc (g := mkF m pc Ls st) rfl hml (Steps.refl _) (argsL := as) (rest := rest) (lenOf hpd hlen) hst hW hd (fun _ _ => ⟨rfl, hT, hc, hs⟩)
  dsimp only [Pt.U, Pt.locs, Pt.cells, Pt.slots] at X' h1 h2 h3 stp hQ
  subst h1 h2 h3
  exact own_t stp (k v T' L X' hQ)
theorem own_callP {y : MethodName} {bytes : ByteArray} {maxL : Nat} {ret : Option FieldType} {rm : Room} {own : String} {index kn : Nat} {a : Addr} {as : List Value} (X : Stand p l e R s m args below meth c T locs cells slots) (hx : p.tables.exec = Jvm.exec) (hZ : Z.Warmed39 s.vm) (hown : s.vm.findClass own = some m.cls) (hT : T.heap = h) (hM : own_Con l Z y bytes maxL ret [] rm (.ref a :: as).toArray h Q) (hE : Exa Z h a y.cls)
    (w1 : (Jvm.Cond.methodLink own index y).before a0 Z = true) (w2 : (Jvm.Cond.instantiable y.cls kn).before a0 Z = true) (w5 : (Jvm.Cond.privateMethod y).before a0 Z = true) (w6 : (Jvm.Cond.instanceMethod y).before a0 Z = true) (w3 : (Jvm.Cond.initialized y.cls).before a0 Z = true) (w4 : (Jvm.Cond.code y bytes maxL ret).before a0 Z = true) (hy : y.cls ≠ "java/lang/invoke/MethodHandle" ∧ y.cls ≠ "java/lang/invoke/VarHandle") {ps : List FieldType} {r : Option FieldType} (hpd : parseMethodDescriptor y.desc = some ⟨ps, r⟩) (hlen : as.length = ps.length)
    {pc : Nat} {Ls : Array Slot} {st rest : List Value} (hml : Ls.size = c.maxLocals) (hst : st = as.reverse ++ .ref a :: rest) (hd : decode c.code pc = .ok (.invokevirtual index, 3)) (W : Nat) (hW : 2 * 0 + (rest.map fun v => v.category).sum ≤ W) (hf : rm.frames + 1 ≤ R.frames) (hl : W + (maxL + 11) + rm.locals ≤ R.locals) (hc : cells + rm.cells ≤ R.cells) (hs : slots + rm.slots ≤ R.slots)
    (k : ∀ (v : Option Value) (T' : State) (L : List Loc), Stand p l e R s m args below meth c T' (locs ++ L) (cells + rm.cells) (slots + rm.slots) → Q v T'.heap L → own_E p e below P (T'.setTop (mkF m (pc + 3) Ls (v.toList ++ rest)))) :
    own_E p e below P (T.setTop (mkF m pc Ls st)) := by
  obtain ⟨cq, hq, hq'⟩ := hE.cell
  have hi : (Jvm.Cond.instantiable y.cls kn).before args s = true := mvT hZ w2
  obtain ⟨ck, kk, hck, hkk, -, hniab, -, -⟩ := Cond.instantiable_spec hi
  have hpriv : s.PrivateAt y := Cond.privateMethod_at (mvP hZ w5 (args := #[]))
  have hins : (Jvm.Cond.instanceMethod y).before args s = true := mvT hZ w6
  have hsel : (Jvm.Cond.selects y.cls y y).before args s = true := selects_self_of_private hck hkk (Bool.or_eq_false_iff.mp hniab).1 hpriv hins hy
  obtain ⟨v, _, ⟨T', L', k', n'⟩, -, X', ⟨L, hQ, h1, h2, h3⟩, stp⟩ := X.privateBack hx hown (mvT hZ w1) hins hsel hpriv (mvT hZ w4) hy (backOf (W := W) hM hZ w4 w3 hf hl) (g := mkF m pc Ls st) rfl hml (Steps.refl _) (a := a) (cell := cq) (by rw [hT]; exact hq) hq' (argsL := as) (rest := rest) (lenOf hpd hlen) hst hW hd (fun _ _ => ⟨rfl, hT, hc, hs⟩)
  dsimp only [Pt.U, Pt.locs, Pt.cells, Pt.slots] at X' h1 h2 h3 stp hQ
  subst h1 h2 h3
  exact own_t stp (k v T' L X' hQ)
/-! arrays: a length and a function from places to values -/
def own_IA (Z : State) (h : Heap) (a : Addr) (ty : FieldType) (n : Nat) (f : Nat → Int32) : Prop := ∃ cl : Cell, Arr Z h a cl ty ∧ cl.slots.size = n ∧ ∀ i, i < n → cl.slots[i]? = some (.int (f i))
def own_JA (Z : State) (h : Heap) (a : Addr) (n : Nat) (f : Nat → Int64) : Prop := ∃ cl : Cell, Arr Z h a cl .long ∧ cl.slots.size = n ∧ ∀ i, i < n → cl.slots[i]? = some (.long (f i))
def own_set {α : Type} (f : Nat → α) (i : Nat) (v : α) : Nat → α := fun q => if q = i then v else f q
theorem own_set_same {α : Type} (f : Nat → α) (i : Nat) (v : α) : own_set f i v i = v := by simp [own_set]
theorem own_set_other {α : Type} (f : Nat → α) {i q : Nat} (v : α) (hq : q ≠ i) : own_set f i v q = f q := by simp [own_set, hq]
variable {a b : Addr} {ty : FieldType} {n : Nat} {f : Nat → Int32} {fJ : Nat → Int64} {ws : List Addr} {sl : Nat} {v : Value}
theorem own_IA.lt (F : own_IA Z h a ty n f) : a < h.size := by obtain ⟨cl, A, -⟩ := F; exact A.lt
theorem own_JA.lt (F : own_JA Z h a n fJ) : a < h.size := by obtain ⟨cl, A, -⟩ := F; exact A.lt
theorem own_IA.ext (F : own_IA Z h a ty n f) (E : Ext h h') : own_IA Z h' a ty n f := by obtain ⟨cl, A, r⟩ := F; exact ⟨cl, A.ext E, r⟩
theorem own_JA.ext (F : own_JA Z h a n fJ) (E : Ext h h') : own_JA Z h' a n fJ := by obtain ⟨cl, A, r⟩ := F; exact ⟨cl, A.ext E, r⟩
theorem own_IA.other (F : own_IA Z h b ty n f) (W : Wr h h' a sl v) (q : b ≠ a) : own_IA Z h' b ty n f := by obtain ⟨cl, A, r⟩ := F; exact ⟨cl, A.other W q, r⟩
theorem own_JA.other (F : own_JA Z h b n fJ) (W : Wr h h' a sl v) (q : b ≠ a) : own_JA Z h' b n fJ := by obtain ⟨cl, A, r⟩ := F; exact ⟨cl, A.other W q, r⟩
theorem own_IA.keep (F : own_IA Z h a ty n f) (K : Keep h h' ws) (q : a ∉ ws) : own_IA Z h' a ty n f := by obtain ⟨cl, A, r⟩ := F; exact ⟨cl, ⟨K.2.1 a cl A.1 q, A.2⟩, r⟩
theorem own_JA.keep (F : own_JA Z h a n fJ) (K : Keep h h' ws) (q : a ∉ ws) : own_JA Z h' a n fJ := by obtain ⟨cl, A, r⟩ := F; exact ⟨cl, ⟨K.2.1 a cl A.1 q, A.2⟩, r⟩
theorem own_IA.congr {f' : Nat → Int32} (F : own_IA Z h a ty n f) (q : ∀ i, i < n → f i = f' i) : own_IA Z h a ty n f' := by obtain ⟨cl, A, S, H⟩ := F; exact ⟨cl, A, S, fun i hi => by rw [← q i hi]; exact H i hi⟩
theorem own_JA.congr {f' : Nat → Int64} (F : own_JA Z h a n fJ) (q : ∀ i, i < n → fJ i = f' i) : own_JA Z h a n f' := by obtain ⟨cl, A, S, H⟩ := F; exact ⟨cl, A, S, fun i hi => by rw [← q i hi]; exact H i hi⟩
theorem own_ins {cl : Cell} {j : Int32} {i : Nat} (S : cl.slots.size = n) (hj : ¬ j < 0) (hi : j.toNatClampNeg = i) (hin : i < n) : ¬ (j < 0 ∨ cl.slots.size ≤ j.toNatClampNeg) := by
  rintro (q | q)
  · exact hj q
  · rw [S, hi] at q; omega
theorem own_setI {cl : Cell} {i : Nat} {x : Int32} (W : Wr h h' a i (.int x)) (A : Arr Z h a cl ty) (S : cl.slots.size = n) (H : ∀ q, q < n → cl.slots[q]? = some (.int (f q))) : own_IA Z h' a ty n (own_set f i x) := by
  refine ⟨_, A.same W, by rw [sz_set]; exact S, fun q hq => ?_⟩
  by_cases u : q = i
  · subst u; simp [Cell.setSlot, own_set, S, hq]
  · rw [own_set_other _ _ u, ← H q hq]; exact Array.getElem?_setIfInBounds_ne (Ne.symm u)
theorem own_setJ {cl : Cell} {i : Nat} {x : Int64} (W : Wr h h' a i (.long x)) (A : Arr Z h a cl .long) (S : cl.slots.size = n) (H : ∀ q, q < n → cl.slots[q]? = some (.long (fJ q))) : own_JA Z h' a n (own_set fJ i x) := by
  refine ⟨_, A.same W, by rw [sz_set]; exact S, fun q hq => ?_⟩
  by_cases u : q = i
  · subst u; simp [Cell.setSlot, own_set, S, hq]
  · rw [own_set_other _ _ u, ← H q hq]; exact Array.getElem?_setIfInBounds_ne (Ne.symm u)
theorem own_newI (X : Stand p l e R s m args below meth c T locs cells slots) (hx : p.tables.exec = Jvm.exec) (hZ : Z.Warmed39 s.vm) (hT : T.heap = h) {aty : ArrayType} (w : (Jvm.Cond.arrayClass (newarray.typeOf aty)).before a0 Z = true) (hdv : defaultValue (newarray.typeOf aty) = .int 0) {pc : Nat} {Ls : Array Slot} {rest : List Value} {z : Int32} (hd : decode c.code pc = .ok (.newarray aty, 2)) (hz : ¬ z < 0) (hzn : z.toNatClampNeg = n) (cap : Nat) (hcap : n ≤ cap) (hb : cap * 8 ≤ 536870912) (hc : cells + 1 ≤ R.cells) (hl : slots + cap ≤ R.slots)
    (k : ∀ (T' : State) (h' : Heap) (a : Nat), a = h.size → Stand p l e R s m args below meth c T' locs (cells + 1) (slots + cap) → T'.heap = h' → Ext h h' → own_IA Z h' a (newarray.typeOf aty) n (fun _ => 0) → own_E p e below P (T'.setTop (mkF m (pc + 2) Ls (.ref a :: rest)))) :
    own_E p e below P (T.setTop (mkF m pc Ls (.int z :: rest))) := by
  obtain ⟨T', h', cA, X', e', E, A, st⟩ := newP X hx hZ w hT (g := mkF m pc Ls (.int z :: rest)) rfl hd rfl hz (cap := cap) (by rw [hzn]; exact hcap) hb hc hl
  refine own_s st (k T' h' _ rfl X' e' E ⟨_, A, by rw [sz_new, hzn], fun i hi => ?_⟩)
  simp [newA, hzn, hi, hdv]
theorem own_newJ (X : Stand p l e R s m args below meth c T locs cells slots) (hx : p.tables.exec = Jvm.exec) (hZ : Z.Warmed39 s.vm) (hT : T.heap = h) (w : (Jvm.Cond.arrayClass .long).before a0 Z = true) {pc : Nat} {Ls : Array Slot} {rest : List Value} {z : Int32} (hd : decode c.code pc = .ok (.newarray .long, 2)) (hz : ¬ z < 0) (hzn : z.toNatClampNeg = n) (cap : Nat) (hcap : n ≤ cap) (hb : cap * 8 ≤ 536870912) (hc : cells + 1 ≤ R.cells) (hl : slots + cap ≤ R.slots)
    (k : ∀ (T' : State) (h' : Heap) (a : Nat), a = h.size → Stand p l e R s m args below meth c T' locs (cells + 1) (slots + cap) → T'.heap = h' → Ext h h' → own_JA Z h' a n (fun _ => 0) → own_E p e below P (T'.setTop (mkF m (pc + 2) Ls (.ref a :: rest)))) :
    own_E p e below P (T.setTop (mkF m pc Ls (.int z :: rest))) := by
  obtain ⟨T', h', cA, X', e', E, A, st⟩ := newP X hx hZ (aty := .long) w hT (g := mkF m pc Ls (.int z :: rest)) rfl hd rfl hz (cap := cap) (by rw [hzn]; exact hcap) hb hc hl
  refine own_s st (k T' h' _ rfl X' e' E ⟨_, A, by rw [sz_new, hzn], fun i hi => ?_⟩)
  simp [newA, hzn, hi, newarray.typeOf, defaultValue]
theorem own_lenI (X : Stand p l e R s m args below meth c T locs cells slots) (hx : p.tables.exec = Jvm.exec) (hZ : Z.Warmed39 s.vm) (hT : T.heap = h) (F : own_IA Z h a ty n f) {pc : Nat} {Ls : Array Slot} {rest : List Value} (hd : decode c.code pc = .ok (.arraylength, 1)) {z : Int32} (hz : n.toInt32 = z) (k : own_E p e below P (T.setTop (mkF m (pc + 1) Ls (.int z :: rest)))) :
    own_E p e below P (T.setTop (mkF m pc Ls (.ref a :: rest))) := by
  obtain ⟨cl, A, S, H⟩ := F
  exact own_s (X.arraylength hx (cell := cl) (by rw [hT]; exact A.1) (State.isArrayOf_alike hZ.alike A.2.1) (g := mkF m pc Ls (.ref a :: rest)) rfl (rest := rest) rfl hd) (by rw [S, hz]; exact k)
theorem own_lenJ (X : Stand p l e R s m args below meth c T locs cells slots) (hx : p.tables.exec = Jvm.exec) (hZ : Z.Warmed39 s.vm) (hT : T.heap = h) (F : own_JA Z h a n fJ) {pc : Nat} {Ls : Array Slot} {rest : List Value} (hd : decode c.code pc = .ok (.arraylength, 1)) {z : Int32} (hz : n.toInt32 = z) (k : own_E p e below P (T.setTop (mkF m (pc + 1) Ls (.int z :: rest)))) :
    own_E p e below P (T.setTop (mkF m pc Ls (.ref a :: rest))) := by
  obtain ⟨cl, A, S, H⟩ := F
  exact own_s (X.arraylength hx (cell := cl) (by rw [hT]; exact A.1) (State.isArrayOf_alike hZ.alike A.2.1) (g := mkF m pc Ls (.ref a :: rest)) rfl (rest := rest) rfl hd) (by rw [S, hz]; exact k)
theorem own_ildI (X : Stand p l e R s m args below meth c T locs cells slots) (hx : p.tables.exec = Jvm.exec) (hZ : Z.Warmed39 s.vm) (hT : T.heap = h) (F : own_IA Z h a .int n f) {pc i : Nat} {Ls : Array Slot} {rest : List Value} {j x : Int32} (hd : decode c.code pc = .ok (.iaload, 1)) (hj : ¬ j < 0) (hi : j.toNatClampNeg = i) (hin : i < n) (hv : f i = x) (k : own_E p e below P (T.setTop (mkF m (pc + 1) Ls (.int x :: rest)))) :
    own_E p e below P (T.setTop (mkF m pc Ls (.int j :: .ref a :: rest))) := by
  obtain ⟨cl, A, S, H⟩ := F
  subst hv
  exact own_s (X.iaload hx (j := j) (v := .int (f i)) (by rw [hT]; exact A.1) (State.isArrayOf_alike hZ.alike A.2.1) A.2.2 (own_ins S hj hi hin) (by rw [hi]; exact H i hin) (g := mkF m pc Ls (.int j :: .ref a :: rest)) rfl rfl hd) k
theorem own_ildB (X : Stand p l e R s m args below meth c T locs cells slots) (hx : p.tables.exec = Jvm.exec) (hZ : Z.Warmed39 s.vm) (hT : T.heap = h) (F : own_IA Z h a .byte n f) {pc i : Nat} {Ls : Array Slot} {rest : List Value} {j x : Int32} (hd : decode c.code pc = .ok (.baload, 1)) (hj : ¬ j < 0) (hi : j.toNatClampNeg = i) (hin : i < n) (hv : f i = x) (k : own_E p e below P (T.setTop (mkF m (pc + 1) Ls (.int x :: rest)))) :
    own_E p e below P (T.setTop (mkF m pc Ls (.int j :: .ref a :: rest))) := by
  obtain ⟨cl, A, S, H⟩ := F
  subst hv
  exact own_s (X.baloadBytes hx (j := j) (v := .int (f i)) (by rw [hT]; exact A.1) (State.isArrayOf_alike hZ.alike A.2.1) A.2.2 (own_ins S hj hi hin) (by rw [hi]; exact H i hin) (g := mkF m pc Ls (.int j :: .ref a :: rest)) rfl rfl hd) k
theorem own_ildZ (X : Stand p l e R s m args below meth c T locs cells slots) (hx : p.tables.exec = Jvm.exec) (hZ : Z.Warmed39 s.vm) (hT : T.heap = h) (F : own_IA Z h a .boolean n f) {pc i : Nat} {Ls : Array Slot} {rest : List Value} {j x : Int32} (hd : decode c.code pc = .ok (.baload, 1)) (hj : ¬ j < 0) (hi : j.toNatClampNeg = i) (hin : i < n) (hv : f i = x) (k : own_E p e below P (T.setTop (mkF m (pc + 1) Ls (.int x :: rest)))) :
    own_E p e below P (T.setTop (mkF m pc Ls (.int j :: .ref a :: rest))) := by
  obtain ⟨cl, A, S, H⟩ := F
  subst hv
  exact own_s (X.baloadBooleans hx (j := j) (v := .int (f i)) (by rw [hT]; exact A.1) (State.isArrayOf_alike hZ.alike A.2.1) A.2.2 (own_ins S hj hi hin) (by rw [hi]; exact H i hin) (g := mkF m pc Ls (.int j :: .ref a :: rest)) rfl rfl hd) k
theorem own_ildJ (X : Stand p l e R s m args below meth c T locs cells slots) (hx : p.tables.exec = Jvm.exec) (hZ : Z.Warmed39 s.vm) (hT : T.heap = h) (F : own_JA Z h a n fJ) {pc i : Nat} {Ls : Array Slot} {rest : List Value} {j : Int32} {x : Int64} (hd : decode c.code pc = .ok (.laload, 1)) (hj : ¬ j < 0) (hi : j.toNatClampNeg = i) (hin : i < n) (hv : fJ i = x) (k : own_E p e below P (T.setTop (mkF m (pc + 1) Ls (.long x :: rest)))) :
    own_E p e below P (T.setTop (mkF m pc Ls (.int j :: .ref a :: rest))) := by
  obtain ⟨cl, A, S, H⟩ := F
  subst hv
  exact own_s (X.laload hx (j := j) (v := .long (fJ i)) (by rw [hT]; exact A.1) (State.isArrayOf_alike hZ.alike A.2.1) A.2.2 (own_ins S hj hi hin) (by rw [hi]; exact H i hin) (g := mkF m pc Ls (.int j :: .ref a :: rest)) rfl rfl hd) k
theorem own_stI (X : Stand p l e R s m args below meth c T locs cells slots) (hx : p.tables.exec = Jvm.exec) (hZ : Z.Warmed39 s.vm) (hT : T.heap = h) (F : own_IA Z h a .int n f) {pc i : Nat} {Ls : Array Slot} {rest : List Value} {j x : Int32} (hd : decode c.code pc = .ok (.iastore, 1)) (hj : ¬ j < 0) (hi : j.toNatClampNeg = i) (hin : i < n)
    (k : ∀ (T' : State) (h' : Heap), Stand p l e R s m args below meth c T' (locs ++ [⟨a, i⟩]) cells slots → T'.heap = h' → Wr h h' a i (.int x) → own_IA Z h' a .int n (own_set f i x) → own_E p e below P (T'.setTop (mkF m (pc + 1) Ls rest))) :
    own_E p e below P (T.setTop (mkF m pc Ls (.int x :: .int j :: .ref a :: rest))) := by
  obtain ⟨cl, A, S, H⟩ := F
  obtain ⟨T', h', X', e', W, st⟩ := stI X hx hZ hT A (j := j) (own_ins S hj hi hin) (g := mkF m pc Ls (.int x :: .int j :: .ref a :: rest)) rfl rfl hd
  subst hi
  exact own_s st (k T' h' X' e' W (own_setI W A S H))
theorem own_stB (X : Stand p l e R s m args below meth c T locs cells slots) (hx : p.tables.exec = Jvm.exec) (hZ : Z.Warmed39 s.vm) (hT : T.heap = h) (F : own_IA Z h a .byte n f) {pc i : Nat} {Ls : Array Slot} {rest : List Value} {j x : Int32} (hd : decode c.code pc = .ok (.bastore, 1)) (hj : ¬ j < 0) (hi : j.toNatClampNeg = i) (hin : i < n)
    (k : ∀ (T' : State) (h' : Heap), Stand p l e R s m args below meth c T' (locs ++ [⟨a, i⟩]) cells slots → T'.heap = h' → Wr h h' a i (.int (nar .byte x)) → own_IA Z h' a .byte n (own_set f i (nar .byte x)) → own_E p e below P (T'.setTop (mkF m (pc + 1) Ls rest))) :
    own_E p e below P (T.setTop (mkF m pc Ls (.int x :: .int j :: .ref a :: rest))) := by
  obtain ⟨cl, A, S, H⟩ := F
  obtain ⟨T', h', X', e', W, st⟩ := stB X hx hZ hT A (j := j) (own_ins S hj hi hin) (g := mkF m pc Ls (.int x :: .int j :: .ref a :: rest)) rfl rfl hd
  subst hi
  exact own_s st (k T' h' X' e' W (own_setI W A S H))
theorem own_stZ (X : Stand p l e R s m args below meth c T locs cells slots) (hx : p.tables.exec = Jvm.exec) (hZ : Z.Warmed39 s.vm) (hT : T.heap = h) (F : own_IA Z h a .boolean n f) {pc i : Nat} {Ls : Array Slot} {rest : List Value} {j x : Int32} (hd : decode c.code pc = .ok (.bastore, 1)) (hj : ¬ j < 0) (hi : j.toNatClampNeg = i) (hin : i < n)
    (k : ∀ (T' : State) (h' : Heap), Stand p l e R s m args below meth c T' (locs ++ [⟨a, i⟩]) cells slots → T'.heap = h' → Wr h h' a i (.int (nar .boolean x)) → own_IA Z h' a .boolean n (own_set f i (nar .boolean x)) → own_E p e below P (T'.setTop (mkF m (pc + 1) Ls rest))) :
    own_E p e below P (T.setTop (mkF m pc Ls (.int x :: .int j :: .ref a :: rest))) := by
  obtain ⟨cl, A, S, H⟩ := F
  obtain ⟨T', h', X', e', W, st⟩ := stZ X hx hZ hT A (j := j) (own_ins S hj hi hin) (g := mkF m pc Ls (.int x :: .int j :: .ref a :: rest)) rfl rfl hd
  subst hi
  exact own_s st (k T' h' X' e' W (own_setI W A S H))
theorem own_stJ (X : Stand p l e R s m args below meth c T locs cells slots) (hx : p.tables.exec = Jvm.exec) (hZ : Z.Warmed39 s.vm) (hT : T.heap = h) (F : own_JA Z h a n fJ) {pc i : Nat} {Ls : Array Slot} {rest : List Value} {j : Int32} {x : Int64} (hd : decode c.code pc = .ok (.lastore, 1)) (hj : ¬ j < 0) (hi : j.toNatClampNeg = i) (hin : i < n)
    (k : ∀ (T' : State) (h' : Heap), Stand p l e R s m args below meth c T' (locs ++ [⟨a, i⟩]) cells slots → T'.heap = h' → Wr h h' a i (.long x) → own_JA Z h' a n (own_set fJ i x) → own_E p e below P (T'.setTop (mkF m (pc + 1) Ls rest))) :
    own_E p e below P (T.setTop (mkF m pc Ls (.long x :: .int j :: .ref a :: rest))) := by
  obtain ⟨cl, A, S, H⟩ := F
  obtain ⟨T', h', X', e', W, st⟩ := stJ X hx hZ hT A (j := j) (own_ins S hj hi hin) (g := mkF m pc Ls (.long x :: .int j :: .ref a :: rest)) rfl rfl hd
  subst hi
  exact own_s st (k T' h' X' e' W (own_setJ W A S H))
theorem own_fr {k : Nat} {L : List Loc} {i : Nat} (N : Fr k L) (g : k ≤ a) : Fr k (L ++ [⟨a, i⟩]) := N.app fun y hy => by cases List.mem_singleton.mp hy; exact g
/-! longs compared -/
theorem own_lcT {x y : Int64} (q : x = y) : lcmpW x y = 0 := (lw_eq x y).mpr q
theorem own_lcF {x y : Int64} (q : ¬ x = y) : ¬ lcmpW x y = 0 := fun r => q ((lw_eq x y).mp r)
theorem own_llT {x y : Int64} (q : x < y) : lcmpW x y < 0 := (lw_lt x y).mpr q
theorem own_llF {x y : Int64} (q : ¬ x < y) : ¬ lcmpW x y < 0 := fun r => q ((lw_lt x y).mp r)
theorem own_lgT {x y : Int64} (q : y < x) : 0 < lcmpW x y := (lw_gt x y).mpr q
theorem own_lgF {x y : Int64} (q : ¬ y < x) : ¬ 0 < lcmpW x y := fun r => q ((lw_gt x y).mp r)
end Own
/-! ### small numbers -/
theorem own_mask (x : Int32) (M : Nat) (hM : M < 2 ^ 31) : ∃ n : Nat, n ≤ M ∧ (x &&& Int32.ofNat M) = Int32.ofNat n := by
  refine ⟨(x &&& Int32.ofNat M).toBitVec.toNat, ?_, ?_⟩
  · rw [Int32.toBitVec_and, BitVec.toNat_and, show (Int32.ofNat M).toBitVec = BitVec.ofNat 32 M from rfl, BitVec.toNat_ofNat, Nat.mod_eq_of_lt (by omega)]
    exact Nat.and_le_right
  · apply Int32.toBitVec_inj.mp
    show _ = BitVec.ofNat 32 _
    rw [BitVec.ofNat_toNat]; simp
theorem own_mod {n k : Nat} (hn : n < 2 ^ 31) (hk : k < 2 ^ 31) : Int32.ofNat n % Int32.ofNat k = Int32.ofNat (n % k) := by
  apply Int32.toInt_inj.mp
  have h1 : n % k ≤ n := Nat.mod_le _ _
  rw [Int32.toInt_mod, Int32.toInt_ofNat_of_lt (by omega), Int32.toInt_ofNat_of_lt (by omega), Int32.toInt_ofNat_of_lt (by omega)]
  exact (Int.ofNat_tmod n k).symm
theorem own_ushr (x : Int32) (s : UInt32) (hs : 0 < s.toNat % 32) : ∃ n : Nat, n < 2 ^ 31 ∧ (x.toUInt32 >>> s).toInt32 = Int32.ofNat n := by
  refine ⟨(x.toUInt32 >>> s).toNat, ?_, ?_⟩
  · rw [UInt32.toNat_shiftRight, Nat.shiftRight_eq_div_pow]
    have := x.toUInt32.toNat_lt
    have h2 : 2 ^ 1 ≤ 2 ^ (s.toNat % 32) := Nat.pow_le_pow_right (by decide) hs
    exact Nat.div_lt_of_lt_mul (by have := Nat.mul_le_mul_right (2 ^ 31) h2; omega)
  · apply Int32.toBitVec_inj.mp
    show (x.toUInt32 >>> s).toBitVec = BitVec.ofNat 32 _
    rw [show (x.toUInt32 >>> s).toNat = (x.toUInt32 >>> s).toBitVec.toNat from rfl, BitVec.ofNat_toNat]; simp
theorem own_nat32 {i : Nat} (h : i < 2 ^ 31) : ¬ Int32.ofNat i < 0 ∧ (Int32.ofNat i).toNatClampNeg = i := by
  rw [Int32.lt_iff_toInt_lt, Int32.toNatClampNeg, Int32.toInt_ofNat_of_lt (by omega)]
  refine ⟨?_, rfl⟩
  show ¬ ((i : Nat) : Int) < 0
  omega
theorem own_offN (x : Int32) (N : Nat) (h0 : 0 < N) (hN : N < 2 ^ 31) : ∃ i : Nat, i < N ∧ ((x &&& (2147483647 : Int32)) % Int32.ofNat N) = Int32.ofNat i := by
  obtain ⟨n, hn, e⟩ := own_mask x 2147483647 (by decide)
  refine ⟨n % N, Nat.mod_lt _ h0, ?_⟩
  rw [show (2147483647 : Int32) = Int32.ofNat 2147483647 from rfl, e, own_mod (by omega) hN]

theorem own_m64 {i : Nat} (hi : i < 64) : (4294967295#64).getLsbD i = decide (i < 32) := by
  have : ∀ i : Fin 64, (4294967295#64).getLsbD i.1 = decide (i.1 < 32) := by decide
  exact this ⟨i, hi⟩
theorem own_m8 {i : Nat} (hi : i < 64) : (255#64).getLsbD i = decide (i < 8) := by
  have : ∀ i : Fin 64, (255#64).getLsbD i.1 = decide (i.1 < 8) := by decide
  exact this ⟨i, hi⟩
/-- an int as an unsigned long -/
def own_U (x : Int32) : Int64 := x.toInt64 &&& (4294967295 : Int64)
theorem own_Ub (x : Int32) {i : Nat} (hi : i < 64) : (own_U x).toBitVec.getLsbD i = (decide (i < 32) && x.toBitVec.getLsbD i) := by
  unfold own_U
  rw [Int64.toBitVec_and, Int32.toBitVec_toInt64, show (4294967295 : Int64).toBitVec = 4294967295#64 from rfl, BitVec.getLsbD_and, own_m64 hi, BitVec.getLsbD_signExtend]
  by_cases q : i < 32 <;> simp [q, hi]
theorem own_A (x : Int64) : x &&& (4294967295 : Int64) = own_U x.toInt32 := by
  apply Int64.toBitVec_inj.mp
  apply BitVec.eq_of_getLsbD_eq
  intro i hi
  rw [own_Ub _ hi, Int64.toBitVec_and, show (4294967295 : Int64).toBitVec = 4294967295#64 from rfl, BitVec.getLsbD_and, own_m64 hi, Int64.toBitVec_toInt32, BitVec.signExtend_eq_setWidth_of_le _ (by decide), BitVec.getLsbD_setWidth]
  by_cases q : i < 32 <;> simp [q]
theorem own_B (h : Int32) : (own_U h).toInt32 = h := by
  apply Int32.toBitVec_inj.mp
  apply BitVec.eq_of_getLsbD_eq
  intro i hi
  rw [Int64.toBitVec_toInt32, BitVec.signExtend_eq_setWidth_of_le _ (by decide), BitVec.getLsbD_setWidth, own_Ub _ (by omega)]
  simp [hi]
theorem own_E6 (y : Int32) : own_U y ^^^ ((own_U y).toUInt64 >>> ((6 : Int32) &&& 0x3f).toInt64.toUInt64).toInt64 = own_U (y ^^^ (y.toUInt32 >>> ((6 : Int32) &&& 31).toUInt32).toInt32) := by
  rw [show ((6 : Int32) &&& 0x3f).toInt64.toUInt64 = 6 from by decide, show ((6 : Int32) &&& 31).toUInt32 = 6 from by decide]
  apply Int64.toBitVec_inj.mp
  apply BitVec.eq_of_getLsbD_eq
  intro i hi
  have e1 : ((own_U y).toUInt64 >>> 6).toInt64.toBitVec = (own_U y).toBitVec >>> 6 := by simp
  have e2 : ((y.toUInt32 >>> 6).toInt32).toBitVec = y.toBitVec >>> 6 := by simp
  rw [own_Ub _ hi, Int64.toBitVec_xor, BitVec.getLsbD_xor, e1, BitVec.getLsbD_ushiftRight, Int32.toBitVec_xor, BitVec.getLsbD_xor, e2, BitVec.getLsbD_ushiftRight, own_Ub _ hi]
  by_cases q : 6 + i < 64
  · rw [own_Ub _ q]
    by_cases r : i < 32
    · by_cases t : 6 + i < 32
      · simp [r, t]
      · simp [r, t, BitVec.getLsbD_of_ge y.toBitVec (6 + i) (by omega)]
    · simp [r, show ¬ 6 + i < 32 by omega]
  · rw [BitVec.getLsbD_of_ge (own_U y).toBitVec (6 + i) (by omega)]
    simp [show ¬ i < 32 by omega]
theorem own_E11 (y : Int32) : own_U y ^^^ ((own_U y).toUInt64 >>> ((11 : Int32) &&& 0x3f).toInt64.toUInt64).toInt64 = own_U (y ^^^ (y.toUInt32 >>> ((11 : Int32) &&& 31).toUInt32).toInt32) := by
  rw [show ((11 : Int32) &&& 0x3f).toInt64.toUInt64 = 11 from by decide, show ((11 : Int32) &&& 31).toUInt32 = 11 from by decide]
  apply Int64.toBitVec_inj.mp
  apply BitVec.eq_of_getLsbD_eq
  intro i hi
  have e1 : ((own_U y).toUInt64 >>> 11).toInt64.toBitVec = (own_U y).toBitVec >>> 11 := by simp
  have e2 : ((y.toUInt32 >>> 11).toInt32).toBitVec = y.toBitVec >>> 11 := by simp
  rw [own_Ub _ hi, Int64.toBitVec_xor, BitVec.getLsbD_xor, e1, BitVec.getLsbD_ushiftRight, Int32.toBitVec_xor, BitVec.getLsbD_xor, e2, BitVec.getLsbD_ushiftRight, own_Ub _ hi]
  by_cases q : 11 + i < 64
  · rw [own_Ub _ q]
    by_cases r : i < 32
    · by_cases t : 11 + i < 32
      · simp [r, t]
      · simp [r, t, BitVec.getLsbD_of_ge y.toBitVec (11 + i) (by omega)]
    · simp [r, show ¬ 11 + i < 32 by omega]
  · rw [BitVec.getLsbD_of_ge (own_U y).toBitVec (11 + i) (by omega)]
    simp [show ¬ i < 32 by omega]
def own_mix (a : Int64) : Int64 := ((a &&& (4294967295 : Int64)) * (1025 : Int64)) &&& (4294967295 : Int64)
def own_sx (u : Int32) : Int64 := if u < (128 : Int32) then u.toInt64 else (u - (256 : Int32)).toInt64
def own_step (h : Int64) (u : Int32) : Int64 := own_mix (h + own_sx u) ^^^ ((own_mix (h + own_sx u)).toUInt64 >>> ((6 : Int32) &&& 0x3f).toInt64.toUInt64).toInt64
def own_f1 (h : Int64) : Int64 := (h * (9 : Int64)) &&& (4294967295 : Int64)
def own_f2 (h : Int64) : Int64 := own_f1 h ^^^ ((own_f1 h).toUInt64 >>> ((11 : Int32) &&& 0x3f).toInt64.toUInt64).toInt64
def own_fin (h : Int64) : Int64 := (own_f2 h * (32769 : Int64)) &&& (4294967295 : Int64)
/-- the method's own ints -/
def own_o1 (h b : Int32) : Int32 := (h + b) + ((h + b) <<< ((10 : Int32) &&& 31))
def own_o2 (h b : Int32) : Int32 := own_o1 h b ^^^ ((own_o1 h b).toUInt32 >>> ((6 : Int32) &&& 31).toUInt32).toInt32
def own_g1 (h : Int32) : Int32 := h + (h <<< ((3 : Int32) &&& 31))
def own_g2 (h : Int32) : Int32 := own_g1 h ^^^ ((own_g1 h).toUInt32 >>> ((11 : Int32) &&& 31).toUInt32).toInt32
def own_g3 (h : Int32) : Int32 := own_g2 h + (own_g2 h <<< ((15 : Int32) &&& 31))
def own_b (w : Int64) : Int32 := nar .byte w.toInt32.toInt8.toInt32
def own_u (w : Int64) : Int32 := (w &&& (255 : Int64)).toInt32
theorem own_mulU (a k : Int64) : (a * k) &&& (4294967295 : Int64) = own_U (a.toInt32 * k.toInt32) := by rw [own_A, Int64.toInt32_mul]
theorem own_mixU (a : Int64) : own_mix a = own_U (a.toInt32 * 1025) := by
  unfold own_mix
  rw [own_mulU, own_A, own_B]; rfl
theorem own_ub (w : Int64) : (own_u w).toBitVec = (w.toBitVec.setWidth 8).setWidth 32 := by
  apply BitVec.eq_of_getLsbD_eq
  intro i hi
  unfold own_u
  rw [Int64.toBitVec_toInt32, BitVec.signExtend_eq_setWidth_of_le _ (by decide), BitVec.getLsbD_setWidth, Int64.toBitVec_and, show (255 : Int64).toBitVec = 255#64 from rfl, BitVec.getLsbD_and, own_m8 (by omega), BitVec.getLsbD_setWidth, BitVec.getLsbD_setWidth]
  by_cases q : i < 8 <;> simp [q, hi]
theorem own_bb (w : Int64) : (own_b w).toBitVec = (w.toBitVec.setWidth 8).signExtend 32 := by
  have e : ∀ v : BitVec 8, (v.signExtend 32).signExtend 8 = v := by decide
  show (nar .byte w.toInt32.toInt8.toInt32).toBitVec = _
  rw [show nar .byte w.toInt32.toInt8.toInt32 = w.toInt32.toInt8.toInt32.toInt8.toInt32 from rfl]
  rw [Int8.toBitVec_toInt32, Int32.toBitVec_toInt8, Int8.toBitVec_toInt32, e, Int32.toBitVec_toInt8, Int64.toBitVec_toInt32]
  congr 1
  rw [BitVec.signExtend_eq_setWidth_of_le _ (by decide), BitVec.signExtend_eq_setWidth_of_le _ (by decide)]
  apply BitVec.eq_of_getLsbD_eq
  intro i hi
  rw [BitVec.getLsbD_setWidth, BitVec.getLsbD_setWidth, BitVec.getLsbD_setWidth]
  simp [hi, show i < 32 by omega]
theorem own_C (w : Int64) : (own_sx (own_u w)).toInt32 = own_b w := by
  have key : ∀ v : BitVec 8, (if (Int32.ofBitVec (v.setWidth 32)) < (128 : Int32) then Int32.ofBitVec (v.setWidth 32) else Int32.ofBitVec (v.setWidth 32) - (256 : Int32)) = Int32.ofBitVec (v.signExtend 32) := by decide +kernel
  have e1 : own_u w = Int32.ofBitVec ((w.toBitVec.setWidth 8).setWidth 32) := Int32.toBitVec_inj.mp (own_ub w)
  have e2 : own_b w = Int32.ofBitVec ((w.toBitVec.setWidth 8).signExtend 32) := Int32.toBitVec_inj.mp (own_bb w)
  rw [e2, ← key (w.toBitVec.setWidth 8), ← e1]
  unfold own_sx
  split <;> simp
theorem own_st (h : Int32) (w : Int64) : own_step (own_U h) (own_u w) = own_U (own_o2 h (own_b w)) := by
  have e : own_mix (own_U h + own_sx (own_u w)) = own_U (own_o1 h (own_b w)) := by
    rw [own_mixU, Int64.toInt32_add, own_B, own_C, own_o1, shlm (m := 1024) (by decide), show (1025 : Int32) = 1 + 1024 from by decide, Int32.mul_add, Int32.mul_one]
  unfold own_step own_o2
  rw [e, own_E6]
theorem own_fi (h : Int32) : own_fin (own_U h) = own_U (own_g3 h) := by
  have e1 : own_f1 (own_U h) = own_U (own_g1 h) := by
    unfold own_f1 own_g1
    rw [own_mulU, own_B, shlm (m := 8) (by decide), show (9 : Int64).toInt32 = 1 + 8 from by decide, Int32.mul_add, Int32.mul_one]
  have e2 : own_f2 (own_U h) = own_U (own_g2 h) := by
    unfold own_f2 own_g2
    rw [e1, own_E11]
  unfold own_fin own_g3
  rw [e2, own_mulU, own_B, shlm (m := 32768) (by decide), show (32769 : Int64).toInt32 = 1 + 32768 from by decide, Int32.mul_add, Int32.mul_one]
def own_fold (f : Nat → Int32) : Nat → Nat → Int32 → Int32
  | 0, _, h => h
  | k + 1, i, h => own_fold f k (i + 1) (own_o2 h (f i))
theorem own_off (x : Int32) : ∃ i : Nat, i < 9 ∧ ((x &&& (2147483647 : Int32)) % (9 : Int32)) = Int32.ofNat i := own_offN x 9 (by decide) (by decide)
theorem own_nn {i : Nat} (h : i < 1000) : ¬ Int32.ofNat i < 0 ∧ (Int32.ofNat i).toNatClampNeg = i := by
  rw [Int32.lt_iff_toInt_lt, Int32.toNatClampNeg, Int32.toInt_ofNat_of_lt (by omega)]
  refine ⟨?_, rfl⟩
  show ¬ ((i : Nat) : Int) < 0
  omega
theorem own_lt {i n : Nat} (h : i < n) (hn : n ≤ 255) : Int32.ofNat i < Int32.ofNat n := by
  rw [Int32.lt_iff_toInt_lt, Int32.toInt_ofNat_of_lt (by omega), Int32.toInt_ofNat_of_lt (by omega)]
  omega
theorem own_one (i : Nat) : Int32.ofNat i + (1 : Int32) = Int32.ofNat (i + 1) := (Int32.ofNat_add i 1).symm
theorem own_pn0 : plainName "java/lang/Integer" = true := by first | (simp [plainName, overriddenIn]; done) | decide +kernel
theorem od_j33_42_0 : decode jdk_33_method_42_code 0 = .ok (.iload_n 0, 1) := by decide +kernel
theorem od_j33_42_1 : decode jdk_33_method_42_code 1 = .ok (.i2l, 1) := by decide +kernel
theorem od_j33_42_2 : decode jdk_33_method_42_code 2 = .ok (.ldc2_w 262, 3) := by decide +kernel
theorem od_j33_42_5 : decode jdk_33_method_42_code 5 = .ok (.land, 1) := by decide +kernel
theorem od_j33_42_6 : decode jdk_33_method_42_code 6 = .ok (.lreturn, 1) := by decide +kernel
set_option maxRecDepth 65536 in
set_option maxHeartbeats 40000000 in
theorem own_c_tul (l : Launch) (Z : State) (a0 : Array Value) (hw : ∀ d ∈ tables_1, d.before a0 Z = true) (x0 : Int32) (h0 : Heap) :
    own_Con l Z (⟨"java/lang/Integer", "toUnsignedLong", "(I)J"⟩ : MethodName) jdk_33_method_42_code 1 (some .long) [] ({ frames := 0, cells := 0, slots := 0, locals := 0 } : Room) #[(.int x0)] h0 (fun v h L => v = some (.long (own_U x0)) ∧ L = [] ∧ h = h0) := by
  refine own_enter (plainFor_of_name own_pn0) ?_
  intro p e s m below meth c s₁ X0 e0 hx hZ hby hml hown hnm hret hlk
  refine own_cast (g' := (mkF m 0 #[.val (.int x0)] [])) (by first | (simp [entryFrame, mkF, argsToLocals, Value.category]; done) | rfl) ?_
  refine own_g (mkF m 1 #[.val (.int x0)] [(.int x0)]) (fun _ kz => XS.iloadN X0.here hx rfl (hb hby od_j33_42_0) rfl kz) ?_
  refine own_g (mkF m 2 #[.val (.int x0)] [(.long x0.toInt64)]) (fun _ kz => XS.i2l X0.here hx rfl (hb hby od_j33_42_1) rfl kz) ?_
  refine own_g (mkF m 5 #[.val (.int x0)] [(.long (4294967295 : Int64)), (.long x0.toInt64)]) (fun _ kz => X0.ldc2Long hx hown (mvT hZ (own_w hw 22 rfl)) (g := (mkF m 2 #[.val (.int x0)] [(.long x0.toInt64)])) rfl (hb hby od_j33_42_2) _ kz) ?_
  refine own_g (mkF m 6 #[.val (.int x0)] [(.long (x0.toInt64 &&& (4294967295 : Int64)))]) (fun _ kz => XS.land X0.here hx rfl (hb hby od_j33_42_5) rfl kz) ?_
  exact own_retJ X0 hx hret hlk (hb hby od_j33_42_6) (by decide) (by decide) (by first | exact ⟨rfl, rfl, rfl⟩ | (rw [e0]; exact ⟨rfl, rfl, rfl⟩))
theorem own_pn1 : plainName "com/example/anchored_ring/anchoredring/HashesOneAtATimePinLaw" = true := by first | (simp [plainName, overriddenIn]; done) | decide +kernel
theorem od_4_0 : decode method_4_code 0 = .ok (.ldc2_w 26, 3) := by decide +kernel
theorem od_4_3 : decode method_4_code 3 = .ok (.lstore_n 2, 1) := by decide +kernel
theorem od_4_4 : decode method_4_code 4 = .ok (.lload_n 0, 1) := by decide +kernel
theorem od_4_5 : decode method_4_code 5 = .ok (.ldc2_w 30, 3) := by decide +kernel
theorem od_4_8 : decode method_4_code 8 = .ok (.lmul, 1) := by decide +kernel
theorem od_4_9 : decode method_4_code 9 = .ok (.lload_n 2, 1) := by decide +kernel
theorem od_4_10 : decode method_4_code 10 = .ok (.land, 1) := by decide +kernel
theorem od_4_11 : decode method_4_code 11 = .ok (.lstore 4, 2) := by decide +kernel
theorem od_4_13 : decode method_4_code 13 = .ok (.lload 4, 2) := by decide +kernel
theorem od_4_15 : decode method_4_code 15 = .ok (.lload 4, 2) := by decide +kernel
theorem od_4_17 : decode method_4_code 17 = .ok (.bipush 11, 2) := by decide +kernel
theorem od_4_19 : decode method_4_code 19 = .ok (.lushr, 1) := by decide +kernel
theorem od_4_20 : decode method_4_code 20 = .ok (.lxor, 1) := by decide +kernel
theorem od_4_21 : decode method_4_code 21 = .ok (.lstore 6, 2) := by decide +kernel
theorem od_4_23 : decode method_4_code 23 = .ok (.lload 6, 2) := by decide +kernel
theorem od_4_25 : decode method_4_code 25 = .ok (.ldc2_w 32, 3) := by decide +kernel
theorem od_4_28 : decode method_4_code 28 = .ok (.lmul, 1) := by decide +kernel
theorem od_4_29 : decode method_4_code 29 = .ok (.lload_n 2, 1) := by decide +kernel
theorem od_4_30 : decode method_4_code 30 = .ok (.land, 1) := by decide +kernel
theorem od_4_31 : decode method_4_code 31 = .ok (.lreturn, 1) := by decide +kernel
set_option maxRecDepth 65536 in
set_option maxHeartbeats 40000000 in
theorem own_c_fin (l : Launch) (Z : State) (a0 : Array Value) (hw : ∀ d ∈ tables_1, d.before a0 Z = true) (x0 : Int64) (h0 : Heap) :
    own_Con l Z (⟨"com/example/anchored_ring/anchoredring/HashesOneAtATimePinLaw", "finish", "(J)J"⟩ : MethodName) method_4_code 8 (some .long) [] ({ frames := 0, cells := 0, slots := 0, locals := 0 } : Room) #[(.long x0)] h0 (fun v h L => v = some (.long (own_fin x0)) ∧ L = [] ∧ h = h0) := by
  refine own_enter (plainFor_of_name own_pn1) ?_
  intro p e s m below meth c s₁ X0 e0 hx hZ hby hml hown hnm hret hlk
  refine own_cast (g' := (mkF m 0 #[.val (.long x0), .second, .unset, .unset, .unset, .unset, .unset, .unset] [])) (by first | (simp [entryFrame, mkF, argsToLocals, Value.category]; done) | rfl) ?_
  refine own_g (mkF m 3 #[.val (.long x0), .second, .unset, .unset, .unset, .unset, .unset, .unset] [(.long (4294967295 : Int64))]) (fun _ kz => X0.ldc2Long hx hown (mvT hZ (own_w hw 7 rfl)) (g := (mkF m 0 #[.val (.long x0), .second, .unset, .unset, .unset, .unset, .unset, .unset] [])) rfl (hb hby od_4_0) _ kz) ?_
  refine own_g (mkF m 4 #[.val (.long x0), .second, .val (.long (4294967295 : Int64)), .second, .unset, .unset, .unset, .unset] []) (fun _ kz => XS.lstoreN X0.here hx rfl (hb hby od_4_3) rfl (l' := #[.val (.long x0), .second, .val (.long (4294967295 : Int64)), .second, .unset, .unset, .unset, .unset]) rfl kz) ?_
  refine own_g (mkF m 5 #[.val (.long x0), .second, .val (.long (4294967295 : Int64)), .second, .unset, .unset, .unset, .unset] [(.long x0)]) (fun _ kz => XS.lloadN X0.here hx rfl (hb hby od_4_4) rfl kz) ?_
  refine own_g (mkF m 8 #[.val (.long x0), .second, .val (.long (4294967295 : Int64)), .second, .unset, .unset, .unset, .unset] [(.long (9 : Int64)), (.long x0)]) (fun _ kz => X0.ldc2Long hx hown (mvT hZ (own_w hw 12 rfl)) (g := (mkF m 5 #[.val (.long x0), .second, .val (.long (4294967295 : Int64)), .second, .unset, .unset, .unset, .unset] [(.long x0)])) rfl (hb hby od_4_5) _ kz) ?_
  refine own_g (mkF m 9 #[.val (.long x0), .second, .val (.long (4294967295 : Int64)), .second, .unset, .unset, .unset, .unset] [(.long (x0 * (9 : Int64)))]) (fun _ kz => XS.lmul X0.here hx rfl (hb hby od_4_8) rfl kz) ?_
  refine own_g (mkF m 10 #[.val (.long x0), .second, .val (.long (4294967295 : Int64)), .second, .unset, .unset, .unset, .unset] [(.long (4294967295 : Int64)), (.long (x0 * (9 : Int64)))]) (fun _ kz => XS.lloadN X0.here hx rfl (hb hby od_4_9) rfl kz) ?_
  refine own_g (mkF m 11 #[.val (.long x0), .second, .val (.long (4294967295 : Int64)), .second, .unset, .unset, .unset, .unset] [(.long ((x0 * (9 : Int64)) &&& (4294967295 : Int64)))]) (fun _ kz => XS.land X0.here hx rfl (hb hby od_4_10) rfl kz) ?_
  refine own_g (mkF m 13 #[.val (.long x0), .second, .val (.long (4294967295 : Int64)), .second, .val (.long ((x0 * (9 : Int64)) &&& (4294967295 : Int64))), .second, .unset, .unset] []) (fun _ kz => XS.lstore X0.here hx rfl (hb hby od_4_11) rfl (l' := #[.val (.long x0), .second, .val (.long (4294967295 : Int64)), .second, .val (.long ((x0 * (9 : Int64)) &&& (4294967295 : Int64))), .second, .unset, .unset]) rfl kz) ?_
  refine own_g (mkF m 15 #[.val (.long x0), .second, .val (.long (4294967295 : Int64)), .second, .val (.long ((x0 * (9 : Int64)) &&& (4294967295 : Int64))), .second, .unset, .unset] [(.long ((x0 * (9 : Int64)) &&& (4294967295 : Int64)))]) (fun _ kz => XS.lload X0.here hx rfl (hb hby od_4_13) rfl kz) ?_
  refine own_g (mkF m 17 #[.val (.long x0), .second, .val (.long (4294967295 : Int64)), .second, .val (.long ((x0 * (9 : Int64)) &&& (4294967295 : Int64))), .second, .unset, .unset] [(.long ((x0 * (9 : Int64)) &&& (4294967295 : Int64))), (.long ((x0 * (9 : Int64)) &&& (4294967295 : Int64)))]) (fun _ kz => XS.lload X0.here hx rfl (hb hby od_4_15) rfl kz) ?_
  refine own_g (mkF m 19 #[.val (.long x0), .second, .val (.long (4294967295 : Int64)), .second, .val (.long ((x0 * (9 : Int64)) &&& (4294967295 : Int64))), .second, .unset, .unset] [(.int (11 : Int32)), (.long ((x0 * (9 : Int64)) &&& (4294967295 : Int64))), (.long ((x0 * (9 : Int64)) &&& (4294967295 : Int64)))]) (fun _ kz => XS.bipush X0.here hx rfl (hb hby od_4_17) kz) ?_
  refine own_g (mkF m 20 #[.val (.long x0), .second, .val (.long (4294967295 : Int64)), .second, .val (.long ((x0 * (9 : Int64)) &&& (4294967295 : Int64))), .second, .unset, .unset] [(.long ((((x0 * (9 : Int64)) &&& (4294967295 : Int64)).toUInt64 >>> ((11 : Int32) &&& 0x3f).toInt64.toUInt64).toInt64)), (.long ((x0 * (9 : Int64)) &&& (4294967295 : Int64)))]) (fun _ kz => XS.lushr X0.here hx rfl (hb hby od_4_19) rfl kz) ?_
  refine own_g (mkF m 21 #[.val (.long x0), .second, .val (.long (4294967295 : Int64)), .second, .val (.long ((x0 * (9 : Int64)) &&& (4294967295 : Int64))), .second, .unset, .unset] [(.long (((x0 * (9 : Int64)) &&& (4294967295 : Int64)) ^^^ ((((x0 * (9 : Int64)) &&& (4294967295 : Int64)).toUInt64 >>> ((11 : Int32) &&& 0x3f).toInt64.toUInt64).toInt64)))]) (fun _ kz => XS.lxor X0.here hx rfl (hb hby od_4_20) rfl kz) ?_
  refine own_g (mkF m 23 #[.val (.long x0), .second, .val (.long (4294967295 : Int64)), .second, .val (.long ((x0 * (9 : Int64)) &&& (4294967295 : Int64))), .second, .val (.long (((x0 * (9 : Int64)) &&& (4294967295 : Int64)) ^^^ ((((x0 * (9 : Int64)) &&& (4294967295 : Int64)).toUInt64 >>> ((11 : Int32) &&& 0x3f).toInt64.toUInt64).toInt64))), .second] []) (fun _ kz => XS.lstore X0.here hx rfl (hb hby od_4_21) rfl (l' := #[.val (.long x0), .second, .val (.long (4294967295 : Int64)), .second, .val (.long ((x0 * (9 : Int64)) &&& (4294967295 : Int64))), .second, .val (.long (((x0 * (9 : Int64)) &&& (4294967295 : Int64)) ^^^ ((((x0 * (9 : Int64)) &&& (4294967295 : Int64)).toUInt64 >>> ((11 : Int32) &&& 0x3f).toInt64.toUInt64).toInt64))), .second]) rfl kz) ?_
  refine own_g (mkF m 25 #[.val (.long x0), .second, .val (.long (4294967295 : Int64)), .second, .val (.long ((x0 * (9 : Int64)) &&& (4294967295 : Int64))), .second, .val (.long (((x0 * (9 : Int64)) &&& (4294967295 : Int64)) ^^^ ((((x0 * (9 : Int64)) &&& (4294967295 : Int64)).toUInt64 >>> ((11 : Int32) &&& 0x3f).toInt64.toUInt64).toInt64))), .second] [(.long (((x0 * (9 : Int64)) &&& (4294967295 : Int64)) ^^^ ((((x0 * (9 : Int64)) &&& (4294967295 : Int64)).toUInt64 >>> ((11 : Int32) &&& 0x3f).toInt64.toUInt64).toInt64)))]) (fun _ kz => XS.lload X0.here hx rfl (hb hby od_4_23) rfl kz) ?_
  refine own_g (mkF m 28 #[.val (.long x0), .second, .val (.long (4294967295 : Int64)), .second, .val (.long ((x0 * (9 : Int64)) &&& (4294967295 : Int64))), .second, .val (.long (((x0 * (9 : Int64)) &&& (4294967295 : Int64)) ^^^ ((((x0 * (9 : Int64)) &&& (4294967295 : Int64)).toUInt64 >>> ((11 : Int32) &&& 0x3f).toInt64.toUInt64).toInt64))), .second] [(.long (32769 : Int64)), (.long (((x0 * (9 : Int64)) &&& (4294967295 : Int64)) ^^^ ((((x0 * (9 : Int64)) &&& (4294967295 : Int64)).toUInt64 >>> ((11 : Int32) &&& 0x3f).toInt64.toUInt64).toInt64)))]) (fun _ kz => X0.ldc2Long hx hown (mvT hZ (own_w hw 13 rfl)) (g := (mkF m 25 #[.val (.long x0), .second, .val (.long (4294967295 : Int64)), .second, .val (.long ((x0 * (9 : Int64)) &&& (4294967295 : Int64))), .second, .val (.long (((x0 * (9 : Int64)) &&& (4294967295 : Int64)) ^^^ ((((x0 * (9 : Int64)) &&& (4294967295 : Int64)).toUInt64 >>> ((11 : Int32) &&& 0x3f).toInt64.toUInt64).toInt64))), .second] [(.long (((x0 * (9 : Int64)) &&& (4294967295 : Int64)) ^^^ ((((x0 * (9 : Int64)) &&& (4294967295 : Int64)).toUInt64 >>> ((11 : Int32) &&& 0x3f).toInt64.toUInt64).toInt64)))])) rfl (hb hby od_4_25) _ kz) ?_
  refine own_g (mkF m 29 #[.val (.long x0), .second, .val (.long (4294967295 : Int64)), .second, .val (.long ((x0 * (9 : Int64)) &&& (4294967295 : Int64))), .second, .val (.long (((x0 * (9 : Int64)) &&& (4294967295 : Int64)) ^^^ ((((x0 * (9 : Int64)) &&& (4294967295 : Int64)).toUInt64 >>> ((11 : Int32) &&& 0x3f).toInt64.toUInt64).toInt64))), .second] [(.long ((((x0 * (9 : Int64)) &&& (4294967295 : Int64)) ^^^ ((((x0 * (9 : Int64)) &&& (4294967295 : Int64)).toUInt64 >>> ((11 : Int32) &&& 0x3f).toInt64.toUInt64).toInt64)) * (32769 : Int64)))]) (fun _ kz => XS.lmul X0.here hx rfl (hb hby od_4_28) rfl kz) ?_
  refine own_g (mkF m 30 #[.val (.long x0), .second, .val (.long (4294967295 : Int64)), .second, .val (.long ((x0 * (9 : Int64)) &&& (4294967295 : Int64))), .second, .val (.long (((x0 * (9 : Int64)) &&& (4294967295 : Int64)) ^^^ ((((x0 * (9 : Int64)) &&& (4294967295 : Int64)).toUInt64 >>> ((11 : Int32) &&& 0x3f).toInt64.toUInt64).toInt64))), .second] [(.long (4294967295 : Int64)), (.long ((((x0 * (9 : Int64)) &&& (4294967295 : Int64)) ^^^ ((((x0 * (9 : Int64)) &&& (4294967295 : Int64)).toUInt64 >>> ((11 : Int32) &&& 0x3f).toInt64.toUInt64).toInt64)) * (32769 : Int64)))]) (fun _ kz => XS.lloadN X0.here hx rfl (hb hby od_4_29) rfl kz) ?_
  refine own_g (mkF m 31 #[.val (.long x0), .second, .val (.long (4294967295 : Int64)), .second, .val (.long ((x0 * (9 : Int64)) &&& (4294967295 : Int64))), .second, .val (.long (((x0 * (9 : Int64)) &&& (4294967295 : Int64)) ^^^ ((((x0 * (9 : Int64)) &&& (4294967295 : Int64)).toUInt64 >>> ((11 : Int32) &&& 0x3f).toInt64.toUInt64).toInt64))), .second] [(.long (((((x0 * (9 : Int64)) &&& (4294967295 : Int64)) ^^^ ((((x0 * (9 : Int64)) &&& (4294967295 : Int64)).toUInt64 >>> ((11 : Int32) &&& 0x3f).toInt64.toUInt64).toInt64)) * (32769 : Int64)) &&& (4294967295 : Int64)))]) (fun _ kz => XS.land X0.here hx rfl (hb hby od_4_30) rfl kz) ?_
  exact own_retJ X0 hx hret hlk (hb hby od_4_31) (by decide) (by decide) (by first | exact ⟨rfl, rfl, rfl⟩ | (rw [e0]; exact ⟨rfl, rfl, rfl⟩))
theorem od_3_0 : decode method_3_code 0 = .ok (.ldc2_w 26, 3) := by decide +kernel
theorem od_3_3 : decode method_3_code 3 = .ok (.lstore_n 3, 1) := by decide +kernel
theorem od_3_4 : decode method_3_code 4 = .ok (.iload_n 2, 1) := by decide +kernel
theorem od_3_5 : decode method_3_code 5 = .ok (.sipush 128, 3) := by decide +kernel
theorem od_3_8 : decode method_3_code 8 = .ok (.if_icmp .lt 14, 3) := by decide +kernel
theorem od_3_22 : decode method_3_code 22 = .ok (.iload_n 2, 1) := by decide +kernel
theorem od_3_23 : decode method_3_code 23 = .ok (.i2l, 1) := by decide +kernel
theorem od_3_24 : decode method_3_code 24 = .ok (.lstore 5, 2) := by decide +kernel
theorem od_3_26 : decode method_3_code 26 = .ok (.lload_n 0, 1) := by decide +kernel
theorem od_3_27 : decode method_3_code 27 = .ok (.lload 5, 2) := by decide +kernel
theorem od_3_29 : decode method_3_code 29 = .ok (.ladd, 1) := by decide +kernel
theorem od_3_30 : decode method_3_code 30 = .ok (.lload_n 3, 1) := by decide +kernel
theorem od_3_31 : decode method_3_code 31 = .ok (.land, 1) := by decide +kernel
theorem od_3_32 : decode method_3_code 32 = .ok (.lstore 7, 2) := by decide +kernel
theorem od_3_34 : decode method_3_code 34 = .ok (.lload 7, 2) := by decide +kernel
theorem od_3_36 : decode method_3_code 36 = .ok (.ldc2_w 28, 3) := by decide +kernel
theorem od_3_39 : decode method_3_code 39 = .ok (.lmul, 1) := by decide +kernel
theorem od_3_40 : decode method_3_code 40 = .ok (.lload_n 3, 1) := by decide +kernel
theorem od_3_41 : decode method_3_code 41 = .ok (.land, 1) := by decide +kernel
theorem od_3_42 : decode method_3_code 42 = .ok (.lstore 9, 2) := by decide +kernel
theorem od_3_44 : decode method_3_code 44 = .ok (.lload 9, 2) := by decide +kernel
theorem od_3_46 : decode method_3_code 46 = .ok (.lload 9, 2) := by decide +kernel
theorem od_3_48 : decode method_3_code 48 = .ok (.bipush 6, 2) := by decide +kernel
theorem od_3_50 : decode method_3_code 50 = .ok (.lushr, 1) := by decide +kernel
theorem od_3_51 : decode method_3_code 51 = .ok (.lxor, 1) := by decide +kernel
theorem od_3_52 : decode method_3_code 52 = .ok (.lreturn, 1) := by decide +kernel
theorem od_3_11 : decode method_3_code 11 = .ok (.iload_n 2, 1) := by decide +kernel
theorem od_3_12 : decode method_3_code 12 = .ok (.sipush 256, 3) := by decide +kernel
theorem od_3_15 : decode method_3_code 15 = .ok (.isub, 1) := by decide +kernel
theorem od_3_16 : decode method_3_code 16 = .ok (.i2l, 1) := by decide +kernel
theorem od_3_17 : decode method_3_code 17 = .ok (.lstore 5, 2) := by decide +kernel
theorem od_3_19 : decode method_3_code 19 = .ok (.goto 7, 3) := by decide +kernel
set_option maxRecDepth 65536 in
set_option maxHeartbeats 40000000 in
theorem own_c_step (l : Launch) (Z : State) (a0 : Array Value) (hw : ∀ d ∈ tables_1, d.before a0 Z = true) (x0 : Int64) (x1 : Int32) (h0 : Heap) :
    own_Con l Z (⟨"com/example/anchored_ring/anchoredring/HashesOneAtATimePinLaw", "step", "(JI)J"⟩ : MethodName) method_3_code 11 (some .long) [] ({ frames := 0, cells := 0, slots := 0, locals := 0 } : Room) #[(.long x0), (.int x1)] h0 (fun v h L => v = some (.long (own_step x0 x1)) ∧ L = [] ∧ h = h0) := by
  refine own_enter (plainFor_of_name own_pn1) ?_
  intro p e s m below meth c s₁ X0 e0 hx hZ hby hml hown hnm hret hlk
  refine own_cast (g' := (mkF m 0 #[.val (.long x0), .second, .val (.int x1), .unset, .unset, .unset, .unset, .unset, .unset, .unset, .unset] [])) (by first | (simp [entryFrame, mkF, argsToLocals, Value.category]; done) | rfl) ?_
  refine own_g (mkF m 3 #[.val (.long x0), .second, .val (.int x1), .unset, .unset, .unset, .unset, .unset, .unset, .unset, .unset] [(.long (4294967295 : Int64))]) (fun _ kz => X0.ldc2Long hx hown (mvT hZ (own_w hw 7 rfl)) (g := (mkF m 0 #[.val (.long x0), .second, .val (.int x1), .unset, .unset, .unset, .unset, .unset, .unset, .unset, .unset] [])) rfl (hb hby od_3_0) _ kz) ?_
  refine own_g (mkF m 4 #[.val (.long x0), .second, .val (.int x1), .val (.long (4294967295 : Int64)), .second, .unset, .unset, .unset, .unset, .unset, .unset] []) (fun _ kz => XS.lstoreN X0.here hx rfl (hb hby od_3_3) rfl (l' := #[.val (.long x0), .second, .val (.int x1), .val (.long (4294967295 : Int64)), .second, .unset, .unset, .unset, .unset, .unset, .unset]) rfl kz) ?_
  refine own_g (mkF m 5 #[.val (.long x0), .second, .val (.int x1), .val (.long (4294967295 : Int64)), .second, .unset, .unset, .unset, .unset, .unset, .unset] [(.int x1)]) (fun _ kz => XS.iloadN X0.here hx rfl (hb hby od_3_4) rfl kz) ?_
  refine own_g (mkF m 8 #[.val (.long x0), .second, .val (.int x1), .val (.long (4294967295 : Int64)), .second, .unset, .unset, .unset, .unset, .unset, .unset] [(.int (128 : Int32)), (.int x1)]) (fun _ kz => XS.sipush X0.here hx rfl (hb hby od_3_5) kz) ?_
  by_cases hc8_1 : x1 < (128 : Int32)
  · refine own_g (mkF m 22 #[.val (.long x0), .second, .val (.int x1), .val (.long (4294967295 : Int64)), .second, .unset, .unset, .unset, .unset, .unset, .unset] []) (fun _ kz => XS.icmpYes X0.here hx rfl (pc0 := 8) (pc' := 22) rfl (hb hby od_3_8) rfl (tlt hc8_1).1 (by decide) (by decide) kz) ?_
    refine own_g (mkF m 23 #[.val (.long x0), .second, .val (.int x1), .val (.long (4294967295 : Int64)), .second, .unset, .unset, .unset, .unset, .unset, .unset] [(.int x1)]) (fun _ kz => XS.iloadN X0.here hx rfl (hb hby od_3_22) rfl kz) ?_
    refine own_g (mkF m 24 #[.val (.long x0), .second, .val (.int x1), .val (.long (4294967295 : Int64)), .second, .unset, .unset, .unset, .unset, .unset, .unset] [(.long x1.toInt64)]) (fun _ kz => XS.i2l X0.here hx rfl (hb hby od_3_23) rfl kz) ?_
    refine own_g (mkF m 26 #[.val (.long x0), .second, .val (.int x1), .val (.long (4294967295 : Int64)), .second, .val (.long x1.toInt64), .second, .unset, .unset, .unset, .unset] []) (fun _ kz => XS.lstore X0.here hx rfl (hb hby od_3_24) rfl (l' := #[.val (.long x0), .second, .val (.int x1), .val (.long (4294967295 : Int64)), .second, .val (.long x1.toInt64), .second, .unset, .unset, .unset, .unset]) rfl kz) ?_
    refine own_g (mkF m 27 #[.val (.long x0), .second, .val (.int x1), .val (.long (4294967295 : Int64)), .second, .val (.long x1.toInt64), .second, .unset, .unset, .unset, .unset] [(.long x0)]) (fun _ kz => XS.lloadN X0.here hx rfl (hb hby od_3_26) rfl kz) ?_
    refine own_g (mkF m 29 #[.val (.long x0), .second, .val (.int x1), .val (.long (4294967295 : Int64)), .second, .val (.long x1.toInt64), .second, .unset, .unset, .unset, .unset] [(.long x1.toInt64), (.long x0)]) (fun _ kz => XS.lload X0.here hx rfl (hb hby od_3_27) rfl kz) ?_
    refine own_g (mkF m 30 #[.val (.long x0), .second, .val (.int x1), .val (.long (4294967295 : Int64)), .second, .val (.long x1.toInt64), .second, .unset, .unset, .unset, .unset] [(.long (x0 + x1.toInt64))]) (fun _ kz => XS.ladd X0.here hx rfl (hb hby od_3_29) rfl kz) ?_
    refine own_g (mkF m 31 #[.val (.long x0), .second, .val (.int x1), .val (.long (4294967295 : Int64)), .second, .val (.long x1.toInt64), .second, .unset, .unset, .unset, .unset] [(.long (4294967295 : Int64)), (.long (x0 + x1.toInt64))]) (fun _ kz => XS.lloadN X0.here hx rfl (hb hby od_3_30) rfl kz) ?_
    refine own_g (mkF m 32 #[.val (.long x0), .second, .val (.int x1), .val (.long (4294967295 : Int64)), .second, .val (.long x1.toInt64), .second, .unset, .unset, .unset, .unset] [(.long ((x0 + x1.toInt64) &&& (4294967295 : Int64)))]) (fun _ kz => XS.land X0.here hx rfl (hb hby od_3_31) rfl kz) ?_
    refine own_g (mkF m 34 #[.val (.long x0), .second, .val (.int x1), .val (.long (4294967295 : Int64)), .second, .val (.long x1.toInt64), .second, .val (.long ((x0 + x1.toInt64) &&& (4294967295 : Int64))), .second, .unset, .unset] []) (fun _ kz => XS.lstore X0.here hx rfl (hb hby od_3_32) rfl (l' := #[.val (.long x0), .second, .val (.int x1), .val (.long (4294967295 : Int64)), .second, .val (.long x1.toInt64), .second, .val (.long ((x0 + x1.toInt64) &&& (4294967295 : Int64))), .second, .unset, .unset]) rfl kz) ?_
    refine own_g (mkF m 36 #[.val (.long x0), .second, .val (.int x1), .val (.long (4294967295 : Int64)), .second, .val (.long x1.toInt64), .second, .val (.long ((x0 + x1.toInt64) &&& (4294967295 : Int64))), .second, .unset, .unset] [(.long ((x0 + x1.toInt64) &&& (4294967295 : Int64)))]) (fun _ kz => XS.lload X0.here hx rfl (hb hby od_3_34) rfl kz) ?_
    refine own_g (mkF m 39 #[.val (.long x0), .second, .val (.int x1), .val (.long (4294967295 : Int64)), .second, .val (.long x1.toInt64), .second, .val (.long ((x0 + x1.toInt64) &&& (4294967295 : Int64))), .second, .unset, .unset] [(.long (1025 : Int64)), (.long ((x0 + x1.toInt64) &&& (4294967295 : Int64)))]) (fun _ kz => X0.ldc2Long hx hown (mvT hZ (own_w hw 8 rfl)) (g := (mkF m 36 #[.val (.long x0), .second, .val (.int x1), .val (.long (4294967295 : Int64)), .second, .val (.long x1.toInt64), .second, .val (.long ((x0 + x1.toInt64) &&& (4294967295 : Int64))), .second, .unset, .unset] [(.long ((x0 + x1.toInt64) &&& (4294967295 : Int64)))])) rfl (hb hby od_3_36) _ kz) ?_
    refine own_g (mkF m 40 #[.val (.long x0), .second, .val (.int x1), .val (.long (4294967295 : Int64)), .second, .val (.long x1.toInt64), .second, .val (.long ((x0 + x1.toInt64) &&& (4294967295 : Int64))), .second, .unset, .unset] [(.long (((x0 + x1.toInt64) &&& (4294967295 : Int64)) * (1025 : Int64)))]) (fun _ kz => XS.lmul X0.here hx rfl (hb hby od_3_39) rfl kz) ?_
    refine own_g (mkF m 41 #[.val (.long x0), .second, .val (.int x1), .val (.long (4294967295 : Int64)), .second, .val (.long x1.toInt64), .second, .val (.long ((x0 + x1.toInt64) &&& (4294967295 : Int64))), .second, .unset, .unset] [(.long (4294967295 : Int64)), (.long (((x0 + x1.toInt64) &&& (4294967295 : Int64)) * (1025 : Int64)))]) (fun _ kz => XS.lloadN X0.here hx rfl (hb hby od_3_40) rfl kz) ?_
    refine own_g (mkF m 42 #[.val (.long x0), .second, .val (.int x1), .val (.long (4294967295 : Int64)), .second, .val (.long x1.toInt64), .second, .val (.long ((x0 + x1.toInt64) &&& (4294967295 : Int64))), .second, .unset, .unset] [(.long ((((x0 + x1.toInt64) &&& (4294967295 : Int64)) * (1025 : Int64)) &&& (4294967295 : Int64)))]) (fun _ kz => XS.land X0.here hx rfl (hb hby od_3_41) rfl kz) ?_
    refine own_g (mkF m 44 #[.val (.long x0), .second, .val (.int x1), .val (.long (4294967295 : Int64)), .second, .val (.long x1.toInt64), .second, .val (.long ((x0 + x1.toInt64) &&& (4294967295 : Int64))), .second, .val (.long ((((x0 + x1.toInt64) &&& (4294967295 : Int64)) * (1025 : Int64)) &&& (4294967295 : Int64))), .second] []) (fun _ kz => XS.lstore X0.here hx rfl (hb hby od_3_42) rfl (l' := #[.val (.long x0), .second, .val (.int x1), .val (.long (4294967295 : Int64)), .second, .val (.long x1.toInt64), .second, .val (.long ((x0 + x1.toInt64) &&& (4294967295 : Int64))), .second, .val (.long ((((x0 + x1.toInt64) &&& (4294967295 : Int64)) * (1025 : Int64)) &&& (4294967295 : Int64))), .second]) rfl kz) ?_
    refine own_g (mkF m 46 #[.val (.long x0), .second, .val (.int x1), .val (.long (4294967295 : Int64)), .second, .val (.long x1.toInt64), .second, .val (.long ((x0 + x1.toInt64) &&& (4294967295 : Int64))), .second, .val (.long ((((x0 + x1.toInt64) &&& (4294967295 : Int64)) * (1025 : Int64)) &&& (4294967295 : Int64))), .second] [(.long ((((x0 + x1.toInt64) &&& (4294967295 : Int64)) * (1025 : Int64)) &&& (4294967295 : Int64)))]) (fun _ kz => XS.lload X0.here hx rfl (hb hby od_3_44) rfl kz) ?_
    refine own_g (mkF m 48 #[.val (.long x0), .second, .val (.int x1), .val (.long (4294967295 : Int64)), .second, .val (.long x1.toInt64), .second, .val (.long ((x0 + x1.toInt64) &&& (4294967295 : Int64))), .second, .val (.long ((((x0 + x1.toInt64) &&& (4294967295 : Int64)) * (1025 : Int64)) &&& (4294967295 : Int64))), .second] [(.long ((((x0 + x1.toInt64) &&& (4294967295 : Int64)) * (1025 : Int64)) &&& (4294967295 : Int64))), (.long ((((x0 + x1.toInt64) &&& (4294967295 : Int64)) * (1025 : Int64)) &&& (4294967295 : Int64)))]) (fun _ kz => XS.lload X0.here hx rfl (hb hby od_3_46) rfl kz) ?_
    refine own_g (mkF m 50 #[.val (.long x0), .second, .val (.int x1), .val (.long (4294967295 : Int64)), .second, .val (.long x1.toInt64), .second, .val (.long ((x0 + x1.toInt64) &&& (4294967295 : Int64))), .second, .val (.long ((((x0 + x1.toInt64) &&& (4294967295 : Int64)) * (1025 : Int64)) &&& (4294967295 : Int64))), .second] [(.int (6 : Int32)), (.long ((((x0 + x1.toInt64) &&& (4294967295 : Int64)) * (1025 : Int64)) &&& (4294967295 : Int64))), (.long ((((x0 + x1.toInt64) &&& (4294967295 : Int64)) * (1025 : Int64)) &&& (4294967295 : Int64)))]) (fun _ kz => XS.bipush X0.here hx rfl (hb hby od_3_48) kz) ?_
    refine own_g (mkF m 51 #[.val (.long x0), .second, .val (.int x1), .val (.long (4294967295 : Int64)), .second, .val (.long x1.toInt64), .second, .val (.long ((x0 + x1.toInt64) &&& (4294967295 : Int64))), .second, .val (.long ((((x0 + x1.toInt64) &&& (4294967295 : Int64)) * (1025 : Int64)) &&& (4294967295 : Int64))), .second] [(.long ((((((x0 + x1.toInt64) &&& (4294967295 : Int64)) * (1025 : Int64)) &&& (4294967295 : Int64)).toUInt64 >>> ((6 : Int32) &&& 0x3f).toInt64.toUInt64).toInt64)), (.long ((((x0 + x1.toInt64) &&& (4294967295 : Int64)) * (1025 : Int64)) &&& (4294967295 : Int64)))]) (fun _ kz => XS.lushr X0.here hx rfl (hb hby od_3_50) rfl kz) ?_
    refine own_g (mkF m 52 #[.val (.long x0), .second, .val (.int x1), .val (.long (4294967295 : Int64)), .second, .val (.long x1.toInt64), .second, .val (.long ((x0 + x1.toInt64) &&& (4294967295 : Int64))), .second, .val (.long ((((x0 + x1.toInt64) &&& (4294967295 : Int64)) * (1025 : Int64)) &&& (4294967295 : Int64))), .second] [(.long (((((x0 + x1.toInt64) &&& (4294967295 : Int64)) * (1025 : Int64)) &&& (4294967295 : Int64)) ^^^ ((((((x0 + x1.toInt64) &&& (4294967295 : Int64)) * (1025 : Int64)) &&& (4294967295 : Int64)).toUInt64 >>> ((6 : Int32) &&& 0x3f).toInt64.toUInt64).toInt64)))]) (fun _ kz => XS.lxor X0.here hx rfl (hb hby od_3_51) rfl kz) ?_
    exact own_retJ X0 hx hret hlk (hb hby od_3_52) (by decide) (by decide) (by first | exact ⟨by simp only [own_step, own_mix, own_sx, hc8_1, if_true, if_false], rfl, rfl⟩ | (rw [e0]; exact ⟨by simp only [own_step, own_mix, own_sx, hc8_1, if_true, if_false], rfl, rfl⟩))
  · refine own_g (mkF m 11 #[.val (.long x0), .second, .val (.int x1), .val (.long (4294967295 : Int64)), .second, .unset, .unset, .unset, .unset, .unset, .unset] []) (fun _ kz => XS.icmpNo X0.here hx rfl (hb hby od_3_8) rfl (flt hc8_1).1 kz) ?_
    refine own_g (mkF m 12 #[.val (.long x0), .second, .val (.int x1), .val (.long (4294967295 : Int64)), .second, .unset, .unset, .unset, .unset, .unset, .unset] [(.int x1)]) (fun _ kz => XS.iloadN X0.here hx rfl (hb hby od_3_11) rfl kz) ?_
    refine own_g (mkF m 15 #[.val (.long x0), .second, .val (.int x1), .val (.long (4294967295 : Int64)), .second, .unset, .unset, .unset, .unset, .unset, .unset] [(.int (256 : Int32)), (.int x1)]) (fun _ kz => XS.sipush X0.here hx rfl (hb hby od_3_12) kz) ?_
    refine own_g (mkF m 16 #[.val (.long x0), .second, .val (.int x1), .val (.long (4294967295 : Int64)), .second, .unset, .unset, .unset, .unset, .unset, .unset] [(.int (x1 - (256 : Int32)))]) (fun _ kz => XS.isub X0.here hx rfl (hb hby od_3_15) rfl kz) ?_
    refine own_g (mkF m 17 #[.val (.long x0), .second, .val (.int x1), .val (.long (4294967295 : Int64)), .second, .unset, .unset, .unset, .unset, .unset, .unset] [(.long (x1 - (256 : Int32)).toInt64)]) (fun _ kz => XS.i2l X0.here hx rfl (hb hby od_3_16) rfl kz) ?_
    refine own_g (mkF m 19 #[.val (.long x0), .second, .val (.int x1), .val (.long (4294967295 : Int64)), .second, .val (.long (x1 - (256 : Int32)).toInt64), .second, .unset, .unset, .unset, .unset] []) (fun _ kz => XS.lstore X0.here hx rfl (hb hby od_3_17) rfl (l' := #[.val (.long x0), .second, .val (.int x1), .val (.long (4294967295 : Int64)), .second, .val (.long (x1 - (256 : Int32)).toInt64), .second, .unset, .unset, .unset, .unset]) rfl kz) ?_
    refine own_g (mkF m 26 #[.val (.long x0), .second, .val (.int x1), .val (.long (4294967295 : Int64)), .second, .val (.long (x1 - (256 : Int32)).toInt64), .second, .unset, .unset, .unset, .unset] []) (fun _ kz => XS.goto X0.here hx rfl (pc0 := 19) (pc' := 26) rfl (hb hby od_3_19) (by decide) (by decide) kz) ?_
    refine own_g (mkF m 27 #[.val (.long x0), .second, .val (.int x1), .val (.long (4294967295 : Int64)), .second, .val (.long (x1 - (256 : Int32)).toInt64), .second, .unset, .unset, .unset, .unset] [(.long x0)]) (fun _ kz => XS.lloadN X0.here hx rfl (hb hby od_3_26) rfl kz) ?_
    refine own_g (mkF m 29 #[.val (.long x0), .second, .val (.int x1), .val (.long (4294967295 : Int64)), .second, .val (.long (x1 - (256 : Int32)).toInt64), .second, .unset, .unset, .unset, .unset] [(.long (x1 - (256 : Int32)).toInt64), (.long x0)]) (fun _ kz => XS.lload X0.here hx rfl (hb hby od_3_27) rfl kz) ?_
    refine own_g (mkF m 30 #[.val (.long x0), .second, .val (.int x1), .val (.long (4294967295 : Int64)), .second, .val (.long (x1 - (256 : Int32)).toInt64), .second, .unset, .unset, .unset, .unset] [(.long (x0 + (x1 - (256 : Int32)).toInt64))]) (fun _ kz => XS.ladd X0.here hx rfl (hb hby od_3_29) rfl kz) ?_
    refine own_g (mkF m 31 #[.val (.long x0), .second, .val (.int x1), .val (.long (4294967295 : Int64)), .second, .val (.long (x1 - (256 : Int32)).toInt64), .second, .unset, .unset, .unset, .unset] [(.long (4294967295 : Int64)), (.long (x0 + (x1 - (256 : Int32)).toInt64))]) (fun _ kz => XS.lloadN X0.here hx rfl (hb hby od_3_30) rfl kz) ?_
    refine own_g (mkF m 32 #[.val (.long x0), .second, .val (.int x1), .val (.long (4294967295 : Int64)), .second, .val (.long (x1 - (256 : Int32)).toInt64), .second, .unset, .unset, .unset, .unset] [(.long ((x0 + (x1 - (256 : Int32)).toInt64) &&& (4294967295 : Int64)))]) (fun _ kz => XS.land X0.here hx rfl (hb hby od_3_31) rfl kz) ?_
    refine own_g (mkF m 34 #[.val (.long x0), .second, .val (.int x1), .val (.long (4294967295 : Int64)), .second, .val (.long (x1 - (256 : Int32)).toInt64), .second, .val (.long ((x0 + (x1 - (256 : Int32)).toInt64) &&& (4294967295 : Int64))), .second, .unset, .unset] []) (fun _ kz => XS.lstore X0.here hx rfl (hb hby od_3_32) rfl (l' := #[.val (.long x0), .second, .val (.int x1), .val (.long (4294967295 : Int64)), .second, .val (.long (x1 - (256 : Int32)).toInt64), .second, .val (.long ((x0 + (x1 - (256 : Int32)).toInt64) &&& (4294967295 : Int64))), .second, .unset, .unset]) rfl kz) ?_
    refine own_g (mkF m 36 #[.val (.long x0), .second, .val (.int x1), .val (.long (4294967295 : Int64)), .second, .val (.long (x1 - (256 : Int32)).toInt64), .second, .val (.long ((x0 + (x1 - (256 : Int32)).toInt64) &&& (4294967295 : Int64))), .second, .unset, .unset] [(.long ((x0 + (x1 - (256 : Int32)).toInt64) &&& (4294967295 : Int64)))]) (fun _ kz => XS.lload X0.here hx rfl (hb hby od_3_34) rfl kz) ?_
    refine own_g (mkF m 39 #[.val (.long x0), .second, .val (.int x1), .val (.long (4294967295 : Int64)), .second, .val (.long (x1 - (256 : Int32)).toInt64), .second, .val (.long ((x0 + (x1 - (256 : Int32)).toInt64) &&& (4294967295 : Int64))), .second, .unset, .unset] [(.long (1025 : Int64)), (.long ((x0 + (x1 - (256 : Int32)).toInt64) &&& (4294967295 : Int64)))]) (fun _ kz => X0.ldc2Long hx hown (mvT hZ (own_w hw 8 rfl)) (g := (mkF m 36 #[.val (.long x0), .second, .val (.int x1), .val (.long (4294967295 : Int64)), .second, .val (.long (x1 - (256 : Int32)).toInt64), .second, .val (.long ((x0 + (x1 - (256 : Int32)).toInt64) &&& (4294967295 : Int64))), .second, .unset, .unset] [(.long ((x0 + (x1 - (256 : Int32)).toInt64) &&& (4294967295 : Int64)))])) rfl (hb hby od_3_36) _ kz) ?_
    refine own_g (mkF m 40 #[.val (.long x0), .second, .val (.int x1), .val (.long (4294967295 : Int64)), .second, .val (.long (x1 - (256 : Int32)).toInt64), .second, .val (.long ((x0 + (x1 - (256 : Int32)).toInt64) &&& (4294967295 : Int64))), .second, .unset, .unset] [(.long (((x0 + (x1 - (256 : Int32)).toInt64) &&& (4294967295 : Int64)) * (1025 : Int64)))]) (fun _ kz => XS.lmul X0.here hx rfl (hb hby od_3_39) rfl kz) ?_
    refine own_g (mkF m 41 #[.val (.long x0), .second, .val (.int x1), .val (.long (4294967295 : Int64)), .second, .val (.long (x1 - (256 : Int32)).toInt64), .second, .val (.long ((x0 + (x1 - (256 : Int32)).toInt64) &&& (4294967295 : Int64))), .second, .unset, .unset] [(.long (4294967295 : Int64)), (.long (((x0 + (x1 - (256 : Int32)).toInt64) &&& (4294967295 : Int64)) * (1025 : Int64)))]) (fun _ kz => XS.lloadN X0.here hx rfl (hb hby od_3_40) rfl kz) ?_
    refine own_g (mkF m 42 #[.val (.long x0), .second, .val (.int x1), .val (.long (4294967295 : Int64)), .second, .val (.long (x1 - (256 : Int32)).toInt64), .second, .val (.long ((x0 + (x1 - (256 : Int32)).toInt64) &&& (4294967295 : Int64))), .second, .unset, .unset] [(.long ((((x0 + (x1 - (256 : Int32)).toInt64) &&& (4294967295 : Int64)) * (1025 : Int64)) &&& (4294967295 : Int64)))]) (fun _ kz => XS.land X0.here hx rfl (hb hby od_3_41) rfl kz) ?_
    refine own_g (mkF m 44 #[.val (.long x0), .second, .val (.int x1), .val (.long (4294967295 : Int64)), .second, .val (.long (x1 - (256 : Int32)).toInt64), .second, .val (.long ((x0 + (x1 - (256 : Int32)).toInt64) &&& (4294967295 : Int64))), .second, .val (.long ((((x0 + (x1 - (256 : Int32)).toInt64) &&& (4294967295 : Int64)) * (1025 : Int64)) &&& (4294967295 : Int64))), .second] []) (fun _ kz => XS.lstore X0.here hx rfl (hb hby od_3_42) rfl (l' := #[.val (.long x0), .second, .val (.int x1), .val (.long (4294967295 : Int64)), .second, .val (.long (x1 - (256 : Int32)).toInt64), .second, .val (.long ((x0 + (x1 - (256 : Int32)).toInt64) &&& (4294967295 : Int64))), .second, .val (.long ((((x0 + (x1 - (256 : Int32)).toInt64) &&& (4294967295 : Int64)) * (1025 : Int64)) &&& (4294967295 : Int64))), .second]) rfl kz) ?_
    refine own_g (mkF m 46 #[.val (.long x0), .second, .val (.int x1), .val (.long (4294967295 : Int64)), .second, .val (.long (x1 - (256 : Int32)).toInt64), .second, .val (.long ((x0 + (x1 - (256 : Int32)).toInt64) &&& (4294967295 : Int64))), .second, .val (.long ((((x0 + (x1 - (256 : Int32)).toInt64) &&& (4294967295 : Int64)) * (1025 : Int64)) &&& (4294967295 : Int64))), .second] [(.long ((((x0 + (x1 - (256 : Int32)).toInt64) &&& (4294967295 : Int64)) * (1025 : Int64)) &&& (4294967295 : Int64)))]) (fun _ kz => XS.lload X0.here hx rfl (hb hby od_3_44) rfl kz) ?_
    refine own_g (mkF m 48 #[.val (.long x0), .second, .val (.int x1), .val (.long (4294967295 : Int64)), .second, .val (.long (x1 - (256 : Int32)).toInt64), .second, .val (.long ((x0 + (x1 - (256 : Int32)).toInt64) &&& (4294967295 : Int64))), .second, .val (.long ((((x0 + (x1 - (256 : Int32)).toInt64) &&& (4294967295 : Int64)) * (1025 : Int64)) &&& (4294967295 : Int64))), .second] [(.long ((((x0 + (x1 - (256 : Int32)).toInt64) &&& (4294967295 : Int64)) * (1025 : Int64)) &&& (4294967295 : Int64))), (.long ((((x0 + (x1 - (256 : Int32)).toInt64) &&& (4294967295 : Int64)) * (1025 : Int64)) &&& (4294967295 : Int64)))]) (fun _ kz => XS.lload X0.here hx rfl (hb hby od_3_46) rfl kz) ?_
    refine own_g (mkF m 50 #[.val (.long x0), .second, .val (.int x1), .val (.long (4294967295 : Int64)), .second, .val (.long (x1 - (256 : Int32)).toInt64), .second, .val (.long ((x0 + (x1 - (256 : Int32)).toInt64) &&& (4294967295 : Int64))), .second, .val (.long ((((x0 + (x1 - (256 : Int32)).toInt64) &&& (4294967295 : Int64)) * (1025 : Int64)) &&& (4294967295 : Int64))), .second] [(.int (6 : Int32)), (.long ((((x0 + (x1 - (256 : Int32)).toInt64) &&& (4294967295 : Int64)) * (1025 : Int64)) &&& (4294967295 : Int64))), (.long ((((x0 + (x1 - (256 : Int32)).toInt64) &&& (4294967295 : Int64)) * (1025 : Int64)) &&& (4294967295 : Int64)))]) (fun _ kz => XS.bipush X0.here hx rfl (hb hby od_3_48) kz) ?_
    refine own_g (mkF m 51 #[.val (.long x0), .second, .val (.int x1), .val (.long (4294967295 : Int64)), .second, .val (.long (x1 - (256 : Int32)).toInt64), .second, .val (.long ((x0 + (x1 - (256 : Int32)).toInt64) &&& (4294967295 : Int64))), .second, .val (.long ((((x0 + (x1 - (256 : Int32)).toInt64) &&& (4294967295 : Int64)) * (1025 : Int64)) &&& (4294967295 : Int64))), .second] [(.long ((((((x0 + (x1 - (256 : Int32)).toInt64) &&& (4294967295 : Int64)) * (1025 : Int64)) &&& (4294967295 : Int64)).toUInt64 >>> ((6 : Int32) &&& 0x3f).toInt64.toUInt64).toInt64)), (.long ((((x0 + (x1 - (256 : Int32)).toInt64) &&& (4294967295 : Int64)) * (1025 : Int64)) &&& (4294967295 : Int64)))]) (fun _ kz => XS.lushr X0.here hx rfl (hb hby od_3_50) rfl kz) ?_
    refine own_g (mkF m 52 #[.val (.long x0), .second, .val (.int x1), .val (.long (4294967295 : Int64)), .second, .val (.long (x1 - (256 : Int32)).toInt64), .second, .val (.long ((x0 + (x1 - (256 : Int32)).toInt64) &&& (4294967295 : Int64))), .second, .val (.long ((((x0 + (x1 - (256 : Int32)).toInt64) &&& (4294967295 : Int64)) * (1025 : Int64)) &&& (4294967295 : Int64))), .second] [(.long (((((x0 + (x1 - (256 : Int32)).toInt64) &&& (4294967295 : Int64)) * (1025 : Int64)) &&& (4294967295 : Int64)) ^^^ ((((((x0 + (x1 - (256 : Int32)).toInt64) &&& (4294967295 : Int64)) * (1025 : Int64)) &&& (4294967295 : Int64)).toUInt64 >>> ((6 : Int32) &&& 0x3f).toInt64.toUInt64).toInt64)))]) (fun _ kz => XS.lxor X0.here hx rfl (hb hby od_3_51) rfl kz) ?_
    exact own_retJ X0 hx hret hlk (hb hby od_3_52) (by decide) (by decide) (by first | exact ⟨by simp only [own_step, own_mix, own_sx, hc8_1, if_true, if_false], rfl, rfl⟩ | (rw [e0]; exact ⟨by simp only [own_step, own_mix, own_sx, hc8_1, if_true, if_false], rfl, rfl⟩))
theorem own_pn2 : plainName "com/example/anchored_ring/anchoredring/Hashes" = true := by first | (simp [plainName, overriddenIn]; done) | decide +kernel
theorem od_18_8_4 : decode prog_18_method_8_code 4 = .ok (.iload_n 3, 1) := by decide +kernel
theorem od_18_8_5 : decode prog_18_method_8_code 5 = .ok (.iload_n 1, 1) := by decide +kernel
theorem od_18_8_6 : decode prog_18_method_8_code 6 = .ok (.if_icmp .ge 29, 3) := by decide +kernel
theorem od_18_8_35 : decode prog_18_method_8_code 35 = .ok (.iload_n 2, 1) := by decide +kernel
theorem od_18_8_36 : decode prog_18_method_8_code 36 = .ok (.iload_n 2, 1) := by decide +kernel
theorem od_18_8_37 : decode prog_18_method_8_code 37 = .ok (.iconst 3, 1) := by decide +kernel
theorem od_18_8_38 : decode prog_18_method_8_code 38 = .ok (.ishl, 1) := by decide +kernel
theorem od_18_8_39 : decode prog_18_method_8_code 39 = .ok (.iadd, 1) := by decide +kernel
theorem od_18_8_40 : decode prog_18_method_8_code 40 = .ok (.istore_n 2, 1) := by decide +kernel
theorem od_18_8_41 : decode prog_18_method_8_code 41 = .ok (.iload_n 2, 1) := by decide +kernel
theorem od_18_8_42 : decode prog_18_method_8_code 42 = .ok (.iload_n 2, 1) := by decide +kernel
theorem od_18_8_43 : decode prog_18_method_8_code 43 = .ok (.bipush 11, 2) := by decide +kernel
theorem od_18_8_45 : decode prog_18_method_8_code 45 = .ok (.iushr, 1) := by decide +kernel
theorem od_18_8_46 : decode prog_18_method_8_code 46 = .ok (.ixor, 1) := by decide +kernel
theorem od_18_8_47 : decode prog_18_method_8_code 47 = .ok (.istore_n 2, 1) := by decide +kernel
theorem od_18_8_48 : decode prog_18_method_8_code 48 = .ok (.iload_n 2, 1) := by decide +kernel
theorem od_18_8_49 : decode prog_18_method_8_code 49 = .ok (.iload_n 2, 1) := by decide +kernel
theorem od_18_8_50 : decode prog_18_method_8_code 50 = .ok (.bipush 15, 2) := by decide +kernel
theorem od_18_8_52 : decode prog_18_method_8_code 52 = .ok (.ishl, 1) := by decide +kernel
theorem od_18_8_53 : decode prog_18_method_8_code 53 = .ok (.iadd, 1) := by decide +kernel
theorem od_18_8_54 : decode prog_18_method_8_code 54 = .ok (.istore_n 2, 1) := by decide +kernel
theorem od_18_8_55 : decode prog_18_method_8_code 55 = .ok (.iload_n 2, 1) := by decide +kernel
theorem own_pd0 : parseMethodDescriptor "(I)J" = some ⟨[.int], some .long⟩ := by decide +kernel
theorem od_18_8_56 : decode prog_18_method_8_code 56 = .ok (.invokestatic 83, 3) := by decide +kernel
theorem od_18_8_59 : decode prog_18_method_8_code 59 = .ok (.lreturn, 1) := by decide +kernel
theorem od_18_8_9 : decode prog_18_method_8_code 9 = .ok (.iload_n 2, 1) := by decide +kernel
theorem od_18_8_10 : decode prog_18_method_8_code 10 = .ok (.aload_n 0, 1) := by decide +kernel
theorem od_18_8_11 : decode prog_18_method_8_code 11 = .ok (.iload_n 3, 1) := by decide +kernel
theorem od_18_8_12 : decode prog_18_method_8_code 12 = .ok (.baload, 1) := by decide +kernel
theorem od_18_8_13 : decode prog_18_method_8_code 13 = .ok (.iadd, 1) := by decide +kernel
theorem od_18_8_14 : decode prog_18_method_8_code 14 = .ok (.istore_n 2, 1) := by decide +kernel
theorem od_18_8_15 : decode prog_18_method_8_code 15 = .ok (.iload_n 2, 1) := by decide +kernel
theorem od_18_8_16 : decode prog_18_method_8_code 16 = .ok (.iload_n 2, 1) := by decide +kernel
theorem od_18_8_17 : decode prog_18_method_8_code 17 = .ok (.bipush 10, 2) := by decide +kernel
theorem od_18_8_19 : decode prog_18_method_8_code 19 = .ok (.ishl, 1) := by decide +kernel
theorem od_18_8_20 : decode prog_18_method_8_code 20 = .ok (.iadd, 1) := by decide +kernel
theorem od_18_8_21 : decode prog_18_method_8_code 21 = .ok (.istore_n 2, 1) := by decide +kernel
theorem od_18_8_22 : decode prog_18_method_8_code 22 = .ok (.iload_n 2, 1) := by decide +kernel
theorem od_18_8_23 : decode prog_18_method_8_code 23 = .ok (.iload_n 2, 1) := by decide +kernel
theorem od_18_8_24 : decode prog_18_method_8_code 24 = .ok (.bipush 6, 2) := by decide +kernel
theorem od_18_8_26 : decode prog_18_method_8_code 26 = .ok (.iushr, 1) := by decide +kernel
theorem od_18_8_27 : decode prog_18_method_8_code 27 = .ok (.ixor, 1) := by decide +kernel
theorem od_18_8_28 : decode prog_18_method_8_code 28 = .ok (.istore_n 2, 1) := by decide +kernel
theorem od_18_8_29 : decode prog_18_method_8_code 29 = .ok (.iinc 3 1, 3) := by decide +kernel
theorem od_18_8_32 : decode prog_18_method_8_code 32 = .ok (.goto (-28), 3) := by decide +kernel
theorem od_18_8_0 : decode prog_18_method_8_code 0 = .ok (.iconst 0, 1) := by decide +kernel
theorem od_18_8_1 : decode prog_18_method_8_code 1 = .ok (.istore_n 2, 1) := by decide +kernel
theorem od_18_8_2 : decode prog_18_method_8_code 2 = .ok (.iconst 0, 1) := by decide +kernel
theorem od_18_8_3 : decode prog_18_method_8_code 3 = .ok (.istore_n 3, 1) := by decide +kernel
set_option maxRecDepth 65536 in
set_option maxHeartbeats 40000000 in
theorem own_c_oat (l : Launch) (Z : State) (a0 : Array Value) (hw : ∀ d ∈ tables_1, d.before a0 Z = true) (a1 : Addr) (n : Nat) (f : Nat → Int32) (h0 : Heap) (hn : n ≤ 8) (A1 : own_IA Z h0 a1 .byte 8 f) :
    own_Con l Z (⟨"com/example/anchored_ring/anchoredring/Hashes", "oneAtATime", "([BI)J"⟩ : MethodName) prog_18_method_8_code 4 (some .long) [] ({ frames := 1, cells := 0, slots := 0, locals := 13 } : Room) #[(.ref a1), (.int (Int32.ofNat n))] h0 (fun v h L => v = some (.long (own_U (own_g3 (own_fold f n 0 0)))) ∧ L = [] ∧ h = h0) := by
  refine own_enter (plainFor_of_name own_pn2) ?_
  intro p e s m below meth c s₁ X0 e0 hx hZ hby hml hown hnm hret hlk
  refine own_cast (g' := (mkF m 0 #[.val (.ref a1), .val (.int (Int32.ofNat n)), .unset, .unset] [])) (by first | (simp [entryFrame, mkF, argsToLocals, Value.category]; done) | rfl) ?_
  have loop : ∀ (k i : Nat) (u : Int32), i + k = n → own_E p e below (own_P (fun v h L => v = some (.long (own_U (own_g3 (own_fold f k i u)))) ∧ L = [] ∧ h = h0) s 0 0) (s₁.setTop (mkF m 4 #[.val (.ref a1), .val (.int (Int32.ofNat n)), .val (.int u), .val (.int (Int32.ofNat i))] [])) := by
    intro k
    induction k with
    | zero =>
      intro i u hi
      obtain rfl : i = n := by omega
      show own_E p e below _ (s₁.setTop (mkF m 4 #[.val (.ref a1), .val (.int (Int32.ofNat i)), .val (.int u), .val (.int (Int32.ofNat i))] []))
      refine own_g (mkF m 5 #[.val (.ref a1), .val (.int (Int32.ofNat i)), .val (.int u), .val (.int (Int32.ofNat i))] [(.int (Int32.ofNat i))]) (fun _ kz => XS.iloadN X0.here hx rfl (hb hby od_18_8_4) rfl kz) ?_
      refine own_g (mkF m 6 #[.val (.ref a1), .val (.int (Int32.ofNat i)), .val (.int u), .val (.int (Int32.ofNat i))] [(.int (Int32.ofNat i)), (.int (Int32.ofNat i))]) (fun _ kz => XS.iloadN X0.here hx rfl (hb hby od_18_8_5) rfl kz) ?_
      refine own_g (mkF m 35 #[.val (.ref a1), .val (.int (Int32.ofNat i)), .val (.int u), .val (.int (Int32.ofNat i))] []) (fun _ kz => XS.icmpYes X0.here hx rfl (pc0 := 6) (pc' := 35) rfl (hb hby od_18_8_6) rfl (flt (Int32.lt_irrefl)).2.1 (by decide) (by decide) kz) ?_
      refine own_g (mkF m 36 #[.val (.ref a1), .val (.int (Int32.ofNat i)), .val (.int u), .val (.int (Int32.ofNat i))] [(.int u)]) (fun _ kz => XS.iloadN X0.here hx rfl (hb hby od_18_8_35) rfl kz) ?_
      refine own_g (mkF m 37 #[.val (.ref a1), .val (.int (Int32.ofNat i)), .val (.int u), .val (.int (Int32.ofNat i))] [(.int u), (.int u)]) (fun _ kz => XS.iloadN X0.here hx rfl (hb hby od_18_8_36) rfl kz) ?_
      refine own_g (mkF m 38 #[.val (.ref a1), .val (.int (Int32.ofNat i)), .val (.int u), .val (.int (Int32.ofNat i))] [(.int (3 : Int32)), (.int u), (.int u)]) (fun _ kz => XS.iconst X0.here hx rfl (hb hby od_18_8_37) kz) ?_
      refine own_g (mkF m 39 #[.val (.ref a1), .val (.int (Int32.ofNat i)), .val (.int u), .val (.int (Int32.ofNat i))] [(.int (u <<< ((3 : Int32) &&& 31))), (.int u)]) (fun _ kz => XS.ishl X0.here hx rfl (hb hby od_18_8_38) rfl kz) ?_
      refine own_g (mkF m 40 #[.val (.ref a1), .val (.int (Int32.ofNat i)), .val (.int u), .val (.int (Int32.ofNat i))] [(.int (u + (u <<< ((3 : Int32) &&& 31))))]) (fun _ kz => XS.iadd X0.here hx rfl (hb hby od_18_8_39) rfl kz) ?_
      refine own_g (mkF m 41 #[.val (.ref a1), .val (.int (Int32.ofNat i)), .val (.int (u + (u <<< ((3 : Int32) &&& 31)))), .val (.int (Int32.ofNat i))] []) (fun _ kz => XS.istoreN X0.here hx rfl (hb hby od_18_8_40) rfl (l' := #[.val (.ref a1), .val (.int (Int32.ofNat i)), .val (.int (u + (u <<< ((3 : Int32) &&& 31)))), .val (.int (Int32.ofNat i))]) rfl kz) ?_
      refine own_g (mkF m 42 #[.val (.ref a1), .val (.int (Int32.ofNat i)), .val (.int (u + (u <<< ((3 : Int32) &&& 31)))), .val (.int (Int32.ofNat i))] [(.int (u + (u <<< ((3 : Int32) &&& 31))))]) (fun _ kz => XS.iloadN X0.here hx rfl (hb hby od_18_8_41) rfl kz) ?_
      refine own_g (mkF m 43 #[.val (.ref a1), .val (.int (Int32.ofNat i)), .val (.int (u + (u <<< ((3 : Int32) &&& 31)))), .val (.int (Int32.ofNat i))] [(.int (u + (u <<< ((3 : Int32) &&& 31)))), (.int (u + (u <<< ((3 : Int32) &&& 31))))]) (fun _ kz => XS.iloadN X0.here hx rfl (hb hby od_18_8_42) rfl kz) ?_
      refine own_g (mkF m 45 #[.val (.ref a1), .val (.int (Int32.ofNat i)), .val (.int (u + (u <<< ((3 : Int32) &&& 31)))), .val (.int (Int32.ofNat i))] [(.int (11 : Int32)), (.int (u + (u <<< ((3 : Int32) &&& 31)))), (.int (u + (u <<< ((3 : Int32) &&& 31))))]) (fun _ kz => XS.bipush X0.here hx rfl (hb hby od_18_8_43) kz) ?_
      refine own_g (mkF m 46 #[.val (.ref a1), .val (.int (Int32.ofNat i)), .val (.int (u + (u <<< ((3 : Int32) &&& 31)))), .val (.int (Int32.ofNat i))] [(.int (((u + (u <<< ((3 : Int32) &&& 31))).toUInt32 >>> ((11 : Int32) &&& 31).toUInt32).toInt32)), (.int (u + (u <<< ((3 : Int32) &&& 31))))]) (fun _ kz => XS.iushr X0.here hx rfl (hb hby od_18_8_45) rfl kz) ?_
      refine own_g (mkF m 47 #[.val (.ref a1), .val (.int (Int32.ofNat i)), .val (.int (u + (u <<< ((3 : Int32) &&& 31)))), .val (.int (Int32.ofNat i))] [(.int ((u + (u <<< ((3 : Int32) &&& 31))) ^^^ (((u + (u <<< ((3 : Int32) &&& 31))).toUInt32 >>> ((11 : Int32) &&& 31).toUInt32).toInt32)))]) (fun _ kz => XS.ixor X0.here hx rfl (hb hby od_18_8_46) rfl kz) ?_
      refine own_g (mkF m 48 #[.val (.ref a1), .val (.int (Int32.ofNat i)), .val (.int ((u + (u <<< ((3 : Int32) &&& 31))) ^^^ (((u + (u <<< ((3 : Int32) &&& 31))).toUInt32 >>> ((11 : Int32) &&& 31).toUInt32).toInt32))), .val (.int (Int32.ofNat i))] []) (fun _ kz => XS.istoreN X0.here hx rfl (hb hby od_18_8_47) rfl (l' := #[.val (.ref a1), .val (.int (Int32.ofNat i)), .val (.int ((u + (u <<< ((3 : Int32) &&& 31))) ^^^ (((u + (u <<< ((3 : Int32) &&& 31))).toUInt32 >>> ((11 : Int32) &&& 31).toUInt32).toInt32))), .val (.int (Int32.ofNat i))]) rfl kz) ?_
      refine own_g (mkF m 49 #[.val (.ref a1), .val (.int (Int32.ofNat i)), .val (.int ((u + (u <<< ((3 : Int32) &&& 31))) ^^^ (((u + (u <<< ((3 : Int32) &&& 31))).toUInt32 >>> ((11 : Int32) &&& 31).toUInt32).toInt32))), .val (.int (Int32.ofNat i))] [(.int ((u + (u <<< ((3 : Int32) &&& 31))) ^^^ (((u + (u <<< ((3 : Int32) &&& 31))).toUInt32 >>> ((11 : Int32) &&& 31).toUInt32).toInt32)))]) (fun _ kz => XS.iloadN X0.here hx rfl (hb hby od_18_8_48) rfl kz) ?_
      refine own_g (mkF m 50 #[.val (.ref a1), .val (.int (Int32.ofNat i)), .val (.int ((u + (u <<< ((3 : Int32) &&& 31))) ^^^ (((u + (u <<< ((3 : Int32) &&& 31))).toUInt32 >>> ((11 : Int32) &&& 31).toUInt32).toInt32))), .val (.int (Int32.ofNat i))] [(.int ((u + (u <<< ((3 : Int32) &&& 31))) ^^^ (((u + (u <<< ((3 : Int32) &&& 31))).toUInt32 >>> ((11 : Int32) &&& 31).toUInt32).toInt32))), (.int ((u + (u <<< ((3 : Int32) &&& 31))) ^^^ (((u + (u <<< ((3 : Int32) &&& 31))).toUInt32 >>> ((11 : Int32) &&& 31).toUInt32).toInt32)))]) (fun _ kz => XS.iloadN X0.here hx rfl (hb hby od_18_8_49) rfl kz) ?_
      refine own_g (mkF m 52 #[.val (.ref a1), .val (.int (Int32.ofNat i)), .val (.int ((u + (u <<< ((3 : Int32) &&& 31))) ^^^ (((u + (u <<< ((3 : Int32) &&& 31))).toUInt32 >>> ((11 : Int32) &&& 31).toUInt32).toInt32))), .val (.int (Int32.ofNat i))] [(.int (15 : Int32)), (.int ((u + (u <<< ((3 : Int32) &&& 31))) ^^^ (((u + (u <<< ((3 : Int32) &&& 31))).toUInt32 >>> ((11 : Int32) &&& 31).toUInt32).toInt32))), (.int ((u + (u <<< ((3 : Int32) &&& 31))) ^^^ (((u + (u <<< ((3 : Int32) &&& 31))).toUInt32 >>> ((11 : Int32) &&& 31).toUInt32).toInt32)))]) (fun _ kz => XS.bipush X0.here hx rfl (hb hby od_18_8_50) kz) ?_
      refine own_g (mkF m 53 #[.val (.ref a1), .val (.int (Int32.ofNat i)), .val (.int ((u + (u <<< ((3 : Int32) &&& 31))) ^^^ (((u + (u <<< ((3 : Int32) &&& 31))).toUInt32 >>> ((11 : Int32) &&& 31).toUInt32).toInt32))), .val (.int (Int32.ofNat i))] [(.int (((u + (u <<< ((3 : Int32) &&& 31))) ^^^ (((u + (u <<< ((3 : Int32) &&& 31))).toUInt32 >>> ((11 : Int32) &&& 31).toUInt32).toInt32)) <<< ((15 : Int32) &&& 31))), (.int ((u + (u <<< ((3 : Int32) &&& 31))) ^^^ (((u + (u <<< ((3 : Int32) &&& 31))).toUInt32 >>> ((11 : Int32) &&& 31).toUInt32).toInt32)))]) (fun _ kz => XS.ishl X0.here hx rfl (hb hby od_18_8_52) rfl kz) ?_
      refine own_g (mkF m 54 #[.val (.ref a1), .val (.int (Int32.ofNat i)), .val (.int ((u + (u <<< ((3 : Int32) &&& 31))) ^^^ (((u + (u <<< ((3 : Int32) &&& 31))).toUInt32 >>> ((11 : Int32) &&& 31).toUInt32).toInt32))), .val (.int (Int32.ofNat i))] [(.int (((u + (u <<< ((3 : Int32) &&& 31))) ^^^ (((u + (u <<< ((3 : Int32) &&& 31))).toUInt32 >>> ((11 : Int32) &&& 31).toUInt32).toInt32)) + (((u + (u <<< ((3 : Int32) &&& 31))) ^^^ (((u + (u <<< ((3 : Int32) &&& 31))).toUInt32 >>> ((11 : Int32) &&& 31).toUInt32).toInt32)) <<< ((15 : Int32) &&& 31))))]) (fun _ kz => XS.iadd X0.here hx rfl (hb hby od_18_8_53) rfl kz) ?_
      refine own_g (mkF m 55 #[.val (.ref a1), .val (.int (Int32.ofNat i)), .val (.int (((u + (u <<< ((3 : Int32) &&& 31))) ^^^ (((u + (u <<< ((3 : Int32) &&& 31))).toUInt32 >>> ((11 : Int32) &&& 31).toUInt32).toInt32)) + (((u + (u <<< ((3 : Int32) &&& 31))) ^^^ (((u + (u <<< ((3 : Int32) &&& 31))).toUInt32 >>> ((11 : Int32) &&& 31).toUInt32).toInt32)) <<< ((15 : Int32) &&& 31)))), .val (.int (Int32.ofNat i))] []) (fun _ kz => XS.istoreN X0.here hx rfl (hb hby od_18_8_54) rfl (l' := #[.val (.ref a1), .val (.int (Int32.ofNat i)), .val (.int (((u + (u <<< ((3 : Int32) &&& 31))) ^^^ (((u + (u <<< ((3 : Int32) &&& 31))).toUInt32 >>> ((11 : Int32) &&& 31).toUInt32).toInt32)) + (((u + (u <<< ((3 : Int32) &&& 31))) ^^^ (((u + (u <<< ((3 : Int32) &&& 31))).toUInt32 >>> ((11 : Int32) &&& 31).toUInt32).toInt32)) <<< ((15 : Int32) &&& 31)))), .val (.int (Int32.ofNat i))]) rfl kz) ?_
      refine own_g (mkF m 56 #[.val (.ref a1), .val (.int (Int32.ofNat i)), .val (.int (((u + (u <<< ((3 : Int32) &&& 31))) ^^^ (((u + (u <<< ((3 : Int32) &&& 31))).toUInt32 >>> ((11 : Int32) &&& 31).toUInt32).toInt32)) + (((u + (u <<< ((3 : Int32) &&& 31))) ^^^ (((u + (u <<< ((3 : Int32) &&& 31))).toUInt32 >>> ((11 : Int32) &&& 31).toUInt32).toInt32)) <<< ((15 : Int32) &&& 31)))), .val (.int (Int32.ofNat i))] [(.int (((u + (u <<< ((3 : Int32) &&& 31))) ^^^ (((u + (u <<< ((3 : Int32) &&& 31))).toUInt32 >>> ((11 : Int32) &&& 31).toUInt32).toInt32)) + (((u + (u <<< ((3 : Int32) &&& 31))) ^^^ (((u + (u <<< ((3 : Int32) &&& 31))).toUInt32 >>> ((11 : Int32) &&& 31).toUInt32).toInt32)) <<< ((15 : Int32) &&& 31))))]) (fun _ kz => XS.iloadN X0.here hx rfl (hb hby od_18_8_55) rfl kz) ?_
      refine own_callS (rest := []) (as := [(.int (((u + (u <<< ((3 : Int32) &&& 31))) ^^^ (((u + (u <<< ((3 : Int32) &&& 31))).toUInt32 >>> ((11 : Int32) &&& 31).toUInt32).toInt32)) + (((u + (u <<< ((3 : Int32) &&& 31))) ^^^ (((u + (u <<< ((3 : Int32) &&& 31))).toUInt32 >>> ((11 : Int32) &&& 31).toUInt32).toInt32)) <<< ((15 : Int32) &&& 31))))]) X0 hx hZ hown e0 (own_c_tul l Z a0 hw (((u + (u <<< ((3 : Int32) &&& 31))) ^^^ (((u + (u <<< ((3 : Int32) &&& 31))).toUInt32 >>> ((11 : Int32) &&& 31).toUInt32).toInt32)) + (((u + (u <<< ((3 : Int32) &&& 31))) ^^^ (((u + (u <<< ((3 : Int32) &&& 31))).toUInt32 >>> ((11 : Int32) &&& 31).toUInt32).toInt32)) <<< ((15 : Int32) &&& 31))) h0) (own_w hw 18 rfl) (own_w hw 19 rfl) (own_w hw 20 rfl) (own_w hw 21 rfl) (by decide) own_pd0 rfl (by rw [hml]; rfl) rfl (hb hby od_18_8_56) 0 (by show 2 * 0 + _ ≤ _; exact Nat.le_of_eq rfl) (by decide) (by decide) (by decide) (by decide) ?_
      rintro _ T2 L2 X2 ⟨rfl, rfl, e2⟩
      show own_E p e below _ (T2.setTop (mkF m 59 #[.val (.ref a1), .val (.int (Int32.ofNat i)), .val (.int (((u + (u <<< ((3 : Int32) &&& 31))) ^^^ (((u + (u <<< ((3 : Int32) &&& 31))).toUInt32 >>> ((11 : Int32) &&& 31).toUInt32).toInt32)) + (((u + (u <<< ((3 : Int32) &&& 31))) ^^^ (((u + (u <<< ((3 : Int32) &&& 31))).toUInt32 >>> ((11 : Int32) &&& 31).toUInt32).toInt32)) <<< ((15 : Int32) &&& 31)))), .val (.int (Int32.ofNat i))] [(.long (own_U (((u + (u <<< ((3 : Int32) &&& 31))) ^^^ (((u + (u <<< ((3 : Int32) &&& 31))).toUInt32 >>> ((11 : Int32) &&& 31).toUInt32).toInt32)) + (((u + (u <<< ((3 : Int32) &&& 31))) ^^^ (((u + (u <<< ((3 : Int32) &&& 31))).toUInt32 >>> ((11 : Int32) &&& 31).toUInt32).toInt32)) <<< ((15 : Int32) &&& 31)))))]))
      exact own_retJ X2 hx hret hlk (hb hby od_18_8_59) (by decide) (by decide) (by first | exact ⟨rfl, rfl, rfl⟩ | (rw [e2]; exact ⟨rfl, rfl, rfl⟩))
    | succ k ih =>
      intro i u hi
      show own_E p e below _ (s₁.setTop (mkF m 4 #[.val (.ref a1), .val (.int (Int32.ofNat n)), .val (.int u), .val (.int (Int32.ofNat i))] []))
      refine own_g (mkF m 5 #[.val (.ref a1), .val (.int (Int32.ofNat n)), .val (.int u), .val (.int (Int32.ofNat i))] [(.int (Int32.ofNat i))]) (fun _ kz => XS.iloadN X0.here hx rfl (hb hby od_18_8_4) rfl kz) ?_
      refine own_g (mkF m 6 #[.val (.ref a1), .val (.int (Int32.ofNat n)), .val (.int u), .val (.int (Int32.ofNat i))] [(.int (Int32.ofNat n)), (.int (Int32.ofNat i))]) (fun _ kz => XS.iloadN X0.here hx rfl (hb hby od_18_8_5) rfl kz) ?_
      refine own_g (mkF m 9 #[.val (.ref a1), .val (.int (Int32.ofNat n)), .val (.int u), .val (.int (Int32.ofNat i))] []) (fun _ kz => XS.icmpNo X0.here hx rfl (hb hby od_18_8_6) rfl (tlt (own_lt (show i < n by omega) (by omega))).2.1 kz) ?_
      refine own_g (mkF m 10 #[.val (.ref a1), .val (.int (Int32.ofNat n)), .val (.int u), .val (.int (Int32.ofNat i))] [(.int u)]) (fun _ kz => XS.iloadN X0.here hx rfl (hb hby od_18_8_9) rfl kz) ?_
      refine own_g (mkF m 11 #[.val (.ref a1), .val (.int (Int32.ofNat n)), .val (.int u), .val (.int (Int32.ofNat i))] [(.ref a1), (.int u)]) (fun _ kz => XS.aloadN X0.here hx rfl (hb hby od_18_8_10) rfl rfl kz) ?_
      refine own_g (mkF m 12 #[.val (.ref a1), .val (.int (Int32.ofNat n)), .val (.int u), .val (.int (Int32.ofNat i))] [(.int (Int32.ofNat i)), (.ref a1), (.int u)]) (fun _ kz => XS.iloadN X0.here hx rfl (hb hby od_18_8_11) rfl kz) ?_
      refine own_ildB X0 hx hZ e0 A1 (hb hby od_18_8_12) (own_nn (by omega)).1 (i := i) (own_nn (by omega)).2 (by omega) (x := (f i)) rfl ?_
      show own_E p e below _ (s₁.setTop (mkF m 13 #[.val (.ref a1), .val (.int (Int32.ofNat n)), .val (.int u), .val (.int (Int32.ofNat i))] [(.int (f i)), (.int u)]))
      refine own_g (mkF m 14 #[.val (.ref a1), .val (.int (Int32.ofNat n)), .val (.int u), .val (.int (Int32.ofNat i))] [(.int (u + (f i)))]) (fun _ kz => XS.iadd X0.here hx rfl (hb hby od_18_8_13) rfl kz) ?_
      refine own_g (mkF m 15 #[.val (.ref a1), .val (.int (Int32.ofNat n)), .val (.int (u + (f i))), .val (.int (Int32.ofNat i))] []) (fun _ kz => XS.istoreN X0.here hx rfl (hb hby od_18_8_14) rfl (l' := #[.val (.ref a1), .val (.int (Int32.ofNat n)), .val (.int (u + (f i))), .val (.int (Int32.ofNat i))]) rfl kz) ?_
      refine own_g (mkF m 16 #[.val (.ref a1), .val (.int (Int32.ofNat n)), .val (.int (u + (f i))), .val (.int (Int32.ofNat i))] [(.int (u + (f i)))]) (fun _ kz => XS.iloadN X0.here hx rfl (hb hby od_18_8_15) rfl kz) ?_
      refine own_g (mkF m 17 #[.val (.ref a1), .val (.int (Int32.ofNat n)), .val (.int (u + (f i))), .val (.int (Int32.ofNat i))] [(.int (u + (f i))), (.int (u + (f i)))]) (fun _ kz => XS.iloadN X0.here hx rfl (hb hby od_18_8_16) rfl kz) ?_
      refine own_g (mkF m 19 #[.val (.ref a1), .val (.int (Int32.ofNat n)), .val (.int (u + (f i))), .val (.int (Int32.ofNat i))] [(.int (10 : Int32)), (.int (u + (f i))), (.int (u + (f i)))]) (fun _ kz => XS.bipush X0.here hx rfl (hb hby od_18_8_17) kz) ?_
      refine own_g (mkF m 20 #[.val (.ref a1), .val (.int (Int32.ofNat n)), .val (.int (u + (f i))), .val (.int (Int32.ofNat i))] [(.int ((u + (f i)) <<< ((10 : Int32) &&& 31))), (.int (u + (f i)))]) (fun _ kz => XS.ishl X0.here hx rfl (hb hby od_18_8_19) rfl kz) ?_
      refine own_g (mkF m 21 #[.val (.ref a1), .val (.int (Int32.ofNat n)), .val (.int (u + (f i))), .val (.int (Int32.ofNat i))] [(.int ((u + (f i)) + ((u + (f i)) <<< ((10 : Int32) &&& 31))))]) (fun _ kz => XS.iadd X0.here hx rfl (hb hby od_18_8_20) rfl kz) ?_
      refine own_g (mkF m 22 #[.val (.ref a1), .val (.int (Int32.ofNat n)), .val (.int ((u + (f i)) + ((u + (f i)) <<< ((10 : Int32) &&& 31)))), .val (.int (Int32.ofNat i))] []) (fun _ kz => XS.istoreN X0.here hx rfl (hb hby od_18_8_21) rfl (l' := #[.val (.ref a1), .val (.int (Int32.ofNat n)), .val (.int ((u + (f i)) + ((u + (f i)) <<< ((10 : Int32) &&& 31)))), .val (.int (Int32.ofNat i))]) rfl kz) ?_
      refine own_g (mkF m 23 #[.val (.ref a1), .val (.int (Int32.ofNat n)), .val (.int ((u + (f i)) + ((u + (f i)) <<< ((10 : Int32) &&& 31)))), .val (.int (Int32.ofNat i))] [(.int ((u + (f i)) + ((u + (f i)) <<< ((10 : Int32) &&& 31))))]) (fun _ kz => XS.iloadN X0.here hx rfl (hb hby od_18_8_22) rfl kz) ?_
      refine own_g (mkF m 24 #[.val (.ref a1), .val (.int (Int32.ofNat n)), .val (.int ((u + (f i)) + ((u + (f i)) <<< ((10 : Int32) &&& 31)))), .val (.int (Int32.ofNat i))] [(.int ((u + (f i)) + ((u + (f i)) <<< ((10 : Int32) &&& 31)))), (.int ((u + (f i)) + ((u + (f i)) <<< ((10 : Int32) &&& 31))))]) (fun _ kz => XS.iloadN X0.here hx rfl (hb hby od_18_8_23) rfl kz) ?_
      refine own_g (mkF m 26 #[.val (.ref a1), .val (.int (Int32.ofNat n)), .val (.int ((u + (f i)) + ((u + (f i)) <<< ((10 : Int32) &&& 31)))), .val (.int (Int32.ofNat i))] [(.int (6 : Int32)), (.int ((u + (f i)) + ((u + (f i)) <<< ((10 : Int32) &&& 31)))), (.int ((u + (f i)) + ((u + (f i)) <<< ((10 : Int32) &&& 31))))]) (fun _ kz => XS.bipush X0.here hx rfl (hb hby od_18_8_24) kz) ?_
      refine own_g (mkF m 27 #[.val (.ref a1), .val (.int (Int32.ofNat n)), .val (.int ((u + (f i)) + ((u + (f i)) <<< ((10 : Int32) &&& 31)))), .val (.int (Int32.ofNat i))] [(.int ((((u + (f i)) + ((u + (f i)) <<< ((10 : Int32) &&& 31))).toUInt32 >>> ((6 : Int32) &&& 31).toUInt32).toInt32)), (.int ((u + (f i)) + ((u + (f i)) <<< ((10 : Int32) &&& 31))))]) (fun _ kz => XS.iushr X0.here hx rfl (hb hby od_18_8_26) rfl kz) ?_
      refine own_g (mkF m 28 #[.val (.ref a1), .val (.int (Int32.ofNat n)), .val (.int ((u + (f i)) + ((u + (f i)) <<< ((10 : Int32) &&& 31)))), .val (.int (Int32.ofNat i))] [(.int (((u + (f i)) + ((u + (f i)) <<< ((10 : Int32) &&& 31))) ^^^ ((((u + (f i)) + ((u + (f i)) <<< ((10 : Int32) &&& 31))).toUInt32 >>> ((6 : Int32) &&& 31).toUInt32).toInt32)))]) (fun _ kz => XS.ixor X0.here hx rfl (hb hby od_18_8_27) rfl kz) ?_
      refine own_g (mkF m 29 #[.val (.ref a1), .val (.int (Int32.ofNat n)), .val (.int (((u + (f i)) + ((u + (f i)) <<< ((10 : Int32) &&& 31))) ^^^ ((((u + (f i)) + ((u + (f i)) <<< ((10 : Int32) &&& 31))).toUInt32 >>> ((6 : Int32) &&& 31).toUInt32).toInt32))), .val (.int (Int32.ofNat i))] []) (fun _ kz => XS.istoreN X0.here hx rfl (hb hby od_18_8_28) rfl (l' := #[.val (.ref a1), .val (.int (Int32.ofNat n)), .val (.int (((u + (f i)) + ((u + (f i)) <<< ((10 : Int32) &&& 31))) ^^^ ((((u + (f i)) + ((u + (f i)) <<< ((10 : Int32) &&& 31))).toUInt32 >>> ((6 : Int32) &&& 31).toUInt32).toInt32))), .val (.int (Int32.ofNat i))]) rfl kz) ?_
      refine own_g (mkF m 32 #[.val (.ref a1), .val (.int (Int32.ofNat n)), .val (.int (((u + (f i)) + ((u + (f i)) <<< ((10 : Int32) &&& 31))) ^^^ ((((u + (f i)) + ((u + (f i)) <<< ((10 : Int32) &&& 31))).toUInt32 >>> ((6 : Int32) &&& 31).toUInt32).toInt32))), .val (.int ((Int32.ofNat i) + (1 : Int32)))] []) (fun _ kz => XS.iinc X0.here hx rfl (hb hby od_18_8_29) rfl (l' := #[.val (.ref a1), .val (.int (Int32.ofNat n)), .val (.int (((u + (f i)) + ((u + (f i)) <<< ((10 : Int32) &&& 31))) ^^^ ((((u + (f i)) + ((u + (f i)) <<< ((10 : Int32) &&& 31))).toUInt32 >>> ((6 : Int32) &&& 31).toUInt32).toInt32))), .val (.int ((Int32.ofNat i) + (1 : Int32)))]) rfl kz) ?_
      refine own_g (mkF m 4 #[.val (.ref a1), .val (.int (Int32.ofNat n)), .val (.int (((u + (f i)) + ((u + (f i)) <<< ((10 : Int32) &&& 31))) ^^^ ((((u + (f i)) + ((u + (f i)) <<< ((10 : Int32) &&& 31))).toUInt32 >>> ((6 : Int32) &&& 31).toUInt32).toInt32))), .val (.int ((Int32.ofNat i) + (1 : Int32)))] []) (fun _ kz => XS.goto X0.here hx rfl (pc0 := 32) (pc' := 4) rfl (hb hby od_18_8_32) (by decide) (by decide) kz) ?_
      rw [own_one]
      show own_E p e below _ (s₁.setTop (mkF m 4 #[.val (.ref a1), .val (.int (Int32.ofNat n)), .val (.int (((u + (f i)) + ((u + (f i)) <<< ((10 : Int32) &&& 31))) ^^^ ((((u + (f i)) + ((u + (f i)) <<< ((10 : Int32) &&& 31))).toUInt32 >>> ((6 : Int32) &&& 31).toUInt32).toInt32))), .val (.int (Int32.ofNat (i + 1)))] []))
      exact ih (i + 1) (own_o2 u (f i)) (by omega)
  refine own_g (mkF m 1 #[.val (.ref a1), .val (.int (Int32.ofNat n)), .unset, .unset] [(.int (0 : Int32))]) (fun _ kz => XS.iconst X0.here hx rfl (hb hby od_18_8_0) kz) ?_
  refine own_g (mkF m 2 #[.val (.ref a1), .val (.int (Int32.ofNat n)), .val (.int (0 : Int32)), .unset] []) (fun _ kz => XS.istoreN X0.here hx rfl (hb hby od_18_8_1) rfl (l' := #[.val (.ref a1), .val (.int (Int32.ofNat n)), .val (.int (0 : Int32)), .unset]) rfl kz) ?_
  refine own_g (mkF m 3 #[.val (.ref a1), .val (.int (Int32.ofNat n)), .val (.int (0 : Int32)), .unset] [(.int (0 : Int32))]) (fun _ kz => XS.iconst X0.here hx rfl (hb hby od_18_8_2) kz) ?_
  refine own_g (mkF m 4 #[.val (.ref a1), .val (.int (Int32.ofNat n)), .val (.int (0 : Int32)), .val (.int (0 : Int32))] []) (fun _ kz => XS.istoreN X0.here hx rfl (hb hby od_18_8_3) rfl (l' := #[.val (.ref a1), .val (.int (Int32.ofNat n)), .val (.int (0 : Int32)), .val (.int (0 : Int32))]) rfl kz) ?_
  exact loop n 0 0 (by omega)
theorem own_pd1 : parseMethodDescriptor "(J)J" = some ⟨[.long], some .long⟩ := by decide +kernel
theorem own_pd2 : parseMethodDescriptor "([BI)J" = some ⟨[(.array .byte), .int], some .long⟩ := by decide +kernel
theorem own_pd3 : parseMethodDescriptor "(JI)J" = some ⟨[.long, .int], some .long⟩ := by decide +kernel
set_option maxRecDepth 65536 in
set_option maxHeartbeats 40000000 in
theorem own_c_law (l : Launch) (Z : State) (a0 : Array Value) (hw : ∀ d ∈ tables_1, d.before a0 Z = true) (x0 : Int64) (x1 : Int32) (h0 : Heap) (n0 : Nat) (Z0 : n0 ≤ h0.size) :
    own_Con l Z x code maxLocals ret tables_1 room_1 #[(.long x0), (.int x1)] h0 (fun v h L => v = some (.int 1) ∧ Fr n0 L) := by
  refine own_enter (plainFor_of_name own_pn1) ?_
  intro p e s m below meth c s₁ X0 e0 hx hZ hby hml hown hnm hret hlk
  refine own_cast (g' := (mkF m 0 #[.val (.long x0), .second, .val (.int x1), .unset, .unset, .unset, .unset, .unset, .unset] [])) (by first | (simp [entryFrame, mkF, argsToLocals, Value.category, maxLocals]; done) | rfl) ?_
  have N0 := Fr.nil n0
  refine own_g (mkF m 1 #[.val (.long x0), .second, .val (.int x1), .unset, .unset, .unset, .unset, .unset, .unset] [(.int x1)]) (fun _ kz => XS.iloadN X0.here hx rfl (hb hby at_0) rfl kz) ?_
  refine own_g (mkF m 3 #[.val (.long x0), .second, .val (.int x1), .unset, .unset, .unset, .unset, .unset, .unset] [(.int (2147483647 : Int32)), (.int x1)]) (fun _ kz => X0.ldcInt hx hown (mvT hZ (own_w hw 0 rfl)) (g := (mkF m 1 #[.val (.long x0), .second, .val (.int x1), .unset, .unset, .unset, .unset, .unset, .unset] [(.int x1)])) rfl (hb hby at_1) _ kz) ?_
  refine own_g (mkF m 4 #[.val (.long x0), .second, .val (.int x1), .unset, .unset, .unset, .unset, .unset, .unset] [(.int (x1 &&& (2147483647 : Int32)))]) (fun _ kz => XS.iand X0.here hx rfl (hb hby at_3) rfl kz) ?_
  refine own_g (mkF m 6 #[.val (.long x0), .second, .val (.int x1), .unset, .unset, .unset, .unset, .unset, .unset] [(.int (9 : Int32)), (.int (x1 &&& (2147483647 : Int32)))]) (fun _ kz => XS.bipush X0.here hx rfl (hb hby at_4) kz) ?_
  refine own_g (mkF m 7 #[.val (.long x0), .second, .val (.int x1), .unset, .unset, .unset, .unset, .unset, .unset] [(.int ((x1 &&& (2147483647 : Int32)) % (9 : Int32)))]) (fun _ kz => iremM X0 hx rfl (hb hby at_6) rfl (by decide) kz) ?_
  obtain ⟨i, hi, hoff⟩ := own_off x1
  rw [hoff]
  show own_E p e below _ (s₁.setTop (mkF m 7 #[.val (.long x0), .second, .val (.int x1), .unset, .unset, .unset, .unset, .unset, .unset] [(.int (Int32.ofNat i))]))
  refine own_g (mkF m 8 #[.val (.long x0), .second, .val (.int x1), .val (.int (Int32.ofNat i)), .unset, .unset, .unset, .unset, .unset] []) (fun _ kz => XS.istoreN X0.here hx rfl (hb hby at_7) rfl (l' := #[.val (.long x0), .second, .val (.int x1), .val (.int (Int32.ofNat i)), .unset, .unset, .unset, .unset, .unset]) rfl kz) ?_
  refine own_g (mkF m 10 #[.val (.long x0), .second, .val (.int x1), .val (.int (Int32.ofNat i)), .unset, .unset, .unset, .unset, .unset] [(.int (8 : Int32))]) (fun _ kz => XS.bipush X0.here hx rfl (hb hby at_8) kz) ?_
  refine own_newI X0 hx hZ e0 (own_w hw 1 rfl) rfl (hb hby at_10) (by decide) (n := 8) rfl 8 (by decide) (by decide) (by decide) (by decide) ?_
  intro T3 h3 o3 g3 X3 e3 E3 A3
  have b4 : n0 ≤ o3 := Nat.le_trans Z0 (Nat.le_of_eq g3.symm)
  have s5 : n0 ≤ h3.size := Nat.le_trans Z0 E3.1
  show own_E p e below _ (T3.setTop (mkF m 12 #[.val (.long x0), .second, .val (.int x1), .val (.int (Int32.ofNat i)), .unset, .unset, .unset, .unset, .unset] [(.ref o3)]))
  refine own_g (mkF m 14 #[.val (.long x0), .second, .val (.int x1), .val (.int (Int32.ofNat i)), .val (.ref o3), .unset, .unset, .unset, .unset] []) (fun _ kz => XS.astore X3.here hx rfl (hb hby at_12) rfl rfl (l' := #[.val (.long x0), .second, .val (.int x1), .val (.int (Int32.ofNat i)), .val (.ref o3), .unset, .unset, .unset, .unset]) rfl kz) ?_
  refine own_g (mkF m 16 #[.val (.long x0), .second, .val (.int x1), .val (.int (Int32.ofNat i)), .val (.ref o3), .unset, .unset, .unset, .unset] [(.ref o3)]) (fun _ kz => XS.aload X3.here hx rfl (hb hby at_14) rfl rfl kz) ?_
  refine own_g (mkF m 17 #[.val (.long x0), .second, .val (.int x1), .val (.int (Int32.ofNat i)), .val (.ref o3), .unset, .unset, .unset, .unset] [(.int (0 : Int32)), (.ref o3)]) (fun _ kz => XS.iconst X3.here hx rfl (hb hby at_16) kz) ?_
  refine own_g (mkF m 18 #[.val (.long x0), .second, .val (.int x1), .val (.int (Int32.ofNat i)), .val (.ref o3), .unset, .unset, .unset, .unset] [(.long x0), (.int (0 : Int32)), (.ref o3)]) (fun _ kz => XS.lloadN X3.here hx rfl (hb hby at_17) rfl kz) ?_
  refine own_g (mkF m 19 #[.val (.long x0), .second, .val (.int x1), .val (.int (Int32.ofNat i)), .val (.ref o3), .unset, .unset, .unset, .unset] [(.int x0.toInt32), (.int (0 : Int32)), (.ref o3)]) (fun _ kz => XS.l2i X3.here hx rfl (hb hby at_18) rfl kz) ?_
  refine own_g (mkF m 20 #[.val (.long x0), .second, .val (.int x1), .val (.int (Int32.ofNat i)), .val (.ref o3), .unset, .unset, .unset, .unset] [(.int x0.toInt32.toInt8.toInt32), (.int (0 : Int32)), (.ref o3)]) (fun _ kz => XS.i2b X3.here hx rfl (hb hby at_19) rfl kz) ?_
  refine own_stB X3 hx hZ e3 A3 (hb hby at_20) (by decide) (i := 0) rfl (by decide) ?_
  intro T6 h6 X6 e6 W6 A6
  have N6 := Fr.snoc X6 N0 b4
  have s7 : n0 ≤ h6.size := Nat.le_trans s5 (Keep.of_wr W6).1
  show own_E p e below _ (T6.setTop (mkF m 21 #[.val (.long x0), .second, .val (.int x1), .val (.int (Int32.ofNat i)), .val (.ref o3), .unset, .unset, .unset, .unset] []))
  refine own_g (mkF m 23 #[.val (.long x0), .second, .val (.int x1), .val (.int (Int32.ofNat i)), .val (.ref o3), .unset, .unset, .unset, .unset] [(.ref o3)]) (fun _ kz => XS.aload X6.here hx rfl (hb hby at_21) rfl rfl kz) ?_
  refine own_g (mkF m 24 #[.val (.long x0), .second, .val (.int x1), .val (.int (Int32.ofNat i)), .val (.ref o3), .unset, .unset, .unset, .unset] [(.int (1 : Int32)), (.ref o3)]) (fun _ kz => XS.iconst X6.here hx rfl (hb hby at_23) kz) ?_
  refine own_g (mkF m 25 #[.val (.long x0), .second, .val (.int x1), .val (.int (Int32.ofNat i)), .val (.ref o3), .unset, .unset, .unset, .unset] [(.long x0), (.int (1 : Int32)), (.ref o3)]) (fun _ kz => XS.lloadN X6.here hx rfl (hb hby at_24) rfl kz) ?_
  refine own_g (mkF m 27 #[.val (.long x0), .second, .val (.int x1), .val (.int (Int32.ofNat i)), .val (.ref o3), .unset, .unset, .unset, .unset] [(.int (8 : Int32)), (.long x0), (.int (1 : Int32)), (.ref o3)]) (fun _ kz => XS.bipush X6.here hx rfl (hb hby at_25) kz) ?_
  refine own_g (mkF m 28 #[.val (.long x0), .second, .val (.int x1), .val (.int (Int32.ofNat i)), .val (.ref o3), .unset, .unset, .unset, .unset] [(.long ((x0.toUInt64 >>> ((8 : Int32) &&& 0x3f).toInt64.toUInt64).toInt64)), (.int (1 : Int32)), (.ref o3)]) (fun _ kz => XS.lushr X6.here hx rfl (hb hby at_27) rfl kz) ?_
  refine own_g (mkF m 29 #[.val (.long x0), .second, .val (.int x1), .val (.int (Int32.ofNat i)), .val (.ref o3), .unset, .unset, .unset, .unset] [(.int ((x0.toUInt64 >>> ((8 : Int32) &&& 0x3f).toInt64.toUInt64).toInt64).toInt32), (.int (1 : Int32)), (.ref o3)]) (fun _ kz => XS.l2i X6.here hx rfl (hb hby at_28) rfl kz) ?_
  refine own_g (mkF m 30 #[.val (.long x0), .second, .val (.int x1), .val (.int (Int32.ofNat i)), .val (.ref o3), .unset, .unset, .unset, .unset] [(.int ((x0.toUInt64 >>> ((8 : Int32) &&& 0x3f).toInt64.toUInt64).toInt64).toInt32.toInt8.toInt32), (.int (1 : Int32)), (.ref o3)]) (fun _ kz => XS.i2b X6.here hx rfl (hb hby at_29) rfl kz) ?_
  refine own_stB X6 hx hZ e6 A6 (hb hby at_30) (by decide) (i := 1) rfl (by decide) ?_
  intro T8 h8 X8 e8 W8 A8
  have N8 := Fr.snoc X8 N6 b4
  have s9 : n0 ≤ h8.size := Nat.le_trans s7 (Keep.of_wr W8).1
  show own_E p e below _ (T8.setTop (mkF m 31 #[.val (.long x0), .second, .val (.int x1), .val (.int (Int32.ofNat i)), .val (.ref o3), .unset, .unset, .unset, .unset] []))
  refine own_g (mkF m 33 #[.val (.long x0), .second, .val (.int x1), .val (.int (Int32.ofNat i)), .val (.ref o3), .unset, .unset, .unset, .unset] [(.ref o3)]) (fun _ kz => XS.aload X8.here hx rfl (hb hby at_31) rfl rfl kz) ?_
  refine own_g (mkF m 34 #[.val (.long x0), .second, .val (.int x1), .val (.int (Int32.ofNat i)), .val (.ref o3), .unset, .unset, .unset, .unset] [(.int (2 : Int32)), (.ref o3)]) (fun _ kz => XS.iconst X8.here hx rfl (hb hby at_33) kz) ?_
  refine own_g (mkF m 35 #[.val (.long x0), .second, .val (.int x1), .val (.int (Int32.ofNat i)), .val (.ref o3), .unset, .unset, .unset, .unset] [(.long x0), (.int (2 : Int32)), (.ref o3)]) (fun _ kz => XS.lloadN X8.here hx rfl (hb hby at_34) rfl kz) ?_
  refine own_g (mkF m 37 #[.val (.long x0), .second, .val (.int x1), .val (.int (Int32.ofNat i)), .val (.ref o3), .unset, .unset, .unset, .unset] [(.int (16 : Int32)), (.long x0), (.int (2 : Int32)), (.ref o3)]) (fun _ kz => XS.bipush X8.here hx rfl (hb hby at_35) kz) ?_
  refine own_g (mkF m 38 #[.val (.long x0), .second, .val (.int x1), .val (.int (Int32.ofNat i)), .val (.ref o3), .unset, .unset, .unset, .unset] [(.long ((x0.toUInt64 >>> ((16 : Int32) &&& 0x3f).toInt64.toUInt64).toInt64)), (.int (2 : Int32)), (.ref o3)]) (fun _ kz => XS.lushr X8.here hx rfl (hb hby at_37) rfl kz) ?_
  refine own_g (mkF m 39 #[.val (.long x0), .second, .val (.int x1), .val (.int (Int32.ofNat i)), .val (.ref o3), .unset, .unset, .unset, .unset] [(.int ((x0.toUInt64 >>> ((16 : Int32) &&& 0x3f).toInt64.toUInt64).toInt64).toInt32), (.int (2 : Int32)), (.ref o3)]) (fun _ kz => XS.l2i X8.here hx rfl (hb hby at_38) rfl kz) ?_
  refine own_g (mkF m 40 #[.val (.long x0), .second, .val (.int x1), .val (.int (Int32.ofNat i)), .val (.ref o3), .unset, .unset, .unset, .unset] [(.int ((x0.toUInt64 >>> ((16 : Int32) &&& 0x3f).toInt64.toUInt64).toInt64).toInt32.toInt8.toInt32), (.int (2 : Int32)), (.ref o3)]) (fun _ kz => XS.i2b X8.here hx rfl (hb hby at_39) rfl kz) ?_
  refine own_stB X8 hx hZ e8 A8 (hb hby at_40) (by decide) (i := 2) rfl (by decide) ?_
  intro T10 h10 X10 e10 W10 A10
  have N10 := Fr.snoc X10 N8 b4
  have s11 : n0 ≤ h10.size := Nat.le_trans s9 (Keep.of_wr W10).1
  show own_E p e below _ (T10.setTop (mkF m 41 #[.val (.long x0), .second, .val (.int x1), .val (.int (Int32.ofNat i)), .val (.ref o3), .unset, .unset, .unset, .unset] []))
  refine own_g (mkF m 43 #[.val (.long x0), .second, .val (.int x1), .val (.int (Int32.ofNat i)), .val (.ref o3), .unset, .unset, .unset, .unset] [(.ref o3)]) (fun _ kz => XS.aload X10.here hx rfl (hb hby at_41) rfl rfl kz) ?_
  refine own_g (mkF m 44 #[.val (.long x0), .second, .val (.int x1), .val (.int (Int32.ofNat i)), .val (.ref o3), .unset, .unset, .unset, .unset] [(.int (3 : Int32)), (.ref o3)]) (fun _ kz => XS.iconst X10.here hx rfl (hb hby at_43) kz) ?_
  refine own_g (mkF m 45 #[.val (.long x0), .second, .val (.int x1), .val (.int (Int32.ofNat i)), .val (.ref o3), .unset, .unset, .unset, .unset] [(.long x0), (.int (3 : Int32)), (.ref o3)]) (fun _ kz => XS.lloadN X10.here hx rfl (hb hby at_44) rfl kz) ?_
  refine own_g (mkF m 47 #[.val (.long x0), .second, .val (.int x1), .val (.int (Int32.ofNat i)), .val (.ref o3), .unset, .unset, .unset, .unset] [(.int (24 : Int32)), (.long x0), (.int (3 : Int32)), (.ref o3)]) (fun _ kz => XS.bipush X10.here hx rfl (hb hby at_45) kz) ?_
  refine own_g (mkF m 48 #[.val (.long x0), .second, .val (.int x1), .val (.int (Int32.ofNat i)), .val (.ref o3), .unset, .unset, .unset, .unset] [(.long ((x0.toUInt64 >>> ((24 : Int32) &&& 0x3f).toInt64.toUInt64).toInt64)), (.int (3 : Int32)), (.ref o3)]) (fun _ kz => XS.lushr X10.here hx rfl (hb hby at_47) rfl kz) ?_
  refine own_g (mkF m 49 #[.val (.long x0), .second, .val (.int x1), .val (.int (Int32.ofNat i)), .val (.ref o3), .unset, .unset, .unset, .unset] [(.int ((x0.toUInt64 >>> ((24 : Int32) &&& 0x3f).toInt64.toUInt64).toInt64).toInt32), (.int (3 : Int32)), (.ref o3)]) (fun _ kz => XS.l2i X10.here hx rfl (hb hby at_48) rfl kz) ?_
  refine own_g (mkF m 50 #[.val (.long x0), .second, .val (.int x1), .val (.int (Int32.ofNat i)), .val (.ref o3), .unset, .unset, .unset, .unset] [(.int ((x0.toUInt64 >>> ((24 : Int32) &&& 0x3f).toInt64.toUInt64).toInt64).toInt32.toInt8.toInt32), (.int (3 : Int32)), (.ref o3)]) (fun _ kz => XS.i2b X10.here hx rfl (hb hby at_49) rfl kz) ?_
  refine own_stB X10 hx hZ e10 A10 (hb hby at_50) (by decide) (i := 3) rfl (by decide) ?_
  intro T12 h12 X12 e12 W12 A12
  have N12 := Fr.snoc X12 N10 b4
  have s13 : n0 ≤ h12.size := Nat.le_trans s11 (Keep.of_wr W12).1
  show own_E p e below _ (T12.setTop (mkF m 51 #[.val (.long x0), .second, .val (.int x1), .val (.int (Int32.ofNat i)), .val (.ref o3), .unset, .unset, .unset, .unset] []))
  refine own_g (mkF m 53 #[.val (.long x0), .second, .val (.int x1), .val (.int (Int32.ofNat i)), .val (.ref o3), .unset, .unset, .unset, .unset] [(.ref o3)]) (fun _ kz => XS.aload X12.here hx rfl (hb hby at_51) rfl rfl kz) ?_
  refine own_g (mkF m 54 #[.val (.long x0), .second, .val (.int x1), .val (.int (Int32.ofNat i)), .val (.ref o3), .unset, .unset, .unset, .unset] [(.int (4 : Int32)), (.ref o3)]) (fun _ kz => XS.iconst X12.here hx rfl (hb hby at_53) kz) ?_
  refine own_g (mkF m 55 #[.val (.long x0), .second, .val (.int x1), .val (.int (Int32.ofNat i)), .val (.ref o3), .unset, .unset, .unset, .unset] [(.long x0), (.int (4 : Int32)), (.ref o3)]) (fun _ kz => XS.lloadN X12.here hx rfl (hb hby at_54) rfl kz) ?_
  refine own_g (mkF m 57 #[.val (.long x0), .second, .val (.int x1), .val (.int (Int32.ofNat i)), .val (.ref o3), .unset, .unset, .unset, .unset] [(.int (32 : Int32)), (.long x0), (.int (4 : Int32)), (.ref o3)]) (fun _ kz => XS.bipush X12.here hx rfl (hb hby at_55) kz) ?_
  refine own_g (mkF m 58 #[.val (.long x0), .second, .val (.int x1), .val (.int (Int32.ofNat i)), .val (.ref o3), .unset, .unset, .unset, .unset] [(.long ((x0.toUInt64 >>> ((32 : Int32) &&& 0x3f).toInt64.toUInt64).toInt64)), (.int (4 : Int32)), (.ref o3)]) (fun _ kz => XS.lushr X12.here hx rfl (hb hby at_57) rfl kz) ?_
  refine own_g (mkF m 59 #[.val (.long x0), .second, .val (.int x1), .val (.int (Int32.ofNat i)), .val (.ref o3), .unset, .unset, .unset, .unset] [(.int ((x0.toUInt64 >>> ((32 : Int32) &&& 0x3f).toInt64.toUInt64).toInt64).toInt32), (.int (4 : Int32)), (.ref o3)]) (fun _ kz => XS.l2i X12.here hx rfl (hb hby at_58) rfl kz) ?_
  refine own_g (mkF m 60 #[.val (.long x0), .second, .val (.int x1), .val (.int (Int32.ofNat i)), .val (.ref o3), .unset, .unset, .unset, .unset] [(.int ((x0.toUInt64 >>> ((32 : Int32) &&& 0x3f).toInt64.toUInt64).toInt64).toInt32.toInt8.toInt32), (.int (4 : Int32)), (.ref o3)]) (fun _ kz => XS.i2b X12.here hx rfl (hb hby at_59) rfl kz) ?_
  refine own_stB X12 hx hZ e12 A12 (hb hby at_60) (by decide) (i := 4) rfl (by decide) ?_
  intro T14 h14 X14 e14 W14 A14
  have N14 := Fr.snoc X14 N12 b4
  have s15 : n0 ≤ h14.size := Nat.le_trans s13 (Keep.of_wr W14).1
  show own_E p e below _ (T14.setTop (mkF m 61 #[.val (.long x0), .second, .val (.int x1), .val (.int (Int32.ofNat i)), .val (.ref o3), .unset, .unset, .unset, .unset] []))
  refine own_g (mkF m 63 #[.val (.long x0), .second, .val (.int x1), .val (.int (Int32.ofNat i)), .val (.ref o3), .unset, .unset, .unset, .unset] [(.ref o3)]) (fun _ kz => XS.aload X14.here hx rfl (hb hby at_61) rfl rfl kz) ?_
  refine own_g (mkF m 64 #[.val (.long x0), .second, .val (.int x1), .val (.int (Int32.ofNat i)), .val (.ref o3), .unset, .unset, .unset, .unset] [(.int (5 : Int32)), (.ref o3)]) (fun _ kz => XS.iconst X14.here hx rfl (hb hby at_63) kz) ?_
  refine own_g (mkF m 65 #[.val (.long x0), .second, .val (.int x1), .val (.int (Int32.ofNat i)), .val (.ref o3), .unset, .unset, .unset, .unset] [(.long x0), (.int (5 : Int32)), (.ref o3)]) (fun _ kz => XS.lloadN X14.here hx rfl (hb hby at_64) rfl kz) ?_
  refine own_g (mkF m 67 #[.val (.long x0), .second, .val (.int x1), .val (.int (Int32.ofNat i)), .val (.ref o3), .unset, .unset, .unset, .unset] [(.int (40 : Int32)), (.long x0), (.int (5 : Int32)), (.ref o3)]) (fun _ kz => XS.bipush X14.here hx rfl (hb hby at_65) kz) ?_
  refine own_g (mkF m 68 #[.val (.long x0), .second, .val (.int x1), .val (.int (Int32.ofNat i)), .val (.ref o3), .unset, .unset, .unset, .unset] [(.long ((x0.toUInt64 >>> ((40 : Int32) &&& 0x3f).toInt64.toUInt64).toInt64)), (.int (5 : Int32)), (.ref o3)]) (fun _ kz => XS.lushr X14.here hx rfl (hb hby at_67) rfl kz) ?_
  refine own_g (mkF m 69 #[.val (.long x0), .second, .val (.int x1), .val (.int (Int32.ofNat i)), .val (.ref o3), .unset, .unset, .unset, .unset] [(.int ((x0.toUInt64 >>> ((40 : Int32) &&& 0x3f).toInt64.toUInt64).toInt64).toInt32), (.int (5 : Int32)), (.ref o3)]) (fun _ kz => XS.l2i X14.here hx rfl (hb hby at_68) rfl kz) ?_
  refine own_g (mkF m 70 #[.val (.long x0), .second, .val (.int x1), .val (.int (Int32.ofNat i)), .val (.ref o3), .unset, .unset, .unset, .unset] [(.int ((x0.toUInt64 >>> ((40 : Int32) &&& 0x3f).toInt64.toUInt64).toInt64).toInt32.toInt8.toInt32), (.int (5 : Int32)), (.ref o3)]) (fun _ kz => XS.i2b X14.here hx rfl (hb hby at_69) rfl kz) ?_
  refine own_stB X14 hx hZ e14 A14 (hb hby at_70) (by decide) (i := 5) rfl (by decide) ?_
  intro T16 h16 X16 e16 W16 A16
  have N16 := Fr.snoc X16 N14 b4
  have s17 : n0 ≤ h16.size := Nat.le_trans s15 (Keep.of_wr W16).1
  show own_E p e below _ (T16.setTop (mkF m 71 #[.val (.long x0), .second, .val (.int x1), .val (.int (Int32.ofNat i)), .val (.ref o3), .unset, .unset, .unset, .unset] []))
  refine own_g (mkF m 73 #[.val (.long x0), .second, .val (.int x1), .val (.int (Int32.ofNat i)), .val (.ref o3), .unset, .unset, .unset, .unset] [(.ref o3)]) (fun _ kz => XS.aload X16.here hx rfl (hb hby at_71) rfl rfl kz) ?_
  refine own_g (mkF m 75 #[.val (.long x0), .second, .val (.int x1), .val (.int (Int32.ofNat i)), .val (.ref o3), .unset, .unset, .unset, .unset] [(.int (6 : Int32)), (.ref o3)]) (fun _ kz => XS.bipush X16.here hx rfl (hb hby at_73) kz) ?_
  refine own_g (mkF m 76 #[.val (.long x0), .second, .val (.int x1), .val (.int (Int32.ofNat i)), .val (.ref o3), .unset, .unset, .unset, .unset] [(.long x0), (.int (6 : Int32)), (.ref o3)]) (fun _ kz => XS.lloadN X16.here hx rfl (hb hby at_75) rfl kz) ?_
  refine own_g (mkF m 78 #[.val (.long x0), .second, .val (.int x1), .val (.int (Int32.ofNat i)), .val (.ref o3), .unset, .unset, .unset, .unset] [(.int (48 : Int32)), (.long x0), (.int (6 : Int32)), (.ref o3)]) (fun _ kz => XS.bipush X16.here hx rfl (hb hby at_76) kz) ?_
  refine own_g (mkF m 79 #[.val (.long x0), .second, .val (.int x1), .val (.int (Int32.ofNat i)), .val (.ref o3), .unset, .unset, .unset, .unset] [(.long ((x0.toUInt64 >>> ((48 : Int32) &&& 0x3f).toInt64.toUInt64).toInt64)), (.int (6 : Int32)), (.ref o3)]) (fun _ kz => XS.lushr X16.here hx rfl (hb hby at_78) rfl kz) ?_
  refine own_g (mkF m 80 #[.val (.long x0), .second, .val (.int x1), .val (.int (Int32.ofNat i)), .val (.ref o3), .unset, .unset, .unset, .unset] [(.int ((x0.toUInt64 >>> ((48 : Int32) &&& 0x3f).toInt64.toUInt64).toInt64).toInt32), (.int (6 : Int32)), (.ref o3)]) (fun _ kz => XS.l2i X16.here hx rfl (hb hby at_79) rfl kz) ?_
  refine own_g (mkF m 81 #[.val (.long x0), .second, .val (.int x1), .val (.int (Int32.ofNat i)), .val (.ref o3), .unset, .unset, .unset, .unset] [(.int ((x0.toUInt64 >>> ((48 : Int32) &&& 0x3f).toInt64.toUInt64).toInt64).toInt32.toInt8.toInt32), (.int (6 : Int32)), (.ref o3)]) (fun _ kz => XS.i2b X16.here hx rfl (hb hby at_80) rfl kz) ?_
  refine own_stB X16 hx hZ e16 A16 (hb hby at_81) (by decide) (i := 6) rfl (by decide) ?_
  intro T18 h18 X18 e18 W18 A18
  have N18 := Fr.snoc X18 N16 b4
  have s19 : n0 ≤ h18.size := Nat.le_trans s17 (Keep.of_wr W18).1
  show own_E p e below _ (T18.setTop (mkF m 82 #[.val (.long x0), .second, .val (.int x1), .val (.int (Int32.ofNat i)), .val (.ref o3), .unset, .unset, .unset, .unset] []))
  refine own_g (mkF m 84 #[.val (.long x0), .second, .val (.int x1), .val (.int (Int32.ofNat i)), .val (.ref o3), .unset, .unset, .unset, .unset] [(.ref o3)]) (fun _ kz => XS.aload X18.here hx rfl (hb hby at_82) rfl rfl kz) ?_
  refine own_g (mkF m 86 #[.val (.long x0), .second, .val (.int x1), .val (.int (Int32.ofNat i)), .val (.ref o3), .unset, .unset, .unset, .unset] [(.int (7 : Int32)), (.ref o3)]) (fun _ kz => XS.bipush X18.here hx rfl (hb hby at_84) kz) ?_
  refine own_g (mkF m 87 #[.val (.long x0), .second, .val (.int x1), .val (.int (Int32.ofNat i)), .val (.ref o3), .unset, .unset, .unset, .unset] [(.long x0), (.int (7 : Int32)), (.ref o3)]) (fun _ kz => XS.lloadN X18.here hx rfl (hb hby at_86) rfl kz) ?_
  refine own_g (mkF m 89 #[.val (.long x0), .second, .val (.int x1), .val (.int (Int32.ofNat i)), .val (.ref o3), .unset, .unset, .unset, .unset] [(.int (56 : Int32)), (.long x0), (.int (7 : Int32)), (.ref o3)]) (fun _ kz => XS.bipush X18.here hx rfl (hb hby at_87) kz) ?_
  refine own_g (mkF m 90 #[.val (.long x0), .second, .val (.int x1), .val (.int (Int32.ofNat i)), .val (.ref o3), .unset, .unset, .unset, .unset] [(.long ((x0.toUInt64 >>> ((56 : Int32) &&& 0x3f).toInt64.toUInt64).toInt64)), (.int (7 : Int32)), (.ref o3)]) (fun _ kz => XS.lushr X18.here hx rfl (hb hby at_89) rfl kz) ?_
  refine own_g (mkF m 91 #[.val (.long x0), .second, .val (.int x1), .val (.int (Int32.ofNat i)), .val (.ref o3), .unset, .unset, .unset, .unset] [(.int ((x0.toUInt64 >>> ((56 : Int32) &&& 0x3f).toInt64.toUInt64).toInt64).toInt32), (.int (7 : Int32)), (.ref o3)]) (fun _ kz => XS.l2i X18.here hx rfl (hb hby at_90) rfl kz) ?_
  refine own_g (mkF m 92 #[.val (.long x0), .second, .val (.int x1), .val (.int (Int32.ofNat i)), .val (.ref o3), .unset, .unset, .unset, .unset] [(.int ((x0.toUInt64 >>> ((56 : Int32) &&& 0x3f).toInt64.toUInt64).toInt64).toInt32.toInt8.toInt32), (.int (7 : Int32)), (.ref o3)]) (fun _ kz => XS.i2b X18.here hx rfl (hb hby at_91) rfl kz) ?_
  refine own_stB X18 hx hZ e18 A18 (hb hby at_92) (by decide) (i := 7) rfl (by decide) ?_
  intro T20 h20 X20 e20 W20 A20
  have N20 := Fr.snoc X20 N18 b4
  have s21 : n0 ≤ h20.size := Nat.le_trans s19 (Keep.of_wr W20).1
  show own_E p e below _ (T20.setTop (mkF m 93 #[.val (.long x0), .second, .val (.int x1), .val (.int (Int32.ofNat i)), .val (.ref o3), .unset, .unset, .unset, .unset] []))
  refine own_g (mkF m 94 #[.val (.long x0), .second, .val (.int x1), .val (.int (Int32.ofNat i)), .val (.ref o3), .unset, .unset, .unset, .unset] [(.long (0 : Int64))]) (fun _ kz => XS.lconst X20.here hx rfl (hb hby at_93) kz) ?_
  refine own_g (mkF m 96 #[.val (.long x0), .second, .val (.int x1), .val (.int (Int32.ofNat i)), .val (.ref o3), .val (.long (0 : Int64)), .second, .unset, .unset] []) (fun _ kz => XS.lstore X20.here hx rfl (hb hby at_94) rfl (l' := #[.val (.long x0), .second, .val (.int x1), .val (.int (Int32.ofNat i)), .val (.ref o3), .val (.long (0 : Int64)), .second, .unset, .unset]) rfl kz) ?_
  obtain ⟨F, hF, AF⟩ : ∃ F, F = (own_set (own_set (own_set (own_set (own_set (own_set (own_set (own_set (fun _ => (0 : Int32)) 0 (nar .byte x0.toInt32.toInt8.toInt32)) 1 (nar .byte ((x0.toUInt64 >>> ((8 : Int32) &&& 0x3f).toInt64.toUInt64).toInt64).toInt32.toInt8.toInt32)) 2 (nar .byte ((x0.toUInt64 >>> ((16 : Int32) &&& 0x3f).toInt64.toUInt64).toInt64).toInt32.toInt8.toInt32)) 3 (nar .byte ((x0.toUInt64 >>> ((24 : Int32) &&& 0x3f).toInt64.toUInt64).toInt64).toInt32.toInt8.toInt32)) 4 (nar .byte ((x0.toUInt64 >>> ((32 : Int32) &&& 0x3f).toInt64.toUInt64).toInt64).toInt32.toInt8.toInt32)) 5 (nar .byte ((x0.toUInt64 >>> ((40 : Int32) &&& 0x3f).toInt64.toUInt64).toInt64).toInt32.toInt8.toInt32)) 6 (nar .byte ((x0.toUInt64 >>> ((48 : Int32) &&& 0x3f).toInt64.toUInt64).toInt64).toInt32.toInt8.toInt32)) 7 (nar .byte ((x0.toUInt64 >>> ((56 : Int32) &&& 0x3f).toInt64.toUInt64).toInt64).toInt32.toInt8.toInt32)) ∧ own_IA Z h20 o3 .byte 8 F := ⟨_, rfl, A20⟩
  have hF0 : F 0 = own_b x0 := by rw [hF]; simp [own_set, own_b]
  have hF1 : F 1 = own_b ((x0.toUInt64 >>> ((8 : Int32) &&& 0x3f).toInt64.toUInt64).toInt64) := by rw [hF]; simp [own_set, own_b]
  have hF2 : F 2 = own_b ((x0.toUInt64 >>> ((16 : Int32) &&& 0x3f).toInt64.toUInt64).toInt64) := by rw [hF]; simp [own_set, own_b]
  have hF3 : F 3 = own_b ((x0.toUInt64 >>> ((24 : Int32) &&& 0x3f).toInt64.toUInt64).toInt64) := by rw [hF]; simp [own_set, own_b]
  have hF4 : F 4 = own_b ((x0.toUInt64 >>> ((32 : Int32) &&& 0x3f).toInt64.toUInt64).toInt64) := by rw [hF]; simp [own_set, own_b]
  have hF5 : F 5 = own_b ((x0.toUInt64 >>> ((40 : Int32) &&& 0x3f).toInt64.toUInt64).toInt64) := by rw [hF]; simp [own_set, own_b]
  have hF6 : F 6 = own_b ((x0.toUInt64 >>> ((48 : Int32) &&& 0x3f).toInt64.toUInt64).toInt64) := by rw [hF]; simp [own_set, own_b]
  have hF7 : F 7 = own_b ((x0.toUInt64 >>> ((56 : Int32) &&& 0x3f).toInt64.toUInt64).toInt64) := by rw [hF]; simp [own_set, own_b]
  rw [show (0 : Int64) = own_U 0 from rfl]
  show own_E p e below _ (T20.setTop (mkF m 96 #[.val (.long x0), .second, .val (.int x1), .val (.int (Int32.ofNat i)), .val (.ref o3), .val (.long (own_U (0 : Int32))), .second, .unset, .unset] []))
  match i, hi with
  | 0, _ =>
    show own_E p e below _ (T20.setTop (mkF m 96 #[.val (.long x0), .second, .val (.int x1), .val (.int (0 : Int32)), .val (.ref o3), .val (.long (own_U (0 : Int32))), .second, .unset, .unset] []))
    refine own_g (mkF m 97 #[.val (.long x0), .second, .val (.int x1), .val (.int (0 : Int32)), .val (.ref o3), .val (.long (own_U (0 : Int32))), .second, .unset, .unset] [(.int (0 : Int32))]) (fun _ kz => XS.iloadN X20.here hx rfl (hb hby at_96) rfl kz) ?_
    refine own_g (mkF m 113 #[.val (.long x0), .second, .val (.int x1), .val (.int (0 : Int32)), .val (.ref o3), .val (.long (own_U (0 : Int32))), .second, .unset, .unset] []) (fun _ kz => XS.ifYes X20.here hx rfl (pc0 := 97) (pc' := 113) rfl (hb hby at_97) rfl ((if0 _ _).trans (flt (by decide)).2.2.2) (by decide) (by decide) kz) ?_
    refine own_g (mkF m 114 #[.val (.long x0), .second, .val (.int x1), .val (.int (0 : Int32)), .val (.ref o3), .val (.long (own_U (0 : Int32))), .second, .unset, .unset] [(.int (0 : Int32))]) (fun _ kz => XS.iloadN X20.here hx rfl (hb hby at_113) rfl kz) ?_
    refine own_g (mkF m 115 #[.val (.long x0), .second, .val (.int x1), .val (.int (0 : Int32)), .val (.ref o3), .val (.long (own_U (0 : Int32))), .second, .unset, .unset] [(.int (1 : Int32)), (.int (0 : Int32))]) (fun _ kz => XS.iconst X20.here hx rfl (hb hby at_114) kz) ?_
    refine own_g (mkF m 134 #[.val (.long x0), .second, .val (.int x1), .val (.int (0 : Int32)), .val (.ref o3), .val (.long (own_U (0 : Int32))), .second, .unset, .unset] []) (fun _ kz => XS.icmpYes X20.here hx rfl (pc0 := 115) (pc' := 134) rfl (hb hby at_115) rfl (flt (by decide)).2.2.2 (by decide) (by decide) kz) ?_
    refine own_g (mkF m 135 #[.val (.long x0), .second, .val (.int x1), .val (.int (0 : Int32)), .val (.ref o3), .val (.long (own_U (0 : Int32))), .second, .unset, .unset] [(.int (0 : Int32))]) (fun _ kz => XS.iloadN X20.here hx rfl (hb hby at_134) rfl kz) ?_
    refine own_g (mkF m 136 #[.val (.long x0), .second, .val (.int x1), .val (.int (0 : Int32)), .val (.ref o3), .val (.long (own_U (0 : Int32))), .second, .unset, .unset] [(.int (2 : Int32)), (.int (0 : Int32))]) (fun _ kz => XS.iconst X20.here hx rfl (hb hby at_135) kz) ?_
    refine own_g (mkF m 155 #[.val (.long x0), .second, .val (.int x1), .val (.int (0 : Int32)), .val (.ref o3), .val (.long (own_U (0 : Int32))), .second, .unset, .unset] []) (fun _ kz => XS.icmpYes X20.here hx rfl (pc0 := 136) (pc' := 155) rfl (hb hby at_136) rfl (flt (by decide)).2.2.2 (by decide) (by decide) kz) ?_
    refine own_g (mkF m 156 #[.val (.long x0), .second, .val (.int x1), .val (.int (0 : Int32)), .val (.ref o3), .val (.long (own_U (0 : Int32))), .second, .unset, .unset] [(.int (0 : Int32))]) (fun _ kz => XS.iloadN X20.here hx rfl (hb hby at_155) rfl kz) ?_
    refine own_g (mkF m 157 #[.val (.long x0), .second, .val (.int x1), .val (.int (0 : Int32)), .val (.ref o3), .val (.long (own_U (0 : Int32))), .second, .unset, .unset] [(.int (3 : Int32)), (.int (0 : Int32))]) (fun _ kz => XS.iconst X20.here hx rfl (hb hby at_156) kz) ?_
    refine own_g (mkF m 176 #[.val (.long x0), .second, .val (.int x1), .val (.int (0 : Int32)), .val (.ref o3), .val (.long (own_U (0 : Int32))), .second, .unset, .unset] []) (fun _ kz => XS.icmpYes X20.here hx rfl (pc0 := 157) (pc' := 176) rfl (hb hby at_157) rfl (flt (by decide)).2.2.2 (by decide) (by decide) kz) ?_
    refine own_g (mkF m 177 #[.val (.long x0), .second, .val (.int x1), .val (.int (0 : Int32)), .val (.ref o3), .val (.long (own_U (0 : Int32))), .second, .unset, .unset] [(.int (0 : Int32))]) (fun _ kz => XS.iloadN X20.here hx rfl (hb hby at_176) rfl kz) ?_
    refine own_g (mkF m 178 #[.val (.long x0), .second, .val (.int x1), .val (.int (0 : Int32)), .val (.ref o3), .val (.long (own_U (0 : Int32))), .second, .unset, .unset] [(.int (4 : Int32)), (.int (0 : Int32))]) (fun _ kz => XS.iconst X20.here hx rfl (hb hby at_177) kz) ?_
    refine own_g (mkF m 197 #[.val (.long x0), .second, .val (.int x1), .val (.int (0 : Int32)), .val (.ref o3), .val (.long (own_U (0 : Int32))), .second, .unset, .unset] []) (fun _ kz => XS.icmpYes X20.here hx rfl (pc0 := 178) (pc' := 197) rfl (hb hby at_178) rfl (flt (by decide)).2.2.2 (by decide) (by decide) kz) ?_
    refine own_g (mkF m 198 #[.val (.long x0), .second, .val (.int x1), .val (.int (0 : Int32)), .val (.ref o3), .val (.long (own_U (0 : Int32))), .second, .unset, .unset] [(.int (0 : Int32))]) (fun _ kz => XS.iloadN X20.here hx rfl (hb hby at_197) rfl kz) ?_
    refine own_g (mkF m 199 #[.val (.long x0), .second, .val (.int x1), .val (.int (0 : Int32)), .val (.ref o3), .val (.long (own_U (0 : Int32))), .second, .unset, .unset] [(.int (5 : Int32)), (.int (0 : Int32))]) (fun _ kz => XS.iconst X20.here hx rfl (hb hby at_198) kz) ?_
    refine own_g (mkF m 218 #[.val (.long x0), .second, .val (.int x1), .val (.int (0 : Int32)), .val (.ref o3), .val (.long (own_U (0 : Int32))), .second, .unset, .unset] []) (fun _ kz => XS.icmpYes X20.here hx rfl (pc0 := 199) (pc' := 218) rfl (hb hby at_199) rfl (flt (by decide)).2.2.2 (by decide) (by decide) kz) ?_
    refine own_g (mkF m 219 #[.val (.long x0), .second, .val (.int x1), .val (.int (0 : Int32)), .val (.ref o3), .val (.long (own_U (0 : Int32))), .second, .unset, .unset] [(.int (0 : Int32))]) (fun _ kz => XS.iloadN X20.here hx rfl (hb hby at_218) rfl kz) ?_
    refine own_g (mkF m 221 #[.val (.long x0), .second, .val (.int x1), .val (.int (0 : Int32)), .val (.ref o3), .val (.long (own_U (0 : Int32))), .second, .unset, .unset] [(.int (6 : Int32)), (.int (0 : Int32))]) (fun _ kz => XS.bipush X20.here hx rfl (hb hby at_219) kz) ?_
    refine own_g (mkF m 240 #[.val (.long x0), .second, .val (.int x1), .val (.int (0 : Int32)), .val (.ref o3), .val (.long (own_U (0 : Int32))), .second, .unset, .unset] []) (fun _ kz => XS.icmpYes X20.here hx rfl (pc0 := 221) (pc' := 240) rfl (hb hby at_221) rfl (flt (by decide)).2.2.2 (by decide) (by decide) kz) ?_
    refine own_g (mkF m 241 #[.val (.long x0), .second, .val (.int x1), .val (.int (0 : Int32)), .val (.ref o3), .val (.long (own_U (0 : Int32))), .second, .unset, .unset] [(.int (0 : Int32))]) (fun _ kz => XS.iloadN X20.here hx rfl (hb hby at_240) rfl kz) ?_
    refine own_g (mkF m 243 #[.val (.long x0), .second, .val (.int x1), .val (.int (0 : Int32)), .val (.ref o3), .val (.long (own_U (0 : Int32))), .second, .unset, .unset] [(.int (7 : Int32)), (.int (0 : Int32))]) (fun _ kz => XS.bipush X20.here hx rfl (hb hby at_241) kz) ?_
    refine own_g (mkF m 262 #[.val (.long x0), .second, .val (.int x1), .val (.int (0 : Int32)), .val (.ref o3), .val (.long (own_U (0 : Int32))), .second, .unset, .unset] []) (fun _ kz => XS.icmpYes X20.here hx rfl (pc0 := 243) (pc' := 262) rfl (hb hby at_243) rfl (flt (by decide)).2.2.2 (by decide) (by decide) kz) ?_
    refine own_g (mkF m 264 #[.val (.long x0), .second, .val (.int x1), .val (.int (0 : Int32)), .val (.ref o3), .val (.long (own_U (0 : Int32))), .second, .unset, .unset] [(.long (own_U (0 : Int32)))]) (fun _ kz => XS.lload X20.here hx rfl (hb hby at_262) rfl kz) ?_
    refine own_callS (rest := []) (as := [(.long (own_U (0 : Int32)))]) X20 hx hZ hown e20 (own_c_fin l Z a0 hw (own_U (0 : Int32)) h20) (own_w hw 9 rfl) (own_w hw 10 rfl) (own_w hw 5 rfl) (own_w hw 11 rfl) (by decide) own_pd1 rfl (by rw [hml]; rfl) rfl (hb hby at_264) 0 (by show 2 * 0 + _ ≤ _; exact Nat.le_of_eq rfl) (by decide) (by decide) (by decide) (by decide) ?_
    rintro _ T22 L22 X22 ⟨rfl, rfl, e22⟩
    have N22 := Fr.app N20 (Fr.nil n0)
    show own_E p e below _ (T22.setTop (mkF m 267 #[.val (.long x0), .second, .val (.int x1), .val (.int (0 : Int32)), .val (.ref o3), .val (.long (own_U (0 : Int32))), .second, .unset, .unset] [(.long (own_fin (own_U (0 : Int32))))]))
    refine own_g (mkF m 269 #[.val (.long x0), .second, .val (.int x1), .val (.int (0 : Int32)), .val (.ref o3), .val (.long (own_U (0 : Int32))), .second, .val (.long (own_fin (own_U (0 : Int32)))), .second] []) (fun _ kz => XS.lstore X22.here hx rfl (hb hby at_267) rfl (l' := #[.val (.long x0), .second, .val (.int x1), .val (.int (0 : Int32)), .val (.ref o3), .val (.long (own_U (0 : Int32))), .second, .val (.long (own_fin (own_U (0 : Int32)))), .second]) rfl kz) ?_
    refine own_g (mkF m 271 #[.val (.long x0), .second, .val (.int x1), .val (.int (0 : Int32)), .val (.ref o3), .val (.long (own_U (0 : Int32))), .second, .val (.long (own_fin (own_U (0 : Int32)))), .second] [(.ref o3)]) (fun _ kz => XS.aload X22.here hx rfl (hb hby at_269) rfl rfl kz) ?_
    refine own_g (mkF m 272 #[.val (.long x0), .second, .val (.int x1), .val (.int (0 : Int32)), .val (.ref o3), .val (.long (own_U (0 : Int32))), .second, .val (.long (own_fin (own_U (0 : Int32)))), .second] [(.int (0 : Int32)), (.ref o3)]) (fun _ kz => XS.iloadN X22.here hx rfl (hb hby at_271) rfl kz) ?_
    refine own_callS (rest := []) (as := [(.ref o3), (.int (0 : Int32))]) X22 hx hZ hown e22 (own_c_oat l Z a0 hw o3 0 F h20 (by decide) AF) (own_w hw 14 rfl) (own_w hw 15 rfl) (own_w hw 16 rfl) (own_w hw 17 rfl) (by decide) own_pd2 rfl (by rw [hml]; rfl) rfl (hb hby at_272) 0 (by show 2 * 0 + _ ≤ _; exact Nat.le_of_eq rfl) (by decide) (by decide) (by decide) (by decide) ?_
    rintro _ T23 L23 X23 ⟨rfl, rfl, e23⟩
    have N23 := Fr.app N22 (Fr.nil n0)
    show own_E p e below _ (T23.setTop (mkF m 275 #[.val (.long x0), .second, .val (.int x1), .val (.int (0 : Int32)), .val (.ref o3), .val (.long (own_U (0 : Int32))), .second, .val (.long (own_fin (own_U (0 : Int32)))), .second] [(.long (own_U (own_g3 (own_fold F 0 0 0))))]))
    refine own_g (mkF m 277 #[.val (.long x0), .second, .val (.int x1), .val (.int (0 : Int32)), .val (.ref o3), .val (.long (own_U (0 : Int32))), .second, .val (.long (own_fin (own_U (0 : Int32)))), .second] [(.long (own_fin (own_U (0 : Int32)))), (.long (own_U (own_g3 (own_fold F 0 0 0))))]) (fun _ kz => XS.lload X23.here hx rfl (hb hby at_275) rfl kz) ?_
    refine own_g (mkF m 278 #[.val (.long x0), .second, .val (.int x1), .val (.int (0 : Int32)), .val (.ref o3), .val (.long (own_U (0 : Int32))), .second, .val (.long (own_fin (own_U (0 : Int32)))), .second] [(.int (lcmpW (own_U (own_g3 (own_fold F 0 0 0))) (own_fin (own_U (0 : Int32)))))]) (fun _ kz => XS.lcmp X23.here hx rfl (hb hby at_277) rfl kz) ?_
    refine own_g (mkF m 281 #[.val (.long x0), .second, .val (.int x1), .val (.int (0 : Int32)), .val (.ref o3), .val (.long (own_U (0 : Int32))), .second, .val (.long (own_fin (own_U (0 : Int32)))), .second] []) (fun _ kz => XS.ifNo X23.here hx rfl (hb hby at_278) rfl ((if0 _ _).trans (teq (own_lcT (by rw [own_fi]; simp only [own_fold]))).2) kz) ?_
    refine own_g (mkF m 282 #[.val (.long x0), .second, .val (.int x1), .val (.int (0 : Int32)), .val (.ref o3), .val (.long (own_U (0 : Int32))), .second, .val (.long (own_fin (own_U (0 : Int32)))), .second] [(.int (1 : Int32))]) (fun _ kz => XS.iconst X23.here hx rfl (hb hby at_281) kz) ?_
    refine own_g (mkF m 286 #[.val (.long x0), .second, .val (.int x1), .val (.int (0 : Int32)), .val (.ref o3), .val (.long (own_U (0 : Int32))), .second, .val (.long (own_fin (own_U (0 : Int32)))), .second] [(.int (1 : Int32))]) (fun _ kz => XS.goto X23.here hx rfl (pc0 := 282) (pc' := 286) rfl (hb hby at_282) (by decide) (by decide) kz) ?_
    exact own_retZ X23 hx hret hlk (hb hby at_286) rfl (by decide) (by decide) (by first | exact ⟨rfl, N23⟩ | (rw [e23]; exact ⟨rfl, N23⟩))
  | 1, _ =>
    show own_E p e below _ (T20.setTop (mkF m 96 #[.val (.long x0), .second, .val (.int x1), .val (.int (1 : Int32)), .val (.ref o3), .val (.long (own_U (0 : Int32))), .second, .unset, .unset] []))
    refine own_g (mkF m 97 #[.val (.long x0), .second, .val (.int x1), .val (.int (1 : Int32)), .val (.ref o3), .val (.long (own_U (0 : Int32))), .second, .unset, .unset] [(.int (1 : Int32))]) (fun _ kz => XS.iloadN X20.here hx rfl (hb hby at_96) rfl kz) ?_
    refine own_g (mkF m 100 #[.val (.long x0), .second, .val (.int x1), .val (.int (1 : Int32)), .val (.ref o3), .val (.long (own_U (0 : Int32))), .second, .unset, .unset] []) (fun _ kz => XS.ifNo X20.here hx rfl (hb hby at_97) rfl ((if0 _ _).trans (tlt (by decide)).2.2.2) kz) ?_
    refine own_g (mkF m 102 #[.val (.long x0), .second, .val (.int x1), .val (.int (1 : Int32)), .val (.ref o3), .val (.long (own_U (0 : Int32))), .second, .unset, .unset] [(.long (own_U (0 : Int32)))]) (fun _ kz => XS.lload X20.here hx rfl (hb hby at_100) rfl kz) ?_
    refine own_g (mkF m 103 #[.val (.long x0), .second, .val (.int x1), .val (.int (1 : Int32)), .val (.ref o3), .val (.long (own_U (0 : Int32))), .second, .unset, .unset] [(.long x0), (.long (own_U (0 : Int32)))]) (fun _ kz => XS.lloadN X20.here hx rfl (hb hby at_102) rfl kz) ?_
    refine own_g (mkF m 106 #[.val (.long x0), .second, .val (.int x1), .val (.int (1 : Int32)), .val (.ref o3), .val (.long (own_U (0 : Int32))), .second, .unset, .unset] [(.long (255 : Int64)), (.long x0), (.long (own_U (0 : Int32)))]) (fun _ kz => X20.ldc2Long hx hown (mvT hZ (own_w hw 2 rfl)) (g := (mkF m 103 #[.val (.long x0), .second, .val (.int x1), .val (.int (1 : Int32)), .val (.ref o3), .val (.long (own_U (0 : Int32))), .second, .unset, .unset] [(.long x0), (.long (own_U (0 : Int32)))])) rfl (hb hby at_103) _ kz) ?_
    refine own_g (mkF m 107 #[.val (.long x0), .second, .val (.int x1), .val (.int (1 : Int32)), .val (.ref o3), .val (.long (own_U (0 : Int32))), .second, .unset, .unset] [(.long (x0 &&& (255 : Int64))), (.long (own_U (0 : Int32)))]) (fun _ kz => XS.land X20.here hx rfl (hb hby at_106) rfl kz) ?_
    refine own_g (mkF m 108 #[.val (.long x0), .second, .val (.int x1), .val (.int (1 : Int32)), .val (.ref o3), .val (.long (own_U (0 : Int32))), .second, .unset, .unset] [(.int (x0 &&& (255 : Int64)).toInt32), (.long (own_U (0 : Int32)))]) (fun _ kz => XS.l2i X20.here hx rfl (hb hby at_107) rfl kz) ?_
    refine own_callS (rest := []) (as := [(.long (own_U (0 : Int32))), (.int (x0 &&& (255 : Int64)).toInt32)]) X20 hx hZ hown e20 (own_c_step l Z a0 hw (own_U (0 : Int32)) (x0 &&& (255 : Int64)).toInt32 h20) (own_w hw 3 rfl) (own_w hw 4 rfl) (own_w hw 5 rfl) (own_w hw 6 rfl) (by decide) own_pd3 rfl (by rw [hml]; rfl) rfl (hb hby at_108) 0 (by show 2 * 0 + _ ≤ _; exact Nat.le_of_eq rfl) (by decide) (by decide) (by decide) (by decide) ?_
    rintro _ T24 L24 X24 ⟨rfl, rfl, e24⟩
    have N24 := Fr.app N20 (Fr.nil n0)
    show own_E p e below _ (T24.setTop (mkF m 111 #[.val (.long x0), .second, .val (.int x1), .val (.int (1 : Int32)), .val (.ref o3), .val (.long (own_U (0 : Int32))), .second, .unset, .unset] [(.long (own_step (own_U (0 : Int32)) (x0 &&& (255 : Int64)).toInt32))]))
    obtain ⟨k1, hk1, qk1⟩ : ∃ z, z = own_o2 (0 : Int32) (own_b x0) ∧ own_step (own_U (0 : Int32)) (x0 &&& (255 : Int64)).toInt32 = own_U z := ⟨_, rfl, own_st (0 : Int32) x0⟩
    rw [qk1]
    show own_E p e below _ (T24.setTop (mkF m 111 #[.val (.long x0), .second, .val (.int x1), .val (.int (1 : Int32)), .val (.ref o3), .val (.long (own_U (0 : Int32))), .second, .unset, .unset] [(.long (own_U k1))]))
    refine own_g (mkF m 113 #[.val (.long x0), .second, .val (.int x1), .val (.int (1 : Int32)), .val (.ref o3), .val (.long (own_U k1)), .second, .unset, .unset] []) (fun _ kz => XS.lstore X24.here hx rfl (hb hby at_111) rfl (l' := #[.val (.long x0), .second, .val (.int x1), .val (.int (1 : Int32)), .val (.ref o3), .val (.long (own_U k1)), .second, .unset, .unset]) rfl kz) ?_
    refine own_g (mkF m 114 #[.val (.long x0), .second, .val (.int x1), .val (.int (1 : Int32)), .val (.ref o3), .val (.long (own_U k1)), .second, .unset, .unset] [(.int (1 : Int32))]) (fun _ kz => XS.iloadN X24.here hx rfl (hb hby at_113) rfl kz) ?_
    refine own_g (mkF m 115 #[.val (.long x0), .second, .val (.int x1), .val (.int (1 : Int32)), .val (.ref o3), .val (.long (own_U k1)), .second, .unset, .unset] [(.int (1 : Int32)), (.int (1 : Int32))]) (fun _ kz => XS.iconst X24.here hx rfl (hb hby at_114) kz) ?_
    refine own_g (mkF m 134 #[.val (.long x0), .second, .val (.int x1), .val (.int (1 : Int32)), .val (.ref o3), .val (.long (own_U k1)), .second, .unset, .unset] []) (fun _ kz => XS.icmpYes X24.here hx rfl (pc0 := 115) (pc' := 134) rfl (hb hby at_115) rfl (flt (by decide)).2.2.2 (by decide) (by decide) kz) ?_
    refine own_g (mkF m 135 #[.val (.long x0), .second, .val (.int x1), .val (.int (1 : Int32)), .val (.ref o3), .val (.long (own_U k1)), .second, .unset, .unset] [(.int (1 : Int32))]) (fun _ kz => XS.iloadN X24.here hx rfl (hb hby at_134) rfl kz) ?_
    refine own_g (mkF m 136 #[.val (.long x0), .second, .val (.int x1), .val (.int (1 : Int32)), .val (.ref o3), .val (.long (own_U k1)), .second, .unset, .unset] [(.int (2 : Int32)), (.int (1 : Int32))]) (fun _ kz => XS.iconst X24.here hx rfl (hb hby at_135) kz) ?_
    refine own_g (mkF m 155 #[.val (.long x0), .second, .val (.int x1), .val (.int (1 : Int32)), .val (.ref o3), .val (.long (own_U k1)), .second, .unset, .unset] []) (fun _ kz => XS.icmpYes X24.here hx rfl (pc0 := 136) (pc' := 155) rfl (hb hby at_136) rfl (flt (by decide)).2.2.2 (by decide) (by decide) kz) ?_
    refine own_g (mkF m 156 #[.val (.long x0), .second, .val (.int x1), .val (.int (1 : Int32)), .val (.ref o3), .val (.long (own_U k1)), .second, .unset, .unset] [(.int (1 : Int32))]) (fun _ kz => XS.iloadN X24.here hx rfl (hb hby at_155) rfl kz) ?_
    refine own_g (mkF m 157 #[.val (.long x0), .second, .val (.int x1), .val (.int (1 : Int32)), .val (.ref o3), .val (.long (own_U k1)), .second, .unset, .unset] [(.int (3 : Int32)), (.int (1 : Int32))]) (fun _ kz => XS.iconst X24.here hx rfl (hb hby at_156) kz) ?_
    refine own_g (mkF m 176 #[.val (.long x0), .second, .val (.int x1), .val (.int (1 : Int32)), .val (.ref o3), .val (.long (own_U k1)), .second, .unset, .unset] []) (fun _ kz => XS.icmpYes X24.here hx rfl (pc0 := 157) (pc' := 176) rfl (hb hby at_157) rfl (flt (by decide)).2.2.2 (by decide) (by decide) kz) ?_
    refine own_g (mkF m 177 #[.val (.long x0), .second, .val (.int x1), .val (.int (1 : Int32)), .val (.ref o3), .val (.long (own_U k1)), .second, .unset, .unset] [(.int (1 : Int32))]) (fun _ kz => XS.iloadN X24.here hx rfl (hb hby at_176) rfl kz) ?_
    refine own_g (mkF m 178 #[.val (.long x0), .second, .val (.int x1), .val (.int (1 : Int32)), .val (.ref o3), .val (.long (own_U k1)), .second, .unset, .unset] [(.int (4 : Int32)), (.int (1 : Int32))]) (fun _ kz => XS.iconst X24.here hx rfl (hb hby at_177) kz) ?_
    refine own_g (mkF m 197 #[.val (.long x0), .second, .val (.int x1), .val (.int (1 : Int32)), .val (.ref o3), .val (.long (own_U k1)), .second, .unset, .unset] []) (fun _ kz => XS.icmpYes X24.here hx rfl (pc0 := 178) (pc' := 197) rfl (hb hby at_178) rfl (flt (by decide)).2.2.2 (by decide) (by decide) kz) ?_
    refine own_g (mkF m 198 #[.val (.long x0), .second, .val (.int x1), .val (.int (1 : Int32)), .val (.ref o3), .val (.long (own_U k1)), .second, .unset, .unset] [(.int (1 : Int32))]) (fun _ kz => XS.iloadN X24.here hx rfl (hb hby at_197) rfl kz) ?_
    refine own_g (mkF m 199 #[.val (.long x0), .second, .val (.int x1), .val (.int (1 : Int32)), .val (.ref o3), .val (.long (own_U k1)), .second, .unset, .unset] [(.int (5 : Int32)), (.int (1 : Int32))]) (fun _ kz => XS.iconst X24.here hx rfl (hb hby at_198) kz) ?_
    refine own_g (mkF m 218 #[.val (.long x0), .second, .val (.int x1), .val (.int (1 : Int32)), .val (.ref o3), .val (.long (own_U k1)), .second, .unset, .unset] []) (fun _ kz => XS.icmpYes X24.here hx rfl (pc0 := 199) (pc' := 218) rfl (hb hby at_199) rfl (flt (by decide)).2.2.2 (by decide) (by decide) kz) ?_
    refine own_g (mkF m 219 #[.val (.long x0), .second, .val (.int x1), .val (.int (1 : Int32)), .val (.ref o3), .val (.long (own_U k1)), .second, .unset, .unset] [(.int (1 : Int32))]) (fun _ kz => XS.iloadN X24.here hx rfl (hb hby at_218) rfl kz) ?_
    refine own_g (mkF m 221 #[.val (.long x0), .second, .val (.int x1), .val (.int (1 : Int32)), .val (.ref o3), .val (.long (own_U k1)), .second, .unset, .unset] [(.int (6 : Int32)), (.int (1 : Int32))]) (fun _ kz => XS.bipush X24.here hx rfl (hb hby at_219) kz) ?_
    refine own_g (mkF m 240 #[.val (.long x0), .second, .val (.int x1), .val (.int (1 : Int32)), .val (.ref o3), .val (.long (own_U k1)), .second, .unset, .unset] []) (fun _ kz => XS.icmpYes X24.here hx rfl (pc0 := 221) (pc' := 240) rfl (hb hby at_221) rfl (flt (by decide)).2.2.2 (by decide) (by decide) kz) ?_
    refine own_g (mkF m 241 #[.val (.long x0), .second, .val (.int x1), .val (.int (1 : Int32)), .val (.ref o3), .val (.long (own_U k1)), .second, .unset, .unset] [(.int (1 : Int32))]) (fun _ kz => XS.iloadN X24.here hx rfl (hb hby at_240) rfl kz) ?_
    refine own_g (mkF m 243 #[.val (.long x0), .second, .val (.int x1), .val (.int (1 : Int32)), .val (.ref o3), .val (.long (own_U k1)), .second, .unset, .unset] [(.int (7 : Int32)), (.int (1 : Int32))]) (fun _ kz => XS.bipush X24.here hx rfl (hb hby at_241) kz) ?_
    refine own_g (mkF m 262 #[.val (.long x0), .second, .val (.int x1), .val (.int (1 : Int32)), .val (.ref o3), .val (.long (own_U k1)), .second, .unset, .unset] []) (fun _ kz => XS.icmpYes X24.here hx rfl (pc0 := 243) (pc' := 262) rfl (hb hby at_243) rfl (flt (by decide)).2.2.2 (by decide) (by decide) kz) ?_
    refine own_g (mkF m 264 #[.val (.long x0), .second, .val (.int x1), .val (.int (1 : Int32)), .val (.ref o3), .val (.long (own_U k1)), .second, .unset, .unset] [(.long (own_U k1))]) (fun _ kz => XS.lload X24.here hx rfl (hb hby at_262) rfl kz) ?_
    refine own_callS (rest := []) (as := [(.long (own_U k1))]) X24 hx hZ hown e24 (own_c_fin l Z a0 hw (own_U k1) h20) (own_w hw 9 rfl) (own_w hw 10 rfl) (own_w hw 5 rfl) (own_w hw 11 rfl) (by decide) own_pd1 rfl (by rw [hml]; rfl) rfl (hb hby at_264) 0 (by show 2 * 0 + _ ≤ _; exact Nat.le_of_eq rfl) (by decide) (by decide) (by decide) (by decide) ?_
    rintro _ T25 L25 X25 ⟨rfl, rfl, e25⟩
    have N25 := Fr.app N24 (Fr.nil n0)
    show own_E p e below _ (T25.setTop (mkF m 267 #[.val (.long x0), .second, .val (.int x1), .val (.int (1 : Int32)), .val (.ref o3), .val (.long (own_U k1)), .second, .unset, .unset] [(.long (own_fin (own_U k1)))]))
    refine own_g (mkF m 269 #[.val (.long x0), .second, .val (.int x1), .val (.int (1 : Int32)), .val (.ref o3), .val (.long (own_U k1)), .second, .val (.long (own_fin (own_U k1))), .second] []) (fun _ kz => XS.lstore X25.here hx rfl (hb hby at_267) rfl (l' := #[.val (.long x0), .second, .val (.int x1), .val (.int (1 : Int32)), .val (.ref o3), .val (.long (own_U k1)), .second, .val (.long (own_fin (own_U k1))), .second]) rfl kz) ?_
    refine own_g (mkF m 271 #[.val (.long x0), .second, .val (.int x1), .val (.int (1 : Int32)), .val (.ref o3), .val (.long (own_U k1)), .second, .val (.long (own_fin (own_U k1))), .second] [(.ref o3)]) (fun _ kz => XS.aload X25.here hx rfl (hb hby at_269) rfl rfl kz) ?_
    refine own_g (mkF m 272 #[.val (.long x0), .second, .val (.int x1), .val (.int (1 : Int32)), .val (.ref o3), .val (.long (own_U k1)), .second, .val (.long (own_fin (own_U k1))), .second] [(.int (1 : Int32)), (.ref o3)]) (fun _ kz => XS.iloadN X25.here hx rfl (hb hby at_271) rfl kz) ?_
    refine own_callS (rest := []) (as := [(.ref o3), (.int (1 : Int32))]) X25 hx hZ hown e25 (own_c_oat l Z a0 hw o3 1 F h20 (by decide) AF) (own_w hw 14 rfl) (own_w hw 15 rfl) (own_w hw 16 rfl) (own_w hw 17 rfl) (by decide) own_pd2 rfl (by rw [hml]; rfl) rfl (hb hby at_272) 0 (by show 2 * 0 + _ ≤ _; exact Nat.le_of_eq rfl) (by decide) (by decide) (by decide) (by decide) ?_
    rintro _ T26 L26 X26 ⟨rfl, rfl, e26⟩
    have N26 := Fr.app N25 (Fr.nil n0)
    show own_E p e below _ (T26.setTop (mkF m 275 #[.val (.long x0), .second, .val (.int x1), .val (.int (1 : Int32)), .val (.ref o3), .val (.long (own_U k1)), .second, .val (.long (own_fin (own_U k1))), .second] [(.long (own_U (own_g3 (own_fold F 1 0 0))))]))
    refine own_g (mkF m 277 #[.val (.long x0), .second, .val (.int x1), .val (.int (1 : Int32)), .val (.ref o3), .val (.long (own_U k1)), .second, .val (.long (own_fin (own_U k1))), .second] [(.long (own_fin (own_U k1))), (.long (own_U (own_g3 (own_fold F 1 0 0))))]) (fun _ kz => XS.lload X26.here hx rfl (hb hby at_275) rfl kz) ?_
    refine own_g (mkF m 278 #[.val (.long x0), .second, .val (.int x1), .val (.int (1 : Int32)), .val (.ref o3), .val (.long (own_U k1)), .second, .val (.long (own_fin (own_U k1))), .second] [(.int (lcmpW (own_U (own_g3 (own_fold F 1 0 0))) (own_fin (own_U k1))))]) (fun _ kz => XS.lcmp X26.here hx rfl (hb hby at_277) rfl kz) ?_
    refine own_g (mkF m 281 #[.val (.long x0), .second, .val (.int x1), .val (.int (1 : Int32)), .val (.ref o3), .val (.long (own_U k1)), .second, .val (.long (own_fin (own_U k1))), .second] []) (fun _ kz => XS.ifNo X26.here hx rfl (hb hby at_278) rfl ((if0 _ _).trans (teq (own_lcT (by rw [own_fi]; simp only [own_fold, hF0, hk1]))).2) kz) ?_
    refine own_g (mkF m 282 #[.val (.long x0), .second, .val (.int x1), .val (.int (1 : Int32)), .val (.ref o3), .val (.long (own_U k1)), .second, .val (.long (own_fin (own_U k1))), .second] [(.int (1 : Int32))]) (fun _ kz => XS.iconst X26.here hx rfl (hb hby at_281) kz) ?_
    refine own_g (mkF m 286 #[.val (.long x0), .second, .val (.int x1), .val (.int (1 : Int32)), .val (.ref o3), .val (.long (own_U k1)), .second, .val (.long (own_fin (own_U k1))), .second] [(.int (1 : Int32))]) (fun _ kz => XS.goto X26.here hx rfl (pc0 := 282) (pc' := 286) rfl (hb hby at_282) (by decide) (by decide) kz) ?_
    exact own_retZ X26 hx hret hlk (hb hby at_286) rfl (by decide) (by decide) (by first | exact ⟨rfl, N26⟩ | (rw [e26]; exact ⟨rfl, N26⟩))
  | 2, _ =>
    show own_E p e below _ (T20.setTop (mkF m 96 #[.val (.long x0), .second, .val (.int x1), .val (.int (2 : Int32)), .val (.ref o3), .val (.long (own_U (0 : Int32))), .second, .unset, .unset] []))
    refine own_g (mkF m 97 #[.val (.long x0), .second, .val (.int x1), .val (.int (2 : Int32)), .val (.ref o3), .val (.long (own_U (0 : Int32))), .second, .unset, .unset] [(.int (2 : Int32))]) (fun _ kz => XS.iloadN X20.here hx rfl (hb hby at_96) rfl kz) ?_
    refine own_g (mkF m 100 #[.val (.long x0), .second, .val (.int x1), .val (.int (2 : Int32)), .val (.ref o3), .val (.long (own_U (0 : Int32))), .second, .unset, .unset] []) (fun _ kz => XS.ifNo X20.here hx rfl (hb hby at_97) rfl ((if0 _ _).trans (tlt (by decide)).2.2.2) kz) ?_
    refine own_g (mkF m 102 #[.val (.long x0), .second, .val (.int x1), .val (.int (2 : Int32)), .val (.ref o3), .val (.long (own_U (0 : Int32))), .second, .unset, .unset] [(.long (own_U (0 : Int32)))]) (fun _ kz => XS.lload X20.here hx rfl (hb hby at_100) rfl kz) ?_
    refine own_g (mkF m 103 #[.val (.long x0), .second, .val (.int x1), .val (.int (2 : Int32)), .val (.ref o3), .val (.long (own_U (0 : Int32))), .second, .unset, .unset] [(.long x0), (.long (own_U (0 : Int32)))]) (fun _ kz => XS.lloadN X20.here hx rfl (hb hby at_102) rfl kz) ?_
    refine own_g (mkF m 106 #[.val (.long x0), .second, .val (.int x1), .val (.int (2 : Int32)), .val (.ref o3), .val (.long (own_U (0 : Int32))), .second, .unset, .unset] [(.long (255 : Int64)), (.long x0), (.long (own_U (0 : Int32)))]) (fun _ kz => X20.ldc2Long hx hown (mvT hZ (own_w hw 2 rfl)) (g := (mkF m 103 #[.val (.long x0), .second, .val (.int x1), .val (.int (2 : Int32)), .val (.ref o3), .val (.long (own_U (0 : Int32))), .second, .unset, .unset] [(.long x0), (.long (own_U (0 : Int32)))])) rfl (hb hby at_103) _ kz) ?_
    refine own_g (mkF m 107 #[.val (.long x0), .second, .val (.int x1), .val (.int (2 : Int32)), .val (.ref o3), .val (.long (own_U (0 : Int32))), .second, .unset, .unset] [(.long (x0 &&& (255 : Int64))), (.long (own_U (0 : Int32)))]) (fun _ kz => XS.land X20.here hx rfl (hb hby at_106) rfl kz) ?_
    refine own_g (mkF m 108 #[.val (.long x0), .second, .val (.int x1), .val (.int (2 : Int32)), .val (.ref o3), .val (.long (own_U (0 : Int32))), .second, .unset, .unset] [(.int (x0 &&& (255 : Int64)).toInt32), (.long (own_U (0 : Int32)))]) (fun _ kz => XS.l2i X20.here hx rfl (hb hby at_107) rfl kz) ?_
    refine own_callS (rest := []) (as := [(.long (own_U (0 : Int32))), (.int (x0 &&& (255 : Int64)).toInt32)]) X20 hx hZ hown e20 (own_c_step l Z a0 hw (own_U (0 : Int32)) (x0 &&& (255 : Int64)).toInt32 h20) (own_w hw 3 rfl) (own_w hw 4 rfl) (own_w hw 5 rfl) (own_w hw 6 rfl) (by decide) own_pd3 rfl (by rw [hml]; rfl) rfl (hb hby at_108) 0 (by show 2 * 0 + _ ≤ _; exact Nat.le_of_eq rfl) (by decide) (by decide) (by decide) (by decide) ?_
    rintro _ T27 L27 X27 ⟨rfl, rfl, e27⟩
    have N27 := Fr.app N20 (Fr.nil n0)
    show own_E p e below _ (T27.setTop (mkF m 111 #[.val (.long x0), .second, .val (.int x1), .val (.int (2 : Int32)), .val (.ref o3), .val (.long (own_U (0 : Int32))), .second, .unset, .unset] [(.long (own_step (own_U (0 : Int32)) (x0 &&& (255 : Int64)).toInt32))]))
    obtain ⟨k1, hk1, qk1⟩ : ∃ z, z = own_o2 (0 : Int32) (own_b x0) ∧ own_step (own_U (0 : Int32)) (x0 &&& (255 : Int64)).toInt32 = own_U z := ⟨_, rfl, own_st (0 : Int32) x0⟩
    rw [qk1]
    show own_E p e below _ (T27.setTop (mkF m 111 #[.val (.long x0), .second, .val (.int x1), .val (.int (2 : Int32)), .val (.ref o3), .val (.long (own_U (0 : Int32))), .second, .unset, .unset] [(.long (own_U k1))]))
    refine own_g (mkF m 113 #[.val (.long x0), .second, .val (.int x1), .val (.int (2 : Int32)), .val (.ref o3), .val (.long (own_U k1)), .second, .unset, .unset] []) (fun _ kz => XS.lstore X27.here hx rfl (hb hby at_111) rfl (l' := #[.val (.long x0), .second, .val (.int x1), .val (.int (2 : Int32)), .val (.ref o3), .val (.long (own_U k1)), .second, .unset, .unset]) rfl kz) ?_
    refine own_g (mkF m 114 #[.val (.long x0), .second, .val (.int x1), .val (.int (2 : Int32)), .val (.ref o3), .val (.long (own_U k1)), .second, .unset, .unset] [(.int (2 : Int32))]) (fun _ kz => XS.iloadN X27.here hx rfl (hb hby at_113) rfl kz) ?_
    refine own_g (mkF m 115 #[.val (.long x0), .second, .val (.int x1), .val (.int (2 : Int32)), .val (.ref o3), .val (.long (own_U k1)), .second, .unset, .unset] [(.int (1 : Int32)), (.int (2 : Int32))]) (fun _ kz => XS.iconst X27.here hx rfl (hb hby at_114) kz) ?_
    refine own_g (mkF m 118 #[.val (.long x0), .second, .val (.int x1), .val (.int (2 : Int32)), .val (.ref o3), .val (.long (own_U k1)), .second, .unset, .unset] []) (fun _ kz => XS.icmpNo X27.here hx rfl (hb hby at_115) rfl (tlt (by decide)).2.2.2 kz) ?_
    refine own_g (mkF m 120 #[.val (.long x0), .second, .val (.int x1), .val (.int (2 : Int32)), .val (.ref o3), .val (.long (own_U k1)), .second, .unset, .unset] [(.long (own_U k1))]) (fun _ kz => XS.lload X27.here hx rfl (hb hby at_118) rfl kz) ?_
    refine own_g (mkF m 121 #[.val (.long x0), .second, .val (.int x1), .val (.int (2 : Int32)), .val (.ref o3), .val (.long (own_U k1)), .second, .unset, .unset] [(.long x0), (.long (own_U k1))]) (fun _ kz => XS.lloadN X27.here hx rfl (hb hby at_120) rfl kz) ?_
    refine own_g (mkF m 123 #[.val (.long x0), .second, .val (.int x1), .val (.int (2 : Int32)), .val (.ref o3), .val (.long (own_U k1)), .second, .unset, .unset] [(.int (8 : Int32)), (.long x0), (.long (own_U k1))]) (fun _ kz => XS.bipush X27.here hx rfl (hb hby at_121) kz) ?_
    refine own_g (mkF m 124 #[.val (.long x0), .second, .val (.int x1), .val (.int (2 : Int32)), .val (.ref o3), .val (.long (own_U k1)), .second, .unset, .unset] [(.long ((x0.toUInt64 >>> ((8 : Int32) &&& 0x3f).toInt64.toUInt64).toInt64)), (.long (own_U k1))]) (fun _ kz => XS.lushr X27.here hx rfl (hb hby at_123) rfl kz) ?_
    refine own_g (mkF m 127 #[.val (.long x0), .second, .val (.int x1), .val (.int (2 : Int32)), .val (.ref o3), .val (.long (own_U k1)), .second, .unset, .unset] [(.long (255 : Int64)), (.long ((x0.toUInt64 >>> ((8 : Int32) &&& 0x3f).toInt64.toUInt64).toInt64)), (.long (own_U k1))]) (fun _ kz => X27.ldc2Long hx hown (mvT hZ (own_w hw 2 rfl)) (g := (mkF m 124 #[.val (.long x0), .second, .val (.int x1), .val (.int (2 : Int32)), .val (.ref o3), .val (.long (own_U k1)), .second, .unset, .unset] [(.long ((x0.toUInt64 >>> ((8 : Int32) &&& 0x3f).toInt64.toUInt64).toInt64)), (.long (own_U k1))])) rfl (hb hby at_124) _ kz) ?_
    refine own_g (mkF m 128 #[.val (.long x0), .second, .val (.int x1), .val (.int (2 : Int32)), .val (.ref o3), .val (.long (own_U k1)), .second, .unset, .unset] [(.long (((x0.toUInt64 >>> ((8 : Int32) &&& 0x3f).toInt64.toUInt64).toInt64) &&& (255 : Int64))), (.long (own_U k1))]) (fun _ kz => XS.land X27.here hx rfl (hb hby at_127) rfl kz) ?_
    refine own_g (mkF m 129 #[.val (.long x0), .second, .val (.int x1), .val (.int (2 : Int32)), .val (.ref o3), .val (.long (own_U k1)), .second, .unset, .unset] [(.int (((x0.toUInt64 >>> ((8 : Int32) &&& 0x3f).toInt64.toUInt64).toInt64) &&& (255 : Int64)).toInt32), (.long (own_U k1))]) (fun _ kz => XS.l2i X27.here hx rfl (hb hby at_128) rfl kz) ?_
    refine own_callS (rest := []) (as := [(.long (own_U k1)), (.int (((x0.toUInt64 >>> ((8 : Int32) &&& 0x3f).toInt64.toUInt64).toInt64) &&& (255 : Int64)).toInt32)]) X27 hx hZ hown e27 (own_c_step l Z a0 hw (own_U k1) (((x0.toUInt64 >>> ((8 : Int32) &&& 0x3f).toInt64.toUInt64).toInt64) &&& (255 : Int64)).toInt32 h20) (own_w hw 3 rfl) (own_w hw 4 rfl) (own_w hw 5 rfl) (own_w hw 6 rfl) (by decide) own_pd3 rfl (by rw [hml]; rfl) rfl (hb hby at_129) 0 (by show 2 * 0 + _ ≤ _; exact Nat.le_of_eq rfl) (by decide) (by decide) (by decide) (by decide) ?_
    rintro _ T28 L28 X28 ⟨rfl, rfl, e28⟩
    have N28 := Fr.app N27 (Fr.nil n0)
    show own_E p e below _ (T28.setTop (mkF m 132 #[.val (.long x0), .second, .val (.int x1), .val (.int (2 : Int32)), .val (.ref o3), .val (.long (own_U k1)), .second, .unset, .unset] [(.long (own_step (own_U k1) (((x0.toUInt64 >>> ((8 : Int32) &&& 0x3f).toInt64.toUInt64).toInt64) &&& (255 : Int64)).toInt32))]))
    obtain ⟨k2, hk2, qk2⟩ : ∃ z, z = own_o2 k1 (own_b ((x0.toUInt64 >>> ((8 : Int32) &&& 0x3f).toInt64.toUInt64).toInt64)) ∧ own_step (own_U k1) (((x0.toUInt64 >>> ((8 : Int32) &&& 0x3f).toInt64.toUInt64).toInt64) &&& (255 : Int64)).toInt32 = own_U z := ⟨_, rfl, own_st k1 ((x0.toUInt64 >>> ((8 : Int32) &&& 0x3f).toInt64.toUInt64).toInt64)⟩
    rw [qk2]
    show own_E p e below _ (T28.setTop (mkF m 132 #[.val (.long x0), .second, .val (.int x1), .val (.int (2 : Int32)), .val (.ref o3), .val (.long (own_U k1)), .second, .unset, .unset] [(.long (own_U k2))]))
    refine own_g (mkF m 134 #[.val (.long x0), .second, .val (.int x1), .val (.int (2 : Int32)), .val (.ref o3), .val (.long (own_U k2)), .second, .unset, .unset] []) (fun _ kz => XS.lstore X28.here hx rfl (hb hby at_132) rfl (l' := #[.val (.long x0), .second, .val (.int x1), .val (.int (2 : Int32)), .val (.ref o3), .val (.long (own_U k2)), .second, .unset, .unset]) rfl kz) ?_
    refine own_g (mkF m 135 #[.val (.long x0), .second, .val (.int x1), .val (.int (2 : Int32)), .val (.ref o3), .val (.long (own_U k2)), .second, .unset, .unset] [(.int (2 : Int32))]) (fun _ kz => XS.iloadN X28.here hx rfl (hb hby at_134) rfl kz) ?_
    refine own_g (mkF m 136 #[.val (.long x0), .second, .val (.int x1), .val (.int (2 : Int32)), .val (.ref o3), .val (.long (own_U k2)), .second, .unset, .unset] [(.int (2 : Int32)), (.int (2 : Int32))]) (fun _ kz => XS.iconst X28.here hx rfl (hb hby at_135) kz) ?_
    refine own_g (mkF m 155 #[.val (.long x0), .second, .val (.int x1), .val (.int (2 : Int32)), .val (.ref o3), .val (.long (own_U k2)), .second, .unset, .unset] []) (fun _ kz => XS.icmpYes X28.here hx rfl (pc0 := 136) (pc' := 155) rfl (hb hby at_136) rfl (flt (by decide)).2.2.2 (by decide) (by decide) kz) ?_
    refine own_g (mkF m 156 #[.val (.long x0), .second, .val (.int x1), .val (.int (2 : Int32)), .val (.ref o3), .val (.long (own_U k2)), .second, .unset, .unset] [(.int (2 : Int32))]) (fun _ kz => XS.iloadN X28.here hx rfl (hb hby at_155) rfl kz) ?_
    refine own_g (mkF m 157 #[.val (.long x0), .second, .val (.int x1), .val (.int (2 : Int32)), .val (.ref o3), .val (.long (own_U k2)), .second, .unset, .unset] [(.int (3 : Int32)), (.int (2 : Int32))]) (fun _ kz => XS.iconst X28.here hx rfl (hb hby at_156) kz) ?_
    refine own_g (mkF m 176 #[.val (.long x0), .second, .val (.int x1), .val (.int (2 : Int32)), .val (.ref o3), .val (.long (own_U k2)), .second, .unset, .unset] []) (fun _ kz => XS.icmpYes X28.here hx rfl (pc0 := 157) (pc' := 176) rfl (hb hby at_157) rfl (flt (by decide)).2.2.2 (by decide) (by decide) kz) ?_
    refine own_g (mkF m 177 #[.val (.long x0), .second, .val (.int x1), .val (.int (2 : Int32)), .val (.ref o3), .val (.long (own_U k2)), .second, .unset, .unset] [(.int (2 : Int32))]) (fun _ kz => XS.iloadN X28.here hx rfl (hb hby at_176) rfl kz) ?_
    refine own_g (mkF m 178 #[.val (.long x0), .second, .val (.int x1), .val (.int (2 : Int32)), .val (.ref o3), .val (.long (own_U k2)), .second, .unset, .unset] [(.int (4 : Int32)), (.int (2 : Int32))]) (fun _ kz => XS.iconst X28.here hx rfl (hb hby at_177) kz) ?_
    refine own_g (mkF m 197 #[.val (.long x0), .second, .val (.int x1), .val (.int (2 : Int32)), .val (.ref o3), .val (.long (own_U k2)), .second, .unset, .unset] []) (fun _ kz => XS.icmpYes X28.here hx rfl (pc0 := 178) (pc' := 197) rfl (hb hby at_178) rfl (flt (by decide)).2.2.2 (by decide) (by decide) kz) ?_
    refine own_g (mkF m 198 #[.val (.long x0), .second, .val (.int x1), .val (.int (2 : Int32)), .val (.ref o3), .val (.long (own_U k2)), .second, .unset, .unset] [(.int (2 : Int32))]) (fun _ kz => XS.iloadN X28.here hx rfl (hb hby at_197) rfl kz) ?_
    refine own_g (mkF m 199 #[.val (.long x0), .second, .val (.int x1), .val (.int (2 : Int32)), .val (.ref o3), .val (.long (own_U k2)), .second, .unset, .unset] [(.int (5 : Int32)), (.int (2 : Int32))]) (fun _ kz => XS.iconst X28.here hx rfl (hb hby at_198) kz) ?_
    refine own_g (mkF m 218 #[.val (.long x0), .second, .val (.int x1), .val (.int (2 : Int32)), .val (.ref o3), .val (.long (own_U k2)), .second, .unset, .unset] []) (fun _ kz => XS.icmpYes X28.here hx rfl (pc0 := 199) (pc' := 218) rfl (hb hby at_199) rfl (flt (by decide)).2.2.2 (by decide) (by decide) kz) ?_
    refine own_g (mkF m 219 #[.val (.long x0), .second, .val (.int x1), .val (.int (2 : Int32)), .val (.ref o3), .val (.long (own_U k2)), .second, .unset, .unset] [(.int (2 : Int32))]) (fun _ kz => XS.iloadN X28.here hx rfl (hb hby at_218) rfl kz) ?_
    refine own_g (mkF m 221 #[.val (.long x0), .second, .val (.int x1), .val (.int (2 : Int32)), .val (.ref o3), .val (.long (own_U k2)), .second, .unset, .unset] [(.int (6 : Int32)), (.int (2 : Int32))]) (fun _ kz => XS.bipush X28.here hx rfl (hb hby at_219) kz) ?_
    refine own_g (mkF m 240 #[.val (.long x0), .second, .val (.int x1), .val (.int (2 : Int32)), .val (.ref o3), .val (.long (own_U k2)), .second, .unset, .unset] []) (fun _ kz => XS.icmpYes X28.here hx rfl (pc0 := 221) (pc' := 240) rfl (hb hby at_221) rfl (flt (by decide)).2.2.2 (by decide) (by decide) kz) ?_
    refine own_g (mkF m 241 #[.val (.long x0), .second, .val (.int x1), .val (.int (2 : Int32)), .val (.ref o3), .val (.long (own_U k2)), .second, .unset, .unset] [(.int (2 : Int32))]) (fun _ kz => XS.iloadN X28.here hx rfl (hb hby at_240) rfl kz) ?_
    refine own_g (mkF m 243 #[.val (.long x0), .second, .val (.int x1), .val (.int (2 : Int32)), .val (.ref o3), .val (.long (own_U k2)), .second, .unset, .unset] [(.int (7 : Int32)), (.int (2 : Int32))]) (fun _ kz => XS.bipush X28.here hx rfl (hb hby at_241) kz) ?_
    refine own_g (mkF m 262 #[.val (.long x0), .second, .val (.int x1), .val (.int (2 : Int32)), .val (.ref o3), .val (.long (own_U k2)), .second, .unset, .unset] []) (fun _ kz => XS.icmpYes X28.here hx rfl (pc0 := 243) (pc' := 262) rfl (hb hby at_243) rfl (flt (by decide)).2.2.2 (by decide) (by decide) kz) ?_
    refine own_g (mkF m 264 #[.val (.long x0), .second, .val (.int x1), .val (.int (2 : Int32)), .val (.ref o3), .val (.long (own_U k2)), .second, .unset, .unset] [(.long (own_U k2))]) (fun _ kz => XS.lload X28.here hx rfl (hb hby at_262) rfl kz) ?_
    refine own_callS (rest := []) (as := [(.long (own_U k2))]) X28 hx hZ hown e28 (own_c_fin l Z a0 hw (own_U k2) h20) (own_w hw 9 rfl) (own_w hw 10 rfl) (own_w hw 5 rfl) (own_w hw 11 rfl) (by decide) own_pd1 rfl (by rw [hml]; rfl) rfl (hb hby at_264) 0 (by show 2 * 0 + _ ≤ _; exact Nat.le_of_eq rfl) (by decide) (by decide) (by decide) (by decide) ?_
    rintro _ T29 L29 X29 ⟨rfl, rfl, e29⟩
    have N29 := Fr.app N28 (Fr.nil n0)
    show own_E p e below _ (T29.setTop (mkF m 267 #[.val (.long x0), .second, .val (.int x1), .val (.int (2 : Int32)), .val (.ref o3), .val (.long (own_U k2)), .second, .unset, .unset] [(.long (own_fin (own_U k2)))]))
    refine own_g (mkF m 269 #[.val (.long x0), .second, .val (.int x1), .val (.int (2 : Int32)), .val (.ref o3), .val (.long (own_U k2)), .second, .val (.long (own_fin (own_U k2))), .second] []) (fun _ kz => XS.lstore X29.here hx rfl (hb hby at_267) rfl (l' := #[.val (.long x0), .second, .val (.int x1), .val (.int (2 : Int32)), .val (.ref o3), .val (.long (own_U k2)), .second, .val (.long (own_fin (own_U k2))), .second]) rfl kz) ?_
    refine own_g (mkF m 271 #[.val (.long x0), .second, .val (.int x1), .val (.int (2 : Int32)), .val (.ref o3), .val (.long (own_U k2)), .second, .val (.long (own_fin (own_U k2))), .second] [(.ref o3)]) (fun _ kz => XS.aload X29.here hx rfl (hb hby at_269) rfl rfl kz) ?_
    refine own_g (mkF m 272 #[.val (.long x0), .second, .val (.int x1), .val (.int (2 : Int32)), .val (.ref o3), .val (.long (own_U k2)), .second, .val (.long (own_fin (own_U k2))), .second] [(.int (2 : Int32)), (.ref o3)]) (fun _ kz => XS.iloadN X29.here hx rfl (hb hby at_271) rfl kz) ?_
    refine own_callS (rest := []) (as := [(.ref o3), (.int (2 : Int32))]) X29 hx hZ hown e29 (own_c_oat l Z a0 hw o3 2 F h20 (by decide) AF) (own_w hw 14 rfl) (own_w hw 15 rfl) (own_w hw 16 rfl) (own_w hw 17 rfl) (by decide) own_pd2 rfl (by rw [hml]; rfl) rfl (hb hby at_272) 0 (by show 2 * 0 + _ ≤ _; exact Nat.le_of_eq rfl) (by decide) (by decide) (by decide) (by decide) ?_
    rintro _ T30 L30 X30 ⟨rfl, rfl, e30⟩
    have N30 := Fr.app N29 (Fr.nil n0)
    show own_E p e below _ (T30.setTop (mkF m 275 #[.val (.long x0), .second, .val (.int x1), .val (.int (2 : Int32)), .val (.ref o3), .val (.long (own_U k2)), .second, .val (.long (own_fin (own_U k2))), .second] [(.long (own_U (own_g3 (own_fold F 2 0 0))))]))
    refine own_g (mkF m 277 #[.val (.long x0), .second, .val (.int x1), .val (.int (2 : Int32)), .val (.ref o3), .val (.long (own_U k2)), .second, .val (.long (own_fin (own_U k2))), .second] [(.long (own_fin (own_U k2))), (.long (own_U (own_g3 (own_fold F 2 0 0))))]) (fun _ kz => XS.lload X30.here hx rfl (hb hby at_275) rfl kz) ?_
    refine own_g (mkF m 278 #[.val (.long x0), .second, .val (.int x1), .val (.int (2 : Int32)), .val (.ref o3), .val (.long (own_U k2)), .second, .val (.long (own_fin (own_U k2))), .second] [(.int (lcmpW (own_U (own_g3 (own_fold F 2 0 0))) (own_fin (own_U k2))))]) (fun _ kz => XS.lcmp X30.here hx rfl (hb hby at_277) rfl kz) ?_
    refine own_g (mkF m 281 #[.val (.long x0), .second, .val (.int x1), .val (.int (2 : Int32)), .val (.ref o3), .val (.long (own_U k2)), .second, .val (.long (own_fin (own_U k2))), .second] []) (fun _ kz => XS.ifNo X30.here hx rfl (hb hby at_278) rfl ((if0 _ _).trans (teq (own_lcT (by rw [own_fi]; simp only [own_fold, hF0, hk1, hF1, hk2]))).2) kz) ?_
    refine own_g (mkF m 282 #[.val (.long x0), .second, .val (.int x1), .val (.int (2 : Int32)), .val (.ref o3), .val (.long (own_U k2)), .second, .val (.long (own_fin (own_U k2))), .second] [(.int (1 : Int32))]) (fun _ kz => XS.iconst X30.here hx rfl (hb hby at_281) kz) ?_
    refine own_g (mkF m 286 #[.val (.long x0), .second, .val (.int x1), .val (.int (2 : Int32)), .val (.ref o3), .val (.long (own_U k2)), .second, .val (.long (own_fin (own_U k2))), .second] [(.int (1 : Int32))]) (fun _ kz => XS.goto X30.here hx rfl (pc0 := 282) (pc' := 286) rfl (hb hby at_282) (by decide) (by decide) kz) ?_
    exact own_retZ X30 hx hret hlk (hb hby at_286) rfl (by decide) (by decide) (by first | exact ⟨rfl, N30⟩ | (rw [e30]; exact ⟨rfl, N30⟩))
  | 3, _ =>
    show own_E p e below _ (T20.setTop (mkF m 96 #[.val (.long x0), .second, .val (.int x1), .val (.int (3 : Int32)), .val (.ref o3), .val (.long (own_U (0 : Int32))), .second, .unset, .unset] []))
    refine own_g (mkF m 97 #[.val (.long x0), .second, .val (.int x1), .val (.int (3 : Int32)), .val (.ref o3), .val (.long (own_U (0 : Int32))), .second, .unset, .unset] [(.int (3 : Int32))]) (fun _ kz => XS.iloadN X20.here hx rfl (hb hby at_96) rfl kz) ?_
    refine own_g (mkF m 100 #[.val (.long x0), .second, .val (.int x1), .val (.int (3 : Int32)), .val (.ref o3), .val (.long (own_U (0 : Int32))), .second, .unset, .unset] []) (fun _ kz => XS.ifNo X20.here hx rfl (hb hby at_97) rfl ((if0 _ _).trans (tlt (by decide)).2.2.2) kz) ?_
    refine own_g (mkF m 102 #[.val (.long x0), .second, .val (.int x1), .val (.int (3 : Int32)), .val (.ref o3), .val (.long (own_U (0 : Int32))), .second, .unset, .unset] [(.long (own_U (0 : Int32)))]) (fun _ kz => XS.lload X20.here hx rfl (hb hby at_100) rfl kz) ?_
    refine own_g (mkF m 103 #[.val (.long x0), .second, .val (.int x1), .val (.int (3 : Int32)), .val (.ref o3), .val (.long (own_U (0 : Int32))), .second, .unset, .unset] [(.long x0), (.long (own_U (0 : Int32)))]) (fun _ kz => XS.lloadN X20.here hx rfl (hb hby at_102) rfl kz) ?_
    refine own_g (mkF m 106 #[.val (.long x0), .second, .val (.int x1), .val (.int (3 : Int32)), .val (.ref o3), .val (.long (own_U (0 : Int32))), .second, .unset, .unset] [(.long (255 : Int64)), (.long x0), (.long (own_U (0 : Int32)))]) (fun _ kz => X20.ldc2Long hx hown (mvT hZ (own_w hw 2 rfl)) (g := (mkF m 103 #[.val (.long x0), .second, .val (.int x1), .val (.int (3 : Int32)), .val (.ref o3), .val (.long (own_U (0 : Int32))), .second, .unset, .unset] [(.long x0), (.long (own_U (0 : Int32)))])) rfl (hb hby at_103) _ kz) ?_
    refine own_g (mkF m 107 #[.val (.long x0), .second, .val (.int x1), .val (.int (3 : Int32)), .val (.ref o3), .val (.long (own_U (0 : Int32))), .second, .unset, .unset] [(.long (x0 &&& (255 : Int64))), (.long (own_U (0 : Int32)))]) (fun _ kz => XS.land X20.here hx rfl (hb hby at_106) rfl kz) ?_
    refine own_g (mkF m 108 #[.val (.long x0), .second, .val (.int x1), .val (.int (3 : Int32)), .val (.ref o3), .val (.long (own_U (0 : Int32))), .second, .unset, .unset] [(.int (x0 &&& (255 : Int64)).toInt32), (.long (own_U (0 : Int32)))]) (fun _ kz => XS.l2i X20.here hx rfl (hb hby at_107) rfl kz) ?_
    refine own_callS (rest := []) (as := [(.long (own_U (0 : Int32))), (.int (x0 &&& (255 : Int64)).toInt32)]) X20 hx hZ hown e20 (own_c_step l Z a0 hw (own_U (0 : Int32)) (x0 &&& (255 : Int64)).toInt32 h20) (own_w hw 3 rfl) (own_w hw 4 rfl) (own_w hw 5 rfl) (own_w hw 6 rfl) (by decide) own_pd3 rfl (by rw [hml]; rfl) rfl (hb hby at_108) 0 (by show 2 * 0 + _ ≤ _; exact Nat.le_of_eq rfl) (by decide) (by decide) (by decide) (by decide) ?_
    rintro _ T31 L31 X31 ⟨rfl, rfl, e31⟩
    have N31 := Fr.app N20 (Fr.nil n0)
    show own_E p e below _ (T31.setTop (mkF m 111 #[.val (.long x0), .second, .val (.int x1), .val (.int (3 : Int32)), .val (.ref o3), .val (.long (own_U (0 : Int32))), .second, .unset, .unset] [(.long (own_step (own_U (0 : Int32)) (x0 &&& (255 : Int64)).toInt32))]))
    obtain ⟨k1, hk1, qk1⟩ : ∃ z, z = own_o2 (0 : Int32) (own_b x0) ∧ own_step (own_U (0 : Int32)) (x0 &&& (255 : Int64)).toInt32 = own_U z := ⟨_, rfl, own_st (0 : Int32) x0⟩
    rw [qk1]
    show own_E p e below _ (T31.setTop (mkF m 111 #[.val (.long x0), .second, .val (.int x1), .val (.int (3 : Int32)), .val (.ref o3), .val (.long (own_U (0 : Int32))), .second, .unset, .unset] [(.long (own_U k1))]))
    refine own_g (mkF m 113 #[.val (.long x0), .second, .val (.int x1), .val (.int (3 : Int32)), .val (.ref o3), .val (.long (own_U k1)), .second, .unset, .unset] []) (fun _ kz => XS.lstore X31.here hx rfl (hb hby at_111) rfl (l' := #[.val (.long x0), .second, .val (.int x1), .val (.int (3 : Int32)), .val (.ref o3), .val (.long (own_U k1)), .second, .unset, .unset]) rfl kz) ?_
    refine own_g (mkF m 114 #[.val (.long x0), .second, .val (.int x1), .val (.int (3 : Int32)), .val (.ref o3), .val (.long (own_U k1)), .second, .unset, .unset] [(.int (3 : Int32))]) (fun _ kz => XS.iloadN X31.here hx rfl (hb hby at_113) rfl kz) ?_
    refine own_g (mkF m 115 #[.val (.long x0), .second, .val (.int x1), .val (.int (3 : Int32)), .val (.ref o3), .val (.long (own_U k1)), .second, .unset, .unset] [(.int (1 : Int32)), (.int (3 : Int32))]) (fun _ kz => XS.iconst X31.here hx rfl (hb hby at_114) kz) ?_
    refine own_g (mkF m 118 #[.val (.long x0), .second, .val (.int x1), .val (.int (3 : Int32)), .val (.ref o3), .val (.long (own_U k1)), .second, .unset, .unset] []) (fun _ kz => XS.icmpNo X31.here hx rfl (hb hby at_115) rfl (tlt (by decide)).2.2.2 kz) ?_
    refine own_g (mkF m 120 #[.val (.long x0), .second, .val (.int x1), .val (.int (3 : Int32)), .val (.ref o3), .val (.long (own_U k1)), .second, .unset, .unset] [(.long (own_U k1))]) (fun _ kz => XS.lload X31.here hx rfl (hb hby at_118) rfl kz) ?_
    refine own_g (mkF m 121 #[.val (.long x0), .second, .val (.int x1), .val (.int (3 : Int32)), .val (.ref o3), .val (.long (own_U k1)), .second, .unset, .unset] [(.long x0), (.long (own_U k1))]) (fun _ kz => XS.lloadN X31.here hx rfl (hb hby at_120) rfl kz) ?_
    refine own_g (mkF m 123 #[.val (.long x0), .second, .val (.int x1), .val (.int (3 : Int32)), .val (.ref o3), .val (.long (own_U k1)), .second, .unset, .unset] [(.int (8 : Int32)), (.long x0), (.long (own_U k1))]) (fun _ kz => XS.bipush X31.here hx rfl (hb hby at_121) kz) ?_
    refine own_g (mkF m 124 #[.val (.long x0), .second, .val (.int x1), .val (.int (3 : Int32)), .val (.ref o3), .val (.long (own_U k1)), .second, .unset, .unset] [(.long ((x0.toUInt64 >>> ((8 : Int32) &&& 0x3f).toInt64.toUInt64).toInt64)), (.long (own_U k1))]) (fun _ kz => XS.lushr X31.here hx rfl (hb hby at_123) rfl kz) ?_
    refine own_g (mkF m 127 #[.val (.long x0), .second, .val (.int x1), .val (.int (3 : Int32)), .val (.ref o3), .val (.long (own_U k1)), .second, .unset, .unset] [(.long (255 : Int64)), (.long ((x0.toUInt64 >>> ((8 : Int32) &&& 0x3f).toInt64.toUInt64).toInt64)), (.long (own_U k1))]) (fun _ kz => X31.ldc2Long hx hown (mvT hZ (own_w hw 2 rfl)) (g := (mkF m 124 #[.val (.long x0), .second, .val (.int x1), .val (.int (3 : Int32)), .val (.ref o3), .val (.long (own_U k1)), .second, .unset, .unset] [(.long ((x0.toUInt64 >>> ((8 : Int32) &&& 0x3f).toInt64.toUInt64).toInt64)), (.long (own_U k1))])) rfl (hb hby at_124) _ kz) ?_
    refine own_g (mkF m 128 #[.val (.long x0), .second, .val (.int x1), .val (.int (3 : Int32)), .val (.ref o3), .val (.long (own_U k1)), .second, .unset, .unset] [(.long (((x0.toUInt64 >>> ((8 : Int32) &&& 0x3f).toInt64.toUInt64).toInt64) &&& (255 : Int64))), (.long (own_U k1))]) (fun _ kz => XS.land X31.here hx rfl (hb hby at_127) rfl kz) ?_
    refine own_g (mkF m 129 #[.val (.long x0), .second, .val (.int x1), .val (.int (3 : Int32)), .val (.ref o3), .val (.long (own_U k1)), .second, .unset, .unset] [(.int (((x0.toUInt64 >>> ((8 : Int32) &&& 0x3f).toInt64.toUInt64).toInt64) &&& (255 : Int64)).toInt32), (.long (own_U k1))]) (fun _ kz => XS.l2i X31.here hx rfl (hb hby at_128) rfl kz) ?_
    refine own_callS (rest := []) (as := [(.long (own_U k1)), (.int (((x0.toUInt64 >>> ((8 : Int32) &&& 0x3f).toInt64.toUInt64).toInt64) &&& (255 : Int64)).toInt32)]) X31 hx hZ hown e31 (own_c_step l Z a0 hw (own_U k1) (((x0.toUInt64 >>> ((8 : Int32) &&& 0x3f).toInt64.toUInt64).toInt64) &&& (255 : Int64)).toInt32 h20) (own_w hw 3 rfl) (own_w hw 4 rfl) (own_w hw 5 rfl) (own_w hw 6 rfl) (by decide) own_pd3 rfl (by rw [hml]; rfl) rfl (hb hby at_129) 0 (by show 2 * 0 + _ ≤ _; exact Nat.le_of_eq rfl) (by decide) (by decide) (by decide) (by decide) ?_
    rintro _ T32 L32 X32 ⟨rfl, rfl, e32⟩
    have N32 := Fr.app N31 (Fr.nil n0)
    show own_E p e below _ (T32.setTop (mkF m 132 #[.val (.long x0), .second, .val (.int x1), .val (.int (3 : Int32)), .val (.ref o3), .val (.long (own_U k1)), .second, .unset, .unset] [(.long (own_step (own_U k1) (((x0.toUInt64 >>> ((8 : Int32) &&& 0x3f).toInt64.toUInt64).toInt64) &&& (255 : Int64)).toInt32))]))
    obtain ⟨k2, hk2, qk2⟩ : ∃ z, z = own_o2 k1 (own_b ((x0.toUInt64 >>> ((8 : Int32) &&& 0x3f).toInt64.toUInt64).toInt64)) ∧ own_step (own_U k1) (((x0.toUInt64 >>> ((8 : Int32) &&& 0x3f).toInt64.toUInt64).toInt64) &&& (255 : Int64)).toInt32 = own_U z := ⟨_, rfl, own_st k1 ((x0.toUInt64 >>> ((8 : Int32) &&& 0x3f).toInt64.toUInt64).toInt64)⟩
    rw [qk2]
    show own_E p e below _ (T32.setTop (mkF m 132 #[.val (.long x0), .second, .val (.int x1), .val (.int (3 : Int32)), .val (.ref o3), .val (.long (own_U k1)), .second, .unset, .unset] [(.long (own_U k2))]))
    refine own_g (mkF m 134 #[.val (.long x0), .second, .val (.int x1), .val (.int (3 : Int32)), .val (.ref o3), .val (.long (own_U k2)), .second, .unset, .unset] []) (fun _ kz => XS.lstore X32.here hx rfl (hb hby at_132) rfl (l' := #[.val (.long x0), .second, .val (.int x1), .val (.int (3 : Int32)), .val (.ref o3), .val (.long (own_U k2)), .second, .unset, .unset]) rfl kz) ?_
    refine own_g (mkF m 135 #[.val (.long x0), .second, .val (.int x1), .val (.int (3 : Int32)), .val (.ref o3), .val (.long (own_U k2)), .second, .unset, .unset] [(.int (3 : Int32))]) (fun _ kz => XS.iloadN X32.here hx rfl (hb hby at_134) rfl kz) ?_
    refine own_g (mkF m 136 #[.val (.long x0), .second, .val (.int x1), .val (.int (3 : Int32)), .val (.ref o3), .val (.long (own_U k2)), .second, .unset, .unset] [(.int (2 : Int32)), (.int (3 : Int32))]) (fun _ kz => XS.iconst X32.here hx rfl (hb hby at_135) kz) ?_
    refine own_g (mkF m 139 #[.val (.long x0), .second, .val (.int x1), .val (.int (3 : Int32)), .val (.ref o3), .val (.long (own_U k2)), .second, .unset, .unset] []) (fun _ kz => XS.icmpNo X32.here hx rfl (hb hby at_136) rfl (tlt (by decide)).2.2.2 kz) ?_
    refine own_g (mkF m 141 #[.val (.long x0), .second, .val (.int x1), .val (.int (3 : Int32)), .val (.ref o3), .val (.long (own_U k2)), .second, .unset, .unset] [(.long (own_U k2))]) (fun _ kz => XS.lload X32.here hx rfl (hb hby at_139) rfl kz) ?_
    refine own_g (mkF m 142 #[.val (.long x0), .second, .val (.int x1), .val (.int (3 : Int32)), .val (.ref o3), .val (.long (own_U k2)), .second, .unset, .unset] [(.long x0), (.long (own_U k2))]) (fun _ kz => XS.lloadN X32.here hx rfl (hb hby at_141) rfl kz) ?_
    refine own_g (mkF m 144 #[.val (.long x0), .second, .val (.int x1), .val (.int (3 : Int32)), .val (.ref o3), .val (.long (own_U k2)), .second, .unset, .unset] [(.int (16 : Int32)), (.long x0), (.long (own_U k2))]) (fun _ kz => XS.bipush X32.here hx rfl (hb hby at_142) kz) ?_
    refine own_g (mkF m 145 #[.val (.long x0), .second, .val (.int x1), .val (.int (3 : Int32)), .val (.ref o3), .val (.long (own_U k2)), .second, .unset, .unset] [(.long ((x0.toUInt64 >>> ((16 : Int32) &&& 0x3f).toInt64.toUInt64).toInt64)), (.long (own_U k2))]) (fun _ kz => XS.lushr X32.here hx rfl (hb hby at_144) rfl kz) ?_
    refine own_g (mkF m 148 #[.val (.long x0), .second, .val (.int x1), .val (.int (3 : Int32)), .val (.ref o3), .val (.long (own_U k2)), .second, .unset, .unset] [(.long (255 : Int64)), (.long ((x0.toUInt64 >>> ((16 : Int32) &&& 0x3f).toInt64.toUInt64).toInt64)), (.long (own_U k2))]) (fun _ kz => X32.ldc2Long hx hown (mvT hZ (own_w hw 2 rfl)) (g := (mkF m 145 #[.val (.long x0), .second, .val (.int x1), .val (.int (3 : Int32)), .val (.ref o3), .val (.long (own_U k2)), .second, .unset, .unset] [(.long ((x0.toUInt64 >>> ((16 : Int32) &&& 0x3f).toInt64.toUInt64).toInt64)), (.long (own_U k2))])) rfl (hb hby at_145) _ kz) ?_
    refine own_g (mkF m 149 #[.val (.long x0), .second, .val (.int x1), .val (.int (3 : Int32)), .val (.ref o3), .val (.long (own_U k2)), .second, .unset, .unset] [(.long (((x0.toUInt64 >>> ((16 : Int32) &&& 0x3f).toInt64.toUInt64).toInt64) &&& (255 : Int64))), (.long (own_U k2))]) (fun _ kz => XS.land X32.here hx rfl (hb hby at_148) rfl kz) ?_
    refine own_g (mkF m 150 #[.val (.long x0), .second, .val (.int x1), .val (.int (3 : Int32)), .val (.ref o3), .val (.long (own_U k2)), .second, .unset, .unset] [(.int (((x0.toUInt64 >>> ((16 : Int32) &&& 0x3f).toInt64.toUInt64).toInt64) &&& (255 : Int64)).toInt32), (.long (own_U k2))]) (fun _ kz => XS.l2i X32.here hx rfl (hb hby at_149) rfl kz) ?_
    refine own_callS (rest := []) (as := [(.long (own_U k2)), (.int (((x0.toUInt64 >>> ((16 : Int32) &&& 0x3f).toInt64.toUInt64).toInt64) &&& (255 : Int64)).toInt32)]) X32 hx hZ hown e32 (own_c_step l Z a0 hw (own_U k2) (((x0.toUInt64 >>> ((16 : Int32) &&& 0x3f).toInt64.toUInt64).toInt64) &&& (255 : Int64)).toInt32 h20) (own_w hw 3 rfl) (own_w hw 4 rfl) (own_w hw 5 rfl) (own_w hw 6 rfl) (by decide) own_pd3 rfl (by rw [hml]; rfl) rfl (hb hby at_150) 0 (by show 2 * 0 + _ ≤ _; exact Nat.le_of_eq rfl) (by decide) (by decide) (by decide) (by decide) ?_
    rintro _ T33 L33 X33 ⟨rfl, rfl, e33⟩
    have N33 := Fr.app N32 (Fr.nil n0)
    show own_E p e below _ (T33.setTop (mkF m 153 #[.val (.long x0), .second, .val (.int x1), .val (.int (3 : Int32)), .val (.ref o3), .val (.long (own_U k2)), .second, .unset, .unset] [(.long (own_step (own_U k2) (((x0.toUInt64 >>> ((16 : Int32) &&& 0x3f).toInt64.toUInt64).toInt64) &&& (255 : Int64)).toInt32))]))
    obtain ⟨k3, hk3, qk3⟩ : ∃ z, z = own_o2 k2 (own_b ((x0.toUInt64 >>> ((16 : Int32) &&& 0x3f).toInt64.toUInt64).toInt64)) ∧ own_step (own_U k2) (((x0.toUInt64 >>> ((16 : Int32) &&& 0x3f).toInt64.toUInt64).toInt64) &&& (255 : Int64)).toInt32 = own_U z := ⟨_, rfl, own_st k2 ((x0.toUInt64 >>> ((16 : Int32) &&& 0x3f).toInt64.toUInt64).toInt64)⟩
    rw [qk3]
    show own_E p e below _ (T33.setTop (mkF m 153 #[.val (.long x0), .second, .val (.int x1), .val (.int (3 : Int32)), .val (.ref o3), .val (.long (own_U k2)), .second, .unset, .unset] [(.long (own_U k3))]))
    refine own_g (mkF m 155 #[.val (.long x0), .second, .val (.int x1), .val (.int (3 : Int32)), .val (.ref o3), .val (.long (own_U k3)), .second, .unset, .unset] []) (fun _ kz => XS.lstore X33.here hx rfl (hb hby at_153) rfl (l' := #[.val (.long x0), .second, .val (.int x1), .val (.int (3 : Int32)), .val (.ref o3), .val (.long (own_U k3)), .second, .unset, .unset]) rfl kz) ?_
    refine own_g (mkF m 156 #[.val (.long x0), .second, .val (.int x1), .val (.int (3 : Int32)), .val (.ref o3), .val (.long (own_U k3)), .second, .unset, .unset] [(.int (3 : Int32))]) (fun _ kz => XS.iloadN X33.here hx rfl (hb hby at_155) rfl kz) ?_
    refine own_g (mkF m 157 #[.val (.long x0), .second, .val (.int x1), .val (.int (3 : Int32)), .val (.ref o3), .val (.long (own_U k3)), .second, .unset, .unset] [(.int (3 : Int32)), (.int (3 : Int32))]) (fun _ kz => XS.iconst X33.here hx rfl (hb hby at_156) kz) ?_
    refine own_g (mkF m 176 #[.val (.long x0), .second, .val (.int x1), .val (.int (3 : Int32)), .val (.ref o3), .val (.long (own_U k3)), .second, .unset, .unset] []) (fun _ kz => XS.icmpYes X33.here hx rfl (pc0 := 157) (pc' := 176) rfl (hb hby at_157) rfl (flt (by decide)).2.2.2 (by decide) (by decide) kz) ?_
    refine own_g (mkF m 177 #[.val (.long x0), .second, .val (.int x1), .val (.int (3 : Int32)), .val (.ref o3), .val (.long (own_U k3)), .second, .unset, .unset] [(.int (3 : Int32))]) (fun _ kz => XS.iloadN X33.here hx rfl (hb hby at_176) rfl kz) ?_
    refine own_g (mkF m 178 #[.val (.long x0), .second, .val (.int x1), .val (.int (3 : Int32)), .val (.ref o3), .val (.long (own_U k3)), .second, .unset, .unset] [(.int (4 : Int32)), (.int (3 : Int32))]) (fun _ kz => XS.iconst X33.here hx rfl (hb hby at_177) kz) ?_
    refine own_g (mkF m 197 #[.val (.long x0), .second, .val (.int x1), .val (.int (3 : Int32)), .val (.ref o3), .val (.long (own_U k3)), .second, .unset, .unset] []) (fun _ kz => XS.icmpYes X33.here hx rfl (pc0 := 178) (pc' := 197) rfl (hb hby at_178) rfl (flt (by decide)).2.2.2 (by decide) (by decide) kz) ?_
    refine own_g (mkF m 198 #[.val (.long x0), .second, .val (.int x1), .val (.int (3 : Int32)), .val (.ref o3), .val (.long (own_U k3)), .second, .unset, .unset] [(.int (3 : Int32))]) (fun _ kz => XS.iloadN X33.here hx rfl (hb hby at_197) rfl kz) ?_
    refine own_g (mkF m 199 #[.val (.long x0), .second, .val (.int x1), .val (.int (3 : Int32)), .val (.ref o3), .val (.long (own_U k3)), .second, .unset, .unset] [(.int (5 : Int32)), (.int (3 : Int32))]) (fun _ kz => XS.iconst X33.here hx rfl (hb hby at_198) kz) ?_
    refine own_g (mkF m 218 #[.val (.long x0), .second, .val (.int x1), .val (.int (3 : Int32)), .val (.ref o3), .val (.long (own_U k3)), .second, .unset, .unset] []) (fun _ kz => XS.icmpYes X33.here hx rfl (pc0 := 199) (pc' := 218) rfl (hb hby at_199) rfl (flt (by decide)).2.2.2 (by decide) (by decide) kz) ?_
    refine own_g (mkF m 219 #[.val (.long x0), .second, .val (.int x1), .val (.int (3 : Int32)), .val (.ref o3), .val (.long (own_U k3)), .second, .unset, .unset] [(.int (3 : Int32))]) (fun _ kz => XS.iloadN X33.here hx rfl (hb hby at_218) rfl kz) ?_
    refine own_g (mkF m 221 #[.val (.long x0), .second, .val (.int x1), .val (.int (3 : Int32)), .val (.ref o3), .val (.long (own_U k3)), .second, .unset, .unset] [(.int (6 : Int32)), (.int (3 : Int32))]) (fun _ kz => XS.bipush X33.here hx rfl (hb hby at_219) kz) ?_
    refine own_g (mkF m 240 #[.val (.long x0), .second, .val (.int x1), .val (.int (3 : Int32)), .val (.ref o3), .val (.long (own_U k3)), .second, .unset, .unset] []) (fun _ kz => XS.icmpYes X33.here hx rfl (pc0 := 221) (pc' := 240) rfl (hb hby at_221) rfl (flt (by decide)).2.2.2 (by decide) (by decide) kz) ?_
    refine own_g (mkF m 241 #[.val (.long x0), .second, .val (.int x1), .val (.int (3 : Int32)), .val (.ref o3), .val (.long (own_U k3)), .second, .unset, .unset] [(.int (3 : Int32))]) (fun _ kz => XS.iloadN X33.here hx rfl (hb hby at_240) rfl kz) ?_
    refine own_g (mkF m 243 #[.val (.long x0), .second, .val (.int x1), .val (.int (3 : Int32)), .val (.ref o3), .val (.long (own_U k3)), .second, .unset, .unset] [(.int (7 : Int32)), (.int (3 : Int32))]) (fun _ kz => XS.bipush X33.here hx rfl (hb hby at_241) kz) ?_
    refine own_g (mkF m 262 #[.val (.long x0), .second, .val (.int x1), .val (.int (3 : Int32)), .val (.ref o3), .val (.long (own_U k3)), .second, .unset, .unset] []) (fun _ kz => XS.icmpYes X33.here hx rfl (pc0 := 243) (pc' := 262) rfl (hb hby at_243) rfl (flt (by decide)).2.2.2 (by decide) (by decide) kz) ?_
    refine own_g (mkF m 264 #[.val (.long x0), .second, .val (.int x1), .val (.int (3 : Int32)), .val (.ref o3), .val (.long (own_U k3)), .second, .unset, .unset] [(.long (own_U k3))]) (fun _ kz => XS.lload X33.here hx rfl (hb hby at_262) rfl kz) ?_
    refine own_callS (rest := []) (as := [(.long (own_U k3))]) X33 hx hZ hown e33 (own_c_fin l Z a0 hw (own_U k3) h20) (own_w hw 9 rfl) (own_w hw 10 rfl) (own_w hw 5 rfl) (own_w hw 11 rfl) (by decide) own_pd1 rfl (by rw [hml]; rfl) rfl (hb hby at_264) 0 (by show 2 * 0 + _ ≤ _; exact Nat.le_of_eq rfl) (by decide) (by decide) (by decide) (by decide) ?_
    rintro _ T34 L34 X34 ⟨rfl, rfl, e34⟩
    have N34 := Fr.app N33 (Fr.nil n0)
    show own_E p e below _ (T34.setTop (mkF m 267 #[.val (.long x0), .second, .val (.int x1), .val (.int (3 : Int32)), .val (.ref o3), .val (.long (own_U k3)), .second, .unset, .unset] [(.long (own_fin (own_U k3)))]))
    refine own_g (mkF m 269 #[.val (.long x0), .second, .val (.int x1), .val (.int (3 : Int32)), .val (.ref o3), .val (.long (own_U k3)), .second, .val (.long (own_fin (own_U k3))), .second] []) (fun _ kz => XS.lstore X34.here hx rfl (hb hby at_267) rfl (l' := #[.val (.long x0), .second, .val (.int x1), .val (.int (3 : Int32)), .val (.ref o3), .val (.long (own_U k3)), .second, .val (.long (own_fin (own_U k3))), .second]) rfl kz) ?_
    refine own_g (mkF m 271 #[.val (.long x0), .second, .val (.int x1), .val (.int (3 : Int32)), .val (.ref o3), .val (.long (own_U k3)), .second, .val (.long (own_fin (own_U k3))), .second] [(.ref o3)]) (fun _ kz => XS.aload X34.here hx rfl (hb hby at_269) rfl rfl kz) ?_
    refine own_g (mkF m 272 #[.val (.long x0), .second, .val (.int x1), .val (.int (3 : Int32)), .val (.ref o3), .val (.long (own_U k3)), .second, .val (.long (own_fin (own_U k3))), .second] [(.int (3 : Int32)), (.ref o3)]) (fun _ kz => XS.iloadN X34.here hx rfl (hb hby at_271) rfl kz) ?_
    refine own_callS (rest := []) (as := [(.ref o3), (.int (3 : Int32))]) X34 hx hZ hown e34 (own_c_oat l Z a0 hw o3 3 F h20 (by decide) AF) (own_w hw 14 rfl) (own_w hw 15 rfl) (own_w hw 16 rfl) (own_w hw 17 rfl) (by decide) own_pd2 rfl (by rw [hml]; rfl) rfl (hb hby at_272) 0 (by show 2 * 0 + _ ≤ _; exact Nat.le_of_eq rfl) (by decide) (by decide) (by decide) (by decide) ?_
    rintro _ T35 L35 X35 ⟨rfl, rfl, e35⟩
    have N35 := Fr.app N34 (Fr.nil n0)
    show own_E p e below _ (T35.setTop (mkF m 275 #[.val (.long x0), .second, .val (.int x1), .val (.int (3 : Int32)), .val (.ref o3), .val (.long (own_U k3)), .second, .val (.long (own_fin (own_U k3))), .second] [(.long (own_U (own_g3 (own_fold F 3 0 0))))]))
    refine own_g (mkF m 277 #[.val (.long x0), .second, .val (.int x1), .val (.int (3 : Int32)), .val (.ref o3), .val (.long (own_U k3)), .second, .val (.long (own_fin (own_U k3))), .second] [(.long (own_fin (own_U k3))), (.long (own_U (own_g3 (own_fold F 3 0 0))))]) (fun _ kz => XS.lload X35.here hx rfl (hb hby at_275) rfl kz) ?_
    refine own_g (mkF m 278 #[.val (.long x0), .second, .val (.int x1), .val (.int (3 : Int32)), .val (.ref o3), .val (.long (own_U k3)), .second, .val (.long (own_fin (own_U k3))), .second] [(.int (lcmpW (own_U (own_g3 (own_fold F 3 0 0))) (own_fin (own_U k3))))]) (fun _ kz => XS.lcmp X35.here hx rfl (hb hby at_277) rfl kz) ?_
    refine own_g (mkF m 281 #[.val (.long x0), .second, .val (.int x1), .val (.int (3 : Int32)), .val (.ref o3), .val (.long (own_U k3)), .second, .val (.long (own_fin (own_U k3))), .second] []) (fun _ kz => XS.ifNo X35.here hx rfl (hb hby at_278) rfl ((if0 _ _).trans (teq (own_lcT (by rw [own_fi]; simp only [own_fold, hF0, hk1, hF1, hk2, hF2, hk3]))).2) kz) ?_
    refine own_g (mkF m 282 #[.val (.long x0), .second, .val (.int x1), .val (.int (3 : Int32)), .val (.ref o3), .val (.long (own_U k3)), .second, .val (.long (own_fin (own_U k3))), .second] [(.int (1 : Int32))]) (fun _ kz => XS.iconst X35.here hx rfl (hb hby at_281) kz) ?_
    refine own_g (mkF m 286 #[.val (.long x0), .second, .val (.int x1), .val (.int (3 : Int32)), .val (.ref o3), .val (.long (own_U k3)), .second, .val (.long (own_fin (own_U k3))), .second] [(.int (1 : Int32))]) (fun _ kz => XS.goto X35.here hx rfl (pc0 := 282) (pc' := 286) rfl (hb hby at_282) (by decide) (by decide) kz) ?_
    exact own_retZ X35 hx hret hlk (hb hby at_286) rfl (by decide) (by decide) (by first | exact ⟨rfl, N35⟩ | (rw [e35]; exact ⟨rfl, N35⟩))
  | 4, _ =>
    show own_E p e below _ (T20.setTop (mkF m 96 #[.val (.long x0), .second, .val (.int x1), .val (.int (4 : Int32)), .val (.ref o3), .val (.long (own_U (0 : Int32))), .second, .unset, .unset] []))
    refine own_g (mkF m 97 #[.val (.long x0), .second, .val (.int x1), .val (.int (4 : Int32)), .val (.ref o3), .val (.long (own_U (0 : Int32))), .second, .unset, .unset] [(.int (4 : Int32))]) (fun _ kz => XS.iloadN X20.here hx rfl (hb hby at_96) rfl kz) ?_
    refine own_g (mkF m 100 #[.val (.long x0), .second, .val (.int x1), .val (.int (4 : Int32)), .val (.ref o3), .val (.long (own_U (0 : Int32))), .second, .unset, .unset] []) (fun _ kz => XS.ifNo X20.here hx rfl (hb hby at_97) rfl ((if0 _ _).trans (tlt (by decide)).2.2.2) kz) ?_
    refine own_g (mkF m 102 #[.val (.long x0), .second, .val (.int x1), .val (.int (4 : Int32)), .val (.ref o3), .val (.long (own_U (0 : Int32))), .second, .unset, .unset] [(.long (own_U (0 : Int32)))]) (fun _ kz => XS.lload X20.here hx rfl (hb hby at_100) rfl kz) ?_
    refine own_g (mkF m 103 #[.val (.long x0), .second, .val (.int x1), .val (.int (4 : Int32)), .val (.ref o3), .val (.long (own_U (0 : Int32))), .second, .unset, .unset] [(.long x0), (.long (own_U (0 : Int32)))]) (fun _ kz => XS.lloadN X20.here hx rfl (hb hby at_102) rfl kz) ?_
    refine own_g (mkF m 106 #[.val (.long x0), .second, .val (.int x1), .val (.int (4 : Int32)), .val (.ref o3), .val (.long (own_U (0 : Int32))), .second, .unset, .unset] [(.long (255 : Int64)), (.long x0), (.long (own_U (0 : Int32)))]) (fun _ kz => X20.ldc2Long hx hown (mvT hZ (own_w hw 2 rfl)) (g := (mkF m 103 #[.val (.long x0), .second, .val (.int x1), .val (.int (4 : Int32)), .val (.ref o3), .val (.long (own_U (0 : Int32))), .second, .unset, .unset] [(.long x0), (.long (own_U (0 : Int32)))])) rfl (hb hby at_103) _ kz) ?_
    refine own_g (mkF m 107 #[.val (.long x0), .second, .val (.int x1), .val (.int (4 : Int32)), .val (.ref o3), .val (.long (own_U (0 : Int32))), .second, .unset, .unset] [(.long (x0 &&& (255 : Int64))), (.long (own_U (0 : Int32)))]) (fun _ kz => XS.land X20.here hx rfl (hb hby at_106) rfl kz) ?_
    refine own_g (mkF m 108 #[.val (.long x0), .second, .val (.int x1), .val (.int (4 : Int32)), .val (.ref o3), .val (.long (own_U (0 : Int32))), .second, .unset, .unset] [(.int (x0 &&& (255 : Int64)).toInt32), (.long (own_U (0 : Int32)))]) (fun _ kz => XS.l2i X20.here hx rfl (hb hby at_107) rfl kz) ?_
    refine own_callS (rest := []) (as := [(.long (own_U (0 : Int32))), (.int (x0 &&& (255 : Int64)).toInt32)]) X20 hx hZ hown e20 (own_c_step l Z a0 hw (own_U (0 : Int32)) (x0 &&& (255 : Int64)).toInt32 h20) (own_w hw 3 rfl) (own_w hw 4 rfl) (own_w hw 5 rfl) (own_w hw 6 rfl) (by decide) own_pd3 rfl (by rw [hml]; rfl) rfl (hb hby at_108) 0 (by show 2 * 0 + _ ≤ _; exact Nat.le_of_eq rfl) (by decide) (by decide) (by decide) (by decide) ?_
    rintro _ T36 L36 X36 ⟨rfl, rfl, e36⟩
    have N36 := Fr.app N20 (Fr.nil n0)
    show own_E p e below _ (T36.setTop (mkF m 111 #[.val (.long x0), .second, .val (.int x1), .val (.int (4 : Int32)), .val (.ref o3), .val (.long (own_U (0 : Int32))), .second, .unset, .unset] [(.long (own_step (own_U (0 : Int32)) (x0 &&& (255 : Int64)).toInt32))]))
    obtain ⟨k1, hk1, qk1⟩ : ∃ z, z = own_o2 (0 : Int32) (own_b x0) ∧ own_step (own_U (0 : Int32)) (x0 &&& (255 : Int64)).toInt32 = own_U z := ⟨_, rfl, own_st (0 : Int32) x0⟩
    rw [qk1]
    show own_E p e below _ (T36.setTop (mkF m 111 #[.val (.long x0), .second, .val (.int x1), .val (.int (4 : Int32)), .val (.ref o3), .val (.long (own_U (0 : Int32))), .second, .unset, .unset] [(.long (own_U k1))]))
    refine own_g (mkF m 113 #[.val (.long x0), .second, .val (.int x1), .val (.int (4 : Int32)), .val (.ref o3), .val (.long (own_U k1)), .second, .unset, .unset] []) (fun _ kz => XS.lstore X36.here hx rfl (hb hby at_111) rfl (l' := #[.val (.long x0), .second, .val (.int x1), .val (.int (4 : Int32)), .val (.ref o3), .val (.long (own_U k1)), .second, .unset, .unset]) rfl kz) ?_
    refine own_g (mkF m 114 #[.val (.long x0), .second, .val (.int x1), .val (.int (4 : Int32)), .val (.ref o3), .val (.long (own_U k1)), .second, .unset, .unset] [(.int (4 : Int32))]) (fun _ kz => XS.iloadN X36.here hx rfl (hb hby at_113) rfl kz) ?_
    refine own_g (mkF m 115 #[.val (.long x0), .second, .val (.int x1), .val (.int (4 : Int32)), .val (.ref o3), .val (.long (own_U k1)), .second, .unset, .unset] [(.int (1 : Int32)), (.int (4 : Int32))]) (fun _ kz => XS.iconst X36.here hx rfl (hb hby at_114) kz) ?_
    refine own_g (mkF m 118 #[.val (.long x0), .second, .val (.int x1), .val (.int (4 : Int32)), .val (.ref o3), .val (.long (own_U k1)), .second, .unset, .unset] []) (fun _ kz => XS.icmpNo X36.here hx rfl (hb hby at_115) rfl (tlt (by decide)).2.2.2 kz) ?_
    refine own_g (mkF m 120 #[.val (.long x0), .second, .val (.int x1), .val (.int (4 : Int32)), .val (.ref o3), .val (.long (own_U k1)), .second, .unset, .unset] [(.long (own_U k1))]) (fun _ kz => XS.lload X36.here hx rfl (hb hby at_118) rfl kz) ?_
    refine own_g (mkF m 121 #[.val (.long x0), .second, .val (.int x1), .val (.int (4 : Int32)), .val (.ref o3), .val (.long (own_U k1)), .second, .unset, .unset] [(.long x0), (.long (own_U k1))]) (fun _ kz => XS.lloadN X36.here hx rfl (hb hby at_120) rfl kz) ?_
    refine own_g (mkF m 123 #[.val (.long x0), .second, .val (.int x1), .val (.int (4 : Int32)), .val (.ref o3), .val (.long (own_U k1)), .second, .unset, .unset] [(.int (8 : Int32)), (.long x0), (.long (own_U k1))]) (fun _ kz => XS.bipush X36.here hx rfl (hb hby at_121) kz) ?_
    refine own_g (mkF m 124 #[.val (.long x0), .second, .val (.int x1), .val (.int (4 : Int32)), .val (.ref o3), .val (.long (own_U k1)), .second, .unset, .unset] [(.long ((x0.toUInt64 >>> ((8 : Int32) &&& 0x3f).toInt64.toUInt64).toInt64)), (.long (own_U k1))]) (fun _ kz => XS.lushr X36.here hx rfl (hb hby at_123) rfl kz) ?_
    refine own_g (mkF m 127 #[.val (.long x0), .second, .val (.int x1), .val (.int (4 : Int32)), .val (.ref o3), .val (.long (own_U k1)), .second, .unset, .unset] [(.long (255 : Int64)), (.long ((x0.toUInt64 >>> ((8 : Int32) &&& 0x3f).toInt64.toUInt64).toInt64)), (.long (own_U k1))]) (fun _ kz => X36.ldc2Long hx hown (mvT hZ (own_w hw 2 rfl)) (g := (mkF m 124 #[.val (.long x0), .second, .val (.int x1), .val (.int (4 : Int32)), .val (.ref o3), .val (.long (own_U k1)), .second, .unset, .unset] [(.long ((x0.toUInt64 >>> ((8 : Int32) &&& 0x3f).toInt64.toUInt64).toInt64)), (.long (own_U k1))])) rfl (hb hby at_124) _ kz) ?_
    refine own_g (mkF m 128 #[.val (.long x0), .second, .val (.int x1), .val (.int (4 : Int32)), .val (.ref o3), .val (.long (own_U k1)), .second, .unset, .unset] [(.long (((x0.toUInt64 >>> ((8 : Int32) &&& 0x3f).toInt64.toUInt64).toInt64) &&& (255 : Int64))), (.long (own_U k1))]) (fun _ kz => XS.land X36.here hx rfl (hb hby at_127) rfl kz) ?_
    refine own_g (mkF m 129 #[.val (.long x0), .second, .val (.int x1), .val (.int (4 : Int32)), .val (.ref o3), .val (.long (own_U k1)), .second, .unset, .unset] [(.int (((x0.toUInt64 >>> ((8 : Int32) &&& 0x3f).toInt64.toUInt64).toInt64) &&& (255 : Int64)).toInt32), (.long (own_U k1))]) (fun _ kz => XS.l2i X36.here hx rfl (hb hby at_128) rfl kz) ?_
    refine own_callS (rest := []) (as := [(.long (own_U k1)), (.int (((x0.toUInt64 >>> ((8 : Int32) &&& 0x3f).toInt64.toUInt64).toInt64) &&& (255 : Int64)).toInt32)]) X36 hx hZ hown e36 (own_c_step l Z a0 hw (own_U k1) (((x0.toUInt64 >>> ((8 : Int32) &&& 0x3f).toInt64.toUInt64).toInt64) &&& (255 : Int64)).toInt32 h20) (own_w hw 3 rfl) (own_w hw 4 rfl) (own_w hw 5 rfl) (own_w hw 6 rfl) (by decide) own_pd3 rfl (by rw [hml]; rfl) rfl (hb hby at_129) 0 (by show 2 * 0 + _ ≤ _; exact Nat.le_of_eq rfl) (by decide) (by decide) (by decide) (by decide) ?_
    rintro _ T37 L37 X37 ⟨rfl, rfl, e37⟩
    have N37 := Fr.app N36 (Fr.nil n0)
    show own_E p e below _ (T37.setTop (mkF m 132 #[.val (.long x0), .second, .val (.int x1), .val (.int (4 : Int32)), .val (.ref o3), .val (.long (own_U k1)), .second, .unset, .unset] [(.long (own_step (own_U k1) (((x0.toUInt64 >>> ((8 : Int32) &&& 0x3f).toInt64.toUInt64).toInt64) &&& (255 : Int64)).toInt32))]))
    obtain ⟨k2, hk2, qk2⟩ : ∃ z, z = own_o2 k1 (own_b ((x0.toUInt64 >>> ((8 : Int32) &&& 0x3f).toInt64.toUInt64).toInt64)) ∧ own_step (own_U k1) (((x0.toUInt64 >>> ((8 : Int32) &&& 0x3f).toInt64.toUInt64).toInt64) &&& (255 : Int64)).toInt32 = own_U z := ⟨_, rfl, own_st k1 ((x0.toUInt64 >>> ((8 : Int32) &&& 0x3f).toInt64.toUInt64).toInt64)⟩
    rw [qk2]
    show own_E p e below _ (T37.setTop (mkF m 132 #[.val (.long x0), .second, .val (.int x1), .val (.int (4 : Int32)), .val (.ref o3), .val (.long (own_U k1)), .second, .unset, .unset] [(.long (own_U k2))]))
    refine own_g (mkF m 134 #[.val (.long x0), .second, .val (.int x1), .val (.int (4 : Int32)), .val (.ref o3), .val (.long (own_U k2)), .second, .unset, .unset] []) (fun _ kz => XS.lstore X37.here hx rfl (hb hby at_132) rfl (l' := #[.val (.long x0), .second, .val (.int x1), .val (.int (4 : Int32)), .val (.ref o3), .val (.long (own_U k2)), .second, .unset, .unset]) rfl kz) ?_
    refine own_g (mkF m 135 #[.val (.long x0), .second, .val (.int x1), .val (.int (4 : Int32)), .val (.ref o3), .val (.long (own_U k2)), .second, .unset, .unset] [(.int (4 : Int32))]) (fun _ kz => XS.iloadN X37.here hx rfl (hb hby at_134) rfl kz) ?_
    refine own_g (mkF m 136 #[.val (.long x0), .second, .val (.int x1), .val (.int (4 : Int32)), .val (.ref o3), .val (.long (own_U k2)), .second, .unset, .unset] [(.int (2 : Int32)), (.int (4 : Int32))]) (fun _ kz => XS.iconst X37.here hx rfl (hb hby at_135) kz) ?_
    refine own_g (mkF m 139 #[.val (.long x0), .second, .val (.int x1), .val (.int (4 : Int32)), .val (.ref o3), .val (.long (own_U k2)), .second, .unset, .unset] []) (fun _ kz => XS.icmpNo X37.here hx rfl (hb hby at_136) rfl (tlt (by decide)).2.2.2 kz) ?_
    refine own_g (mkF m 141 #[.val (.long x0), .second, .val (.int x1), .val (.int (4 : Int32)), .val (.ref o3), .val (.long (own_U k2)), .second, .unset, .unset] [(.long (own_U k2))]) (fun _ kz => XS.lload X37.here hx rfl (hb hby at_139) rfl kz) ?_
    refine own_g (mkF m 142 #[.val (.long x0), .second, .val (.int x1), .val (.int (4 : Int32)), .val (.ref o3), .val (.long (own_U k2)), .second, .unset, .unset] [(.long x0), (.long (own_U k2))]) (fun _ kz => XS.lloadN X37.here hx rfl (hb hby at_141) rfl kz) ?_
    refine own_g (mkF m 144 #[.val (.long x0), .second, .val (.int x1), .val (.int (4 : Int32)), .val (.ref o3), .val (.long (own_U k2)), .second, .unset, .unset] [(.int (16 : Int32)), (.long x0), (.long (own_U k2))]) (fun _ kz => XS.bipush X37.here hx rfl (hb hby at_142) kz) ?_
    refine own_g (mkF m 145 #[.val (.long x0), .second, .val (.int x1), .val (.int (4 : Int32)), .val (.ref o3), .val (.long (own_U k2)), .second, .unset, .unset] [(.long ((x0.toUInt64 >>> ((16 : Int32) &&& 0x3f).toInt64.toUInt64).toInt64)), (.long (own_U k2))]) (fun _ kz => XS.lushr X37.here hx rfl (hb hby at_144) rfl kz) ?_
    refine own_g (mkF m 148 #[.val (.long x0), .second, .val (.int x1), .val (.int (4 : Int32)), .val (.ref o3), .val (.long (own_U k2)), .second, .unset, .unset] [(.long (255 : Int64)), (.long ((x0.toUInt64 >>> ((16 : Int32) &&& 0x3f).toInt64.toUInt64).toInt64)), (.long (own_U k2))]) (fun _ kz => X37.ldc2Long hx hown (mvT hZ (own_w hw 2 rfl)) (g := (mkF m 145 #[.val (.long x0), .second, .val (.int x1), .val (.int (4 : Int32)), .val (.ref o3), .val (.long (own_U k2)), .second, .unset, .unset] [(.long ((x0.toUInt64 >>> ((16 : Int32) &&& 0x3f).toInt64.toUInt64).toInt64)), (.long (own_U k2))])) rfl (hb hby at_145) _ kz) ?_
    refine own_g (mkF m 149 #[.val (.long x0), .second, .val (.int x1), .val (.int (4 : Int32)), .val (.ref o3), .val (.long (own_U k2)), .second, .unset, .unset] [(.long (((x0.toUInt64 >>> ((16 : Int32) &&& 0x3f).toInt64.toUInt64).toInt64) &&& (255 : Int64))), (.long (own_U k2))]) (fun _ kz => XS.land X37.here hx rfl (hb hby at_148) rfl kz) ?_
    refine own_g (mkF m 150 #[.val (.long x0), .second, .val (.int x1), .val (.int (4 : Int32)), .val (.ref o3), .val (.long (own_U k2)), .second, .unset, .unset] [(.int (((x0.toUInt64 >>> ((16 : Int32) &&& 0x3f).toInt64.toUInt64).toInt64) &&& (255 : Int64)).toInt32), (.long (own_U k2))]) (fun _ kz => XS.l2i X37.here hx rfl (hb hby at_149) rfl kz) ?_
    refine own_callS (rest := []) (as := [(.long (own_U k2)), (.int (((x0.toUInt64 >>> ((16 : Int32) &&& 0x3f).toInt64.toUInt64).toInt64) &&& (255 : Int64)).toInt32)]) X37 hx hZ hown e37 (own_c_step l Z a0 hw (own_U k2) (((x0.toUInt64 >>> ((16 : Int32) &&& 0x3f).toInt64.toUInt64).toInt64) &&& (255 : Int64)).toInt32 h20) (own_w hw 3 rfl) (own_w hw 4 rfl) (own_w hw 5 rfl) (own_w hw 6 rfl) (by decide) own_pd3 rfl (by rw [hml]; rfl) rfl (hb hby at_150) 0 (by show 2 * 0 + _ ≤ _; exact Nat.le_of_eq rfl) (by decide) (by decide) (by decide) (by decide) ?_
    rintro _ T38 L38 X38 ⟨rfl, rfl, e38⟩
    have N38 := Fr.app N37 (Fr.nil n0)
    show own_E p e below _ (T38.setTop (mkF m 153 #[.val (.long x0), .second, .val (.int x1), .val (.int (4 : Int32)), .val (.ref o3), .val (.long (own_U k2)), .second, .unset, .unset] [(.long (own_step (own_U k2) (((x0.toUInt64 >>> ((16 : Int32) &&& 0x3f).toInt64.toUInt64).toInt64) &&& (255 : Int64)).toInt32))]))
    obtain ⟨k3, hk3, qk3⟩ : ∃ z, z = own_o2 k2 (own_b ((x0.toUInt64 >>> ((16 : Int32) &&& 0x3f).toInt64.toUInt64).toInt64)) ∧ own_step (own_U k2) (((x0.toUInt64 >>> ((16 : Int32) &&& 0x3f).toInt64.toUInt64).toInt64) &&& (255 : Int64)).toInt32 = own_U z := ⟨_, rfl, own_st k2 ((x0.toUInt64 >>> ((16 : Int32) &&& 0x3f).toInt64.toUInt64).toInt64)⟩
    rw [qk3]
    show own_E p e below _ (T38.setTop (mkF m 153 #[.val (.long x0), .second, .val (.int x1), .val (.int (4 : Int32)), .val (.ref o3), .val (.long (own_U k2)), .second, .unset, .unset] [(.long (own_U k3))]))
    refine own_g (mkF m 155 #[.val (.long x0), .second, .val (.int x1), .val (.int (4 : Int32)), .val (.ref o3), .val (.long (own_U k3)), .second, .unset, .unset] []) (fun _ kz => XS.lstore X38.here hx rfl (hb hby at_153) rfl (l' := #[.val (.long x0), .second, .val (.int x1), .val (.int (4 : Int32)), .val (.ref o3), .val (.long (own_U k3)), .second, .unset, .unset]) rfl kz) ?_
    refine own_g (mkF m 156 #[.val (.long x0), .second, .val (.int x1), .val (.int (4 : Int32)), .val (.ref o3), .val (.long (own_U k3)), .second, .unset, .unset] [(.int (4 : Int32))]) (fun _ kz => XS.iloadN X38.here hx rfl (hb hby at_155) rfl kz) ?_
    refine own_g (mkF m 157 #[.val (.long x0), .second, .val (.int x1), .val (.int (4 : Int32)), .val (.ref o3), .val (.long (own_U k3)), .second, .unset, .unset] [(.int (3 : Int32)), (.int (4 : Int32))]) (fun _ kz => XS.iconst X38.here hx rfl (hb hby at_156) kz) ?_
    refine own_g (mkF m 160 #[.val (.long x0), .second, .val (.int x1), .val (.int (4 : Int32)), .val (.ref o3), .val (.long (own_U k3)), .second, .unset, .unset] []) (fun _ kz => XS.icmpNo X38.here hx rfl (hb hby at_157) rfl (tlt (by decide)).2.2.2 kz) ?_
    refine own_g (mkF m 162 #[.val (.long x0), .second, .val (.int x1), .val (.int (4 : Int32)), .val (.ref o3), .val (.long (own_U k3)), .second, .unset, .unset] [(.long (own_U k3))]) (fun _ kz => XS.lload X38.here hx rfl (hb hby at_160) rfl kz) ?_
    refine own_g (mkF m 163 #[.val (.long x0), .second, .val (.int x1), .val (.int (4 : Int32)), .val (.ref o3), .val (.long (own_U k3)), .second, .unset, .unset] [(.long x0), (.long (own_U k3))]) (fun _ kz => XS.lloadN X38.here hx rfl (hb hby at_162) rfl kz) ?_
    refine own_g (mkF m 165 #[.val (.long x0), .second, .val (.int x1), .val (.int (4 : Int32)), .val (.ref o3), .val (.long (own_U k3)), .second, .unset, .unset] [(.int (24 : Int32)), (.long x0), (.long (own_U k3))]) (fun _ kz => XS.bipush X38.here hx rfl (hb hby at_163) kz) ?_
    refine own_g (mkF m 166 #[.val (.long x0), .second, .val (.int x1), .val (.int (4 : Int32)), .val (.ref o3), .val (.long (own_U k3)), .second, .unset, .unset] [(.long ((x0.toUInt64 >>> ((24 : Int32) &&& 0x3f).toInt64.toUInt64).toInt64)), (.long (own_U k3))]) (fun _ kz => XS.lushr X38.here hx rfl (hb hby at_165) rfl kz) ?_
    refine own_g (mkF m 169 #[.val (.long x0), .second, .val (.int x1), .val (.int (4 : Int32)), .val (.ref o3), .val (.long (own_U k3)), .second, .unset, .unset] [(.long (255 : Int64)), (.long ((x0.toUInt64 >>> ((24 : Int32) &&& 0x3f).toInt64.toUInt64).toInt64)), (.long (own_U k3))]) (fun _ kz => X38.ldc2Long hx hown (mvT hZ (own_w hw 2 rfl)) (g := (mkF m 166 #[.val (.long x0), .second, .val (.int x1), .val (.int (4 : Int32)), .val (.ref o3), .val (.long (own_U k3)), .second, .unset, .unset] [(.long ((x0.toUInt64 >>> ((24 : Int32) &&& 0x3f).toInt64.toUInt64).toInt64)), (.long (own_U k3))])) rfl (hb hby at_166) _ kz) ?_
    refine own_g (mkF m 170 #[.val (.long x0), .second, .val (.int x1), .val (.int (4 : Int32)), .val (.ref o3), .val (.long (own_U k3)), .second, .unset, .unset] [(.long (((x0.toUInt64 >>> ((24 : Int32) &&& 0x3f).toInt64.toUInt64).toInt64) &&& (255 : Int64))), (.long (own_U k3))]) (fun _ kz => XS.land X38.here hx rfl (hb hby at_169) rfl kz) ?_
    refine own_g (mkF m 171 #[.val (.long x0), .second, .val (.int x1), .val (.int (4 : Int32)), .val (.ref o3), .val (.long (own_U k3)), .second, .unset, .unset] [(.int (((x0.toUInt64 >>> ((24 : Int32) &&& 0x3f).toInt64.toUInt64).toInt64) &&& (255 : Int64)).toInt32), (.long (own_U k3))]) (fun _ kz => XS.l2i X38.here hx rfl (hb hby at_170) rfl kz) ?_
    refine own_callS (rest := []) (as := [(.long (own_U k3)), (.int (((x0.toUInt64 >>> ((24 : Int32) &&& 0x3f).toInt64.toUInt64).toInt64) &&& (255 : Int64)).toInt32)]) X38 hx hZ hown e38 (own_c_step l Z a0 hw (own_U k3) (((x0.toUInt64 >>> ((24 : Int32) &&& 0x3f).toInt64.toUInt64).toInt64) &&& (255 : Int64)).toInt32 h20) (own_w hw 3 rfl) (own_w hw 4 rfl) (own_w hw 5 rfl) (own_w hw 6 rfl) (by decide) own_pd3 rfl (by rw [hml]; rfl) rfl (hb hby at_171) 0 (by show 2 * 0 + _ ≤ _; exact Nat.le_of_eq rfl) (by decide) (by decide) (by decide) (by decide) ?_
    rintro _ T39 L39 X39 ⟨rfl, rfl, e39⟩
    have N39 := Fr.app N38 (Fr.nil n0)
    show own_E p e below _ (T39.setTop (mkF m 174 #[.val (.long x0), .second, .val (.int x1), .val (.int (4 : Int32)), .val (.ref o3), .val (.long (own_U k3)), .second, .unset, .unset] [(.long (own_step (own_U k3) (((x0.toUInt64 >>> ((24 : Int32) &&& 0x3f).toInt64.toUInt64).toInt64) &&& (255 : Int64)).toInt32))]))
    obtain ⟨k4, hk4, qk4⟩ : ∃ z, z = own_o2 k3 (own_b ((x0.toUInt64 >>> ((24 : Int32) &&& 0x3f).toInt64.toUInt64).toInt64)) ∧ own_step (own_U k3) (((x0.toUInt64 >>> ((24 : Int32) &&& 0x3f).toInt64.toUInt64).toInt64) &&& (255 : Int64)).toInt32 = own_U z := ⟨_, rfl, own_st k3 ((x0.toUInt64 >>> ((24 : Int32) &&& 0x3f).toInt64.toUInt64).toInt64)⟩
    rw [qk4]
    show own_E p e below _ (T39.setTop (mkF m 174 #[.val (.long x0), .second, .val (.int x1), .val (.int (4 : Int32)), .val (.ref o3), .val (.long (own_U k3)), .second, .unset, .unset] [(.long (own_U k4))]))
    refine own_g (mkF m 176 #[.val (.long x0), .second, .val (.int x1), .val (.int (4 : Int32)), .val (.ref o3), .val (.long (own_U k4)), .second, .unset, .unset] []) (fun _ kz => XS.lstore X39.here hx rfl (hb hby at_174) rfl (l' := #[.val (.long x0), .second, .val (.int x1), .val (.int (4 : Int32)), .val (.ref o3), .val (.long (own_U k4)), .second, .unset, .unset]) rfl kz) ?_
    refine own_g (mkF m 177 #[.val (.long x0), .second, .val (.int x1), .val (.int (4 : Int32)), .val (.ref o3), .val (.long (own_U k4)), .second, .unset, .unset] [(.int (4 : Int32))]) (fun _ kz => XS.iloadN X39.here hx rfl (hb hby at_176) rfl kz) ?_
    refine own_g (mkF m 178 #[.val (.long x0), .second, .val (.int x1), .val (.int (4 : Int32)), .val (.ref o3), .val (.long (own_U k4)), .second, .unset, .unset] [(.int (4 : Int32)), (.int (4 : Int32))]) (fun _ kz => XS.iconst X39.here hx rfl (hb hby at_177) kz) ?_
    refine own_g (mkF m 197 #[.val (.long x0), .second, .val (.int x1), .val (.int (4 : Int32)), .val (.ref o3), .val (.long (own_U k4)), .second, .unset, .unset] []) (fun _ kz => XS.icmpYes X39.here hx rfl (pc0 := 178) (pc' := 197) rfl (hb hby at_178) rfl (flt (by decide)).2.2.2 (by decide) (by decide) kz) ?_
    refine own_g (mkF m 198 #[.val (.long x0), .second, .val (.int x1), .val (.int (4 : Int32)), .val (.ref o3), .val (.long (own_U k4)), .second, .unset, .unset] [(.int (4 : Int32))]) (fun _ kz => XS.iloadN X39.here hx rfl (hb hby at_197) rfl kz) ?_
    refine own_g (mkF m 199 #[.val (.long x0), .second, .val (.int x1), .val (.int (4 : Int32)), .val (.ref o3), .val (.long (own_U k4)), .second, .unset, .unset] [(.int (5 : Int32)), (.int (4 : Int32))]) (fun _ kz => XS.iconst X39.here hx rfl (hb hby at_198) kz) ?_
    refine own_g (mkF m 218 #[.val (.long x0), .second, .val (.int x1), .val (.int (4 : Int32)), .val (.ref o3), .val (.long (own_U k4)), .second, .unset, .unset] []) (fun _ kz => XS.icmpYes X39.here hx rfl (pc0 := 199) (pc' := 218) rfl (hb hby at_199) rfl (flt (by decide)).2.2.2 (by decide) (by decide) kz) ?_
    refine own_g (mkF m 219 #[.val (.long x0), .second, .val (.int x1), .val (.int (4 : Int32)), .val (.ref o3), .val (.long (own_U k4)), .second, .unset, .unset] [(.int (4 : Int32))]) (fun _ kz => XS.iloadN X39.here hx rfl (hb hby at_218) rfl kz) ?_
    refine own_g (mkF m 221 #[.val (.long x0), .second, .val (.int x1), .val (.int (4 : Int32)), .val (.ref o3), .val (.long (own_U k4)), .second, .unset, .unset] [(.int (6 : Int32)), (.int (4 : Int32))]) (fun _ kz => XS.bipush X39.here hx rfl (hb hby at_219) kz) ?_
    refine own_g (mkF m 240 #[.val (.long x0), .second, .val (.int x1), .val (.int (4 : Int32)), .val (.ref o3), .val (.long (own_U k4)), .second, .unset, .unset] []) (fun _ kz => XS.icmpYes X39.here hx rfl (pc0 := 221) (pc' := 240) rfl (hb hby at_221) rfl (flt (by decide)).2.2.2 (by decide) (by decide) kz) ?_
    refine own_g (mkF m 241 #[.val (.long x0), .second, .val (.int x1), .val (.int (4 : Int32)), .val (.ref o3), .val (.long (own_U k4)), .second, .unset, .unset] [(.int (4 : Int32))]) (fun _ kz => XS.iloadN X39.here hx rfl (hb hby at_240) rfl kz) ?_
    refine own_g (mkF m 243 #[.val (.long x0), .second, .val (.int x1), .val (.int (4 : Int32)), .val (.ref o3), .val (.long (own_U k4)), .second, .unset, .unset] [(.int (7 : Int32)), (.int (4 : Int32))]) (fun _ kz => XS.bipush X39.here hx rfl (hb hby at_241) kz) ?_
    refine own_g (mkF m 262 #[.val (.long x0), .second, .val (.int x1), .val (.int (4 : Int32)), .val (.ref o3), .val (.long (own_U k4)), .second, .unset, .unset] []) (fun _ kz => XS.icmpYes X39.here hx rfl (pc0 := 243) (pc' := 262) rfl (hb hby at_243) rfl (flt (by decide)).2.2.2 (by decide) (by decide) kz) ?_
    refine own_g (mkF m 264 #[.val (.long x0), .second, .val (.int x1), .val (.int (4 : Int32)), .val (.ref o3), .val (.long (own_U k4)), .second, .unset, .unset] [(.long (own_U k4))]) (fun _ kz => XS.lload X39.here hx rfl (hb hby at_262) rfl kz) ?_
    refine own_callS (rest := []) (as := [(.long (own_U k4))]) X39 hx hZ hown e39 (own_c_fin l Z a0 hw (own_U k4) h20) (own_w hw 9 rfl) (own_w hw 10 rfl) (own_w hw 5 rfl) (own_w hw 11 rfl) (by decide) own_pd1 rfl (by rw [hml]; rfl) rfl (hb hby at_264) 0 (by show 2 * 0 + _ ≤ _; exact Nat.le_of_eq rfl) (by decide) (by decide) (by decide) (by decide) ?_
    rintro _ T40 L40 X40 ⟨rfl, rfl, e40⟩
    have N40 := Fr.app N39 (Fr.nil n0)
    show own_E p e below _ (T40.setTop (mkF m 267 #[.val (.long x0), .second, .val (.int x1), .val (.int (4 : Int32)), .val (.ref o3), .val (.long (own_U k4)), .second, .unset, .unset] [(.long (own_fin (own_U k4)))]))
    refine own_g (mkF m 269 #[.val (.long x0), .second, .val (.int x1), .val (.int (4 : Int32)), .val (.ref o3), .val (.long (own_U k4)), .second, .val (.long (own_fin (own_U k4))), .second] []) (fun _ kz => XS.lstore X40.here hx rfl (hb hby at_267) rfl (l' := #[.val (.long x0), .second, .val (.int x1), .val (.int (4 : Int32)), .val (.ref o3), .val (.long (own_U k4)), .second, .val (.long (own_fin (own_U k4))), .second]) rfl kz) ?_
    refine own_g (mkF m 271 #[.val (.long x0), .second, .val (.int x1), .val (.int (4 : Int32)), .val (.ref o3), .val (.long (own_U k4)), .second, .val (.long (own_fin (own_U k4))), .second] [(.ref o3)]) (fun _ kz => XS.aload X40.here hx rfl (hb hby at_269) rfl rfl kz) ?_
    refine own_g (mkF m 272 #[.val (.long x0), .second, .val (.int x1), .val (.int (4 : Int32)), .val (.ref o3), .val (.long (own_U k4)), .second, .val (.long (own_fin (own_U k4))), .second] [(.int (4 : Int32)), (.ref o3)]) (fun _ kz => XS.iloadN X40.here hx rfl (hb hby at_271) rfl kz) ?_
    refine own_callS (rest := []) (as := [(.ref o3), (.int (4 : Int32))]) X40 hx hZ hown e40 (own_c_oat l Z a0 hw o3 4 F h20 (by decide) AF) (own_w hw 14 rfl) (own_w hw 15 rfl) (own_w hw 16 rfl) (own_w hw 17 rfl) (by decide) own_pd2 rfl (by rw [hml]; rfl) rfl (hb hby at_272) 0 (by show 2 * 0 + _ ≤ _; exact Nat.le_of_eq rfl) (by decide) (by decide) (by decide) (by decide) ?_
    rintro _ T41 L41 X41 ⟨rfl, rfl, e41⟩
    have N41 := Fr.app N40 (Fr.nil n0)
    show own_E p e below _ (T41.setTop (mkF m 275 #[.val (.long x0), .second, .val (.int x1), .val (.int (4 : Int32)), .val (.ref o3), .val (.long (own_U k4)), .second, .val (.long (own_fin (own_U k4))), .second] [(.long (own_U (own_g3 (own_fold F 4 0 0))))]))
    refine own_g (mkF m 277 #[.val (.long x0), .second, .val (.int x1), .val (.int (4 : Int32)), .val (.ref o3), .val (.long (own_U k4)), .second, .val (.long (own_fin (own_U k4))), .second] [(.long (own_fin (own_U k4))), (.long (own_U (own_g3 (own_fold F 4 0 0))))]) (fun _ kz => XS.lload X41.here hx rfl (hb hby at_275) rfl kz) ?_
    refine own_g (mkF m 278 #[.val (.long x0), .second, .val (.int x1), .val (.int (4 : Int32)), .val (.ref o3), .val (.long (own_U k4)), .second, .val (.long (own_fin (own_U k4))), .second] [(.int (lcmpW (own_U (own_g3 (own_fold F 4 0 0))) (own_fin (own_U k4))))]) (fun _ kz => XS.lcmp X41.here hx rfl (hb hby at_277) rfl kz) ?_
    refine own_g (mkF m 281 #[.val (.long x0), .second, .val (.int x1), .val (.int (4 : Int32)), .val (.ref o3), .val (.long (own_U k4)), .second, .val (.long (own_fin (own_U k4))), .second] []) (fun _ kz => XS.ifNo X41.here hx rfl (hb hby at_278) rfl ((if0 _ _).trans (teq (own_lcT (by rw [own_fi]; simp only [own_fold, hF0, hk1, hF1, hk2, hF2, hk3, hF3, hk4]))).2) kz) ?_
    refine own_g (mkF m 282 #[.val (.long x0), .second, .val (.int x1), .val (.int (4 : Int32)), .val (.ref o3), .val (.long (own_U k4)), .second, .val (.long (own_fin (own_U k4))), .second] [(.int (1 : Int32))]) (fun _ kz => XS.iconst X41.here hx rfl (hb hby at_281) kz) ?_
    refine own_g (mkF m 286 #[.val (.long x0), .second, .val (.int x1), .val (.int (4 : Int32)), .val (.ref o3), .val (.long (own_U k4)), .second, .val (.long (own_fin (own_U k4))), .second] [(.int (1 : Int32))]) (fun _ kz => XS.goto X41.here hx rfl (pc0 := 282) (pc' := 286) rfl (hb hby at_282) (by decide) (by decide) kz) ?_
    exact own_retZ X41 hx hret hlk (hb hby at_286) rfl (by decide) (by decide) (by first | exact ⟨rfl, N41⟩ | (rw [e41]; exact ⟨rfl, N41⟩))
  | 5, _ =>
    show own_E p e below _ (T20.setTop (mkF m 96 #[.val (.long x0), .second, .val (.int x1), .val (.int (5 : Int32)), .val (.ref o3), .val (.long (own_U (0 : Int32))), .second, .unset, .unset] []))
    refine own_g (mkF m 97 #[.val (.long x0), .second, .val (.int x1), .val (.int (5 : Int32)), .val (.ref o3), .val (.long (own_U (0 : Int32))), .second, .unset, .unset] [(.int (5 : Int32))]) (fun _ kz => XS.iloadN X20.here hx rfl (hb hby at_96) rfl kz) ?_
    refine own_g (mkF m 100 #[.val (.long x0), .second, .val (.int x1), .val (.int (5 : Int32)), .val (.ref o3), .val (.long (own_U (0 : Int32))), .second, .unset, .unset] []) (fun _ kz => XS.ifNo X20.here hx rfl (hb hby at_97) rfl ((if0 _ _).trans (tlt (by decide)).2.2.2) kz) ?_
    refine own_g (mkF m 102 #[.val (.long x0), .second, .val (.int x1), .val (.int (5 : Int32)), .val (.ref o3), .val (.long (own_U (0 : Int32))), .second, .unset, .unset] [(.long (own_U (0 : Int32)))]) (fun _ kz => XS.lload X20.here hx rfl (hb hby at_100) rfl kz) ?_
    refine own_g (mkF m 103 #[.val (.long x0), .second, .val (.int x1), .val (.int (5 : Int32)), .val (.ref o3), .val (.long (own_U (0 : Int32))), .second, .unset, .unset] [(.long x0), (.long (own_U (0 : Int32)))]) (fun _ kz => XS.lloadN X20.here hx rfl (hb hby at_102) rfl kz) ?_
    refine own_g (mkF m 106 #[.val (.long x0), .second, .val (.int x1), .val (.int (5 : Int32)), .val (.ref o3), .val (.long (own_U (0 : Int32))), .second, .unset, .unset] [(.long (255 : Int64)), (.long x0), (.long (own_U (0 : Int32)))]) (fun _ kz => X20.ldc2Long hx hown (mvT hZ (own_w hw 2 rfl)) (g := (mkF m 103 #[.val (.long x0), .second, .val (.int x1), .val (.int (5 : Int32)), .val (.ref o3), .val (.long (own_U (0 : Int32))), .second, .unset, .unset] [(.long x0), (.long (own_U (0 : Int32)))])) rfl (hb hby at_103) _ kz) ?_
    refine own_g (mkF m 107 #[.val (.long x0), .second, .val (.int x1), .val (.int (5 : Int32)), .val (.ref o3), .val (.long (own_U (0 : Int32))), .second, .unset, .unset] [(.long (x0 &&& (255 : Int64))), (.long (own_U (0 : Int32)))]) (fun _ kz => XS.land X20.here hx rfl (hb hby at_106) rfl kz) ?_
    refine own_g (mkF m 108 #[.val (.long x0), .second, .val (.int x1), .val (.int (5 : Int32)), .val (.ref o3), .val (.long (own_U (0 : Int32))), .second, .unset, .unset] [(.int (x0 &&& (255 : Int64)).toInt32), (.long (own_U (0 : Int32)))]) (fun _ kz => XS.l2i X20.here hx rfl (hb hby at_107) rfl kz) ?_
    refine own_callS (rest := []) (as := [(.long (own_U (0 : Int32))), (.int (x0 &&& (255 : Int64)).toInt32)]) X20 hx hZ hown e20 (own_c_step l Z a0 hw (own_U (0 : Int32)) (x0 &&& (255 : Int64)).toInt32 h20) (own_w hw 3 rfl) (own_w hw 4 rfl) (own_w hw 5 rfl) (own_w hw 6 rfl) (by decide) own_pd3 rfl (by rw [hml]; rfl) rfl (hb hby at_108) 0 (by show 2 * 0 + _ ≤ _; exact Nat.le_of_eq rfl) (by decide) (by decide) (by decide) (by decide) ?_
    rintro _ T42 L42 X42 ⟨rfl, rfl, e42⟩
    have N42 := Fr.app N20 (Fr.nil n0)
    show own_E p e below _ (T42.setTop (mkF m 111 #[.val (.long x0), .second, .val (.int x1), .val (.int (5 : Int32)), .val (.ref o3), .val (.long (own_U (0 : Int32))), .second, .unset, .unset] [(.long (own_step (own_U (0 : Int32)) (x0 &&& (255 : Int64)).toInt32))]))
    obtain ⟨k1, hk1, qk1⟩ : ∃ z, z = own_o2 (0 : Int32) (own_b x0) ∧ own_step (own_U (0 : Int32)) (x0 &&& (255 : Int64)).toInt32 = own_U z := ⟨_, rfl, own_st (0 : Int32) x0⟩
    rw [qk1]
    show own_E p e below _ (T42.setTop (mkF m 111 #[.val (.long x0), .second, .val (.int x1), .val (.int (5 : Int32)), .val (.ref o3), .val (.long (own_U (0 : Int32))), .second, .unset, .unset] [(.long (own_U k1))]))
    refine own_g (mkF m 113 #[.val (.long x0), .second, .val (.int x1), .val (.int (5 : Int32)), .val (.ref o3), .val (.long (own_U k1)), .second, .unset, .unset] []) (fun _ kz => XS.lstore X42.here hx rfl (hb hby at_111) rfl (l' := #[.val (.long x0), .second, .val (.int x1), .val (.int (5 : Int32)), .val (.ref o3), .val (.long (own_U k1)), .second, .unset, .unset]) rfl kz) ?_
    refine own_g (mkF m 114 #[.val (.long x0), .second, .val (.int x1), .val (.int (5 : Int32)), .val (.ref o3), .val (.long (own_U k1)), .second, .unset, .unset] [(.int (5 : Int32))]) (fun _ kz => XS.iloadN X42.here hx rfl (hb hby at_113) rfl kz) ?_
    refine own_g (mkF m 115 #[.val (.long x0), .second, .val (.int x1), .val (.int (5 : Int32)), .val (.ref o3), .val (.long (own_U k1)), .second, .unset, .unset] [(.int (1 : Int32)), (.int (5 : Int32))]) (fun _ kz => XS.iconst X42.here hx rfl (hb hby at_114) kz) ?_
    refine own_g (mkF m 118 #[.val (.long x0), .second, .val (.int x1), .val (.int (5 : Int32)), .val (.ref o3), .val (.long (own_U k1)), .second, .unset, .unset] []) (fun _ kz => XS.icmpNo X42.here hx rfl (hb hby at_115) rfl (tlt (by decide)).2.2.2 kz) ?_
    refine own_g (mkF m 120 #[.val (.long x0), .second, .val (.int x1), .val (.int (5 : Int32)), .val (.ref o3), .val (.long (own_U k1)), .second, .unset, .unset] [(.long (own_U k1))]) (fun _ kz => XS.lload X42.here hx rfl (hb hby at_118) rfl kz) ?_
    refine own_g (mkF m 121 #[.val (.long x0), .second, .val (.int x1), .val (.int (5 : Int32)), .val (.ref o3), .val (.long (own_U k1)), .second, .unset, .unset] [(.long x0), (.long (own_U k1))]) (fun _ kz => XS.lloadN X42.here hx rfl (hb hby at_120) rfl kz) ?_
    refine own_g (mkF m 123 #[.val (.long x0), .second, .val (.int x1), .val (.int (5 : Int32)), .val (.ref o3), .val (.long (own_U k1)), .second, .unset, .unset] [(.int (8 : Int32)), (.long x0), (.long (own_U k1))]) (fun _ kz => XS.bipush X42.here hx rfl (hb hby at_121) kz) ?_
    refine own_g (mkF m 124 #[.val (.long x0), .second, .val (.int x1), .val (.int (5 : Int32)), .val (.ref o3), .val (.long (own_U k1)), .second, .unset, .unset] [(.long ((x0.toUInt64 >>> ((8 : Int32) &&& 0x3f).toInt64.toUInt64).toInt64)), (.long (own_U k1))]) (fun _ kz => XS.lushr X42.here hx rfl (hb hby at_123) rfl kz) ?_
    refine own_g (mkF m 127 #[.val (.long x0), .second, .val (.int x1), .val (.int (5 : Int32)), .val (.ref o3), .val (.long (own_U k1)), .second, .unset, .unset] [(.long (255 : Int64)), (.long ((x0.toUInt64 >>> ((8 : Int32) &&& 0x3f).toInt64.toUInt64).toInt64)), (.long (own_U k1))]) (fun _ kz => X42.ldc2Long hx hown (mvT hZ (own_w hw 2 rfl)) (g := (mkF m 124 #[.val (.long x0), .second, .val (.int x1), .val (.int (5 : Int32)), .val (.ref o3), .val (.long (own_U k1)), .second, .unset, .unset] [(.long ((x0.toUInt64 >>> ((8 : Int32) &&& 0x3f).toInt64.toUInt64).toInt64)), (.long (own_U k1))])) rfl (hb hby at_124) _ kz) ?_
    refine own_g (mkF m 128 #[.val (.long x0), .second, .val (.int x1), .val (.int (5 : Int32)), .val (.ref o3), .val (.long (own_U k1)), .second, .unset, .unset] [(.long (((x0.toUInt64 >>> ((8 : Int32) &&& 0x3f).toInt64.toUInt64).toInt64) &&& (255 : Int64))), (.long (own_U k1))]) (fun _ kz => XS.land X42.here hx rfl (hb hby at_127) rfl kz) ?_
    refine own_g (mkF m 129 #[.val (.long x0), .second, .val (.int x1), .val (.int (5 : Int32)), .val (.ref o3), .val (.long (own_U k1)), .second, .unset, .unset] [(.int (((x0.toUInt64 >>> ((8 : Int32) &&& 0x3f).toInt64.toUInt64).toInt64) &&& (255 : Int64)).toInt32), (.long (own_U k1))]) (fun _ kz => XS.l2i X42.here hx rfl (hb hby at_128) rfl kz) ?_
    refine own_callS (rest := []) (as := [(.long (own_U k1)), (.int (((x0.toUInt64 >>> ((8 : Int32) &&& 0x3f).toInt64.toUInt64).toInt64) &&& (255 : Int64)).toInt32)]) X42 hx hZ hown e42 (own_c_step l Z a0 hw (own_U k1) (((x0.toUInt64 >>> ((8 : Int32) &&& 0x3f).toInt64.toUInt64).toInt64) &&& (255 : Int64)).toInt32 h20) (own_w hw 3 rfl) (own_w hw 4 rfl) (own_w hw 5 rfl) (own_w hw 6 rfl) (by decide) own_pd3 rfl (by rw [hml]; rfl) rfl (hb hby at_129) 0 (by show 2 * 0 + _ ≤ _; exact Nat.le_of_eq rfl) (by decide) (by decide) (by decide) (by decide) ?_
    rintro _ T43 L43 X43 ⟨rfl, rfl, e43⟩
    have N43 := Fr.app N42 (Fr.nil n0)
    show own_E p e below _ (T43.setTop (mkF m 132 #[.val (.long x0), .second, .val (.int x1), .val (.int (5 : Int32)), .val (.ref o3), .val (.long (own_U k1)), .second, .unset, .unset] [(.long (own_step (own_U k1) (((x0.toUInt64 >>> ((8 : Int32) &&& 0x3f).toInt64.toUInt64).toInt64) &&& (255 : Int64)).toInt32))]))
    obtain ⟨k2, hk2, qk2⟩ : ∃ z, z = own_o2 k1 (own_b ((x0.toUInt64 >>> ((8 : Int32) &&& 0x3f).toInt64.toUInt64).toInt64)) ∧ own_step (own_U k1) (((x0.toUInt64 >>> ((8 : Int32) &&& 0x3f).toInt64.toUInt64).toInt64) &&& (255 : Int64)).toInt32 = own_U z := ⟨_, rfl, own_st k1 ((x0.toUInt64 >>> ((8 : Int32) &&& 0x3f).toInt64.toUInt64).toInt64)⟩
    rw [qk2]
    show own_E p e below _ (T43.setTop (mkF m 132 #[.val (.long x0), .second, .val (.int x1), .val (.int (5 : Int32)), .val (.ref o3), .val (.long (own_U k1)), .second, .unset, .unset] [(.long (own_U k2))]))
    refine own_g (mkF m 134 #[.val (.long x0), .second, .val (.int x1), .val (.int (5 : Int32)), .val (.ref o3), .val (.long (own_U k2)), .second, .unset, .unset] []) (fun _ kz => XS.lstore X43.here hx rfl (hb hby at_132) rfl (l' := #[.val (.long x0), .second, .val (.int x1), .val (.int (5 : Int32)), .val (.ref o3), .val (.long (own_U k2)), .second, .unset, .unset]) rfl kz) ?_
    refine own_g (mkF m 135 #[.val (.long x0), .second, .val (.int x1), .val (.int (5 : Int32)), .val (.ref o3), .val (.long (own_U k2)), .second, .unset, .unset] [(.int (5 : Int32))]) (fun _ kz => XS.iloadN X43.here hx rfl (hb hby at_134) rfl kz) ?_
    refine own_g (mkF m 136 #[.val (.long x0), .second, .val (.int x1), .val (.int (5 : Int32)), .val (.ref o3), .val (.long (own_U k2)), .second, .unset, .unset] [(.int (2 : Int32)), (.int (5 : Int32))]) (fun _ kz => XS.iconst X43.here hx rfl (hb hby at_135) kz) ?_
    refine own_g (mkF m 139 #[.val (.long x0), .second, .val (.int x1), .val (.int (5 : Int32)), .val (.ref o3), .val (.long (own_U k2)), .second, .unset, .unset] []) (fun _ kz => XS.icmpNo X43.here hx rfl (hb hby at_136) rfl (tlt (by decide)).2.2.2 kz) ?_
    refine own_g (mkF m 141 #[.val (.long x0), .second, .val (.int x1), .val (.int (5 : Int32)), .val (.ref o3), .val (.long (own_U k2)), .second, .unset, .unset] [(.long (own_U k2))]) (fun _ kz => XS.lload X43.here hx rfl (hb hby at_139) rfl kz) ?_
    refine own_g (mkF m 142 #[.val (.long x0), .second, .val (.int x1), .val (.int (5 : Int32)), .val (.ref o3), .val (.long (own_U k2)), .second, .unset, .unset] [(.long x0), (.long (own_U k2))]) (fun _ kz => XS.lloadN X43.here hx rfl (hb hby at_141) rfl kz) ?_
    refine own_g (mkF m 144 #[.val (.long x0), .second, .val (.int x1), .val (.int (5 : Int32)), .val (.ref o3), .val (.long (own_U k2)), .second, .unset, .unset] [(.int (16 : Int32)), (.long x0), (.long (own_U k2))]) (fun _ kz => XS.bipush X43.here hx rfl (hb hby at_142) kz) ?_
    refine own_g (mkF m 145 #[.val (.long x0), .second, .val (.int x1), .val (.int (5 : Int32)), .val (.ref o3), .val (.long (own_U k2)), .second, .unset, .unset] [(.long ((x0.toUInt64 >>> ((16 : Int32) &&& 0x3f).toInt64.toUInt64).toInt64)), (.long (own_U k2))]) (fun _ kz => XS.lushr X43.here hx rfl (hb hby at_144) rfl kz) ?_
    refine own_g (mkF m 148 #[.val (.long x0), .second, .val (.int x1), .val (.int (5 : Int32)), .val (.ref o3), .val (.long (own_U k2)), .second, .unset, .unset] [(.long (255 : Int64)), (.long ((x0.toUInt64 >>> ((16 : Int32) &&& 0x3f).toInt64.toUInt64).toInt64)), (.long (own_U k2))]) (fun _ kz => X43.ldc2Long hx hown (mvT hZ (own_w hw 2 rfl)) (g := (mkF m 145 #[.val (.long x0), .second, .val (.int x1), .val (.int (5 : Int32)), .val (.ref o3), .val (.long (own_U k2)), .second, .unset, .unset] [(.long ((x0.toUInt64 >>> ((16 : Int32) &&& 0x3f).toInt64.toUInt64).toInt64)), (.long (own_U k2))])) rfl (hb hby at_145) _ kz) ?_
    refine own_g (mkF m 149 #[.val (.long x0), .second, .val (.int x1), .val (.int (5 : Int32)), .val (.ref o3), .val (.long (own_U k2)), .second, .unset, .unset] [(.long (((x0.toUInt64 >>> ((16 : Int32) &&& 0x3f).toInt64.toUInt64).toInt64) &&& (255 : Int64))), (.long (own_U k2))]) (fun _ kz => XS.land X43.here hx rfl (hb hby at_148) rfl kz) ?_
    refine own_g (mkF m 150 #[.val (.long x0), .second, .val (.int x1), .val (.int (5 : Int32)), .val (.ref o3), .val (.long (own_U k2)), .second, .unset, .unset] [(.int (((x0.toUInt64 >>> ((16 : Int32) &&& 0x3f).toInt64.toUInt64).toInt64) &&& (255 : Int64)).toInt32), (.long (own_U k2))]) (fun _ kz => XS.l2i X43.here hx rfl (hb hby at_149) rfl kz) ?_
    refine own_callS (rest := []) (as := [(.long (own_U k2)), (.int (((x0.toUInt64 >>> ((16 : Int32) &&& 0x3f).toInt64.toUInt64).toInt64) &&& (255 : Int64)).toInt32)]) X43 hx hZ hown e43 (own_c_step l Z a0 hw (own_U k2) (((x0.toUInt64 >>> ((16 : Int32) &&& 0x3f).toInt64.toUInt64).toInt64) &&& (255 : Int64)).toInt32 h20) (own_w hw 3 rfl) (own_w hw 4 rfl) (own_w hw 5 rfl) (own_w hw 6 rfl) (by decide) own_pd3 rfl (by rw [hml]; rfl) rfl (hb hby at_150) 0 (by show 2 * 0 + _ ≤ _; exact Nat.le_of_eq rfl) (by decide) (by decide) (by decide) (by decide) ?_
    rintro _ T44 L44 X44 ⟨rfl, rfl, e44⟩
    have N44 := Fr.app N43 (Fr.nil n0)
    show own_E p e below _ (T44.setTop (mkF m 153 #[.val (.long x0), .second, .val (.int x1), .val (.int (5 : Int32)), .val (.ref o3), .val (.long (own_U k2)), .second, .unset, .unset] [(.long (own_step (own_U k2) (((x0.toUInt64 >>> ((16 : Int32) &&& 0x3f).toInt64.toUInt64).toInt64) &&& (255 : Int64)).toInt32))]))
    obtain ⟨k3, hk3, qk3⟩ : ∃ z, z = own_o2 k2 (own_b ((x0.toUInt64 >>> ((16 : Int32) &&& 0x3f).toInt64.toUInt64).toInt64)) ∧ own_step (own_U k2) (((x0.toUInt64 >>> ((16 : Int32) &&& 0x3f).toInt64.toUInt64).toInt64) &&& (255 : Int64)).toInt32 = own_U z := ⟨_, rfl, own_st k2 ((x0.toUInt64 >>> ((16 : Int32) &&& 0x3f).toInt64.toUInt64).toInt64)⟩
    rw [qk3]
    show own_E p e below _ (T44.setTop (mkF m 153 #[.val (.long x0), .second, .val (.int x1), .val (.int (5 : Int32)), .val (.ref o3), .val (.long (own_U k2)), .second, .unset, .unset] [(.long (own_U k3))]))
    refine own_g (mkF m 155 #[.val (.long x0), .second, .val (.int x1), .val (.int (5 : Int32)), .val (.ref o3), .val (.long (own_U k3)), .second, .unset, .unset] []) (fun _ kz => XS.lstore X44.here hx rfl (hb hby at_153) rfl (l' := #[.val (.long x0), .second, .val (.int x1), .val (.int (5 : Int32)), .val (.ref o3), .val (.long (own_U k3)), .second, .unset, .unset]) rfl kz) ?_
    refine own_g (mkF m 156 #[.val (.long x0), .second, .val (.int x1), .val (.int (5 : Int32)), .val (.ref o3), .val (.long (own_U k3)), .second, .unset, .unset] [(.int (5 : Int32))]) (fun _ kz => XS.iloadN X44.here hx rfl (hb hby at_155) rfl kz) ?_
    refine own_g (mkF m 157 #[.val (.long x0), .second, .val (.int x1), .val (.int (5 : Int32)), .val (.ref o3), .val (.long (own_U k3)), .second, .unset, .unset] [(.int (3 : Int32)), (.int (5 : Int32))]) (fun _ kz => XS.iconst X44.here hx rfl (hb hby at_156) kz) ?_
    refine own_g (mkF m 160 #[.val (.long x0), .second, .val (.int x1), .val (.int (5 : Int32)), .val (.ref o3), .val (.long (own_U k3)), .second, .unset, .unset] []) (fun _ kz => XS.icmpNo X44.here hx rfl (hb hby at_157) rfl (tlt (by decide)).2.2.2 kz) ?_
    refine own_g (mkF m 162 #[.val (.long x0), .second, .val (.int x1), .val (.int (5 : Int32)), .val (.ref o3), .val (.long (own_U k3)), .second, .unset, .unset] [(.long (own_U k3))]) (fun _ kz => XS.lload X44.here hx rfl (hb hby at_160) rfl kz) ?_
    refine own_g (mkF m 163 #[.val (.long x0), .second, .val (.int x1), .val (.int (5 : Int32)), .val (.ref o3), .val (.long (own_U k3)), .second, .unset, .unset] [(.long x0), (.long (own_U k3))]) (fun _ kz => XS.lloadN X44.here hx rfl (hb hby at_162) rfl kz) ?_
    refine own_g (mkF m 165 #[.val (.long x0), .second, .val (.int x1), .val (.int (5 : Int32)), .val (.ref o3), .val (.long (own_U k3)), .second, .unset, .unset] [(.int (24 : Int32)), (.long x0), (.long (own_U k3))]) (fun _ kz => XS.bipush X44.here hx rfl (hb hby at_163) kz) ?_
    refine own_g (mkF m 166 #[.val (.long x0), .second, .val (.int x1), .val (.int (5 : Int32)), .val (.ref o3), .val (.long (own_U k3)), .second, .unset, .unset] [(.long ((x0.toUInt64 >>> ((24 : Int32) &&& 0x3f).toInt64.toUInt64).toInt64)), (.long (own_U k3))]) (fun _ kz => XS.lushr X44.here hx rfl (hb hby at_165) rfl kz) ?_
    refine own_g (mkF m 169 #[.val (.long x0), .second, .val (.int x1), .val (.int (5 : Int32)), .val (.ref o3), .val (.long (own_U k3)), .second, .unset, .unset] [(.long (255 : Int64)), (.long ((x0.toUInt64 >>> ((24 : Int32) &&& 0x3f).toInt64.toUInt64).toInt64)), (.long (own_U k3))]) (fun _ kz => X44.ldc2Long hx hown (mvT hZ (own_w hw 2 rfl)) (g := (mkF m 166 #[.val (.long x0), .second, .val (.int x1), .val (.int (5 : Int32)), .val (.ref o3), .val (.long (own_U k3)), .second, .unset, .unset] [(.long ((x0.toUInt64 >>> ((24 : Int32) &&& 0x3f).toInt64.toUInt64).toInt64)), (.long (own_U k3))])) rfl (hb hby at_166) _ kz) ?_
    refine own_g (mkF m 170 #[.val (.long x0), .second, .val (.int x1), .val (.int (5 : Int32)), .val (.ref o3), .val (.long (own_U k3)), .second, .unset, .unset] [(.long (((x0.toUInt64 >>> ((24 : Int32) &&& 0x3f).toInt64.toUInt64).toInt64) &&& (255 : Int64))), (.long (own_U k3))]) (fun _ kz => XS.land X44.here hx rfl (hb hby at_169) rfl kz) ?_
    refine own_g (mkF m 171 #[.val (.long x0), .second, .val (.int x1), .val (.int (5 : Int32)), .val (.ref o3), .val (.long (own_U k3)), .second, .unset, .unset] [(.int (((x0.toUInt64 >>> ((24 : Int32) &&& 0x3f).toInt64.toUInt64).toInt64) &&& (255 : Int64)).toInt32), (.long (own_U k3))]) (fun _ kz => XS.l2i X44.here hx rfl (hb hby at_170) rfl kz) ?_
    refine own_callS (rest := []) (as := [(.long (own_U k3)), (.int (((x0.toUInt64 >>> ((24 : Int32) &&& 0x3f).toInt64.toUInt64).toInt64) &&& (255 : Int64)).toInt32)]) X44 hx hZ hown e44 (own_c_step l Z a0 hw (own_U k3) (((x0.toUInt64 >>> ((24 : Int32) &&& 0x3f).toInt64.toUInt64).toInt64) &&& (255 : Int64)).toInt32 h20) (own_w hw 3 rfl) (own_w hw 4 rfl) (own_w hw 5 rfl) (own_w hw 6 rfl) (by decide) own_pd3 rfl (by rw [hml]; rfl) rfl (hb hby at_171) 0 (by show 2 * 0 + _ ≤ _; exact Nat.le_of_eq rfl) (by decide) (by decide) (by decide) (by decide) ?_
    rintro _ T45 L45 X45 ⟨rfl, rfl, e45⟩
    have N45 := Fr.app N44 (Fr.nil n0)
    show own_E p e below _ (T45.setTop (mkF m 174 #[.val (.long x0), .second, .val (.int x1), .val (.int (5 : Int32)), .val (.ref o3), .val (.long (own_U k3)), .second, .unset, .unset] [(.long (own_step (own_U k3) (((x0.toUInt64 >>> ((24 : Int32) &&& 0x3f).toInt64.toUInt64).toInt64) &&& (255 : Int64)).toInt32))]))
    obtain ⟨k4, hk4, qk4⟩ : ∃ z, z = own_o2 k3 (own_b ((x0.toUInt64 >>> ((24 : Int32) &&& 0x3f).toInt64.toUInt64).toInt64)) ∧ own_step (own_U k3) (((x0.toUInt64 >>> ((24 : Int32) &&& 0x3f).toInt64.toUInt64).toInt64) &&& (255 : Int64)).toInt32 = own_U z := ⟨_, rfl, own_st k3 ((x0.toUInt64 >>> ((24 : Int32) &&& 0x3f).toInt64.toUInt64).toInt64)⟩
    rw [qk4]
    show own_E p e below _ (T45.setTop (mkF m 174 #[.val (.long x0), .second, .val (.int x1), .val (.int (5 : Int32)), .val (.ref o3), .val (.long (own_U k3)), .second, .unset, .unset] [(.long (own_U k4))]))
    refine own_g (mkF m 176 #[.val (.long x0), .second, .val (.int x1), .val (.int (5 : Int32)), .val (.ref o3), .val (.long (own_U k4)), .second, .unset, .unset] []) (fun _ kz => XS.lstore X45.here hx rfl (hb hby at_174) rfl (l' := #[.val (.long x0), .second, .val (.int x1), .val (.int (5 : Int32)), .val (.ref o3), .val (.long (own_U k4)), .second, .unset, .unset]) rfl kz) ?_
    refine own_g (mkF m 177 #[.val (.long x0), .second, .val (.int x1), .val (.int (5 : Int32)), .val (.ref o3), .val (.long (own_U k4)), .second, .unset, .unset] [(.int (5 : Int32))]) (fun _ kz => XS.iloadN X45.here hx rfl (hb hby at_176) rfl kz) ?_
    refine own_g (mkF m 178 #[.val (.long x0), .second, .val (.int x1), .val (.int (5 : Int32)), .val (.ref o3), .val (.long (own_U k4)), .second, .unset, .unset] [(.int (4 : Int32)), (.int (5 : Int32))]) (fun _ kz => XS.iconst X45.here hx rfl (hb hby at_177) kz) ?_
    refine own_g (mkF m 181 #[.val (.long x0), .second, .val (.int x1), .val (.int (5 : Int32)), .val (.ref o3), .val (.long (own_U k4)), .second, .unset, .unset] []) (fun _ kz => XS.icmpNo X45.here hx rfl (hb hby at_178) rfl (tlt (by decide)).2.2.2 kz) ?_
    refine own_g (mkF m 183 #[.val (.long x0), .second, .val (.int x1), .val (.int (5 : Int32)), .val (.ref o3), .val (.long (own_U k4)), .second, .unset, .unset] [(.long (own_U k4))]) (fun _ kz => XS.lload X45.here hx rfl (hb hby at_181) rfl kz) ?_
    refine own_g (mkF m 184 #[.val (.long x0), .second, .val (.int x1), .val (.int (5 : Int32)), .val (.ref o3), .val (.long (own_U k4)), .second, .unset, .unset] [(.long x0), (.long (own_U k4))]) (fun _ kz => XS.lloadN X45.here hx rfl (hb hby at_183) rfl kz) ?_
    refine own_g (mkF m 186 #[.val (.long x0), .second, .val (.int x1), .val (.int (5 : Int32)), .val (.ref o3), .val (.long (own_U k4)), .second, .unset, .unset] [(.int (32 : Int32)), (.long x0), (.long (own_U k4))]) (fun _ kz => XS.bipush X45.here hx rfl (hb hby at_184) kz) ?_
    refine own_g (mkF m 187 #[.val (.long x0), .second, .val (.int x1), .val (.int (5 : Int32)), .val (.ref o3), .val (.long (own_U k4)), .second, .unset, .unset] [(.long ((x0.toUInt64 >>> ((32 : Int32) &&& 0x3f).toInt64.toUInt64).toInt64)), (.long (own_U k4))]) (fun _ kz => XS.lushr X45.here hx rfl (hb hby at_186) rfl kz) ?_
    refine own_g (mkF m 190 #[.val (.long x0), .second, .val (.int x1), .val (.int (5 : Int32)), .val (.ref o3), .val (.long (own_U k4)), .second, .unset, .unset] [(.long (255 : Int64)), (.long ((x0.toUInt64 >>> ((32 : Int32) &&& 0x3f).toInt64.toUInt64).toInt64)), (.long (own_U k4))]) (fun _ kz => X45.ldc2Long hx hown (mvT hZ (own_w hw 2 rfl)) (g := (mkF m 187 #[.val (.long x0), .second, .val (.int x1), .val (.int (5 : Int32)), .val (.ref o3), .val (.long (own_U k4)), .second, .unset, .unset] [(.long ((x0.toUInt64 >>> ((32 : Int32) &&& 0x3f).toInt64.toUInt64).toInt64)), (.long (own_U k4))])) rfl (hb hby at_187) _ kz) ?_
    refine own_g (mkF m 191 #[.val (.long x0), .second, .val (.int x1), .val (.int (5 : Int32)), .val (.ref o3), .val (.long (own_U k4)), .second, .unset, .unset] [(.long (((x0.toUInt64 >>> ((32 : Int32) &&& 0x3f).toInt64.toUInt64).toInt64) &&& (255 : Int64))), (.long (own_U k4))]) (fun _ kz => XS.land X45.here hx rfl (hb hby at_190) rfl kz) ?_
    refine own_g (mkF m 192 #[.val (.long x0), .second, .val (.int x1), .val (.int (5 : Int32)), .val (.ref o3), .val (.long (own_U k4)), .second, .unset, .unset] [(.int (((x0.toUInt64 >>> ((32 : Int32) &&& 0x3f).toInt64.toUInt64).toInt64) &&& (255 : Int64)).toInt32), (.long (own_U k4))]) (fun _ kz => XS.l2i X45.here hx rfl (hb hby at_191) rfl kz) ?_
    refine own_callS (rest := []) (as := [(.long (own_U k4)), (.int (((x0.toUInt64 >>> ((32 : Int32) &&& 0x3f).toInt64.toUInt64).toInt64) &&& (255 : Int64)).toInt32)]) X45 hx hZ hown e45 (own_c_step l Z a0 hw (own_U k4) (((x0.toUInt64 >>> ((32 : Int32) &&& 0x3f).toInt64.toUInt64).toInt64) &&& (255 : Int64)).toInt32 h20) (own_w hw 3 rfl) (own_w hw 4 rfl) (own_w hw 5 rfl) (own_w hw 6 rfl) (by decide) own_pd3 rfl (by rw [hml]; rfl) rfl (hb hby at_192) 0 (by show 2 * 0 + _ ≤ _; exact Nat.le_of_eq rfl) (by decide) (by decide) (by decide) (by decide) ?_
    rintro _ T46 L46 X46 ⟨rfl, rfl, e46⟩
    have N46 := Fr.app N45 (Fr.nil n0)
    show own_E p e below _ (T46.setTop (mkF m 195 #[.val (.long x0), .second, .val (.int x1), .val (.int (5 : Int32)), .val (.ref o3), .val (.long (own_U k4)), .second, .unset, .unset] [(.long (own_step (own_U k4) (((x0.toUInt64 >>> ((32 : Int32) &&& 0x3f).toInt64.toUInt64).toInt64) &&& (255 : Int64)).toInt32))]))
    obtain ⟨k5, hk5, qk5⟩ : ∃ z, z = own_o2 k4 (own_b ((x0.toUInt64 >>> ((32 : Int32) &&& 0x3f).toInt64.toUInt64).toInt64)) ∧ own_step (own_U k4) (((x0.toUInt64 >>> ((32 : Int32) &&& 0x3f).toInt64.toUInt64).toInt64) &&& (255 : Int64)).toInt32 = own_U z := ⟨_, rfl, own_st k4 ((x0.toUInt64 >>> ((32 : Int32) &&& 0x3f).toInt64.toUInt64).toInt64)⟩
    rw [qk5]
    show own_E p e below _ (T46.setTop (mkF m 195 #[.val (.long x0), .second, .val (.int x1), .val (.int (5 : Int32)), .val (.ref o3), .val (.long (own_U k4)), .second, .unset, .unset] [(.long (own_U k5))]))
    refine own_g (mkF m 197 #[.val (.long x0), .second, .val (.int x1), .val (.int (5 : Int32)), .val (.ref o3), .val (.long (own_U k5)), .second, .unset, .unset] []) (fun _ kz => XS.lstore X46.here hx rfl (hb hby at_195) rfl (l' := #[.val (.long x0), .second, .val (.int x1), .val (.int (5 : Int32)), .val (.ref o3), .val (.long (own_U k5)), .second, .unset, .unset]) rfl kz) ?_
    refine own_g (mkF m 198 #[.val (.long x0), .second, .val (.int x1), .val (.int (5 : Int32)), .val (.ref o3), .val (.long (own_U k5)), .second, .unset, .unset] [(.int (5 : Int32))]) (fun _ kz => XS.iloadN X46.here hx rfl (hb hby at_197) rfl kz) ?_
    refine own_g (mkF m 199 #[.val (.long x0), .second, .val (.int x1), .val (.int (5 : Int32)), .val (.ref o3), .val (.long (own_U k5)), .second, .unset, .unset] [(.int (5 : Int32)), (.int (5 : Int32))]) (fun _ kz => XS.iconst X46.here hx rfl (hb hby at_198) kz) ?_
    refine own_g (mkF m 218 #[.val (.long x0), .second, .val (.int x1), .val (.int (5 : Int32)), .val (.ref o3), .val (.long (own_U k5)), .second, .unset, .unset] []) (fun _ kz => XS.icmpYes X46.here hx rfl (pc0 := 199) (pc' := 218) rfl (hb hby at_199) rfl (flt (by decide)).2.2.2 (by decide) (by decide) kz) ?_
    refine own_g (mkF m 219 #[.val (.long x0), .second, .val (.int x1), .val (.int (5 : Int32)), .val (.ref o3), .val (.long (own_U k5)), .second, .unset, .unset] [(.int (5 : Int32))]) (fun _ kz => XS.iloadN X46.here hx rfl (hb hby at_218) rfl kz) ?_
    refine own_g (mkF m 221 #[.val (.long x0), .second, .val (.int x1), .val (.int (5 : Int32)), .val (.ref o3), .val (.long (own_U k5)), .second, .unset, .unset] [(.int (6 : Int32)), (.int (5 : Int32))]) (fun _ kz => XS.bipush X46.here hx rfl (hb hby at_219) kz) ?_
    refine own_g (mkF m 240 #[.val (.long x0), .second, .val (.int x1), .val (.int (5 : Int32)), .val (.ref o3), .val (.long (own_U k5)), .second, .unset, .unset] []) (fun _ kz => XS.icmpYes X46.here hx rfl (pc0 := 221) (pc' := 240) rfl (hb hby at_221) rfl (flt (by decide)).2.2.2 (by decide) (by decide) kz) ?_
    refine own_g (mkF m 241 #[.val (.long x0), .second, .val (.int x1), .val (.int (5 : Int32)), .val (.ref o3), .val (.long (own_U k5)), .second, .unset, .unset] [(.int (5 : Int32))]) (fun _ kz => XS.iloadN X46.here hx rfl (hb hby at_240) rfl kz) ?_
    refine own_g (mkF m 243 #[.val (.long x0), .second, .val (.int x1), .val (.int (5 : Int32)), .val (.ref o3), .val (.long (own_U k5)), .second, .unset, .unset] [(.int (7 : Int32)), (.int (5 : Int32))]) (fun _ kz => XS.bipush X46.here hx rfl (hb hby at_241) kz) ?_
    refine own_g (mkF m 262 #[.val (.long x0), .second, .val (.int x1), .val (.int (5 : Int32)), .val (.ref o3), .val (.long (own_U k5)), .second, .unset, .unset] []) (fun _ kz => XS.icmpYes X46.here hx rfl (pc0 := 243) (pc' := 262) rfl (hb hby at_243) rfl (flt (by decide)).2.2.2 (by decide) (by decide) kz) ?_
    refine own_g (mkF m 264 #[.val (.long x0), .second, .val (.int x1), .val (.int (5 : Int32)), .val (.ref o3), .val (.long (own_U k5)), .second, .unset, .unset] [(.long (own_U k5))]) (fun _ kz => XS.lload X46.here hx rfl (hb hby at_262) rfl kz) ?_
    refine own_callS (rest := []) (as := [(.long (own_U k5))]) X46 hx hZ hown e46 (own_c_fin l Z a0 hw (own_U k5) h20) (own_w hw 9 rfl) (own_w hw 10 rfl) (own_w hw 5 rfl) (own_w hw 11 rfl) (by decide) own_pd1 rfl (by rw [hml]; rfl) rfl (hb hby at_264) 0 (by show 2 * 0 + _ ≤ _; exact Nat.le_of_eq rfl) (by decide) (by decide) (by decide) (by decide) ?_
    rintro _ T47 L47 X47 ⟨rfl, rfl, e47⟩
    have N47 := Fr.app N46 (Fr.nil n0)
    show own_E p e below _ (T47.setTop (mkF m 267 #[.val (.long x0), .second, .val (.int x1), .val (.int (5 : Int32)), .val (.ref o3), .val (.long (own_U k5)), .second, .unset, .unset] [(.long (own_fin (own_U k5)))]))
    refine own_g (mkF m 269 #[.val (.long x0), .second, .val (.int x1), .val (.int (5 : Int32)), .val (.ref o3), .val (.long (own_U k5)), .second, .val (.long (own_fin (own_U k5))), .second] []) (fun _ kz => XS.lstore X47.here hx rfl (hb hby at_267) rfl (l' := #[.val (.long x0), .second, .val (.int x1), .val (.int (5 : Int32)), .val (.ref o3), .val (.long (own_U k5)), .second, .val (.long (own_fin (own_U k5))), .second]) rfl kz) ?_
    refine own_g (mkF m 271 #[.val (.long x0), .second, .val (.int x1), .val (.int (5 : Int32)), .val (.ref o3), .val (.long (own_U k5)), .second, .val (.long (own_fin (own_U k5))), .second] [(.ref o3)]) (fun _ kz => XS.aload X47.here hx rfl (hb hby at_269) rfl rfl kz) ?_
    refine own_g (mkF m 272 #[.val (.long x0), .second, .val (.int x1), .val (.int (5 : Int32)), .val (.ref o3), .val (.long (own_U k5)), .second, .val (.long (own_fin (own_U k5))), .second] [(.int (5 : Int32)), (.ref o3)]) (fun _ kz => XS.iloadN X47.here hx rfl (hb hby at_271) rfl kz) ?_
    refine own_callS (rest := []) (as := [(.ref o3), (.int (5 : Int32))]) X47 hx hZ hown e47 (own_c_oat l Z a0 hw o3 5 F h20 (by decide) AF) (own_w hw 14 rfl) (own_w hw 15 rfl) (own_w hw 16 rfl) (own_w hw 17 rfl) (by decide) own_pd2 rfl (by rw [hml]; rfl) rfl (hb hby at_272) 0 (by show 2 * 0 + _ ≤ _; exact Nat.le_of_eq rfl) (by decide) (by decide) (by decide) (by decide) ?_
    rintro _ T48 L48 X48 ⟨rfl, rfl, e48⟩
    have N48 := Fr.app N47 (Fr.nil n0)
    show own_E p e below _ (T48.setTop (mkF m 275 #[.val (.long x0), .second, .val (.int x1), .val (.int (5 : Int32)), .val (.ref o3), .val (.long (own_U k5)), .second, .val (.long (own_fin (own_U k5))), .second] [(.long (own_U (own_g3 (own_fold F 5 0 0))))]))
    refine own_g (mkF m 277 #[.val (.long x0), .second, .val (.int x1), .val (.int (5 : Int32)), .val (.ref o3), .val (.long (own_U k5)), .second, .val (.long (own_fin (own_U k5))), .second] [(.long (own_fin (own_U k5))), (.long (own_U (own_g3 (own_fold F 5 0 0))))]) (fun _ kz => XS.lload X48.here hx rfl (hb hby at_275) rfl kz) ?_
    refine own_g (mkF m 278 #[.val (.long x0), .second, .val (.int x1), .val (.int (5 : Int32)), .val (.ref o3), .val (.long (own_U k5)), .second, .val (.long (own_fin (own_U k5))), .second] [(.int (lcmpW (own_U (own_g3 (own_fold F 5 0 0))) (own_fin (own_U k5))))]) (fun _ kz => XS.lcmp X48.here hx rfl (hb hby at_277) rfl kz) ?_
    refine own_g (mkF m 281 #[.val (.long x0), .second, .val (.int x1), .val (.int (5 : Int32)), .val (.ref o3), .val (.long (own_U k5)), .second, .val (.long (own_fin (own_U k5))), .second] []) (fun _ kz => XS.ifNo X48.here hx rfl (hb hby at_278) rfl ((if0 _ _).trans (teq (own_lcT (by rw [own_fi]; simp only [own_fold, hF0, hk1, hF1, hk2, hF2, hk3, hF3, hk4, hF4, hk5]))).2) kz) ?_
    refine own_g (mkF m 282 #[.val (.long x0), .second, .val (.int x1), .val (.int (5 : Int32)), .val (.ref o3), .val (.long (own_U k5)), .second, .val (.long (own_fin (own_U k5))), .second] [(.int (1 : Int32))]) (fun _ kz => XS.iconst X48.here hx rfl (hb hby at_281) kz) ?_
    refine own_g (mkF m 286 #[.val (.long x0), .second, .val (.int x1), .val (.int (5 : Int32)), .val (.ref o3), .val (.long (own_U k5)), .second, .val (.long (own_fin (own_U k5))), .second] [(.int (1 : Int32))]) (fun _ kz => XS.goto X48.here hx rfl (pc0 := 282) (pc' := 286) rfl (hb hby at_282) (by decide) (by decide) kz) ?_
    exact own_retZ X48 hx hret hlk (hb hby at_286) rfl (by decide) (by decide) (by first | exact ⟨rfl, N48⟩ | (rw [e48]; exact ⟨rfl, N48⟩))
  | 6, _ =>
    show own_E p e below _ (T20.setTop (mkF m 96 #[.val (.long x0), .second, .val (.int x1), .val (.int (6 : Int32)), .val (.ref o3), .val (.long (own_U (0 : Int32))), .second, .unset, .unset] []))
    refine own_g (mkF m 97 #[.val (.long x0), .second, .val (.int x1), .val (.int (6 : Int32)), .val (.ref o3), .val (.long (own_U (0 : Int32))), .second, .unset, .unset] [(.int (6 : Int32))]) (fun _ kz => XS.iloadN X20.here hx rfl (hb hby at_96) rfl kz) ?_
    refine own_g (mkF m 100 #[.val (.long x0), .second, .val (.int x1), .val (.int (6 : Int32)), .val (.ref o3), .val (.long (own_U (0 : Int32))), .second, .unset, .unset] []) (fun _ kz => XS.ifNo X20.here hx rfl (hb hby at_97) rfl ((if0 _ _).trans (tlt (by decide)).2.2.2) kz) ?_
    refine own_g (mkF m 102 #[.val (.long x0), .second, .val (.int x1), .val (.int (6 : Int32)), .val (.ref o3), .val (.long (own_U (0 : Int32))), .second, .unset, .unset] [(.long (own_U (0 : Int32)))]) (fun _ kz => XS.lload X20.here hx rfl (hb hby at_100) rfl kz) ?_
    refine own_g (mkF m 103 #[.val (.long x0), .second, .val (.int x1), .val (.int (6 : Int32)), .val (.ref o3), .val (.long (own_U (0 : Int32))), .second, .unset, .unset] [(.long x0), (.long (own_U (0 : Int32)))]) (fun _ kz => XS.lloadN X20.here hx rfl (hb hby at_102) rfl kz) ?_
    refine own_g (mkF m 106 #[.val (.long x0), .second, .val (.int x1), .val (.int (6 : Int32)), .val (.ref o3), .val (.long (own_U (0 : Int32))), .second, .unset, .unset] [(.long (255 : Int64)), (.long x0), (.long (own_U (0 : Int32)))]) (fun _ kz => X20.ldc2Long hx hown (mvT hZ (own_w hw 2 rfl)) (g := (mkF m 103 #[.val (.long x0), .second, .val (.int x1), .val (.int (6 : Int32)), .val (.ref o3), .val (.long (own_U (0 : Int32))), .second, .unset, .unset] [(.long x0), (.long (own_U (0 : Int32)))])) rfl (hb hby at_103) _ kz) ?_
    refine own_g (mkF m 107 #[.val (.long x0), .second, .val (.int x1), .val (.int (6 : Int32)), .val (.ref o3), .val (.long (own_U (0 : Int32))), .second, .unset, .unset] [(.long (x0 &&& (255 : Int64))), (.long (own_U (0 : Int32)))]) (fun _ kz => XS.land X20.here hx rfl (hb hby at_106) rfl kz) ?_
    refine own_g (mkF m 108 #[.val (.long x0), .second, .val (.int x1), .val (.int (6 : Int32)), .val (.ref o3), .val (.long (own_U (0 : Int32))), .second, .unset, .unset] [(.int (x0 &&& (255 : Int64)).toInt32), (.long (own_U (0 : Int32)))]) (fun _ kz => XS.l2i X20.here hx rfl (hb hby at_107) rfl kz) ?_
    refine own_callS (rest := []) (as := [(.long (own_U (0 : Int32))), (.int (x0 &&& (255 : Int64)).toInt32)]) X20 hx hZ hown e20 (own_c_step l Z a0 hw (own_U (0 : Int32)) (x0 &&& (255 : Int64)).toInt32 h20) (own_w hw 3 rfl) (own_w hw 4 rfl) (own_w hw 5 rfl) (own_w hw 6 rfl) (by decide) own_pd3 rfl (by rw [hml]; rfl) rfl (hb hby at_108) 0 (by show 2 * 0 + _ ≤ _; exact Nat.le_of_eq rfl) (by decide) (by decide) (by decide) (by decide) ?_
    rintro _ T49 L49 X49 ⟨rfl, rfl, e49⟩
    have N49 := Fr.app N20 (Fr.nil n0)
    show own_E p e below _ (T49.setTop (mkF m 111 #[.val (.long x0), .second, .val (.int x1), .val (.int (6 : Int32)), .val (.ref o3), .val (.long (own_U (0 : Int32))), .second, .unset, .unset] [(.long (own_step (own_U (0 : Int32)) (x0 &&& (255 : Int64)).toInt32))]))
    obtain ⟨k1, hk1, qk1⟩ : ∃ z, z = own_o2 (0 : Int32) (own_b x0) ∧ own_step (own_U (0 : Int32)) (x0 &&& (255 : Int64)).toInt32 = own_U z := ⟨_, rfl, own_st (0 : Int32) x0⟩
    rw [qk1]
    show own_E p e below _ (T49.setTop (mkF m 111 #[.val (.long x0), .second, .val (.int x1), .val (.int (6 : Int32)), .val (.ref o3), .val (.long (own_U (0 : Int32))), .second, .unset, .unset] [(.long (own_U k1))]))
    refine own_g (mkF m 113 #[.val (.long x0), .second, .val (.int x1), .val (.int (6 : Int32)), .val (.ref o3), .val (.long (own_U k1)), .second, .unset, .unset] []) (fun _ kz => XS.lstore X49.here hx rfl (hb hby at_111) rfl (l' := #[.val (.long x0), .second, .val (.int x1), .val (.int (6 : Int32)), .val (.ref o3), .val (.long (own_U k1)), .second, .unset, .unset]) rfl kz) ?_
    refine own_g (mkF m 114 #[.val (.long x0), .second, .val (.int x1), .val (.int (6 : Int32)), .val (.ref o3), .val (.long (own_U k1)), .second, .unset, .unset] [(.int (6 : Int32))]) (fun _ kz => XS.iloadN X49.here hx rfl (hb hby at_113) rfl kz) ?_
    refine own_g (mkF m 115 #[.val (.long x0), .second, .val (.int x1), .val (.int (6 : Int32)), .val (.ref o3), .val (.long (own_U k1)), .second, .unset, .unset] [(.int (1 : Int32)), (.int (6 : Int32))]) (fun _ kz => XS.iconst X49.here hx rfl (hb hby at_114) kz) ?_
    refine own_g (mkF m 118 #[.val (.long x0), .second, .val (.int x1), .val (.int (6 : Int32)), .val (.ref o3), .val (.long (own_U k1)), .second, .unset, .unset] []) (fun _ kz => XS.icmpNo X49.here hx rfl (hb hby at_115) rfl (tlt (by decide)).2.2.2 kz) ?_
    refine own_g (mkF m 120 #[.val (.long x0), .second, .val (.int x1), .val (.int (6 : Int32)), .val (.ref o3), .val (.long (own_U k1)), .second, .unset, .unset] [(.long (own_U k1))]) (fun _ kz => XS.lload X49.here hx rfl (hb hby at_118) rfl kz) ?_
    refine own_g (mkF m 121 #[.val (.long x0), .second, .val (.int x1), .val (.int (6 : Int32)), .val (.ref o3), .val (.long (own_U k1)), .second, .unset, .unset] [(.long x0), (.long (own_U k1))]) (fun _ kz => XS.lloadN X49.here hx rfl (hb hby at_120) rfl kz) ?_
    refine own_g (mkF m 123 #[.val (.long x0), .second, .val (.int x1), .val (.int (6 : Int32)), .val (.ref o3), .val (.long (own_U k1)), .second, .unset, .unset] [(.int (8 : Int32)), (.long x0), (.long (own_U k1))]) (fun _ kz => XS.bipush X49.here hx rfl (hb hby at_121) kz) ?_
    refine own_g (mkF m 124 #[.val (.long x0), .second, .val (.int x1), .val (.int (6 : Int32)), .val (.ref o3), .val (.long (own_U k1)), .second, .unset, .unset] [(.long ((x0.toUInt64 >>> ((8 : Int32) &&& 0x3f).toInt64.toUInt64).toInt64)), (.long (own_U k1))]) (fun _ kz => XS.lushr X49.here hx rfl (hb hby at_123) rfl kz) ?_
    refine own_g (mkF m 127 #[.val (.long x0), .second, .val (.int x1), .val (.int (6 : Int32)), .val (.ref o3), .val (.long (own_U k1)), .second, .unset, .unset] [(.long (255 : Int64)), (.long ((x0.toUInt64 >>> ((8 : Int32) &&& 0x3f).toInt64.toUInt64).toInt64)), (.long (own_U k1))]) (fun _ kz => X49.ldc2Long hx hown (mvT hZ (own_w hw 2 rfl)) (g := (mkF m 124 #[.val (.long x0), .second, .val (.int x1), .val (.int (6 : Int32)), .val (.ref o3), .val (.long (own_U k1)), .second, .unset, .unset] [(.long ((x0.toUInt64 >>> ((8 : Int32) &&& 0x3f).toInt64.toUInt64).toInt64)), (.long (own_U k1))])) rfl (hb hby at_124) _ kz) ?_
    refine own_g (mkF m 128 #[.val (.long x0), .second, .val (.int x1), .val (.int (6 : Int32)), .val (.ref o3), .val (.long (own_U k1)), .second, .unset, .unset] [(.long (((x0.toUInt64 >>> ((8 : Int32) &&& 0x3f).toInt64.toUInt64).toInt64) &&& (255 : Int64))), (.long (own_U k1))]) (fun _ kz => XS.land X49.here hx rfl (hb hby at_127) rfl kz) ?_
    refine own_g (mkF m 129 #[.val (.long x0), .second, .val (.int x1), .val (.int (6 : Int32)), .val (.ref o3), .val (.long (own_U k1)), .second, .unset, .unset] [(.int (((x0.toUInt64 >>> ((8 : Int32) &&& 0x3f).toInt64.toUInt64).toInt64) &&& (255 : Int64)).toInt32), (.long (own_U k1))]) (fun _ kz => XS.l2i X49.here hx rfl (hb hby at_128) rfl kz) ?_
    refine own_callS (rest := []) (as := [(.long (own_U k1)), (.int (((x0.toUInt64 >>> ((8 : Int32) &&& 0x3f).toInt64.toUInt64).toInt64) &&& (255 : Int64)).toInt32)]) X49 hx hZ hown e49 (own_c_step l Z a0 hw (own_U k1) (((x0.toUInt64 >>> ((8 : Int32) &&& 0x3f).toInt64.toUInt64).toInt64) &&& (255 : Int64)).toInt32 h20) (own_w hw 3 rfl) (own_w hw 4 rfl) (own_w hw 5 rfl) (own_w hw 6 rfl) (by decide) own_pd3 rfl (by rw [hml]; rfl) rfl (hb hby at_129) 0 (by show 2 * 0 + _ ≤ _; exact Nat.le_of_eq rfl) (by decide) (by decide) (by decide) (by decide) ?_
    rintro _ T50 L50 X50 ⟨rfl, rfl, e50⟩
    have N50 := Fr.app N49 (Fr.nil n0)
    show own_E p e below _ (T50.setTop (mkF m 132 #[.val (.long x0), .second, .val (.int x1), .val (.int (6 : Int32)), .val (.ref o3), .val (.long (own_U k1)), .second, .unset, .unset] [(.long (own_step (own_U k1) (((x0.toUInt64 >>> ((8 : Int32) &&& 0x3f).toInt64.toUInt64).toInt64) &&& (255 : Int64)).toInt32))]))
    obtain ⟨k2, hk2, qk2⟩ : ∃ z, z = own_o2 k1 (own_b ((x0.toUInt64 >>> ((8 : Int32) &&& 0x3f).toInt64.toUInt64).toInt64)) ∧ own_step (own_U k1) (((x0.toUInt64 >>> ((8 : Int32) &&& 0x3f).toInt64.toUInt64).toInt64) &&& (255 : Int64)).toInt32 = own_U z := ⟨_, rfl, own_st k1 ((x0.toUInt64 >>> ((8 : Int32) &&& 0x3f).toInt64.toUInt64).toInt64)⟩
    rw [qk2]
    show own_E p e below _ (T50.setTop (mkF m 132 #[.val (.long x0), .second, .val (.int x1), .val (.int (6 : Int32)), .val (.ref o3), .val (.long (own_U k1)), .second, .unset, .unset] [(.long (own_U k2))]))
    refine own_g (mkF m 134 #[.val (.long x0), .second, .val (.int x1), .val (.int (6 : Int32)), .val (.ref o3), .val (.long (own_U k2)), .second, .unset, .unset] []) (fun _ kz => XS.lstore X50.here hx rfl (hb hby at_132) rfl (l' := #[.val (.long x0), .second, .val (.int x1), .val (.int (6 : Int32)), .val (.ref o3), .val (.long (own_U k2)), .second, .unset, .unset]) rfl kz) ?_
    refine own_g (mkF m 135 #[.val (.long x0), .second, .val (.int x1), .val (.int (6 : Int32)), .val (.ref o3), .val (.long (own_U k2)), .second, .unset, .unset] [(.int (6 : Int32))]) (fun _ kz => XS.iloadN X50.here hx rfl (hb hby at_134) rfl kz) ?_
    refine own_g (mkF m 136 #[.val (.long x0), .second, .val (.int x1), .val (.int (6 : Int32)), .val (.ref o3), .val (.long (own_U k2)), .second, .unset, .unset] [(.int (2 : Int32)), (.int (6 : Int32))]) (fun _ kz => XS.iconst X50.here hx rfl (hb hby at_135) kz) ?_
    refine own_g (mkF m 139 #[.val (.long x0), .second, .val (.int x1), .val (.int (6 : Int32)), .val (.ref o3), .val (.long (own_U k2)), .second, .unset, .unset] []) (fun _ kz => XS.icmpNo X50.here hx rfl (hb hby at_136) rfl (tlt (by decide)).2.2.2 kz) ?_
    refine own_g (mkF m 141 #[.val (.long x0), .second, .val (.int x1), .val (.int (6 : Int32)), .val (.ref o3), .val (.long (own_U k2)), .second, .unset, .unset] [(.long (own_U k2))]) (fun _ kz => XS.lload X50.here hx rfl (hb hby at_139) rfl kz) ?_
    refine own_g (mkF m 142 #[.val (.long x0), .second, .val (.int x1), .val (.int (6 : Int32)), .val (.ref o3), .val (.long (own_U k2)), .second, .unset, .unset] [(.long x0), (.long (own_U k2))]) (fun _ kz => XS.lloadN X50.here hx rfl (hb hby at_141) rfl kz) ?_
    refine own_g (mkF m 144 #[.val (.long x0), .second, .val (.int x1), .val (.int (6 : Int32)), .val (.ref o3), .val (.long (own_U k2)), .second, .unset, .unset] [(.int (16 : Int32)), (.long x0), (.long (own_U k2))]) (fun _ kz => XS.bipush X50.here hx rfl (hb hby at_142) kz) ?_
    refine own_g (mkF m 145 #[.val (.long x0), .second, .val (.int x1), .val (.int (6 : Int32)), .val (.ref o3), .val (.long (own_U k2)), .second, .unset, .unset] [(.long ((x0.toUInt64 >>> ((16 : Int32) &&& 0x3f).toInt64.toUInt64).toInt64)), (.long (own_U k2))]) (fun _ kz => XS.lushr X50.here hx rfl (hb hby at_144) rfl kz) ?_
    refine own_g (mkF m 148 #[.val (.long x0), .second, .val (.int x1), .val (.int (6 : Int32)), .val (.ref o3), .val (.long (own_U k2)), .second, .unset, .unset] [(.long (255 : Int64)), (.long ((x0.toUInt64 >>> ((16 : Int32) &&& 0x3f).toInt64.toUInt64).toInt64)), (.long (own_U k2))]) (fun _ kz => X50.ldc2Long hx hown (mvT hZ (own_w hw 2 rfl)) (g := (mkF m 145 #[.val (.long x0), .second, .val (.int x1), .val (.int (6 : Int32)), .val (.ref o3), .val (.long (own_U k2)), .second, .unset, .unset] [(.long ((x0.toUInt64 >>> ((16 : Int32) &&& 0x3f).toInt64.toUInt64).toInt64)), (.long (own_U k2))])) rfl (hb hby at_145) _ kz) ?_
    refine own_g (mkF m 149 #[.val (.long x0), .second, .val (.int x1), .val (.int (6 : Int32)), .val (.ref o3), .val (.long (own_U k2)), .second, .unset, .unset] [(.long (((x0.toUInt64 >>> ((16 : Int32) &&& 0x3f).toInt64.toUInt64).toInt64) &&& (255 : Int64))), (.long (own_U k2))]) (fun _ kz => XS.land X50.here hx rfl (hb hby at_148) rfl kz) ?_
    refine own_g (mkF m 150 #[.val (.long x0), .second, .val (.int x1), .val (.int (6 : Int32)), .val (.ref o3), .val (.long (own_U k2)), .second, .unset, .unset] [(.int (((x0.toUInt64 >>> ((16 : Int32) &&& 0x3f).toInt64.toUInt64).toInt64) &&& (255 : Int64)).toInt32), (.long (own_U k2))]) (fun _ kz => XS.l2i X50.here hx rfl (hb hby at_149) rfl kz) ?_
    refine own_callS (rest := []) (as := [(.long (own_U k2)), (.int (((x0.toUInt64 >>> ((16 : Int32) &&& 0x3f).toInt64.toUInt64).toInt64) &&& (255 : Int64)).toInt32)]) X50 hx hZ hown e50 (own_c_step l Z a0 hw (own_U k2) (((x0.toUInt64 >>> ((16 : Int32) &&& 0x3f).toInt64.toUInt64).toInt64) &&& (255 : Int64)).toInt32 h20) (own_w hw 3 rfl) (own_w hw 4 rfl) (own_w hw 5 rfl) (own_w hw 6 rfl) (by decide) own_pd3 rfl (by rw [hml]; rfl) rfl (hb hby at_150) 0 (by show 2 * 0 + _ ≤ _; exact Nat.le_of_eq rfl) (by decide) (by decide) (by decide) (by decide) ?_
    rintro _ T51 L51 X51 ⟨rfl, rfl, e51⟩
    have N51 := Fr.app N50 (Fr.nil n0)
    show own_E p e below _ (T51.setTop (mkF m 153 #[.val (.long x0), .second, .val (.int x1), .val (.int (6 : Int32)), .val (.ref o3), .val (.long (own_U k2)), .second, .unset, .unset] [(.long (own_step (own_U k2) (((x0.toUInt64 >>> ((16 : Int32) &&& 0x3f).toInt64.toUInt64).toInt64) &&& (255 : Int64)).toInt32))]))
    obtain ⟨k3, hk3, qk3⟩ : ∃ z, z = own_o2 k2 (own_b ((x0.toUInt64 >>> ((16 : Int32) &&& 0x3f).toInt64.toUInt64).toInt64)) ∧ own_step (own_U k2) (((x0.toUInt64 >>> ((16 : Int32) &&& 0x3f).toInt64.toUInt64).toInt64) &&& (255 : Int64)).toInt32 = own_U z := ⟨_, rfl, own_st k2 ((x0.toUInt64 >>> ((16 : Int32) &&& 0x3f).toInt64.toUInt64).toInt64)⟩
    rw [qk3]
    show own_E p e below _ (T51.setTop (mkF m 153 #[.val (.long x0), .second, .val (.int x1), .val (.int (6 : Int32)), .val (.ref o3), .val (.long (own_U k2)), .second, .unset, .unset] [(.long (own_U k3))]))
    refine own_g (mkF m 155 #[.val (.long x0), .second, .val (.int x1), .val (.int (6 : Int32)), .val (.ref o3), .val (.long (own_U k3)), .second, .unset, .unset] []) (fun _ kz => XS.lstore X51.here hx rfl (hb hby at_153) rfl (l' := #[.val (.long x0), .second, .val (.int x1), .val (.int (6 : Int32)), .val (.ref o3), .val (.long (own_U k3)), .second, .unset, .unset]) rfl kz) ?_
    refine own_g (mkF m 156 #[.val (.long x0), .second, .val (.int x1), .val (.int (6 : Int32)), .val (.ref o3), .val (.long (own_U k3)), .second, .unset, .unset] [(.int (6 : Int32))]) (fun _ kz => XS.iloadN X51.here hx rfl (hb hby at_155) rfl kz) ?_
    refine own_g (mkF m 157 #[.val (.long x0), .second, .val (.int x1), .val (.int (6 : Int32)), .val (.ref o3), .val (.long (own_U k3)), .second, .unset, .unset] [(.int (3 : Int32)), (.int (6 : Int32))]) (fun _ kz => XS.iconst X51.here hx rfl (hb hby at_156) kz) ?_
    refine own_g (mkF m 160 #[.val (.long x0), .second, .val (.int x1), .val (.int (6 : Int32)), .val (.ref o3), .val (.long (own_U k3)), .second, .unset, .unset] []) (fun _ kz => XS.icmpNo X51.here hx rfl (hb hby at_157) rfl (tlt (by decide)).2.2.2 kz) ?_
    refine own_g (mkF m 162 #[.val (.long x0), .second, .val (.int x1), .val (.int (6 : Int32)), .val (.ref o3), .val (.long (own_U k3)), .second, .unset, .unset] [(.long (own_U k3))]) (fun _ kz => XS.lload X51.here hx rfl (hb hby at_160) rfl kz) ?_
    refine own_g (mkF m 163 #[.val (.long x0), .second, .val (.int x1), .val (.int (6 : Int32)), .val (.ref o3), .val (.long (own_U k3)), .second, .unset, .unset] [(.long x0), (.long (own_U k3))]) (fun _ kz => XS.lloadN X51.here hx rfl (hb hby at_162) rfl kz) ?_
    refine own_g (mkF m 165 #[.val (.long x0), .second, .val (.int x1), .val (.int (6 : Int32)), .val (.ref o3), .val (.long (own_U k3)), .second, .unset, .unset] [(.int (24 : Int32)), (.long x0), (.long (own_U k3))]) (fun _ kz => XS.bipush X51.here hx rfl (hb hby at_163) kz) ?_
    refine own_g (mkF m 166 #[.val (.long x0), .second, .val (.int x1), .val (.int (6 : Int32)), .val (.ref o3), .val (.long (own_U k3)), .second, .unset, .unset] [(.long ((x0.toUInt64 >>> ((24 : Int32) &&& 0x3f).toInt64.toUInt64).toInt64)), (.long (own_U k3))]) (fun _ kz => XS.lushr X51.here hx rfl (hb hby at_165) rfl kz) ?_
    refine own_g (mkF m 169 #[.val (.long x0), .second, .val (.int x1), .val (.int (6 : Int32)), .val (.ref o3), .val (.long (own_U k3)), .second, .unset, .unset] [(.long (255 : Int64)), (.long ((x0.toUInt64 >>> ((24 : Int32) &&& 0x3f).toInt64.toUInt64).toInt64)), (.long (own_U k3))]) (fun _ kz => X51.ldc2Long hx hown (mvT hZ (own_w hw 2 rfl)) (g := (mkF m 166 #[.val (.long x0), .second, .val (.int x1), .val (.int (6 : Int32)), .val (.ref o3), .val (.long (own_U k3)), .second, .unset, .unset] [(.long ((x0.toUInt64 >>> ((24 : Int32) &&& 0x3f).toInt64.toUInt64).toInt64)), (.long (own_U k3))])) rfl (hb hby at_166) _ kz) ?_
    refine own_g (mkF m 170 #[.val (.long x0), .second, .val (.int x1), .val (.int (6 : Int32)), .val (.ref o3), .val (.long (own_U k3)), .second, .unset, .unset] [(.long (((x0.toUInt64 >>> ((24 : Int32) &&& 0x3f).toInt64.toUInt64).toInt64) &&& (255 : Int64))), (.long (own_U k3))]) (fun _ kz => XS.land X51.here hx rfl (hb hby at_169) rfl kz) ?_
    refine own_g (mkF m 171 #[.val (.long x0), .second, .val (.int x1), .val (.int (6 : Int32)), .val (.ref o3), .val (.long (own_U k3)), .second, .unset, .unset] [(.int (((x0.toUInt64 >>> ((24 : Int32) &&& 0x3f).toInt64.toUInt64).toInt64) &&& (255 : Int64)).toInt32), (.long (own_U k3))]) (fun _ kz => XS.l2i X51.here hx rfl (hb hby at_170) rfl kz) ?_
    refine own_callS (rest := []) (as := [(.long (own_U k3)), (.int (((x0.toUInt64 >>> ((24 : Int32) &&& 0x3f).toInt64.toUInt64).toInt64) &&& (255 : Int64)).toInt32)]) X51 hx hZ hown e51 (own_c_step l Z a0 hw (own_U k3) (((x0.toUInt64 >>> ((24 : Int32) &&& 0x3f).toInt64.toUInt64).toInt64) &&& (255 : Int64)).toInt32 h20) (own_w hw 3 rfl) (own_w hw 4 rfl) (own_w hw 5 rfl) (own_w hw 6 rfl) (by decide) own_pd3 rfl (by rw [hml]; rfl) rfl (hb hby at_171) 0 (by show 2 * 0 + _ ≤ _; exact Nat.le_of_eq rfl) (by decide) (by decide) (by decide) (by decide) ?_
    rintro _ T52 L52 X52 ⟨rfl, rfl, e52⟩
    have N52 := Fr.app N51 (Fr.nil n0)
    show own_E p e below _ (T52.setTop (mkF m 174 #[.val (.long x0), .second, .val (.int x1), .val (.int (6 : Int32)), .val (.ref o3), .val (.long (own_U k3)), .second, .unset, .unset] [(.long (own_step (own_U k3) (((x0.toUInt64 >>> ((24 : Int32) &&& 0x3f).toInt64.toUInt64).toInt64) &&& (255 : Int64)).toInt32))]))
    obtain ⟨k4, hk4, qk4⟩ : ∃ z, z = own_o2 k3 (own_b ((x0.toUInt64 >>> ((24 : Int32) &&& 0x3f).toInt64.toUInt64).toInt64)) ∧ own_step (own_U k3) (((x0.toUInt64 >>> ((24 : Int32) &&& 0x3f).toInt64.toUInt64).toInt64) &&& (255 : Int64)).toInt32 = own_U z := ⟨_, rfl, own_st k3 ((x0.toUInt64 >>> ((24 : Int32) &&& 0x3f).toInt64.toUInt64).toInt64)⟩
    rw [qk4]
    show own_E p e below _ (T52.setTop (mkF m 174 #[.val (.long x0), .second, .val (.int x1), .val (.int (6 : Int32)), .val (.ref o3), .val (.long (own_U k3)), .second, .unset, .unset] [(.long (own_U k4))]))
    refine own_g (mkF m 176 #[.val (.long x0), .second, .val (.int x1), .val (.int (6 : Int32)), .val (.ref o3), .val (.long (own_U k4)), .second, .unset, .unset] []) (fun _ kz => XS.lstore X52.here hx rfl (hb hby at_174) rfl (l' := #[.val (.long x0), .second, .val (.int x1), .val (.int (6 : Int32)), .val (.ref o3), .val (.long (own_U k4)), .second, .unset, .unset]) rfl kz) ?_
    refine own_g (mkF m 177 #[.val (.long x0), .second, .val (.int x1), .val (.int (6 : Int32)), .val (.ref o3), .val (.long (own_U k4)), .second, .unset, .unset] [(.int (6 : Int32))]) (fun _ kz => XS.iloadN X52.here hx rfl (hb hby at_176) rfl kz) ?_
    refine own_g (mkF m 178 #[.val (.long x0), .second, .val (.int x1), .val (.int (6 : Int32)), .val (.ref o3), .val (.long (own_U k4)), .second, .unset, .unset] [(.int (4 : Int32)), (.int (6 : Int32))]) (fun _ kz => XS.iconst X52.here hx rfl (hb hby at_177) kz) ?_
    refine own_g (mkF m 181 #[.val (.long x0), .second, .val (.int x1), .val (.int (6 : Int32)), .val (.ref o3), .val (.long (own_U k4)), .second, .unset, .unset] []) (fun _ kz => XS.icmpNo X52.here hx rfl (hb hby at_178) rfl (tlt (by decide)).2.2.2 kz) ?_
    refine own_g (mkF m 183 #[.val (.long x0), .second, .val (.int x1), .val (.int (6 : Int32)), .val (.ref o3), .val (.long (own_U k4)), .second, .unset, .unset] [(.long (own_U k4))]) (fun _ kz => XS.lload X52.here hx rfl (hb hby at_181) rfl kz) ?_
    refine own_g (mkF m 184 #[.val (.long x0), .second, .val (.int x1), .val (.int (6 : Int32)), .val (.ref o3), .val (.long (own_U k4)), .second, .unset, .unset] [(.long x0), (.long (own_U k4))]) (fun _ kz => XS.lloadN X52.here hx rfl (hb hby at_183) rfl kz) ?_
    refine own_g (mkF m 186 #[.val (.long x0), .second, .val (.int x1), .val (.int (6 : Int32)), .val (.ref o3), .val (.long (own_U k4)), .second, .unset, .unset] [(.int (32 : Int32)), (.long x0), (.long (own_U k4))]) (fun _ kz => XS.bipush X52.here hx rfl (hb hby at_184) kz) ?_
    refine own_g (mkF m 187 #[.val (.long x0), .second, .val (.int x1), .val (.int (6 : Int32)), .val (.ref o3), .val (.long (own_U k4)), .second, .unset, .unset] [(.long ((x0.toUInt64 >>> ((32 : Int32) &&& 0x3f).toInt64.toUInt64).toInt64)), (.long (own_U k4))]) (fun _ kz => XS.lushr X52.here hx rfl (hb hby at_186) rfl kz) ?_
    refine own_g (mkF m 190 #[.val (.long x0), .second, .val (.int x1), .val (.int (6 : Int32)), .val (.ref o3), .val (.long (own_U k4)), .second, .unset, .unset] [(.long (255 : Int64)), (.long ((x0.toUInt64 >>> ((32 : Int32) &&& 0x3f).toInt64.toUInt64).toInt64)), (.long (own_U k4))]) (fun _ kz => X52.ldc2Long hx hown (mvT hZ (own_w hw 2 rfl)) (g := (mkF m 187 #[.val (.long x0), .second, .val (.int x1), .val (.int (6 : Int32)), .val (.ref o3), .val (.long (own_U k4)), .second, .unset, .unset] [(.long ((x0.toUInt64 >>> ((32 : Int32) &&& 0x3f).toInt64.toUInt64).toInt64)), (.long (own_U k4))])) rfl (hb hby at_187) _ kz) ?_
    refine own_g (mkF m 191 #[.val (.long x0), .second, .val (.int x1), .val (.int (6 : Int32)), .val (.ref o3), .val (.long (own_U k4)), .second, .unset, .unset] [(.long (((x0.toUInt64 >>> ((32 : Int32) &&& 0x3f).toInt64.toUInt64).toInt64) &&& (255 : Int64))), (.long (own_U k4))]) (fun _ kz => XS.land X52.here hx rfl (hb hby at_190) rfl kz) ?_
    refine own_g (mkF m 192 #[.val (.long x0), .second, .val (.int x1), .val (.int (6 : Int32)), .val (.ref o3), .val (.long (own_U k4)), .second, .unset, .unset] [(.int (((x0.toUInt64 >>> ((32 : Int32) &&& 0x3f).toInt64.toUInt64).toInt64) &&& (255 : Int64)).toInt32), (.long (own_U k4))]) (fun _ kz => XS.l2i X52.here hx rfl (hb hby at_191) rfl kz) ?_
    refine own_callS (rest := []) (as := [(.long (own_U k4)), (.int (((x0.toUInt64 >>> ((32 : Int32) &&& 0x3f).toInt64.toUInt64).toInt64) &&& (255 : Int64)).toInt32)]) X52 hx hZ hown e52 (own_c_step l Z a0 hw (own_U k4) (((x0.toUInt64 >>> ((32 : Int32) &&& 0x3f).toInt64.toUInt64).toInt64) &&& (255 : Int64)).toInt32 h20) (own_w hw 3 rfl) (own_w hw 4 rfl) (own_w hw 5 rfl) (own_w hw 6 rfl) (by decide) own_pd3 rfl (by rw [hml]; rfl) rfl (hb hby at_192) 0 (by show 2 * 0 + _ ≤ _; exact Nat.le_of_eq rfl) (by decide) (by decide) (by decide) (by decide) ?_
    rintro _ T53 L53 X53 ⟨rfl, rfl, e53⟩
    have N53 := Fr.app N52 (Fr.nil n0)
    show own_E p e below _ (T53.setTop (mkF m 195 #[.val (.long x0), .second, .val (.int x1), .val (.int (6 : Int32)), .val (.ref o3), .val (.long (own_U k4)), .second, .unset, .unset] [(.long (own_step (own_U k4) (((x0.toUInt64 >>> ((32 : Int32) &&& 0x3f).toInt64.toUInt64).toInt64) &&& (255 : Int64)).toInt32))]))
    obtain ⟨k5, hk5, qk5⟩ : ∃ z, z = own_o2 k4 (own_b ((x0.toUInt64 >>> ((32 : Int32) &&& 0x3f).toInt64.toUInt64).toInt64)) ∧ own_step (own_U k4) (((x0.toUInt64 >>> ((32 : Int32) &&& 0x3f).toInt64.toUInt64).toInt64) &&& (255 : Int64)).toInt32 = own_U z := ⟨_, rfl, own_st k4 ((x0.toUInt64 >>> ((32 : Int32) &&& 0x3f).toInt64.toUInt64).toInt64)⟩
    rw [qk5]
    show own_E p e below _ (T53.setTop (mkF m 195 #[.val (.long x0), .second, .val (.int x1), .val (.int (6 : Int32)), .val (.ref o3), .val (.long (own_U k4)), .second, .unset, .unset] [(.long (own_U k5))]))
    refine own_g (mkF m 197 #[.val (.long x0), .second, .val (.int x1), .val (.int (6 : Int32)), .val (.ref o3), .val (.long (own_U k5)), .second, .unset, .unset] []) (fun _ kz => XS.lstore X53.here hx rfl (hb hby at_195) rfl (l' := #[.val (.long x0), .second, .val (.int x1), .val (.int (6 : Int32)), .val (.ref o3), .val (.long (own_U k5)), .second, .unset, .unset]) rfl kz) ?_
    refine own_g (mkF m 198 #[.val (.long x0), .second, .val (.int x1), .val (.int (6 : Int32)), .val (.ref o3), .val (.long (own_U k5)), .second, .unset, .unset] [(.int (6 : Int32))]) (fun _ kz => XS.iloadN X53.here hx rfl (hb hby at_197) rfl kz) ?_
    refine own_g (mkF m 199 #[.val (.long x0), .second, .val (.int x1), .val (.int (6 : Int32)), .val (.ref o3), .val (.long (own_U k5)), .second, .unset, .unset] [(.int (5 : Int32)), (.int (6 : Int32))]) (fun _ kz => XS.iconst X53.here hx rfl (hb hby at_198) kz) ?_
    refine own_g (mkF m 202 #[.val (.long x0), .second, .val (.int x1), .val (.int (6 : Int32)), .val (.ref o3), .val (.long (own_U k5)), .second, .unset, .unset] []) (fun _ kz => XS.icmpNo X53.here hx rfl (hb hby at_199) rfl (tlt (by decide)).2.2.2 kz) ?_
    refine own_g (mkF m 204 #[.val (.long x0), .second, .val (.int x1), .val (.int (6 : Int32)), .val (.ref o3), .val (.long (own_U k5)), .second, .unset, .unset] [(.long (own_U k5))]) (fun _ kz => XS.lload X53.here hx rfl (hb hby at_202) rfl kz) ?_
    refine own_g (mkF m 205 #[.val (.long x0), .second, .val (.int x1), .val (.int (6 : Int32)), .val (.ref o3), .val (.long (own_U k5)), .second, .unset, .unset] [(.long x0), (.long (own_U k5))]) (fun _ kz => XS.lloadN X53.here hx rfl (hb hby at_204) rfl kz) ?_
    refine own_g (mkF m 207 #[.val (.long x0), .second, .val (.int x1), .val (.int (6 : Int32)), .val (.ref o3), .val (.long (own_U k5)), .second, .unset, .unset] [(.int (40 : Int32)), (.long x0), (.long (own_U k5))]) (fun _ kz => XS.bipush X53.here hx rfl (hb hby at_205) kz) ?_
    refine own_g (mkF m 208 #[.val (.long x0), .second, .val (.int x1), .val (.int (6 : Int32)), .val (.ref o3), .val (.long (own_U k5)), .second, .unset, .unset] [(.long ((x0.toUInt64 >>> ((40 : Int32) &&& 0x3f).toInt64.toUInt64).toInt64)), (.long (own_U k5))]) (fun _ kz => XS.lushr X53.here hx rfl (hb hby at_207) rfl kz) ?_
    refine own_g (mkF m 211 #[.val (.long x0), .second, .val (.int x1), .val (.int (6 : Int32)), .val (.ref o3), .val (.long (own_U k5)), .second, .unset, .unset] [(.long (255 : Int64)), (.long ((x0.toUInt64 >>> ((40 : Int32) &&& 0x3f).toInt64.toUInt64).toInt64)), (.long (own_U k5))]) (fun _ kz => X53.ldc2Long hx hown (mvT hZ (own_w hw 2 rfl)) (g := (mkF m 208 #[.val (.long x0), .second, .val (.int x1), .val (.int (6 : Int32)), .val (.ref o3), .val (.long (own_U k5)), .second, .unset, .unset] [(.long ((x0.toUInt64 >>> ((40 : Int32) &&& 0x3f).toInt64.toUInt64).toInt64)), (.long (own_U k5))])) rfl (hb hby at_208) _ kz) ?_
    refine own_g (mkF m 212 #[.val (.long x0), .second, .val (.int x1), .val (.int (6 : Int32)), .val (.ref o3), .val (.long (own_U k5)), .second, .unset, .unset] [(.long (((x0.toUInt64 >>> ((40 : Int32) &&& 0x3f).toInt64.toUInt64).toInt64) &&& (255 : Int64))), (.long (own_U k5))]) (fun _ kz => XS.land X53.here hx rfl (hb hby at_211) rfl kz) ?_
    refine own_g (mkF m 213 #[.val (.long x0), .second, .val (.int x1), .val (.int (6 : Int32)), .val (.ref o3), .val (.long (own_U k5)), .second, .unset, .unset] [(.int (((x0.toUInt64 >>> ((40 : Int32) &&& 0x3f).toInt64.toUInt64).toInt64) &&& (255 : Int64)).toInt32), (.long (own_U k5))]) (fun _ kz => XS.l2i X53.here hx rfl (hb hby at_212) rfl kz) ?_
    refine own_callS (rest := []) (as := [(.long (own_U k5)), (.int (((x0.toUInt64 >>> ((40 : Int32) &&& 0x3f).toInt64.toUInt64).toInt64) &&& (255 : Int64)).toInt32)]) X53 hx hZ hown e53 (own_c_step l Z a0 hw (own_U k5) (((x0.toUInt64 >>> ((40 : Int32) &&& 0x3f).toInt64.toUInt64).toInt64) &&& (255 : Int64)).toInt32 h20) (own_w hw 3 rfl) (own_w hw 4 rfl) (own_w hw 5 rfl) (own_w hw 6 rfl) (by decide) own_pd3 rfl (by rw [hml]; rfl) rfl (hb hby at_213) 0 (by show 2 * 0 + _ ≤ _; exact Nat.le_of_eq rfl) (by decide) (by decide) (by decide) (by decide) ?_
    rintro _ T54 L54 X54 ⟨rfl, rfl, e54⟩
    have N54 := Fr.app N53 (Fr.nil n0)
    show own_E p e below _ (T54.setTop (mkF m 216 #[.val (.long x0), .second, .val (.int x1), .val (.int (6 : Int32)), .val (.ref o3), .val (.long (own_U k5)), .second, .unset, .unset] [(.long (own_step (own_U k5) (((x0.toUInt64 >>> ((40 : Int32) &&& 0x3f).toInt64.toUInt64).toInt64) &&& (255 : Int64)).toInt32))]))
    obtain ⟨k6, hk6, qk6⟩ : ∃ z, z = own_o2 k5 (own_b ((x0.toUInt64 >>> ((40 : Int32) &&& 0x3f).toInt64.toUInt64).toInt64)) ∧ own_step (own_U k5) (((x0.toUInt64 >>> ((40 : Int32) &&& 0x3f).toInt64.toUInt64).toInt64) &&& (255 : Int64)).toInt32 = own_U z := ⟨_, rfl, own_st k5 ((x0.toUInt64 >>> ((40 : Int32) &&& 0x3f).toInt64.toUInt64).toInt64)⟩
    rw [qk6]
    show own_E p e below _ (T54.setTop (mkF m 216 #[.val (.long x0), .second, .val (.int x1), .val (.int (6 : Int32)), .val (.ref o3), .val (.long (own_U k5)), .second, .unset, .unset] [(.long (own_U k6))]))
    refine own_g (mkF m 218 #[.val (.long x0), .second, .val (.int x1), .val (.int (6 : Int32)), .val (.ref o3), .val (.long (own_U k6)), .second, .unset, .unset] []) (fun _ kz => XS.lstore X54.here hx rfl (hb hby at_216) rfl (l' := #[.val (.long x0), .second, .val (.int x1), .val (.int (6 : Int32)), .val (.ref o3), .val (.long (own_U k6)), .second, .unset, .unset]) rfl kz) ?_
    refine own_g (mkF m 219 #[.val (.long x0), .second, .val (.int x1), .val (.int (6 : Int32)), .val (.ref o3), .val (.long (own_U k6)), .second, .unset, .unset] [(.int (6 : Int32))]) (fun _ kz => XS.iloadN X54.here hx rfl (hb hby at_218) rfl kz) ?_
    refine own_g (mkF m 221 #[.val (.long x0), .second, .val (.int x1), .val (.int (6 : Int32)), .val (.ref o3), .val (.long (own_U k6)), .second, .unset, .unset] [(.int (6 : Int32)), (.int (6 : Int32))]) (fun _ kz => XS.bipush X54.here hx rfl (hb hby at_219) kz) ?_
    refine own_g (mkF m 240 #[.val (.long x0), .second, .val (.int x1), .val (.int (6 : Int32)), .val (.ref o3), .val (.long (own_U k6)), .second, .unset, .unset] []) (fun _ kz => XS.icmpYes X54.here hx rfl (pc0 := 221) (pc' := 240) rfl (hb hby at_221) rfl (flt (by decide)).2.2.2 (by decide) (by decide) kz) ?_
    refine own_g (mkF m 241 #[.val (.long x0), .second, .val (.int x1), .val (.int (6 : Int32)), .val (.ref o3), .val (.long (own_U k6)), .second, .unset, .unset] [(.int (6 : Int32))]) (fun _ kz => XS.iloadN X54.here hx rfl (hb hby at_240) rfl kz) ?_
    refine own_g (mkF m 243 #[.val (.long x0), .second, .val (.int x1), .val (.int (6 : Int32)), .val (.ref o3), .val (.long (own_U k6)), .second, .unset, .unset] [(.int (7 : Int32)), (.int (6 : Int32))]) (fun _ kz => XS.bipush X54.here hx rfl (hb hby at_241) kz) ?_
    refine own_g (mkF m 262 #[.val (.long x0), .second, .val (.int x1), .val (.int (6 : Int32)), .val (.ref o3), .val (.long (own_U k6)), .second, .unset, .unset] []) (fun _ kz => XS.icmpYes X54.here hx rfl (pc0 := 243) (pc' := 262) rfl (hb hby at_243) rfl (flt (by decide)).2.2.2 (by decide) (by decide) kz) ?_
    refine own_g (mkF m 264 #[.val (.long x0), .second, .val (.int x1), .val (.int (6 : Int32)), .val (.ref o3), .val (.long (own_U k6)), .second, .unset, .unset] [(.long (own_U k6))]) (fun _ kz => XS.lload X54.here hx rfl (hb hby at_262) rfl kz) ?_
    refine own_callS (rest := []) (as := [(.long (own_U k6))]) X54 hx hZ hown e54 (own_c_fin l Z a0 hw (own_U k6) h20) (own_w hw 9 rfl) (own_w hw 10 rfl) (own_w hw 5 rfl) (own_w hw 11 rfl) (by decide) own_pd1 rfl (by rw [hml]; rfl) rfl (hb hby at_264) 0 (by show 2 * 0 + _ ≤ _; exact Nat.le_of_eq rfl) (by decide) (by decide) (by decide) (by decide) ?_
    rintro _ T55 L55 X55 ⟨rfl, rfl, e55⟩
    have N55 := Fr.app N54 (Fr.nil n0)
    show own_E p e below _ (T55.setTop (mkF m 267 #[.val (.long x0), .second, .val (.int x1), .val (.int (6 : Int32)), .val (.ref o3), .val (.long (own_U k6)), .second, .unset, .unset] [(.long (own_fin (own_U k6)))]))
    refine own_g (mkF m 269 #[.val (.long x0), .second, .val (.int x1), .val (.int (6 : Int32)), .val (.ref o3), .val (.long (own_U k6)), .second, .val (.long (own_fin (own_U k6))), .second] []) (fun _ kz => XS.lstore X55.here hx rfl (hb hby at_267) rfl (l' := #[.val (.long x0), .second, .val (.int x1), .val (.int (6 : Int32)), .val (.ref o3), .val (.long (own_U k6)), .second, .val (.long (own_fin (own_U k6))), .second]) rfl kz) ?_
    refine own_g (mkF m 271 #[.val (.long x0), .second, .val (.int x1), .val (.int (6 : Int32)), .val (.ref o3), .val (.long (own_U k6)), .second, .val (.long (own_fin (own_U k6))), .second] [(.ref o3)]) (fun _ kz => XS.aload X55.here hx rfl (hb hby at_269) rfl rfl kz) ?_
    refine own_g (mkF m 272 #[.val (.long x0), .second, .val (.int x1), .val (.int (6 : Int32)), .val (.ref o3), .val (.long (own_U k6)), .second, .val (.long (own_fin (own_U k6))), .second] [(.int (6 : Int32)), (.ref o3)]) (fun _ kz => XS.iloadN X55.here hx rfl (hb hby at_271) rfl kz) ?_
    refine own_callS (rest := []) (as := [(.ref o3), (.int (6 : Int32))]) X55 hx hZ hown e55 (own_c_oat l Z a0 hw o3 6 F h20 (by decide) AF) (own_w hw 14 rfl) (own_w hw 15 rfl) (own_w hw 16 rfl) (own_w hw 17 rfl) (by decide) own_pd2 rfl (by rw [hml]; rfl) rfl (hb hby at_272) 0 (by show 2 * 0 + _ ≤ _; exact Nat.le_of_eq rfl) (by decide) (by decide) (by decide) (by decide) ?_
    rintro _ T56 L56 X56 ⟨rfl, rfl, e56⟩
    have N56 := Fr.app N55 (Fr.nil n0)
    show own_E p e below _ (T56.setTop (mkF m 275 #[.val (.long x0), .second, .val (.int x1), .val (.int (6 : Int32)), .val (.ref o3), .val (.long (own_U k6)), .second, .val (.long (own_fin (own_U k6))), .second] [(.long (own_U (own_g3 (own_fold F 6 0 0))))]))
    refine own_g (mkF m 277 #[.val (.long x0), .second, .val (.int x1), .val (.int (6 : Int32)), .val (.ref o3), .val (.long (own_U k6)), .second, .val (.long (own_fin (own_U k6))), .second] [(.long (own_fin (own_U k6))), (.long (own_U (own_g3 (own_fold F 6 0 0))))]) (fun _ kz => XS.lload X56.here hx rfl (hb hby at_275) rfl kz) ?_
    refine own_g (mkF m 278 #[.val (.long x0), .second, .val (.int x1), .val (.int (6 : Int32)), .val (.ref o3), .val (.long (own_U k6)), .second, .val (.long (own_fin (own_U k6))), .second] [(.int (lcmpW (own_U (own_g3 (own_fold F 6 0 0))) (own_fin (own_U k6))))]) (fun _ kz => XS.lcmp X56.here hx rfl (hb hby at_277) rfl kz) ?_
    refine own_g (mkF m 281 #[.val (.long x0), .second, .val (.int x1), .val (.int (6 : Int32)), .val (.ref o3), .val (.long (own_U k6)), .second, .val (.long (own_fin (own_U k6))), .second] []) (fun _ kz => XS.ifNo X56.here hx rfl (hb hby at_278) rfl ((if0 _ _).trans (teq (own_lcT (by rw [own_fi]; simp only [own_fold, hF0, hk1, hF1, hk2, hF2, hk3, hF3, hk4, hF4, hk5, hF5, hk6]))).2) kz) ?_
    refine own_g (mkF m 282 #[.val (.long x0), .second, .val (.int x1), .val (.int (6 : Int32)), .val (.ref o3), .val (.long (own_U k6)), .second, .val (.long (own_fin (own_U k6))), .second] [(.int (1 : Int32))]) (fun _ kz => XS.iconst X56.here hx rfl (hb hby at_281) kz) ?_
    refine own_g (mkF m 286 #[.val (.long x0), .second, .val (.int x1), .val (.int (6 : Int32)), .val (.ref o3), .val (.long (own_U k6)), .second, .val (.long (own_fin (own_U k6))), .second] [(.int (1 : Int32))]) (fun _ kz => XS.goto X56.here hx rfl (pc0 := 282) (pc' := 286) rfl (hb hby at_282) (by decide) (by decide) kz) ?_
    exact own_retZ X56 hx hret hlk (hb hby at_286) rfl (by decide) (by decide) (by first | exact ⟨rfl, N56⟩ | (rw [e56]; exact ⟨rfl, N56⟩))
  | 7, _ =>
    show own_E p e below _ (T20.setTop (mkF m 96 #[.val (.long x0), .second, .val (.int x1), .val (.int (7 : Int32)), .val (.ref o3), .val (.long (own_U (0 : Int32))), .second, .unset, .unset] []))
    refine own_g (mkF m 97 #[.val (.long x0), .second, .val (.int x1), .val (.int (7 : Int32)), .val (.ref o3), .val (.long (own_U (0 : Int32))), .second, .unset, .unset] [(.int (7 : Int32))]) (fun _ kz => XS.iloadN X20.here hx rfl (hb hby at_96) rfl kz) ?_
    refine own_g (mkF m 100 #[.val (.long x0), .second, .val (.int x1), .val (.int (7 : Int32)), .val (.ref o3), .val (.long (own_U (0 : Int32))), .second, .unset, .unset] []) (fun _ kz => XS.ifNo X20.here hx rfl (hb hby at_97) rfl ((if0 _ _).trans (tlt (by decide)).2.2.2) kz) ?_
    refine own_g (mkF m 102 #[.val (.long x0), .second, .val (.int x1), .val (.int (7 : Int32)), .val (.ref o3), .val (.long (own_U (0 : Int32))), .second, .unset, .unset] [(.long (own_U (0 : Int32)))]) (fun _ kz => XS.lload X20.here hx rfl (hb hby at_100) rfl kz) ?_
    refine own_g (mkF m 103 #[.val (.long x0), .second, .val (.int x1), .val (.int (7 : Int32)), .val (.ref o3), .val (.long (own_U (0 : Int32))), .second, .unset, .unset] [(.long x0), (.long (own_U (0 : Int32)))]) (fun _ kz => XS.lloadN X20.here hx rfl (hb hby at_102) rfl kz) ?_
    refine own_g (mkF m 106 #[.val (.long x0), .second, .val (.int x1), .val (.int (7 : Int32)), .val (.ref o3), .val (.long (own_U (0 : Int32))), .second, .unset, .unset] [(.long (255 : Int64)), (.long x0), (.long (own_U (0 : Int32)))]) (fun _ kz => X20.ldc2Long hx hown (mvT hZ (own_w hw 2 rfl)) (g := (mkF m 103 #[.val (.long x0), .second, .val (.int x1), .val (.int (7 : Int32)), .val (.ref o3), .val (.long (own_U (0 : Int32))), .second, .unset, .unset] [(.long x0), (.long (own_U (0 : Int32)))])) rfl (hb hby at_103) _ kz) ?_
    refine own_g (mkF m 107 #[.val (.long x0), .second, .val (.int x1), .val (.int (7 : Int32)), .val (.ref o3), .val (.long (own_U (0 : Int32))), .second, .unset, .unset] [(.long (x0 &&& (255 : Int64))), (.long (own_U (0 : Int32)))]) (fun _ kz => XS.land X20.here hx rfl (hb hby at_106) rfl kz) ?_
    refine own_g (mkF m 108 #[.val (.long x0), .second, .val (.int x1), .val (.int (7 : Int32)), .val (.ref o3), .val (.long (own_U (0 : Int32))), .second, .unset, .unset] [(.int (x0 &&& (255 : Int64)).toInt32), (.long (own_U (0 : Int32)))]) (fun _ kz => XS.l2i X20.here hx rfl (hb hby at_107) rfl kz) ?_
    refine own_callS (rest := []) (as := [(.long (own_U (0 : Int32))), (.int (x0 &&& (255 : Int64)).toInt32)]) X20 hx hZ hown e20 (own_c_step l Z a0 hw (own_U (0 : Int32)) (x0 &&& (255 : Int64)).toInt32 h20) (own_w hw 3 rfl) (own_w hw 4 rfl) (own_w hw 5 rfl) (own_w hw 6 rfl) (by decide) own_pd3 rfl (by rw [hml]; rfl) rfl (hb hby at_108) 0 (by show 2 * 0 + _ ≤ _; exact Nat.le_of_eq rfl) (by decide) (by decide) (by decide) (by decide) ?_
    rintro _ T57 L57 X57 ⟨rfl, rfl, e57⟩
    have N57 := Fr.app N20 (Fr.nil n0)
    show own_E p e below _ (T57.setTop (mkF m 111 #[.val (.long x0), .second, .val (.int x1), .val (.int (7 : Int32)), .val (.ref o3), .val (.long (own_U (0 : Int32))), .second, .unset, .unset] [(.long (own_step (own_U (0 : Int32)) (x0 &&& (255 : Int64)).toInt32))]))
    obtain ⟨k1, hk1, qk1⟩ : ∃ z, z = own_o2 (0 : Int32) (own_b x0) ∧ own_step (own_U (0 : Int32)) (x0 &&& (255 : Int64)).toInt32 = own_U z := ⟨_, rfl, own_st (0 : Int32) x0⟩
    rw [qk1]
    show own_E p e below _ (T57.setTop (mkF m 111 #[.val (.long x0), .second, .val (.int x1), .val (.int (7 : Int32)), .val (.ref o3), .val (.long (own_U (0 : Int32))), .second, .unset, .unset] [(.long (own_U k1))]))
    refine own_g (mkF m 113 #[.val (.long x0), .second, .val (.int x1), .val (.int (7 : Int32)), .val (.ref o3), .val (.long (own_U k1)), .second, .unset, .unset] []) (fun _ kz => XS.lstore X57.here hx rfl (hb hby at_111) rfl (l' := #[.val (.long x0), .second, .val (.int x1), .val (.int (7 : Int32)), .val (.ref o3), .val (.long (own_U k1)), .second, .unset, .unset]) rfl kz) ?_
    refine own_g (mkF m 114 #[.val (.long x0), .second, .val (.int x1), .val (.int (7 : Int32)), .val (.ref o3), .val (.long (own_U k1)), .second, .unset, .unset] [(.int (7 : Int32))]) (fun _ kz => XS.iloadN X57.here hx rfl (hb hby at_113) rfl kz) ?_
    refine own_g (mkF m 115 #[.val (.long x0), .second, .val (.int x1), .val (.int (7 : Int32)), .val (.ref o3), .val (.long (own_U k1)), .second, .unset, .unset] [(.int (1 : Int32)), (.int (7 : Int32))]) (fun _ kz => XS.iconst X57.here hx rfl (hb hby at_114) kz) ?_
    refine own_g (mkF m 118 #[.val (.long x0), .second, .val (.int x1), .val (.int (7 : Int32)), .val (.ref o3), .val (.long (own_U k1)), .second, .unset, .unset] []) (fun _ kz => XS.icmpNo X57.here hx rfl (hb hby at_115) rfl (tlt (by decide)).2.2.2 kz) ?_
    refine own_g (mkF m 120 #[.val (.long x0), .second, .val (.int x1), .val (.int (7 : Int32)), .val (.ref o3), .val (.long (own_U k1)), .second, .unset, .unset] [(.long (own_U k1))]) (fun _ kz => XS.lload X57.here hx rfl (hb hby at_118) rfl kz) ?_
    refine own_g (mkF m 121 #[.val (.long x0), .second, .val (.int x1), .val (.int (7 : Int32)), .val (.ref o3), .val (.long (own_U k1)), .second, .unset, .unset] [(.long x0), (.long (own_U k1))]) (fun _ kz => XS.lloadN X57.here hx rfl (hb hby at_120) rfl kz) ?_
    refine own_g (mkF m 123 #[.val (.long x0), .second, .val (.int x1), .val (.int (7 : Int32)), .val (.ref o3), .val (.long (own_U k1)), .second, .unset, .unset] [(.int (8 : Int32)), (.long x0), (.long (own_U k1))]) (fun _ kz => XS.bipush X57.here hx rfl (hb hby at_121) kz) ?_
    refine own_g (mkF m 124 #[.val (.long x0), .second, .val (.int x1), .val (.int (7 : Int32)), .val (.ref o3), .val (.long (own_U k1)), .second, .unset, .unset] [(.long ((x0.toUInt64 >>> ((8 : Int32) &&& 0x3f).toInt64.toUInt64).toInt64)), (.long (own_U k1))]) (fun _ kz => XS.lushr X57.here hx rfl (hb hby at_123) rfl kz) ?_
    refine own_g (mkF m 127 #[.val (.long x0), .second, .val (.int x1), .val (.int (7 : Int32)), .val (.ref o3), .val (.long (own_U k1)), .second, .unset, .unset] [(.long (255 : Int64)), (.long ((x0.toUInt64 >>> ((8 : Int32) &&& 0x3f).toInt64.toUInt64).toInt64)), (.long (own_U k1))]) (fun _ kz => X57.ldc2Long hx hown (mvT hZ (own_w hw 2 rfl)) (g := (mkF m 124 #[.val (.long x0), .second, .val (.int x1), .val (.int (7 : Int32)), .val (.ref o3), .val (.long (own_U k1)), .second, .unset, .unset] [(.long ((x0.toUInt64 >>> ((8 : Int32) &&& 0x3f).toInt64.toUInt64).toInt64)), (.long (own_U k1))])) rfl (hb hby at_124) _ kz) ?_
    refine own_g (mkF m 128 #[.val (.long x0), .second, .val (.int x1), .val (.int (7 : Int32)), .val (.ref o3), .val (.long (own_U k1)), .second, .unset, .unset] [(.long (((x0.toUInt64 >>> ((8 : Int32) &&& 0x3f).toInt64.toUInt64).toInt64) &&& (255 : Int64))), (.long (own_U k1))]) (fun _ kz => XS.land X57.here hx rfl (hb hby at_127) rfl kz) ?_
    refine own_g (mkF m 129 #[.val (.long x0), .second, .val (.int x1), .val (.int (7 : Int32)), .val (.ref o3), .val (.long (own_U k1)), .second, .unset, .unset] [(.int (((x0.toUInt64 >>> ((8 : Int32) &&& 0x3f).toInt64.toUInt64).toInt64) &&& (255 : Int64)).toInt32), (.long (own_U k1))]) (fun _ kz => XS.l2i X57.here hx rfl (hb hby at_128) rfl kz) ?_
    refine own_callS (rest := []) (as := [(.long (own_U k1)), (.int (((x0.toUInt64 >>> ((8 : Int32) &&& 0x3f).toInt64.toUInt64).toInt64) &&& (255 : Int64)).toInt32)]) X57 hx hZ hown e57 (own_c_step l Z a0 hw (own_U k1) (((x0.toUInt64 >>> ((8 : Int32) &&& 0x3f).toInt64.toUInt64).toInt64) &&& (255 : Int64)).toInt32 h20) (own_w hw 3 rfl) (own_w hw 4 rfl) (own_w hw 5 rfl) (own_w hw 6 rfl) (by decide) own_pd3 rfl (by rw [hml]; rfl) rfl (hb hby at_129) 0 (by show 2 * 0 + _ ≤ _; exact Nat.le_of_eq rfl) (by decide) (by decide) (by decide) (by decide) ?_
    rintro _ T58 L58 X58 ⟨rfl, rfl, e58⟩
    have N58 := Fr.app N57 (Fr.nil n0)
    show own_E p e below _ (T58.setTop (mkF m 132 #[.val (.long x0), .second, .val (.int x1), .val (.int (7 : Int32)), .val (.ref o3), .val (.long (own_U k1)), .second, .unset, .unset] [(.long (own_step (own_U k1) (((x0.toUInt64 >>> ((8 : Int32) &&& 0x3f).toInt64.toUInt64).toInt64) &&& (255 : Int64)).toInt32))]))
    obtain ⟨k2, hk2, qk2⟩ : ∃ z, z = own_o2 k1 (own_b ((x0.toUInt64 >>> ((8 : Int32) &&& 0x3f).toInt64.toUInt64).toInt64)) ∧ own_step (own_U k1) (((x0.toUInt64 >>> ((8 : Int32) &&& 0x3f).toInt64.toUInt64).toInt64) &&& (255 : Int64)).toInt32 = own_U z := ⟨_, rfl, own_st k1 ((x0.toUInt64 >>> ((8 : Int32) &&& 0x3f).toInt64.toUInt64).toInt64)⟩
    rw [qk2]
    show own_E p e below _ (T58.setTop (mkF m 132 #[.val (.long x0), .second, .val (.int x1), .val (.int (7 : Int32)), .val (.ref o3), .val (.long (own_U k1)), .second, .unset, .unset] [(.long (own_U k2))]))
    refine own_g (mkF m 134 #[.val (.long x0), .second, .val (.int x1), .val (.int (7 : Int32)), .val (.ref o3), .val (.long (own_U k2)), .second, .unset, .unset] []) (fun _ kz => XS.lstore X58.here hx rfl (hb hby at_132) rfl (l' := #[.val (.long x0), .second, .val (.int x1), .val (.int (7 : Int32)), .val (.ref o3), .val (.long (own_U k2)), .second, .unset, .unset]) rfl kz) ?_
    refine own_g (mkF m 135 #[.val (.long x0), .second, .val (.int x1), .val (.int (7 : Int32)), .val (.ref o3), .val (.long (own_U k2)), .second, .unset, .unset] [(.int (7 : Int32))]) (fun _ kz => XS.iloadN X58.here hx rfl (hb hby at_134) rfl kz) ?_
    refine own_g (mkF m 136 #[.val (.long x0), .second, .val (.int x1), .val (.int (7 : Int32)), .val (.ref o3), .val (.long (own_U k2)), .second, .unset, .unset] [(.int (2 : Int32)), (.int (7 : Int32))]) (fun _ kz => XS.iconst X58.here hx rfl (hb hby at_135) kz) ?_
    refine own_g (mkF m 139 #[.val (.long x0), .second, .val (.int x1), .val (.int (7 : Int32)), .val (.ref o3), .val (.long (own_U k2)), .second, .unset, .unset] []) (fun _ kz => XS.icmpNo X58.here hx rfl (hb hby at_136) rfl (tlt (by decide)).2.2.2 kz) ?_
    refine own_g (mkF m 141 #[.val (.long x0), .second, .val (.int x1), .val (.int (7 : Int32)), .val (.ref o3), .val (.long (own_U k2)), .second, .unset, .unset] [(.long (own_U k2))]) (fun _ kz => XS.lload X58.here hx rfl (hb hby at_139) rfl kz) ?_
    refine own_g (mkF m 142 #[.val (.long x0), .second, .val (.int x1), .val (.int (7 : Int32)), .val (.ref o3), .val (.long (own_U k2)), .second, .unset, .unset] [(.long x0), (.long (own_U k2))]) (fun _ kz => XS.lloadN X58.here hx rfl (hb hby at_141) rfl kz) ?_
    refine own_g (mkF m 144 #[.val (.long x0), .second, .val (.int x1), .val (.int (7 : Int32)), .val (.ref o3), .val (.long (own_U k2)), .second, .unset, .unset] [(.int (16 : Int32)), (.long x0), (.long (own_U k2))]) (fun _ kz => XS.bipush X58.here hx rfl (hb hby at_142) kz) ?_
    refine own_g (mkF m 145 #[.val (.long x0), .second, .val (.int x1), .val (.int (7 : Int32)), .val (.ref o3), .val (.long (own_U k2)), .second, .unset, .unset] [(.long ((x0.toUInt64 >>> ((16 : Int32) &&& 0x3f).toInt64.toUInt64).toInt64)), (.long (own_U k2))]) (fun _ kz => XS.lushr X58.here hx rfl (hb hby at_144) rfl kz) ?_
    refine own_g (mkF m 148 #[.val (.long x0), .second, .val (.int x1), .val (.int (7 : Int32)), .val (.ref o3), .val (.long (own_U k2)), .second, .unset, .unset] [(.long (255 : Int64)), (.long ((x0.toUInt64 >>> ((16 : Int32) &&& 0x3f).toInt64.toUInt64).toInt64)), (.long (own_U k2))]) (fun _ kz => X58.ldc2Long hx hown (mvT hZ (own_w hw 2 rfl)) (g := (mkF m 145 #[.val (.long x0), .second, .val (.int x1), .val (.int (7 : Int32)), .val (.ref o3), .val (.long (own_U k2)), .second, .unset, .unset] [(.long ((x0.toUInt64 >>> ((16 : Int32) &&& 0x3f).toInt64.toUInt64).toInt64)), (.long (own_U k2))])) rfl (hb hby at_145) _ kz) ?_
    refine own_g (mkF m 149 #[.val (.long x0), .second, .val (.int x1), .val (.int (7 : Int32)), .val (.ref o3), .val (.long (own_U k2)), .second, .unset, .unset] [(.long (((x0.toUInt64 >>> ((16 : Int32) &&& 0x3f).toInt64.toUInt64).toInt64) &&& (255 : Int64))), (.long (own_U k2))]) (fun _ kz => XS.land X58.here hx rfl (hb hby at_148) rfl kz) ?_
    refine own_g (mkF m 150 #[.val (.long x0), .second, .val (.int x1), .val (.int (7 : Int32)), .val (.ref o3), .val (.long (own_U k2)), .second, .unset, .unset] [(.int (((x0.toUInt64 >>> ((16 : Int32) &&& 0x3f).toInt64.toUInt64).toInt64) &&& (255 : Int64)).toInt32), (.long (own_U k2))]) (fun _ kz => XS.l2i X58.here hx rfl (hb hby at_149) rfl kz) ?_
    refine own_callS (rest := []) (as := [(.long (own_U k2)), (.int (((x0.toUInt64 >>> ((16 : Int32) &&& 0x3f).toInt64.toUInt64).toInt64) &&& (255 : Int64)).toInt32)]) X58 hx hZ hown e58 (own_c_step l Z a0 hw (own_U k2) (((x0.toUInt64 >>> ((16 : Int32) &&& 0x3f).toInt64.toUInt64).toInt64) &&& (255 : Int64)).toInt32 h20) (own_w hw 3 rfl) (own_w hw 4 rfl) (own_w hw 5 rfl) (own_w hw 6 rfl) (by decide) own_pd3 rfl (by rw [hml]; rfl) rfl (hb hby at_150) 0 (by show 2 * 0 + _ ≤ _; exact Nat.le_of_eq rfl) (by decide) (by decide) (by decide) (by decide) ?_
    rintro _ T59 L59 X59 ⟨rfl, rfl, e59⟩
    have N59 := Fr.app N58 (Fr.nil n0)
    show own_E p e below _ (T59.setTop (mkF m 153 #[.val (.long x0), .second, .val (.int x1), .val (.int (7 : Int32)), .val (.ref o3), .val (.long (own_U k2)), .second, .unset, .unset] [(.long (own_step (own_U k2) (((x0.toUInt64 >>> ((16 : Int32) &&& 0x3f).toInt64.toUInt64).toInt64) &&& (255 : Int64)).toInt32))]))
    obtain ⟨k3, hk3, qk3⟩ : ∃ z, z = own_o2 k2 (own_b ((x0.toUInt64 >>> ((16 : Int32) &&& 0x3f).toInt64.toUInt64).toInt64)) ∧ own_step (own_U k2) (((x0.toUInt64 >>> ((16 : Int32) &&& 0x3f).toInt64.toUInt64).toInt64) &&& (255 : Int64)).toInt32 = own_U z := ⟨_, rfl, own_st k2 ((x0.toUInt64 >>> ((16 : Int32) &&& 0x3f).toInt64.toUInt64).toInt64)⟩
    rw [qk3]
    show own_E p e below _ (T59.setTop (mkF m 153 #[.val (.long x0), .second, .val (.int x1), .val (.int (7 : Int32)), .val (.ref o3), .val (.long (own_U k2)), .second, .unset, .unset] [(.long (own_U k3))]))
    refine own_g (mkF m 155 #[.val (.long x0), .second, .val (.int x1), .val (.int (7 : Int32)), .val (.ref o3), .val (.long (own_U k3)), .second, .unset, .unset] []) (fun _ kz => XS.lstore X59.here hx rfl (hb hby at_153) rfl (l' := #[.val (.long x0), .second, .val (.int x1), .val (.int (7 : Int32)), .val (.ref o3), .val (.long (own_U k3)), .second, .unset, .unset]) rfl kz) ?_
    refine own_g (mkF m 156 #[.val (.long x0), .second, .val (.int x1), .val (.int (7 : Int32)), .val (.ref o3), .val (.long (own_U k3)), .second, .unset, .unset] [(.int (7 : Int32))]) (fun _ kz => XS.iloadN X59.here hx rfl (hb hby at_155) rfl kz) ?_
    refine own_g (mkF m 157 #[.val (.long x0), .second, .val (.int x1), .val (.int (7 : Int32)), .val (.ref o3), .val (.long (own_U k3)), .second, .unset, .unset] [(.int (3 : Int32)), (.int (7 : Int32))]) (fun _ kz => XS.iconst X59.here hx rfl (hb hby at_156) kz) ?_
    refine own_g (mkF m 160 #[.val (.long x0), .second, .val (.int x1), .val (.int (7 : Int32)), .val (.ref o3), .val (.long (own_U k3)), .second, .unset, .unset] []) (fun _ kz => XS.icmpNo X59.here hx rfl (hb hby at_157) rfl (tlt (by decide)).2.2.2 kz) ?_
    refine own_g (mkF m 162 #[.val (.long x0), .second, .val (.int x1), .val (.int (7 : Int32)), .val (.ref o3), .val (.long (own_U k3)), .second, .unset, .unset] [(.long (own_U k3))]) (fun _ kz => XS.lload X59.here hx rfl (hb hby at_160) rfl kz) ?_
    refine own_g (mkF m 163 #[.val (.long x0), .second, .val (.int x1), .val (.int (7 : Int32)), .val (.ref o3), .val (.long (own_U k3)), .second, .unset, .unset] [(.long x0), (.long (own_U k3))]) (fun _ kz => XS.lloadN X59.here hx rfl (hb hby at_162) rfl kz) ?_
    refine own_g (mkF m 165 #[.val (.long x0), .second, .val (.int x1), .val (.int (7 : Int32)), .val (.ref o3), .val (.long (own_U k3)), .second, .unset, .unset] [(.int (24 : Int32)), (.long x0), (.long (own_U k3))]) (fun _ kz => XS.bipush X59.here hx rfl (hb hby at_163) kz) ?_
    refine own_g (mkF m 166 #[.val (.long x0), .second, .val (.int x1), .val (.int (7 : Int32)), .val (.ref o3), .val (.long (own_U k3)), .second, .unset, .unset] [(.long ((x0.toUInt64 >>> ((24 : Int32) &&& 0x3f).toInt64.toUInt64).toInt64)), (.long (own_U k3))]) (fun _ kz => XS.lushr X59.here hx rfl (hb hby at_165) rfl kz) ?_
    refine own_g (mkF m 169 #[.val (.long x0), .second, .val (.int x1), .val (.int (7 : Int32)), .val (.ref o3), .val (.long (own_U k3)), .second, .unset, .unset] [(.long (255 : Int64)), (.long ((x0.toUInt64 >>> ((24 : Int32) &&& 0x3f).toInt64.toUInt64).toInt64)), (.long (own_U k3))]) (fun _ kz => X59.ldc2Long hx hown (mvT hZ (own_w hw 2 rfl)) (g := (mkF m 166 #[.val (.long x0), .second, .val (.int x1), .val (.int (7 : Int32)), .val (.ref o3), .val (.long (own_U k3)), .second, .unset, .unset] [(.long ((x0.toUInt64 >>> ((24 : Int32) &&& 0x3f).toInt64.toUInt64).toInt64)), (.long (own_U k3))])) rfl (hb hby at_166) _ kz) ?_
    refine own_g (mkF m 170 #[.val (.long x0), .second, .val (.int x1), .val (.int (7 : Int32)), .val (.ref o3), .val (.long (own_U k3)), .second, .unset, .unset] [(.long (((x0.toUInt64 >>> ((24 : Int32) &&& 0x3f).toInt64.toUInt64).toInt64) &&& (255 : Int64))), (.long (own_U k3))]) (fun _ kz => XS.land X59.here hx rfl (hb hby at_169) rfl kz) ?_
    refine own_g (mkF m 171 #[.val (.long x0), .second, .val (.int x1), .val (.int (7 : Int32)), .val (.ref o3), .val (.long (own_U k3)), .second, .unset, .unset] [(.int (((x0.toUInt64 >>> ((24 : Int32) &&& 0x3f).toInt64.toUInt64).toInt64) &&& (255 : Int64)).toInt32), (.long (own_U k3))]) (fun _ kz => XS.l2i X59.here hx rfl (hb hby at_170) rfl kz) ?_
    refine own_callS (rest := []) (as := [(.long (own_U k3)), (.int (((x0.toUInt64 >>> ((24 : Int32) &&& 0x3f).toInt64.toUInt64).toInt64) &&& (255 : Int64)).toInt32)]) X59 hx hZ hown e59 (own_c_step l Z a0 hw (own_U k3) (((x0.toUInt64 >>> ((24 : Int32) &&& 0x3f).toInt64.toUInt64).toInt64) &&& (255 : Int64)).toInt32 h20) (own_w hw 3 rfl) (own_w hw 4 rfl) (own_w hw 5 rfl) (own_w hw 6 rfl) (by decide) own_pd3 rfl (by rw [hml]; rfl) rfl (hb hby at_171) 0 (by show 2 * 0 + _ ≤ _; exact Nat.le_of_eq rfl) (by decide) (by decide) (by decide) (by decide) ?_
    rintro _ T60 L60 X60 ⟨rfl, rfl, e60⟩
    have N60 := Fr.app N59 (Fr.nil n0)
    show own_E p e below _ (T60.setTop (mkF m 174 #[.val (.long x0), .second, .val (.int x1), .val (.int (7 : Int32)), .val (.ref o3), .val (.long (own_U k3)), .second, .unset, .unset] [(.long (own_step (own_U k3) (((x0.toUInt64 >>> ((24 : Int32) &&& 0x3f).toInt64.toUInt64).toInt64) &&& (255 : Int64)).toInt32))]))
    obtain ⟨k4, hk4, qk4⟩ : ∃ z, z = own_o2 k3 (own_b ((x0.toUInt64 >>> ((24 : Int32) &&& 0x3f).toInt64.toUInt64).toInt64)) ∧ own_step (own_U k3) (((x0.toUInt64 >>> ((24 : Int32) &&& 0x3f).toInt64.toUInt64).toInt64) &&& (255 : Int64)).toInt32 = own_U z := ⟨_, rfl, own_st k3 ((x0.toUInt64 >>> ((24 : Int32) &&& 0x3f).toInt64.toUInt64).toInt64)⟩
    rw [qk4]
    show own_E p e below _ (T60.setTop (mkF m 174 #[.val (.long x0), .second, .val (.int x1), .val (.int (7 : Int32)), .val (.ref o3), .val (.long (own_U k3)), .second, .unset, .unset] [(.long (own_U k4))]))
    refine own_g (mkF m 176 #[.val (.long x0), .second, .val (.int x1), .val (.int (7 : Int32)), .val (.ref o3), .val (.long (own_U k4)), .second, .unset, .unset] []) (fun _ kz => XS.lstore X60.here hx rfl (hb hby at_174) rfl (l' := #[.val (.long x0), .second, .val (.int x1), .val (.int (7 : Int32)), .val (.ref o3), .val (.long (own_U k4)), .second, .unset, .unset]) rfl kz) ?_
    refine own_g (mkF m 177 #[.val (.long x0), .second, .val (.int x1), .val (.int (7 : Int32)), .val (.ref o3), .val (.long (own_U k4)), .second, .unset, .unset] [(.int (7 : Int32))]) (fun _ kz => XS.iloadN X60.here hx rfl (hb hby at_176) rfl kz) ?_
    refine own_g (mkF m 178 #[.val (.long x0), .second, .val (.int x1), .val (.int (7 : Int32)), .val (.ref o3), .val (.long (own_U k4)), .second, .unset, .unset] [(.int (4 : Int32)), (.int (7 : Int32))]) (fun _ kz => XS.iconst X60.here hx rfl (hb hby at_177) kz) ?_
    refine own_g (mkF m 181 #[.val (.long x0), .second, .val (.int x1), .val (.int (7 : Int32)), .val (.ref o3), .val (.long (own_U k4)), .second, .unset, .unset] []) (fun _ kz => XS.icmpNo X60.here hx rfl (hb hby at_178) rfl (tlt (by decide)).2.2.2 kz) ?_
    refine own_g (mkF m 183 #[.val (.long x0), .second, .val (.int x1), .val (.int (7 : Int32)), .val (.ref o3), .val (.long (own_U k4)), .second, .unset, .unset] [(.long (own_U k4))]) (fun _ kz => XS.lload X60.here hx rfl (hb hby at_181) rfl kz) ?_
    refine own_g (mkF m 184 #[.val (.long x0), .second, .val (.int x1), .val (.int (7 : Int32)), .val (.ref o3), .val (.long (own_U k4)), .second, .unset, .unset] [(.long x0), (.long (own_U k4))]) (fun _ kz => XS.lloadN X60.here hx rfl (hb hby at_183) rfl kz) ?_
    refine own_g (mkF m 186 #[.val (.long x0), .second, .val (.int x1), .val (.int (7 : Int32)), .val (.ref o3), .val (.long (own_U k4)), .second, .unset, .unset] [(.int (32 : Int32)), (.long x0), (.long (own_U k4))]) (fun _ kz => XS.bipush X60.here hx rfl (hb hby at_184) kz) ?_
    refine own_g (mkF m 187 #[.val (.long x0), .second, .val (.int x1), .val (.int (7 : Int32)), .val (.ref o3), .val (.long (own_U k4)), .second, .unset, .unset] [(.long ((x0.toUInt64 >>> ((32 : Int32) &&& 0x3f).toInt64.toUInt64).toInt64)), (.long (own_U k4))]) (fun _ kz => XS.lushr X60.here hx rfl (hb hby at_186) rfl kz) ?_
    refine own_g (mkF m 190 #[.val (.long x0), .second, .val (.int x1), .val (.int (7 : Int32)), .val (.ref o3), .val (.long (own_U k4)), .second, .unset, .unset] [(.long (255 : Int64)), (.long ((x0.toUInt64 >>> ((32 : Int32) &&& 0x3f).toInt64.toUInt64).toInt64)), (.long (own_U k4))]) (fun _ kz => X60.ldc2Long hx hown (mvT hZ (own_w hw 2 rfl)) (g := (mkF m 187 #[.val (.long x0), .second, .val (.int x1), .val (.int (7 : Int32)), .val (.ref o3), .val (.long (own_U k4)), .second, .unset, .unset] [(.long ((x0.toUInt64 >>> ((32 : Int32) &&& 0x3f).toInt64.toUInt64).toInt64)), (.long (own_U k4))])) rfl (hb hby at_187) _ kz) ?_
    refine own_g (mkF m 191 #[.val (.long x0), .second, .val (.int x1), .val (.int (7 : Int32)), .val (.ref o3), .val (.long (own_U k4)), .second, .unset, .unset] [(.long (((x0.toUInt64 >>> ((32 : Int32) &&& 0x3f).toInt64.toUInt64).toInt64) &&& (255 : Int64))), (.long (own_U k4))]) (fun _ kz => XS.land X60.here hx rfl (hb hby at_190) rfl kz) ?_
    refine own_g (mkF m 192 #[.val (.long x0), .second, .val (.int x1), .val (.int (7 : Int32)), .val (.ref o3), .val (.long (own_U k4)), .second, .unset, .unset] [(.int (((x0.toUInt64 >>> ((32 : Int32) &&& 0x3f).toInt64.toUInt64).toInt64) &&& (255 : Int64)).toInt32), (.long (own_U k4))]) (fun _ kz => XS.l2i X60.here hx rfl (hb hby at_191) rfl kz) ?_
    refine own_callS (rest := []) (as := [(.long (own_U k4)), (.int (((x0.toUInt64 >>> ((32 : Int32) &&& 0x3f).toInt64.toUInt64).toInt64) &&& (255 : Int64)).toInt32)]) X60 hx hZ hown e60 (own_c_step l Z a0 hw (own_U k4) (((x0.toUInt64 >>> ((32 : Int32) &&& 0x3f).toInt64.toUInt64).toInt64) &&& (255 : Int64)).toInt32 h20) (own_w hw 3 rfl) (own_w hw 4 rfl) (own_w hw 5 rfl) (own_w hw 6 rfl) (by decide) own_pd3 rfl (by rw [hml]; rfl) rfl (hb hby at_192) 0 (by show 2 * 0 + _ ≤ _; exact Nat.le_of_eq rfl) (by decide) (by decide) (by decide) (by decide) ?_
    rintro _ T61 L61 X61 ⟨rfl, rfl, e61⟩
    have N61 := Fr.app N60 (Fr.nil n0)
    show own_E p e below _ (T61.setTop (mkF m 195 #[.val (.long x0), .second, .val (.int x1), .val (.int (7 : Int32)), .val (.ref o3), .val (.long (own_U k4)), .second, .unset, .unset] [(.long (own_step (own_U k4) (((x0.toUInt64 >>> ((32 : Int32) &&& 0x3f).toInt64.toUInt64).toInt64) &&& (255 : Int64)).toInt32))]))
    obtain ⟨k5, hk5, qk5⟩ : ∃ z, z = own_o2 k4 (own_b ((x0.toUInt64 >>> ((32 : Int32) &&& 0x3f).toInt64.toUInt64).toInt64)) ∧ own_step (own_U k4) (((x0.toUInt64 >>> ((32 : Int32) &&& 0x3f).toInt64.toUInt64).toInt64) &&& (255 : Int64)).toInt32 = own_U z := ⟨_, rfl, own_st k4 ((x0.toUInt64 >>> ((32 : Int32) &&& 0x3f).toInt64.toUInt64).toInt64)⟩
    rw [qk5]
    show own_E p e below _ (T61.setTop (mkF m 195 #[.val (.long x0), .second, .val (.int x1), .val (.int (7 : Int32)), .val (.ref o3), .val (.long (own_U k4)), .second, .unset, .unset] [(.long (own_U k5))]))
    refine own_g (mkF m 197 #[.val (.long x0), .second, .val (.int x1), .val (.int (7 : Int32)), .val (.ref o3), .val (.long (own_U k5)), .second, .unset, .unset] []) (fun _ kz => XS.lstore X61.here hx rfl (hb hby at_195) rfl (l' := #[.val (.long x0), .second, .val (.int x1), .val (.int (7 : Int32)), .val (.ref o3), .val (.long (own_U k5)), .second, .unset, .unset]) rfl kz) ?_
    refine own_g (mkF m 198 #[.val (.long x0), .second, .val (.int x1), .val (.int (7 : Int32)), .val (.ref o3), .val (.long (own_U k5)), .second, .unset, .unset] [(.int (7 : Int32))]) (fun _ kz => XS.iloadN X61.here hx rfl (hb hby at_197) rfl kz) ?_
    refine own_g (mkF m 199 #[.val (.long x0), .second, .val (.int x1), .val (.int (7 : Int32)), .val (.ref o3), .val (.long (own_U k5)), .second, .unset, .unset] [(.int (5 : Int32)), (.int (7 : Int32))]) (fun _ kz => XS.iconst X61.here hx rfl (hb hby at_198) kz) ?_
    refine own_g (mkF m 202 #[.val (.long x0), .second, .val (.int x1), .val (.int (7 : Int32)), .val (.ref o3), .val (.long (own_U k5)), .second, .unset, .unset] []) (fun _ kz => XS.icmpNo X61.here hx rfl (hb hby at_199) rfl (tlt (by decide)).2.2.2 kz) ?_
    refine own_g (mkF m 204 #[.val (.long x0), .second, .val (.int x1), .val (.int (7 : Int32)), .val (.ref o3), .val (.long (own_U k5)), .second, .unset, .unset] [(.long (own_U k5))]) (fun _ kz => XS.lload X61.here hx rfl (hb hby at_202) rfl kz) ?_
    refine own_g (mkF m 205 #[.val (.long x0), .second, .val (.int x1), .val (.int (7 : Int32)), .val (.ref o3), .val (.long (own_U k5)), .second, .unset, .unset] [(.long x0), (.long (own_U k5))]) (fun _ kz => XS.lloadN X61.here hx rfl (hb hby at_204) rfl kz) ?_
    refine own_g (mkF m 207 #[.val (.long x0), .second, .val (.int x1), .val (.int (7 : Int32)), .val (.ref o3), .val (.long (own_U k5)), .second, .unset, .unset] [(.int (40 : Int32)), (.long x0), (.long (own_U k5))]) (fun _ kz => XS.bipush X61.here hx rfl (hb hby at_205) kz) ?_
    refine own_g (mkF m 208 #[.val (.long x0), .second, .val (.int x1), .val (.int (7 : Int32)), .val (.ref o3), .val (.long (own_U k5)), .second, .unset, .unset] [(.long ((x0.toUInt64 >>> ((40 : Int32) &&& 0x3f).toInt64.toUInt64).toInt64)), (.long (own_U k5))]) (fun _ kz => XS.lushr X61.here hx rfl (hb hby at_207) rfl kz) ?_
    refine own_g (mkF m 211 #[.val (.long x0), .second, .val (.int x1), .val (.int (7 : Int32)), .val (.ref o3), .val (.long (own_U k5)), .second, .unset, .unset] [(.long (255 : Int64)), (.long ((x0.toUInt64 >>> ((40 : Int32) &&& 0x3f).toInt64.toUInt64).toInt64)), (.long (own_U k5))]) (fun _ kz => X61.ldc2Long hx hown (mvT hZ (own_w hw 2 rfl)) (g := (mkF m 208 #[.val (.long x0), .second, .val (.int x1), .val (.int (7 : Int32)), .val (.ref o3), .val (.long (own_U k5)), .second, .unset, .unset] [(.long ((x0.toUInt64 >>> ((40 : Int32) &&& 0x3f).toInt64.toUInt64).toInt64)), (.long (own_U k5))])) rfl (hb hby at_208) _ kz) ?_
    refine own_g (mkF m 212 #[.val (.long x0), .second, .val (.int x1), .val (.int (7 : Int32)), .val (.ref o3), .val (.long (own_U k5)), .second, .unset, .unset] [(.long (((x0.toUInt64 >>> ((40 : Int32) &&& 0x3f).toInt64.toUInt64).toInt64) &&& (255 : Int64))), (.long (own_U k5))]) (fun _ kz => XS.land X61.here hx rfl (hb hby at_211) rfl kz) ?_
    refine own_g (mkF m 213 #[.val (.long x0), .second, .val (.int x1), .val (.int (7 : Int32)), .val (.ref o3), .val (.long (own_U k5)), .second, .unset, .unset] [(.int (((x0.toUInt64 >>> ((40 : Int32) &&& 0x3f).toInt64.toUInt64).toInt64) &&& (255 : Int64)).toInt32), (.long (own_U k5))]) (fun _ kz => XS.l2i X61.here hx rfl (hb hby at_212) rfl kz) ?_
    refine own_callS (rest := []) (as := [(.long (own_U k5)), (.int (((x0.toUInt64 >>> ((40 : Int32) &&& 0x3f).toInt64.toUInt64).toInt64) &&& (255 : Int64)).toInt32)]) X61 hx hZ hown e61 (own_c_step l Z a0 hw (own_U k5) (((x0.toUInt64 >>> ((40 : Int32) &&& 0x3f).toInt64.toUInt64).toInt64) &&& (255 : Int64)).toInt32 h20) (own_w hw 3 rfl) (own_w hw 4 rfl) (own_w hw 5 rfl) (own_w hw 6 rfl) (by decide) own_pd3 rfl (by rw [hml]; rfl) rfl (hb hby at_213) 0 (by show 2 * 0 + _ ≤ _; exact Nat.le_of_eq rfl) (by decide) (by decide) (by decide) (by decide) ?_
    rintro _ T62 L62 X62 ⟨rfl, rfl, e62⟩
    have N62 := Fr.app N61 (Fr.nil n0)
    show own_E p e below _ (T62.setTop (mkF m 216 #[.val (.long x0), .second, .val (.int x1), .val (.int (7 : Int32)), .val (.ref o3), .val (.long (own_U k5)), .second, .unset, .unset] [(.long (own_step (own_U k5) (((x0.toUInt64 >>> ((40 : Int32) &&& 0x3f).toInt64.toUInt64).toInt64) &&& (255 : Int64)).toInt32))]))
    obtain ⟨k6, hk6, qk6⟩ : ∃ z, z = own_o2 k5 (own_b ((x0.toUInt64 >>> ((40 : Int32) &&& 0x3f).toInt64.toUInt64).toInt64)) ∧ own_step (own_U k5) (((x0.toUInt64 >>> ((40 : Int32) &&& 0x3f).toInt64.toUInt64).toInt64) &&& (255 : Int64)).toInt32 = own_U z := ⟨_, rfl, own_st k5 ((x0.toUInt64 >>> ((40 : Int32) &&& 0x3f).toInt64.toUInt64).toInt64)⟩
    rw [qk6]
    show own_E p e below _ (T62.setTop (mkF m 216 #[.val (.long x0), .second, .val (.int x1), .val (.int (7 : Int32)), .val (.ref o3), .val (.long (own_U k5)), .second, .unset, .unset] [(.long (own_U k6))]))
    refine own_g (mkF m 218 #[.val (.long x0), .second, .val (.int x1), .val (.int (7 : Int32)), .val (.ref o3), .val (.long (own_U k6)), .second, .unset, .unset] []) (fun _ kz => XS.lstore X62.here hx rfl (hb hby at_216) rfl (l' := #[.val (.long x0), .second, .val (.int x1), .val (.int (7 : Int32)), .val (.ref o3), .val (.long (own_U k6)), .second, .unset, .unset]) rfl kz) ?_
    refine own_g (mkF m 219 #[.val (.long x0), .second, .val (.int x1), .val (.int (7 : Int32)), .val (.ref o3), .val (.long (own_U k6)), .second, .unset, .unset] [(.int (7 : Int32))]) (fun _ kz => XS.iloadN X62.here hx rfl (hb hby at_218) rfl kz) ?_
    refine own_g (mkF m 221 #[.val (.long x0), .second, .val (.int x1), .val (.int (7 : Int32)), .val (.ref o3), .val (.long (own_U k6)), .second, .unset, .unset] [(.int (6 : Int32)), (.int (7 : Int32))]) (fun _ kz => XS.bipush X62.here hx rfl (hb hby at_219) kz) ?_
    refine own_g (mkF m 224 #[.val (.long x0), .second, .val (.int x1), .val (.int (7 : Int32)), .val (.ref o3), .val (.long (own_U k6)), .second, .unset, .unset] []) (fun _ kz => XS.icmpNo X62.here hx rfl (hb hby at_221) rfl (tlt (by decide)).2.2.2 kz) ?_
    refine own_g (mkF m 226 #[.val (.long x0), .second, .val (.int x1), .val (.int (7 : Int32)), .val (.ref o3), .val (.long (own_U k6)), .second, .unset, .unset] [(.long (own_U k6))]) (fun _ kz => XS.lload X62.here hx rfl (hb hby at_224) rfl kz) ?_
    refine own_g (mkF m 227 #[.val (.long x0), .second, .val (.int x1), .val (.int (7 : Int32)), .val (.ref o3), .val (.long (own_U k6)), .second, .unset, .unset] [(.long x0), (.long (own_U k6))]) (fun _ kz => XS.lloadN X62.here hx rfl (hb hby at_226) rfl kz) ?_
    refine own_g (mkF m 229 #[.val (.long x0), .second, .val (.int x1), .val (.int (7 : Int32)), .val (.ref o3), .val (.long (own_U k6)), .second, .unset, .unset] [(.int (48 : Int32)), (.long x0), (.long (own_U k6))]) (fun _ kz => XS.bipush X62.here hx rfl (hb hby at_227) kz) ?_
    refine own_g (mkF m 230 #[.val (.long x0), .second, .val (.int x1), .val (.int (7 : Int32)), .val (.ref o3), .val (.long (own_U k6)), .second, .unset, .unset] [(.long ((x0.toUInt64 >>> ((48 : Int32) &&& 0x3f).toInt64.toUInt64).toInt64)), (.long (own_U k6))]) (fun _ kz => XS.lushr X62.here hx rfl (hb hby at_229) rfl kz) ?_
    refine own_g (mkF m 233 #[.val (.long x0), .second, .val (.int x1), .val (.int (7 : Int32)), .val (.ref o3), .val (.long (own_U k6)), .second, .unset, .unset] [(.long (255 : Int64)), (.long ((x0.toUInt64 >>> ((48 : Int32) &&& 0x3f).toInt64.toUInt64).toInt64)), (.long (own_U k6))]) (fun _ kz => X62.ldc2Long hx hown (mvT hZ (own_w hw 2 rfl)) (g := (mkF m 230 #[.val (.long x0), .second, .val (.int x1), .val (.int (7 : Int32)), .val (.ref o3), .val (.long (own_U k6)), .second, .unset, .unset] [(.long ((x0.toUInt64 >>> ((48 : Int32) &&& 0x3f).toInt64.toUInt64).toInt64)), (.long (own_U k6))])) rfl (hb hby at_230) _ kz) ?_
    refine own_g (mkF m 234 #[.val (.long x0), .second, .val (.int x1), .val (.int (7 : Int32)), .val (.ref o3), .val (.long (own_U k6)), .second, .unset, .unset] [(.long (((x0.toUInt64 >>> ((48 : Int32) &&& 0x3f).toInt64.toUInt64).toInt64) &&& (255 : Int64))), (.long (own_U k6))]) (fun _ kz => XS.land X62.here hx rfl (hb hby at_233) rfl kz) ?_
    refine own_g (mkF m 235 #[.val (.long x0), .second, .val (.int x1), .val (.int (7 : Int32)), .val (.ref o3), .val (.long (own_U k6)), .second, .unset, .unset] [(.int (((x0.toUInt64 >>> ((48 : Int32) &&& 0x3f).toInt64.toUInt64).toInt64) &&& (255 : Int64)).toInt32), (.long (own_U k6))]) (fun _ kz => XS.l2i X62.here hx rfl (hb hby at_234) rfl kz) ?_
    refine own_callS (rest := []) (as := [(.long (own_U k6)), (.int (((x0.toUInt64 >>> ((48 : Int32) &&& 0x3f).toInt64.toUInt64).toInt64) &&& (255 : Int64)).toInt32)]) X62 hx hZ hown e62 (own_c_step l Z a0 hw (own_U k6) (((x0.toUInt64 >>> ((48 : Int32) &&& 0x3f).toInt64.toUInt64).toInt64) &&& (255 : Int64)).toInt32 h20) (own_w hw 3 rfl) (own_w hw 4 rfl) (own_w hw 5 rfl) (own_w hw 6 rfl) (by decide) own_pd3 rfl (by rw [hml]; rfl) rfl (hb hby at_235) 0 (by show 2 * 0 + _ ≤ _; exact Nat.le_of_eq rfl) (by decide) (by decide) (by decide) (by decide) ?_
    rintro _ T63 L63 X63 ⟨rfl, rfl, e63⟩
    have N63 := Fr.app N62 (Fr.nil n0)
    show own_E p e below _ (T63.setTop (mkF m 238 #[.val (.long x0), .second, .val (.int x1), .val (.int (7 : Int32)), .val (.ref o3), .val (.long (own_U k6)), .second, .unset, .unset] [(.long (own_step (own_U k6) (((x0.toUInt64 >>> ((48 : Int32) &&& 0x3f).toInt64.toUInt64).toInt64) &&& (255 : Int64)).toInt32))]))
    obtain ⟨k7, hk7, qk7⟩ : ∃ z, z = own_o2 k6 (own_b ((x0.toUInt64 >>> ((48 : Int32) &&& 0x3f).toInt64.toUInt64).toInt64)) ∧ own_step (own_U k6) (((x0.toUInt64 >>> ((48 : Int32) &&& 0x3f).toInt64.toUInt64).toInt64) &&& (255 : Int64)).toInt32 = own_U z := ⟨_, rfl, own_st k6 ((x0.toUInt64 >>> ((48 : Int32) &&& 0x3f).toInt64.toUInt64).toInt64)⟩
    rw [qk7]
    show own_E p e below _ (T63.setTop (mkF m 238 #[.val (.long x0), .second, .val (.int x1), .val (.int (7 : Int32)), .val (.ref o3), .val (.long (own_U k6)), .second, .unset, .unset] [(.long (own_U k7))]))
    refine own_g (mkF m 240 #[.val (.long x0), .second, .val (.int x1), .val (.int (7 : Int32)), .val (.ref o3), .val (.long (own_U k7)), .second, .unset, .unset] []) (fun _ kz => XS.lstore X63.here hx rfl (hb hby at_238) rfl (l' := #[.val (.long x0), .second, .val (.int x1), .val (.int (7 : Int32)), .val (.ref o3), .val (.long (own_U k7)), .second, .unset, .unset]) rfl kz) ?_
    refine own_g (mkF m 241 #[.val (.long x0), .second, .val (.int x1), .val (.int (7 : Int32)), .val (.ref o3), .val (.long (own_U k7)), .second, .unset, .unset] [(.int (7 : Int32))]) (fun _ kz => XS.iloadN X63.here hx rfl (hb hby at_240) rfl kz) ?_
    refine own_g (mkF m 243 #[.val (.long x0), .second, .val (.int x1), .val (.int (7 : Int32)), .val (.ref o3), .val (.long (own_U k7)), .second, .unset, .unset] [(.int (7 : Int32)), (.int (7 : Int32))]) (fun _ kz => XS.bipush X63.here hx rfl (hb hby at_241) kz) ?_
    refine own_g (mkF m 262 #[.val (.long x0), .second, .val (.int x1), .val (.int (7 : Int32)), .val (.ref o3), .val (.long (own_U k7)), .second, .unset, .unset] []) (fun _ kz => XS.icmpYes X63.here hx rfl (pc0 := 243) (pc' := 262) rfl (hb hby at_243) rfl (flt (by decide)).2.2.2 (by decide) (by decide) kz) ?_
    refine own_g (mkF m 264 #[.val (.long x0), .second, .val (.int x1), .val (.int (7 : Int32)), .val (.ref o3), .val (.long (own_U k7)), .second, .unset, .unset] [(.long (own_U k7))]) (fun _ kz => XS.lload X63.here hx rfl (hb hby at_262) rfl kz) ?_
    refine own_callS (rest := []) (as := [(.long (own_U k7))]) X63 hx hZ hown e63 (own_c_fin l Z a0 hw (own_U k7) h20) (own_w hw 9 rfl) (own_w hw 10 rfl) (own_w hw 5 rfl) (own_w hw 11 rfl) (by decide) own_pd1 rfl (by rw [hml]; rfl) rfl (hb hby at_264) 0 (by show 2 * 0 + _ ≤ _; exact Nat.le_of_eq rfl) (by decide) (by decide) (by decide) (by decide) ?_
    rintro _ T64 L64 X64 ⟨rfl, rfl, e64⟩
    have N64 := Fr.app N63 (Fr.nil n0)
    show own_E p e below _ (T64.setTop (mkF m 267 #[.val (.long x0), .second, .val (.int x1), .val (.int (7 : Int32)), .val (.ref o3), .val (.long (own_U k7)), .second, .unset, .unset] [(.long (own_fin (own_U k7)))]))
    refine own_g (mkF m 269 #[.val (.long x0), .second, .val (.int x1), .val (.int (7 : Int32)), .val (.ref o3), .val (.long (own_U k7)), .second, .val (.long (own_fin (own_U k7))), .second] []) (fun _ kz => XS.lstore X64.here hx rfl (hb hby at_267) rfl (l' := #[.val (.long x0), .second, .val (.int x1), .val (.int (7 : Int32)), .val (.ref o3), .val (.long (own_U k7)), .second, .val (.long (own_fin (own_U k7))), .second]) rfl kz) ?_
    refine own_g (mkF m 271 #[.val (.long x0), .second, .val (.int x1), .val (.int (7 : Int32)), .val (.ref o3), .val (.long (own_U k7)), .second, .val (.long (own_fin (own_U k7))), .second] [(.ref o3)]) (fun _ kz => XS.aload X64.here hx rfl (hb hby at_269) rfl rfl kz) ?_
    refine own_g (mkF m 272 #[.val (.long x0), .second, .val (.int x1), .val (.int (7 : Int32)), .val (.ref o3), .val (.long (own_U k7)), .second, .val (.long (own_fin (own_U k7))), .second] [(.int (7 : Int32)), (.ref o3)]) (fun _ kz => XS.iloadN X64.here hx rfl (hb hby at_271) rfl kz) ?_
    refine own_callS (rest := []) (as := [(.ref o3), (.int (7 : Int32))]) X64 hx hZ hown e64 (own_c_oat l Z a0 hw o3 7 F h20 (by decide) AF) (own_w hw 14 rfl) (own_w hw 15 rfl) (own_w hw 16 rfl) (own_w hw 17 rfl) (by decide) own_pd2 rfl (by rw [hml]; rfl) rfl (hb hby at_272) 0 (by show 2 * 0 + _ ≤ _; exact Nat.le_of_eq rfl) (by decide) (by decide) (by decide) (by decide) ?_
    rintro _ T65 L65 X65 ⟨rfl, rfl, e65⟩
    have N65 := Fr.app N64 (Fr.nil n0)
    show own_E p e below _ (T65.setTop (mkF m 275 #[.val (.long x0), .second, .val (.int x1), .val (.int (7 : Int32)), .val (.ref o3), .val (.long (own_U k7)), .second, .val (.long (own_fin (own_U k7))), .second] [(.long (own_U (own_g3 (own_fold F 7 0 0))))]))
    refine own_g (mkF m 277 #[.val (.long x0), .second, .val (.int x1), .val (.int (7 : Int32)), .val (.ref o3), .val (.long (own_U k7)), .second, .val (.long (own_fin (own_U k7))), .second] [(.long (own_fin (own_U k7))), (.long (own_U (own_g3 (own_fold F 7 0 0))))]) (fun _ kz => XS.lload X65.here hx rfl (hb hby at_275) rfl kz) ?_
    refine own_g (mkF m 278 #[.val (.long x0), .second, .val (.int x1), .val (.int (7 : Int32)), .val (.ref o3), .val (.long (own_U k7)), .second, .val (.long (own_fin (own_U k7))), .second] [(.int (lcmpW (own_U (own_g3 (own_fold F 7 0 0))) (own_fin (own_U k7))))]) (fun _ kz => XS.lcmp X65.here hx rfl (hb hby at_277) rfl kz) ?_
    refine own_g (mkF m 281 #[.val (.long x0), .second, .val (.int x1), .val (.int (7 : Int32)), .val (.ref o3), .val (.long (own_U k7)), .second, .val (.long (own_fin (own_U k7))), .second] []) (fun _ kz => XS.ifNo X65.here hx rfl (hb hby at_278) rfl ((if0 _ _).trans (teq (own_lcT (by rw [own_fi]; simp only [own_fold, hF0, hk1, hF1, hk2, hF2, hk3, hF3, hk4, hF4, hk5, hF5, hk6, hF6, hk7]))).2) kz) ?_
    refine own_g (mkF m 282 #[.val (.long x0), .second, .val (.int x1), .val (.int (7 : Int32)), .val (.ref o3), .val (.long (own_U k7)), .second, .val (.long (own_fin (own_U k7))), .second] [(.int (1 : Int32))]) (fun _ kz => XS.iconst X65.here hx rfl (hb hby at_281) kz) ?_
    refine own_g (mkF m 286 #[.val (.long x0), .second, .val (.int x1), .val (.int (7 : Int32)), .val (.ref o3), .val (.long (own_U k7)), .second, .val (.long (own_fin (own_U k7))), .second] [(.int (1 : Int32))]) (fun _ kz => XS.goto X65.here hx rfl (pc0 := 282) (pc' := 286) rfl (hb hby at_282) (by decide) (by decide) kz) ?_
    exact own_retZ X65 hx hret hlk (hb hby at_286) rfl (by decide) (by decide) (by first | exact ⟨rfl, N65⟩ | (rw [e65]; exact ⟨rfl, N65⟩))
  | 8, _ =>
    show own_E p e below _ (T20.setTop (mkF m 96 #[.val (.long x0), .second, .val (.int x1), .val (.int (8 : Int32)), .val (.ref o3), .val (.long (own_U (0 : Int32))), .second, .unset, .unset] []))
    refine own_g (mkF m 97 #[.val (.long x0), .second, .val (.int x1), .val (.int (8 : Int32)), .val (.ref o3), .val (.long (own_U (0 : Int32))), .second, .unset, .unset] [(.int (8 : Int32))]) (fun _ kz => XS.iloadN X20.here hx rfl (hb hby at_96) rfl kz) ?_
    refine own_g (mkF m 100 #[.val (.long x0), .second, .val (.int x1), .val (.int (8 : Int32)), .val (.ref o3), .val (.long (own_U (0 : Int32))), .second, .unset, .unset] []) (fun _ kz => XS.ifNo X20.here hx rfl (hb hby at_97) rfl ((if0 _ _).trans (tlt (by decide)).2.2.2) kz) ?_
    refine own_g (mkF m 102 #[.val (.long x0), .second, .val (.int x1), .val (.int (8 : Int32)), .val (.ref o3), .val (.long (own_U (0 : Int32))), .second, .unset, .unset] [(.long (own_U (0 : Int32)))]) (fun _ kz => XS.lload X20.here hx rfl (hb hby at_100) rfl kz) ?_
    refine own_g (mkF m 103 #[.val (.long x0), .second, .val (.int x1), .val (.int (8 : Int32)), .val (.ref o3), .val (.long (own_U (0 : Int32))), .second, .unset, .unset] [(.long x0), (.long (own_U (0 : Int32)))]) (fun _ kz => XS.lloadN X20.here hx rfl (hb hby at_102) rfl kz) ?_
    refine own_g (mkF m 106 #[.val (.long x0), .second, .val (.int x1), .val (.int (8 : Int32)), .val (.ref o3), .val (.long (own_U (0 : Int32))), .second, .unset, .unset] [(.long (255 : Int64)), (.long x0), (.long (own_U (0 : Int32)))]) (fun _ kz => X20.ldc2Long hx hown (mvT hZ (own_w hw 2 rfl)) (g := (mkF m 103 #[.val (.long x0), .second, .val (.int x1), .val (.int (8 : Int32)), .val (.ref o3), .val (.long (own_U (0 : Int32))), .second, .unset, .unset] [(.long x0), (.long (own_U (0 : Int32)))])) rfl (hb hby at_103) _ kz) ?_
    refine own_g (mkF m 107 #[.val (.long x0), .second, .val (.int x1), .val (.int (8 : Int32)), .val (.ref o3), .val (.long (own_U (0 : Int32))), .second, .unset, .unset] [(.long (x0 &&& (255 : Int64))), (.long (own_U (0 : Int32)))]) (fun _ kz => XS.land X20.here hx rfl (hb hby at_106) rfl kz) ?_
    refine own_g (mkF m 108 #[.val (.long x0), .second, .val (.int x1), .val (.int (8 : Int32)), .val (.ref o3), .val (.long (own_U (0 : Int32))), .second, .unset, .unset] [(.int (x0 &&& (255 : Int64)).toInt32), (.long (own_U (0 : Int32)))]) (fun _ kz => XS.l2i X20.here hx rfl (hb hby at_107) rfl kz) ?_
    refine own_callS (rest := []) (as := [(.long (own_U (0 : Int32))), (.int (x0 &&& (255 : Int64)).toInt32)]) X20 hx hZ hown e20 (own_c_step l Z a0 hw (own_U (0 : Int32)) (x0 &&& (255 : Int64)).toInt32 h20) (own_w hw 3 rfl) (own_w hw 4 rfl) (own_w hw 5 rfl) (own_w hw 6 rfl) (by decide) own_pd3 rfl (by rw [hml]; rfl) rfl (hb hby at_108) 0 (by show 2 * 0 + _ ≤ _; exact Nat.le_of_eq rfl) (by decide) (by decide) (by decide) (by decide) ?_
    rintro _ T66 L66 X66 ⟨rfl, rfl, e66⟩
    have N66 := Fr.app N20 (Fr.nil n0)
    show own_E p e below _ (T66.setTop (mkF m 111 #[.val (.long x0), .second, .val (.int x1), .val (.int (8 : Int32)), .val (.ref o3), .val (.long (own_U (0 : Int32))), .second, .unset, .unset] [(.long (own_step (own_U (0 : Int32)) (x0 &&& (255 : Int64)).toInt32))]))
    obtain ⟨k1, hk1, qk1⟩ : ∃ z, z = own_o2 (0 : Int32) (own_b x0) ∧ own_step (own_U (0 : Int32)) (x0 &&& (255 : Int64)).toInt32 = own_U z := ⟨_, rfl, own_st (0 : Int32) x0⟩
    rw [qk1]
    show own_E p e below _ (T66.setTop (mkF m 111 #[.val (.long x0), .second, .val (.int x1), .val (.int (8 : Int32)), .val (.ref o3), .val (.long (own_U (0 : Int32))), .second, .unset, .unset] [(.long (own_U k1))]))
    refine own_g (mkF m 113 #[.val (.long x0), .second, .val (.int x1), .val (.int (8 : Int32)), .val (.ref o3), .val (.long (own_U k1)), .second, .unset, .unset] []) (fun _ kz => XS.lstore X66.here hx rfl (hb hby at_111) rfl (l' := #[.val (.long x0), .second, .val (.int x1), .val (.int (8 : Int32)), .val (.ref o3), .val (.long (own_U k1)), .second, .unset, .unset]) rfl kz) ?_
    refine own_g (mkF m 114 #[.val (.long x0), .second, .val (.int x1), .val (.int (8 : Int32)), .val (.ref o3), .val (.long (own_U k1)), .second, .unset, .unset] [(.int (8 : Int32))]) (fun _ kz => XS.iloadN X66.here hx rfl (hb hby at_113) rfl kz) ?_
    refine own_g (mkF m 115 #[.val (.long x0), .second, .val (.int x1), .val (.int (8 : Int32)), .val (.ref o3), .val (.long (own_U k1)), .second, .unset, .unset] [(.int (1 : Int32)), (.int (8 : Int32))]) (fun _ kz => XS.iconst X66.here hx rfl (hb hby at_114) kz) ?_
    refine own_g (mkF m 118 #[.val (.long x0), .second, .val (.int x1), .val (.int (8 : Int32)), .val (.ref o3), .val (.long (own_U k1)), .second, .unset, .unset] []) (fun _ kz => XS.icmpNo X66.here hx rfl (hb hby at_115) rfl (tlt (by decide)).2.2.2 kz) ?_
    refine own_g (mkF m 120 #[.val (.long x0), .second, .val (.int x1), .val (.int (8 : Int32)), .val (.ref o3), .val (.long (own_U k1)), .second, .unset, .unset] [(.long (own_U k1))]) (fun _ kz => XS.lload X66.here hx rfl (hb hby at_118) rfl kz) ?_
    refine own_g (mkF m 121 #[.val (.long x0), .second, .val (.int x1), .val (.int (8 : Int32)), .val (.ref o3), .val (.long (own_U k1)), .second, .unset, .unset] [(.long x0), (.long (own_U k1))]) (fun _ kz => XS.lloadN X66.here hx rfl (hb hby at_120) rfl kz) ?_
    refine own_g (mkF m 123 #[.val (.long x0), .second, .val (.int x1), .val (.int (8 : Int32)), .val (.ref o3), .val (.long (own_U k1)), .second, .unset, .unset] [(.int (8 : Int32)), (.long x0), (.long (own_U k1))]) (fun _ kz => XS.bipush X66.here hx rfl (hb hby at_121) kz) ?_
    refine own_g (mkF m 124 #[.val (.long x0), .second, .val (.int x1), .val (.int (8 : Int32)), .val (.ref o3), .val (.long (own_U k1)), .second, .unset, .unset] [(.long ((x0.toUInt64 >>> ((8 : Int32) &&& 0x3f).toInt64.toUInt64).toInt64)), (.long (own_U k1))]) (fun _ kz => XS.lushr X66.here hx rfl (hb hby at_123) rfl kz) ?_
    refine own_g (mkF m 127 #[.val (.long x0), .second, .val (.int x1), .val (.int (8 : Int32)), .val (.ref o3), .val (.long (own_U k1)), .second, .unset, .unset] [(.long (255 : Int64)), (.long ((x0.toUInt64 >>> ((8 : Int32) &&& 0x3f).toInt64.toUInt64).toInt64)), (.long (own_U k1))]) (fun _ kz => X66.ldc2Long hx hown (mvT hZ (own_w hw 2 rfl)) (g := (mkF m 124 #[.val (.long x0), .second, .val (.int x1), .val (.int (8 : Int32)), .val (.ref o3), .val (.long (own_U k1)), .second, .unset, .unset] [(.long ((x0.toUInt64 >>> ((8 : Int32) &&& 0x3f).toInt64.toUInt64).toInt64)), (.long (own_U k1))])) rfl (hb hby at_124) _ kz) ?_
    refine own_g (mkF m 128 #[.val (.long x0), .second, .val (.int x1), .val (.int (8 : Int32)), .val (.ref o3), .val (.long (own_U k1)), .second, .unset, .unset] [(.long (((x0.toUInt64 >>> ((8 : Int32) &&& 0x3f).toInt64.toUInt64).toInt64) &&& (255 : Int64))), (.long (own_U k1))]) (fun _ kz => XS.land X66.here hx rfl (hb hby at_127) rfl kz) ?_
    refine own_g (mkF m 129 #[.val (.long x0), .second, .val (.int x1), .val (.int (8 : Int32)), .val (.ref o3), .val (.long (own_U k1)), .second, .unset, .unset] [(.int (((x0.toUInt64 >>> ((8 : Int32) &&& 0x3f).toInt64.toUInt64).toInt64) &&& (255 : Int64)).toInt32), (.long (own_U k1))]) (fun _ kz => XS.l2i X66.here hx rfl (hb hby at_128) rfl kz) ?_
    refine own_callS (rest := []) (as := [(.long (own_U k1)), (.int (((x0.toUInt64 >>> ((8 : Int32) &&& 0x3f).toInt64.toUInt64).toInt64) &&& (255 : Int64)).toInt32)]) X66 hx hZ hown e66 (own_c_step l Z a0 hw (own_U k1) (((x0.toUInt64 >>> ((8 : Int32) &&& 0x3f).toInt64.toUInt64).toInt64) &&& (255 : Int64)).toInt32 h20) (own_w hw 3 rfl) (own_w hw 4 rfl) (own_w hw 5 rfl) (own_w hw 6 rfl) (by decide) own_pd3 rfl (by rw [hml]; rfl) rfl (hb hby at_129) 0 (by show 2 * 0 + _ ≤ _; exact Nat.le_of_eq rfl) (by decide) (by decide) (by decide) (by decide) ?_
    rintro _ T67 L67 X67 ⟨rfl, rfl, e67⟩
    have N67 := Fr.app N66 (Fr.nil n0)
    show own_E p e below _ (T67.setTop (mkF m 132 #[.val (.long x0), .second, .val (.int x1), .val (.int (8 : Int32)), .val (.ref o3), .val (.long (own_U k1)), .second, .unset, .unset] [(.long (own_step (own_U k1) (((x0.toUInt64 >>> ((8 : Int32) &&& 0x3f).toInt64.toUInt64).toInt64) &&& (255 : Int64)).toInt32))]))
    obtain ⟨k2, hk2, qk2⟩ : ∃ z, z = own_o2 k1 (own_b ((x0.toUInt64 >>> ((8 : Int32) &&& 0x3f).toInt64.toUInt64).toInt64)) ∧ own_step (own_U k1) (((x0.toUInt64 >>> ((8 : Int32) &&& 0x3f).toInt64.toUInt64).toInt64) &&& (255 : Int64)).toInt32 = own_U z := ⟨_, rfl, own_st k1 ((x0.toUInt64 >>> ((8 : Int32) &&& 0x3f).toInt64.toUInt64).toInt64)⟩
    rw [qk2]
    show own_E p e below _ (T67.setTop (mkF m 132 #[.val (.long x0), .second, .val (.int x1), .val (.int (8 : Int32)), .val (.ref o3), .val (.long (own_U k1)), .second, .unset, .unset] [(.long (own_U k2))]))
    refine own_g (mkF m 134 #[.val (.long x0), .second, .val (.int x1), .val (.int (8 : Int32)), .val (.ref o3), .val (.long (own_U k2)), .second, .unset, .unset] []) (fun _ kz => XS.lstore X67.here hx rfl (hb hby at_132) rfl (l' := #[.val (.long x0), .second, .val (.int x1), .val (.int (8 : Int32)), .val (.ref o3), .val (.long (own_U k2)), .second, .unset, .unset]) rfl kz) ?_
    refine own_g (mkF m 135 #[.val (.long x0), .second, .val (.int x1), .val (.int (8 : Int32)), .val (.ref o3), .val (.long (own_U k2)), .second, .unset, .unset] [(.int (8 : Int32))]) (fun _ kz => XS.iloadN X67.here hx rfl (hb hby at_134) rfl kz) ?_
    refine own_g (mkF m 136 #[.val (.long x0), .second, .val (.int x1), .val (.int (8 : Int32)), .val (.ref o3), .val (.long (own_U k2)), .second, .unset, .unset] [(.int (2 : Int32)), (.int (8 : Int32))]) (fun _ kz => XS.iconst X67.here hx rfl (hb hby at_135) kz) ?_
    refine own_g (mkF m 139 #[.val (.long x0), .second, .val (.int x1), .val (.int (8 : Int32)), .val (.ref o3), .val (.long (own_U k2)), .second, .unset, .unset] []) (fun _ kz => XS.icmpNo X67.here hx rfl (hb hby at_136) rfl (tlt (by decide)).2.2.2 kz) ?_
    refine own_g (mkF m 141 #[.val (.long x0), .second, .val (.int x1), .val (.int (8 : Int32)), .val (.ref o3), .val (.long (own_U k2)), .second, .unset, .unset] [(.long (own_U k2))]) (fun _ kz => XS.lload X67.here hx rfl (hb hby at_139) rfl kz) ?_
    refine own_g (mkF m 142 #[.val (.long x0), .second, .val (.int x1), .val (.int (8 : Int32)), .val (.ref o3), .val (.long (own_U k2)), .second, .unset, .unset] [(.long x0), (.long (own_U k2))]) (fun _ kz => XS.lloadN X67.here hx rfl (hb hby at_141) rfl kz) ?_
    refine own_g (mkF m 144 #[.val (.long x0), .second, .val (.int x1), .val (.int (8 : Int32)), .val (.ref o3), .val (.long (own_U k2)), .second, .unset, .unset] [(.int (16 : Int32)), (.long x0), (.long (own_U k2))]) (fun _ kz => XS.bipush X67.here hx rfl (hb hby at_142) kz) ?_
    refine own_g (mkF m 145 #[.val (.long x0), .second, .val (.int x1), .val (.int (8 : Int32)), .val (.ref o3), .val (.long (own_U k2)), .second, .unset, .unset] [(.long ((x0.toUInt64 >>> ((16 : Int32) &&& 0x3f).toInt64.toUInt64).toInt64)), (.long (own_U k2))]) (fun _ kz => XS.lushr X67.here hx rfl (hb hby at_144) rfl kz) ?_
    refine own_g (mkF m 148 #[.val (.long x0), .second, .val (.int x1), .val (.int (8 : Int32)), .val (.ref o3), .val (.long (own_U k2)), .second, .unset, .unset] [(.long (255 : Int64)), (.long ((x0.toUInt64 >>> ((16 : Int32) &&& 0x3f).toInt64.toUInt64).toInt64)), (.long (own_U k2))]) (fun _ kz => X67.ldc2Long hx hown (mvT hZ (own_w hw 2 rfl)) (g := (mkF m 145 #[.val (.long x0), .second, .val (.int x1), .val (.int (8 : Int32)), .val (.ref o3), .val (.long (own_U k2)), .second, .unset, .unset] [(.long ((x0.toUInt64 >>> ((16 : Int32) &&& 0x3f).toInt64.toUInt64).toInt64)), (.long (own_U k2))])) rfl (hb hby at_145) _ kz) ?_
    refine own_g (mkF m 149 #[.val (.long x0), .second, .val (.int x1), .val (.int (8 : Int32)), .val (.ref o3), .val (.long (own_U k2)), .second, .unset, .unset] [(.long (((x0.toUInt64 >>> ((16 : Int32) &&& 0x3f).toInt64.toUInt64).toInt64) &&& (255 : Int64))), (.long (own_U k2))]) (fun _ kz => XS.land X67.here hx rfl (hb hby at_148) rfl kz) ?_
    refine own_g (mkF m 150 #[.val (.long x0), .second, .val (.int x1), .val (.int (8 : Int32)), .val (.ref o3), .val (.long (own_U k2)), .second, .unset, .unset] [(.int (((x0.toUInt64 >>> ((16 : Int32) &&& 0x3f).toInt64.toUInt64).toInt64) &&& (255 : Int64)).toInt32), (.long (own_U k2))]) (fun _ kz => XS.l2i X67.here hx rfl (hb hby at_149) rfl kz) ?_
    refine own_callS (rest := []) (as := [(.long (own_U k2)), (.int (((x0.toUInt64 >>> ((16 : Int32) &&& 0x3f).toInt64.toUInt64).toInt64) &&& (255 : Int64)).toInt32)]) X67 hx hZ hown e67 (own_c_step l Z a0 hw (own_U k2) (((x0.toUInt64 >>> ((16 : Int32) &&& 0x3f).toInt64.toUInt64).toInt64) &&& (255 : Int64)).toInt32 h20) (own_w hw 3 rfl) (own_w hw 4 rfl) (own_w hw 5 rfl) (own_w hw 6 rfl) (by decide) own_pd3 rfl (by rw [hml]; rfl) rfl (hb hby at_150) 0 (by show 2 * 0 + _ ≤ _; exact Nat.le_of_eq rfl) (by decide) (by decide) (by decide) (by decide) ?_
    rintro _ T68 L68 X68 ⟨rfl, rfl, e68⟩
    have N68 := Fr.app N67 (Fr.nil n0)
    show own_E p e below _ (T68.setTop (mkF m 153 #[.val (.long x0), .second, .val (.int x1), .val (.int (8 : Int32)), .val (.ref o3), .val (.long (own_U k2)), .second, .unset, .unset] [(.long (own_step (own_U k2) (((x0.toUInt64 >>> ((16 : Int32) &&& 0x3f).toInt64.toUInt64).toInt64) &&& (255 : Int64)).toInt32))]))
    obtain ⟨k3, hk3, qk3⟩ : ∃ z, z = own_o2 k2 (own_b ((x0.toUInt64 >>> ((16 : Int32) &&& 0x3f).toInt64.toUInt64).toInt64)) ∧ own_step (own_U k2) (((x0.toUInt64 >>> ((16 : Int32) &&& 0x3f).toInt64.toUInt64).toInt64) &&& (255 : Int64)).toInt32 = own_U z := ⟨_, rfl, own_st k2 ((x0.toUInt64 >>> ((16 : Int32) &&& 0x3f).toInt64.toUInt64).toInt64)⟩
    rw [qk3]
    show own_E p e below _ (T68.setTop (mkF m 153 #[.val (.long x0), .second, .val (.int x1), .val (.int (8 : Int32)), .val (.ref o3), .val (.long (own_U k2)), .second, .unset, .unset] [(.long (own_U k3))]))
    refine own_g (mkF m 155 #[.val (.long x0), .second, .val (.int x1), .val (.int (8 : Int32)), .val (.ref o3), .val (.long (own_U k3)), .second, .unset, .unset] []) (fun _ kz => XS.lstore X68.here hx rfl (hb hby at_153) rfl (l' := #[.val (.long x0), .second, .val (.int x1), .val (.int (8 : Int32)), .val (.ref o3), .val (.long (own_U k3)), .second, .unset, .unset]) rfl kz) ?_
    refine own_g (mkF m 156 #[.val (.long x0), .second, .val (.int x1), .val (.int (8 : Int32)), .val (.ref o3), .val (.long (own_U k3)), .second, .unset, .unset] [(.int (8 : Int32))]) (fun _ kz => XS.iloadN X68.here hx rfl (hb hby at_155) rfl kz) ?_
    refine own_g (mkF m 157 #[.val (.long x0), .second, .val (.int x1), .val (.int (8 : Int32)), .val (.ref o3), .val (.long (own_U k3)), .second, .unset, .unset] [(.int (3 : Int32)), (.int (8 : Int32))]) (fun _ kz => XS.iconst X68.here hx rfl (hb hby at_156) kz) ?_
    refine own_g (mkF m 160 #[.val (.long x0), .second, .val (.int x1), .val (.int (8 : Int32)), .val (.ref o3), .val (.long (own_U k3)), .second, .unset, .unset] []) (fun _ kz => XS.icmpNo X68.here hx rfl (hb hby at_157) rfl (tlt (by decide)).2.2.2 kz) ?_
    refine own_g (mkF m 162 #[.val (.long x0), .second, .val (.int x1), .val (.int (8 : Int32)), .val (.ref o3), .val (.long (own_U k3)), .second, .unset, .unset] [(.long (own_U k3))]) (fun _ kz => XS.lload X68.here hx rfl (hb hby at_160) rfl kz) ?_
    refine own_g (mkF m 163 #[.val (.long x0), .second, .val (.int x1), .val (.int (8 : Int32)), .val (.ref o3), .val (.long (own_U k3)), .second, .unset, .unset] [(.long x0), (.long (own_U k3))]) (fun _ kz => XS.lloadN X68.here hx rfl (hb hby at_162) rfl kz) ?_
    refine own_g (mkF m 165 #[.val (.long x0), .second, .val (.int x1), .val (.int (8 : Int32)), .val (.ref o3), .val (.long (own_U k3)), .second, .unset, .unset] [(.int (24 : Int32)), (.long x0), (.long (own_U k3))]) (fun _ kz => XS.bipush X68.here hx rfl (hb hby at_163) kz) ?_
    refine own_g (mkF m 166 #[.val (.long x0), .second, .val (.int x1), .val (.int (8 : Int32)), .val (.ref o3), .val (.long (own_U k3)), .second, .unset, .unset] [(.long ((x0.toUInt64 >>> ((24 : Int32) &&& 0x3f).toInt64.toUInt64).toInt64)), (.long (own_U k3))]) (fun _ kz => XS.lushr X68.here hx rfl (hb hby at_165) rfl kz) ?_
    refine own_g (mkF m 169 #[.val (.long x0), .second, .val (.int x1), .val (.int (8 : Int32)), .val (.ref o3), .val (.long (own_U k3)), .second, .unset, .unset] [(.long (255 : Int64)), (.long ((x0.toUInt64 >>> ((24 : Int32) &&& 0x3f).toInt64.toUInt64).toInt64)), (.long (own_U k3))]) (fun _ kz => X68.ldc2Long hx hown (mvT hZ (own_w hw 2 rfl)) (g := (mkF m 166 #[.val (.long x0), .second, .val (.int x1), .val (.int (8 : Int32)), .val (.ref o3), .val (.long (own_U k3)), .second, .unset, .unset] [(.long ((x0.toUInt64 >>> ((24 : Int32) &&& 0x3f).toInt64.toUInt64).toInt64)), (.long (own_U k3))])) rfl (hb hby at_166) _ kz) ?_
    refine own_g (mkF m 170 #[.val (.long x0), .second, .val (.int x1), .val (.int (8 : Int32)), .val (.ref o3), .val (.long (own_U k3)), .second, .unset, .unset] [(.long (((x0.toUInt64 >>> ((24 : Int32) &&& 0x3f).toInt64.toUInt64).toInt64) &&& (255 : Int64))), (.long (own_U k3))]) (fun _ kz => XS.land X68.here hx rfl (hb hby at_169) rfl kz) ?_
    refine own_g (mkF m 171 #[.val (.long x0), .second, .val (.int x1), .val (.int (8 : Int32)), .val (.ref o3), .val (.long (own_U k3)), .second, .unset, .unset] [(.int (((x0.toUInt64 >>> ((24 : Int32) &&& 0x3f).toInt64.toUInt64).toInt64) &&& (255 : Int64)).toInt32), (.long (own_U k3))]) (fun _ kz => XS.l2i X68.here hx rfl (hb hby at_170) rfl kz) ?_
    refine own_callS (rest := []) (as := [(.long (own_U k3)), (.int (((x0.toUInt64 >>> ((24 : Int32) &&& 0x3f).toInt64.toUInt64).toInt64) &&& (255 : Int64)).toInt32)]) X68 hx hZ hown e68 (own_c_step l Z a0 hw (own_U k3) (((x0.toUInt64 >>> ((24 : Int32) &&& 0x3f).toInt64.toUInt64).toInt64) &&& (255 : Int64)).toInt32 h20) (own_w hw 3 rfl) (own_w hw 4 rfl) (own_w hw 5 rfl) (own_w hw 6 rfl) (by decide) own_pd3 rfl (by rw [hml]; rfl) rfl (hb hby at_171) 0 (by show 2 * 0 + _ ≤ _; exact Nat.le_of_eq rfl) (by decide) (by decide) (by decide) (by decide) ?_
    rintro _ T69 L69 X69 ⟨rfl, rfl, e69⟩
    have N69 := Fr.app N68 (Fr.nil n0)
    show own_E p e below _ (T69.setTop (mkF m 174 #[.val (.long x0), .second, .val (.int x1), .val (.int (8 : Int32)), .val (.ref o3), .val (.long (own_U k3)), .second, .unset, .unset] [(.long (own_step (own_U k3) (((x0.toUInt64 >>> ((24 : Int32) &&& 0x3f).toInt64.toUInt64).toInt64) &&& (255 : Int64)).toInt32))]))
    obtain ⟨k4, hk4, qk4⟩ : ∃ z, z = own_o2 k3 (own_b ((x0.toUInt64 >>> ((24 : Int32) &&& 0x3f).toInt64.toUInt64).toInt64)) ∧ own_step (own_U k3) (((x0.toUInt64 >>> ((24 : Int32) &&& 0x3f).toInt64.toUInt64).toInt64) &&& (255 : Int64)).toInt32 = own_U z := ⟨_, rfl, own_st k3 ((x0.toUInt64 >>> ((24 : Int32) &&& 0x3f).toInt64.toUInt64).toInt64)⟩
    rw [qk4]
    show own_E p e below _ (T69.setTop (mkF m 174 #[.val (.long x0), .second, .val (.int x1), .val (.int (8 : Int32)), .val (.ref o3), .val (.long (own_U k3)), .second, .unset, .unset] [(.long (own_U k4))]))
    refine own_g (mkF m 176 #[.val (.long x0), .second, .val (.int x1), .val (.int (8 : Int32)), .val (.ref o3), .val (.long (own_U k4)), .second, .unset, .unset] []) (fun _ kz => XS.lstore X69.here hx rfl (hb hby at_174) rfl (l' := #[.val (.long x0), .second, .val (.int x1), .val (.int (8 : Int32)), .val (.ref o3), .val (.long (own_U k4)), .second, .unset, .unset]) rfl kz) ?_
    refine own_g (mkF m 177 #[.val (.long x0), .second, .val (.int x1), .val (.int (8 : Int32)), .val (.ref o3), .val (.long (own_U k4)), .second, .unset, .unset] [(.int (8 : Int32))]) (fun _ kz => XS.iloadN X69.here hx rfl (hb hby at_176) rfl kz) ?_
    refine own_g (mkF m 178 #[.val (.long x0), .second, .val (.int x1), .val (.int (8 : Int32)), .val (.ref o3), .val (.long (own_U k4)), .second, .unset, .unset] [(.int (4 : Int32)), (.int (8 : Int32))]) (fun _ kz => XS.iconst X69.here hx rfl (hb hby at_177) kz) ?_
    refine own_g (mkF m 181 #[.val (.long x0), .second, .val (.int x1), .val (.int (8 : Int32)), .val (.ref o3), .val (.long (own_U k4)), .second, .unset, .unset] []) (fun _ kz => XS.icmpNo X69.here hx rfl (hb hby at_178) rfl (tlt (by decide)).2.2.2 kz) ?_
    refine own_g (mkF m 183 #[.val (.long x0), .second, .val (.int x1), .val (.int (8 : Int32)), .val (.ref o3), .val (.long (own_U k4)), .second, .unset, .unset] [(.long (own_U k4))]) (fun _ kz => XS.lload X69.here hx rfl (hb hby at_181) rfl kz) ?_
    refine own_g (mkF m 184 #[.val (.long x0), .second, .val (.int x1), .val (.int (8 : Int32)), .val (.ref o3), .val (.long (own_U k4)), .second, .unset, .unset] [(.long x0), (.long (own_U k4))]) (fun _ kz => XS.lloadN X69.here hx rfl (hb hby at_183) rfl kz) ?_
    refine own_g (mkF m 186 #[.val (.long x0), .second, .val (.int x1), .val (.int (8 : Int32)), .val (.ref o3), .val (.long (own_U k4)), .second, .unset, .unset] [(.int (32 : Int32)), (.long x0), (.long (own_U k4))]) (fun _ kz => XS.bipush X69.here hx rfl (hb hby at_184) kz) ?_
    refine own_g (mkF m 187 #[.val (.long x0), .second, .val (.int x1), .val (.int (8 : Int32)), .val (.ref o3), .val (.long (own_U k4)), .second, .unset, .unset] [(.long ((x0.toUInt64 >>> ((32 : Int32) &&& 0x3f).toInt64.toUInt64).toInt64)), (.long (own_U k4))]) (fun _ kz => XS.lushr X69.here hx rfl (hb hby at_186) rfl kz) ?_
    refine own_g (mkF m 190 #[.val (.long x0), .second, .val (.int x1), .val (.int (8 : Int32)), .val (.ref o3), .val (.long (own_U k4)), .second, .unset, .unset] [(.long (255 : Int64)), (.long ((x0.toUInt64 >>> ((32 : Int32) &&& 0x3f).toInt64.toUInt64).toInt64)), (.long (own_U k4))]) (fun _ kz => X69.ldc2Long hx hown (mvT hZ (own_w hw 2 rfl)) (g := (mkF m 187 #[.val (.long x0), .second, .val (.int x1), .val (.int (8 : Int32)), .val (.ref o3), .val (.long (own_U k4)), .second, .unset, .unset] [(.long ((x0.toUInt64 >>> ((32 : Int32) &&& 0x3f).toInt64.toUInt64).toInt64)), (.long (own_U k4))])) rfl (hb hby at_187) _ kz) ?_
    refine own_g (mkF m 191 #[.val (.long x0), .second, .val (.int x1), .val (.int (8 : Int32)), .val (.ref o3), .val (.long (own_U k4)), .second, .unset, .unset] [(.long (((x0.toUInt64 >>> ((32 : Int32) &&& 0x3f).toInt64.toUInt64).toInt64) &&& (255 : Int64))), (.long (own_U k4))]) (fun _ kz => XS.land X69.here hx rfl (hb hby at_190) rfl kz) ?_
    refine own_g (mkF m 192 #[.val (.long x0), .second, .val (.int x1), .val (.int (8 : Int32)), .val (.ref o3), .val (.long (own_U k4)), .second, .unset, .unset] [(.int (((x0.toUInt64 >>> ((32 : Int32) &&& 0x3f).toInt64.toUInt64).toInt64) &&& (255 : Int64)).toInt32), (.long (own_U k4))]) (fun _ kz => XS.l2i X69.here hx rfl (hb hby at_191) rfl kz) ?_
    refine own_callS (rest := []) (as := [(.long (own_U k4)), (.int (((x0.toUInt64 >>> ((32 : Int32) &&& 0x3f).toInt64.toUInt64).toInt64) &&& (255 : Int64)).toInt32)]) X69 hx hZ hown e69 (own_c_step l Z a0 hw (own_U k4) (((x0.toUInt64 >>> ((32 : Int32) &&& 0x3f).toInt64.toUInt64).toInt64) &&& (255 : Int64)).toInt32 h20) (own_w hw 3 rfl) (own_w hw 4 rfl) (own_w hw 5 rfl) (own_w hw 6 rfl) (by decide) own_pd3 rfl (by rw [hml]; rfl) rfl (hb hby at_192) 0 (by show 2 * 0 + _ ≤ _; exact Nat.le_of_eq rfl) (by decide) (by decide) (by decide) (by decide) ?_
    rintro _ T70 L70 X70 ⟨rfl, rfl, e70⟩
    have N70 := Fr.app N69 (Fr.nil n0)
    show own_E p e below _ (T70.setTop (mkF m 195 #[.val (.long x0), .second, .val (.int x1), .val (.int (8 : Int32)), .val (.ref o3), .val (.long (own_U k4)), .second, .unset, .unset] [(.long (own_step (own_U k4) (((x0.toUInt64 >>> ((32 : Int32) &&& 0x3f).toInt64.toUInt64).toInt64) &&& (255 : Int64)).toInt32))]))
    obtain ⟨k5, hk5, qk5⟩ : ∃ z, z = own_o2 k4 (own_b ((x0.toUInt64 >>> ((32 : Int32) &&& 0x3f).toInt64.toUInt64).toInt64)) ∧ own_step (own_U k4) (((x0.toUInt64 >>> ((32 : Int32) &&& 0x3f).toInt64.toUInt64).toInt64) &&& (255 : Int64)).toInt32 = own_U z := ⟨_, rfl, own_st k4 ((x0.toUInt64 >>> ((32 : Int32) &&& 0x3f).toInt64.toUInt64).toInt64)⟩
    rw [qk5]
    show own_E p e below _ (T70.setTop (mkF m 195 #[.val (.long x0), .second, .val (.int x1), .val (.int (8 : Int32)), .val (.ref o3), .val (.long (own_U k4)), .second, .unset, .unset] [(.long (own_U k5))]))
    refine own_g (mkF m 197 #[.val (.long x0), .second, .val (.int x1), .val (.int (8 : Int32)), .val (.ref o3), .val (.long (own_U k5)), .second, .unset, .unset] []) (fun _ kz => XS.lstore X70.here hx rfl (hb hby at_195) rfl (l' := #[.val (.long x0), .second, .val (.int x1), .val (.int (8 : Int32)), .val (.ref o3), .val (.long (own_U k5)), .second, .unset, .unset]) rfl kz) ?_
    refine own_g (mkF m 198 #[.val (.long x0), .second, .val (.int x1), .val (.int (8 : Int32)), .val (.ref o3), .val (.long (own_U k5)), .second, .unset, .unset] [(.int (8 : Int32))]) (fun _ kz => XS.iloadN X70.here hx rfl (hb hby at_197) rfl kz) ?_
    refine own_g (mkF m 199 #[.val (.long x0), .second, .val (.int x1), .val (.int (8 : Int32)), .val (.ref o3), .val (.long (own_U k5)), .second, .unset, .unset] [(.int (5 : Int32)), (.int (8 : Int32))]) (fun _ kz => XS.iconst X70.here hx rfl (hb hby at_198) kz) ?_
    refine own_g (mkF m 202 #[.val (.long x0), .second, .val (.int x1), .val (.int (8 : Int32)), .val (.ref o3), .val (.long (own_U k5)), .second, .unset, .unset] []) (fun _ kz => XS.icmpNo X70.here hx rfl (hb hby at_199) rfl (tlt (by decide)).2.2.2 kz) ?_
    refine own_g (mkF m 204 #[.val (.long x0), .second, .val (.int x1), .val (.int (8 : Int32)), .val (.ref o3), .val (.long (own_U k5)), .second, .unset, .unset] [(.long (own_U k5))]) (fun _ kz => XS.lload X70.here hx rfl (hb hby at_202) rfl kz) ?_
    refine own_g (mkF m 205 #[.val (.long x0), .second, .val (.int x1), .val (.int (8 : Int32)), .val (.ref o3), .val (.long (own_U k5)), .second, .unset, .unset] [(.long x0), (.long (own_U k5))]) (fun _ kz => XS.lloadN X70.here hx rfl (hb hby at_204) rfl kz) ?_
    refine own_g (mkF m 207 #[.val (.long x0), .second, .val (.int x1), .val (.int (8 : Int32)), .val (.ref o3), .val (.long (own_U k5)), .second, .unset, .unset] [(.int (40 : Int32)), (.long x0), (.long (own_U k5))]) (fun _ kz => XS.bipush X70.here hx rfl (hb hby at_205) kz) ?_
    refine own_g (mkF m 208 #[.val (.long x0), .second, .val (.int x1), .val (.int (8 : Int32)), .val (.ref o3), .val (.long (own_U k5)), .second, .unset, .unset] [(.long ((x0.toUInt64 >>> ((40 : Int32) &&& 0x3f).toInt64.toUInt64).toInt64)), (.long (own_U k5))]) (fun _ kz => XS.lushr X70.here hx rfl (hb hby at_207) rfl kz) ?_
    refine own_g (mkF m 211 #[.val (.long x0), .second, .val (.int x1), .val (.int (8 : Int32)), .val (.ref o3), .val (.long (own_U k5)), .second, .unset, .unset] [(.long (255 : Int64)), (.long ((x0.toUInt64 >>> ((40 : Int32) &&& 0x3f).toInt64.toUInt64).toInt64)), (.long (own_U k5))]) (fun _ kz => X70.ldc2Long hx hown (mvT hZ (own_w hw 2 rfl)) (g := (mkF m 208 #[.val (.long x0), .second, .val (.int x1), .val (.int (8 : Int32)), .val (.ref o3), .val (.long (own_U k5)), .second, .unset, .unset] [(.long ((x0.toUInt64 >>> ((40 : Int32) &&& 0x3f).toInt64.toUInt64).toInt64)), (.long (own_U k5))])) rfl (hb hby at_208) _ kz) ?_
    refine own_g (mkF m 212 #[.val (.long x0), .second, .val (.int x1), .val (.int (8 : Int32)), .val (.ref o3), .val (.long (own_U k5)), .second, .unset, .unset] [(.long (((x0.toUInt64 >>> ((40 : Int32) &&& 0x3f).toInt64.toUInt64).toInt64) &&& (255 : Int64))), (.long (own_U k5))]) (fun _ kz => XS.land X70.here hx rfl (hb hby at_211) rfl kz) ?_
    refine own_g (mkF m 213 #[.val (.long x0), .second, .val (.int x1), .val (.int (8 : Int32)), .val (.ref o3), .val (.long (own_U k5)), .second, .unset, .unset] [(.int (((x0.toUInt64 >>> ((40 : Int32) &&& 0x3f).toInt64.toUInt64).toInt64) &&& (255 : Int64)).toInt32), (.long (own_U k5))]) (fun _ kz => XS.l2i X70.here hx rfl (hb hby at_212) rfl kz) ?_
    refine own_callS (rest := []) (as := [(.long (own_U k5)), (.int (((x0.toUInt64 >>> ((40 : Int32) &&& 0x3f).toInt64.toUInt64).toInt64) &&& (255 : Int64)).toInt32)]) X70 hx hZ hown e70 (own_c_step l Z a0 hw (own_U k5) (((x0.toUInt64 >>> ((40 : Int32) &&& 0x3f).toInt64.toUInt64).toInt64) &&& (255 : Int64)).toInt32 h20) (own_w hw 3 rfl) (own_w hw 4 rfl) (own_w hw 5 rfl) (own_w hw 6 rfl) (by decide) own_pd3 rfl (by rw [hml]; rfl) rfl (hb hby at_213) 0 (by show 2 * 0 + _ ≤ _; exact Nat.le_of_eq rfl) (by decide) (by decide) (by decide) (by decide) ?_
    rintro _ T71 L71 X71 ⟨rfl, rfl, e71⟩
    have N71 := Fr.app N70 (Fr.nil n0)
    show own_E p e below _ (T71.setTop (mkF m 216 #[.val (.long x0), .second, .val (.int x1), .val (.int (8 : Int32)), .val (.ref o3), .val (.long (own_U k5)), .second, .unset, .unset] [(.long (own_step (own_U k5) (((x0.toUInt64 >>> ((40 : Int32) &&& 0x3f).toInt64.toUInt64).toInt64) &&& (255 : Int64)).toInt32))]))
    obtain ⟨k6, hk6, qk6⟩ : ∃ z, z = own_o2 k5 (own_b ((x0.toUInt64 >>> ((40 : Int32) &&& 0x3f).toInt64.toUInt64).toInt64)) ∧ own_step (own_U k5) (((x0.toUInt64 >>> ((40 : Int32) &&& 0x3f).toInt64.toUInt64).toInt64) &&& (255 : Int64)).toInt32 = own_U z := ⟨_, rfl, own_st k5 ((x0.toUInt64 >>> ((40 : Int32) &&& 0x3f).toInt64.toUInt64).toInt64)⟩
    rw [qk6]
    show own_E p e below _ (T71.setTop (mkF m 216 #[.val (.long x0), .second, .val (.int x1), .val (.int (8 : Int32)), .val (.ref o3), .val (.long (own_U k5)), .second, .unset, .unset] [(.long (own_U k6))]))
    refine own_g (mkF m 218 #[.val (.long x0), .second, .val (.int x1), .val (.int (8 : Int32)), .val (.ref o3), .val (.long (own_U k6)), .second, .unset, .unset] []) (fun _ kz => XS.lstore X71.here hx rfl (hb hby at_216) rfl (l' := #[.val (.long x0), .second, .val (.int x1), .val (.int (8 : Int32)), .val (.ref o3), .val (.long (own_U k6)), .second, .unset, .unset]) rfl kz) ?_
    refine own_g (mkF m 219 #[.val (.long x0), .second, .val (.int x1), .val (.int (8 : Int32)), .val (.ref o3), .val (.long (own_U k6)), .second, .unset, .unset] [(.int (8 : Int32))]) (fun _ kz => XS.iloadN X71.here hx rfl (hb hby at_218) rfl kz) ?_
    refine own_g (mkF m 221 #[.val (.long x0), .second, .val (.int x1), .val (.int (8 : Int32)), .val (.ref o3), .val (.long (own_U k6)), .second, .unset, .unset] [(.int (6 : Int32)), (.int (8 : Int32))]) (fun _ kz => XS.bipush X71.here hx rfl (hb hby at_219) kz) ?_
    refine own_g (mkF m 224 #[.val (.long x0), .second, .val (.int x1), .val (.int (8 : Int32)), .val (.ref o3), .val (.long (own_U k6)), .second, .unset, .unset] []) (fun _ kz => XS.icmpNo X71.here hx rfl (hb hby at_221) rfl (tlt (by decide)).2.2.2 kz) ?_
    refine own_g (mkF m 226 #[.val (.long x0), .second, .val (.int x1), .val (.int (8 : Int32)), .val (.ref o3), .val (.long (own_U k6)), .second, .unset, .unset] [(.long (own_U k6))]) (fun _ kz => XS.lload X71.here hx rfl (hb hby at_224) rfl kz) ?_
    refine own_g (mkF m 227 #[.val (.long x0), .second, .val (.int x1), .val (.int (8 : Int32)), .val (.ref o3), .val (.long (own_U k6)), .second, .unset, .unset] [(.long x0), (.long (own_U k6))]) (fun _ kz => XS.lloadN X71.here hx rfl (hb hby at_226) rfl kz) ?_
    refine own_g (mkF m 229 #[.val (.long x0), .second, .val (.int x1), .val (.int (8 : Int32)), .val (.ref o3), .val (.long (own_U k6)), .second, .unset, .unset] [(.int (48 : Int32)), (.long x0), (.long (own_U k6))]) (fun _ kz => XS.bipush X71.here hx rfl (hb hby at_227) kz) ?_
    refine own_g (mkF m 230 #[.val (.long x0), .second, .val (.int x1), .val (.int (8 : Int32)), .val (.ref o3), .val (.long (own_U k6)), .second, .unset, .unset] [(.long ((x0.toUInt64 >>> ((48 : Int32) &&& 0x3f).toInt64.toUInt64).toInt64)), (.long (own_U k6))]) (fun _ kz => XS.lushr X71.here hx rfl (hb hby at_229) rfl kz) ?_
    refine own_g (mkF m 233 #[.val (.long x0), .second, .val (.int x1), .val (.int (8 : Int32)), .val (.ref o3), .val (.long (own_U k6)), .second, .unset, .unset] [(.long (255 : Int64)), (.long ((x0.toUInt64 >>> ((48 : Int32) &&& 0x3f).toInt64.toUInt64).toInt64)), (.long (own_U k6))]) (fun _ kz => X71.ldc2Long hx hown (mvT hZ (own_w hw 2 rfl)) (g := (mkF m 230 #[.val (.long x0), .second, .val (.int x1), .val (.int (8 : Int32)), .val (.ref o3), .val (.long (own_U k6)), .second, .unset, .unset] [(.long ((x0.toUInt64 >>> ((48 : Int32) &&& 0x3f).toInt64.toUInt64).toInt64)), (.long (own_U k6))])) rfl (hb hby at_230) _ kz) ?_
    refine own_g (mkF m 234 #[.val (.long x0), .second, .val (.int x1), .val (.int (8 : Int32)), .val (.ref o3), .val (.long (own_U k6)), .second, .unset, .unset] [(.long (((x0.toUInt64 >>> ((48 : Int32) &&& 0x3f).toInt64.toUInt64).toInt64) &&& (255 : Int64))), (.long (own_U k6))]) (fun _ kz => XS.land X71.here hx rfl (hb hby at_233) rfl kz) ?_
    refine own_g (mkF m 235 #[.val (.long x0), .second, .val (.int x1), .val (.int (8 : Int32)), .val (.ref o3), .val (.long (own_U k6)), .second, .unset, .unset] [(.int (((x0.toUInt64 >>> ((48 : Int32) &&& 0x3f).toInt64.toUInt64).toInt64) &&& (255 : Int64)).toInt32), (.long (own_U k6))]) (fun _ kz => XS.l2i X71.here hx rfl (hb hby at_234) rfl kz) ?_
    refine own_callS (rest := []) (as := [(.long (own_U k6)), (.int (((x0.toUInt64 >>> ((48 : Int32) &&& 0x3f).toInt64.toUInt64).toInt64) &&& (255 : Int64)).toInt32)]) X71 hx hZ hown e71 (own_c_step l Z a0 hw (own_U k6) (((x0.toUInt64 >>> ((48 : Int32) &&& 0x3f).toInt64.toUInt64).toInt64) &&& (255 : Int64)).toInt32 h20) (own_w hw 3 rfl) (own_w hw 4 rfl) (own_w hw 5 rfl) (own_w hw 6 rfl) (by decide) own_pd3 rfl (by rw [hml]; rfl) rfl (hb hby at_235) 0 (by show 2 * 0 + _ ≤ _; exact Nat.le_of_eq rfl) (by decide) (by decide) (by decide) (by decide) ?_
    rintro _ T72 L72 X72 ⟨rfl, rfl, e72⟩
    have N72 := Fr.app N71 (Fr.nil n0)
    show own_E p e below _ (T72.setTop (mkF m 238 #[.val (.long x0), .second, .val (.int x1), .val (.int (8 : Int32)), .val (.ref o3), .val (.long (own_U k6)), .second, .unset, .unset] [(.long (own_step (own_U k6) (((x0.toUInt64 >>> ((48 : Int32) &&& 0x3f).toInt64.toUInt64).toInt64) &&& (255 : Int64)).toInt32))]))
    obtain ⟨k7, hk7, qk7⟩ : ∃ z, z = own_o2 k6 (own_b ((x0.toUInt64 >>> ((48 : Int32) &&& 0x3f).toInt64.toUInt64).toInt64)) ∧ own_step (own_U k6) (((x0.toUInt64 >>> ((48 : Int32) &&& 0x3f).toInt64.toUInt64).toInt64) &&& (255 : Int64)).toInt32 = own_U z := ⟨_, rfl, own_st k6 ((x0.toUInt64 >>> ((48 : Int32) &&& 0x3f).toInt64.toUInt64).toInt64)⟩
    rw [qk7]
    show own_E p e below _ (T72.setTop (mkF m 238 #[.val (.long x0), .second, .val (.int x1), .val (.int (8 : Int32)), .val (.ref o3), .val (.long (own_U k6)), .second, .unset, .unset] [(.long (own_U k7))]))
    refine own_g (mkF m 240 #[.val (.long x0), .second, .val (.int x1), .val (.int (8 : Int32)), .val (.ref o3), .val (.long (own_U k7)), .second, .unset, .unset] []) (fun _ kz => XS.lstore X72.here hx rfl (hb hby at_238) rfl (l' := #[.val (.long x0), .second, .val (.int x1), .val (.int (8 : Int32)), .val (.ref o3), .val (.long (own_U k7)), .second, .unset, .unset]) rfl kz) ?_
    refine own_g (mkF m 241 #[.val (.long x0), .second, .val (.int x1), .val (.int (8 : Int32)), .val (.ref o3), .val (.long (own_U k7)), .second, .unset, .unset] [(.int (8 : Int32))]) (fun _ kz => XS.iloadN X72.here hx rfl (hb hby at_240) rfl kz) ?_
    refine own_g (mkF m 243 #[.val (.long x0), .second, .val (.int x1), .val (.int (8 : Int32)), .val (.ref o3), .val (.long (own_U k7)), .second, .unset, .unset] [(.int (7 : Int32)), (.int (8 : Int32))]) (fun _ kz => XS.bipush X72.here hx rfl (hb hby at_241) kz) ?_
    refine own_g (mkF m 246 #[.val (.long x0), .second, .val (.int x1), .val (.int (8 : Int32)), .val (.ref o3), .val (.long (own_U k7)), .second, .unset, .unset] []) (fun _ kz => XS.icmpNo X72.here hx rfl (hb hby at_243) rfl (tlt (by decide)).2.2.2 kz) ?_
    refine own_g (mkF m 248 #[.val (.long x0), .second, .val (.int x1), .val (.int (8 : Int32)), .val (.ref o3), .val (.long (own_U k7)), .second, .unset, .unset] [(.long (own_U k7))]) (fun _ kz => XS.lload X72.here hx rfl (hb hby at_246) rfl kz) ?_
    refine own_g (mkF m 249 #[.val (.long x0), .second, .val (.int x1), .val (.int (8 : Int32)), .val (.ref o3), .val (.long (own_U k7)), .second, .unset, .unset] [(.long x0), (.long (own_U k7))]) (fun _ kz => XS.lloadN X72.here hx rfl (hb hby at_248) rfl kz) ?_
    refine own_g (mkF m 251 #[.val (.long x0), .second, .val (.int x1), .val (.int (8 : Int32)), .val (.ref o3), .val (.long (own_U k7)), .second, .unset, .unset] [(.int (56 : Int32)), (.long x0), (.long (own_U k7))]) (fun _ kz => XS.bipush X72.here hx rfl (hb hby at_249) kz) ?_
    refine own_g (mkF m 252 #[.val (.long x0), .second, .val (.int x1), .val (.int (8 : Int32)), .val (.ref o3), .val (.long (own_U k7)), .second, .unset, .unset] [(.long ((x0.toUInt64 >>> ((56 : Int32) &&& 0x3f).toInt64.toUInt64).toInt64)), (.long (own_U k7))]) (fun _ kz => XS.lushr X72.here hx rfl (hb hby at_251) rfl kz) ?_
    refine own_g (mkF m 255 #[.val (.long x0), .second, .val (.int x1), .val (.int (8 : Int32)), .val (.ref o3), .val (.long (own_U k7)), .second, .unset, .unset] [(.long (255 : Int64)), (.long ((x0.toUInt64 >>> ((56 : Int32) &&& 0x3f).toInt64.toUInt64).toInt64)), (.long (own_U k7))]) (fun _ kz => X72.ldc2Long hx hown (mvT hZ (own_w hw 2 rfl)) (g := (mkF m 252 #[.val (.long x0), .second, .val (.int x1), .val (.int (8 : Int32)), .val (.ref o3), .val (.long (own_U k7)), .second, .unset, .unset] [(.long ((x0.toUInt64 >>> ((56 : Int32) &&& 0x3f).toInt64.toUInt64).toInt64)), (.long (own_U k7))])) rfl (hb hby at_252) _ kz) ?_
    refine own_g (mkF m 256 #[.val (.long x0), .second, .val (.int x1), .val (.int (8 : Int32)), .val (.ref o3), .val (.long (own_U k7)), .second, .unset, .unset] [(.long (((x0.toUInt64 >>> ((56 : Int32) &&& 0x3f).toInt64.toUInt64).toInt64) &&& (255 : Int64))), (.long (own_U k7))]) (fun _ kz => XS.land X72.here hx rfl (hb hby at_255) rfl kz) ?_
    refine own_g (mkF m 257 #[.val (.long x0), .second, .val (.int x1), .val (.int (8 : Int32)), .val (.ref o3), .val (.long (own_U k7)), .second, .unset, .unset] [(.int (((x0.toUInt64 >>> ((56 : Int32) &&& 0x3f).toInt64.toUInt64).toInt64) &&& (255 : Int64)).toInt32), (.long (own_U k7))]) (fun _ kz => XS.l2i X72.here hx rfl (hb hby at_256) rfl kz) ?_
    refine own_callS (rest := []) (as := [(.long (own_U k7)), (.int (((x0.toUInt64 >>> ((56 : Int32) &&& 0x3f).toInt64.toUInt64).toInt64) &&& (255 : Int64)).toInt32)]) X72 hx hZ hown e72 (own_c_step l Z a0 hw (own_U k7) (((x0.toUInt64 >>> ((56 : Int32) &&& 0x3f).toInt64.toUInt64).toInt64) &&& (255 : Int64)).toInt32 h20) (own_w hw 3 rfl) (own_w hw 4 rfl) (own_w hw 5 rfl) (own_w hw 6 rfl) (by decide) own_pd3 rfl (by rw [hml]; rfl) rfl (hb hby at_257) 0 (by show 2 * 0 + _ ≤ _; exact Nat.le_of_eq rfl) (by decide) (by decide) (by decide) (by decide) ?_
    rintro _ T73 L73 X73 ⟨rfl, rfl, e73⟩
    have N73 := Fr.app N72 (Fr.nil n0)
    show own_E p e below _ (T73.setTop (mkF m 260 #[.val (.long x0), .second, .val (.int x1), .val (.int (8 : Int32)), .val (.ref o3), .val (.long (own_U k7)), .second, .unset, .unset] [(.long (own_step (own_U k7) (((x0.toUInt64 >>> ((56 : Int32) &&& 0x3f).toInt64.toUInt64).toInt64) &&& (255 : Int64)).toInt32))]))
    obtain ⟨k8, hk8, qk8⟩ : ∃ z, z = own_o2 k7 (own_b ((x0.toUInt64 >>> ((56 : Int32) &&& 0x3f).toInt64.toUInt64).toInt64)) ∧ own_step (own_U k7) (((x0.toUInt64 >>> ((56 : Int32) &&& 0x3f).toInt64.toUInt64).toInt64) &&& (255 : Int64)).toInt32 = own_U z := ⟨_, rfl, own_st k7 ((x0.toUInt64 >>> ((56 : Int32) &&& 0x3f).toInt64.toUInt64).toInt64)⟩
    rw [qk8]
    show own_E p e below _ (T73.setTop (mkF m 260 #[.val (.long x0), .second, .val (.int x1), .val (.int (8 : Int32)), .val (.ref o3), .val (.long (own_U k7)), .second, .unset, .unset] [(.long (own_U k8))]))
    refine own_g (mkF m 262 #[.val (.long x0), .second, .val (.int x1), .val (.int (8 : Int32)), .val (.ref o3), .val (.long (own_U k8)), .second, .unset, .unset] []) (fun _ kz => XS.lstore X73.here hx rfl (hb hby at_260) rfl (l' := #[.val (.long x0), .second, .val (.int x1), .val (.int (8 : Int32)), .val (.ref o3), .val (.long (own_U k8)), .second, .unset, .unset]) rfl kz) ?_
    refine own_g (mkF m 264 #[.val (.long x0), .second, .val (.int x1), .val (.int (8 : Int32)), .val (.ref o3), .val (.long (own_U k8)), .second, .unset, .unset] [(.long (own_U k8))]) (fun _ kz => XS.lload X73.here hx rfl (hb hby at_262) rfl kz) ?_
    refine own_callS (rest := []) (as := [(.long (own_U k8))]) X73 hx hZ hown e73 (own_c_fin l Z a0 hw (own_U k8) h20) (own_w hw 9 rfl) (own_w hw 10 rfl) (own_w hw 5 rfl) (own_w hw 11 rfl) (by decide) own_pd1 rfl (by rw [hml]; rfl) rfl (hb hby at_264) 0 (by show 2 * 0 + _ ≤ _; exact Nat.le_of_eq rfl) (by decide) (by decide) (by decide) (by decide) ?_
    rintro _ T74 L74 X74 ⟨rfl, rfl, e74⟩
    have N74 := Fr.app N73 (Fr.nil n0)
    show own_E p e below _ (T74.setTop (mkF m 267 #[.val (.long x0), .second, .val (.int x1), .val (.int (8 : Int32)), .val (.ref o3), .val (.long (own_U k8)), .second, .unset, .unset] [(.long (own_fin (own_U k8)))]))
    refine own_g (mkF m 269 #[.val (.long x0), .second, .val (.int x1), .val (.int (8 : Int32)), .val (.ref o3), .val (.long (own_U k8)), .second, .val (.long (own_fin (own_U k8))), .second] []) (fun _ kz => XS.lstore X74.here hx rfl (hb hby at_267) rfl (l' := #[.val (.long x0), .second, .val (.int x1), .val (.int (8 : Int32)), .val (.ref o3), .val (.long (own_U k8)), .second, .val (.long (own_fin (own_U k8))), .second]) rfl kz) ?_
    refine own_g (mkF m 271 #[.val (.long x0), .second, .val (.int x1), .val (.int (8 : Int32)), .val (.ref o3), .val (.long (own_U k8)), .second, .val (.long (own_fin (own_U k8))), .second] [(.ref o3)]) (fun _ kz => XS.aload X74.here hx rfl (hb hby at_269) rfl rfl kz) ?_
    refine own_g (mkF m 272 #[.val (.long x0), .second, .val (.int x1), .val (.int (8 : Int32)), .val (.ref o3), .val (.long (own_U k8)), .second, .val (.long (own_fin (own_U k8))), .second] [(.int (8 : Int32)), (.ref o3)]) (fun _ kz => XS.iloadN X74.here hx rfl (hb hby at_271) rfl kz) ?_
    refine own_callS (rest := []) (as := [(.ref o3), (.int (8 : Int32))]) X74 hx hZ hown e74 (own_c_oat l Z a0 hw o3 8 F h20 (by decide) AF) (own_w hw 14 rfl) (own_w hw 15 rfl) (own_w hw 16 rfl) (own_w hw 17 rfl) (by decide) own_pd2 rfl (by rw [hml]; rfl) rfl (hb hby at_272) 0 (by show 2 * 0 + _ ≤ _; exact Nat.le_of_eq rfl) (by decide) (by decide) (by decide) (by decide) ?_
    rintro _ T75 L75 X75 ⟨rfl, rfl, e75⟩
    have N75 := Fr.app N74 (Fr.nil n0)
    show own_E p e below _ (T75.setTop (mkF m 275 #[.val (.long x0), .second, .val (.int x1), .val (.int (8 : Int32)), .val (.ref o3), .val (.long (own_U k8)), .second, .val (.long (own_fin (own_U k8))), .second] [(.long (own_U (own_g3 (own_fold F 8 0 0))))]))
    refine own_g (mkF m 277 #[.val (.long x0), .second, .val (.int x1), .val (.int (8 : Int32)), .val (.ref o3), .val (.long (own_U k8)), .second, .val (.long (own_fin (own_U k8))), .second] [(.long (own_fin (own_U k8))), (.long (own_U (own_g3 (own_fold F 8 0 0))))]) (fun _ kz => XS.lload X75.here hx rfl (hb hby at_275) rfl kz) ?_
    refine own_g (mkF m 278 #[.val (.long x0), .second, .val (.int x1), .val (.int (8 : Int32)), .val (.ref o3), .val (.long (own_U k8)), .second, .val (.long (own_fin (own_U k8))), .second] [(.int (lcmpW (own_U (own_g3 (own_fold F 8 0 0))) (own_fin (own_U k8))))]) (fun _ kz => XS.lcmp X75.here hx rfl (hb hby at_277) rfl kz) ?_
    refine own_g (mkF m 281 #[.val (.long x0), .second, .val (.int x1), .val (.int (8 : Int32)), .val (.ref o3), .val (.long (own_U k8)), .second, .val (.long (own_fin (own_U k8))), .second] []) (fun _ kz => XS.ifNo X75.here hx rfl (hb hby at_278) rfl ((if0 _ _).trans (teq (own_lcT (by rw [own_fi]; simp only [own_fold, hF0, hk1, hF1, hk2, hF2, hk3, hF3, hk4, hF4, hk5, hF5, hk6, hF6, hk7, hF7, hk8]))).2) kz) ?_
    refine own_g (mkF m 282 #[.val (.long x0), .second, .val (.int x1), .val (.int (8 : Int32)), .val (.ref o3), .val (.long (own_U k8)), .second, .val (.long (own_fin (own_U k8))), .second] [(.int (1 : Int32))]) (fun _ kz => XS.iconst X75.here hx rfl (hb hby at_281) kz) ?_
    refine own_g (mkF m 286 #[.val (.long x0), .second, .val (.int x1), .val (.int (8 : Int32)), .val (.ref o3), .val (.long (own_U k8)), .second, .val (.long (own_fin (own_U k8))), .second] [(.int (1 : Int32))]) (fun _ kz => XS.goto X75.here hx rfl (pc0 := 282) (pc' := 286) rfl (hb hby at_282) (by decide) (by decide) kz) ?_
    exact own_retZ X75 hx hret hlk (hb hby at_286) rfl (by decide) (by decide) (by first | exact ⟨rfl, N75⟩ | (rw [e75]; exact ⟨rfl, N75⟩))
theorem own_comes {Post : Tables → Env → Array Value → State → Outcome → State → Prop} (hpost : ∀ tb e args s v u, (limb_1_1.after args s (.returned v) u = true ∧ limb_1_2.after args s (.returned v) u = true ∧ True) → FrameEnd s (.returned v) u (Jvm.fieldLocs frame_1_writes args s ++ Jvm.arrayLocs frame_1_arrays args s ++ Jvm.staticLocs frame_1_statics s) 16 128 → Post tb e args s (.returned v) u) :
    ArmFor flags0 classFile x code maxLocals ret World_1 tables_1 room_1 Calls_1 rest_1 Pre_1 Post := by
  intro l hfl _ _ p e ha hc hk s m args below hf hA hF happ hP
  obtain ⟨hcalls, hrest, hpre⟩ := hP
  obtain ⟨-, -, -, hnamed, -, -, -, hat⟩ := (Spec.applies_iff hf).mp happ
  obtain ⟨hg, hn⟩ := and_e (Cond.before_iff.mp (show (Jvm.Cond.and given_1 narrow_1).before args s = true from hpre))
  obtain ⟨hcount, r0⟩ := and_e hg
  obtain ⟨q0, r1⟩ := and_e r0
  obtain ⟨w0, w1, rfl⟩ : ∃ w0 w1 : Value, args = #[w0, w1] := by
    have hs : args.size = 2 := by simpa [Cond.value, given_1] using hcount
    obtain ⟨L⟩ := args
    match L, hs with
    | [w0, w1], _ => exact ⟨w0, w1, rfl⟩
  have hw := fun d (hd : d ∈ tables_1) => atoms_spec (ws := Jvm.Cond.code x code maxLocals ret :: tables_1) hat d (List.mem_cons_of_mem _ hd)
  obtain ⟨i0, e0⟩ := isL_v q0
  obtain rfl : w0 = (.long i0) := Option.some.inj e0
  obtain ⟨i1, e1⟩ := is_v r1
  obtain rfl : w1 = (.int i1) := Option.some.inj e1
  obtain ⟨n, o, h1, h2, h3, _, L, rfl, ⟨rfl, N⟩, hq⟩ := own_c_law l s _ hw i0 i1 s.heap s.heap.size (Nat.le_refl _) p e ha hc hk s m _ below hf ((Spec.applies_iff_loose hf).mp happ).1 ⟨rfl, State.Warmed39.refl s, rfl⟩ trivial
  refine ⟨n, _, h1, h2, h3, hpost _ _ _ _ _ _ ⟨Cond.after_iff.mpr rfl, Cond.after_iff.mpr (eq_i res_at (Term.int_eval (1)) rfl), trivial⟩ ⟨hq.1, hq.2.1, (hq.2.2.sift fun y hy => Or.inr (N y hy)).mono (by decide) (by decide)⟩⟩
theorem main_1_1 : Claimed_1_1 := own_comes fun _ _ _ _ _ _ h hF => ⟨h.1, hF⟩
theorem main_1_2 : Claimed_1_2 := own_comes fun _ _ _ _ _ _ h hF => ⟨h.2.1, hF⟩
end Jvm.Pilot.@@N@@
namespace Jvm.Pilot.@@N@@
open Jvm Jvm.ClassFile Sem Op Lib Jvm.Free Jvm.Stand Jvm.Pilot.@@N@@.Jvm.D
/-! MADE BY PROGRAM (witnessworld.py) out of the Statement's table words and the real class files: 14 classes; the members and pool entries that the words name. The judged class is class 1, her method 1. -/
namespace start1
open Jvm.ClassFile
def u (s : String) : CpInfo := .utf8 (stringToUtf16 s)
/-- a pool by its gaps: so many unusable entries, then the entry; so many at the end -/
def gap : Nat → List CpInfo → List CpInfo
  | 0, r => r
  | n + 1, r => .unusable :: gap n r
def poolList (es : List (Nat × CpInfo)) (last : Nat) : List CpInfo := es.foldr (fun e r => gap e.1 (e.2 :: r)) (gap last [])
def pool (es : List (Nat × CpInfo)) (last : Nat) : Array CpInfo := ⟨poolList es last⟩
def fileOf (pool : Array CpInfo) (this : Nat) (attrs : Array Attribute := #[]) (ms : Array MethodInfo := #[]) (fl : Nat := 33) (sup : Nat := 0) (ifs : Array Nat := #[]) (fds : Array FieldInfo := #[]) : ClassFile where
  minorVersion := 0
  majorVersion := 65
  constantPool := pool
  accessFlags := fl
  thisClass := this
  superClass := sup
  interfaces := ifs
  fields := fds
  methods := ms
  attributes := attrs
def plain (name : String) (sup : Option ClassId) : Class where
  name := name
  kind := .ordinary
  loader := none
  accessFlags := 33
  super := sup
  interfaces := #[]
  cf := none
  fields := #[]
  methods := #[]
  instanceTypes := #[]
  staticTypes := #[]
  resolved := #[]
  callSites := []
  init := .initialized
  statics := none
  mirror := none

def pool0 : Array CpInfo := pool [(5, u "<init>"), (0, u "()V"), (1, .class_ 10), (1, u "java/lang/Object")] 113

def k0m0 : Method := { name := "<init>", desc := "()V", sig := { parameters := [], returnType := none }, accessFlags := 1, code := none }
/-- java/lang/Object -/
def k0 : Class := { plain "java/lang/Object" none with
  accessFlags := 33
  interfaces := #[]
  cf := some (fileOf pool0 8 #[] #[{ accessFlags := 1, nameIndex := 5, descriptorIndex := 6, attributes := #[] }] 33 0 #[] #[])
  fields := #[]
  methods := #[k0m0]
  instanceTypes := #[]
  staticTypes := #[]
  resolved := Array.replicate 124 none
  statics := none }

def pool1 : Array CpInfo := pool [(2, .class_ 4), (1, u "java/lang/Object"), (0, u "<init>"), (0, u "()V"), (0, .integer 2147483647), (0, .long 255), (1, .methodref 11 12), (0, .class_ 13), (0, .nameAndType 14 15), (0, u "com/example/anchored_ring/anchoredring/HashesOneAtATimePinLaw"), (0, u "step"), (0, u "(JI)J"), (0, .methodref 11 17), (0, .nameAndType 18 19), (0, u "finish"), (0, u "(J)J"), (0, .methodref 21 22), (0, .class_ 23), (0, .nameAndType 24 25), (0, u "com/example/anchored_ring/anchoredring/Hashes"), (0, u "oneAtATime"), (0, u "([BI)J"), (0, .long 4294967295), (1, .long 1025), (1, .long 9), (1, .long 32769), (3, u "law"), (0, u "(JI)Z")] 5

def k1m0 : Method := { name := "<init>", desc := "()V", sig := { parameters := [], returnType := none }, accessFlags := 2, code := none }
def k1c1 : Code := { maxStack := 6, maxLocals := 9, code := code, exceptionTable := #[], attributes := #[] }
def k1m1 : Method := { name := "law", desc := "(JI)Z", sig := { parameters := [.long, .int], returnType := some .boolean }, accessFlags := 9, code := some k1c1 }
def k1c2 : Code := { maxStack := 5, maxLocals := 11, code := method_3_code, exceptionTable := #[], attributes := #[] }
def k1m2 : Method := { name := "step", desc := "(JI)J", sig := { parameters := [.long, .int], returnType := some .long }, accessFlags := 10, code := some k1c2 }
def k1c3 : Code := { maxStack := 5, maxLocals := 8, code := method_4_code, exceptionTable := #[], attributes := #[] }
def k1m3 : Method := { name := "finish", desc := "(J)J", sig := { parameters := [.long], returnType := some .long }, accessFlags := 10, code := some k1c3 }
/-- com/example/anchored_ring/anchoredring/HashesOneAtATimePinLaw -/
def k1 : Class := { plain "com/example/anchored_ring/anchoredring/HashesOneAtATimePinLaw" (some 0) with
  accessFlags := 49
  interfaces := #[]
  cf := some (fileOf pool1 11 #[] #[{ accessFlags := 2, nameIndex := 5, descriptorIndex := 6, attributes := #[] }, { accessFlags := 9, nameIndex := 36, descriptorIndex := 37, attributes := #[] }, { accessFlags := 10, nameIndex := 14, descriptorIndex := 15, attributes := #[] }, { accessFlags := 10, nameIndex := 18, descriptorIndex := 19, attributes := #[] }] 49 2 #[] #[])
  fields := #[]
  methods := #[k1m0, k1m1, k1m2, k1m3]
  instanceTypes := #[]
  staticTypes := #[]
  resolved := Array.replicate 43 none
  statics := none }

def pool2 : Array CpInfo := pool [(2, .class_ 4), (1, u "java/lang/Object"), (0, u "<init>"), (0, u "()V"), (1, .class_ 10), (1, u "com/example/anchored_ring/anchoredring/Hashes"), (15, u "([BI)J"), (2, u "CHECKSUM"), (0, u "Ljava/lang/ThreadLocal;"), (25, u "MD5"), (4, u "MD5_OUTPUT"), (20, u "oneAtATime"), (0, .methodref 84 85), (0, .class_ 86), (0, .nameAndType 87 88), (0, u "java/lang/Integer"), (0, u "toUnsignedLong"), (0, u "(I)J"), (49, u "UTF8"), (31, u "WORD"), (0, u "Ljava/lang/invoke/VarHandle;"), (28, u "MAX_KEPT"), (0, u "I"), (2, u "MD5_LENGTH"), (1, u "MULTIPLIER"), (0, u "J"), (0, u "SHIFT"), (24, .class_ 234), (0, u "com/example/anchored_ring/anchoredring/Hashes$NumberedMurmurHash64A")] 30

def k2m0 : Method := { name := "<init>", desc := "()V", sig := { parameters := [], returnType := none }, accessFlags := 2, code := none }
def k2c1 : Code := { maxStack := 3, maxLocals := 4, code := prog_18_method_8_code, exceptionTable := #[], attributes := #[] }
def k2m1 : Method := { name := "oneAtATime", desc := "([BI)J", sig := { parameters := [(.array .byte), .int], returnType := some .long }, accessFlags := 8, code := some k2c1 }
/-- com/example/anchored_ring/anchoredring/Hashes -/
def k2 : Class := { plain "com/example/anchored_ring/anchoredring/Hashes" (some 0) with
  accessFlags := 48
  interfaces := #[]
  cf := some (fileOf pool2 8 #[.nestMembers #[233]] #[{ accessFlags := 2, nameIndex := 5, descriptorIndex := 6, attributes := #[] }, { accessFlags := 8, nameIndex := 82, descriptorIndex := 26, attributes := #[] }] 48 2 #[] #[{ accessFlags := 24, nameIndex := 200, descriptorIndex := 201, attributes := #[] }, { accessFlags := 26, nameIndex := 204, descriptorIndex := 201, attributes := #[] }, { accessFlags := 26, nameIndex := 206, descriptorIndex := 207, attributes := #[] }, { accessFlags := 26, nameIndex := 208, descriptorIndex := 201, attributes := #[] }, { accessFlags := 26, nameIndex := 170, descriptorIndex := 171, attributes := #[] }, { accessFlags := 26, nameIndex := 138, descriptorIndex := 30, attributes := #[] }, { accessFlags := 26, nameIndex := 56, descriptorIndex := 30, attributes := #[] }, { accessFlags := 26, nameIndex := 61, descriptorIndex := 30, attributes := #[] }, { accessFlags := 26, nameIndex := 29, descriptorIndex := 30, attributes := #[] }])
  fields := #[{ name := "MAX_KEPT", type := .int, accessFlags := 24, slot := 0, constantValue := 0 }, { name := "MD5_LENGTH", type := .int, accessFlags := 26, slot := 1, constantValue := 0 }, { name := "MULTIPLIER", type := .long, accessFlags := 26, slot := 2, constantValue := 0 }, { name := "SHIFT", type := .int, accessFlags := 26, slot := 3, constantValue := 0 }, { name := "WORD", type := (.object "java/lang/invoke/VarHandle"), accessFlags := 26, slot := 4, constantValue := 0 }, { name := "UTF8", type := (.object "java/lang/ThreadLocal"), accessFlags := 26, slot := 5, constantValue := 0 }, { name := "MD5", type := (.object "java/lang/ThreadLocal"), accessFlags := 26, slot := 6, constantValue := 0 }, { name := "MD5_OUTPUT", type := (.object "java/lang/ThreadLocal"), accessFlags := 26, slot := 7, constantValue := 0 }, { name := "CHECKSUM", type := (.object "java/lang/ThreadLocal"), accessFlags := 26, slot := 8, constantValue := 0 }]
  methods := #[k2m0, k2m1]
  instanceTypes := #[]
  staticTypes := #[.int, .int, .long, .int, (.object "java/lang/invoke/VarHandle"), (.object "java/lang/ThreadLocal"), (.object "java/lang/ThreadLocal"), (.object "java/lang/ThreadLocal"), (.object "java/lang/ThreadLocal")]
  resolved := Array.replicate 265 none
  statics := none }

def pool3 : Array CpInfo := pool [(1, .class_ 2), (0, u "java/io/Serializable"), (0, .class_ 4), (0, u "java/lang/Object")] 2

/-- java/io/Serializable -/
def k3 : Class := { plain "java/io/Serializable" (some 0) with
  accessFlags := 1537
  interfaces := #[]
  cf := some (fileOf pool3 1 #[] #[] 1537 3 #[] #[])
  fields := #[]
  methods := #[]
  instanceTypes := #[]
  staticTypes := #[]
  resolved := Array.replicate 7 none
  statics := none }

def pool4 : Array CpInfo := pool [(2, .class_ 4), (1, u "java/lang/Object"), (0, u "<init>"), (0, u "()V"), (1, .class_ 10), (1, u "java/lang/Number"), (2, .class_ 14), (0, u "java/io/Serializable"), (0, u "serialVersionUID"), (0, u "J")] 20

def k4m0 : Method := { name := "<init>", desc := "()V", sig := { parameters := [], returnType := none }, accessFlags := 1, code := none }
/-- java/lang/Number -/
def k4 : Class := { plain "java/lang/Number" (some 0) with
  accessFlags := 1057
  interfaces := #[3]
  cf := some (fileOf pool4 8 #[] #[{ accessFlags := 1, nameIndex := 5, descriptorIndex := 6, attributes := #[] }] 1057 2 #[13] #[{ accessFlags := 26, nameIndex := 15, descriptorIndex := 16, attributes := #[] }])
  fields := #[{ name := "serialVersionUID", type := .long, accessFlags := 26, slot := 0, constantValue := 0 }]
  methods := #[k4m0]
  instanceTypes := #[]
  staticTypes := #[.long]
  resolved := Array.replicate 37 none
  statics := none }

def pool5 : Array CpInfo := pool [(1, .class_ 2), (0, u "java/lang/Comparable"), (0, .class_ 4), (0, u "java/lang/Object")] 7

/-- java/lang/Comparable -/
def k5 : Class := { plain "java/lang/Comparable" (some 0) with
  accessFlags := 1537
  interfaces := #[]
  cf := some (fileOf pool5 1 #[] #[] 1537 3 #[] #[])
  fields := #[]
  methods := #[]
  instanceTypes := #[]
  staticTypes := #[]
  resolved := Array.replicate 12 none
  statics := none }

def pool6 : Array CpInfo := pool [(1, .class_ 2), (0, u "java/lang/constant/Constable"), (0, .class_ 4), (0, u "java/lang/Object")] 6

/-- java/lang/constant/Constable -/
def k6 : Class := { plain "java/lang/constant/Constable" (some 0) with
  accessFlags := 1537
  interfaces := #[]
  cf := some (fileOf pool6 1 #[] #[] 1537 3 #[] #[])
  fields := #[]
  methods := #[]
  instanceTypes := #[]
  staticTypes := #[]
  resolved := Array.replicate 11 none
  statics := none }

def pool7 : Array CpInfo := pool [(1, .class_ 2), (0, u "java/lang/constant/ConstantDesc"), (0, .class_ 4), (0, u "java/lang/Object")] 32

/-- java/lang/constant/ConstantDesc -/
def k7 : Class := { plain "java/lang/constant/ConstantDesc" (some 0) with
  accessFlags := 1537
  interfaces := #[]
  cf := some (fileOf pool7 1 #[] #[] 1537 3 #[] #[])
  fields := #[]
  methods := #[]
  instanceTypes := #[]
  staticTypes := #[]
  resolved := Array.replicate 37 none
  statics := none }

def pool8 : Array CpInfo := pool [(1, .class_ 2), (0, u "java/lang/Integer"), (16, u "digits"), (0, u "[C"), (19, u "toUnsignedLong"), (0, u "(I)J"), (43, u "DigitOnes"), (0, u "[B"), (2, u "DigitTens"), (99, .class_ 190), (0, u "java/lang/Integer$IntegerCache"), (3, u "I"), (8, .class_ 204), (0, u "java/lang/Number"), (2, u "value"), (54, .long 4294967295), (39, u "TYPE"), (0, u "Ljava/lang/Class;"), (0, .class_ 305), (0, u "java/lang/Comparable"), (0, .class_ 307), (0, u "java/lang/constant/Constable"), (0, .class_ 309), (0, u "java/lang/constant/ConstantDesc"), (0, u "MIN_VALUE"), (1, u "MAX_VALUE"), (3, u "SIZE"), (1, u "BYTES"), (1, u "serialVersionUID"), (0, u "J")] 131

def k8c0 : Code := { maxStack := 4, maxLocals := 1, code := jdk_33_method_42_code, exceptionTable := #[], attributes := #[] }
def k8m0 : Method := { name := "toUnsignedLong", desc := "(I)J", sig := { parameters := [.int], returnType := some .long }, accessFlags := 9, code := some k8c0 }
/-- java/lang/Integer -/
def k8 : Class := { plain "java/lang/Integer" (some 4) with
  accessFlags := 49
  interfaces := #[5, 6, 7]
  cf := some (fileOf pool8 1 #[.nestMembers #[189]] #[{ accessFlags := 9, nameIndex := 40, descriptorIndex := 41, attributes := #[] }] 49 203 #[304, 306, 308] #[{ accessFlags := 25, nameIndex := 310, descriptorIndex := 194, attributes := #[] }, { accessFlags := 25, nameIndex := 312, descriptorIndex := 194, attributes := #[] }, { accessFlags := 25, nameIndex := 302, descriptorIndex := 303, attributes := #[] }, { accessFlags := 24, nameIndex := 19, descriptorIndex := 20, attributes := #[] }, { accessFlags := 24, nameIndex := 89, descriptorIndex := 86, attributes := #[] }, { accessFlags := 24, nameIndex := 85, descriptorIndex := 86, attributes := #[] }, { accessFlags := 18, nameIndex := 207, descriptorIndex := 194, attributes := #[] }, { accessFlags := 25, nameIndex := 316, descriptorIndex := 194, attributes := #[] }, { accessFlags := 25, nameIndex := 318, descriptorIndex := 194, attributes := #[] }, { accessFlags := 26, nameIndex := 320, descriptorIndex := 321, attributes := #[] }])
  fields := #[{ name := "MIN_VALUE", type := .int, accessFlags := 25, slot := 0, constantValue := 0 }, { name := "MAX_VALUE", type := .int, accessFlags := 25, slot := 1, constantValue := 0 }, { name := "TYPE", type := (.object "java/lang/Class"), accessFlags := 25, slot := 2, constantValue := 0 }, { name := "digits", type := (.array .char), accessFlags := 24, slot := 3, constantValue := 0 }, { name := "DigitTens", type := (.array .byte), accessFlags := 24, slot := 4, constantValue := 0 }, { name := "DigitOnes", type := (.array .byte), accessFlags := 24, slot := 5, constantValue := 0 }, { name := "value", type := .int, accessFlags := 18, slot := 0, constantValue := 0 }, { name := "SIZE", type := .int, accessFlags := 25, slot := 6, constantValue := 0 }, { name := "BYTES", type := .int, accessFlags := 25, slot := 7, constantValue := 0 }, { name := "serialVersionUID", type := .long, accessFlags := 26, slot := 8, constantValue := 0 }]
  methods := #[k8m0]
  instanceTypes := #[.int]
  staticTypes := #[.int, .int, (.object "java/lang/Class"), (.array .char), (.array .byte), (.array .byte), .int, .int, .long]
  resolved := Array.replicate 453 none
  statics := none }

def pool9 : Array CpInfo := pool [(1, u "java/lang/Cloneable"), (0, .class_ 1), (0, u "java/lang/Object"), (0, .class_ 3)] 3

/-- java/lang/Cloneable -/
def k9 : Class := { plain "java/lang/Cloneable" (some 0) with
  accessFlags := 1537
  interfaces := #[]
  cf := some (fileOf pool9 2 #[] #[] 1537 4 #[] #[])
  fields := #[]
  methods := #[]
  instanceTypes := #[]
  staticTypes := #[]
  resolved := Array.replicate 8 none
  statics := none }

/-- the primitive byte -/
def k10 : Class := { plain "byte" none with kind := .primitive 'B', accessFlags := 0x411 }
/-- [B -/
def k11 : Class := { plain "[B" (some 0) with kind := .array 10 .byte, interfaces := #[9, 3], accessFlags := 1041 }

/-- the primitive int -/
def k12 : Class := { plain "int" none with kind := .primitive 'I', accessFlags := 0x411 }
/-- [I -/
def k13 : Class := { plain "[I" (some 0) with kind := .array 12 .int, interfaces := #[9, 3], accessFlags := 1041 }

def heap : Heap := #[]
def classes : Array Class := #[k0, k1, k2, k3, k4, k5, k6, k7, k8, k9, k10, k11, k12, k13]
def interned : List (Array UInt16 × Addr) := []
def slotsUsed : Nat := 0
def theMethod : MethodId := ⟨1, 1⟩
def args0 : Array Value := #[.long 5, .int 7]
def aboutOver (below : List Frame) : State where
  vm := { classes := classes, interned := interned.toArray }
  heap := heap
  slotsUsed := slotsUsed
  threads := #[{ frames := .invoking theMethod args0 :: below }]
def below0 : List Frame := [.native { method := ⟨0, 0⟩, args := #[] }]
def about1 : State := aboutOver below0
def p0 : Program := .bare "" "" ""
def e0 : Env := launch0.env 0 0 0
theorem w_frames : about1.frames = Frame.invoking theMethod args0 :: below0 := rfl
set_option maxRecDepth 65536 in
theorem w_args : argsFit about1.vm theMethod args0 = true := by decide +kernel
set_option maxRecDepth 65536 in
theorem w_heap : heapFits about1 = true := by decide +kernel
set_option maxRecDepth 65536 in
theorem w_runnable : about1.curStatus? = some .runnable := by decide +kernel
set_option maxRecDepth 65536 in
theorem w_alone : about1.alone = true := by decide +kernel
set_option maxRecDepth 65536 in
theorem w_named : about1.methodNamed? x = some theMethod := by decide +kernel
set_option maxRecDepth 65536 in
theorem w_hears : about1.hears theMethod below0 = true := by decide +kernel
set_option maxRecDepth 65536 in
theorem w_ripe : about1.ripe theMethod args0 below0 = true := by decide +kernel
theorem w_running : about1.status = .running := rfl
set_option maxRecDepth 65536 in
theorem w_room : about1.hasRoom e0.platform room_1 = true :=
  launch0.hasRoom_least _ room_1 (by decide +kernel) (by decide +kernel) (by decide +kernel) (by decide +kernel) (by decide +kernel) (by decide +kernel)
theorem allAtoms_all (ts : List Jvm.Cond) (a : Array Jvm.Value) (st : Jvm.State) : (allAtoms ts).before a st = ts.all (fun c => c.before a st) := by
  induction ts with
  | nil => rfl
  | cons c t ih =>
    show (Jvm.Cond.and c (allAtoms t)).before a st = _
    rw [Jvm.Cond.before_and, ih, List.all_cons]
def words1 : List Jvm.Cond := Jvm.Cond.code x code maxLocals ret :: tables_1
/-- a 'code' word, met by the world's own term for the bytes: nothing is compared byte by byte -/
theorem code_word {y : MethodName} {bytes : ByteArray} {mx : Nat} {rt : Option FieldType} {a : Array Value} {s : State} {m : MethodId} {meth : Method} {c : Code} (h1 : s.methodNamed? y = some m) (h2 : s.vm.method? m = some meth) (h3 : meth.code = some c) (h4 : c.code = bytes)
    (h5 : (c.maxLocals == mx && c.exceptionTable.isEmpty && decide (c.maxStack ≤ mostOperands) && decide (meth.sig.returnType = rt) && !meth.locks && decide (parseMethodDescriptor y.desc = some meth.sig)) = true) : (Jvm.Cond.code y bytes mx rt).before a s = true := by
  simp only [Bool.and_eq_true, beq_iff_eq, Bool.not_eq_true', decide_eq_true_eq] at h5
  obtain ⟨⟨⟨⟨⟨g1, g2⟩, g3⟩, g4⟩, g5⟩, g6⟩ := h5
  simp [Cond.before, Cond.holds, Cond.value, h1, h2, h3, h4, g1, g2, g3, g4, g5, g6]
def isCode : Jvm.Cond → Bool
  | .code _ _ _ _ => true
  | _ => false
theorem all_split {L : List Jvm.Cond} {P : Jvm.Cond → Bool} (h1 : L.all (fun c => isCode c || P c) = true) (h2 : ∀ c ∈ L.filter isCode, P c = true) : L.all P = true := by
  refine List.all_eq_true.mpr fun c hc => ?_
  have h := List.all_eq_true.mp h1 c hc
  rcases Bool.eq_false_or_eq_true (isCode c) with hi | hi
  · exact h2 c (List.mem_filter.mpr ⟨hc, hi⟩)
  · simpa [hi] using h
set_option maxRecDepth 65536 in
theorem w_c0 : (Jvm.Cond.code x code maxLocals ret).before args0 about1 = true := code_word (m := ⟨1, 1⟩) (meth := k1m1) (c := k1c1) (by decide +kernel) rfl rfl rfl (by decide +kernel)
set_option maxRecDepth 65536 in
theorem w_c1 : (Jvm.Cond.code ({ cls := "com/example/anchored_ring/anchoredring/HashesOneAtATimePinLaw", name := "step", desc := "(JI)J" } : Jvm.MethodName) method_3_code (11 : Nat) (Option.some Jvm.ClassFile.FieldType.long)).before args0 about1 = true := code_word (m := ⟨1, 2⟩) (meth := k1m2) (c := k1c2) (by decide +kernel) rfl rfl rfl (by decide +kernel)
set_option maxRecDepth 65536 in
theorem w_c2 : (Jvm.Cond.code ({ cls := "com/example/anchored_ring/anchoredring/HashesOneAtATimePinLaw", name := "finish", desc := "(J)J" } : Jvm.MethodName) method_4_code (8 : Nat) (Option.some Jvm.ClassFile.FieldType.long)).before args0 about1 = true := code_word (m := ⟨1, 3⟩) (meth := k1m3) (c := k1c3) (by decide +kernel) rfl rfl rfl (by decide +kernel)
set_option maxRecDepth 65536 in
theorem w_c3 : (Jvm.Cond.code ({ cls := "com/example/anchored_ring/anchoredring/Hashes", name := "oneAtATime", desc := "([BI)J" } : Jvm.MethodName) prog_18_method_8_code (4 : Nat) (Option.some Jvm.ClassFile.FieldType.long)).before args0 about1 = true := code_word (m := ⟨2, 1⟩) (meth := k2m1) (c := k2c1) (by decide +kernel) rfl rfl rfl (by decide +kernel)
set_option maxRecDepth 65536 in
theorem w_c4 : (Jvm.Cond.code ({ cls := "java/lang/Integer", name := "toUnsignedLong", desc := "(I)J" } : Jvm.MethodName) jdk_33_method_42_code (1 : Nat) (Option.some Jvm.ClassFile.FieldType.long)).before args0 about1 = true := code_word (m := ⟨8, 0⟩) (meth := k8m0) (c := k8c0) (by decide +kernel) rfl rfl rfl (by decide +kernel)
def codes1 : List Jvm.Cond := [Jvm.Cond.code x code maxLocals ret, Jvm.Cond.code ({ cls := "com/example/anchored_ring/anchoredring/HashesOneAtATimePinLaw", name := "step", desc := "(JI)J" } : Jvm.MethodName) method_3_code (11 : Nat) (Option.some Jvm.ClassFile.FieldType.long), Jvm.Cond.code ({ cls := "com/example/anchored_ring/anchoredring/HashesOneAtATimePinLaw", name := "finish", desc := "(J)J" } : Jvm.MethodName) method_4_code (8 : Nat) (Option.some Jvm.ClassFile.FieldType.long), Jvm.Cond.code ({ cls := "com/example/anchored_ring/anchoredring/Hashes", name := "oneAtATime", desc := "([BI)J" } : Jvm.MethodName) prog_18_method_8_code (4 : Nat) (Option.some Jvm.ClassFile.FieldType.long), Jvm.Cond.code ({ cls := "java/lang/Integer", name := "toUnsignedLong", desc := "(I)J" } : Jvm.MethodName) jdk_33_method_42_code (1 : Nat) (Option.some Jvm.ClassFile.FieldType.long)]
set_option maxRecDepth 65536 in
theorem codes_eq : words1.filter isCode = codes1 := rfl
theorem w_codes : ∀ c ∈ words1.filter isCode, c.before args0 about1 = true := by
  rw [codes_eq]
  intro c hc
  simp only [codes1, List.mem_cons, List.not_mem_nil, or_false] at hc
  rcases hc with rfl | rfl | rfl | rfl | rfl
  · exact w_c0
  · exact w_c1
  · exact w_c2
  · exact w_c3
  · exact w_c4
set_option maxRecDepth 65536 in
theorem w_t1 : words1.all (fun c => isCode c || c.before args0 about1) = true := by decide +kernel
theorem w_tables : (allAtoms (Jvm.Cond.code x code maxLocals ret :: tables_1)).before args0 about1 = true := by
  rw [allAtoms_all]
  show words1.all (fun c => c.before args0 about1) = true
  refine all_split ?_ w_codes
  rw [w_t1]
set_option maxRecDepth 65536 in
theorem w_case : (Jvm.Cond.and given_1 narrow_1).before args0 about1 = true := by decide +kernel
theorem w_applies : (headSpec (Jvm.Cond.code x code maxLocals ret :: tables_1) room_1).applies x e0.platform about1 = true :=
  (Spec.applies_iff w_frames).mpr ⟨w_running, w_runnable, w_alone, w_named, w_hears, w_ripe, w_room, w_tables⟩
theorem atStart : AtStart classFile x code maxLocals ret World_1 tables_1 room_1 Calls_1 rest_1 Pre_1 launch0 p0 e0 about1 theMethod args0 below0 :=
  ⟨lists_1, trivial, launch0.admits_env _ _ _, launch0.least_env, fairChoices_fair.cas, fairChoices_fair.clock, w_frames, w_args, w_heap, w_applies, trivial, trivial, w_case⟩
end start1
theorem witness_1 : WitnessClaimed_1 := ⟨start1.p0, start1.e0, start1.about1, start1.theMethod, start1.args0, start1.below0, start1.atStart⟩
end Jvm.Pilot.@@N@@
