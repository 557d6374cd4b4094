import JvmDerived
import JvmDerived.Pilot.@@N@@Statement
import JvmDerived.Pilot.@@N@@Code
set_option linter.unusedVariables false
set_option linter.unusedSimpArgs false
namespace Jvm.Pilot.@@N@@
open Jvm Jvm.ClassFile Sem Op Lib Jvm.Free Jvm.Stand Jvm.LawKit Jvm.RoadKit Bundle Jvm.Pilot.@@N@@.Jvm.D
/-! ### own kit: a walk as one chain, from a place of the run to the method's end -/
/-- from A the run comes to an end of which P holds -/
def own_E (p : Program) (e : Env) (below : List Frame) (P : Outcome → State → Prop) (A : State) : Prop :=
  ∃ s₂ o, Steps p.tables e below A s₂ ∧ s₂.status = .running ∧ Ended s₂ below o ∧ P o s₂
/-- what a contract says at the end -/
def own_P (Q : Option Value → Heap → List Loc → Prop) (s : State) (C S : Nat) : Outcome → State → Prop :=
  fun o U => ∃ v L, o = .returned v ∧ Q v U.heap L ∧ FrameEnd s o U L C S
/-- a contract: called with these arguments over the heap h, the body returns, and Q tells what and what is written -/
def own_Con (l : Launch) (Z : State) (y : MethodName) (bytes : ByteArray) (maxL : Nat) (ret : Option FieldType) (ws : List Jvm.Cond) (rm : Room) (as : Array Value) (h : Heap) (Q : Option Value → Heap → List Loc → Prop) : Prop :=
  MetFree l y (head1 (Jvm.Cond.code y bytes maxL ret :: ws) rm) (fun a U => a = as ∧ Z.Warmed39 U.vm ∧ U.heap = h) (fun _ _ _ _ _ => True) (fun _ U o U' => ∃ v L, o = .returned v ∧ Q v U'.heap L ∧ FrameEnd U o U' L rm.cells rm.slots)
theorem own_w {Z : State} {a0 : Array Value} (hw : ∀ d ∈ tables_1, d.before a0 Z = true) (i : Nat) {d : Jvm.Cond} (q : tables_1[i]? = some d) : d.before a0 Z = true := hw d (List.mem_of_getElem? q)
section Own
variable {p : Program} {l : Launch} {e : Env} {R : Room} {s : State} {m : MethodId} {args : Array Value} {below : List Frame} {meth : Method} {c : Code} {T : State} {locs : List Loc} {cells slots : Nat} {Z : State} {a0 : Array Value} {h h' : Heap} {P : Outcome → State → Prop} {A B : State} {Q : Option Value → Heap → List Loc → Prop}
theorem own_s (st : ∀ t, Steps p.tables e below B t → Steps p.tables e below A t) (k : own_E p e below P B) : own_E p e below P A := by
  obtain ⟨s2, o, h1, h2⟩ := k; exact ⟨s2, o, st _ h1, h2⟩
theorem own_g {g : JFrame} (g' : JFrame) (st : ∀ t, Steps p.tables e below (T.setTop g') t → Steps p.tables e below (T.setTop g) t) (k : own_E p e below P (T.setTop g')) : own_E p e below P (T.setTop g) := own_s st k
theorem own_t (st : Steps p.tables e below A B) (k : own_E p e below P B) : own_E p e below P A := by
  obtain ⟨s2, o, h1, h2⟩ := k; exact ⟨s2, o, st.trans h1, h2⟩
theorem own_enter {y : MethodName} {bytes : ByteArray} {maxL : Nat} {ret : Option FieldType} {ws : List Jvm.Cond} {rm : Room} {as : Array Value} (hpl : plainFor y = true)
    (body : ∀ (p : Program) (e : Env) (s : State) (m : MethodId) (below : List Frame) (meth : Method) (c : Code) (s₁ : State), Stand p l e rm s m as below meth c s₁ [] 0 0 → s₁.heap = h → p.tables.exec = Jvm.exec → Z.Warmed39 s.vm → c.code = bytes → c.maxLocals = maxL → s.vm.findClass y.cls = some m.cls → meth.name = y.name → meth.sig.returnType = ret → meth.locks = false →
      own_E p e below (own_P Q s rm.cells rm.slots) (s₁.setTop (entryFrame m as maxL))) : own_Con l Z y bytes maxL ret ws rm as h Q := by
  refine MetFree.of_bodySF hpl hisR ?_
  intro p e s m args below meth c s₁ Bd hml hP hK
  obtain ⟨rfl, hZ, hh⟩ := hP
  have X0 : Stand p l e rm s m args below meth c s₁ [] 0 0 := Stand.of_body Bd
  have e0 : s₁.heap = h := by rw [← hh, Bd.state]; rfl
  exact body p e s m below meth c s₁ X0 e0 Bd.exec hZ Bd.bytes hml (findClass_of_methodNamed Bd.named) (name_of_methodNamed Bd.named Bd.method).1 Bd.returns Bd.notSynchronized
theorem own_cast {g g' : JFrame} (q : g = g') (k : own_E p e below P (T.setTop g')) : own_E p e below P (T.setTop g) := q ▸ k
/-! returns -/
theorem own_retZ (X : Stand p l e R s m args below meth c T locs cells slots) (hx : p.tables.exec = Jvm.exec) (hret : meth.sig.returnType = some .boolean) (hlk : meth.locks = false) {pc : Nat} {Ls : Array Slot} {z : Int32} {C S : Nat} {rest : List Value} (hd : decode c.code pc = .ok (.ireturn, 1)) (hz : nar .boolean z = z) (hc : cells ≤ C) (hs : slots ≤ S) (hQ : Q (some (.int z)) T.heap locs) :
    own_E p e below (own_P Q s C S) (T.setTop (mkF m pc Ls (.int z :: rest))) := by
  obtain ⟨fs, hr, hrun, hended, hW, hsame⟩ := X.leave (v := some (.int z)) (fun q => by rw [hret] at q; cases q) hlk
  exact ⟨_, _, retN X hx (t := .boolean) hret (by simp) hd (by rw [hz]; exact hr), hrun, hended, _, _, rfl, hQ, ⟨_, rfl⟩, hW, hsame.mono hc hs⟩
theorem own_retI (X : Stand p l e R s m args below meth c T locs cells slots) (hx : p.tables.exec = Jvm.exec) (hret : meth.sig.returnType = some .int) (hlk : meth.locks = false) {pc : Nat} {Ls : Array Slot} {z : Int32} {C S : Nat} (hd : decode c.code pc = .ok (.ireturn, 1)) (hc : cells ≤ C) (hs : slots ≤ S) (hQ : Q (some (.int z)) T.heap locs) :
    own_E p e below (own_P Q s C S) (T.setTop (mkF m pc Ls [.int z])) := by
  obtain ⟨fs, hr, hrun, hended, hW, hsame⟩ := X.leave (v := some (.int z)) (fun q => by rw [hret] at q; cases q) hlk
  exact ⟨_, _, X.ireturnOut hx hret rfl (Or.inl rfl) hd hr, hrun, hended, _, _, rfl, hQ, ⟨_, rfl⟩, hW, hsame.mono hc hs⟩
theorem own_retJ (X : Stand p l e R s m args below meth c T locs cells slots) (hx : p.tables.exec = Jvm.exec) (hret : meth.sig.returnType = some .long) (hlk : meth.locks = false) {pc : Nat} {Ls : Array Slot} {z : Int64} {C S : Nat} (hd : decode c.code pc = .ok (.lreturn, 1)) (hc : cells ≤ C) (hs : slots ≤ S) (hQ : Q (some (.long z)) T.heap locs) :
    own_E p e below (own_P Q s C S) (T.setTop (mkF m pc Ls [.long z])) := by
  obtain ⟨fs, hr, hrun, hended, hW, hsame⟩ := X.leave (v := some (.long z)) (fun q => by rw [hret] at q; cases q) hlk
  exact ⟨_, _, X.lreturnOut hx hret hd hr, hrun, hended, _, _, rfl, hQ, ⟨_, rfl⟩, hW, hsame.mono hc hs⟩
theorem own_retA (X : Stand p l e R s m args below meth c T locs cells slots) (hx : p.tables.exec = Jvm.exec) {t : FieldType} (ht : t.isReference = true) (hret : meth.sig.returnType = some t) (hlk : meth.locks = false) {pc : Nat} {Ls : Array Slot} {a : Addr} {C S : Nat} (hd : decode c.code pc = .ok (.areturn, 1)) (hc : cells ≤ C) (hs : slots ≤ S) (hQ : Q (some (.ref a)) T.heap locs) :
    own_E p e below (own_P Q s C S) (T.setTop (mkF m pc Ls [.ref a])) := by
  obtain ⟨fs, hr, hrun, hended, hW, hsame⟩ := X.leave (v := some (.ref a)) (fun q => by rw [hret] at q; cases q) hlk
  exact ⟨_, _, X.areturnOut hx (w := .ref a) rfl hret ht hd hr, hrun, hended, _, _, rfl, hQ, ⟨_, rfl⟩, hW, hsame.mono hc hs⟩
theorem own_retV (X : Stand p l e R s m args below meth c T locs cells slots) (hx : p.tables.exec = Jvm.exec) (hret : meth.sig.returnType = none) (hlk : meth.locks = false) {pc : Nat} {Ls : Array Slot} {C S : Nat} (hd : decode c.code pc = .ok (.return_, 1)) (hc : cells ≤ C) (hs : slots ≤ S) (hQ : Q none T.heap locs) :
    own_E p e below (own_P Q s C S) (T.setTop (mkF m pc Ls [])) := by
  obtain ⟨fs, hr, hrun, hended, hW, hsame⟩ := X.leave (v := none) (fun _ => rfl) hlk
  exact ⟨_, _, X.returnOut hx hret hd hr, hrun, hended, _, _, rfl, hQ, ⟨_, rfl⟩, hW, hsame.mono hc hs⟩
/-! calls by a contract -/
theorem own_callS {y : MethodName} {bytes : ByteArray} {maxL : Nat} {ret : Option FieldType} {rm : Room} {own : String} {index : Nat} {as : List Value} (X : Stand p l e R s m args below meth c T locs cells slots) (hx : p.tables.exec = Jvm.exec) (hZ : Z.Warmed39 s.vm) (hown : s.vm.findClass own = some m.cls) (hT : T.heap = h) (hM : own_Con l Z y bytes maxL ret [] rm as.toArray h Q)
    (w1 : (Jvm.Cond.methodLink own index y).before a0 Z = true) (w2 : (Jvm.Cond.static y).before a0 Z = true) (w3 : (Jvm.Cond.initialized y.cls).before a0 Z = true) (w4 : (Jvm.Cond.code y bytes maxL ret).before a0 Z = true) (hy : y.cls ≠ "java/lang/invoke/MethodHandle" ∧ y.cls ≠ "java/lang/invoke/VarHandle") {ps : List FieldType} {r : Option FieldType} (hpd : parseMethodDescriptor y.desc = some ⟨ps, r⟩) (hlen : as.length = ps.length)
    {pc : Nat} {Ls : Array Slot} {st rest : List Value} (hml : Ls.size = c.maxLocals) (hst : st = as.reverse ++ rest) (hd : decode c.code pc = .ok (.invokestatic index, 3)) (W : Nat) (hW : 2 * 0 + (rest.map fun v => v.category).sum ≤ W) (hf : rm.frames + 1 ≤ R.frames) (hl : W + (maxL + 11) + rm.locals ≤ R.locals) (hc : cells + rm.cells ≤ R.cells) (hs : slots + rm.slots ≤ R.slots)
    (k : ∀ (v : Option Value) (T' : State) (L : List Loc), Stand p l e R s m args below meth c T' (locs ++ L) (cells + rm.cells) (slots + rm.slots) → Q v T'.heap L → own_E p e below P (T'.setTop (mkF m (pc + 3) Ls (v.toList ++ rest)))) :
    own_E p e below P (T.setTop (mkF m pc Ls st)) := by
  obtain ⟨v, _, ⟨T', L', k', n'⟩, -, X', ⟨L, hQ, h1, h2, h3⟩, stp⟩ := Jvm.LawKit.callS X hx hown (mvT hZ w1) (mvT hZ w2) (mvT hZ w3) (mvT hZ w4) hy (backOf (W := W) hM hZ w4 w3 hf hl) (g := mkF m pc Ls st) rfl hml (argsL := as) (rest := rest) (lenOf hpd hlen) hst hW hd (fun _ _ => ⟨rfl, hT, hc, hs⟩)
  dsimp only [Pt.U, Pt.locs, Pt.cells, Pt.slots] at X' h1 h2 h3 stp hQ
  subst h1 h2 h3
  exact own_s stp (k v T' L X' hQ)
theorem own_callI {y : MethodName} {bytes : ByteArray} {maxL : Nat} {rm : Room} {own : String} {index : Nat} {a : Addr} {as : List Value} (X : Stand p l e R s m args below meth c T locs cells slots) (hx : p.tables.exec = Jvm.exec) (hZ : Z.Warmed39 s.vm) (hown : s.vm.findClass own = some m.cls) (hT : T.heap = h) (hM : own_Con l Z y bytes maxL none [] rm (.ref a :: as).toArray h Q) (hy1 : y.name = "<init>")
    (w1 : (Jvm.Cond.methodLink own index y).before a0 Z = true) (w2 : (Jvm.Cond.instanceMethod y).before a0 Z = true) (w3 : (Jvm.Cond.initialized y.cls).before a0 Z = true) (w4 : (Jvm.Cond.code y bytes maxL none).before a0 Z = true) (hy : y.cls ≠ "java/lang/invoke/MethodHandle" ∧ y.cls ≠ "java/lang/invoke/VarHandle") {ps : List FieldType} {r : Option FieldType} (hpd : parseMethodDescriptor y.desc = some ⟨ps, r⟩) (hlen : as.length = ps.length)
    {pc : Nat} {Ls : Array Slot} {st rest : List Value} (hml : Ls.size = c.maxLocals) (hst : st = as.reverse ++ .ref a :: rest) (hd : decode c.code pc = .ok (.invokespecial index, 3)) (W : Nat) (hW : 2 * 0 + (rest.map fun v => v.category).sum ≤ W) (hf : rm.frames + 1 ≤ R.frames) (hl : W + (maxL + 11) + rm.locals ≤ R.locals) (hc : cells + rm.cells ≤ R.cells) (hs : slots + rm.slots ≤ R.slots)
    (k : ∀ (v : Option Value) (T' : State) (L : List Loc), Stand p l e R s m args below meth c T' (locs ++ L) (cells + rm.cells) (slots + rm.slots) → Q v T'.heap L → own_E p e below P (T'.setTop (mkF m (pc + 3) Ls (v.toList ++ rest)))) :
    own_E p e below P (T.setTop (mkF m pc Ls st)) := by
  obtain ⟨v, _, ⟨T', L', k', n'⟩, -, X', ⟨L, hQ, h1, h2, h3⟩, stp⟩ := X.specialBack hx hy1 hown (mvT hZ w1) (mvT hZ w2) (mvT hZ w4) hy (backOf (W := W) hM hZ w4 w3 hf hl) (g := mkF m pc Ls st) rfl hml (Steps.refl _) (a := a) (argsL := as) (rest := rest) (lenOf hpd hlen) hst hW hd (fun _ _ => ⟨rfl, hT, hc, hs⟩)
  dsimp only [Pt.U, Pt.locs, Pt.cells, Pt.slots] at X' h1 h2 h3 stp hQ
  subst h1 h2 h3
  exact own_t stp (k v T' L X' hQ)
theorem own_callV {y : MethodName} {bytes : ByteArray} {maxL : Nat} {ret : Option FieldType} {rm : Room} {own : String} {index : Nat} {a : Addr} {as : List Value} (X : Stand p l e R s m args below meth c T locs cells slots) (hx : p.tables.exec = Jvm.exec) (hZ : Z.Warmed39 s.vm) (hown : s.vm.findClass own = some m.cls) (hT : T.heap = h) (hM : own_Con l Z y bytes maxL ret [] rm (.ref a :: as).toArray h Q) (hE : Exa Z h a y.cls)
    (w1 : (Jvm.Cond.methodLink own index y).before a0 Z = true) (w2 : (Jvm.Cond.declares y).before a0 Z = true) (w5 : (Jvm.Cond.selects y.cls y y).before a0 Z = true) (w6 : (Jvm.Cond.instanceMethod y).before a0 Z = true) (w3 : (Jvm.Cond.initialized y.cls).before a0 Z = true) (w4 : (Jvm.Cond.code y bytes maxL ret).before a0 Z = true) (hy : y.cls ≠ "java/lang/invoke/MethodHandle" ∧ y.cls ≠ "java/lang/invoke/VarHandle") {ps : List FieldType} {r : Option FieldType} (hpd : parseMethodDescriptor y.desc = some ⟨ps, r⟩) (hlen : as.length = ps.length)
    {pc : Nat} {Ls : Array Slot} {st rest : List Value} (hml : Ls.size = c.maxLocals) (hst : st = as.reverse ++ .ref a :: rest) (hd : decode c.code pc = .ok (.invokevirtual index, 3)) (W : Nat) (hW : 2 * 0 + (rest.map fun v => v.category).sum ≤ W) (hf : rm.frames + 1 ≤ R.frames) (hl : W + (maxL + 11) + rm.locals ≤ R.locals) (hc : cells + rm.cells ≤ R.cells) (hs : slots + rm.slots ≤ R.slots)
    (k : ∀ (v : Option Value) (T' : State) (L : List Loc), Stand p l e R s m args below meth c T' (locs ++ L) (cells + rm.cells) (slots + rm.slots) → Q v T'.heap L → own_E p e below P (T'.setTop (mkF m (pc + 3) Ls (v.toList ++ rest)))) :
    own_E p e below P (T.setTop (mkF m pc Ls st)) := by
  obtain ⟨cq, kq, qa, qb, qc⟩ := isOf hZ hT hE
  obtain ⟨v, _, ⟨T', L', k', n'⟩, -, X', ⟨L, hQ, h1, h2, h3⟩, stp⟩ := X.virtualBack hx hown (mvT hZ w1) (mvT hZ w2) (notFace_of_selects (args := #[]) (mvT hZ w5)) (mvT hZ w5) (mvT hZ w6) hy (backOf (W := W) hM hZ w4 w3 hf hl) qa qc (g := mkF m pc Ls st) rfl hml (Steps.refl _) (argsL := as) (rest := rest) (lenOf hpd hlen) hst hW hd (fun _ _ => ⟨rfl, hT, hc, hs⟩)
  dsimp only [Pt.U, Pt.locs, Pt.cells, Pt.slots] at X' h1 h2 h3 stp hQ
  subst h1 h2 h3
  exact own_t stp (k v T' L X' hQ)
theorem own_callP {y : MethodName} {bytes : ByteArray} {maxL : Nat} {ret : Option FieldType} {rm : Room} {own : String} {index kn : Nat} {a : Addr} {as : List Value} (X : Stand p l e R s m args below meth c T locs cells slots) (hx : p.tables.exec = Jvm.exec) (hZ : Z.Warmed39 s.vm) (hown : s.vm.findClass own = some m.cls) (hT : T.heap = h) (hM : own_Con l Z y bytes maxL ret [] rm (.ref a :: as).toArray h Q) (hE : Exa Z h a y.cls)
    (w1 : (Jvm.Cond.methodLink own index y).before a0 Z = true) (w2 : (Jvm.Cond.instantiable y.cls kn).before a0 Z = true) (w5 : (Jvm.Cond.privateMethod y).before a0 Z = true) (w6 : (Jvm.Cond.instanceMethod y).before a0 Z = true) (w3 : (Jvm.Cond.initialized y.cls).before a0 Z = true) (w4 : (Jvm.Cond.code y bytes maxL ret).before a0 Z = true) (hy : y.cls ≠ "java/lang/invoke/MethodHandle" ∧ y.cls ≠ "java/lang/invoke/VarHandle") {ps : List FieldType} {r : Option FieldType} (hpd : parseMethodDescriptor y.desc = some ⟨ps, r⟩) (hlen : as.length = ps.length)
    {pc : Nat} {Ls : Array Slot} {st rest : List Value} (hml : Ls.size = c.maxLocals) (hst : st = as.reverse ++ .ref a :: rest) (hd : decode c.code pc = .ok (.invokevirtual index, 3)) (W : Nat) (hW : 2 * 0 + (rest.map fun v => v.category).sum ≤ W) (hf : rm.frames + 1 ≤ R.frames) (hl : W + (maxL + 11) + rm.locals ≤ R.locals) (hc : cells + rm.cells ≤ R.cells) (hs : slots + rm.slots ≤ R.slots)
    (k : ∀ (v : Option Value) (T' : State) (L : List Loc), Stand p l e R s m args below meth c T' (locs ++ L) (cells + rm.cells) (slots + rm.slots) → Q v T'.heap L → own_E p e below P (T'.setTop (mkF m (pc + 3) Ls (v.toList ++ rest)))) :
    own_E p e below P (T.setTop (mkF m pc Ls st)) := by
  obtain ⟨cq, hq, hq'⟩ := hE.cell
  have hi : (Jvm.Cond.instantiable y.cls kn).before args s = true := mvT hZ w2
  obtain ⟨ck, kk, hck, hkk, -, hniab, -, -⟩ := Cond.instantiable_spec hi
  have hpriv : s.PrivateAt y := Cond.privateMethod_at (mvP hZ w5 (args := #[]))
  have hins : (Jvm.Cond.instanceMethod y).before args s = true := mvT hZ w6
  have hsel : (Jvm.Cond.selects y.cls y y).before args s = true := selects_self_of_private hck hkk (Bool.or_eq_false_iff.mp hniab).1 hpriv hins hy
  obtain ⟨v, _, ⟨T', L', k', n'⟩, -, X', ⟨L, hQ, h1, h2, h3⟩, stp⟩ := X.privateBack hx hown (mvT hZ w1) hins hsel hpriv (mvT hZ w4) hy (backOf (W := W) hM hZ w4 w3 hf hl) (g := mkF m pc Ls st) rfl hml (Steps.refl _) (a := a) (cell := cq) (by rw [hT]; exact hq) hq' (argsL := as) (rest := rest) (lenOf hpd hlen) hst hW hd (fun _ _ => ⟨rfl, hT, hc, hs⟩)
  dsimp only [Pt.U, Pt.locs, Pt.cells, Pt.slots] at X' h1 h2 h3 stp hQ
  subst h1 h2 h3
  exact own_t stp (k v T' L X' hQ)
/-! arrays: a length and a function from places to values -/
def own_IA (Z : State) (h : Heap) (a : Addr) (ty : FieldType) (n : Nat) (f : Nat → Int32) : Prop := ∃ cl : Cell, Arr Z h a cl ty ∧ cl.slots.size = n ∧ ∀ i, i < n → cl.slots[i]? = some (.int (f i))
def own_JA (Z : State) (h : Heap) (a : Addr) (n : Nat) (f : Nat → Int64) : Prop := ∃ cl : Cell, Arr Z h a cl .long ∧ cl.slots.size = n ∧ ∀ i, i < n → cl.slots[i]? = some (.long (f i))
def own_set {α : Type} (f : Nat → α) (i : Nat) (v : α) : Nat → α := fun q => if q = i then v else f q
theorem own_set_same {α : Type} (f : Nat → α) (i : Nat) (v : α) : own_set f i v i = v := by simp [own_set]
theorem own_set_other {α : Type} (f : Nat → α) {i q : Nat} (v : α) (hq : q ≠ i) : own_set f i v q = f q := by simp [own_set, hq]
variable {a b : Addr} {ty : FieldType} {n : Nat} {f : Nat → Int32} {fJ : Nat → Int64} {ws : List Addr} {sl : Nat} {v : Value}
theorem own_IA.lt (F : own_IA Z h a ty n f) : a < h.size := by obtain ⟨cl, A, -⟩ := F; exact A.lt
theorem own_JA.lt (F : own_JA Z h a n fJ) : a < h.size := by obtain ⟨cl, A, -⟩ := F; exact A.lt
theorem own_IA.ext (F : own_IA Z h a ty n f) (E : Ext h h') : own_IA Z h' a ty n f := by obtain ⟨cl, A, r⟩ := F; exact ⟨cl, A.ext E, r⟩
theorem own_JA.ext (F : own_JA Z h a n fJ) (E : Ext h h') : own_JA Z h' a n fJ := by obtain ⟨cl, A, r⟩ := F; exact ⟨cl, A.ext E, r⟩
theorem own_IA.other (F : own_IA Z h b ty n f) (W : Wr h h' a sl v) (q : b ≠ a) : own_IA Z h' b ty n f := by obtain ⟨cl, A, r⟩ := F; exact ⟨cl, A.other W q, r⟩
theorem own_JA.other (F : own_JA Z h b n fJ) (W : Wr h h' a sl v) (q : b ≠ a) : own_JA Z h' b n fJ := by obtain ⟨cl, A, r⟩ := F; exact ⟨cl, A.other W q, r⟩
theorem own_IA.keep (F : own_IA Z h a ty n f) (K : Keep h h' ws) (q : a ∉ ws) : own_IA Z h' a ty n f := by obtain ⟨cl, A, r⟩ := F; exact ⟨cl, ⟨K.2.1 a cl A.1 q, A.2⟩, r⟩
theorem own_JA.keep (F : own_JA Z h a n fJ) (K : Keep h h' ws) (q : a ∉ ws) : own_JA Z h' a n fJ := by obtain ⟨cl, A, r⟩ := F; exact ⟨cl, ⟨K.2.1 a cl A.1 q, A.2⟩, r⟩
theorem own_IA.congr {f' : Nat → Int32} (F : own_IA Z h a ty n f) (q : ∀ i, i < n → f i = f' i) : own_IA Z h a ty n f' := by obtain ⟨cl, A, S, H⟩ := F; exact ⟨cl, A, S, fun i hi => by rw [← q i hi]; exact H i hi⟩
theorem own_JA.congr {f' : Nat → Int64} (F : own_JA Z h a n fJ) (q : ∀ i, i < n → fJ i = f' i) : own_JA Z h a n f' := by obtain ⟨cl, A, S, H⟩ := F; exact ⟨cl, A, S, fun i hi => by rw [← q i hi]; exact H i hi⟩
theorem own_ins {cl : Cell} {j : Int32} {i : Nat} (S : cl.slots.size = n) (hj : ¬ j < 0) (hi : j.toNatClampNeg = i) (hin : i < n) : ¬ (j < 0 ∨ cl.slots.size ≤ j.toNatClampNeg) := by
  rintro (q | q)
  · exact hj q
  · rw [S, hi] at q; omega
theorem own_setI {cl : Cell} {i : Nat} {x : Int32} (W : Wr h h' a i (.int x)) (A : Arr Z h a cl ty) (S : cl.slots.size = n) (H : ∀ q, q < n → cl.slots[q]? = some (.int (f q))) : own_IA Z h' a ty n (own_set f i x) := by
  refine ⟨_, A.same W, by rw [sz_set]; exact S, fun q hq => ?_⟩
  by_cases u : q = i
  · subst u; simp [Cell.setSlot, own_set, S, hq]
  · rw [own_set_other _ _ u, ← H q hq]; exact Array.getElem?_setIfInBounds_ne (Ne.symm u)
theorem own_setJ {cl : Cell} {i : Nat} {x : Int64} (W : Wr h h' a i (.long x)) (A : Arr Z h a cl .long) (S : cl.slots.size = n) (H : ∀ q, q < n → cl.slots[q]? = some (.long (fJ q))) : own_JA Z h' a n (own_set fJ i x) := by
  refine ⟨_, A.same W, by rw [sz_set]; exact S, fun q hq => ?_⟩
  by_cases u : q = i
  · subst u; simp [Cell.setSlot, own_set, S, hq]
  · rw [own_set_other _ _ u, ← H q hq]; exact Array.getElem?_setIfInBounds_ne (Ne.symm u)
theorem own_newI (X : Stand p l e R s m args below meth c T locs cells slots) (hx : p.tables.exec = Jvm.exec) (hZ : Z.Warmed39 s.vm) (hT : T.heap = h) {aty : ArrayType} (w : (Jvm.Cond.arrayClass (newarray.typeOf aty)).before a0 Z = true) (hdv : defaultValue (newarray.typeOf aty) = .int 0) {pc : Nat} {Ls : Array Slot} {rest : List Value} {z : Int32} (hd : decode c.code pc = .ok (.newarray aty, 2)) (hz : ¬ z < 0) (hzn : z.toNatClampNeg = n) (cap : Nat) (hcap : n ≤ cap) (hb : cap * 8 ≤ 536870912) (hc : cells + 1 ≤ R.cells) (hl : slots + cap ≤ R.slots)
    (k : ∀ (T' : State) (h' : Heap) (a : Nat), a = h.size → Stand p l e R s m args below meth c T' locs (cells + 1) (slots + cap) → T'.heap = h' → Ext h h' → own_IA Z h' a (newarray.typeOf aty) n (fun _ => 0) → own_E p e below P (T'.setTop (mkF m (pc + 2) Ls (.ref a :: rest)))) :
    own_E p e below P (T.setTop (mkF m pc Ls (.int z :: rest))) := by
  obtain ⟨T', h', cA, X', e', E, A, st⟩ := newP X hx hZ w hT (g := mkF m pc Ls (.int z :: rest)) rfl hd rfl hz (cap := cap) (by rw [hzn]; exact hcap) hb hc hl
  refine own_s st (k T' h' _ rfl X' e' E ⟨_, A, by rw [sz_new, hzn], fun i hi => ?_⟩)
  simp [newA, hzn, hi, hdv]
theorem own_newJ (X : Stand p l e R s m args below meth c T locs cells slots) (hx : p.tables.exec = Jvm.exec) (hZ : Z.Warmed39 s.vm) (hT : T.heap = h) (w : (Jvm.Cond.arrayClass .long).before a0 Z = true) {pc : Nat} {Ls : Array Slot} {rest : List Value} {z : Int32} (hd : decode c.code pc = .ok (.newarray .long, 2)) (hz : ¬ z < 0) (hzn : z.toNatClampNeg = n) (cap : Nat) (hcap : n ≤ cap) (hb : cap * 8 ≤ 536870912) (hc : cells + 1 ≤ R.cells) (hl : slots + cap ≤ R.slots)
    (k : ∀ (T' : State) (h' : Heap) (a : Nat), a = h.size → Stand p l e R s m args below meth c T' locs (cells + 1) (slots + cap) → T'.heap = h' → Ext h h' → own_JA Z h' a n (fun _ => 0) → own_E p e below P (T'.setTop (mkF m (pc + 2) Ls (.ref a :: rest)))) :
    own_E p e below P (T.setTop (mkF m pc Ls (.int z :: rest))) := by
  obtain ⟨T', h', cA, X', e', E, A, st⟩ := newP X hx hZ (aty := .long) w hT (g := mkF m pc Ls (.int z :: rest)) rfl hd rfl hz (cap := cap) (by rw [hzn]; exact hcap) hb hc hl
  refine own_s st (k T' h' _ rfl X' e' E ⟨_, A, by rw [sz_new, hzn], fun i hi => ?_⟩)
  simp [newA, hzn, hi, newarray.typeOf, defaultValue]
theorem own_lenI (X : Stand p l e R s m args below meth c T locs cells slots) (hx : p.tables.exec = Jvm.exec) (hZ : Z.Warmed39 s.vm) (hT : T.heap = h) (F : own_IA Z h a ty n f) {pc : Nat} {Ls : Array Slot} {rest : List Value} (hd : decode c.code pc = .ok (.arraylength, 1)) {z : Int32} (hz : n.toInt32 = z) (k : own_E p e below P (T.setTop (mkF m (pc + 1) Ls (.int z :: rest)))) :
    own_E p e below P (T.setTop (mkF m pc Ls (.ref a :: rest))) := by
  obtain ⟨cl, A, S, H⟩ := F
  exact own_s (X.arraylength hx (cell := cl) (by rw [hT]; exact A.1) (State.isArrayOf_alike hZ.alike A.2.1) (g := mkF m pc Ls (.ref a :: rest)) rfl (rest := rest) rfl hd) (by rw [S, hz]; exact k)
theorem own_lenJ (X : Stand p l e R s m args below meth c T locs cells slots) (hx : p.tables.exec = Jvm.exec) (hZ : Z.Warmed39 s.vm) (hT : T.heap = h) (F : own_JA Z h a n fJ) {pc : Nat} {Ls : Array Slot} {rest : List Value} (hd : decode c.code pc = .ok (.arraylength, 1)) {z : Int32} (hz : n.toInt32 = z) (k : own_E p e below P (T.setTop (mkF m (pc + 1) Ls (.int z :: rest)))) :
    own_E p e below P (T.setTop (mkF m pc Ls (.ref a :: rest))) := by
  obtain ⟨cl, A, S, H⟩ := F
  exact own_s (X.arraylength hx (cell := cl) (by rw [hT]; exact A.1) (State.isArrayOf_alike hZ.alike A.2.1) (g := mkF m pc Ls (.ref a :: rest)) rfl (rest := rest) rfl hd) (by rw [S, hz]; exact k)
theorem own_ildI (X : Stand p l e R s m args below meth c T locs cells slots) (hx : p.tables.exec = Jvm.exec) (hZ : Z.Warmed39 s.vm) (hT : T.heap = h) (F : own_IA Z h a .int n f) {pc i : Nat} {Ls : Array Slot} {rest : List Value} {j x : Int32} (hd : decode c.code pc = .ok (.iaload, 1)) (hj : ¬ j < 0) (hi : j.toNatClampNeg = i) (hin : i < n) (hv : f i = x) (k : own_E p e below P (T.setTop (mkF m (pc + 1) Ls (.int x :: rest)))) :
    own_E p e below P (T.setTop (mkF m pc Ls (.int j :: .ref a :: rest))) := by
  obtain ⟨cl, A, S, H⟩ := F
  subst hv
  exact own_s (X.iaload hx (j := j) (v := .int (f i)) (by rw [hT]; exact A.1) (State.isArrayOf_alike hZ.alike A.2.1) A.2.2 (own_ins S hj hi hin) (by rw [hi]; exact H i hin) (g := mkF m pc Ls (.int j :: .ref a :: rest)) rfl rfl hd) k
theorem own_ildB (X : Stand p l e R s m args below meth c T locs cells slots) (hx : p.tables.exec = Jvm.exec) (hZ : Z.Warmed39 s.vm) (hT : T.heap = h) (F : own_IA Z h a .byte n f) {pc i : Nat} {Ls : Array Slot} {rest : List Value} {j x : Int32} (hd : decode c.code pc = .ok (.baload, 1)) (hj : ¬ j < 0) (hi : j.toNatClampNeg = i) (hin : i < n) (hv : f i = x) (k : own_E p e below P (T.setTop (mkF m (pc + 1) Ls (.int x :: rest)))) :
    own_E p e below P (T.setTop (mkF m pc Ls (.int j :: .ref a :: rest))) := by
  obtain ⟨cl, A, S, H⟩ := F
  subst hv
  exact own_s (X.baloadBytes hx (j := j) (v := .int (f i)) (by rw [hT]; exact A.1) (State.isArrayOf_alike hZ.alike A.2.1) A.2.2 (own_ins S hj hi hin) (by rw [hi]; exact H i hin) (g := mkF m pc Ls (.int j :: .ref a :: rest)) rfl rfl hd) k
theorem own_ildZ (X : Stand p l e R s m args below meth c T locs cells slots) (hx : p.tables.exec = Jvm.exec) (hZ : Z.Warmed39 s.vm) (hT : T.heap = h) (F : own_IA Z h a .boolean n f) {pc i : Nat} {Ls : Array Slot} {rest : List Value} {j x : Int32} (hd : decode c.code pc = .ok (.baload, 1)) (hj : ¬ j < 0) (hi : j.toNatClampNeg = i) (hin : i < n) (hv : f i = x) (k : own_E p e below P (T.setTop (mkF m (pc + 1) Ls (.int x :: rest)))) :
    own_E p e below P (T.setTop (mkF m pc Ls (.int j :: .ref a :: rest))) := by
  obtain ⟨cl, A, S, H⟩ := F
  subst hv
  exact own_s (X.baloadBooleans hx (j := j) (v := .int (f i)) (by rw [hT]; exact A.1) (State.isArrayOf_alike hZ.alike A.2.1) A.2.2 (own_ins S hj hi hin) (by rw [hi]; exact H i hin) (g := mkF m pc Ls (.int j :: .ref a :: rest)) rfl rfl hd) k
theorem own_ildJ (X : Stand p l e R s m args below meth c T locs cells slots) (hx : p.tables.exec = Jvm.exec) (hZ : Z.Warmed39 s.vm) (hT : T.heap = h) (F : own_JA Z h a n fJ) {pc i : Nat} {Ls : Array Slot} {rest : List Value} {j : Int32} {x : Int64} (hd : decode c.code pc = .ok (.laload, 1)) (hj : ¬ j < 0) (hi : j.toNatClampNeg = i) (hin : i < n) (hv : fJ i = x) (k : own_E p e below P (T.setTop (mkF m (pc + 1) Ls (.long x :: rest)))) :
    own_E p e below P (T.setTop (mkF m pc Ls (.int j :: .ref a :: rest))) := by
  obtain ⟨cl, A, S, H⟩ := F
  subst hv
  exact own_s (X.laload hx (j := j) (v := .long (fJ i)) (by rw [hT]; exact A.1) (State.isArrayOf_alike hZ.alike A.2.1) A.2.2 (own_ins S hj hi hin) (by rw [hi]; exact H i hin) (g := mkF m pc Ls (.int j :: .ref a :: rest)) rfl rfl hd) k
theorem own_stI (X : Stand p l e R s m args below meth c T locs cells slots) (hx : p.tables.exec = Jvm.exec) (hZ : Z.Warmed39 s.vm) (hT : T.heap = h) (F : own_IA Z h a .int n f) {pc i : Nat} {Ls : Array Slot} {rest : List Value} {j x : Int32} (hd : decode c.code pc = .ok (.iastore, 1)) (hj : ¬ j < 0) (hi : j.toNatClampNeg = i) (hin : i < n)
    (k : ∀ (T' : State) (h' : Heap), Stand p l e R s m args below meth c T' (locs ++ [⟨a, i⟩]) cells slots → T'.heap = h' → Wr h h' a i (.int x) → own_IA Z h' a .int n (own_set f i x) → own_E p e below P (T'.setTop (mkF m (pc + 1) Ls rest))) :
    own_E p e below P (T.setTop (mkF m pc Ls (.int x :: .int j :: .ref a :: rest))) := by
  obtain ⟨cl, A, S, H⟩ := F
  obtain ⟨T', h', X', e', W, st⟩ := stI X hx hZ hT A (j := j) (own_ins S hj hi hin) (g := mkF m pc Ls (.int x :: .int j :: .ref a :: rest)) rfl rfl hd
  subst hi
  exact own_s st (k T' h' X' e' W (own_setI W A S H))
theorem own_stB (X : Stand p l e R s m args below meth c T locs cells slots) (hx : p.tables.exec = Jvm.exec) (hZ : Z.Warmed39 s.vm) (hT : T.heap = h) (F : own_IA Z h a .byte n f) {pc i : Nat} {Ls : Array Slot} {rest : List Value} {j x : Int32} (hd : decode c.code pc = .ok (.bastore, 1)) (hj : ¬ j < 0) (hi : j.toNatClampNeg = i) (hin : i < n)
    (k : ∀ (T' : State) (h' : Heap), Stand p l e R s m args below meth c T' (locs ++ [⟨a, i⟩]) cells slots → T'.heap = h' → Wr h h' a i (.int (nar .byte x)) → own_IA Z h' a .byte n (own_set f i (nar .byte x)) → own_E p e below P (T'.setTop (mkF m (pc + 1) Ls rest))) :
    own_E p e below P (T.setTop (mkF m pc Ls (.int x :: .int j :: .ref a :: rest))) := by
  obtain ⟨cl, A, S, H⟩ := F
  obtain ⟨T', h', X', e', W, st⟩ := stB X hx hZ hT A (j := j) (own_ins S hj hi hin) (g := mkF m pc Ls (.int x :: .int j :: .ref a :: rest)) rfl rfl hd
  subst hi
  exact own_s st (k T' h' X' e' W (own_setI W A S H))
theorem own_stZ (X : Stand p l e R s m args below meth c T locs cells slots) (hx : p.tables.exec = Jvm.exec) (hZ : Z.Warmed39 s.vm) (hT : T.heap = h) (F : own_IA Z h a .boolean n f) {pc i : Nat} {Ls : Array Slot} {rest : List Value} {j x : Int32} (hd : decode c.code pc = .ok (.bastore, 1)) (hj : ¬ j < 0) (hi : j.toNatClampNeg = i) (hin : i < n)
    (k : ∀ (T' : State) (h' : Heap), Stand p l e R s m args below meth c T' (locs ++ [⟨a, i⟩]) cells slots → T'.heap = h' → Wr h h' a i (.int (nar .boolean x)) → own_IA Z h' a .boolean n (own_set f i (nar .boolean x)) → own_E p e below P (T'.setTop (mkF m (pc + 1) Ls rest))) :
    own_E p e below P (T.setTop (mkF m pc Ls (.int x :: .int j :: .ref a :: rest))) := by
  obtain ⟨cl, A, S, H⟩ := F
  obtain ⟨T', h', X', e', W, st⟩ := stZ X hx hZ hT A (j := j) (own_ins S hj hi hin) (g := mkF m pc Ls (.int x :: .int j :: .ref a :: rest)) rfl rfl hd
  subst hi
  exact own_s st (k T' h' X' e' W (own_setI W A S H))
theorem own_stJ (X : Stand p l e R s m args below meth c T locs cells slots) (hx : p.tables.exec = Jvm.exec) (hZ : Z.Warmed39 s.vm) (hT : T.heap = h) (F : own_JA Z h a n fJ) {pc i : Nat} {Ls : Array Slot} {rest : List Value} {j : Int32} {x : Int64} (hd : decode c.code pc = .ok (.lastore, 1)) (hj : ¬ j < 0) (hi : j.toNatClampNeg = i) (hin : i < n)
    (k : ∀ (T' : State) (h' : Heap), Stand p l e R s m args below meth c T' (locs ++ [⟨a, i⟩]) cells slots → T'.heap = h' → Wr h h' a i (.long x) → own_JA Z h' a n (own_set fJ i x) → own_E p e below P (T'.setTop (mkF m (pc + 1) Ls rest))) :
    own_E p e below P (T.setTop (mkF m pc Ls (.long x :: .int j :: .ref a :: rest))) := by
  obtain ⟨cl, A, S, H⟩ := F
  obtain ⟨T', h', X', e', W, st⟩ := stJ X hx hZ hT A (j := j) (own_ins S hj hi hin) (g := mkF m pc Ls (.long x :: .int j :: .ref a :: rest)) rfl rfl hd
  subst hi
  exact own_s st (k T' h' X' e' W (own_setJ W A S H))
theorem own_fr {k : Nat} {L : List Loc} {i : Nat} (N : Fr k L) (g : k ≤ a) : Fr k (L ++ [⟨a, i⟩]) := N.app fun y hy => by cases List.mem_singleton.mp hy; exact g
/-! longs compared -/
theorem own_lcT {x y : Int64} (q : x = y) : lcmpW x y = 0 := (lw_eq x y).mpr q
theorem own_lcF {x y : Int64} (q : ¬ x = y) : ¬ lcmpW x y = 0 := fun r => q ((lw_eq x y).mp r)
theorem own_llT {x y : Int64} (q : x < y) : lcmpW x y < 0 := (lw_lt x y).mpr q
theorem own_llF {x y : Int64} (q : ¬ x < y) : ¬ lcmpW x y < 0 := fun r => q ((lw_lt x y).mp r)
theorem own_lgT {x y : Int64} (q : y < x) : 0 < lcmpW x y := (lw_gt x y).mpr q
theorem own_lgF {x y : Int64} (q : ¬ y < x) : ¬ 0 < lcmpW x y := fun r => q ((lw_gt x y).mp r)
end Own
/-! ### the wide kit: a body that loads a literal (its String may be interned) -/
def own_PW (Q : Option Value → Heap → List Loc → Prop) (s : State) (C S : Nat) : Outcome → State → Prop :=
  fun o U => ∃ v L, o = .returned v ∧ Q v U.heap L ∧ ReturnedEndW s o U L C S
def own_ConW (l : Launch) (Z : State) (y : MethodName) (bytes : ByteArray) (maxL : Nat) (ret : Option FieldType) (ws : List Jvm.Cond) (rm : Room) (as : Array Value) (h : Heap) (Q : Option Value → Heap → List Loc → Prop) : Prop :=
  MetFree l y (head1 (Jvm.Cond.code y bytes maxL ret :: ws) rm) (fun a U => a = as ∧ Z.Warmed39 U.vm ∧ U.heap = h) (fun _ _ _ _ _ => True) (fun _ U o U' => ∃ v L, o = .returned v ∧ Q v U'.heap L ∧ ReturnedEndW U o U' L rm.cells rm.slots)
section Wide
variable {p : Program} {l : Launch} {e : Env} {R : Room} {s : State} {m : MethodId} {args : Array Value} {below : List Frame} {meth : Method} {c : Code} {T : State} {locs : List Loc} {cells slots : Nat} {Z : State} {a0 : Array Value} {h h' : Heap} {P : Outcome → State → Prop} {A B : State} {Q : Option Value → Heap → List Loc → Prop} {vm₁ : Vm}
theorem own_enterW {y : MethodName} {bytes : ByteArray} {maxL : Nat} {ret : Option FieldType} {ws : List Jvm.Cond} {rm : Room} {as : Array Value} (hpl : plainFor y = true)
    (body : ∀ (p : Program) (e : Env) (s : State) (m : MethodId) (below : List Frame) (meth : Method) (c : Code) (s₁ : State), Stand p l e rm s m as below meth c s₁ [] 0 0 → s₁.heap = h → p.tables.exec = Jvm.exec → Z.Warmed39 s.vm → c.code = bytes → c.maxLocals = maxL → s.vm.findClass y.cls = some m.cls → meth.name = y.name → meth.sig.returnType = ret → meth.locks = false →
      own_E p e below (own_PW Q s rm.cells rm.slots) (s₁.setTop (entryFrame m as maxL))) : own_ConW l Z y bytes maxL ret ws rm as h Q := by
  refine MetFree.of_bodySF hpl hisR ?_
  intro p e s m args below meth c s₁ Bd hml hP hK
  obtain ⟨rfl, hZ, hh⟩ := hP
  have X0 : Stand p l e rm s m args below meth c s₁ [] 0 0 := Stand.of_body Bd
  have e0 : s₁.heap = h := by rw [← hh, Bd.state]; rfl
  exact body p e s m below meth c s₁ X0 e0 Bd.exec hZ Bd.bytes hml (findClass_of_methodNamed Bd.named) (name_of_methodNamed Bd.named Bd.method).1 Bd.returns Bd.notSynchronized
theorem own_wmono {o : Outcome} {t : State} {L : List Loc} {k n k' n' : Nat} (H : ReturnedEndW s o t L k n) (hk : k ≤ k') (hn : n ≤ n') : ReturnedEndW s o t L k' n' := ⟨H.1, H.2.1, H.2.2.1, H.2.2.2.mono hk hn⟩
theorem own_retVW (X : Stand p l e R (s.setVm vm₁) m args below meth c T locs cells slots) {kk : Nat} (hS : s.Since vm₁ kk) (hk : kk ≤ T.heap.size) (hx : p.tables.exec = Jvm.exec) (hret : meth.sig.returnType = none) (hlk : meth.locks = false) {pc : Nat} {Ls : Array Slot} {C S : Nat} (hd : decode c.code pc = .ok (.return_, 1)) (hc : cells ≤ C) (hs : slots ≤ S) (hQ : Q none T.heap locs) :
    own_E p e below (own_PW Q s C S) (T.setTop (mkF m pc Ls [])) := by
  obtain ⟨fs, hr, hrun, hended, hW⟩ := X.leaveW hS hk (v := none) (fun _ => rfl) hlk
  exact ⟨_, _, X.returnOut hx hret hd hr, hrun, hended, _, _, rfl, hQ, own_wmono hW hc hs⟩
theorem own_retZW (X : Stand p l e R (s.setVm vm₁) m args below meth c T locs cells slots) {kk : Nat} (hS : s.Since vm₁ kk) (hk : kk ≤ T.heap.size) (hx : p.tables.exec = Jvm.exec) (hret : meth.sig.returnType = some .boolean) (hlk : meth.locks = false) {pc : Nat} {Ls : Array Slot} {z : Int32} {C S : Nat} {rest : List Value} (hd : decode c.code pc = .ok (.ireturn, 1)) (hz : nar .boolean z = z) (hc : cells ≤ C) (hs : slots ≤ S) (hQ : Q (some (.int z)) T.heap locs) :
    own_E p e below (own_PW Q s C S) (T.setTop (mkF m pc Ls (.int z :: rest))) := by
  obtain ⟨fs, hr, hrun, hended, hW⟩ := X.leaveW hS hk (v := some (.int z)) (fun q => by rw [hret] at q; cases q) hlk
  exact ⟨_, _, retN X hx (t := .boolean) hret (by simp) hd (by rw [hz]; exact hr), hrun, hended, _, _, rfl, hQ, own_wmono hW hc hs⟩
theorem own_callIW {y : MethodName} {bytes : ByteArray} {maxL : Nat} {rm : Room} {own : String} {index : Nat} {a : Addr} {as : List Value} (X : Stand p l e R s m args below meth c T locs cells slots) (hx : p.tables.exec = Jvm.exec) (hZ : Z.Warmed39 s.vm) (hown : s.vm.findClass own = some m.cls) (hT : T.heap = h) (hM : own_ConW l Z y bytes maxL none [] rm (.ref a :: as).toArray h Q) (hy1 : y.name = "<init>")
    (w1 : (Jvm.Cond.methodLink own index y).before a0 Z = true) (w2 : (Jvm.Cond.instanceMethod y).before a0 Z = true) (w3 : (Jvm.Cond.initialized y.cls).before a0 Z = true) (w4 : (Jvm.Cond.code y bytes maxL none).before a0 Z = true) (hy : y.cls ≠ "java/lang/invoke/MethodHandle" ∧ y.cls ≠ "java/lang/invoke/VarHandle") {ps : List FieldType} {r : Option FieldType} (hpd : parseMethodDescriptor y.desc = some ⟨ps, r⟩) (hlen : as.length = ps.length)
    {pc : Nat} {Ls : Array Slot} {st rest : List Value} (hml : Ls.size = c.maxLocals) (hst : st = as.reverse ++ .ref a :: rest) (hd : decode c.code pc = .ok (.invokespecial index, 3)) (W : Nat) (hW : 2 * 0 + (rest.map fun v => v.category).sum ≤ W) (hf : rm.frames + 1 ≤ R.frames) (hl : W + (maxL + 11) + rm.locals ≤ R.locals) (hc : cells + rm.cells ≤ R.cells) (hs : slots + rm.slots ≤ R.slots)
    (k : ∀ (v : Option Value) (T' : State) (L : List Loc), Stand p l e R (s.setVm T'.vm) m args below meth c T' (locs ++ L) (cells + rm.cells) (slots + rm.slots) → s.Since T'.vm T'.heap.size → Z.Warmed39 (s.setVm T'.vm).vm → (s.setVm T'.vm).vm.findClass own = some m.cls → Q v T'.heap L → own_E p e below P (T'.setTop (mkF m (pc + 3) Ls (v.toList ++ rest)))) :
    own_E p e below P (T.setTop (mkF m pc Ls st)) := by
  obtain ⟨v, _, ⟨T', L', k', n'⟩, -, X', hS, -, ⟨L, hQ, h1, h2, h3⟩, stp⟩ := X.specialBackS hx hy1 hown (mvT hZ w1) (mvT hZ w2) (mvT hZ w4) hy (backOfS (W := W) hM hZ w4 w3 hf hl) (g := mkF m pc Ls st) rfl hml (Steps.refl _) (a := a) (argsL := as) (rest := rest) (lenOf hpd hlen) hst hW hd (fun _ _ => ⟨rfl, hT, hc, hs⟩)
  dsimp only [Pt.U, Pt.locs, Pt.cells, Pt.slots] at X' hS h1 h2 h3 stp hQ
  subst h1 h2 h3
  exact own_t stp (k v T' L X' hS (State.Warmed39.trans hZ hS.1) (by rw [show (s.setVm T'.vm).vm = T'.vm from rfl, hS.1.alike.findClass]; exact hown) hQ)
theorem own_ldcS {own text : String} {index : Nat} (X : Stand p l e R s m args below meth c T locs cells slots) (hx : p.tables.exec = Jvm.exec) (hZ : Z.Warmed39 s.vm) (hown : s.vm.findClass own = some m.cls) (w : (Jvm.Cond.stringLink own index text).before a0 Z = true) (wS : ∀ a ∈ Bundle.stringAtoms, a.before a0 Z = true) (hT : T.heap = h)
    {pc : Nat} {Ls : Array Slot} {st : List Value} (hd : decode c.code pc = .ok (.ldc index, 2)) (n : Nat) (hn : 4 * text.toList.length ≤ n) (hbig : n ≤ 536870912) (hc : cells + 2 ≤ R.cells) (hl : slots + (n + 4) ≤ R.slots)
    (k : ∀ (a : Addr) (T' : State) (h' : Heap), Stand p l e R (s.setVm T'.vm) m args below meth c T' locs (cells + 2) (slots + (n + 4)) → T'.heap = h' → Ext h h' → s.Since T'.vm h'.size → Z.Warmed39 (s.setVm T'.vm).vm → (s.setVm T'.vm).vm.findClass own = some m.cls → own_E p e below P (T'.setTop (mkF m (pc + 2) Ls (.ref a :: st)))) :
    own_E p e below P (T.setTop (mkF m pc Ls st)) := by
  obtain ⟨a, T', X', hS, -, hb, -, stp⟩ := X.ldcStringCold hx (own := own) hown (mvS hZ w) (fun d hd => by
    have q := wS d hd
    simp only [Bundle.stringAtoms, List.mem_cons, List.not_mem_nil, or_false] at hd
    rcases hd with rfl | rfl | rfl | rfl | rfl | rfl | rfl
    · exact mv hZ q
    · exact mv hZ q
    · exact mvA hZ q
    · exact mv hZ q
    · exact mv hZ q
    · exact mv hZ q
    · exact mv hZ q) (g := mkF m pc Ls st) rfl hd hn hbig hc hl
  subst hT
  have E := ext_of hb
  exact own_s stp (k a T' _ X' rfl E hS (State.Warmed39.trans hZ hS.1) (by rw [show (s.setVm T'.vm).vm = T'.vm from rfl, hS.1.alike.findClass]; exact hown))
theorem own_staK {C n d : String} {v : Value} {ws : List Addr} (F : Sta Z h C n d v) (K : Keep h h' ws) (H : ∀ x ∈ ws, ∀ cl : Cell, h[x]? = some cl → cl.vm.isStatics = false) : Sta Z h' C n d v := by
  obtain ⟨cf, i, k, f, st, cell, h1, h2, h3, h4, h5, h6, h7⟩ := F
  exact ⟨cf, i, k, f, st, cell, h1, h2, h3, h4, K.2.1 _ _ h5 (fun q => by have := H st q cell h5; rw [this] at h6; cases h6), h6, h7⟩
theorem own_plE {a : Addr} {C : String} (E : Exa Z h a C) : ∀ cl : Cell, h[a]? = some cl → cl.vm.isStatics = false := fun cl hc => by
  obtain ⟨c1, _, h1, -, -, h4, -⟩ := E
  cases h1.symm.trans hc; exact h4
theorem own_arrK {a : Addr} {cl : Cell} {ty : FieldType} {ws : List Addr} (F : Arr Z h a cl ty) (K : Keep h h' ws) (q : a ∉ ws) : Arr Z h' a cl ty := ⟨K.2.1 a cl F.1 q, F.2⟩
end Wide
/-! ### small numbers -/
theorem own_mask (x : Int32) (M : Nat) (hM : M < 2 ^ 31) : ∃ n : Nat, n ≤ M ∧ (x &&& Int32.ofNat M) = Int32.ofNat n := by
  refine ⟨(x &&& Int32.ofNat M).toBitVec.toNat, ?_, ?_⟩
  · rw [Int32.toBitVec_and, BitVec.toNat_and, show (Int32.ofNat M).toBitVec = BitVec.ofNat 32 M from rfl, BitVec.toNat_ofNat, Nat.mod_eq_of_lt (by omega)]
    exact Nat.and_le_right
  · apply Int32.toBitVec_inj.mp
    show _ = BitVec.ofNat 32 _
    rw [BitVec.ofNat_toNat]; simp
theorem own_mod {n k : Nat} (hn : n < 2 ^ 31) (hk : k < 2 ^ 31) : Int32.ofNat n % Int32.ofNat k = Int32.ofNat (n % k) := by
  apply Int32.toInt_inj.mp
  have h1 : n % k ≤ n := Nat.mod_le _ _
  rw [Int32.toInt_mod, Int32.toInt_ofNat_of_lt (by omega), Int32.toInt_ofNat_of_lt (by omega), Int32.toInt_ofNat_of_lt (by omega)]
  exact (Int.ofNat_tmod n k).symm
theorem own_ushr (x : Int32) (s : UInt32) (hs : 0 < s.toNat % 32) : ∃ n : Nat, n < 2 ^ 31 ∧ (x.toUInt32 >>> s).toInt32 = Int32.ofNat n := by
  refine ⟨(x.toUInt32 >>> s).toNat, ?_, ?_⟩
  · rw [UInt32.toNat_shiftRight, Nat.shiftRight_eq_div_pow]
    have := x.toUInt32.toNat_lt
    have h2 : 2 ^ 1 ≤ 2 ^ (s.toNat % 32) := Nat.pow_le_pow_right (by decide) hs
    exact Nat.div_lt_of_lt_mul (by have := Nat.mul_le_mul_right (2 ^ 31) h2; omega)
  · apply Int32.toBitVec_inj.mp
    show (x.toUInt32 >>> s).toBitVec = BitVec.ofNat 32 _
    rw [show (x.toUInt32 >>> s).toNat = (x.toUInt32 >>> s).toBitVec.toNat from rfl, BitVec.ofNat_toNat]; simp
theorem own_nat32 {i : Nat} (h : i < 2 ^ 31) : ¬ Int32.ofNat i < 0 ∧ (Int32.ofNat i).toNatClampNeg = i := by
  rw [Int32.lt_iff_toInt_lt, Int32.toNatClampNeg, Int32.toInt_ofNat_of_lt (by omega)]
  refine ⟨?_, rfl⟩
  show ¬ ((i : Nat) : Int) < 0
  omega
theorem own_offN (x : Int32) (N : Nat) (h0 : 0 < N) (hN : N < 2 ^ 31) : ∃ i : Nat, i < N ∧ ((x &&& (2147483647 : Int32)) % Int32.ofNat N) = Int32.ofNat i := by
  obtain ⟨n, hn, e⟩ := own_mask x 2147483647 (by decide)
  refine ⟨n % N, Nat.mod_lt _ h0, ?_⟩
  rw [show (2147483647 : Int32) = Int32.ofNat 2147483647 from rfl, e, own_mod (by omega) hN]

theorem own_off (x : Int32) : ∃ i : Nat, i < 4 ∧ ((x &&& (2147483647 : Int32)) % (4 : Int32)) = Int32.ofNat i := own_offN x 4 (by decide) (by decide)

/-! ### the document's fields, all at once -/
def own_keys : List (String × String × String) := [("com/example/holdfast/holdfast/dom/CompactNode", "document", "Lcom/example/holdfast/holdfast/dom/CompactDocument;"), ("com/example/holdfast/holdfast/dom/CompactNode", "index", "I"), ("com/example/holdfast/holdfast/dom/CompactDocument", "types", "[B"), ("com/example/holdfast/holdfast/dom/CompactDocument", "parents", "[I"), ("com/example/holdfast/holdfast/dom/CompactDocument", "firsts", "[I"), ("com/example/holdfast/holdfast/dom/CompactDocument", "lasts", "[I"), ("com/example/holdfast/holdfast/dom/CompactDocument", "nexts", "[I"), ("com/example/holdfast/holdfast/dom/CompactDocument", "previouses", "[I"), ("com/example/holdfast/holdfast/dom/CompactDocument", "names", "[I"), ("com/example/holdfast/holdfast/dom/CompactDocument", "flags", "[B"), ("com/example/holdfast/holdfast/dom/CompactDocument", "dataStarts", "[I"), ("com/example/holdfast/holdfast/dom/CompactDocument", "dataLengths", "[I"), ("com/example/holdfast/holdfast/dom/CompactDocument", "handles", "[Lcom/example/holdfast/holdfast/dom/CompactNode;"), ("com/example/holdfast/holdfast/dom/CompactDocument", "making", "Ljava/lang/Object;"), ("com/example/holdfast/holdfast/dom/CompactDocument", "chars", "[C"), ("com/example/holdfast/holdfast/dom/CompactDocument", "attributeNames", "[I"), ("com/example/holdfast/holdfast/dom/CompactDocument", "attributeValueStarts", "[I"), ("com/example/holdfast/holdfast/dom/CompactDocument", "attributeValueLengths", "[I"), ("com/example/holdfast/holdfast/dom/CompactDocument", "nameTable", "[Lcom/example/holdfast/holdfast/dom/CompactDocument$Name;"), ("com/example/holdfast/holdfast/dom/CompactDocument", "nameIndex", "Ljava/util/Map;"), ("com/example/holdfast/holdfast/dom/CompactDocument", "xmlVersion", "Ljava/lang/String;"), ("com/example/holdfast/holdfast/dom/CompactDocument", "strictErrorChecking", "Z"), ("com/example/holdfast/holdfast/dom/CompactDocument", "count", "I"), ("com/example/holdfast/holdfast/dom/CompactDocument", "documentUri", "Ljava/lang/String;"), ("com/example/holdfast/holdfast/dom/CompactDocument", "source", "[B"), ("com/example/holdfast/holdfast/dom/CompactDocument", "reader", "Lcom/example/holdfast/holdfast/dom/CompactDocument$TextReader;"), ("com/example/holdfast/holdfast/dom/CompactDocument", "sourceStarts", "[I"), ("com/example/holdfast/holdfast/dom/CompactDocument", "sourceEnds", "[I"), ("com/example/holdfast/holdfast/dom/CompactDocument", "built", "I"), ("com/example/holdfast/holdfast/dom/CompactDocument", "modifications", "I"), ("com/example/holdfast/holdfast/dom/CompactDocument", "readNodeChanges", "I"), ("com/example/holdfast/holdfast/dom/CompactDocument", "treeModifications", "I"), ("com/example/holdfast/holdfast/dom/CompactDocument", "marked", "[I"), ("com/example/holdfast/holdfast/dom/CompactDocument", "markedCount", "I"), ("com/example/holdfast/holdfast/dom/CompactDocument", "markedFlags", "[B")]
def own_key (i : Nat) : String × String × String := own_keys.getD i ("", "", "")
def own_FL (Z : State) (h : Heap) (a : Nat) (g : Nat → Value) : Prop := ∀ i, i < 35 → Fld Z h a (own_key i).1 (own_key i).2.1 (own_key i).2.2 (g i)
theorem own_laid {Z : State} {a0 : Array Value} (hw : ∀ d ∈ tables_1, d.before a0 Z = true) : ∀ i, i < 35 → Laid Z a0 "com/example/holdfast/holdfast/dom/CompactDocument" (own_key i).1 (own_key i).2.1 (own_key i).2.2 := by
  intro i hi
  match i, hi with
  | 0, _ => exact Or.inr (own_w hw 27 rfl)
  | 1, _ => exact Or.inr (own_w hw 29 rfl)
  | 2, _ => exact Or.inl (own_w hw 32 rfl)
  | 3, _ => exact Or.inl (own_w hw 35 rfl)
  | 4, _ => exact Or.inl (own_w hw 37 rfl)
  | 5, _ => exact Or.inl (own_w hw 39 rfl)
  | 6, _ => exact Or.inl (own_w hw 41 rfl)
  | 7, _ => exact Or.inl (own_w hw 43 rfl)
  | 8, _ => exact Or.inl (own_w hw 45 rfl)
  | 9, _ => exact Or.inl (own_w hw 47 rfl)
  | 10, _ => exact Or.inl (own_w hw 49 rfl)
  | 11, _ => exact Or.inl (own_w hw 51 rfl)
  | 12, _ => exact Or.inl (own_w hw 55 rfl)
  | 13, _ => exact Or.inr (own_w hw 61 rfl)
  | 14, _ => exact Or.inl (own_w hw 64 rfl)
  | 15, _ => exact Or.inl (own_w hw 66 rfl)
  | 16, _ => exact Or.inl (own_w hw 68 rfl)
  | 17, _ => exact Or.inl (own_w hw 70 rfl)
  | 18, _ => exact Or.inl (own_w hw 74 rfl)
  | 19, _ => exact Or.inr (own_w hw 92 rfl)
  | 20, _ => exact Or.inl (own_w hw 101 rfl)
  | 21, _ => exact Or.inl (own_w hw 103 rfl)
  | 22, _ => exact Or.inl (own_w hw 105 rfl)
  | 23, _ => exact Or.inl (own_w hw 142 rfl)
  | 24, _ => exact Or.inl (own_w hw 155 rfl)
  | 25, _ => exact Or.inl (own_w hw 157 rfl)
  | 26, _ => exact Or.inl (own_w hw 159 rfl)
  | 27, _ => exact Or.inl (own_w hw 161 rfl)
  | 28, _ => exact Or.inl (own_w hw 169 rfl)
  | 29, _ => exact Or.inl (own_w hw 187 rfl)
  | 30, _ => exact Or.inl (own_w hw 190 rfl)
  | 31, _ => exact Or.inl (own_w hw 192 rfl)
  | 32, _ => exact Or.inl (own_w hw 198 rfl)
  | 33, _ => exact Or.inl (own_w hw 200 rfl)
  | 34, _ => exact Or.inl (own_w hw 203 rfl)
  | n + 35, h => exact absurd h (by omega)
theorem own_kn : ∀ i j : Fin 35, i ≠ j → (own_key i.1).2.1 ≠ (own_key j.1).2.1 := by decide +kernel
theorem own_kp0 : ∀ i : Fin 35, (parseFieldDescriptor (own_key i.1).2.2).isSome = true := by decide +kernel
theorem own_kp {i : Nat} (hi : i < 35) : ∃ t, parseFieldDescriptor (own_key i).2.2 = some t := Option.isSome_iff_exists.mp (own_kp0 ⟨i, hi⟩)
section Fields
variable {Z : State} {a0 : Array Value} {h h' : Heap} {a b : Nat} {g : Nat → Value} {v : Value} {sl : Nat} {ws : List Addr}
theorem own_FLg (F : own_FL Z h a g) (k : Nat) (hk : k < 35) (hv : g k = v) : Fld Z h a (own_key k).1 (own_key k).2.1 (own_key k).2.2 v := hv ▸ F k hk
theorem own_FL.wr (hw : ∀ d ∈ tables_1, d.before a0 Z = true) (F : own_FL Z h a g) (k : Nat) (hk : k < 35) (W : Wr h h' a (Jvm.RoadKit.slotOf Z (own_key k).1 (own_key k).2.1 (own_key k).2.2) v) : own_FL Z h' a (own_set g k v) := by
  intro i hi
  by_cases q : i = k
  · subst q; rw [own_set_same]; exact Fld.same W (F i hi)
  · rw [own_set_other _ _ q]
    obtain ⟨t, ht⟩ := own_kp hi
    obtain ⟨t', ht'⟩ := own_kp hk
    exact Fld.other W (F i hi) (Or.inr (slot_ne (own_laid hw i hi) (own_laid hw k hk) (own_kn ⟨i, hi⟩ ⟨k, hk⟩ (fun z => q (congrArg Fin.val z))) ht ht'))
theorem own_FL.ext (E : Ext h h') (F : own_FL Z h a g) : own_FL Z h' a g := fun i hi => Fld.ext E (F i hi)
theorem own_FL.other (W : Wr h h' b sl v) (F : own_FL Z h a g) (q : a ≠ b) : own_FL Z h' a g := fun i hi => Fld.other W (F i hi) (Or.inl q)
theorem own_FL.keep (F : own_FL Z h a g) (K : Keep h h' ws) (q : a ∉ ws) : own_FL Z h' a g := fun i hi => Fld.keep (F i hi) K q
theorem own_FL.lt (F : own_FL Z h a g) : a < h.size := (F 0 (by decide)).lt
end Fields
/-- the document: its fields, its ten tables of 64 places, made one behind the other -/
def own_ak (i : Nat) : Nat := [2, 3, 4, 5, 6, 7, 8, 9, 10, 11].getD i 0
def own_aty (i : Nat) : FieldType := if i = 0 then .byte else if i = 7 then .byte else .int
def own_Doc (Z : State) (h : Heap) (n0 : Nat) (a : Nat) (b : Nat → Nat) (g : Nat → Value) (fs : Nat → Nat → Int32) : Prop := Exa Z h a "com/example/holdfast/holdfast/dom/CompactDocument" ∧ own_FL Z h a g ∧ (∀ i, i < 10 → own_IA Z h (b i) (own_aty i) 64 (fs i)) ∧ n0 ≤ a ∧ a < b 0 ∧ (∀ i, i < 9 → b i < b (i + 1)) ∧ ∀ i, i < 10 → g (own_ak i) = .ref (b i)
def own_ten {α : Type} (x0 x1 x2 x3 x4 x5 x6 x7 x8 x9 : α) (i : Nat) : α := [x0, x1, x2, x3, x4, x5, x6, x7, x8].getD i x9
def own_max (a b : Int32) : Int32 := if a < b then b else a
/-- a new document's fields -/
def own_g0 (i : Nat) : Value := [.null, (.int 0), .null, .null, .null, .null, .null, .null, .null, .null, .null, .null, .null, .null, .null, .null, .null, .null, .null, .null, .null, (.int 0), (.int 0), .null, .null, .null, .null, .null, (.int 0), (.int 0), (.int 0), (.int 0), .null, (.int 0), .null].getD i .null

/-! ### the document while it is marked -/
theorem own_nn {i : Nat} (h : i < 1000) : ¬ Int32.ofNat i < 0 ∧ (Int32.ofNat i).toNatClampNeg = i := by
  rw [Int32.lt_iff_toInt_lt, Int32.toNatClampNeg, Int32.toInt_ofNat_of_lt (by omega)]
  refine ⟨?_, rfl⟩
  show ¬ ((i : Nat) : Int) < 0
  omega
theorem own_one (i : Nat) : Int32.ofNat i + (1 : Int32) = Int32.ofNat (i + 1) := (Int32.ofNat_add i 1).symm
theorem own_pred (i : Nat) : Int32.ofNat (i + 1) - (1 : Int32) = Int32.ofNat i := by
  rw [Int32.ofNat_add]; show Int32.ofNat i + 1 - 1 = Int32.ofNat i; rw [Int32.add_sub_cancel]
theorem own_lt {i n : Nat} (h : i < n) (hn : n ≤ 255) : Int32.ofNat i < Int32.ofNat n := by
  rw [Int32.lt_iff_toInt_lt, Int32.toInt_ofNat_of_lt (by omega), Int32.toInt_ofNat_of_lt (by omega)]
  omega
theorem own_nlt {i n : Nat} (h : n ≤ i) (hn : i ≤ 255) : ¬ Int32.ofNat i < Int32.ofNat n := by
  rw [Int32.lt_iff_toInt_lt, Int32.toInt_ofNat_of_lt (by omega), Int32.toInt_ofNat_of_lt (by omega)]
  omega
/-- what lies between u and lo stands as it stood -/
def own_KL (u lo : Nat) (h h' : Heap) : Prop := h.size ≤ h'.size ∧ ∀ (x : Nat) (cl : Cell), u < x → x < lo → h[x]? = some cl → h'[x]? = some cl
section Between
variable {u lo : Nat} {h h' h'' : Heap} {Z : State} {a x : Nat} {sl n : Nat} {v : Value} {ty : FieldType} {f : Nat → Int32}
theorem own_KL.refl (h : Heap) : own_KL u lo h h := ⟨Nat.le_refl _, fun _ _ _ _ q => q⟩
theorem own_KL.trans (K : own_KL u lo h h') (K' : own_KL u lo h' h'') : own_KL u lo h h'' := ⟨Nat.le_trans K.1 K'.1, fun x cl h1 h2 q => K'.2 x cl h1 h2 (K.2 x cl h1 h2 q)⟩
theorem own_KL.ext (K : own_KL u lo h h') (E : Ext h' h'') : own_KL u lo h h'' := ⟨Nat.le_trans K.1 E.1, fun x cl h1 h2 q => E.2 x cl (K.2 x cl h1 h2 q)⟩
theorem own_KL.wr (K : own_KL u lo h h') (W : Wr h' h'' a sl v) (q : a ≤ u ∨ lo ≤ a) : own_KL u lo h h'' := ⟨Nat.le_trans K.1 (Keep.of_wr W).1, fun x cl h1 h2 r => (Keep.of_wr W).2.1 x cl (K.2 x cl h1 h2 r) (fun z => by cases List.mem_singleton.mp z; omega)⟩
theorem own_KL.mono {u' : Nat} (K : own_KL u lo h h') (q : u ≤ u') : own_KL u' lo h h' := ⟨K.1, fun x cl h1 h2 r => K.2 x cl (by omega) h2 r⟩
theorem own_IA.kl (F : own_IA Z h x ty n f) (K : own_KL u lo h h') (h1 : u < x) (h2 : x < lo) : own_IA Z h' x ty n f := by obtain ⟨cl, A, r⟩ := F; exact ⟨cl, ⟨K.2 x cl h1 h2 A.1, A.2⟩, r⟩
end Between
def own_M (Z : State) (h : Heap) (lo : Nat) (a : Nat) (mk mf : Nat → Int32) (c : Nat) : Prop :=
  (Fld Z h a "com/example/holdfast/holdfast/dom/CompactDocument" "marked" "[I" .null ∧ Fld Z h a "com/example/holdfast/holdfast/dom/CompactDocument" "markedFlags" "[B" .null ∧ c = 0 ∧ mk = (fun _ => 0) ∧ mf = (fun _ => 0)) ∨ ∃ mb gb, lo ≤ mb ∧ mb < gb ∧ Fld Z h a "com/example/holdfast/holdfast/dom/CompactDocument" "marked" "[I" (.ref mb) ∧ Fld Z h a "com/example/holdfast/holdfast/dom/CompactDocument" "markedFlags" "[B" (.ref gb) ∧ own_IA Z h mb .int 64 mk ∧ own_IA Z h gb .byte 64 mf
section Marks
variable {Z : State} {h h' : Heap} {lo : Nat} {a x : Nat} {mk mf : Nat → Int32} {c sl : Nat} {v : Value}
theorem own_M.ext (E : Ext h h') (M : own_M Z h lo a mk mf c) : own_M Z h' lo a mk mf c := by
  rcases M with ⟨M0, M1, r⟩ | ⟨mb, gb, o1, o2, M0, M1, A, G⟩
  · exact Or.inl ⟨Fld.ext E M0, Fld.ext E M1, r⟩
  · exact Or.inr ⟨mb, gb, o1, o2, Fld.ext E M0, Fld.ext E M1, A.ext E, G.ext E⟩
theorem own_M.fld (W : Wr h h' a sl v) (h1 : Jvm.RoadKit.slotOf Z "com/example/holdfast/holdfast/dom/CompactDocument" "marked" "[I" ≠ sl) (h2 : Jvm.RoadKit.slotOf Z "com/example/holdfast/holdfast/dom/CompactDocument" "markedFlags" "[B" ≠ sl) (hlo : a < lo) (M : own_M Z h lo a mk mf c) : own_M Z h' lo a mk mf c := by
  rcases M with ⟨M0, M1, r⟩ | ⟨mb, gb, o1, o2, M0, M1, A, G⟩
  · exact Or.inl ⟨Fld.other W M0 (Or.inr h1), Fld.other W M1 (Or.inr h2), r⟩
  · exact Or.inr ⟨mb, gb, o1, o2, Fld.other W M0 (Or.inr h1), Fld.other W M1 (Or.inr h2), A.other W (by show @Ne Nat _ _; omega), G.other W (by show @Ne Nat _ _; omega)⟩
theorem own_M.arr (W : Wr h h' x sl v) (hx : a ≠ x) (hlo : x < lo) (M : own_M Z h lo a mk mf c) : own_M Z h' lo a mk mf c := by
  rcases M with ⟨M0, M1, r⟩ | ⟨mb, gb, o1, o2, M0, M1, A, G⟩
  · exact Or.inl ⟨Fld.other W M0 (Or.inl hx), Fld.other W M1 (Or.inl hx), r⟩
  · exact Or.inr ⟨mb, gb, o1, o2, Fld.other W M0 (Or.inl hx), Fld.other W M1 (Or.inl hx), A.other W (by show @Ne Nat _ _; omega), G.other W (by show @Ne Nat _ _; omega)⟩
end Marks
def own_D (Z : State) (h : Heap) (n0 lo : Nat) (a pb fb sb : Nat) (ff mk mf : Nat → Int32) (c : Nat) : Prop :=
  Exa Z h a "com/example/holdfast/holdfast/dom/CompactDocument" ∧ (∃ v, Fld Z h a "com/example/holdfast/holdfast/dom/CompactDocument" "modifications" "I" (.int v)) ∧ Fld Z h a "com/example/holdfast/holdfast/dom/CompactDocument" "built" "I" (.int (1 : Int32)) ∧ (∃ v, Fld Z h a "com/example/holdfast/holdfast/dom/CompactDocument" "readNodeChanges" "I" (.int v)) ∧ (∃ v, Fld Z h a "com/example/holdfast/holdfast/dom/CompactDocument" "treeModifications" "I" (.int v)) ∧ Fld Z h a "com/example/holdfast/holdfast/dom/CompactDocument" "parents" "[I" (.ref pb) ∧ Fld Z h a "com/example/holdfast/holdfast/dom/CompactDocument" "flags" "[B" (.ref fb) ∧ Fld Z h a "com/example/holdfast/holdfast/dom/CompactDocument" "sourceStarts" "[I" (.ref sb) ∧ Fld Z h a "com/example/holdfast/holdfast/dom/CompactDocument" "markedCount" "I" (.int (Int32.ofNat c)) ∧ (∃ fp, own_IA Z h pb .int 64 fp ∧ fp 0 = -1 ∧ fp 1 = -1) ∧ own_IA Z h fb .byte 64 ff ∧ n0 ≤ a ∧ lo ≤ h.size ∧ a < pb ∧ pb < fb ∧ fb < lo ∧ (∀ p, p < c → mk p = 0 ∨ mk p = 1) ∧ own_M Z h lo a mk mf c
/-- tables of flags, marks, marks' flags; how many marks -/
abbrev own_S4 := (Nat → Int32) × (Nat → Int32) × (Nat → Int32) × Nat
def own_km (i x : Int32) (s : own_S4) : own_S4 := (s.1, own_set s.2.1 s.2.2.2 i, own_set s.2.2.1 s.2.2.2 (nar .byte x), s.2.2.2 + 1)
def own_or (ff : Nat → Int32) (i : Nat) (m : Int32) : Nat → Int32 := own_set ff i (nar .byte (ff i ||| m).toInt8.toInt32)
def own_chg (i : Nat) (s : own_S4) : own_S4 := if (s.1 i &&& 1) = 0 then own_km (Int32.ofNat i) 1 (own_or s.1 i 1, s.2) else s
def own_ret (i : Nat) (s : own_S4) : own_S4 := if (s.1 i &&& 16) = 0 then own_km (Int32.ofNat i) 16 (own_chg i (own_or s.1 i 16, s.2)) else own_chg i (own_or s.1 i 16, s.2)
/-- the last k marks taken away -/
def own_un1 (s : own_S4) : own_S4 := (own_set s.1 (s.2.1 (s.2.2.2 - 1)).toNatClampNeg (nar .byte ((s.1 (s.2.1 (s.2.2.2 - 1)).toNatClampNeg) &&& ((s.2.2.1 (s.2.2.2 - 1)) ^^^ (-1 : Int32)).toInt8.toInt32).toInt8.toInt32), s.2.1, s.2.2.1, s.2.2.2 - 1)
def own_un : Nat → own_S4 → own_S4
  | 0, s => s
  | k + 1, s => own_un k (own_un1 s)
theorem own_pm {f : Nat → Int32} {z : Int32} (h : z = 0 ∨ z = 1) (h0 : f 0 = -1) (h1 : f 1 = -1) : f z.toNatClampNeg = -1 := by rcases h with rfl | rfl; exact h0; exact h1
theorem own_d01 {z : Int32} (h : z = 0 ∨ z = 1) : ¬ z < 0 ∧ z.toNatClampNeg < 64 := by rcases h with rfl | rfl <;> decide

abbrev own_Q5 := (Nat → Int32) × (Nat → Int32) × (Nat → Int32) × (Nat → Int32) × Int32
def own_mc (n : Nat) (q : own_Q5) : own_Q5 := if q.1 n = 0 then (own_set q.1 n (nar .boolean 1), q.2.1, own_set q.2.2.1 n q.2.2.2.2, q.2.2.2.1, q.2.2.2.2 + 1) else q
def own_mr (n : Nat) (q : own_Q5) : own_Q5 := if q.2.1 n = 0 then (q.1, own_set q.2.1 n (nar .boolean 1), q.2.2.1, own_set q.2.2.2.1 n q.2.2.2.2, q.2.2.2.2 + 1) else q
def own_apl (o : Nat) (s : own_S4) (q : own_Q5) : own_S4 × own_Q5 := if o / 2 = 0 then (own_chg (o % 2) s, own_mc (o % 2) q) else (own_ret (o % 2) s, own_mr (o % 2) (own_mc (o % 2) q))
theorem own_D.arr {Z : State} {h h' : Heap} {n0 lo : Nat} {a pb fb sb x : Nat} {ff mk mf : Nat → Int32} {c sl : Nat} {v : Value} (W : Wr h h' x sl v) (h1 : fb < x) (h2 : x < lo) (D : own_D Z h n0 lo a pb fb sb ff mk mf c) : own_D Z h' n0 lo a pb fb sb ff mk mf c := by
  obtain ⟨E, ⟨vm, Fm⟩, Fb, ⟨vr, Fr⟩, ⟨vt, Ft⟩, Fp, Ff, Fs, Fc, ⟨fp, Ap, p0, p1⟩, Af, na, zl, oa, ob, oc, dm, M⟩ := D
  have n1 : a ≠ x := by omega
  exact ⟨Exa.wr W E, ⟨vm, Fld.other W Fm (Or.inl n1)⟩, Fld.other W Fb (Or.inl n1), ⟨vr, Fld.other W Fr (Or.inl n1)⟩, ⟨vt, Fld.other W Ft (Or.inl n1)⟩, Fld.other W Fp (Or.inl n1), Fld.other W Ff (Or.inl n1), Fld.other W Fs (Or.inl n1), Fld.other W Fc (Or.inl n1), ⟨fp, Ap.other W (by show @Ne Nat _ _; omega), p0, p1⟩, Af.other W (by show @Ne Nat _ _; omega), na, Nat.le_trans zl (Keep.of_wr W).1, oa, ob, oc, dm, own_M.arr W n1 h2 M⟩
/-- was it marked, and ahead of m -/
def own_ahead (p m : Int32) : Int32 := if p < 0 then 0 else if p < m then 1 else 0
def own_p0 : Nat → Int32 := own_set (own_set (fun _ => (0 : Int32)) 0 (-1 : Int32)) 1 (-1 : Int32)
def own_t0 : own_S4 × own_Q5 := ((fun _ => 0, fun _ => 0, fun _ => 0, 0), (fun _ => 0, fun _ => 0, own_p0, own_p0, 0))
def own_nx (o : Nat) (t : own_S4 × own_Q5) : own_S4 × own_Q5 := own_apl o t.1 t.2
def own_cnts (t1 t2 t3 : own_S4 × own_Q5) : Nat → Int32 := own_set (own_set (own_set (own_set (fun _ => (0 : Int32)) 0 0) 1 t1.2.2.2.2.2) 2 t2.2.2.2.2.2) 3 t3.2.2.2.2.2
def own_good (o1 o2 o3 k q : Nat) : Bool :=
  let t1 := own_nx o1 own_t0; let t2 := own_nx o2 t1; let t3 := own_nx o3 t2; let m := own_cnts t1 t2 t3 k; let mm := m.toNatClampNeg
  let s4 := own_un (t3.1.2.2.2 - mm) t3.1; let s5 := own_chg q s4; let s6 := own_ret q s5
  decide (t1.1.2.2.2 ≤ 2) && decide (t2.1.2.2.2 ≤ 4) && decide (t3.1.2.2.2 ≤ 6) && decide (Int32.ofNat mm = m) && decide (mm ≤ t3.1.2.2.2) && decide (Int32.ofNat s4.2.2.2 = m) && decide (s4.2.2.2 ≤ 6) && decide (s5.2.2.2 ≤ 7) &&
  decide (Int32.ofNat s5.2.2.2 = m + (if own_ahead (t3.2.2.2.1 q) m = 0 then 1 else 0)) && decide (Int32.ofNat s6.2.2.2 = Int32.ofNat s5.2.2.2 + (if own_ahead (t3.2.2.2.2.1 q) m = 0 then 1 else 0))
theorem own_all_good : ∀ o1 o2 o3 k : Fin 4, ∀ q : Fin 2, own_good o1.1 o2.1 o3.1 k.1 q.1 = true := by decide +kernel
theorem own_pn0 : plainName "java/util/AbstractCollection" = true := by first | (simp [plainName, overriddenIn]; done) | decide +kernel
theorem od_j22_1_0 : decode jdk_22_method_1_code 0 = .ok (.aload_n 0, 1) := by decide +kernel
theorem od_j22_1_1 : decode jdk_22_method_1_code 1 = .ok (.invokespecial 1, 3) := by decide +kernel
theorem od_j22_1_4 : decode jdk_22_method_1_code 4 = .ok (.return_, 1) := by decide +kernel
set_option maxRecDepth 65536 in
set_option maxHeartbeats 40000000 in
theorem own_c_abc (l : Launch) (Z : State) (a0 : Array Value) (hw : ∀ d ∈ tables_1, d.before a0 Z = true) (a1 : Nat) (h0 : Heap) :
    own_Con l Z (⟨"java/util/AbstractCollection", "<init>", "()V"⟩ : MethodName) jdk_22_method_1_code 1 none [] ({ frames := 1, cells := 0, slots := 0, locals := 12 } : Room) #[(.ref a1)] h0 (fun v h L => v = none ∧ L = [] ∧ h = h0) := by
  refine own_enter (plainFor_of_name own_pn0) ?_
  intro p e s m below meth c s₁ X0 e0 hx hZ hby hml hown hnm hret hlk
  refine own_cast (g' := (mkF m 0 #[.val (.ref a1)] [])) (by first | (simp [entryFrame, mkF, argsToLocals, Value.category]; done) | rfl) ?_
  refine own_g (mkF m 1 #[.val (.ref a1)] [(.ref a1)]) (fun _ kz => XS.aloadN X0.here hx rfl (hb hby od_j22_1_0) rfl rfl kz) ?_
  obtain ⟨T1, X1, e1, st1⟩ := initO X0 hx hZ hown (own_w hw 129 rfl) (own_w hw 10 rfl) (own_w hw 11 rfl) e0 (g := (mkF m 1 #[.val (.ref a1)] [(.ref a1)])) rfl (by rw [hml]; rfl) rfl (hb hby od_j22_1_1) (by decide) (W := 0) (by show 2 * 0 + _ ≤ _; exact Nat.le_of_eq rfl) (by decide)
  refine own_s st1 ?_
  show own_E p e below _ (T1.setTop (mkF m 4 #[.val (.ref a1)] []))
  exact own_retV X1 hx hret hlk (hb hby od_j22_1_4) (by decide) (by decide) (by first | exact ⟨rfl, rfl, rfl⟩ | (rw [e1]; exact ⟨rfl, rfl, rfl⟩))
theorem own_pn1 : plainName "java/util/AbstractMap" = true := by first | (simp [plainName, overriddenIn]; done) | decide +kernel
theorem od_j71_1_0 : decode jdk_71_method_1_code 0 = .ok (.aload_n 0, 1) := by decide +kernel
theorem od_j71_1_1 : decode jdk_71_method_1_code 1 = .ok (.invokespecial 1, 3) := by decide +kernel
theorem od_j71_1_4 : decode jdk_71_method_1_code 4 = .ok (.return_, 1) := by decide +kernel
set_option maxRecDepth 65536 in
set_option maxHeartbeats 40000000 in
theorem own_c_abm (l : Launch) (Z : State) (a0 : Array Value) (hw : ∀ d ∈ tables_1, d.before a0 Z = true) (a1 : Nat) (h0 : Heap) :
    own_Con l Z (⟨"java/util/AbstractMap", "<init>", "()V"⟩ : MethodName) jdk_71_method_1_code 1 none [] ({ frames := 1, cells := 0, slots := 0, locals := 12 } : Room) #[(.ref a1)] h0 (fun v h L => v = none ∧ L = [] ∧ h = h0) := by
  refine own_enter (plainFor_of_name own_pn1) ?_
  intro p e s m below meth c s₁ X0 e0 hx hZ hby hml hown hnm hret hlk
  refine own_cast (g' := (mkF m 0 #[.val (.ref a1)] [])) (by first | (simp [entryFrame, mkF, argsToLocals, Value.category]; done) | rfl) ?_
  refine own_g (mkF m 1 #[.val (.ref a1)] [(.ref a1)]) (fun _ kz => XS.aloadN X0.here hx rfl (hb hby od_j71_1_0) rfl rfl kz) ?_
  obtain ⟨T2, X2, e2, st2⟩ := initO X0 hx hZ hown (own_w hw 87 rfl) (own_w hw 10 rfl) (own_w hw 11 rfl) e0 (g := (mkF m 1 #[.val (.ref a1)] [(.ref a1)])) rfl (by rw [hml]; rfl) rfl (hb hby od_j71_1_1) (by decide) (W := 0) (by show 2 * 0 + _ ≤ _; exact Nat.le_of_eq rfl) (by decide)
  refine own_s st2 ?_
  show own_E p e below _ (T2.setTop (mkF m 4 #[.val (.ref a1)] []))
  exact own_retV X2 hx hret hlk (hb hby od_j71_1_4) (by decide) (by decide) (by first | exact ⟨rfl, rfl, rfl⟩ | (rw [e2]; exact ⟨rfl, rfl, rfl⟩))
theorem own_pn2 : plainName "java/util/AbstractList" = true := by first | (simp [plainName, overriddenIn]; done) | decide +kernel
theorem od_j39_1_0 : decode jdk_39_method_1_code 0 = .ok (.aload_n 0, 1) := by decide +kernel
theorem own_pd0 : parseMethodDescriptor "()V" = some ⟨[], none⟩ := by decide +kernel
theorem od_j39_1_1 : decode jdk_39_method_1_code 1 = .ok (.invokespecial 1, 3) := by decide +kernel
theorem od_j39_1_4 : decode jdk_39_method_1_code 4 = .ok (.aload_n 0, 1) := by decide +kernel
theorem od_j39_1_5 : decode jdk_39_method_1_code 5 = .ok (.iconst 0, 1) := by decide +kernel
theorem od_j39_1_6 : decode jdk_39_method_1_code 6 = .ok (.putfield 7, 3) := by decide +kernel
theorem od_j39_1_9 : decode jdk_39_method_1_code 9 = .ok (.return_, 1) := by decide +kernel
set_option maxRecDepth 65536 in
set_option maxHeartbeats 40000000 in
theorem own_c_abl (l : Launch) (Z : State) (a0 : Array Value) (hw : ∀ d ∈ tables_1, d.before a0 Z = true) (a1 : Nat) (h0 : Heap) (n0 : Nat) (Z0 : n0 ≤ h0.size) (g1 : n0 ≤ a1) (E1 : Exa Z h0 a1 "java/util/ArrayList") (Fm : Fld Z h0 a1 "java/util/AbstractList" "modCount" "I" (.int (0 : Int32))) (Fe : Fld Z h0 a1 "java/util/ArrayList" "elementData" "[Ljava/lang/Object;" .null) :
    own_Con l Z (⟨"java/util/AbstractList", "<init>", "()V"⟩ : MethodName) jdk_39_method_1_code 1 none [] ({ frames := 2, cells := 0, slots := 0, locals := 24 } : Room) #[(.ref a1)] h0 (fun v h L => v = none ∧ Fr n0 L ∧ Keep h0 h [a1] ∧ Fld Z h a1 "java/util/ArrayList" "elementData" "[Ljava/lang/Object;" .null) := by
  refine own_enter (plainFor_of_name own_pn2) ?_
  intro p e s m below meth c s₁ X0 e0 hx hZ hby hml hown hnm hret hlk
  refine own_cast (g' := (mkF m 0 #[.val (.ref a1)] [])) (by first | (simp [entryFrame, mkF, argsToLocals, Value.category]; done) | rfl) ?_
  have N0 := Fr.nil n0
  have K0 := Keep.refl h0 [a1]
  refine own_g (mkF m 1 #[.val (.ref a1)] [(.ref a1)]) (fun _ kz => XS.aloadN X0.here hx rfl (hb hby od_j39_1_0) rfl rfl kz) ?_
  refine own_callI (rest := []) (a := a1) (as := []) X0 hx hZ hown e0 (own_c_abc l Z a0 hw a1 h0) rfl (own_w hw 123 rfl) (own_w hw 124 rfl) (own_w hw 127 rfl) (own_w hw 128 rfl) (by decide) own_pd0 rfl (by rw [hml]; rfl) rfl (hb hby od_j39_1_1) 0 (by show 2 * 0 + _ ≤ _; exact Nat.le_of_eq rfl) (by decide) (by decide) (by decide) (by decide) ?_
  rintro _ T3 L3 X3 ⟨rfl, rfl, e3⟩
  have N3 := Fr.app N0 (Fr.nil n0)
  show own_E p e below _ (T3.setTop (mkF m 4 #[.val (.ref a1)] []))
  refine own_g (mkF m 5 #[.val (.ref a1)] [(.ref a1)]) (fun _ kz => XS.aloadN X3.here hx rfl (hb hby od_j39_1_4) rfl rfl kz) ?_
  refine own_g (mkF m 6 #[.val (.ref a1)] [(.int (0 : Int32)), (.ref a1)]) (fun _ kz => XS.iconst X3.here hx rfl (hb hby od_j39_1_5) kz) ?_
  obtain ⟨T4, h4, X4, e4, W4, st4⟩ := putF X3 hx hZ hown (host := "") (Or.inl (own_w hw 130 rfl)) Via.refl e3 Fm E1 (Or.inl (own_w hw 131 rfl)) (own_w hw 112 rfl) (ty := .int) (by decide) rfl rfl (g := (mkF m 6 #[.val (.ref a1)] [(.int (0 : Int32)), (.ref a1)])) rfl rfl (hb hby od_j39_1_6)
  have N4 := Fr.snoc X4 N3 g1
  have s5 : n0 ≤ h4.size := Nat.le_trans Z0 (Keep.of_wr W4).1
  have f6 := Exa.wr W4 E1
  have f7 := Fld.other W4 Fe (Or.inr (slot_ne (Or.inl (own_w hw 134 rfl)) (Or.inl (own_w hw 131 rfl)) (by decide) (t := (.array (.object "java/lang/Object"))) (t' := .int) (by decide) (by decide)))
  have K8 := K0.wr W4 (Or.inl (by simp))
  have f9 := Fld.same W4 Fm
  refine own_s st4 ?_
  show own_E p e below _ (T4.setTop (mkF m 9 #[.val (.ref a1)] []))
  exact own_retV X4 hx hret hlk (hb hby od_j39_1_9) (by decide) (by decide) (by first | exact ⟨rfl, N4, K8, f7⟩ | (rw [e4]; exact ⟨rfl, N4, K8, f7⟩))
theorem own_pn3 : plainName "java/util/ArrayList" = true := by first | (simp [plainName, overriddenIn]; done) | decide +kernel
theorem od_j38_2_0 : decode jdk_38_method_2_code 0 = .ok (.aload_n 0, 1) := by decide +kernel
theorem od_j38_2_1 : decode jdk_38_method_2_code 1 = .ok (.invokespecial 1, 3) := by decide +kernel
theorem od_j38_2_4 : decode jdk_38_method_2_code 4 = .ok (.aload_n 0, 1) := by decide +kernel
theorem od_j38_2_5 : decode jdk_38_method_2_code 5 = .ok (.getstatic 39, 3) := by decide +kernel
theorem od_j38_2_8 : decode jdk_38_method_2_code 8 = .ok (.putfield 9, 3) := by decide +kernel
theorem od_j38_2_11 : decode jdk_38_method_2_code 11 = .ok (.return_, 1) := by decide +kernel
set_option maxRecDepth 65536 in
set_option maxHeartbeats 40000000 in
theorem own_c_al (l : Launch) (Z : State) (a0 : Array Value) (hw : ∀ d ∈ tables_1, d.before a0 Z = true) (a1 : Nat) (sv : Nat) (h0 : Heap) (n0 : Nat) (Z0 : n0 ≤ h0.size) (g1 : n0 ≤ a1) (E1 : Exa Z h0 a1 "java/util/ArrayList") (Fm : Fld Z h0 a1 "java/util/AbstractList" "modCount" "I" (.int (0 : Int32))) (Fe : Fld Z h0 a1 "java/util/ArrayList" "elementData" "[Ljava/lang/Object;" .null) (S1 : Sta Z h0 "java/util/ArrayList" "DEFAULTCAPACITY_EMPTY_ELEMENTDATA" "[Ljava/lang/Object;" (.ref sv)) :
    own_Con l Z (⟨"java/util/ArrayList", "<init>", "()V"⟩ : MethodName) jdk_38_method_2_code 1 none [] ({ frames := 3, cells := 0, slots := 0, locals := 36 } : Room) #[(.ref a1)] h0 (fun v h L => v = none ∧ Fr n0 L ∧ Keep h0 h [a1]) := by
  refine own_enter (plainFor_of_name own_pn3) ?_
  intro p e s m below meth c s₁ X0 e0 hx hZ hby hml hown hnm hret hlk
  refine own_cast (g' := (mkF m 0 #[.val (.ref a1)] [])) (by first | (simp [entryFrame, mkF, argsToLocals, Value.category]; done) | rfl) ?_
  have N0 := Fr.nil n0
  have K0 := Keep.refl h0 [a1]
  refine own_g (mkF m 1 #[.val (.ref a1)] [(.ref a1)]) (fun _ kz => XS.aloadN X0.here hx rfl (hb hby od_j38_2_0) rfl rfl kz) ?_
  refine own_callI (rest := []) (a := a1) (as := []) X0 hx hZ hown e0 (own_c_abl l Z a0 hw a1 h0 n0 Z0 g1 E1 Fm Fe) rfl (own_w hw 117 rfl) (own_w hw 118 rfl) (own_w hw 121 rfl) (own_w hw 122 rfl) (by decide) own_pd0 rfl (by rw [hml]; rfl) rfl (hb hby od_j38_2_1) 0 (by show 2 * 0 + _ ≤ _; exact Nat.le_of_eq rfl) (by decide) (by decide) (by decide) (by decide) ?_
  rintro _ T10 L10 X10 ⟨rfl, Nq10, K10q, Fe10⟩
  have N10 := Fr.app N0 Nq10
  have f12 := own_staK S1 K10q (allS (own_plE E1) all0)
  have f13 := Exa.keep E1 K10q
  have s14 : n0 ≤ T10.heap.size := Nat.le_trans Z0 K10q.1
  have K15 := K0.trans K10q (allS (Or.inl (by simp)) all0)
  show own_E p e below _ (T10.setTop (mkF m 4 #[.val (.ref a1)] []))
  refine own_g (mkF m 5 #[.val (.ref a1)] [(.ref a1)]) (fun _ kz => XS.aloadN X10.here hx rfl (hb hby od_j38_2_4) rfl rfl kz) ?_
  obtain ⟨T16, X16, e16, st16⟩ := getS (host := "") X10 hx hZ hown (own_w hw 132 rfl) Via.refl rfl f12 (g := (mkF m 5 #[.val (.ref a1)] [(.ref a1)])) rfl (hb hby od_j38_2_5)
  refine own_s st16 ?_
  show own_E p e below _ (T16.setTop (mkF m 8 #[.val (.ref a1)] [(.ref sv), (.ref a1)]))
  obtain ⟨T17, h17, X17, e17, W17, st17⟩ := putF X16 hx hZ hown (host := "") (Or.inl (own_w hw 133 rfl)) Via.refl e16 Fe10 f13 (Or.inl (own_w hw 134 rfl)) (own_w hw 112 rfl) (ty := (.array (.object "java/lang/Object"))) (by decide) rfl rfl (g := (mkF m 8 #[.val (.ref a1)] [(.ref sv), (.ref a1)])) rfl rfl (hb hby od_j38_2_8)
  have N17 := Fr.snoc X17 N10 g1
  have s18 : n0 ≤ h17.size := Nat.le_trans s14 (Keep.of_wr W17).1
  have f19 := Exa.wr W17 f13
  have f20 := Sta.wr W17 f12
  have K21 := K15.wr W17 (Or.inl (by simp))
  have f22 := Fld.same W17 Fe10
  refine own_s st17 ?_
  show own_E p e below _ (T17.setTop (mkF m 11 #[.val (.ref a1)] []))
  exact own_retV X17 hx hret hlk (hb hby od_j38_2_11) (by decide) (by decide) (by first | exact ⟨rfl, N17, K21⟩ | (rw [e17]; exact ⟨rfl, N17, K21⟩))
theorem own_pn4 : plainName "java/util/HashMap" = true := by first | (simp [plainName, overriddenIn]; done) | decide +kernel
theorem od_j69_7_0 : decode jdk_69_method_7_code 0 = .ok (.aload_n 0, 1) := by decide +kernel
theorem od_j69_7_1 : decode jdk_69_method_7_code 1 = .ok (.invokespecial 43, 3) := by decide +kernel
theorem od_j69_7_4 : decode jdk_69_method_7_code 4 = .ok (.aload_n 0, 1) := by decide +kernel
theorem od_j69_7_5 : decode jdk_69_method_7_code 5 = .ok (.ldc 92, 2) := by decide +kernel
theorem od_j69_7_7 : decode jdk_69_method_7_code 7 = .ok (.putfield 81, 3) := by decide +kernel
theorem od_j69_7_10 : decode jdk_69_method_7_code 10 = .ok (.return_, 1) := by decide +kernel
set_option maxRecDepth 65536 in
set_option maxHeartbeats 40000000 in
theorem own_c_hm (l : Launch) (Z : State) (a0 : Array Value) (hw : ∀ d ∈ tables_1, d.before a0 Z = true) (a1 : Nat) (h0 : Heap) (n0 : Nat) (Z0 : n0 ≤ h0.size) (g1 : n0 ≤ a1) (E1 : Exa Z h0 a1 "java/util/HashMap") (Fl : Fld Z h0 a1 "java/util/HashMap" "loadFactor" "F" (.float (0 : UInt32))) :
    own_Con l Z (⟨"java/util/HashMap", "<init>", "()V"⟩ : MethodName) jdk_69_method_7_code 1 none [] ({ frames := 2, cells := 0, slots := 0, locals := 24 } : Room) #[(.ref a1)] h0 (fun v h L => v = none ∧ Fr n0 L ∧ Keep h0 h [a1]) := by
  refine own_enter (plainFor_of_name own_pn4) ?_
  intro p e s m below meth c s₁ X0 e0 hx hZ hby hml hown hnm hret hlk
  refine own_cast (g' := (mkF m 0 #[.val (.ref a1)] [])) (by first | (simp [entryFrame, mkF, argsToLocals, Value.category]; done) | rfl) ?_
  have N0 := Fr.nil n0
  have K0 := Keep.refl h0 [a1]
  refine own_g (mkF m 1 #[.val (.ref a1)] [(.ref a1)]) (fun _ kz => XS.aloadN X0.here hx rfl (hb hby od_j69_7_0) rfl rfl kz) ?_
  refine own_callI (rest := []) (a := a1) (as := []) X0 hx hZ hown e0 (own_c_abm l Z a0 hw a1 h0) rfl (own_w hw 81 rfl) (own_w hw 82 rfl) (own_w hw 85 rfl) (own_w hw 86 rfl) (by decide) own_pd0 rfl (by rw [hml]; rfl) rfl (hb hby od_j69_7_1) 0 (by show 2 * 0 + _ ≤ _; exact Nat.le_of_eq rfl) (by decide) (by decide) (by decide) (by decide) ?_
  rintro _ T23 L23 X23 ⟨rfl, rfl, e23⟩
  have N23 := Fr.app N0 (Fr.nil n0)
  show own_E p e below _ (T23.setTop (mkF m 4 #[.val (.ref a1)] []))
  refine own_g (mkF m 5 #[.val (.ref a1)] [(.ref a1)]) (fun _ kz => XS.aloadN X23.here hx rfl (hb hby od_j69_7_4) rfl rfl kz) ?_
  refine own_g (mkF m 7 #[.val (.ref a1)] [(.float (1061158912 : UInt32)), (.ref a1)]) (fun _ kz => X23.ldcFloatC hx hown (mvT hZ (own_w hw 88 rfl)) (g := (mkF m 5 #[.val (.ref a1)] [(.ref a1)])) rfl (hb hby od_j69_7_5) _ kz) ?_
  obtain ⟨T24, h24, X24, e24, W24, st24⟩ := putF X23 hx hZ hown (host := "") (Or.inl (own_w hw 89 rfl)) Via.refl e23 Fl E1 (Or.inr ⟨(own_w hw 90 rfl), rfl, hnm⟩) (own_w hw 76 rfl) (ty := .float) (by decide) rfl rfl (g := (mkF m 7 #[.val (.ref a1)] [(.float (1061158912 : UInt32)), (.ref a1)])) rfl rfl (hb hby od_j69_7_7)
  have N24 := Fr.snoc X24 N23 g1
  have s25 : n0 ≤ h24.size := Nat.le_trans Z0 (Keep.of_wr W24).1
  have f26 := Exa.wr W24 E1
  have K27 := K0.wr W24 (Or.inl (by simp))
  have f28 := Fld.same W24 Fl
  refine own_s st24 ?_
  show own_E p e below _ (T24.setTop (mkF m 10 #[.val (.ref a1)] []))
  exact own_retV X24 hx hret hlk (hb hby od_j69_7_10) (by decide) (by decide) (by first | exact ⟨rfl, N24, K27⟩ | (rw [e24]; exact ⟨rfl, N24, K27⟩))
theorem od_j29_65_0 : decode jdk_29_method_65_code 0 = .ok (.iload_n 0, 1) := by decide +kernel
theorem od_j29_65_1 : decode jdk_29_method_65_code 1 = .ok (.iload_n 1, 1) := by decide +kernel
theorem od_j29_65_2 : decode jdk_29_method_65_code 2 = .ok (.if_icmp .lt 7, 3) := by decide +kernel
theorem od_j29_65_9 : decode jdk_29_method_65_code 9 = .ok (.iload_n 1, 1) := by decide +kernel
theorem od_j29_65_10 : decode jdk_29_method_65_code 10 = .ok (.ireturn, 1) := by decide +kernel
theorem od_j29_65_5 : decode jdk_29_method_65_code 5 = .ok (.iload_n 0, 1) := by decide +kernel
theorem od_j29_65_6 : decode jdk_29_method_65_code 6 = .ok (.goto 4, 3) := by decide +kernel
set_option maxRecDepth 65536 in
set_option maxHeartbeats 40000000 in
theorem own_c_max (l : Launch) (Z : State) (a0 : Array Value) (hw : ∀ d ∈ tables_1, d.before a0 Z = true) (x0 : Int32) (x1 : Int32) (h0 : Heap) :
    own_Con l Z (⟨"java/lang/Math", "max", "(II)I"⟩ : MethodName) jdk_29_method_65_code 2 (some .int) [] ({ frames := 0, cells := 0, slots := 0, locals := 0 } : Room) #[(.int x0), (.int x1)] h0 (fun v h L => v = some (.int (own_max x0 x1)) ∧ L = [] ∧ h = h0) := by
  refine own_enter (Jvm.Free.JP.mathPlain rfl (by decide +kernel)) ?_
  intro p e s m below meth c s₁ X0 e0 hx hZ hby hml hown hnm hret hlk
  refine own_cast (g' := (mkF m 0 #[.val (.int x0), .val (.int x1)] [])) (by first | (simp [entryFrame, mkF, argsToLocals, Value.category]; done) | rfl) ?_
  refine own_g (mkF m 1 #[.val (.int x0), .val (.int x1)] [(.int x0)]) (fun _ kz => XS.iloadN X0.here hx rfl (hb hby od_j29_65_0) rfl kz) ?_
  refine own_g (mkF m 2 #[.val (.int x0), .val (.int x1)] [(.int x1), (.int x0)]) (fun _ kz => XS.iloadN X0.here hx rfl (hb hby od_j29_65_1) rfl kz) ?_
  by_cases hc2_29 : x0 < x1
  · refine own_g (mkF m 9 #[.val (.int x0), .val (.int x1)] []) (fun _ kz => XS.icmpYes X0.here hx rfl (pc0 := 2) (pc' := 9) rfl (hb hby od_j29_65_2) rfl (tlt hc2_29).1 (by decide) (by decide) kz) ?_
    refine own_g (mkF m 10 #[.val (.int x0), .val (.int x1)] [(.int x1)]) (fun _ kz => XS.iloadN X0.here hx rfl (hb hby od_j29_65_9) rfl kz) ?_
    exact own_retI X0 hx hret hlk (hb hby od_j29_65_10) (by decide) (by decide) (by first | exact ⟨by simp [own_max, hc2_29], rfl, rfl⟩ | (rw [e0]; exact ⟨by simp [own_max, hc2_29], rfl, rfl⟩))
  · refine own_g (mkF m 5 #[.val (.int x0), .val (.int x1)] []) (fun _ kz => XS.icmpNo X0.here hx rfl (hb hby od_j29_65_2) rfl (flt hc2_29).1 kz) ?_
    refine own_g (mkF m 6 #[.val (.int x0), .val (.int x1)] [(.int x0)]) (fun _ kz => XS.iloadN X0.here hx rfl (hb hby od_j29_65_5) rfl kz) ?_
    refine own_g (mkF m 10 #[.val (.int x0), .val (.int x1)] [(.int x0)]) (fun _ kz => XS.goto X0.here hx rfl (pc0 := 6) (pc' := 10) rfl (hb hby od_j29_65_6) (by decide) (by decide) kz) ?_
    exact own_retI X0 hx hret hlk (hb hby od_j29_65_10) (by decide) (by decide) (by first | exact ⟨by simp [own_max, hc2_29], rfl, rfl⟩ | (rw [e0]; exact ⟨by simp [own_max, hc2_29], rfl, rfl⟩))
theorem own_pn5 : plainName "com/example/holdfast/holdfast/dom/CompactNode" = true := by first | (simp [plainName, overriddenIn]; done) | decide +kernel
theorem od_135_1_0 : decode prog_135_method_1_code 0 = .ok (.aload_n 0, 1) := by decide +kernel
theorem od_135_1_1 : decode prog_135_method_1_code 1 = .ok (.invokespecial 3, 3) := by decide +kernel
theorem od_135_1_4 : decode prog_135_method_1_code 4 = .ok (.aload_n 0, 1) := by decide +kernel
theorem od_135_1_5 : decode prog_135_method_1_code 5 = .ok (.aload_n 1, 1) := by decide +kernel
theorem od_135_1_6 : decode prog_135_method_1_code 6 = .ok (.ifnonnull 10, 3) := by decide +kernel
theorem od_135_1_9 : decode prog_135_method_1_code 9 = .ok (.aload_n 0, 1) := by decide +kernel
theorem od_135_1_10 : decode prog_135_method_1_code 10 = .ok (.checkcast 9, 3) := by decide +kernel
theorem od_135_1_13 : decode prog_135_method_1_code 13 = .ok (.goto 4, 3) := by decide +kernel
theorem od_135_1_17 : decode prog_135_method_1_code 17 = .ok (.putfield 11, 3) := by decide +kernel
theorem od_135_1_20 : decode prog_135_method_1_code 20 = .ok (.aload_n 0, 1) := by decide +kernel
theorem od_135_1_21 : decode prog_135_method_1_code 21 = .ok (.iload_n 2, 1) := by decide +kernel
theorem od_135_1_22 : decode prog_135_method_1_code 22 = .ok (.putfield 17, 3) := by decide +kernel
theorem od_135_1_25 : decode prog_135_method_1_code 25 = .ok (.return_, 1) := by decide +kernel
set_option maxRecDepth 65536 in
set_option maxHeartbeats 40000000 in
theorem own_c_cn (l : Launch) (Z : State) (a0 : Array Value) (hw : ∀ d ∈ tables_1, d.before a0 Z = true) (a1 : Nat) (g : Nat → Value) (h0 : Heap) (n0 : Nat) (Z0 : n0 ≤ h0.size) (g1 : n0 ≤ a1) (E1 : Exa Z h0 a1 "com/example/holdfast/holdfast/dom/CompactDocument") (F1 : own_FL Z h0 a1 g) :
    own_Con l Z (⟨"com/example/holdfast/holdfast/dom/CompactNode", "<init>", "(Lcom/example/holdfast/holdfast/dom/CompactDocument;I)V"⟩ : MethodName) prog_135_method_1_code 3 none [] ({ frames := 1, cells := 0, slots := 0, locals := 12 } : Room) #[(.ref a1), .null, (.int (0 : Int32))] h0 (fun v h L => v = none ∧ Fr n0 L ∧ Keep h0 h [a1] ∧ own_FL Z h a1 (own_set (own_set g 0 (.ref a1)) 1 (.int 0))) := by
  refine own_enter (plainFor_of_name own_pn5) ?_
  intro p e s m below meth c s₁ X0 e0 hx hZ hby hml hown hnm hret hlk
  refine own_cast (g' := (mkF m 0 #[.val (.ref a1), .val .null, .val (.int (0 : Int32))] [])) (by first | (simp [entryFrame, mkF, argsToLocals, Value.category]; done) | rfl) ?_
  have N0 := Fr.nil n0
  have K0 := Keep.refl h0 [a1]
  refine own_g (mkF m 1 #[.val (.ref a1), .val .null, .val (.int (0 : Int32))] [(.ref a1)]) (fun _ kz => XS.aloadN X0.here hx rfl (hb hby od_135_1_0) rfl rfl kz) ?_
  obtain ⟨T30, X30, e30, st30⟩ := initO X0 hx hZ hown (own_w hw 23 rfl) (own_w hw 10 rfl) (own_w hw 11 rfl) e0 (g := (mkF m 1 #[.val (.ref a1), .val .null, .val (.int (0 : Int32))] [(.ref a1)])) rfl (by rw [hml]; rfl) rfl (hb hby od_135_1_1) (by decide) (W := 0) (by show 2 * 0 + _ ≤ _; exact Nat.le_of_eq rfl) (by decide)
  refine own_s st30 ?_
  show own_E p e below _ (T30.setTop (mkF m 4 #[.val (.ref a1), .val .null, .val (.int (0 : Int32))] []))
  refine own_g (mkF m 5 #[.val (.ref a1), .val .null, .val (.int (0 : Int32))] [(.ref a1)]) (fun _ kz => XS.aloadN X30.here hx rfl (hb hby od_135_1_4) rfl rfl kz) ?_
  refine own_g (mkF m 6 #[.val (.ref a1), .val .null, .val (.int (0 : Int32))] [.null, (.ref a1)]) (fun _ kz => XS.aloadN X30.here hx rfl (hb hby od_135_1_5) rfl rfl kz) ?_
  refine own_g (mkF m 9 #[.val (.ref a1), .val .null, .val (.int (0 : Int32))] [(.ref a1)]) (fun _ kz => XS.ifnonnullNo X30.here hx rfl (hb hby od_135_1_6) rfl kz) ?_
  refine own_g (mkF m 10 #[.val (.ref a1), .val .null, .val (.int (0 : Int32))] [(.ref a1), (.ref a1)]) (fun _ kz => XS.aloadN X30.here hx rfl (hb hby od_135_1_9) rfl rfl kz) ?_
  obtain ⟨T31, X31, e31, st31⟩ := castY X30 hx hZ hown (own_w hw 24 rfl) e30 (Ins.self E1) (g := (mkF m 10 #[.val (.ref a1), .val .null, .val (.int (0 : Int32))] [(.ref a1), (.ref a1)])) rfl rfl (hb hby od_135_1_10)
  refine own_s st31 ?_
  show own_E p e below _ (T31.setTop (mkF m 13 #[.val (.ref a1), .val .null, .val (.int (0 : Int32))] [(.ref a1), (.ref a1)]))
  refine own_g (mkF m 17 #[.val (.ref a1), .val .null, .val (.int (0 : Int32))] [(.ref a1), (.ref a1)]) (fun _ kz => XS.goto X31.here hx rfl (pc0 := 13) (pc' := 17) rfl (hb hby od_135_1_13) (by decide) (by decide) kz) ?_
  obtain ⟨T32, h32, X32, e32, W32, st32⟩ := putF X31 hx hZ hown (host := "") (Or.inl (own_w hw 26 rfl)) Via.refl e31 (show Fld Z h0 a1 "com/example/holdfast/holdfast/dom/CompactNode" "document" "Lcom/example/holdfast/holdfast/dom/CompactDocument;" (g 0) from own_FLg F1 0 (by decide) rfl) E1 (Or.inr ⟨(own_w hw 27 rfl), rfl, hnm⟩) (own_w hw 13 rfl) (ty := (.object "com/example/holdfast/holdfast/dom/CompactDocument")) (by decide) rfl rfl (g := (mkF m 17 #[.val (.ref a1), .val .null, .val (.int (0 : Int32))] [(.ref a1), (.ref a1)])) rfl rfl (hb hby od_135_1_17)
  have N32 := Fr.snoc X32 N0 g1
  have s33 : n0 ≤ h32.size := Nat.le_trans Z0 (Keep.of_wr W32).1
  have f34 := own_FL.wr hw F1 0 (by decide) W32
  have f35 := Exa.wr W32 E1
  have K36 := K0.wr W32 (Or.inl (by simp))
  refine own_s st32 ?_
  show own_E p e below _ (T32.setTop (mkF m 20 #[.val (.ref a1), .val .null, .val (.int (0 : Int32))] []))
  refine own_g (mkF m 21 #[.val (.ref a1), .val .null, .val (.int (0 : Int32))] [(.ref a1)]) (fun _ kz => XS.aloadN X32.here hx rfl (hb hby od_135_1_20) rfl rfl kz) ?_
  refine own_g (mkF m 22 #[.val (.ref a1), .val .null, .val (.int (0 : Int32))] [(.int (0 : Int32)), (.ref a1)]) (fun _ kz => XS.iloadN X32.here hx rfl (hb hby od_135_1_21) rfl kz) ?_
  obtain ⟨T37, h37, X37, e37, W37, st37⟩ := putF X32 hx hZ hown (host := "") (Or.inl (own_w hw 28 rfl)) Via.refl e32 (show Fld Z h32 a1 "com/example/holdfast/holdfast/dom/CompactNode" "index" "I" (g 1) from own_FLg f34 1 (by decide) rfl) f35 (Or.inr ⟨(own_w hw 29 rfl), rfl, hnm⟩) (own_w hw 13 rfl) (ty := .int) (by decide) rfl rfl (g := (mkF m 22 #[.val (.ref a1), .val .null, .val (.int (0 : Int32))] [(.int (0 : Int32)), (.ref a1)])) rfl rfl (hb hby od_135_1_22)
  have N37 := Fr.snoc X37 N32 g1
  have s38 : n0 ≤ h37.size := Nat.le_trans s33 (Keep.of_wr W37).1
  have f39 := own_FL.wr hw f34 1 (by decide) W37
  have f40 := Exa.wr W37 f35
  have K41 := K36.wr W37 (Or.inl (by simp))
  refine own_s st37 ?_
  show own_E p e below _ (T37.setTop (mkF m 25 #[.val (.ref a1), .val .null, .val (.int (0 : Int32))] []))
  exact own_retV X37 hx hret hlk (hb hby od_135_1_25) (by decide) (by decide) (by first | exact ⟨rfl, N37, K41, f39⟩ | (rw [e37]; exact ⟨rfl, N37, K41, f39⟩))
theorem own_pn6 : plainName "com/example/holdfast/holdfast/dom/CompactDocument" = true := by first | (simp [plainName, overriddenIn]; done) | decide +kernel
theorem od_121_1_0 : decode prog_121_method_1_code 0 = .ok (.aload_n 0, 1) := by decide +kernel
theorem od_121_1_1 : decode prog_121_method_1_code 1 = .ok (.aconst_null, 1) := by decide +kernel
theorem od_121_1_2 : decode prog_121_method_1_code 2 = .ok (.iconst 0, 1) := by decide +kernel
theorem own_pd1 : parseMethodDescriptor "(Lcom/example/holdfast/holdfast/dom/CompactDocument;I)V" = some ⟨[(.object "com/example/holdfast/holdfast/dom/CompactDocument"), .int], none⟩ := by decide +kernel
theorem od_121_1_3 : decode prog_121_method_1_code 3 = .ok (.invokespecial 1, 3) := by decide +kernel
theorem od_121_1_6 : decode prog_121_method_1_code 6 = .ok (.aload_n 0, 1) := by decide +kernel
theorem od_121_1_7 : decode prog_121_method_1_code 7 = .ok (.bipush 64, 2) := by decide +kernel
theorem od_121_1_9 : decode prog_121_method_1_code 9 = .ok (.newarray .byte, 2) := by decide +kernel
theorem od_121_1_11 : decode prog_121_method_1_code 11 = .ok (.putfield 7, 3) := by decide +kernel
theorem od_121_1_14 : decode prog_121_method_1_code 14 = .ok (.aload_n 0, 1) := by decide +kernel
theorem od_121_1_15 : decode prog_121_method_1_code 15 = .ok (.bipush 64, 2) := by decide +kernel
theorem od_121_1_17 : decode prog_121_method_1_code 17 = .ok (.newarray .int, 2) := by decide +kernel
theorem od_121_1_19 : decode prog_121_method_1_code 19 = .ok (.putfield 13, 3) := by decide +kernel
theorem od_121_1_22 : decode prog_121_method_1_code 22 = .ok (.aload_n 0, 1) := by decide +kernel
theorem od_121_1_23 : decode prog_121_method_1_code 23 = .ok (.bipush 64, 2) := by decide +kernel
theorem od_121_1_25 : decode prog_121_method_1_code 25 = .ok (.newarray .int, 2) := by decide +kernel
theorem od_121_1_27 : decode prog_121_method_1_code 27 = .ok (.putfield 17, 3) := by decide +kernel
theorem od_121_1_30 : decode prog_121_method_1_code 30 = .ok (.aload_n 0, 1) := by decide +kernel
theorem od_121_1_31 : decode prog_121_method_1_code 31 = .ok (.bipush 64, 2) := by decide +kernel
theorem od_121_1_33 : decode prog_121_method_1_code 33 = .ok (.newarray .int, 2) := by decide +kernel
theorem od_121_1_35 : decode prog_121_method_1_code 35 = .ok (.putfield 20, 3) := by decide +kernel
theorem od_121_1_38 : decode prog_121_method_1_code 38 = .ok (.aload_n 0, 1) := by decide +kernel
theorem od_121_1_39 : decode prog_121_method_1_code 39 = .ok (.bipush 64, 2) := by decide +kernel
theorem od_121_1_41 : decode prog_121_method_1_code 41 = .ok (.newarray .int, 2) := by decide +kernel
theorem od_121_1_43 : decode prog_121_method_1_code 43 = .ok (.putfield 23, 3) := by decide +kernel
theorem od_121_1_46 : decode prog_121_method_1_code 46 = .ok (.aload_n 0, 1) := by decide +kernel
theorem od_121_1_47 : decode prog_121_method_1_code 47 = .ok (.bipush 64, 2) := by decide +kernel
theorem od_121_1_49 : decode prog_121_method_1_code 49 = .ok (.newarray .int, 2) := by decide +kernel
theorem od_121_1_51 : decode prog_121_method_1_code 51 = .ok (.putfield 26, 3) := by decide +kernel
theorem od_121_1_54 : decode prog_121_method_1_code 54 = .ok (.aload_n 0, 1) := by decide +kernel
theorem od_121_1_55 : decode prog_121_method_1_code 55 = .ok (.bipush 64, 2) := by decide +kernel
theorem od_121_1_57 : decode prog_121_method_1_code 57 = .ok (.newarray .int, 2) := by decide +kernel
theorem od_121_1_59 : decode prog_121_method_1_code 59 = .ok (.putfield 29, 3) := by decide +kernel
theorem od_121_1_62 : decode prog_121_method_1_code 62 = .ok (.aload_n 0, 1) := by decide +kernel
theorem od_121_1_63 : decode prog_121_method_1_code 63 = .ok (.bipush 64, 2) := by decide +kernel
theorem od_121_1_65 : decode prog_121_method_1_code 65 = .ok (.newarray .byte, 2) := by decide +kernel
theorem od_121_1_67 : decode prog_121_method_1_code 67 = .ok (.putfield 32, 3) := by decide +kernel
theorem od_121_1_70 : decode prog_121_method_1_code 70 = .ok (.aload_n 0, 1) := by decide +kernel
theorem od_121_1_71 : decode prog_121_method_1_code 71 = .ok (.bipush 64, 2) := by decide +kernel
theorem od_121_1_73 : decode prog_121_method_1_code 73 = .ok (.newarray .int, 2) := by decide +kernel
theorem od_121_1_75 : decode prog_121_method_1_code 75 = .ok (.putfield 35, 3) := by decide +kernel
theorem od_121_1_78 : decode prog_121_method_1_code 78 = .ok (.aload_n 0, 1) := by decide +kernel
theorem od_121_1_79 : decode prog_121_method_1_code 79 = .ok (.bipush 64, 2) := by decide +kernel
theorem od_121_1_81 : decode prog_121_method_1_code 81 = .ok (.newarray .int, 2) := by decide +kernel
theorem od_121_1_83 : decode prog_121_method_1_code 83 = .ok (.putfield 38, 3) := by decide +kernel
theorem od_121_1_86 : decode prog_121_method_1_code 86 = .ok (.aload_n 0, 1) := by decide +kernel
theorem od_121_1_87 : decode prog_121_method_1_code 87 = .ok (.bipush 64, 2) := by decide +kernel
theorem od_121_1_89 : decode prog_121_method_1_code 89 = .ok (.anewarray 2, 3) := by decide +kernel
theorem od_121_1_92 : decode prog_121_method_1_code 92 = .ok (.putfield 41, 3) := by decide +kernel
theorem od_121_1_95 : decode prog_121_method_1_code 95 = .ok (.aload_n 0, 1) := by decide +kernel
theorem od_121_1_96 : decode prog_121_method_1_code 96 = .ok (.new 45, 3) := by decide +kernel
theorem od_121_1_99 : decode prog_121_method_1_code 99 = .ok (.dup, 1) := by decide +kernel
theorem od_121_1_100 : decode prog_121_method_1_code 100 = .ok (.invokespecial 47, 3) := by decide +kernel
theorem od_121_1_103 : decode prog_121_method_1_code 103 = .ok (.putfield 50, 3) := by decide +kernel
theorem od_121_1_106 : decode prog_121_method_1_code 106 = .ok (.aload_n 0, 1) := by decide +kernel
theorem od_121_1_107 : decode prog_121_method_1_code 107 = .ok (.sipush 1024, 3) := by decide +kernel
theorem od_121_1_110 : decode prog_121_method_1_code 110 = .ok (.newarray .char, 2) := by decide +kernel
theorem od_121_1_112 : decode prog_121_method_1_code 112 = .ok (.putfield 54, 3) := by decide +kernel
theorem od_121_1_115 : decode prog_121_method_1_code 115 = .ok (.aload_n 0, 1) := by decide +kernel
theorem od_121_1_116 : decode prog_121_method_1_code 116 = .ok (.bipush 64, 2) := by decide +kernel
theorem od_121_1_118 : decode prog_121_method_1_code 118 = .ok (.newarray .int, 2) := by decide +kernel
theorem od_121_1_120 : decode prog_121_method_1_code 120 = .ok (.putfield 58, 3) := by decide +kernel
theorem od_121_1_123 : decode prog_121_method_1_code 123 = .ok (.aload_n 0, 1) := by decide +kernel
theorem od_121_1_124 : decode prog_121_method_1_code 124 = .ok (.bipush 64, 2) := by decide +kernel
theorem od_121_1_126 : decode prog_121_method_1_code 126 = .ok (.newarray .int, 2) := by decide +kernel
theorem od_121_1_128 : decode prog_121_method_1_code 128 = .ok (.putfield 61, 3) := by decide +kernel
theorem od_121_1_131 : decode prog_121_method_1_code 131 = .ok (.aload_n 0, 1) := by decide +kernel
theorem od_121_1_132 : decode prog_121_method_1_code 132 = .ok (.bipush 64, 2) := by decide +kernel
theorem od_121_1_134 : decode prog_121_method_1_code 134 = .ok (.newarray .int, 2) := by decide +kernel
theorem od_121_1_136 : decode prog_121_method_1_code 136 = .ok (.putfield 64, 3) := by decide +kernel
theorem od_121_1_139 : decode prog_121_method_1_code 139 = .ok (.aload_n 0, 1) := by decide +kernel
theorem od_121_1_140 : decode prog_121_method_1_code 140 = .ok (.bipush 16, 2) := by decide +kernel
theorem od_121_1_142 : decode prog_121_method_1_code 142 = .ok (.anewarray 67, 3) := by decide +kernel
theorem od_121_1_145 : decode prog_121_method_1_code 145 = .ok (.putfield 69, 3) := by decide +kernel
theorem od_121_1_148 : decode prog_121_method_1_code 148 = .ok (.aload_n 0, 1) := by decide +kernel
theorem od_121_1_149 : decode prog_121_method_1_code 149 = .ok (.new 73, 3) := by decide +kernel
theorem od_121_1_152 : decode prog_121_method_1_code 152 = .ok (.dup, 1) := by decide +kernel
theorem od_121_1_153 : decode prog_121_method_1_code 153 = .ok (.invokespecial 75, 3) := by decide +kernel
theorem od_121_1_156 : decode prog_121_method_1_code 156 = .ok (.putfield 76, 3) := by decide +kernel
theorem od_121_1_159 : decode prog_121_method_1_code 159 = .ok (.aload_n 0, 1) := by decide +kernel
theorem od_121_1_160 : decode prog_121_method_1_code 160 = .ok (.ldc 80, 2) := by decide +kernel
theorem od_121_1_162 : decode prog_121_method_1_code 162 = .ok (.putfield 82, 3) := by decide +kernel
theorem od_121_1_165 : decode prog_121_method_1_code 165 = .ok (.aload_n 0, 1) := by decide +kernel
theorem od_121_1_166 : decode prog_121_method_1_code 166 = .ok (.iconst 1, 1) := by decide +kernel
theorem od_121_1_167 : decode prog_121_method_1_code 167 = .ok (.putfield 86, 3) := by decide +kernel
theorem od_121_1_170 : decode prog_121_method_1_code 170 = .ok (.aload_n 0, 1) := by decide +kernel
theorem od_121_1_171 : decode prog_121_method_1_code 171 = .ok (.iconst 1, 1) := by decide +kernel
theorem od_121_1_172 : decode prog_121_method_1_code 172 = .ok (.putfield 90, 3) := by decide +kernel
theorem od_121_1_175 : decode prog_121_method_1_code 175 = .ok (.aload_n 0, 1) := by decide +kernel
theorem od_121_1_176 : decode prog_121_method_1_code 176 = .ok (.getfield 7, 3) := by decide +kernel
theorem od_121_1_179 : decode prog_121_method_1_code 179 = .ok (.iconst 0, 1) := by decide +kernel
theorem od_121_1_180 : decode prog_121_method_1_code 180 = .ok (.bipush 9, 2) := by decide +kernel
theorem od_121_1_182 : decode prog_121_method_1_code 182 = .ok (.bastore, 1) := by decide +kernel
theorem od_121_1_183 : decode prog_121_method_1_code 183 = .ok (.aload_n 0, 1) := by decide +kernel
theorem od_121_1_184 : decode prog_121_method_1_code 184 = .ok (.getfield 13, 3) := by decide +kernel
theorem od_121_1_187 : decode prog_121_method_1_code 187 = .ok (.iconst 0, 1) := by decide +kernel
theorem od_121_1_188 : decode prog_121_method_1_code 188 = .ok (.iconst (-1), 1) := by decide +kernel
theorem od_121_1_189 : decode prog_121_method_1_code 189 = .ok (.iastore, 1) := by decide +kernel
theorem od_121_1_190 : decode prog_121_method_1_code 190 = .ok (.aload_n 0, 1) := by decide +kernel
theorem od_121_1_191 : decode prog_121_method_1_code 191 = .ok (.getfield 17, 3) := by decide +kernel
theorem od_121_1_194 : decode prog_121_method_1_code 194 = .ok (.iconst 0, 1) := by decide +kernel
theorem od_121_1_195 : decode prog_121_method_1_code 195 = .ok (.iconst (-1), 1) := by decide +kernel
theorem od_121_1_196 : decode prog_121_method_1_code 196 = .ok (.iastore, 1) := by decide +kernel
theorem od_121_1_197 : decode prog_121_method_1_code 197 = .ok (.aload_n 0, 1) := by decide +kernel
theorem od_121_1_198 : decode prog_121_method_1_code 198 = .ok (.getfield 20, 3) := by decide +kernel
theorem od_121_1_201 : decode prog_121_method_1_code 201 = .ok (.iconst 0, 1) := by decide +kernel
theorem od_121_1_202 : decode prog_121_method_1_code 202 = .ok (.iconst (-1), 1) := by decide +kernel
theorem od_121_1_203 : decode prog_121_method_1_code 203 = .ok (.iastore, 1) := by decide +kernel
theorem od_121_1_204 : decode prog_121_method_1_code 204 = .ok (.aload_n 0, 1) := by decide +kernel
theorem od_121_1_205 : decode prog_121_method_1_code 205 = .ok (.getfield 23, 3) := by decide +kernel
theorem od_121_1_208 : decode prog_121_method_1_code 208 = .ok (.iconst 0, 1) := by decide +kernel
theorem od_121_1_209 : decode prog_121_method_1_code 209 = .ok (.iconst (-1), 1) := by decide +kernel
theorem od_121_1_210 : decode prog_121_method_1_code 210 = .ok (.iastore, 1) := by decide +kernel
theorem od_121_1_211 : decode prog_121_method_1_code 211 = .ok (.aload_n 0, 1) := by decide +kernel
theorem od_121_1_212 : decode prog_121_method_1_code 212 = .ok (.getfield 26, 3) := by decide +kernel
theorem od_121_1_215 : decode prog_121_method_1_code 215 = .ok (.iconst 0, 1) := by decide +kernel
theorem od_121_1_216 : decode prog_121_method_1_code 216 = .ok (.iconst (-1), 1) := by decide +kernel
theorem od_121_1_217 : decode prog_121_method_1_code 217 = .ok (.iastore, 1) := by decide +kernel
theorem od_121_1_218 : decode prog_121_method_1_code 218 = .ok (.aload_n 0, 1) := by decide +kernel
theorem od_121_1_219 : decode prog_121_method_1_code 219 = .ok (.getfield 41, 3) := by decide +kernel
theorem od_121_1_222 : decode prog_121_method_1_code 222 = .ok (.iconst 0, 1) := by decide +kernel
theorem od_121_1_223 : decode prog_121_method_1_code 223 = .ok (.aload_n 0, 1) := by decide +kernel
theorem od_121_1_224 : decode prog_121_method_1_code 224 = .ok (.aastore, 1) := by decide +kernel
theorem od_121_1_225 : decode prog_121_method_1_code 225 = .ok (.return_, 1) := by decide +kernel
set_option maxRecDepth 65536 in
set_option maxHeartbeats 40000000 in
theorem own_c_cd (l : Launch) (Z : State) (a0 : Array Value) (hw : ∀ d ∈ tables_1, d.before a0 Z = true) (a1 : Nat) (sv : Nat) (h0 : Heap) (n0 : Nat) (Z0 : n0 ≤ h0.size) (g1 : n0 ≤ a1) (E1 : Exa Z h0 a1 "com/example/holdfast/holdfast/dom/CompactDocument") (F1 : own_FL Z h0 a1 own_g0) (S1 : Sta Z h0 "java/util/ArrayList" "DEFAULTCAPACITY_EMPTY_ELEMENTDATA" "[Ljava/lang/Object;" (.ref sv)) :
    own_ConW l Z (⟨"com/example/holdfast/holdfast/dom/CompactDocument", "<init>", "()V"⟩ : MethodName) prog_121_method_1_code 1 none [] ({ frames := 3, cells := 20, slots := 1960, locals := 38 } : Room) #[(.ref a1)] h0 (fun v h L => v = none ∧ Fr n0 L ∧ Keep h0 h [a1] ∧ Sta Z h "java/util/ArrayList" "DEFAULTCAPACITY_EMPTY_ELEMENTDATA" "[Ljava/lang/Object;" (.ref sv) ∧ ∃ b g fs, own_Doc Z h n0 a1 b g fs ∧ (g 29 = .int 0 ∧ g 30 = .int 0 ∧ g 31 = .int 0 ∧ g 33 = .int 0 ∧ g 28 = .int 0 ∧ g 32 = .null ∧ g 34 = .null ∧ g 24 = .null ∧ g 25 = .null ∧ g 26 = .null ∧ g 27 = .null ∧ g 23 = .null ∧ g 22 = .int 1) ∧ fs 1 0 = -1 ∧ (∀ q, fs 7 q = 0)) := by
  refine own_enterW (plainFor_of_name own_pn6) ?_
  intro p e s m below meth c s₁ X0 e0 hx hZ hby hml hown hnm hret hlk
  refine own_cast (g' := (mkF m 0 #[.val (.ref a1)] [])) (by first | (simp [entryFrame, mkF, argsToLocals, Value.category]; done) | rfl) ?_
  have N0 := Fr.nil n0
  have K0 := Keep.refl h0 [a1]
  refine own_g (mkF m 1 #[.val (.ref a1)] [(.ref a1)]) (fun _ kz => XS.aloadN X0.here hx rfl (hb hby od_121_1_0) rfl rfl kz) ?_
  refine own_g (mkF m 2 #[.val (.ref a1)] [.null, (.ref a1)]) (fun _ kz => XS.aconstNull X0.here hx rfl (hb hby od_121_1_1) kz) ?_
  refine own_g (mkF m 3 #[.val (.ref a1)] [(.int (0 : Int32)), .null, (.ref a1)]) (fun _ kz => XS.iconst X0.here hx rfl (hb hby od_121_1_2) kz) ?_
  refine own_callI (rest := []) (a := a1) (as := [.null, (.int (0 : Int32))]) X0 hx hZ hown e0 (own_c_cn l Z a0 hw a1 own_g0 h0 n0 Z0 g1 E1 F1) rfl (own_w hw 18 rfl) (own_w hw 19 rfl) (own_w hw 21 rfl) (own_w hw 22 rfl) (by decide) own_pd1 rfl (by rw [hml]; rfl) rfl (hb hby od_121_1_3) 0 (by show 2 * 0 + _ ≤ _; exact Nat.le_of_eq rfl) (by decide) (by decide) (by decide) (by decide) ?_
  rintro _ T42 L42 X42 ⟨rfl, Nq42, K42q, F42q⟩
  have N42 := Fr.app N0 Nq42
  have f44 := own_staK S1 K42q (allS (own_plE E1) all0)
  have f45 := Exa.keep E1 K42q
  have s46 : n0 ≤ T42.heap.size := Nat.le_trans Z0 K42q.1
  have K47 := K0.trans K42q (allS (Or.inl (by simp)) all0)
  show own_E p e below _ (T42.setTop (mkF m 6 #[.val (.ref a1)] []))
  refine own_g (mkF m 7 #[.val (.ref a1)] [(.ref a1)]) (fun _ kz => XS.aloadN X42.here hx rfl (hb hby od_121_1_6) rfl rfl kz) ?_
  refine own_g (mkF m 9 #[.val (.ref a1)] [(.int (64 : Int32)), (.ref a1)]) (fun _ kz => XS.bipush X42.here hx rfl (hb hby od_121_1_7) kz) ?_
  refine own_newI X42 hx hZ rfl (own_w hw 30 rfl) rfl (hb hby od_121_1_9) (by decide) (n := 64) rfl 64 (by decide) (by decide) (by decide) (by decide) ?_
  intro T48 h48 o48 g48 X48 e48 E48 A48
  have lt49 : a1 < o48 := Nat.lt_of_lt_of_le F42q.lt (Nat.le_of_eq g48.symm)
  have b50 : n0 ≤ o48 := Nat.le_trans s46 (Nat.le_of_eq g48.symm)
  have z51 : h0.size ≤ o48 := Nat.le_trans K47.1 (Nat.le_of_eq g48.symm)
  have f52 := own_FL.ext E48 F42q
  have f53 := Exa.ext E48 f45
  have f54 := Sta.ext E48 f44
  have K55 := K47.ext E48
  have s56 : n0 ≤ h48.size := Nat.le_trans s46 E48.1
  show own_E p e below _ (T48.setTop (mkF m 11 #[.val (.ref a1)] [(.ref o48), (.ref a1)]))
  obtain ⟨T57, h57, X57, e57, W57, st57⟩ := putF X48 hx hZ hown (host := "") (Or.inl (own_w hw 31 rfl)) Via.refl e48 (show Fld Z h48 a1 "com/example/holdfast/holdfast/dom/CompactDocument" "types" "[B" .null from own_FLg f52 2 (by decide) rfl) f53 (Or.inl (own_w hw 32 rfl)) (own_w hw 13 rfl) (ty := (.array .byte)) (by decide) rfl rfl (g := (mkF m 11 #[.val (.ref a1)] [(.ref o48), (.ref a1)])) rfl rfl (hb hby od_121_1_11)
  have N57 := Fr.snoc X57 N42 g1
  have s58 : n0 ≤ h57.size := Nat.le_trans s56 (Keep.of_wr W57).1
  have f59 := own_FL.wr hw f52 2 (by decide) W57
  have f60 := Exa.wr W57 f53
  have f61 := Sta.wr W57 f54
  have f62 := A48.other W57 (Ne.symm (Nat.ne_of_lt lt49))
  have K63 := K55.wr W57 (Or.inl (by simp))
  refine own_s st57 ?_
  show own_E p e below _ (T57.setTop (mkF m 14 #[.val (.ref a1)] []))
  refine own_g (mkF m 15 #[.val (.ref a1)] [(.ref a1)]) (fun _ kz => XS.aloadN X57.here hx rfl (hb hby od_121_1_14) rfl rfl kz) ?_
  refine own_g (mkF m 17 #[.val (.ref a1)] [(.int (64 : Int32)), (.ref a1)]) (fun _ kz => XS.bipush X57.here hx rfl (hb hby od_121_1_15) kz) ?_
  refine own_newI X57 hx hZ e57 (own_w hw 33 rfl) rfl (hb hby od_121_1_17) (by decide) (n := 64) rfl 64 (by decide) (by decide) (by decide) (by decide) ?_
  intro T64 h64 o64 g64 X64 e64 E64 A64
  have lt65 : a1 < o64 := Nat.lt_of_lt_of_le f59.lt (Nat.le_of_eq g64.symm)
  have lt66 : o48 < o64 := Nat.lt_of_lt_of_le f62.lt (Nat.le_of_eq g64.symm)
  have b67 : n0 ≤ o64 := Nat.le_trans s58 (Nat.le_of_eq g64.symm)
  have z68 : h0.size ≤ o64 := Nat.le_trans K63.1 (Nat.le_of_eq g64.symm)
  have f69 := own_FL.ext E64 f59
  have f70 := Exa.ext E64 f60
  have f71 := Sta.ext E64 f61
  have f72 := f62.ext E64
  have K73 := K63.ext E64
  have s74 : n0 ≤ h64.size := Nat.le_trans s58 E64.1
  show own_E p e below _ (T64.setTop (mkF m 19 #[.val (.ref a1)] [(.ref o64), (.ref a1)]))
  obtain ⟨T75, h75, X75, e75, W75, st75⟩ := putF X64 hx hZ hown (host := "") (Or.inl (own_w hw 34 rfl)) Via.refl e64 (show Fld Z h64 a1 "com/example/holdfast/holdfast/dom/CompactDocument" "parents" "[I" .null from own_FLg f69 3 (by decide) rfl) f70 (Or.inl (own_w hw 35 rfl)) (own_w hw 13 rfl) (ty := (.array .int)) (by decide) rfl rfl (g := (mkF m 19 #[.val (.ref a1)] [(.ref o64), (.ref a1)])) rfl rfl (hb hby od_121_1_19)
  have N75 := Fr.snoc X75 N57 g1
  have s76 : n0 ≤ h75.size := Nat.le_trans s74 (Keep.of_wr W75).1
  have f77 := own_FL.wr hw f69 3 (by decide) W75
  have f78 := Exa.wr W75 f70
  have f79 := Sta.wr W75 f71
  have f80 := f72.other W75 (Ne.symm (Nat.ne_of_lt lt49))
  have f81 := A64.other W75 (Ne.symm (Nat.ne_of_lt lt65))
  have K82 := K73.wr W75 (Or.inl (by simp))
  refine own_s st75 ?_
  show own_E p e below _ (T75.setTop (mkF m 22 #[.val (.ref a1)] []))
  refine own_g (mkF m 23 #[.val (.ref a1)] [(.ref a1)]) (fun _ kz => XS.aloadN X75.here hx rfl (hb hby od_121_1_22) rfl rfl kz) ?_
  refine own_g (mkF m 25 #[.val (.ref a1)] [(.int (64 : Int32)), (.ref a1)]) (fun _ kz => XS.bipush X75.here hx rfl (hb hby od_121_1_23) kz) ?_
  refine own_newI X75 hx hZ e75 (own_w hw 33 rfl) rfl (hb hby od_121_1_25) (by decide) (n := 64) rfl 64 (by decide) (by decide) (by decide) (by decide) ?_
  intro T83 h83 o83 g83 X83 e83 E83 A83
  have lt84 : a1 < o83 := Nat.lt_of_lt_of_le f77.lt (Nat.le_of_eq g83.symm)
  have lt85 : o48 < o83 := Nat.lt_of_lt_of_le f80.lt (Nat.le_of_eq g83.symm)
  have lt86 : o64 < o83 := Nat.lt_of_lt_of_le f81.lt (Nat.le_of_eq g83.symm)
  have b87 : n0 ≤ o83 := Nat.le_trans s76 (Nat.le_of_eq g83.symm)
  have z88 : h0.size ≤ o83 := Nat.le_trans K82.1 (Nat.le_of_eq g83.symm)
  have f89 := own_FL.ext E83 f77
  have f90 := Exa.ext E83 f78
  have f91 := Sta.ext E83 f79
  have f92 := f80.ext E83
  have f93 := f81.ext E83
  have K94 := K82.ext E83
  have s95 : n0 ≤ h83.size := Nat.le_trans s76 E83.1
  show own_E p e below _ (T83.setTop (mkF m 27 #[.val (.ref a1)] [(.ref o83), (.ref a1)]))
  obtain ⟨T96, h96, X96, e96, W96, st96⟩ := putF X83 hx hZ hown (host := "") (Or.inl (own_w hw 36 rfl)) Via.refl e83 (show Fld Z h83 a1 "com/example/holdfast/holdfast/dom/CompactDocument" "firsts" "[I" .null from own_FLg f89 4 (by decide) rfl) f90 (Or.inl (own_w hw 37 rfl)) (own_w hw 13 rfl) (ty := (.array .int)) (by decide) rfl rfl (g := (mkF m 27 #[.val (.ref a1)] [(.ref o83), (.ref a1)])) rfl rfl (hb hby od_121_1_27)
  have N96 := Fr.snoc X96 N75 g1
  have s97 : n0 ≤ h96.size := Nat.le_trans s95 (Keep.of_wr W96).1
  have f98 := own_FL.wr hw f89 4 (by decide) W96
  have f99 := Exa.wr W96 f90
  have f100 := Sta.wr W96 f91
  have f101 := f92.other W96 (Ne.symm (Nat.ne_of_lt lt49))
  have f102 := f93.other W96 (Ne.symm (Nat.ne_of_lt lt65))
  have f103 := A83.other W96 (Ne.symm (Nat.ne_of_lt lt84))
  have K104 := K94.wr W96 (Or.inl (by simp))
  refine own_s st96 ?_
  show own_E p e below _ (T96.setTop (mkF m 30 #[.val (.ref a1)] []))
  refine own_g (mkF m 31 #[.val (.ref a1)] [(.ref a1)]) (fun _ kz => XS.aloadN X96.here hx rfl (hb hby od_121_1_30) rfl rfl kz) ?_
  refine own_g (mkF m 33 #[.val (.ref a1)] [(.int (64 : Int32)), (.ref a1)]) (fun _ kz => XS.bipush X96.here hx rfl (hb hby od_121_1_31) kz) ?_
  refine own_newI X96 hx hZ e96 (own_w hw 33 rfl) rfl (hb hby od_121_1_33) (by decide) (n := 64) rfl 64 (by decide) (by decide) (by decide) (by decide) ?_
  intro T105 h105 o105 g105 X105 e105 E105 A105
  have lt106 : a1 < o105 := Nat.lt_of_lt_of_le f98.lt (Nat.le_of_eq g105.symm)
  have lt107 : o48 < o105 := Nat.lt_of_lt_of_le f101.lt (Nat.le_of_eq g105.symm)
  have lt108 : o64 < o105 := Nat.lt_of_lt_of_le f102.lt (Nat.le_of_eq g105.symm)
  have lt109 : o83 < o105 := Nat.lt_of_lt_of_le f103.lt (Nat.le_of_eq g105.symm)
  have b110 : n0 ≤ o105 := Nat.le_trans s97 (Nat.le_of_eq g105.symm)
  have z111 : h0.size ≤ o105 := Nat.le_trans K104.1 (Nat.le_of_eq g105.symm)
  have f112 := own_FL.ext E105 f98
  have f113 := Exa.ext E105 f99
  have f114 := Sta.ext E105 f100
  have f115 := f101.ext E105
  have f116 := f102.ext E105
  have f117 := f103.ext E105
  have K118 := K104.ext E105
  have s119 : n0 ≤ h105.size := Nat.le_trans s97 E105.1
  show own_E p e below _ (T105.setTop (mkF m 35 #[.val (.ref a1)] [(.ref o105), (.ref a1)]))
  obtain ⟨T120, h120, X120, e120, W120, st120⟩ := putF X105 hx hZ hown (host := "") (Or.inl (own_w hw 38 rfl)) Via.refl e105 (show Fld Z h105 a1 "com/example/holdfast/holdfast/dom/CompactDocument" "lasts" "[I" .null from own_FLg f112 5 (by decide) rfl) f113 (Or.inl (own_w hw 39 rfl)) (own_w hw 13 rfl) (ty := (.array .int)) (by decide) rfl rfl (g := (mkF m 35 #[.val (.ref a1)] [(.ref o105), (.ref a1)])) rfl rfl (hb hby od_121_1_35)
  have N120 := Fr.snoc X120 N96 g1
  have s121 : n0 ≤ h120.size := Nat.le_trans s119 (Keep.of_wr W120).1
  have f122 := own_FL.wr hw f112 5 (by decide) W120
  have f123 := Exa.wr W120 f113
  have f124 := Sta.wr W120 f114
  have f125 := f115.other W120 (Ne.symm (Nat.ne_of_lt lt49))
  have f126 := f116.other W120 (Ne.symm (Nat.ne_of_lt lt65))
  have f127 := f117.other W120 (Ne.symm (Nat.ne_of_lt lt84))
  have f128 := A105.other W120 (Ne.symm (Nat.ne_of_lt lt106))
  have K129 := K118.wr W120 (Or.inl (by simp))
  refine own_s st120 ?_
  show own_E p e below _ (T120.setTop (mkF m 38 #[.val (.ref a1)] []))
  refine own_g (mkF m 39 #[.val (.ref a1)] [(.ref a1)]) (fun _ kz => XS.aloadN X120.here hx rfl (hb hby od_121_1_38) rfl rfl kz) ?_
  refine own_g (mkF m 41 #[.val (.ref a1)] [(.int (64 : Int32)), (.ref a1)]) (fun _ kz => XS.bipush X120.here hx rfl (hb hby od_121_1_39) kz) ?_
  refine own_newI X120 hx hZ e120 (own_w hw 33 rfl) rfl (hb hby od_121_1_41) (by decide) (n := 64) rfl 64 (by decide) (by decide) (by decide) (by decide) ?_
  intro T130 h130 o130 g130 X130 e130 E130 A130
  have lt131 : a1 < o130 := Nat.lt_of_lt_of_le f122.lt (Nat.le_of_eq g130.symm)
  have lt132 : o48 < o130 := Nat.lt_of_lt_of_le f125.lt (Nat.le_of_eq g130.symm)
  have lt133 : o64 < o130 := Nat.lt_of_lt_of_le f126.lt (Nat.le_of_eq g130.symm)
  have lt134 : o83 < o130 := Nat.lt_of_lt_of_le f127.lt (Nat.le_of_eq g130.symm)
  have lt135 : o105 < o130 := Nat.lt_of_lt_of_le f128.lt (Nat.le_of_eq g130.symm)
  have b136 : n0 ≤ o130 := Nat.le_trans s121 (Nat.le_of_eq g130.symm)
  have z137 : h0.size ≤ o130 := Nat.le_trans K129.1 (Nat.le_of_eq g130.symm)
  have f138 := own_FL.ext E130 f122
  have f139 := Exa.ext E130 f123
  have f140 := Sta.ext E130 f124
  have f141 := f125.ext E130
  have f142 := f126.ext E130
  have f143 := f127.ext E130
  have f144 := f128.ext E130
  have K145 := K129.ext E130
  have s146 : n0 ≤ h130.size := Nat.le_trans s121 E130.1
  show own_E p e below _ (T130.setTop (mkF m 43 #[.val (.ref a1)] [(.ref o130), (.ref a1)]))
  obtain ⟨T147, h147, X147, e147, W147, st147⟩ := putF X130 hx hZ hown (host := "") (Or.inl (own_w hw 40 rfl)) Via.refl e130 (show Fld Z h130 a1 "com/example/holdfast/holdfast/dom/CompactDocument" "nexts" "[I" .null from own_FLg f138 6 (by decide) rfl) f139 (Or.inl (own_w hw 41 rfl)) (own_w hw 13 rfl) (ty := (.array .int)) (by decide) rfl rfl (g := (mkF m 43 #[.val (.ref a1)] [(.ref o130), (.ref a1)])) rfl rfl (hb hby od_121_1_43)
  have N147 := Fr.snoc X147 N120 g1
  have s148 : n0 ≤ h147.size := Nat.le_trans s146 (Keep.of_wr W147).1
  have f149 := own_FL.wr hw f138 6 (by decide) W147
  have f150 := Exa.wr W147 f139
  have f151 := Sta.wr W147 f140
  have f152 := f141.other W147 (Ne.symm (Nat.ne_of_lt lt49))
  have f153 := f142.other W147 (Ne.symm (Nat.ne_of_lt lt65))
  have f154 := f143.other W147 (Ne.symm (Nat.ne_of_lt lt84))
  have f155 := f144.other W147 (Ne.symm (Nat.ne_of_lt lt106))
  have f156 := A130.other W147 (Ne.symm (Nat.ne_of_lt lt131))
  have K157 := K145.wr W147 (Or.inl (by simp))
  refine own_s st147 ?_
  show own_E p e below _ (T147.setTop (mkF m 46 #[.val (.ref a1)] []))
  refine own_g (mkF m 47 #[.val (.ref a1)] [(.ref a1)]) (fun _ kz => XS.aloadN X147.here hx rfl (hb hby od_121_1_46) rfl rfl kz) ?_
  refine own_g (mkF m 49 #[.val (.ref a1)] [(.int (64 : Int32)), (.ref a1)]) (fun _ kz => XS.bipush X147.here hx rfl (hb hby od_121_1_47) kz) ?_
  refine own_newI X147 hx hZ e147 (own_w hw 33 rfl) rfl (hb hby od_121_1_49) (by decide) (n := 64) rfl 64 (by decide) (by decide) (by decide) (by decide) ?_
  intro T158 h158 o158 g158 X158 e158 E158 A158
  have lt159 : a1 < o158 := Nat.lt_of_lt_of_le f149.lt (Nat.le_of_eq g158.symm)
  have lt160 : o48 < o158 := Nat.lt_of_lt_of_le f152.lt (Nat.le_of_eq g158.symm)
  have lt161 : o64 < o158 := Nat.lt_of_lt_of_le f153.lt (Nat.le_of_eq g158.symm)
  have lt162 : o83 < o158 := Nat.lt_of_lt_of_le f154.lt (Nat.le_of_eq g158.symm)
  have lt163 : o105 < o158 := Nat.lt_of_lt_of_le f155.lt (Nat.le_of_eq g158.symm)
  have lt164 : o130 < o158 := Nat.lt_of_lt_of_le f156.lt (Nat.le_of_eq g158.symm)
  have b165 : n0 ≤ o158 := Nat.le_trans s148 (Nat.le_of_eq g158.symm)
  have z166 : h0.size ≤ o158 := Nat.le_trans K157.1 (Nat.le_of_eq g158.symm)
  have f167 := own_FL.ext E158 f149
  have f168 := Exa.ext E158 f150
  have f169 := Sta.ext E158 f151
  have f170 := f152.ext E158
  have f171 := f153.ext E158
  have f172 := f154.ext E158
  have f173 := f155.ext E158
  have f174 := f156.ext E158
  have K175 := K157.ext E158
  have s176 : n0 ≤ h158.size := Nat.le_trans s148 E158.1
  show own_E p e below _ (T158.setTop (mkF m 51 #[.val (.ref a1)] [(.ref o158), (.ref a1)]))
  obtain ⟨T177, h177, X177, e177, W177, st177⟩ := putF X158 hx hZ hown (host := "") (Or.inl (own_w hw 42 rfl)) Via.refl e158 (show Fld Z h158 a1 "com/example/holdfast/holdfast/dom/CompactDocument" "previouses" "[I" .null from own_FLg f167 7 (by decide) rfl) f168 (Or.inl (own_w hw 43 rfl)) (own_w hw 13 rfl) (ty := (.array .int)) (by decide) rfl rfl (g := (mkF m 51 #[.val (.ref a1)] [(.ref o158), (.ref a1)])) rfl rfl (hb hby od_121_1_51)
  have N177 := Fr.snoc X177 N147 g1
  have s178 : n0 ≤ h177.size := Nat.le_trans s176 (Keep.of_wr W177).1
  have f179 := own_FL.wr hw f167 7 (by decide) W177
  have f180 := Exa.wr W177 f168
  have f181 := Sta.wr W177 f169
  have f182 := f170.other W177 (Ne.symm (Nat.ne_of_lt lt49))
  have f183 := f171.other W177 (Ne.symm (Nat.ne_of_lt lt65))
  have f184 := f172.other W177 (Ne.symm (Nat.ne_of_lt lt84))
  have f185 := f173.other W177 (Ne.symm (Nat.ne_of_lt lt106))
  have f186 := f174.other W177 (Ne.symm (Nat.ne_of_lt lt131))
  have f187 := A158.other W177 (Ne.symm (Nat.ne_of_lt lt159))
  have K188 := K175.wr W177 (Or.inl (by simp))
  refine own_s st177 ?_
  show own_E p e below _ (T177.setTop (mkF m 54 #[.val (.ref a1)] []))
  refine own_g (mkF m 55 #[.val (.ref a1)] [(.ref a1)]) (fun _ kz => XS.aloadN X177.here hx rfl (hb hby od_121_1_54) rfl rfl kz) ?_
  refine own_g (mkF m 57 #[.val (.ref a1)] [(.int (64 : Int32)), (.ref a1)]) (fun _ kz => XS.bipush X177.here hx rfl (hb hby od_121_1_55) kz) ?_
  refine own_newI X177 hx hZ e177 (own_w hw 33 rfl) rfl (hb hby od_121_1_57) (by decide) (n := 64) rfl 64 (by decide) (by decide) (by decide) (by decide) ?_
  intro T189 h189 o189 g189 X189 e189 E189 A189
  have lt190 : a1 < o189 := Nat.lt_of_lt_of_le f179.lt (Nat.le_of_eq g189.symm)
  have lt191 : o48 < o189 := Nat.lt_of_lt_of_le f182.lt (Nat.le_of_eq g189.symm)
  have lt192 : o64 < o189 := Nat.lt_of_lt_of_le f183.lt (Nat.le_of_eq g189.symm)
  have lt193 : o83 < o189 := Nat.lt_of_lt_of_le f184.lt (Nat.le_of_eq g189.symm)
  have lt194 : o105 < o189 := Nat.lt_of_lt_of_le f185.lt (Nat.le_of_eq g189.symm)
  have lt195 : o130 < o189 := Nat.lt_of_lt_of_le f186.lt (Nat.le_of_eq g189.symm)
  have lt196 : o158 < o189 := Nat.lt_of_lt_of_le f187.lt (Nat.le_of_eq g189.symm)
  have b197 : n0 ≤ o189 := Nat.le_trans s178 (Nat.le_of_eq g189.symm)
  have z198 : h0.size ≤ o189 := Nat.le_trans K188.1 (Nat.le_of_eq g189.symm)
  have f199 := own_FL.ext E189 f179
  have f200 := Exa.ext E189 f180
  have f201 := Sta.ext E189 f181
  have f202 := f182.ext E189
  have f203 := f183.ext E189
  have f204 := f184.ext E189
  have f205 := f185.ext E189
  have f206 := f186.ext E189
  have f207 := f187.ext E189
  have K208 := K188.ext E189
  have s209 : n0 ≤ h189.size := Nat.le_trans s178 E189.1
  show own_E p e below _ (T189.setTop (mkF m 59 #[.val (.ref a1)] [(.ref o189), (.ref a1)]))
  obtain ⟨T210, h210, X210, e210, W210, st210⟩ := putF X189 hx hZ hown (host := "") (Or.inl (own_w hw 44 rfl)) Via.refl e189 (show Fld Z h189 a1 "com/example/holdfast/holdfast/dom/CompactDocument" "names" "[I" .null from own_FLg f199 8 (by decide) rfl) f200 (Or.inl (own_w hw 45 rfl)) (own_w hw 13 rfl) (ty := (.array .int)) (by decide) rfl rfl (g := (mkF m 59 #[.val (.ref a1)] [(.ref o189), (.ref a1)])) rfl rfl (hb hby od_121_1_59)
  have N210 := Fr.snoc X210 N177 g1
  have s211 : n0 ≤ h210.size := Nat.le_trans s209 (Keep.of_wr W210).1
  have f212 := own_FL.wr hw f199 8 (by decide) W210
  have f213 := Exa.wr W210 f200
  have f214 := Sta.wr W210 f201
  have f215 := f202.other W210 (Ne.symm (Nat.ne_of_lt lt49))
  have f216 := f203.other W210 (Ne.symm (Nat.ne_of_lt lt65))
  have f217 := f204.other W210 (Ne.symm (Nat.ne_of_lt lt84))
  have f218 := f205.other W210 (Ne.symm (Nat.ne_of_lt lt106))
  have f219 := f206.other W210 (Ne.symm (Nat.ne_of_lt lt131))
  have f220 := f207.other W210 (Ne.symm (Nat.ne_of_lt lt159))
  have f221 := A189.other W210 (Ne.symm (Nat.ne_of_lt lt190))
  have K222 := K208.wr W210 (Or.inl (by simp))
  refine own_s st210 ?_
  show own_E p e below _ (T210.setTop (mkF m 62 #[.val (.ref a1)] []))
  refine own_g (mkF m 63 #[.val (.ref a1)] [(.ref a1)]) (fun _ kz => XS.aloadN X210.here hx rfl (hb hby od_121_1_62) rfl rfl kz) ?_
  refine own_g (mkF m 65 #[.val (.ref a1)] [(.int (64 : Int32)), (.ref a1)]) (fun _ kz => XS.bipush X210.here hx rfl (hb hby od_121_1_63) kz) ?_
  refine own_newI X210 hx hZ e210 (own_w hw 30 rfl) rfl (hb hby od_121_1_65) (by decide) (n := 64) rfl 64 (by decide) (by decide) (by decide) (by decide) ?_
  intro T223 h223 o223 g223 X223 e223 E223 A223
  have lt224 : a1 < o223 := Nat.lt_of_lt_of_le f212.lt (Nat.le_of_eq g223.symm)
  have lt225 : o48 < o223 := Nat.lt_of_lt_of_le f215.lt (Nat.le_of_eq g223.symm)
  have lt226 : o64 < o223 := Nat.lt_of_lt_of_le f216.lt (Nat.le_of_eq g223.symm)
  have lt227 : o83 < o223 := Nat.lt_of_lt_of_le f217.lt (Nat.le_of_eq g223.symm)
  have lt228 : o105 < o223 := Nat.lt_of_lt_of_le f218.lt (Nat.le_of_eq g223.symm)
  have lt229 : o130 < o223 := Nat.lt_of_lt_of_le f219.lt (Nat.le_of_eq g223.symm)
  have lt230 : o158 < o223 := Nat.lt_of_lt_of_le f220.lt (Nat.le_of_eq g223.symm)
  have lt231 : o189 < o223 := Nat.lt_of_lt_of_le f221.lt (Nat.le_of_eq g223.symm)
  have b232 : n0 ≤ o223 := Nat.le_trans s211 (Nat.le_of_eq g223.symm)
  have z233 : h0.size ≤ o223 := Nat.le_trans K222.1 (Nat.le_of_eq g223.symm)
  have f234 := own_FL.ext E223 f212
  have f235 := Exa.ext E223 f213
  have f236 := Sta.ext E223 f214
  have f237 := f215.ext E223
  have f238 := f216.ext E223
  have f239 := f217.ext E223
  have f240 := f218.ext E223
  have f241 := f219.ext E223
  have f242 := f220.ext E223
  have f243 := f221.ext E223
  have K244 := K222.ext E223
  have s245 : n0 ≤ h223.size := Nat.le_trans s211 E223.1
  show own_E p e below _ (T223.setTop (mkF m 67 #[.val (.ref a1)] [(.ref o223), (.ref a1)]))
  obtain ⟨T246, h246, X246, e246, W246, st246⟩ := putF X223 hx hZ hown (host := "") (Or.inl (own_w hw 46 rfl)) Via.refl e223 (show Fld Z h223 a1 "com/example/holdfast/holdfast/dom/CompactDocument" "flags" "[B" .null from own_FLg f234 9 (by decide) rfl) f235 (Or.inl (own_w hw 47 rfl)) (own_w hw 13 rfl) (ty := (.array .byte)) (by decide) rfl rfl (g := (mkF m 67 #[.val (.ref a1)] [(.ref o223), (.ref a1)])) rfl rfl (hb hby od_121_1_67)
  have N246 := Fr.snoc X246 N210 g1
  have s247 : n0 ≤ h246.size := Nat.le_trans s245 (Keep.of_wr W246).1
  have f248 := own_FL.wr hw f234 9 (by decide) W246
  have f249 := Exa.wr W246 f235
  have f250 := Sta.wr W246 f236
  have f251 := f237.other W246 (Ne.symm (Nat.ne_of_lt lt49))
  have f252 := f238.other W246 (Ne.symm (Nat.ne_of_lt lt65))
  have f253 := f239.other W246 (Ne.symm (Nat.ne_of_lt lt84))
  have f254 := f240.other W246 (Ne.symm (Nat.ne_of_lt lt106))
  have f255 := f241.other W246 (Ne.symm (Nat.ne_of_lt lt131))
  have f256 := f242.other W246 (Ne.symm (Nat.ne_of_lt lt159))
  have f257 := f243.other W246 (Ne.symm (Nat.ne_of_lt lt190))
  have f258 := A223.other W246 (Ne.symm (Nat.ne_of_lt lt224))
  have K259 := K244.wr W246 (Or.inl (by simp))
  refine own_s st246 ?_
  show own_E p e below _ (T246.setTop (mkF m 70 #[.val (.ref a1)] []))
  refine own_g (mkF m 71 #[.val (.ref a1)] [(.ref a1)]) (fun _ kz => XS.aloadN X246.here hx rfl (hb hby od_121_1_70) rfl rfl kz) ?_
  refine own_g (mkF m 73 #[.val (.ref a1)] [(.int (64 : Int32)), (.ref a1)]) (fun _ kz => XS.bipush X246.here hx rfl (hb hby od_121_1_71) kz) ?_
  refine own_newI X246 hx hZ e246 (own_w hw 33 rfl) rfl (hb hby od_121_1_73) (by decide) (n := 64) rfl 64 (by decide) (by decide) (by decide) (by decide) ?_
  intro T260 h260 o260 g260 X260 e260 E260 A260
  have lt261 : a1 < o260 := Nat.lt_of_lt_of_le f248.lt (Nat.le_of_eq g260.symm)
  have lt262 : o48 < o260 := Nat.lt_of_lt_of_le f251.lt (Nat.le_of_eq g260.symm)
  have lt263 : o64 < o260 := Nat.lt_of_lt_of_le f252.lt (Nat.le_of_eq g260.symm)
  have lt264 : o83 < o260 := Nat.lt_of_lt_of_le f253.lt (Nat.le_of_eq g260.symm)
  have lt265 : o105 < o260 := Nat.lt_of_lt_of_le f254.lt (Nat.le_of_eq g260.symm)
  have lt266 : o130 < o260 := Nat.lt_of_lt_of_le f255.lt (Nat.le_of_eq g260.symm)
  have lt267 : o158 < o260 := Nat.lt_of_lt_of_le f256.lt (Nat.le_of_eq g260.symm)
  have lt268 : o189 < o260 := Nat.lt_of_lt_of_le f257.lt (Nat.le_of_eq g260.symm)
  have lt269 : o223 < o260 := Nat.lt_of_lt_of_le f258.lt (Nat.le_of_eq g260.symm)
  have b270 : n0 ≤ o260 := Nat.le_trans s247 (Nat.le_of_eq g260.symm)
  have z271 : h0.size ≤ o260 := Nat.le_trans K259.1 (Nat.le_of_eq g260.symm)
  have f272 := own_FL.ext E260 f248
  have f273 := Exa.ext E260 f249
  have f274 := Sta.ext E260 f250
  have f275 := f251.ext E260
  have f276 := f252.ext E260
  have f277 := f253.ext E260
  have f278 := f254.ext E260
  have f279 := f255.ext E260
  have f280 := f256.ext E260
  have f281 := f257.ext E260
  have f282 := f258.ext E260
  have K283 := K259.ext E260
  have s284 : n0 ≤ h260.size := Nat.le_trans s247 E260.1
  show own_E p e below _ (T260.setTop (mkF m 75 #[.val (.ref a1)] [(.ref o260), (.ref a1)]))
  obtain ⟨T285, h285, X285, e285, W285, st285⟩ := putF X260 hx hZ hown (host := "") (Or.inl (own_w hw 48 rfl)) Via.refl e260 (show Fld Z h260 a1 "com/example/holdfast/holdfast/dom/CompactDocument" "dataStarts" "[I" .null from own_FLg f272 10 (by decide) rfl) f273 (Or.inl (own_w hw 49 rfl)) (own_w hw 13 rfl) (ty := (.array .int)) (by decide) rfl rfl (g := (mkF m 75 #[.val (.ref a1)] [(.ref o260), (.ref a1)])) rfl rfl (hb hby od_121_1_75)
  have N285 := Fr.snoc X285 N246 g1
  have s286 : n0 ≤ h285.size := Nat.le_trans s284 (Keep.of_wr W285).1
  have f287 := own_FL.wr hw f272 10 (by decide) W285
  have f288 := Exa.wr W285 f273
  have f289 := Sta.wr W285 f274
  have f290 := f275.other W285 (Ne.symm (Nat.ne_of_lt lt49))
  have f291 := f276.other W285 (Ne.symm (Nat.ne_of_lt lt65))
  have f292 := f277.other W285 (Ne.symm (Nat.ne_of_lt lt84))
  have f293 := f278.other W285 (Ne.symm (Nat.ne_of_lt lt106))
  have f294 := f279.other W285 (Ne.symm (Nat.ne_of_lt lt131))
  have f295 := f280.other W285 (Ne.symm (Nat.ne_of_lt lt159))
  have f296 := f281.other W285 (Ne.symm (Nat.ne_of_lt lt190))
  have f297 := f282.other W285 (Ne.symm (Nat.ne_of_lt lt224))
  have f298 := A260.other W285 (Ne.symm (Nat.ne_of_lt lt261))
  have K299 := K283.wr W285 (Or.inl (by simp))
  refine own_s st285 ?_
  show own_E p e below _ (T285.setTop (mkF m 78 #[.val (.ref a1)] []))
  refine own_g (mkF m 79 #[.val (.ref a1)] [(.ref a1)]) (fun _ kz => XS.aloadN X285.here hx rfl (hb hby od_121_1_78) rfl rfl kz) ?_
  refine own_g (mkF m 81 #[.val (.ref a1)] [(.int (64 : Int32)), (.ref a1)]) (fun _ kz => XS.bipush X285.here hx rfl (hb hby od_121_1_79) kz) ?_
  refine own_newI X285 hx hZ e285 (own_w hw 33 rfl) rfl (hb hby od_121_1_81) (by decide) (n := 64) rfl 64 (by decide) (by decide) (by decide) (by decide) ?_
  intro T300 h300 o300 g300 X300 e300 E300 A300
  have lt301 : a1 < o300 := Nat.lt_of_lt_of_le f287.lt (Nat.le_of_eq g300.symm)
  have lt302 : o48 < o300 := Nat.lt_of_lt_of_le f290.lt (Nat.le_of_eq g300.symm)
  have lt303 : o64 < o300 := Nat.lt_of_lt_of_le f291.lt (Nat.le_of_eq g300.symm)
  have lt304 : o83 < o300 := Nat.lt_of_lt_of_le f292.lt (Nat.le_of_eq g300.symm)
  have lt305 : o105 < o300 := Nat.lt_of_lt_of_le f293.lt (Nat.le_of_eq g300.symm)
  have lt306 : o130 < o300 := Nat.lt_of_lt_of_le f294.lt (Nat.le_of_eq g300.symm)
  have lt307 : o158 < o300 := Nat.lt_of_lt_of_le f295.lt (Nat.le_of_eq g300.symm)
  have lt308 : o189 < o300 := Nat.lt_of_lt_of_le f296.lt (Nat.le_of_eq g300.symm)
  have lt309 : o223 < o300 := Nat.lt_of_lt_of_le f297.lt (Nat.le_of_eq g300.symm)
  have lt310 : o260 < o300 := Nat.lt_of_lt_of_le f298.lt (Nat.le_of_eq g300.symm)
  have b311 : n0 ≤ o300 := Nat.le_trans s286 (Nat.le_of_eq g300.symm)
  have z312 : h0.size ≤ o300 := Nat.le_trans K299.1 (Nat.le_of_eq g300.symm)
  have f313 := own_FL.ext E300 f287
  have f314 := Exa.ext E300 f288
  have f315 := Sta.ext E300 f289
  have f316 := f290.ext E300
  have f317 := f291.ext E300
  have f318 := f292.ext E300
  have f319 := f293.ext E300
  have f320 := f294.ext E300
  have f321 := f295.ext E300
  have f322 := f296.ext E300
  have f323 := f297.ext E300
  have f324 := f298.ext E300
  have K325 := K299.ext E300
  have s326 : n0 ≤ h300.size := Nat.le_trans s286 E300.1
  show own_E p e below _ (T300.setTop (mkF m 83 #[.val (.ref a1)] [(.ref o300), (.ref a1)]))
  obtain ⟨T327, h327, X327, e327, W327, st327⟩ := putF X300 hx hZ hown (host := "") (Or.inl (own_w hw 50 rfl)) Via.refl e300 (show Fld Z h300 a1 "com/example/holdfast/holdfast/dom/CompactDocument" "dataLengths" "[I" .null from own_FLg f313 11 (by decide) rfl) f314 (Or.inl (own_w hw 51 rfl)) (own_w hw 13 rfl) (ty := (.array .int)) (by decide) rfl rfl (g := (mkF m 83 #[.val (.ref a1)] [(.ref o300), (.ref a1)])) rfl rfl (hb hby od_121_1_83)
  have N327 := Fr.snoc X327 N285 g1
  have s328 : n0 ≤ h327.size := Nat.le_trans s326 (Keep.of_wr W327).1
  have f329 := own_FL.wr hw f313 11 (by decide) W327
  have f330 := Exa.wr W327 f314
  have f331 := Sta.wr W327 f315
  have f332 := f316.other W327 (Ne.symm (Nat.ne_of_lt lt49))
  have f333 := f317.other W327 (Ne.symm (Nat.ne_of_lt lt65))
  have f334 := f318.other W327 (Ne.symm (Nat.ne_of_lt lt84))
  have f335 := f319.other W327 (Ne.symm (Nat.ne_of_lt lt106))
  have f336 := f320.other W327 (Ne.symm (Nat.ne_of_lt lt131))
  have f337 := f321.other W327 (Ne.symm (Nat.ne_of_lt lt159))
  have f338 := f322.other W327 (Ne.symm (Nat.ne_of_lt lt190))
  have f339 := f323.other W327 (Ne.symm (Nat.ne_of_lt lt224))
  have f340 := f324.other W327 (Ne.symm (Nat.ne_of_lt lt261))
  have f341 := A300.other W327 (Ne.symm (Nat.ne_of_lt lt301))
  have K342 := K325.wr W327 (Or.inl (by simp))
  refine own_s st327 ?_
  show own_E p e below _ (T327.setTop (mkF m 86 #[.val (.ref a1)] []))
  refine own_g (mkF m 87 #[.val (.ref a1)] [(.ref a1)]) (fun _ kz => XS.aloadN X327.here hx rfl (hb hby od_121_1_86) rfl rfl kz) ?_
  refine own_g (mkF m 89 #[.val (.ref a1)] [(.int (64 : Int32)), (.ref a1)]) (fun _ kz => XS.bipush X327.here hx rfl (hb hby od_121_1_87) kz) ?_
  obtain ⟨T343, h343, k343, X343, e343, E343, A343, O343, st343⟩ := newR X327 hx hZ hown (own_w hw 52 rfl) (own_w hw 53 rfl) e327 (g := (mkF m 89 #[.val (.ref a1)] [(.int (64 : Int32)), (.ref a1)])) rfl (hb hby od_121_1_89) rfl (by decide) (cap := 64) (by decide) (by decide) (by decide) (by decide)
  obtain ⟨o343, g343⟩ : ∃ z, z = h327.size := ⟨_, rfl⟩
  rw [← g343] at A343 st343
  have lt344 : a1 < o343 := Nat.lt_of_lt_of_le f329.lt (Nat.le_of_eq g343.symm)
  have lt345 : o48 < o343 := Nat.lt_of_lt_of_le f332.lt (Nat.le_of_eq g343.symm)
  have lt346 : o64 < o343 := Nat.lt_of_lt_of_le f333.lt (Nat.le_of_eq g343.symm)
  have lt347 : o83 < o343 := Nat.lt_of_lt_of_le f334.lt (Nat.le_of_eq g343.symm)
  have lt348 : o105 < o343 := Nat.lt_of_lt_of_le f335.lt (Nat.le_of_eq g343.symm)
  have lt349 : o130 < o343 := Nat.lt_of_lt_of_le f336.lt (Nat.le_of_eq g343.symm)
  have lt350 : o158 < o343 := Nat.lt_of_lt_of_le f337.lt (Nat.le_of_eq g343.symm)
  have lt351 : o189 < o343 := Nat.lt_of_lt_of_le f338.lt (Nat.le_of_eq g343.symm)
  have lt352 : o223 < o343 := Nat.lt_of_lt_of_le f339.lt (Nat.le_of_eq g343.symm)
  have lt353 : o260 < o343 := Nat.lt_of_lt_of_le f340.lt (Nat.le_of_eq g343.symm)
  have lt354 : o300 < o343 := Nat.lt_of_lt_of_le f341.lt (Nat.le_of_eq g343.symm)
  have b355 : n0 ≤ o343 := Nat.le_trans s328 (Nat.le_of_eq g343.symm)
  have z356 : h0.size ≤ o343 := Nat.le_trans K342.1 (Nat.le_of_eq g343.symm)
  have f357 := own_FL.ext E343 f329
  have f358 := Exa.ext E343 f330
  have f359 := Sta.ext E343 f331
  have f360 := f332.ext E343
  have f361 := f333.ext E343
  have f362 := f334.ext E343
  have f363 := f335.ext E343
  have f364 := f336.ext E343
  have f365 := f337.ext E343
  have f366 := f338.ext E343
  have f367 := f339.ext E343
  have f368 := f340.ext E343
  have f369 := f341.ext E343
  have K370 := K342.ext E343
  have s371 : n0 ≤ h343.size := Nat.le_trans s328 E343.1
  refine own_s st343 ?_
  show own_E p e below _ (T343.setTop (mkF m 92 #[.val (.ref a1)] [(.ref o343), (.ref a1)]))
  obtain ⟨T372, h372, X372, e372, W372, st372⟩ := putF X343 hx hZ hown (host := "") (Or.inl (own_w hw 54 rfl)) Via.refl e343 (show Fld Z h343 a1 "com/example/holdfast/holdfast/dom/CompactDocument" "handles" "[Lcom/example/holdfast/holdfast/dom/CompactNode;" .null from own_FLg f357 12 (by decide) rfl) f358 (Or.inl (own_w hw 55 rfl)) (own_w hw 13 rfl) (ty := (.array (.object "com/example/holdfast/holdfast/dom/CompactNode"))) (by decide) rfl rfl (g := (mkF m 92 #[.val (.ref a1)] [(.ref o343), (.ref a1)])) rfl rfl (hb hby od_121_1_92)
  have N372 := Fr.snoc X372 N327 g1
  have s373 : n0 ≤ h372.size := Nat.le_trans s371 (Keep.of_wr W372).1
  have f374 := own_FL.wr hw f357 12 (by decide) W372
  have f375 := Arr.other W372 A343 (Ne.symm (Nat.ne_of_lt lt344))
  have f376 := Exa.wr W372 f358
  have f377 := Sta.wr W372 f359
  have f378 := f360.other W372 (Ne.symm (Nat.ne_of_lt lt49))
  have f379 := f361.other W372 (Ne.symm (Nat.ne_of_lt lt65))
  have f380 := f362.other W372 (Ne.symm (Nat.ne_of_lt lt84))
  have f381 := f363.other W372 (Ne.symm (Nat.ne_of_lt lt106))
  have f382 := f364.other W372 (Ne.symm (Nat.ne_of_lt lt131))
  have f383 := f365.other W372 (Ne.symm (Nat.ne_of_lt lt159))
  have f384 := f366.other W372 (Ne.symm (Nat.ne_of_lt lt190))
  have f385 := f367.other W372 (Ne.symm (Nat.ne_of_lt lt224))
  have f386 := f368.other W372 (Ne.symm (Nat.ne_of_lt lt261))
  have f387 := f369.other W372 (Ne.symm (Nat.ne_of_lt lt301))
  have K388 := K370.wr W372 (Or.inl (by simp))
  refine own_s st372 ?_
  show own_E p e below _ (T372.setTop (mkF m 95 #[.val (.ref a1)] []))
  refine own_g (mkF m 96 #[.val (.ref a1)] [(.ref a1)]) (fun _ kz => XS.aloadN X372.here hx rfl (hb hby od_121_1_95) rfl rfl kz) ?_
  obtain ⟨T389, h389, X389, e389, E389, A389, D389, -, st389⟩ := newO X372 hx hZ hown (own_w hw 56 rfl) (own_w hw 57 rfl) (own_w hw 58 rfl) e372 (g := (mkF m 96 #[.val (.ref a1)] [(.ref a1)])) rfl (hb hby od_121_1_96) (by decide) (by decide)
  obtain ⟨o389, g389⟩ : ∃ z, z = h372.size := ⟨_, rfl⟩
  rw [← g389] at A389 D389 st389
  have lt390 : a1 < o389 := Nat.lt_of_lt_of_le f374.lt (Nat.le_of_eq g389.symm)
  have lt391 : o48 < o389 := Nat.lt_of_lt_of_le f378.lt (Nat.le_of_eq g389.symm)
  have lt392 : o64 < o389 := Nat.lt_of_lt_of_le f379.lt (Nat.le_of_eq g389.symm)
  have lt393 : o83 < o389 := Nat.lt_of_lt_of_le f380.lt (Nat.le_of_eq g389.symm)
  have lt394 : o105 < o389 := Nat.lt_of_lt_of_le f381.lt (Nat.le_of_eq g389.symm)
  have lt395 : o130 < o389 := Nat.lt_of_lt_of_le f382.lt (Nat.le_of_eq g389.symm)
  have lt396 : o158 < o389 := Nat.lt_of_lt_of_le f383.lt (Nat.le_of_eq g389.symm)
  have lt397 : o189 < o389 := Nat.lt_of_lt_of_le f384.lt (Nat.le_of_eq g389.symm)
  have lt398 : o223 < o389 := Nat.lt_of_lt_of_le f385.lt (Nat.le_of_eq g389.symm)
  have lt399 : o260 < o389 := Nat.lt_of_lt_of_le f386.lt (Nat.le_of_eq g389.symm)
  have lt400 : o300 < o389 := Nat.lt_of_lt_of_le f387.lt (Nat.le_of_eq g389.symm)
  have lt401 : o343 < o389 := Nat.lt_of_lt_of_le f375.lt (Nat.le_of_eq g389.symm)
  have b402 : n0 ≤ o389 := Nat.le_trans s373 (Nat.le_of_eq g389.symm)
  have z403 : h0.size ≤ o389 := Nat.le_trans K388.1 (Nat.le_of_eq g389.symm)
  have f404 := own_FL.ext E389 f374
  have f405 := Arr.ext E389 f375
  have f406 := Exa.ext E389 f376
  have f407 := Sta.ext E389 f377
  have f408 := f378.ext E389
  have f409 := f379.ext E389
  have f410 := f380.ext E389
  have f411 := f381.ext E389
  have f412 := f382.ext E389
  have f413 := f383.ext E389
  have f414 := f384.ext E389
  have f415 := f385.ext E389
  have f416 := f386.ext E389
  have f417 := f387.ext E389
  have K418 := K388.ext E389
  have s419 : n0 ≤ h389.size := Nat.le_trans s373 E389.1
  refine own_s st389 ?_
  show own_E p e below _ (T389.setTop (mkF m 99 #[.val (.ref a1)] [(.ref o389), (.ref a1)]))
  refine own_g (mkF m 100 #[.val (.ref a1)] [(.ref o389), (.ref o389), (.ref a1)]) (fun _ kz => XS.dup X389.here hx rfl (hb hby od_121_1_99) rfl rfl kz) ?_
  obtain ⟨T420, X420, e420, st420⟩ := initO X389 hx hZ hown (own_w hw 59 rfl) (own_w hw 10 rfl) (own_w hw 11 rfl) e389 (g := (mkF m 100 #[.val (.ref a1)] [(.ref o389), (.ref o389), (.ref a1)])) rfl (by rw [hml]; rfl) rfl (hb hby od_121_1_100) (by decide) (W := 2) (by show 2 * 0 + _ ≤ _; exact Nat.le_of_eq rfl) (by decide)
  refine own_s st420 ?_
  show own_E p e below _ (T420.setTop (mkF m 103 #[.val (.ref a1)] [(.ref o389), (.ref a1)]))
  obtain ⟨T421, h421, X421, e421, W421, st421⟩ := putF X420 hx hZ hown (host := "") (Or.inl (own_w hw 60 rfl)) Via.refl e420 (show Fld Z h389 a1 "com/example/holdfast/holdfast/dom/CompactDocument" "making" "Ljava/lang/Object;" .null from own_FLg f404 13 (by decide) rfl) f406 (Or.inr ⟨(own_w hw 61 rfl), rfl, hnm⟩) (own_w hw 13 rfl) (ty := (.object "java/lang/Object")) (by decide) rfl rfl (g := (mkF m 103 #[.val (.ref a1)] [(.ref o389), (.ref a1)])) rfl rfl (hb hby od_121_1_103)
  have N421 := Fr.snoc X421 N372 g1
  have s422 : n0 ≤ h421.size := Nat.le_trans s419 (Keep.of_wr W421).1
  have f423 := own_FL.wr hw f404 13 (by decide) W421
  have f424 := Arr.other W421 f405 (Ne.symm (Nat.ne_of_lt lt344))
  have f425 := Exa.wr W421 f406
  have f426 := Sta.wr W421 f407
  have f427 := f408.other W421 (Ne.symm (Nat.ne_of_lt lt49))
  have f428 := f409.other W421 (Ne.symm (Nat.ne_of_lt lt65))
  have f429 := f410.other W421 (Ne.symm (Nat.ne_of_lt lt84))
  have f430 := f411.other W421 (Ne.symm (Nat.ne_of_lt lt106))
  have f431 := f412.other W421 (Ne.symm (Nat.ne_of_lt lt131))
  have f432 := f413.other W421 (Ne.symm (Nat.ne_of_lt lt159))
  have f433 := f414.other W421 (Ne.symm (Nat.ne_of_lt lt190))
  have f434 := f415.other W421 (Ne.symm (Nat.ne_of_lt lt224))
  have f435 := f416.other W421 (Ne.symm (Nat.ne_of_lt lt261))
  have f436 := f417.other W421 (Ne.symm (Nat.ne_of_lt lt301))
  have K437 := K418.wr W421 (Or.inl (by simp))
  refine own_s st421 ?_
  show own_E p e below _ (T421.setTop (mkF m 106 #[.val (.ref a1)] []))
  refine own_g (mkF m 107 #[.val (.ref a1)] [(.ref a1)]) (fun _ kz => XS.aloadN X421.here hx rfl (hb hby od_121_1_106) rfl rfl kz) ?_
  refine own_g (mkF m 110 #[.val (.ref a1)] [(.int (1024 : Int32)), (.ref a1)]) (fun _ kz => XS.sipush X421.here hx rfl (hb hby od_121_1_107) kz) ?_
  refine own_newI X421 hx hZ e421 (own_w hw 62 rfl) rfl (hb hby od_121_1_110) (by decide) (n := 1024) rfl 1024 (by decide) (by decide) (by decide) (by decide) ?_
  intro T438 h438 o438 g438 X438 e438 E438 A438
  have lt439 : a1 < o438 := Nat.lt_of_lt_of_le f423.lt (Nat.le_of_eq g438.symm)
  have lt440 : o48 < o438 := Nat.lt_of_lt_of_le f427.lt (Nat.le_of_eq g438.symm)
  have lt441 : o64 < o438 := Nat.lt_of_lt_of_le f428.lt (Nat.le_of_eq g438.symm)
  have lt442 : o83 < o438 := Nat.lt_of_lt_of_le f429.lt (Nat.le_of_eq g438.symm)
  have lt443 : o105 < o438 := Nat.lt_of_lt_of_le f430.lt (Nat.le_of_eq g438.symm)
  have lt444 : o130 < o438 := Nat.lt_of_lt_of_le f431.lt (Nat.le_of_eq g438.symm)
  have lt445 : o158 < o438 := Nat.lt_of_lt_of_le f432.lt (Nat.le_of_eq g438.symm)
  have lt446 : o189 < o438 := Nat.lt_of_lt_of_le f433.lt (Nat.le_of_eq g438.symm)
  have lt447 : o223 < o438 := Nat.lt_of_lt_of_le f434.lt (Nat.le_of_eq g438.symm)
  have lt448 : o260 < o438 := Nat.lt_of_lt_of_le f435.lt (Nat.le_of_eq g438.symm)
  have lt449 : o300 < o438 := Nat.lt_of_lt_of_le f436.lt (Nat.le_of_eq g438.symm)
  have lt450 : o343 < o438 := Nat.lt_of_lt_of_le f424.lt (Nat.le_of_eq g438.symm)
  have b451 : n0 ≤ o438 := Nat.le_trans s422 (Nat.le_of_eq g438.symm)
  have z452 : h0.size ≤ o438 := Nat.le_trans K437.1 (Nat.le_of_eq g438.symm)
  have f453 := own_FL.ext E438 f423
  have f454 := Arr.ext E438 f424
  have f455 := Exa.ext E438 f425
  have f456 := Sta.ext E438 f426
  have f457 := f427.ext E438
  have f458 := f428.ext E438
  have f459 := f429.ext E438
  have f460 := f430.ext E438
  have f461 := f431.ext E438
  have f462 := f432.ext E438
  have f463 := f433.ext E438
  have f464 := f434.ext E438
  have f465 := f435.ext E438
  have f466 := f436.ext E438
  have K467 := K437.ext E438
  have s468 : n0 ≤ h438.size := Nat.le_trans s422 E438.1
  show own_E p e below _ (T438.setTop (mkF m 112 #[.val (.ref a1)] [(.ref o438), (.ref a1)]))
  obtain ⟨T469, h469, X469, e469, W469, st469⟩ := putF X438 hx hZ hown (host := "") (Or.inl (own_w hw 63 rfl)) Via.refl e438 (show Fld Z h438 a1 "com/example/holdfast/holdfast/dom/CompactDocument" "chars" "[C" .null from own_FLg f453 14 (by decide) rfl) f455 (Or.inl (own_w hw 64 rfl)) (own_w hw 13 rfl) (ty := (.array .char)) (by decide) rfl rfl (g := (mkF m 112 #[.val (.ref a1)] [(.ref o438), (.ref a1)])) rfl rfl (hb hby od_121_1_112)
  have N469 := Fr.snoc X469 N421 g1
  have s470 : n0 ≤ h469.size := Nat.le_trans s468 (Keep.of_wr W469).1
  have f471 := own_FL.wr hw f453 14 (by decide) W469
  have f472 := Arr.other W469 f454 (Ne.symm (Nat.ne_of_lt lt344))
  have f473 := Exa.wr W469 f455
  have f474 := Sta.wr W469 f456
  have f475 := f457.other W469 (Ne.symm (Nat.ne_of_lt lt49))
  have f476 := f458.other W469 (Ne.symm (Nat.ne_of_lt lt65))
  have f477 := f459.other W469 (Ne.symm (Nat.ne_of_lt lt84))
  have f478 := f460.other W469 (Ne.symm (Nat.ne_of_lt lt106))
  have f479 := f461.other W469 (Ne.symm (Nat.ne_of_lt lt131))
  have f480 := f462.other W469 (Ne.symm (Nat.ne_of_lt lt159))
  have f481 := f463.other W469 (Ne.symm (Nat.ne_of_lt lt190))
  have f482 := f464.other W469 (Ne.symm (Nat.ne_of_lt lt224))
  have f483 := f465.other W469 (Ne.symm (Nat.ne_of_lt lt261))
  have f484 := f466.other W469 (Ne.symm (Nat.ne_of_lt lt301))
  have K485 := K467.wr W469 (Or.inl (by simp))
  refine own_s st469 ?_
  show own_E p e below _ (T469.setTop (mkF m 115 #[.val (.ref a1)] []))
  refine own_g (mkF m 116 #[.val (.ref a1)] [(.ref a1)]) (fun _ kz => XS.aloadN X469.here hx rfl (hb hby od_121_1_115) rfl rfl kz) ?_
  refine own_g (mkF m 118 #[.val (.ref a1)] [(.int (64 : Int32)), (.ref a1)]) (fun _ kz => XS.bipush X469.here hx rfl (hb hby od_121_1_116) kz) ?_
  refine own_newI X469 hx hZ e469 (own_w hw 33 rfl) rfl (hb hby od_121_1_118) (by decide) (n := 64) rfl 64 (by decide) (by decide) (by decide) (by decide) ?_
  intro T486 h486 o486 g486 X486 e486 E486 A486
  have lt487 : a1 < o486 := Nat.lt_of_lt_of_le f471.lt (Nat.le_of_eq g486.symm)
  have lt488 : o48 < o486 := Nat.lt_of_lt_of_le f475.lt (Nat.le_of_eq g486.symm)
  have lt489 : o64 < o486 := Nat.lt_of_lt_of_le f476.lt (Nat.le_of_eq g486.symm)
  have lt490 : o83 < o486 := Nat.lt_of_lt_of_le f477.lt (Nat.le_of_eq g486.symm)
  have lt491 : o105 < o486 := Nat.lt_of_lt_of_le f478.lt (Nat.le_of_eq g486.symm)
  have lt492 : o130 < o486 := Nat.lt_of_lt_of_le f479.lt (Nat.le_of_eq g486.symm)
  have lt493 : o158 < o486 := Nat.lt_of_lt_of_le f480.lt (Nat.le_of_eq g486.symm)
  have lt494 : o189 < o486 := Nat.lt_of_lt_of_le f481.lt (Nat.le_of_eq g486.symm)
  have lt495 : o223 < o486 := Nat.lt_of_lt_of_le f482.lt (Nat.le_of_eq g486.symm)
  have lt496 : o260 < o486 := Nat.lt_of_lt_of_le f483.lt (Nat.le_of_eq g486.symm)
  have lt497 : o300 < o486 := Nat.lt_of_lt_of_le f484.lt (Nat.le_of_eq g486.symm)
  have lt498 : o343 < o486 := Nat.lt_of_lt_of_le f472.lt (Nat.le_of_eq g486.symm)
  have b499 : n0 ≤ o486 := Nat.le_trans s470 (Nat.le_of_eq g486.symm)
  have z500 : h0.size ≤ o486 := Nat.le_trans K485.1 (Nat.le_of_eq g486.symm)
  have f501 := own_FL.ext E486 f471
  have f502 := Arr.ext E486 f472
  have f503 := Exa.ext E486 f473
  have f504 := Sta.ext E486 f474
  have f505 := f475.ext E486
  have f506 := f476.ext E486
  have f507 := f477.ext E486
  have f508 := f478.ext E486
  have f509 := f479.ext E486
  have f510 := f480.ext E486
  have f511 := f481.ext E486
  have f512 := f482.ext E486
  have f513 := f483.ext E486
  have f514 := f484.ext E486
  have K515 := K485.ext E486
  have s516 : n0 ≤ h486.size := Nat.le_trans s470 E486.1
  show own_E p e below _ (T486.setTop (mkF m 120 #[.val (.ref a1)] [(.ref o486), (.ref a1)]))
  obtain ⟨T517, h517, X517, e517, W517, st517⟩ := putF X486 hx hZ hown (host := "") (Or.inl (own_w hw 65 rfl)) Via.refl e486 (show Fld Z h486 a1 "com/example/holdfast/holdfast/dom/CompactDocument" "attributeNames" "[I" .null from own_FLg f501 15 (by decide) rfl) f503 (Or.inl (own_w hw 66 rfl)) (own_w hw 13 rfl) (ty := (.array .int)) (by decide) rfl rfl (g := (mkF m 120 #[.val (.ref a1)] [(.ref o486), (.ref a1)])) rfl rfl (hb hby od_121_1_120)
  have N517 := Fr.snoc X517 N469 g1
  have s518 : n0 ≤ h517.size := Nat.le_trans s516 (Keep.of_wr W517).1
  have f519 := own_FL.wr hw f501 15 (by decide) W517
  have f520 := Arr.other W517 f502 (Ne.symm (Nat.ne_of_lt lt344))
  have f521 := Exa.wr W517 f503
  have f522 := Sta.wr W517 f504
  have f523 := f505.other W517 (Ne.symm (Nat.ne_of_lt lt49))
  have f524 := f506.other W517 (Ne.symm (Nat.ne_of_lt lt65))
  have f525 := f507.other W517 (Ne.symm (Nat.ne_of_lt lt84))
  have f526 := f508.other W517 (Ne.symm (Nat.ne_of_lt lt106))
  have f527 := f509.other W517 (Ne.symm (Nat.ne_of_lt lt131))
  have f528 := f510.other W517 (Ne.symm (Nat.ne_of_lt lt159))
  have f529 := f511.other W517 (Ne.symm (Nat.ne_of_lt lt190))
  have f530 := f512.other W517 (Ne.symm (Nat.ne_of_lt lt224))
  have f531 := f513.other W517 (Ne.symm (Nat.ne_of_lt lt261))
  have f532 := f514.other W517 (Ne.symm (Nat.ne_of_lt lt301))
  have K533 := K515.wr W517 (Or.inl (by simp))
  refine own_s st517 ?_
  show own_E p e below _ (T517.setTop (mkF m 123 #[.val (.ref a1)] []))
  refine own_g (mkF m 124 #[.val (.ref a1)] [(.ref a1)]) (fun _ kz => XS.aloadN X517.here hx rfl (hb hby od_121_1_123) rfl rfl kz) ?_
  refine own_g (mkF m 126 #[.val (.ref a1)] [(.int (64 : Int32)), (.ref a1)]) (fun _ kz => XS.bipush X517.here hx rfl (hb hby od_121_1_124) kz) ?_
  refine own_newI X517 hx hZ e517 (own_w hw 33 rfl) rfl (hb hby od_121_1_126) (by decide) (n := 64) rfl 64 (by decide) (by decide) (by decide) (by decide) ?_
  intro T534 h534 o534 g534 X534 e534 E534 A534
  have lt535 : a1 < o534 := Nat.lt_of_lt_of_le f519.lt (Nat.le_of_eq g534.symm)
  have lt536 : o48 < o534 := Nat.lt_of_lt_of_le f523.lt (Nat.le_of_eq g534.symm)
  have lt537 : o64 < o534 := Nat.lt_of_lt_of_le f524.lt (Nat.le_of_eq g534.symm)
  have lt538 : o83 < o534 := Nat.lt_of_lt_of_le f525.lt (Nat.le_of_eq g534.symm)
  have lt539 : o105 < o534 := Nat.lt_of_lt_of_le f526.lt (Nat.le_of_eq g534.symm)
  have lt540 : o130 < o534 := Nat.lt_of_lt_of_le f527.lt (Nat.le_of_eq g534.symm)
  have lt541 : o158 < o534 := Nat.lt_of_lt_of_le f528.lt (Nat.le_of_eq g534.symm)
  have lt542 : o189 < o534 := Nat.lt_of_lt_of_le f529.lt (Nat.le_of_eq g534.symm)
  have lt543 : o223 < o534 := Nat.lt_of_lt_of_le f530.lt (Nat.le_of_eq g534.symm)
  have lt544 : o260 < o534 := Nat.lt_of_lt_of_le f531.lt (Nat.le_of_eq g534.symm)
  have lt545 : o300 < o534 := Nat.lt_of_lt_of_le f532.lt (Nat.le_of_eq g534.symm)
  have lt546 : o343 < o534 := Nat.lt_of_lt_of_le f520.lt (Nat.le_of_eq g534.symm)
  have b547 : n0 ≤ o534 := Nat.le_trans s518 (Nat.le_of_eq g534.symm)
  have z548 : h0.size ≤ o534 := Nat.le_trans K533.1 (Nat.le_of_eq g534.symm)
  have f549 := own_FL.ext E534 f519
  have f550 := Arr.ext E534 f520
  have f551 := Exa.ext E534 f521
  have f552 := Sta.ext E534 f522
  have f553 := f523.ext E534
  have f554 := f524.ext E534
  have f555 := f525.ext E534
  have f556 := f526.ext E534
  have f557 := f527.ext E534
  have f558 := f528.ext E534
  have f559 := f529.ext E534
  have f560 := f530.ext E534
  have f561 := f531.ext E534
  have f562 := f532.ext E534
  have K563 := K533.ext E534
  have s564 : n0 ≤ h534.size := Nat.le_trans s518 E534.1
  show own_E p e below _ (T534.setTop (mkF m 128 #[.val (.ref a1)] [(.ref o534), (.ref a1)]))
  obtain ⟨T565, h565, X565, e565, W565, st565⟩ := putF X534 hx hZ hown (host := "") (Or.inl (own_w hw 67 rfl)) Via.refl e534 (show Fld Z h534 a1 "com/example/holdfast/holdfast/dom/CompactDocument" "attributeValueStarts" "[I" .null from own_FLg f549 16 (by decide) rfl) f551 (Or.inl (own_w hw 68 rfl)) (own_w hw 13 rfl) (ty := (.array .int)) (by decide) rfl rfl (g := (mkF m 128 #[.val (.ref a1)] [(.ref o534), (.ref a1)])) rfl rfl (hb hby od_121_1_128)
  have N565 := Fr.snoc X565 N517 g1
  have s566 : n0 ≤ h565.size := Nat.le_trans s564 (Keep.of_wr W565).1
  have f567 := own_FL.wr hw f549 16 (by decide) W565
  have f568 := Arr.other W565 f550 (Ne.symm (Nat.ne_of_lt lt344))
  have f569 := Exa.wr W565 f551
  have f570 := Sta.wr W565 f552
  have f571 := f553.other W565 (Ne.symm (Nat.ne_of_lt lt49))
  have f572 := f554.other W565 (Ne.symm (Nat.ne_of_lt lt65))
  have f573 := f555.other W565 (Ne.symm (Nat.ne_of_lt lt84))
  have f574 := f556.other W565 (Ne.symm (Nat.ne_of_lt lt106))
  have f575 := f557.other W565 (Ne.symm (Nat.ne_of_lt lt131))
  have f576 := f558.other W565 (Ne.symm (Nat.ne_of_lt lt159))
  have f577 := f559.other W565 (Ne.symm (Nat.ne_of_lt lt190))
  have f578 := f560.other W565 (Ne.symm (Nat.ne_of_lt lt224))
  have f579 := f561.other W565 (Ne.symm (Nat.ne_of_lt lt261))
  have f580 := f562.other W565 (Ne.symm (Nat.ne_of_lt lt301))
  have K581 := K563.wr W565 (Or.inl (by simp))
  refine own_s st565 ?_
  show own_E p e below _ (T565.setTop (mkF m 131 #[.val (.ref a1)] []))
  refine own_g (mkF m 132 #[.val (.ref a1)] [(.ref a1)]) (fun _ kz => XS.aloadN X565.here hx rfl (hb hby od_121_1_131) rfl rfl kz) ?_
  refine own_g (mkF m 134 #[.val (.ref a1)] [(.int (64 : Int32)), (.ref a1)]) (fun _ kz => XS.bipush X565.here hx rfl (hb hby od_121_1_132) kz) ?_
  refine own_newI X565 hx hZ e565 (own_w hw 33 rfl) rfl (hb hby od_121_1_134) (by decide) (n := 64) rfl 64 (by decide) (by decide) (by decide) (by decide) ?_
  intro T582 h582 o582 g582 X582 e582 E582 A582
  have lt583 : a1 < o582 := Nat.lt_of_lt_of_le f567.lt (Nat.le_of_eq g582.symm)
  have lt584 : o48 < o582 := Nat.lt_of_lt_of_le f571.lt (Nat.le_of_eq g582.symm)
  have lt585 : o64 < o582 := Nat.lt_of_lt_of_le f572.lt (Nat.le_of_eq g582.symm)
  have lt586 : o83 < o582 := Nat.lt_of_lt_of_le f573.lt (Nat.le_of_eq g582.symm)
  have lt587 : o105 < o582 := Nat.lt_of_lt_of_le f574.lt (Nat.le_of_eq g582.symm)
  have lt588 : o130 < o582 := Nat.lt_of_lt_of_le f575.lt (Nat.le_of_eq g582.symm)
  have lt589 : o158 < o582 := Nat.lt_of_lt_of_le f576.lt (Nat.le_of_eq g582.symm)
  have lt590 : o189 < o582 := Nat.lt_of_lt_of_le f577.lt (Nat.le_of_eq g582.symm)
  have lt591 : o223 < o582 := Nat.lt_of_lt_of_le f578.lt (Nat.le_of_eq g582.symm)
  have lt592 : o260 < o582 := Nat.lt_of_lt_of_le f579.lt (Nat.le_of_eq g582.symm)
  have lt593 : o300 < o582 := Nat.lt_of_lt_of_le f580.lt (Nat.le_of_eq g582.symm)
  have lt594 : o343 < o582 := Nat.lt_of_lt_of_le f568.lt (Nat.le_of_eq g582.symm)
  have b595 : n0 ≤ o582 := Nat.le_trans s566 (Nat.le_of_eq g582.symm)
  have z596 : h0.size ≤ o582 := Nat.le_trans K581.1 (Nat.le_of_eq g582.symm)
  have f597 := own_FL.ext E582 f567
  have f598 := Arr.ext E582 f568
  have f599 := Exa.ext E582 f569
  have f600 := Sta.ext E582 f570
  have f601 := f571.ext E582
  have f602 := f572.ext E582
  have f603 := f573.ext E582
  have f604 := f574.ext E582
  have f605 := f575.ext E582
  have f606 := f576.ext E582
  have f607 := f577.ext E582
  have f608 := f578.ext E582
  have f609 := f579.ext E582
  have f610 := f580.ext E582
  have K611 := K581.ext E582
  have s612 : n0 ≤ h582.size := Nat.le_trans s566 E582.1
  show own_E p e below _ (T582.setTop (mkF m 136 #[.val (.ref a1)] [(.ref o582), (.ref a1)]))
  obtain ⟨T613, h613, X613, e613, W613, st613⟩ := putF X582 hx hZ hown (host := "") (Or.inl (own_w hw 69 rfl)) Via.refl e582 (show Fld Z h582 a1 "com/example/holdfast/holdfast/dom/CompactDocument" "attributeValueLengths" "[I" .null from own_FLg f597 17 (by decide) rfl) f599 (Or.inl (own_w hw 70 rfl)) (own_w hw 13 rfl) (ty := (.array .int)) (by decide) rfl rfl (g := (mkF m 136 #[.val (.ref a1)] [(.ref o582), (.ref a1)])) rfl rfl (hb hby od_121_1_136)
  have N613 := Fr.snoc X613 N565 g1
  have s614 : n0 ≤ h613.size := Nat.le_trans s612 (Keep.of_wr W613).1
  have f615 := own_FL.wr hw f597 17 (by decide) W613
  have f616 := Arr.other W613 f598 (Ne.symm (Nat.ne_of_lt lt344))
  have f617 := Exa.wr W613 f599
  have f618 := Sta.wr W613 f600
  have f619 := f601.other W613 (Ne.symm (Nat.ne_of_lt lt49))
  have f620 := f602.other W613 (Ne.symm (Nat.ne_of_lt lt65))
  have f621 := f603.other W613 (Ne.symm (Nat.ne_of_lt lt84))
  have f622 := f604.other W613 (Ne.symm (Nat.ne_of_lt lt106))
  have f623 := f605.other W613 (Ne.symm (Nat.ne_of_lt lt131))
  have f624 := f606.other W613 (Ne.symm (Nat.ne_of_lt lt159))
  have f625 := f607.other W613 (Ne.symm (Nat.ne_of_lt lt190))
  have f626 := f608.other W613 (Ne.symm (Nat.ne_of_lt lt224))
  have f627 := f609.other W613 (Ne.symm (Nat.ne_of_lt lt261))
  have f628 := f610.other W613 (Ne.symm (Nat.ne_of_lt lt301))
  have K629 := K611.wr W613 (Or.inl (by simp))
  refine own_s st613 ?_
  show own_E p e below _ (T613.setTop (mkF m 139 #[.val (.ref a1)] []))
  refine own_g (mkF m 140 #[.val (.ref a1)] [(.ref a1)]) (fun _ kz => XS.aloadN X613.here hx rfl (hb hby od_121_1_139) rfl rfl kz) ?_
  refine own_g (mkF m 142 #[.val (.ref a1)] [(.int (16 : Int32)), (.ref a1)]) (fun _ kz => XS.bipush X613.here hx rfl (hb hby od_121_1_140) kz) ?_
  obtain ⟨T630, h630, k630, X630, e630, E630, A630, O630, st630⟩ := newR X613 hx hZ hown (own_w hw 71 rfl) (own_w hw 72 rfl) e613 (g := (mkF m 142 #[.val (.ref a1)] [(.int (16 : Int32)), (.ref a1)])) rfl (hb hby od_121_1_142) rfl (by decide) (cap := 16) (by decide) (by decide) (by decide) (by decide)
  obtain ⟨o630, g630⟩ : ∃ z, z = h613.size := ⟨_, rfl⟩
  rw [← g630] at A630 st630
  have lt631 : a1 < o630 := Nat.lt_of_lt_of_le f615.lt (Nat.le_of_eq g630.symm)
  have lt632 : o48 < o630 := Nat.lt_of_lt_of_le f619.lt (Nat.le_of_eq g630.symm)
  have lt633 : o64 < o630 := Nat.lt_of_lt_of_le f620.lt (Nat.le_of_eq g630.symm)
  have lt634 : o83 < o630 := Nat.lt_of_lt_of_le f621.lt (Nat.le_of_eq g630.symm)
  have lt635 : o105 < o630 := Nat.lt_of_lt_of_le f622.lt (Nat.le_of_eq g630.symm)
  have lt636 : o130 < o630 := Nat.lt_of_lt_of_le f623.lt (Nat.le_of_eq g630.symm)
  have lt637 : o158 < o630 := Nat.lt_of_lt_of_le f624.lt (Nat.le_of_eq g630.symm)
  have lt638 : o189 < o630 := Nat.lt_of_lt_of_le f625.lt (Nat.le_of_eq g630.symm)
  have lt639 : o223 < o630 := Nat.lt_of_lt_of_le f626.lt (Nat.le_of_eq g630.symm)
  have lt640 : o260 < o630 := Nat.lt_of_lt_of_le f627.lt (Nat.le_of_eq g630.symm)
  have lt641 : o300 < o630 := Nat.lt_of_lt_of_le f628.lt (Nat.le_of_eq g630.symm)
  have lt642 : o343 < o630 := Nat.lt_of_lt_of_le f616.lt (Nat.le_of_eq g630.symm)
  have b643 : n0 ≤ o630 := Nat.le_trans s614 (Nat.le_of_eq g630.symm)
  have z644 : h0.size ≤ o630 := Nat.le_trans K629.1 (Nat.le_of_eq g630.symm)
  have f645 := own_FL.ext E630 f615
  have f646 := Arr.ext E630 f616
  have f647 := Exa.ext E630 f617
  have f648 := Sta.ext E630 f618
  have f649 := f619.ext E630
  have f650 := f620.ext E630
  have f651 := f621.ext E630
  have f652 := f622.ext E630
  have f653 := f623.ext E630
  have f654 := f624.ext E630
  have f655 := f625.ext E630
  have f656 := f626.ext E630
  have f657 := f627.ext E630
  have f658 := f628.ext E630
  have K659 := K629.ext E630
  have s660 : n0 ≤ h630.size := Nat.le_trans s614 E630.1
  refine own_s st630 ?_
  show own_E p e below _ (T630.setTop (mkF m 145 #[.val (.ref a1)] [(.ref o630), (.ref a1)]))
  obtain ⟨T661, h661, X661, e661, W661, st661⟩ := putF X630 hx hZ hown (host := "") (Or.inl (own_w hw 73 rfl)) Via.refl e630 (show Fld Z h630 a1 "com/example/holdfast/holdfast/dom/CompactDocument" "nameTable" "[Lcom/example/holdfast/holdfast/dom/CompactDocument$Name;" .null from own_FLg f645 18 (by decide) rfl) f647 (Or.inl (own_w hw 74 rfl)) (own_w hw 13 rfl) (ty := (.array (.object "com/example/holdfast/holdfast/dom/CompactDocument$Name"))) (by decide) rfl rfl (g := (mkF m 145 #[.val (.ref a1)] [(.ref o630), (.ref a1)])) rfl rfl (hb hby od_121_1_145)
  have N661 := Fr.snoc X661 N613 g1
  have s662 : n0 ≤ h661.size := Nat.le_trans s660 (Keep.of_wr W661).1
  have f663 := own_FL.wr hw f645 18 (by decide) W661
  have f664 := Arr.other W661 f646 (Ne.symm (Nat.ne_of_lt lt344))
  have f665 := Exa.wr W661 f647
  have f666 := Sta.wr W661 f648
  have f667 := f649.other W661 (Ne.symm (Nat.ne_of_lt lt49))
  have f668 := f650.other W661 (Ne.symm (Nat.ne_of_lt lt65))
  have f669 := f651.other W661 (Ne.symm (Nat.ne_of_lt lt84))
  have f670 := f652.other W661 (Ne.symm (Nat.ne_of_lt lt106))
  have f671 := f653.other W661 (Ne.symm (Nat.ne_of_lt lt131))
  have f672 := f654.other W661 (Ne.symm (Nat.ne_of_lt lt159))
  have f673 := f655.other W661 (Ne.symm (Nat.ne_of_lt lt190))
  have f674 := f656.other W661 (Ne.symm (Nat.ne_of_lt lt224))
  have f675 := f657.other W661 (Ne.symm (Nat.ne_of_lt lt261))
  have f676 := f658.other W661 (Ne.symm (Nat.ne_of_lt lt301))
  have K677 := K659.wr W661 (Or.inl (by simp))
  refine own_s st661 ?_
  show own_E p e below _ (T661.setTop (mkF m 148 #[.val (.ref a1)] []))
  refine own_g (mkF m 149 #[.val (.ref a1)] [(.ref a1)]) (fun _ kz => XS.aloadN X661.here hx rfl (hb hby od_121_1_148) rfl rfl kz) ?_
  obtain ⟨T678, h678, X678, e678, E678, A678, D678, -, st678⟩ := newO X661 hx hZ hown (own_w hw 75 rfl) (own_w hw 76 rfl) (own_w hw 77 rfl) e661 (g := (mkF m 149 #[.val (.ref a1)] [(.ref a1)])) rfl (hb hby od_121_1_149) (by decide) (by decide)
  obtain ⟨o678, g678⟩ : ∃ z, z = h661.size := ⟨_, rfl⟩
  rw [← g678] at A678 D678 st678
  have lt679 : a1 < o678 := Nat.lt_of_lt_of_le f663.lt (Nat.le_of_eq g678.symm)
  have lt680 : o48 < o678 := Nat.lt_of_lt_of_le f667.lt (Nat.le_of_eq g678.symm)
  have lt681 : o64 < o678 := Nat.lt_of_lt_of_le f668.lt (Nat.le_of_eq g678.symm)
  have lt682 : o83 < o678 := Nat.lt_of_lt_of_le f669.lt (Nat.le_of_eq g678.symm)
  have lt683 : o105 < o678 := Nat.lt_of_lt_of_le f670.lt (Nat.le_of_eq g678.symm)
  have lt684 : o130 < o678 := Nat.lt_of_lt_of_le f671.lt (Nat.le_of_eq g678.symm)
  have lt685 : o158 < o678 := Nat.lt_of_lt_of_le f672.lt (Nat.le_of_eq g678.symm)
  have lt686 : o189 < o678 := Nat.lt_of_lt_of_le f673.lt (Nat.le_of_eq g678.symm)
  have lt687 : o223 < o678 := Nat.lt_of_lt_of_le f674.lt (Nat.le_of_eq g678.symm)
  have lt688 : o260 < o678 := Nat.lt_of_lt_of_le f675.lt (Nat.le_of_eq g678.symm)
  have lt689 : o300 < o678 := Nat.lt_of_lt_of_le f676.lt (Nat.le_of_eq g678.symm)
  have lt690 : o343 < o678 := Nat.lt_of_lt_of_le f664.lt (Nat.le_of_eq g678.symm)
  have b691 : n0 ≤ o678 := Nat.le_trans s662 (Nat.le_of_eq g678.symm)
  have z692 : h0.size ≤ o678 := Nat.le_trans K677.1 (Nat.le_of_eq g678.symm)
  have f693 := own_FL.ext E678 f663
  have f694 := Arr.ext E678 f664
  have f695 := Exa.ext E678 f665
  have f696 := Sta.ext E678 f666
  have f697 := f667.ext E678
  have f698 := f668.ext E678
  have f699 := f669.ext E678
  have f700 := f670.ext E678
  have f701 := f671.ext E678
  have f702 := f672.ext E678
  have f703 := f673.ext E678
  have f704 := f674.ext E678
  have f705 := f675.ext E678
  have f706 := f676.ext E678
  have K707 := K677.ext E678
  have s708 : n0 ≤ h678.size := Nat.le_trans s662 E678.1
  have f709 : Fld Z h678 o678 "java/util/HashMap" "loadFactor" "F" (.float (0 : UInt32)) := D678 (Or.inr (own_w hw 90 rfl)) (ty := .float) (by decide)
  refine own_s st678 ?_
  show own_E p e below _ (T678.setTop (mkF m 152 #[.val (.ref a1)] [(.ref o678), (.ref a1)]))
  refine own_g (mkF m 153 #[.val (.ref a1)] [(.ref o678), (.ref o678), (.ref a1)]) (fun _ kz => XS.dup X678.here hx rfl (hb hby od_121_1_152) rfl rfl kz) ?_
  refine own_callI (rest := [(.ref o678), (.ref a1)]) (a := o678) (as := []) X678 hx hZ hown e678 (own_c_hm l Z a0 hw o678 h678 n0 s708 b691 A678 f709) rfl (own_w hw 78 rfl) (own_w hw 79 rfl) (own_w hw 77 rfl) (own_w hw 80 rfl) (by decide) own_pd0 rfl (by rw [hml]; rfl) rfl (hb hby od_121_1_153) 2 (by show 2 * 0 + _ ≤ _; exact Nat.le_of_eq rfl) (by decide) (by decide) (by decide) (by decide) ?_
  rintro _ T710 L710 X710 ⟨rfl, Nq710, K710q⟩
  have N710 := Fr.app N661 Nq710
  have f712 := own_staK f696 K710q (allS (own_plE A678) all0)
  have f713 := own_FL.keep f693 K710q (ninS (Nat.ne_of_lt lt679) nin0)
  have f714 := own_arrK f694 K710q (ninS (Nat.ne_of_lt lt690) nin0)
  have f715 := Exa.keep f695 K710q
  have f716 := own_IA.keep f697 K710q (ninS (Nat.ne_of_lt lt680) nin0)
  have f717 := own_IA.keep f698 K710q (ninS (Nat.ne_of_lt lt681) nin0)
  have f718 := own_IA.keep f699 K710q (ninS (Nat.ne_of_lt lt682) nin0)
  have f719 := own_IA.keep f700 K710q (ninS (Nat.ne_of_lt lt683) nin0)
  have f720 := own_IA.keep f701 K710q (ninS (Nat.ne_of_lt lt684) nin0)
  have f721 := own_IA.keep f702 K710q (ninS (Nat.ne_of_lt lt685) nin0)
  have f722 := own_IA.keep f703 K710q (ninS (Nat.ne_of_lt lt686) nin0)
  have f723 := own_IA.keep f704 K710q (ninS (Nat.ne_of_lt lt687) nin0)
  have f724 := own_IA.keep f705 K710q (ninS (Nat.ne_of_lt lt688) nin0)
  have f725 := own_IA.keep f706 K710q (ninS (Nat.ne_of_lt lt689) nin0)
  have f726 := Exa.keep A678 K710q
  have s728 : n0 ≤ T710.heap.size := Nat.le_trans s708 K710q.1
  have K729 := K707.trans K710q (allS (Or.inr z692) all0)
  show own_E p e below _ (T710.setTop (mkF m 156 #[.val (.ref a1)] [(.ref o678), (.ref a1)]))
  obtain ⟨T730, h730, X730, e730, W730, st730⟩ := putF X710 hx hZ hown (host := "") (Or.inl (own_w hw 91 rfl)) Via.refl rfl (show Fld Z T710.heap a1 "com/example/holdfast/holdfast/dom/CompactDocument" "nameIndex" "Ljava/util/Map;" .null from own_FLg f713 19 (by decide) rfl) f715 (Or.inr ⟨(own_w hw 92 rfl), rfl, hnm⟩) (own_w hw 13 rfl) (ty := (.object "java/util/Map")) (by decide) rfl rfl (g := (mkF m 156 #[.val (.ref a1)] [(.ref o678), (.ref a1)])) rfl rfl (hb hby od_121_1_156)
  have N730 := Fr.snoc X730 N710 g1
  have s731 : n0 ≤ h730.size := Nat.le_trans s728 (Keep.of_wr W730).1
  have f732 := own_FL.wr hw f713 19 (by decide) W730
  have f733 := Arr.other W730 f714 (Ne.symm (Nat.ne_of_lt lt344))
  have f734 := Exa.wr W730 f715
  have f735 := f716.other W730 (Ne.symm (Nat.ne_of_lt lt49))
  have f736 := f717.other W730 (Ne.symm (Nat.ne_of_lt lt65))
  have f737 := f718.other W730 (Ne.symm (Nat.ne_of_lt lt84))
  have f738 := f719.other W730 (Ne.symm (Nat.ne_of_lt lt106))
  have f739 := f720.other W730 (Ne.symm (Nat.ne_of_lt lt131))
  have f740 := f721.other W730 (Ne.symm (Nat.ne_of_lt lt159))
  have f741 := f722.other W730 (Ne.symm (Nat.ne_of_lt lt190))
  have f742 := f723.other W730 (Ne.symm (Nat.ne_of_lt lt224))
  have f743 := f724.other W730 (Ne.symm (Nat.ne_of_lt lt261))
  have f744 := f725.other W730 (Ne.symm (Nat.ne_of_lt lt301))
  have f745 := Sta.wr W730 f712
  have K746 := K729.wr W730 (Or.inl (by simp))
  refine own_s st730 ?_
  show own_E p e below _ (T730.setTop (mkF m 159 #[.val (.ref a1)] []))
  refine own_g (mkF m 160 #[.val (.ref a1)] [(.ref a1)]) (fun _ kz => XS.aloadN X730.here hx rfl (hb hby od_121_1_159) rfl rfl kz) ?_
  have wS : ∀ a ∈ Bundle.stringAtoms, a.before a0 Z = true := by
    intro a ha
    simp only [Bundle.stringAtoms, List.mem_cons, List.not_mem_nil, or_false] at ha
    rcases ha with rfl | rfl | rfl | rfl | rfl | rfl | rfl
    · exact (own_w hw 94 rfl)
    · exact (own_w hw 95 rfl)
    · exact (own_w hw 30 rfl)
    · exact (own_w hw 96 rfl)
    · exact (own_w hw 97 rfl)
    · exact (own_w hw 98 rfl)
    · exact (own_w hw 99 rfl)
  refine own_ldcS X730 hx hZ hown (own_w hw 93 rfl) wS e730 (hb hby od_121_1_160) 12 (by decide) (by decide) (by decide) (by decide) ?_
  intro o747 T747 h747 X747 e747 E747 hS747 hZ hown
  have f748 := own_FL.ext E747 f732
  have f749 := Arr.ext E747 f733
  have f750 := Exa.ext E747 f734
  have f751 := f735.ext E747
  have f752 := f736.ext E747
  have f753 := f737.ext E747
  have f754 := f738.ext E747
  have f755 := f739.ext E747
  have f756 := f740.ext E747
  have f757 := f741.ext E747
  have f758 := f742.ext E747
  have f759 := f743.ext E747
  have f760 := f744.ext E747
  have f761 := Sta.ext E747 f745
  have K762 := K746.ext E747
  have s763 : n0 ≤ h747.size := Nat.le_trans s731 E747.1
  show own_E p e below _ (T747.setTop (mkF m 162 #[.val (.ref a1)] [(.ref o747), (.ref a1)]))
  obtain ⟨T764, h764, X764, e764, W764, st764⟩ := putF X747 hx hZ hown (host := "") (Or.inl (own_w hw 100 rfl)) Via.refl e747 (show Fld Z h747 a1 "com/example/holdfast/holdfast/dom/CompactDocument" "xmlVersion" "Ljava/lang/String;" .null from own_FLg f748 20 (by decide) rfl) f750 (Or.inl (own_w hw 101 rfl)) (own_w hw 13 rfl) (ty := (.object "java/lang/String")) (by decide) rfl rfl (g := (mkF m 162 #[.val (.ref a1)] [(.ref o747), (.ref a1)])) rfl rfl (hb hby od_121_1_162)
  have N764 := Fr.snoc X764 N730 g1
  have s765 : n0 ≤ h764.size := Nat.le_trans s763 (Keep.of_wr W764).1
  have z766 : h747.size ≤ h764.size := Nat.le_trans (Nat.le_refl _) (Keep.of_wr W764).1
  have f767 := own_FL.wr hw f748 20 (by decide) W764
  have f768 := Arr.other W764 f749 (Ne.symm (Nat.ne_of_lt lt344))
  have f769 := Exa.wr W764 f750
  have f770 := f751.other W764 (Ne.symm (Nat.ne_of_lt lt49))
  have f771 := f752.other W764 (Ne.symm (Nat.ne_of_lt lt65))
  have f772 := f753.other W764 (Ne.symm (Nat.ne_of_lt lt84))
  have f773 := f754.other W764 (Ne.symm (Nat.ne_of_lt lt106))
  have f774 := f755.other W764 (Ne.symm (Nat.ne_of_lt lt131))
  have f775 := f756.other W764 (Ne.symm (Nat.ne_of_lt lt159))
  have f776 := f757.other W764 (Ne.symm (Nat.ne_of_lt lt190))
  have f777 := f758.other W764 (Ne.symm (Nat.ne_of_lt lt224))
  have f778 := f759.other W764 (Ne.symm (Nat.ne_of_lt lt261))
  have f779 := f760.other W764 (Ne.symm (Nat.ne_of_lt lt301))
  have f780 := Sta.wr W764 f761
  have K781 := K762.wr W764 (Or.inl (by simp))
  refine own_s st764 ?_
  show own_E p e below _ (T764.setTop (mkF m 165 #[.val (.ref a1)] []))
  refine own_g (mkF m 166 #[.val (.ref a1)] [(.ref a1)]) (fun _ kz => XS.aloadN X764.here hx rfl (hb hby od_121_1_165) rfl rfl kz) ?_
  refine own_g (mkF m 167 #[.val (.ref a1)] [(.int (1 : Int32)), (.ref a1)]) (fun _ kz => XS.iconst X764.here hx rfl (hb hby od_121_1_166) kz) ?_
  obtain ⟨T782, h782, X782, e782, W782, st782⟩ := putFN X764 hx hZ hown (own_w hw 102 rfl) Via.refl e764 (show Fld Z h764 a1 "com/example/holdfast/holdfast/dom/CompactDocument" "strictErrorChecking" "Z" (.int (0 : Int32)) from own_FLg f767 21 (by decide) rfl) f769 (Or.inl (own_w hw 103 rfl)) (own_w hw 13 rfl) (ty := .boolean) (v' := (.int (1 : Int32))) (by decide) rfl rfl (g := (mkF m 167 #[.val (.ref a1)] [(.int (1 : Int32)), (.ref a1)])) rfl rfl (hb hby od_121_1_167)
  have N782 := Fr.snoc X782 N764 g1
  have s783 : n0 ≤ h782.size := Nat.le_trans s765 (Keep.of_wr W782).1
  have z784 : h747.size ≤ h782.size := Nat.le_trans z766 (Keep.of_wr W782).1
  have f785 := own_FL.wr hw f767 21 (by decide) W782
  have f786 := Arr.other W782 f768 (Ne.symm (Nat.ne_of_lt lt344))
  have f787 := Exa.wr W782 f769
  have f788 := f770.other W782 (Ne.symm (Nat.ne_of_lt lt49))
  have f789 := f771.other W782 (Ne.symm (Nat.ne_of_lt lt65))
  have f790 := f772.other W782 (Ne.symm (Nat.ne_of_lt lt84))
  have f791 := f773.other W782 (Ne.symm (Nat.ne_of_lt lt106))
  have f792 := f774.other W782 (Ne.symm (Nat.ne_of_lt lt131))
  have f793 := f775.other W782 (Ne.symm (Nat.ne_of_lt lt159))
  have f794 := f776.other W782 (Ne.symm (Nat.ne_of_lt lt190))
  have f795 := f777.other W782 (Ne.symm (Nat.ne_of_lt lt224))
  have f796 := f778.other W782 (Ne.symm (Nat.ne_of_lt lt261))
  have f797 := f779.other W782 (Ne.symm (Nat.ne_of_lt lt301))
  have f798 := Sta.wr W782 f780
  have K799 := K781.wr W782 (Or.inl (by simp))
  refine own_s st782 ?_
  show own_E p e below _ (T782.setTop (mkF m 170 #[.val (.ref a1)] []))
  refine own_g (mkF m 171 #[.val (.ref a1)] [(.ref a1)]) (fun _ kz => XS.aloadN X782.here hx rfl (hb hby od_121_1_170) rfl rfl kz) ?_
  refine own_g (mkF m 172 #[.val (.ref a1)] [(.int (1 : Int32)), (.ref a1)]) (fun _ kz => XS.iconst X782.here hx rfl (hb hby od_121_1_171) kz) ?_
  obtain ⟨T800, h800, X800, e800, W800, st800⟩ := putF X782 hx hZ hown (host := "") (Or.inl (own_w hw 104 rfl)) Via.refl e782 (show Fld Z h782 a1 "com/example/holdfast/holdfast/dom/CompactDocument" "count" "I" (.int (0 : Int32)) from own_FLg f785 22 (by decide) rfl) f787 (Or.inl (own_w hw 105 rfl)) (own_w hw 13 rfl) (ty := .int) (by decide) rfl rfl (g := (mkF m 172 #[.val (.ref a1)] [(.int (1 : Int32)), (.ref a1)])) rfl rfl (hb hby od_121_1_172)
  have N800 := Fr.snoc X800 N782 g1
  have s801 : n0 ≤ h800.size := Nat.le_trans s783 (Keep.of_wr W800).1
  have z802 : h747.size ≤ h800.size := Nat.le_trans z784 (Keep.of_wr W800).1
  have f803 := own_FL.wr hw f785 22 (by decide) W800
  have f804 := Arr.other W800 f786 (Ne.symm (Nat.ne_of_lt lt344))
  have f805 := Exa.wr W800 f787
  have f806 := f788.other W800 (Ne.symm (Nat.ne_of_lt lt49))
  have f807 := f789.other W800 (Ne.symm (Nat.ne_of_lt lt65))
  have f808 := f790.other W800 (Ne.symm (Nat.ne_of_lt lt84))
  have f809 := f791.other W800 (Ne.symm (Nat.ne_of_lt lt106))
  have f810 := f792.other W800 (Ne.symm (Nat.ne_of_lt lt131))
  have f811 := f793.other W800 (Ne.symm (Nat.ne_of_lt lt159))
  have f812 := f794.other W800 (Ne.symm (Nat.ne_of_lt lt190))
  have f813 := f795.other W800 (Ne.symm (Nat.ne_of_lt lt224))
  have f814 := f796.other W800 (Ne.symm (Nat.ne_of_lt lt261))
  have f815 := f797.other W800 (Ne.symm (Nat.ne_of_lt lt301))
  have f816 := Sta.wr W800 f798
  have K817 := K799.wr W800 (Or.inl (by simp))
  refine own_s st800 ?_
  show own_E p e below _ (T800.setTop (mkF m 175 #[.val (.ref a1)] []))
  refine own_g (mkF m 176 #[.val (.ref a1)] [(.ref a1)]) (fun _ kz => XS.aloadN X800.here hx rfl (hb hby od_121_1_175) rfl rfl kz) ?_
  obtain ⟨T818, X818, e818, st818⟩ := getF X800 hx hZ hown (host := "") (Or.inl (own_w hw 31 rfl)) Via.refl e800 (show Fld Z h800 a1 "com/example/holdfast/holdfast/dom/CompactDocument" "types" "[B" (.ref o48) from own_FLg f803 2 (by decide) rfl) (g := (mkF m 176 #[.val (.ref a1)] [(.ref a1)])) rfl rfl (hb hby od_121_1_176)
  refine own_s st818 ?_
  show own_E p e below _ (T818.setTop (mkF m 179 #[.val (.ref a1)] [(.ref o48)]))
  refine own_g (mkF m 180 #[.val (.ref a1)] [(.int (0 : Int32)), (.ref o48)]) (fun _ kz => XS.iconst X818.here hx rfl (hb hby od_121_1_179) kz) ?_
  refine own_g (mkF m 182 #[.val (.ref a1)] [(.int (9 : Int32)), (.int (0 : Int32)), (.ref o48)]) (fun _ kz => XS.bipush X818.here hx rfl (hb hby od_121_1_180) kz) ?_
  refine own_stB X818 hx hZ e818 f806 (hb hby od_121_1_182) (by decide) (i := 0) rfl (by decide) ?_
  intro T819 h819 X819 e819 W819 A819
  have N819 := Fr.snoc X819 N800 b50
  have s820 : n0 ≤ h819.size := Nat.le_trans s801 (Keep.of_wr W819).1
  have z821 : h747.size ≤ h819.size := Nat.le_trans z802 (Keep.of_wr W819).1
  have f822 := own_FL.other W819 f803 (Nat.ne_of_lt lt49)
  have f823 := Arr.other W819 f804 (Ne.symm (Nat.ne_of_lt lt345))
  have f824 := Exa.wr W819 f805
  have f825 := f807.other W819 (Ne.symm (Nat.ne_of_lt lt66))
  have f826 := f808.other W819 (Ne.symm (Nat.ne_of_lt lt85))
  have f827 := f809.other W819 (Ne.symm (Nat.ne_of_lt lt107))
  have f828 := f810.other W819 (Ne.symm (Nat.ne_of_lt lt132))
  have f829 := f811.other W819 (Ne.symm (Nat.ne_of_lt lt160))
  have f830 := f812.other W819 (Ne.symm (Nat.ne_of_lt lt191))
  have f831 := f813.other W819 (Ne.symm (Nat.ne_of_lt lt225))
  have f832 := f814.other W819 (Ne.symm (Nat.ne_of_lt lt262))
  have f833 := f815.other W819 (Ne.symm (Nat.ne_of_lt lt302))
  have f834 := Sta.wr W819 f816
  have K835 := K817.wr W819 (Or.inr z51)
  show own_E p e below _ (T819.setTop (mkF m 183 #[.val (.ref a1)] []))
  refine own_g (mkF m 184 #[.val (.ref a1)] [(.ref a1)]) (fun _ kz => XS.aloadN X819.here hx rfl (hb hby od_121_1_183) rfl rfl kz) ?_
  obtain ⟨T836, X836, e836, st836⟩ := getF X819 hx hZ hown (host := "") (Or.inl (own_w hw 34 rfl)) Via.refl e819 (show Fld Z h819 a1 "com/example/holdfast/holdfast/dom/CompactDocument" "parents" "[I" (.ref o64) from own_FLg f822 3 (by decide) rfl) (g := (mkF m 184 #[.val (.ref a1)] [(.ref a1)])) rfl rfl (hb hby od_121_1_184)
  refine own_s st836 ?_
  show own_E p e below _ (T836.setTop (mkF m 187 #[.val (.ref a1)] [(.ref o64)]))
  refine own_g (mkF m 188 #[.val (.ref a1)] [(.int (0 : Int32)), (.ref o64)]) (fun _ kz => XS.iconst X836.here hx rfl (hb hby od_121_1_187) kz) ?_
  refine own_g (mkF m 189 #[.val (.ref a1)] [(.int (-1 : Int32)), (.int (0 : Int32)), (.ref o64)]) (fun _ kz => XS.iconst X836.here hx rfl (hb hby od_121_1_188) kz) ?_
  refine own_stI X836 hx hZ e836 f825 (hb hby od_121_1_189) (by decide) (i := 0) rfl (by decide) ?_
  intro T837 h837 X837 e837 W837 A837
  have N837 := Fr.snoc X837 N819 b67
  have s838 : n0 ≤ h837.size := Nat.le_trans s820 (Keep.of_wr W837).1
  have z839 : h747.size ≤ h837.size := Nat.le_trans z821 (Keep.of_wr W837).1
  have f840 := own_FL.other W837 f822 (Nat.ne_of_lt lt65)
  have f841 := Arr.other W837 f823 (Ne.symm (Nat.ne_of_lt lt346))
  have f842 := Exa.wr W837 f824
  have f843 := A819.other W837 (Nat.ne_of_lt lt66)
  have f844 := f826.other W837 (Ne.symm (Nat.ne_of_lt lt86))
  have f845 := f827.other W837 (Ne.symm (Nat.ne_of_lt lt108))
  have f846 := f828.other W837 (Ne.symm (Nat.ne_of_lt lt133))
  have f847 := f829.other W837 (Ne.symm (Nat.ne_of_lt lt161))
  have f848 := f830.other W837 (Ne.symm (Nat.ne_of_lt lt192))
  have f849 := f831.other W837 (Ne.symm (Nat.ne_of_lt lt226))
  have f850 := f832.other W837 (Ne.symm (Nat.ne_of_lt lt263))
  have f851 := f833.other W837 (Ne.symm (Nat.ne_of_lt lt303))
  have f852 := Sta.wr W837 f834
  have K853 := K835.wr W837 (Or.inr z68)
  show own_E p e below _ (T837.setTop (mkF m 190 #[.val (.ref a1)] []))
  refine own_g (mkF m 191 #[.val (.ref a1)] [(.ref a1)]) (fun _ kz => XS.aloadN X837.here hx rfl (hb hby od_121_1_190) rfl rfl kz) ?_
  obtain ⟨T854, X854, e854, st854⟩ := getF X837 hx hZ hown (host := "") (Or.inl (own_w hw 36 rfl)) Via.refl e837 (show Fld Z h837 a1 "com/example/holdfast/holdfast/dom/CompactDocument" "firsts" "[I" (.ref o83) from own_FLg f840 4 (by decide) rfl) (g := (mkF m 191 #[.val (.ref a1)] [(.ref a1)])) rfl rfl (hb hby od_121_1_191)
  refine own_s st854 ?_
  show own_E p e below _ (T854.setTop (mkF m 194 #[.val (.ref a1)] [(.ref o83)]))
  refine own_g (mkF m 195 #[.val (.ref a1)] [(.int (0 : Int32)), (.ref o83)]) (fun _ kz => XS.iconst X854.here hx rfl (hb hby od_121_1_194) kz) ?_
  refine own_g (mkF m 196 #[.val (.ref a1)] [(.int (-1 : Int32)), (.int (0 : Int32)), (.ref o83)]) (fun _ kz => XS.iconst X854.here hx rfl (hb hby od_121_1_195) kz) ?_
  refine own_stI X854 hx hZ e854 f844 (hb hby od_121_1_196) (by decide) (i := 0) rfl (by decide) ?_
  intro T855 h855 X855 e855 W855 A855
  have N855 := Fr.snoc X855 N837 b87
  have s856 : n0 ≤ h855.size := Nat.le_trans s838 (Keep.of_wr W855).1
  have z857 : h747.size ≤ h855.size := Nat.le_trans z839 (Keep.of_wr W855).1
  have f858 := own_FL.other W855 f840 (Nat.ne_of_lt lt84)
  have f859 := Arr.other W855 f841 (Ne.symm (Nat.ne_of_lt lt347))
  have f860 := Exa.wr W855 f842
  have f861 := f843.other W855 (Nat.ne_of_lt lt85)
  have f862 := A837.other W855 (Nat.ne_of_lt lt86)
  have f863 := f845.other W855 (Ne.symm (Nat.ne_of_lt lt109))
  have f864 := f846.other W855 (Ne.symm (Nat.ne_of_lt lt134))
  have f865 := f847.other W855 (Ne.symm (Nat.ne_of_lt lt162))
  have f866 := f848.other W855 (Ne.symm (Nat.ne_of_lt lt193))
  have f867 := f849.other W855 (Ne.symm (Nat.ne_of_lt lt227))
  have f868 := f850.other W855 (Ne.symm (Nat.ne_of_lt lt264))
  have f869 := f851.other W855 (Ne.symm (Nat.ne_of_lt lt304))
  have f870 := Sta.wr W855 f852
  have K871 := K853.wr W855 (Or.inr z88)
  show own_E p e below _ (T855.setTop (mkF m 197 #[.val (.ref a1)] []))
  refine own_g (mkF m 198 #[.val (.ref a1)] [(.ref a1)]) (fun _ kz => XS.aloadN X855.here hx rfl (hb hby od_121_1_197) rfl rfl kz) ?_
  obtain ⟨T872, X872, e872, st872⟩ := getF X855 hx hZ hown (host := "") (Or.inl (own_w hw 38 rfl)) Via.refl e855 (show Fld Z h855 a1 "com/example/holdfast/holdfast/dom/CompactDocument" "lasts" "[I" (.ref o105) from own_FLg f858 5 (by decide) rfl) (g := (mkF m 198 #[.val (.ref a1)] [(.ref a1)])) rfl rfl (hb hby od_121_1_198)
  refine own_s st872 ?_
  show own_E p e below _ (T872.setTop (mkF m 201 #[.val (.ref a1)] [(.ref o105)]))
  refine own_g (mkF m 202 #[.val (.ref a1)] [(.int (0 : Int32)), (.ref o105)]) (fun _ kz => XS.iconst X872.here hx rfl (hb hby od_121_1_201) kz) ?_
  refine own_g (mkF m 203 #[.val (.ref a1)] [(.int (-1 : Int32)), (.int (0 : Int32)), (.ref o105)]) (fun _ kz => XS.iconst X872.here hx rfl (hb hby od_121_1_202) kz) ?_
  refine own_stI X872 hx hZ e872 f863 (hb hby od_121_1_203) (by decide) (i := 0) rfl (by decide) ?_
  intro T873 h873 X873 e873 W873 A873
  have N873 := Fr.snoc X873 N855 b110
  have s874 : n0 ≤ h873.size := Nat.le_trans s856 (Keep.of_wr W873).1
  have z875 : h747.size ≤ h873.size := Nat.le_trans z857 (Keep.of_wr W873).1
  have f876 := own_FL.other W873 f858 (Nat.ne_of_lt lt106)
  have f877 := Arr.other W873 f859 (Ne.symm (Nat.ne_of_lt lt348))
  have f878 := Exa.wr W873 f860
  have f879 := f861.other W873 (Nat.ne_of_lt lt107)
  have f880 := f862.other W873 (Nat.ne_of_lt lt108)
  have f881 := A855.other W873 (Nat.ne_of_lt lt109)
  have f882 := f864.other W873 (Ne.symm (Nat.ne_of_lt lt135))
  have f883 := f865.other W873 (Ne.symm (Nat.ne_of_lt lt163))
  have f884 := f866.other W873 (Ne.symm (Nat.ne_of_lt lt194))
  have f885 := f867.other W873 (Ne.symm (Nat.ne_of_lt lt228))
  have f886 := f868.other W873 (Ne.symm (Nat.ne_of_lt lt265))
  have f887 := f869.other W873 (Ne.symm (Nat.ne_of_lt lt305))
  have f888 := Sta.wr W873 f870
  have K889 := K871.wr W873 (Or.inr z111)
  show own_E p e below _ (T873.setTop (mkF m 204 #[.val (.ref a1)] []))
  refine own_g (mkF m 205 #[.val (.ref a1)] [(.ref a1)]) (fun _ kz => XS.aloadN X873.here hx rfl (hb hby od_121_1_204) rfl rfl kz) ?_
  obtain ⟨T890, X890, e890, st890⟩ := getF X873 hx hZ hown (host := "") (Or.inl (own_w hw 40 rfl)) Via.refl e873 (show Fld Z h873 a1 "com/example/holdfast/holdfast/dom/CompactDocument" "nexts" "[I" (.ref o130) from own_FLg f876 6 (by decide) rfl) (g := (mkF m 205 #[.val (.ref a1)] [(.ref a1)])) rfl rfl (hb hby od_121_1_205)
  refine own_s st890 ?_
  show own_E p e below _ (T890.setTop (mkF m 208 #[.val (.ref a1)] [(.ref o130)]))
  refine own_g (mkF m 209 #[.val (.ref a1)] [(.int (0 : Int32)), (.ref o130)]) (fun _ kz => XS.iconst X890.here hx rfl (hb hby od_121_1_208) kz) ?_
  refine own_g (mkF m 210 #[.val (.ref a1)] [(.int (-1 : Int32)), (.int (0 : Int32)), (.ref o130)]) (fun _ kz => XS.iconst X890.here hx rfl (hb hby od_121_1_209) kz) ?_
  refine own_stI X890 hx hZ e890 f882 (hb hby od_121_1_210) (by decide) (i := 0) rfl (by decide) ?_
  intro T891 h891 X891 e891 W891 A891
  have N891 := Fr.snoc X891 N873 b136
  have s892 : n0 ≤ h891.size := Nat.le_trans s874 (Keep.of_wr W891).1
  have z893 : h747.size ≤ h891.size := Nat.le_trans z875 (Keep.of_wr W891).1
  have f894 := own_FL.other W891 f876 (Nat.ne_of_lt lt131)
  have f895 := Arr.other W891 f877 (Ne.symm (Nat.ne_of_lt lt349))
  have f896 := Exa.wr W891 f878
  have f897 := f879.other W891 (Nat.ne_of_lt lt132)
  have f898 := f880.other W891 (Nat.ne_of_lt lt133)
  have f899 := f881.other W891 (Nat.ne_of_lt lt134)
  have f900 := A873.other W891 (Nat.ne_of_lt lt135)
  have f901 := f883.other W891 (Ne.symm (Nat.ne_of_lt lt164))
  have f902 := f884.other W891 (Ne.symm (Nat.ne_of_lt lt195))
  have f903 := f885.other W891 (Ne.symm (Nat.ne_of_lt lt229))
  have f904 := f886.other W891 (Ne.symm (Nat.ne_of_lt lt266))
  have f905 := f887.other W891 (Ne.symm (Nat.ne_of_lt lt306))
  have f906 := Sta.wr W891 f888
  have K907 := K889.wr W891 (Or.inr z137)
  show own_E p e below _ (T891.setTop (mkF m 211 #[.val (.ref a1)] []))
  refine own_g (mkF m 212 #[.val (.ref a1)] [(.ref a1)]) (fun _ kz => XS.aloadN X891.here hx rfl (hb hby od_121_1_211) rfl rfl kz) ?_
  obtain ⟨T908, X908, e908, st908⟩ := getF X891 hx hZ hown (host := "") (Or.inl (own_w hw 42 rfl)) Via.refl e891 (show Fld Z h891 a1 "com/example/holdfast/holdfast/dom/CompactDocument" "previouses" "[I" (.ref o158) from own_FLg f894 7 (by decide) rfl) (g := (mkF m 212 #[.val (.ref a1)] [(.ref a1)])) rfl rfl (hb hby od_121_1_212)
  refine own_s st908 ?_
  show own_E p e below _ (T908.setTop (mkF m 215 #[.val (.ref a1)] [(.ref o158)]))
  refine own_g (mkF m 216 #[.val (.ref a1)] [(.int (0 : Int32)), (.ref o158)]) (fun _ kz => XS.iconst X908.here hx rfl (hb hby od_121_1_215) kz) ?_
  refine own_g (mkF m 217 #[.val (.ref a1)] [(.int (-1 : Int32)), (.int (0 : Int32)), (.ref o158)]) (fun _ kz => XS.iconst X908.here hx rfl (hb hby od_121_1_216) kz) ?_
  refine own_stI X908 hx hZ e908 f901 (hb hby od_121_1_217) (by decide) (i := 0) rfl (by decide) ?_
  intro T909 h909 X909 e909 W909 A909
  have N909 := Fr.snoc X909 N891 b165
  have s910 : n0 ≤ h909.size := Nat.le_trans s892 (Keep.of_wr W909).1
  have z911 : h747.size ≤ h909.size := Nat.le_trans z893 (Keep.of_wr W909).1
  have f912 := own_FL.other W909 f894 (Nat.ne_of_lt lt159)
  have f913 := Arr.other W909 f895 (Ne.symm (Nat.ne_of_lt lt350))
  have f914 := Exa.wr W909 f896
  have f915 := f897.other W909 (Nat.ne_of_lt lt160)
  have f916 := f898.other W909 (Nat.ne_of_lt lt161)
  have f917 := f899.other W909 (Nat.ne_of_lt lt162)
  have f918 := f900.other W909 (Nat.ne_of_lt lt163)
  have f919 := A891.other W909 (Nat.ne_of_lt lt164)
  have f920 := f902.other W909 (Ne.symm (Nat.ne_of_lt lt196))
  have f921 := f903.other W909 (Ne.symm (Nat.ne_of_lt lt230))
  have f922 := f904.other W909 (Ne.symm (Nat.ne_of_lt lt267))
  have f923 := f905.other W909 (Ne.symm (Nat.ne_of_lt lt307))
  have f924 := Sta.wr W909 f906
  have K925 := K907.wr W909 (Or.inr z166)
  show own_E p e below _ (T909.setTop (mkF m 218 #[.val (.ref a1)] []))
  refine own_g (mkF m 219 #[.val (.ref a1)] [(.ref a1)]) (fun _ kz => XS.aloadN X909.here hx rfl (hb hby od_121_1_218) rfl rfl kz) ?_
  obtain ⟨T926, X926, e926, st926⟩ := getF X909 hx hZ hown (host := "") (Or.inl (own_w hw 54 rfl)) Via.refl e909 (show Fld Z h909 a1 "com/example/holdfast/holdfast/dom/CompactDocument" "handles" "[Lcom/example/holdfast/holdfast/dom/CompactNode;" (.ref o343) from own_FLg f912 12 (by decide) rfl) (g := (mkF m 219 #[.val (.ref a1)] [(.ref a1)])) rfl rfl (hb hby od_121_1_219)
  refine own_s st926 ?_
  show own_E p e below _ (T926.setTop (mkF m 222 #[.val (.ref a1)] [(.ref o343)]))
  refine own_g (mkF m 223 #[.val (.ref a1)] [(.int (0 : Int32)), (.ref o343)]) (fun _ kz => XS.iconst X926.here hx rfl (hb hby od_121_1_222) kz) ?_
  refine own_g (mkF m 224 #[.val (.ref a1)] [(.ref a1), (.int (0 : Int32)), (.ref o343)]) (fun _ kz => XS.aloadN X926.here hx rfl (hb hby od_121_1_223) rfl rfl kz) ?_
  obtain ⟨T927, h927, X927, e927, W927, st927⟩ := stR X926 hx hZ e926 f913 (j := (0 : Int32)) (by rw [sz_new]; decide) rfl (Sto.of f913 O343 (Ins.of_exa f914 (own_w hw 106 rfl))) (g := (mkF m 224 #[.val (.ref a1)] [(.ref a1), (.int (0 : Int32)), (.ref o343)])) rfl rfl (hb hby od_121_1_224)
  have N927 := Fr.snoc X927 N909 b355
  have s928 : n0 ≤ h927.size := Nat.le_trans s910 (Keep.of_wr W927).1
  have z929 : h747.size ≤ h927.size := Nat.le_trans z911 (Keep.of_wr W927).1
  have f930 := own_FL.other W927 f912 (Nat.ne_of_lt lt344)
  have f931 := Exa.wr W927 f914
  have f932 := f915.other W927 (Nat.ne_of_lt lt345)
  have f933 := f916.other W927 (Nat.ne_of_lt lt346)
  have f934 := f917.other W927 (Nat.ne_of_lt lt347)
  have f935 := f918.other W927 (Nat.ne_of_lt lt348)
  have f936 := f919.other W927 (Nat.ne_of_lt lt349)
  have f937 := A909.other W927 (Nat.ne_of_lt lt350)
  have f938 := f920.other W927 (Nat.ne_of_lt lt351)
  have f939 := f921.other W927 (Nat.ne_of_lt lt352)
  have f940 := f922.other W927 (Nat.ne_of_lt lt353)
  have f941 := f923.other W927 (Nat.ne_of_lt lt354)
  have f942 := Sta.wr W927 f924
  have K943 := K925.wr W927 (Or.inr z356)
  refine own_s st927 ?_
  show own_E p e below _ (T927.setTop (mkF m 225 #[.val (.ref a1)] []))
  have Dxo : ∀ i, i < 9 → (own_ten o48 o64 o83 o105 o130 o158 o189 o223 o260 o300) i < (own_ten o48 o64 o83 o105 o130 o158 o189 o223 o260 o300) (i + 1) := by
    intro i hi
    match i, hi with
    | 0, _ => exact lt66
    | 1, _ => exact lt86
    | 2, _ => exact lt109
    | 3, _ => exact lt135
    | 4, _ => exact lt164
    | 5, _ => exact lt196
    | 6, _ => exact lt231
    | 7, _ => exact lt269
    | 8, _ => exact lt310
  have Dxa : ∀ i, i < 10 → own_IA Z h927 ((own_ten o48 o64 o83 o105 o130 o158 o189 o223 o260 o300) i) (own_aty i) 64 ((own_ten (own_set (fun _ => (0 : Int32)) 0 (nar .byte (9 : Int32))) (own_set (fun _ => (0 : Int32)) 0 (-1 : Int32)) (own_set (fun _ => (0 : Int32)) 0 (-1 : Int32)) (own_set (fun _ => (0 : Int32)) 0 (-1 : Int32)) (own_set (fun _ => (0 : Int32)) 0 (-1 : Int32)) (own_set (fun _ => (0 : Int32)) 0 (-1 : Int32)) (fun _ => (0 : Int32)) (fun _ => (0 : Int32)) (fun _ => (0 : Int32)) (fun _ => (0 : Int32))) i) := by
    intro i hi
    match i, hi with
    | 0, _ => exact f932
    | 1, _ => exact f933
    | 2, _ => exact f934
    | 3, _ => exact f935
    | 4, _ => exact f936
    | 5, _ => exact f937
    | 6, _ => exact f938
    | 7, _ => exact f939
    | 8, _ => exact f940
    | 9, _ => exact f941
  have Dx : ∃ g, own_Doc Z h927 n0 a1 (own_ten o48 o64 o83 o105 o130 o158 o189 o223 o260 o300) g (own_ten (own_set (fun _ => (0 : Int32)) 0 (nar .byte (9 : Int32))) (own_set (fun _ => (0 : Int32)) 0 (-1 : Int32)) (own_set (fun _ => (0 : Int32)) 0 (-1 : Int32)) (own_set (fun _ => (0 : Int32)) 0 (-1 : Int32)) (own_set (fun _ => (0 : Int32)) 0 (-1 : Int32)) (own_set (fun _ => (0 : Int32)) 0 (-1 : Int32)) (fun _ => (0 : Int32)) (fun _ => (0 : Int32)) (fun _ => (0 : Int32)) (fun _ => (0 : Int32))) ∧ (g 29 = .int 0 ∧ g 30 = .int 0 ∧ g 31 = .int 0 ∧ g 33 = .int 0 ∧ g 28 = .int 0 ∧ g 32 = .null ∧ g 34 = .null ∧ g 24 = .null ∧ g 25 = .null ∧ g 26 = .null ∧ g 27 = .null ∧ g 23 = .null ∧ g 22 = .int 1) := by
    refine ⟨_, ⟨f931, f930, Dxa, g1, lt49, Dxo, ?_⟩, ?_⟩
    · intro i hi
      match i, hi with
      | 0, _ => rfl
      | 1, _ => rfl
      | 2, _ => rfl
      | 3, _ => rfl
      | 4, _ => rfl
      | 5, _ => rfl
      | 6, _ => rfl
      | 7, _ => rfl
      | 8, _ => rfl
      | 9, _ => rfl
    · exact ⟨rfl, rfl, rfl, rfl, rfl, rfl, rfl, rfl, rfl, rfl, rfl, rfl, rfl⟩
  obtain ⟨gx, Dx, Gx⟩ := Dx
  exact own_retVW X927 hS747 (by rw [e927]; exact z929) hx hret hlk (hb hby od_121_1_225) (by decide) (by decide) (by first | exact ⟨rfl, N927, K943, f942, (own_ten o48 o64 o83 o105 o130 o158 o189 o223 o260 o300), gx, (own_ten (own_set (fun _ => (0 : Int32)) 0 (nar .byte (9 : Int32))) (own_set (fun _ => (0 : Int32)) 0 (-1 : Int32)) (own_set (fun _ => (0 : Int32)) 0 (-1 : Int32)) (own_set (fun _ => (0 : Int32)) 0 (-1 : Int32)) (own_set (fun _ => (0 : Int32)) 0 (-1 : Int32)) (own_set (fun _ => (0 : Int32)) 0 (-1 : Int32)) (fun _ => (0 : Int32)) (fun _ => (0 : Int32)) (fun _ => (0 : Int32)) (fun _ => (0 : Int32))), Dx, Gx, rfl, fun _ => rfl⟩ | (rw [e927]; exact ⟨rfl, N927, K943, f942, (own_ten o48 o64 o83 o105 o130 o158 o189 o223 o260 o300), gx, (own_ten (own_set (fun _ => (0 : Int32)) 0 (nar .byte (9 : Int32))) (own_set (fun _ => (0 : Int32)) 0 (-1 : Int32)) (own_set (fun _ => (0 : Int32)) 0 (-1 : Int32)) (own_set (fun _ => (0 : Int32)) 0 (-1 : Int32)) (own_set (fun _ => (0 : Int32)) 0 (-1 : Int32)) (own_set (fun _ => (0 : Int32)) 0 (-1 : Int32)) (fun _ => (0 : Int32)) (fun _ => (0 : Int32)) (fun _ => (0 : Int32)) (fun _ => (0 : Int32))), Dx, Gx, rfl, fun _ => rfl⟩))
theorem own_pn7 : plainName "com/example/holdfast/holdfast/dom/CompactDocument$Builder" = true := by first | (simp [plainName, overriddenIn]; done) | decide +kernel
theorem od_122_2_0 : decode prog_122_method_2_code 0 = .ok (.aload_n 0, 1) := by decide +kernel
theorem od_122_2_1 : decode prog_122_method_2_code 1 = .ok (.invokespecial 11, 3) := by decide +kernel
theorem od_122_2_4 : decode prog_122_method_2_code 4 = .ok (.aload_n 0, 1) := by decide +kernel
theorem od_122_2_5 : decode prog_122_method_2_code 5 = .ok (.new 3, 3) := by decide +kernel
theorem od_122_2_8 : decode prog_122_method_2_code 8 = .ok (.dup, 1) := by decide +kernel
theorem od_122_2_9 : decode prog_122_method_2_code 9 = .ok (.invokespecial 16, 3) := by decide +kernel
theorem od_122_2_12 : decode prog_122_method_2_code 12 = .ok (.putfield 17, 3) := by decide +kernel
theorem od_122_2_15 : decode prog_122_method_2_code 15 = .ok (.aload_n 0, 1) := by decide +kernel
theorem od_122_2_16 : decode prog_122_method_2_code 16 = .ok (.iconst (-1), 1) := by decide +kernel
theorem od_122_2_17 : decode prog_122_method_2_code 17 = .ok (.putfield 21, 3) := by decide +kernel
theorem od_122_2_20 : decode prog_122_method_2_code 20 = .ok (.aload_n 0, 1) := by decide +kernel
theorem od_122_2_21 : decode prog_122_method_2_code 21 = .ok (.new 25, 3) := by decide +kernel
theorem od_122_2_24 : decode prog_122_method_2_code 24 = .ok (.dup, 1) := by decide +kernel
theorem od_122_2_25 : decode prog_122_method_2_code 25 = .ok (.invokespecial 27, 3) := by decide +kernel
theorem od_122_2_28 : decode prog_122_method_2_code 28 = .ok (.putfield 28, 3) := by decide +kernel
theorem od_122_2_31 : decode prog_122_method_2_code 31 = .ok (.aload_n 0, 1) := by decide +kernel
theorem od_122_2_32 : decode prog_122_method_2_code 32 = .ok (.bipush 16, 2) := by decide +kernel
theorem od_122_2_34 : decode prog_122_method_2_code 34 = .ok (.anewarray 32, 3) := by decide +kernel
theorem od_122_2_37 : decode prog_122_method_2_code 37 = .ok (.putfield 34, 3) := by decide +kernel
theorem od_122_2_40 : decode prog_122_method_2_code 40 = .ok (.aload_n 0, 1) := by decide +kernel
theorem od_122_2_41 : decode prog_122_method_2_code 41 = .ok (.getfield 17, 3) := by decide +kernel
theorem od_122_2_44 : decode prog_122_method_2_code 44 = .ok (.aload_n 1, 1) := by decide +kernel
theorem od_122_2_45 : decode prog_122_method_2_code 45 = .ok (.putfield 38, 3) := by decide +kernel
theorem od_122_2_48 : decode prog_122_method_2_code 48 = .ok (.iload_n 3, 1) := by decide +kernel
theorem od_122_2_49 : decode prog_122_method_2_code 49 = .ok (.aload_n 0, 1) := by decide +kernel
theorem od_122_2_50 : decode prog_122_method_2_code 50 = .ok (.getfield 17, 3) := by decide +kernel
theorem od_122_2_53 : decode prog_122_method_2_code 53 = .ok (.getfield 42, 3) := by decide +kernel
theorem od_122_2_56 : decode prog_122_method_2_code 56 = .ok (.arraylength, 1) := by decide +kernel
theorem od_122_2_57 : decode prog_122_method_2_code 57 = .ok (.if_icmp .le 11, 3) := by decide +kernel
theorem od_122_2_68 : decode prog_122_method_2_code 68 = .ok (.aload_n 0, 1) := by decide +kernel
theorem od_122_2_69 : decode prog_122_method_2_code 69 = .ok (.getfield 17, 3) := by decide +kernel
theorem od_122_2_72 : decode prog_122_method_2_code 72 = .ok (.sipush 1024, 3) := by decide +kernel
theorem od_122_2_75 : decode prog_122_method_2_code 75 = .ok (.iload_n 2, 1) := by decide +kernel
theorem od_122_2_76 : decode prog_122_method_2_code 76 = .ok (.bipush 16, 2) := by decide +kernel
theorem od_122_2_78 : decode prog_122_method_2_code 78 = .ok (.idiv, 1) := by decide +kernel
theorem own_pd2 : parseMethodDescriptor "(II)I" = some ⟨[.int, .int], some .int⟩ := by decide +kernel
theorem od_122_2_79 : decode prog_122_method_2_code 79 = .ok (.invokestatic 50, 3) := by decide +kernel
theorem od_122_2_82 : decode prog_122_method_2_code 82 = .ok (.newarray .char, 2) := by decide +kernel
theorem od_122_2_84 : decode prog_122_method_2_code 84 = .ok (.putfield 56, 3) := by decide +kernel
theorem od_122_2_87 : decode prog_122_method_2_code 87 = .ok (.return_, 1) := by decide +kernel
set_option maxRecDepth 65536 in
set_option maxHeartbeats 40000000 in
theorem own_c_b2 (l : Launch) (Z : State) (a0 : Array Value) (hw : ∀ d ∈ tables_1, d.before a0 Z = true) (a1 : Nat) (sv : Nat) (h0 : Heap) (n0 : Nat) (Z0 : n0 ≤ h0.size) (g1 : n0 ≤ a1) (E1 : Exa Z h0 a1 "com/example/holdfast/holdfast/dom/CompactDocument$Builder") (B0 : Fld Z h0 a1 "com/example/holdfast/holdfast/dom/CompactDocument$Builder" "document" "Lcom/example/holdfast/holdfast/dom/CompactDocument;" .null) (B1 : Fld Z h0 a1 "com/example/holdfast/holdfast/dom/CompactDocument$Builder" "text" "I" (.int (0 : Int32))) (B2 : Fld Z h0 a1 "com/example/holdfast/holdfast/dom/CompactDocument$Builder" "declarations" "Ljava/util/List;" .null) (B3 : Fld Z h0 a1 "com/example/holdfast/holdfast/dom/CompactDocument$Builder" "scopes" "[Lcom/example/holdfast/holdfast/dom/CompactDocument$Namespaces;" .null) (S1 : Sta Z h0 "java/util/ArrayList" "DEFAULTCAPACITY_EMPTY_ELEMENTDATA" "[Ljava/lang/Object;" (.ref sv)) :
    own_ConW l Z (⟨"com/example/holdfast/holdfast/dom/CompactDocument$Builder", "<init>", "(Ljava/lang/String;II)V"⟩ : MethodName) prog_122_method_2_code 4 none [] ({ frames := 4, cells := 24, slots := 3051, locals := 52 } : Room) #[(.ref a1), .null, (.int (0 : Int32)), (.int (0 : Int32))] h0 (fun v h L => v = none ∧ Fr n0 L ∧ Keep h0 h [a1] ∧ ∃ d, a1 < d ∧ Fld Z h a1 "com/example/holdfast/holdfast/dom/CompactDocument$Builder" "document" "Lcom/example/holdfast/holdfast/dom/CompactDocument;" (.ref d) ∧ ∃ b g fs, own_Doc Z h n0 d b g fs ∧ (g 29 = .int 0 ∧ g 30 = .int 0 ∧ g 31 = .int 0 ∧ g 33 = .int 0 ∧ g 28 = .int 0 ∧ g 32 = .null ∧ g 34 = .null ∧ g 24 = .null ∧ g 25 = .null ∧ g 26 = .null ∧ g 27 = .null ∧ g 23 = .null ∧ g 22 = .int 1) ∧ fs 1 0 = -1 ∧ (∀ q, fs 7 q = 0)) := by
  refine own_enterW (plainFor_of_name own_pn7) ?_
  intro p e s m below meth c s₁ X0 e0 hx hZ hby hml hown hnm hret hlk
  refine own_cast (g' := (mkF m 0 #[.val (.ref a1), .val .null, .val (.int (0 : Int32)), .val (.int (0 : Int32))] [])) (by first | (simp [entryFrame, mkF, argsToLocals, Value.category]; done) | rfl) ?_
  have N0 := Fr.nil n0
  have K0 := Keep.refl h0 [a1]
  refine own_g (mkF m 1 #[.val (.ref a1), .val .null, .val (.int (0 : Int32)), .val (.int (0 : Int32))] [(.ref a1)]) (fun _ kz => XS.aloadN X0.here hx rfl (hb hby od_122_2_0) rfl rfl kz) ?_
  obtain ⟨T944, X944, e944, st944⟩ := initO X0 hx hZ hown (own_w hw 9 rfl) (own_w hw 10 rfl) (own_w hw 11 rfl) e0 (g := (mkF m 1 #[.val (.ref a1), .val .null, .val (.int (0 : Int32)), .val (.int (0 : Int32))] [(.ref a1)])) rfl (by rw [hml]; rfl) rfl (hb hby od_122_2_1) (by decide) (W := 0) (by show 2 * 0 + _ ≤ _; exact Nat.le_of_eq rfl) (by decide)
  refine own_s st944 ?_
  show own_E p e below _ (T944.setTop (mkF m 4 #[.val (.ref a1), .val .null, .val (.int (0 : Int32)), .val (.int (0 : Int32))] []))
  refine own_g (mkF m 5 #[.val (.ref a1), .val .null, .val (.int (0 : Int32)), .val (.int (0 : Int32))] [(.ref a1)]) (fun _ kz => XS.aloadN X944.here hx rfl (hb hby od_122_2_4) rfl rfl kz) ?_
  obtain ⟨T945, h945, X945, e945, E945, A945, D945, -, st945⟩ := newO X944 hx hZ hown (own_w hw 12 rfl) (own_w hw 13 rfl) (own_w hw 14 rfl) e944 (g := (mkF m 5 #[.val (.ref a1), .val .null, .val (.int (0 : Int32)), .val (.int (0 : Int32))] [(.ref a1)])) rfl (hb hby od_122_2_5) (by decide) (by decide)
  obtain ⟨o945, g945⟩ : ∃ z, z = h0.size := ⟨_, rfl⟩
  rw [← g945] at A945 D945 st945
  have lt946 : a1 < o945 := Nat.lt_of_lt_of_le E1.lt (Nat.le_of_eq g945.symm)
  have b947 : n0 ≤ o945 := Nat.le_trans Z0 (Nat.le_of_eq g945.symm)
  have z948 : h0.size ≤ o945 := Nat.le_trans K0.1 (Nat.le_of_eq g945.symm)
  have f949 := Exa.ext E945 E1
  have f950 := Sta.ext E945 S1
  have f951 := Fld.ext E945 B0
  have f952 := Fld.ext E945 B1
  have f953 := Fld.ext E945 B2
  have f954 := Fld.ext E945 B3
  have K955 := K0.ext E945
  have s956 : n0 ≤ h945.size := Nat.le_trans Z0 E945.1
  have f957 : Fld Z h945 o945 "com/example/holdfast/holdfast/dom/CompactNode" "document" "Lcom/example/holdfast/holdfast/dom/CompactDocument;" .null := D945 (Or.inr (own_w hw 27 rfl)) (ty := (.object "com/example/holdfast/holdfast/dom/CompactDocument")) (by decide)
  have f958 : Fld Z h945 o945 "com/example/holdfast/holdfast/dom/CompactNode" "index" "I" (.int (0 : Int32)) := D945 (Or.inr (own_w hw 29 rfl)) (ty := .int) (by decide)
  have f959 : Fld Z h945 o945 "com/example/holdfast/holdfast/dom/CompactDocument" "types" "[B" .null := D945 (Or.inl (own_w hw 32 rfl)) (ty := (.array .byte)) (by decide)
  have f960 : Fld Z h945 o945 "com/example/holdfast/holdfast/dom/CompactDocument" "parents" "[I" .null := D945 (Or.inl (own_w hw 35 rfl)) (ty := (.array .int)) (by decide)
  have f961 : Fld Z h945 o945 "com/example/holdfast/holdfast/dom/CompactDocument" "firsts" "[I" .null := D945 (Or.inl (own_w hw 37 rfl)) (ty := (.array .int)) (by decide)
  have f962 : Fld Z h945 o945 "com/example/holdfast/holdfast/dom/CompactDocument" "lasts" "[I" .null := D945 (Or.inl (own_w hw 39 rfl)) (ty := (.array .int)) (by decide)
  have f963 : Fld Z h945 o945 "com/example/holdfast/holdfast/dom/CompactDocument" "nexts" "[I" .null := D945 (Or.inl (own_w hw 41 rfl)) (ty := (.array .int)) (by decide)
  have f964 : Fld Z h945 o945 "com/example/holdfast/holdfast/dom/CompactDocument" "previouses" "[I" .null := D945 (Or.inl (own_w hw 43 rfl)) (ty := (.array .int)) (by decide)
  have f965 : Fld Z h945 o945 "com/example/holdfast/holdfast/dom/CompactDocument" "names" "[I" .null := D945 (Or.inl (own_w hw 45 rfl)) (ty := (.array .int)) (by decide)
  have f966 : Fld Z h945 o945 "com/example/holdfast/holdfast/dom/CompactDocument" "flags" "[B" .null := D945 (Or.inl (own_w hw 47 rfl)) (ty := (.array .byte)) (by decide)
  have f967 : Fld Z h945 o945 "com/example/holdfast/holdfast/dom/CompactDocument" "dataStarts" "[I" .null := D945 (Or.inl (own_w hw 49 rfl)) (ty := (.array .int)) (by decide)
  have f968 : Fld Z h945 o945 "com/example/holdfast/holdfast/dom/CompactDocument" "dataLengths" "[I" .null := D945 (Or.inl (own_w hw 51 rfl)) (ty := (.array .int)) (by decide)
  have f969 : Fld Z h945 o945 "com/example/holdfast/holdfast/dom/CompactDocument" "handles" "[Lcom/example/holdfast/holdfast/dom/CompactNode;" .null := D945 (Or.inl (own_w hw 55 rfl)) (ty := (.array (.object "com/example/holdfast/holdfast/dom/CompactNode"))) (by decide)
  have f970 : Fld Z h945 o945 "com/example/holdfast/holdfast/dom/CompactDocument" "making" "Ljava/lang/Object;" .null := D945 (Or.inr (own_w hw 61 rfl)) (ty := (.object "java/lang/Object")) (by decide)
  have f971 : Fld Z h945 o945 "com/example/holdfast/holdfast/dom/CompactDocument" "chars" "[C" .null := D945 (Or.inl (own_w hw 64 rfl)) (ty := (.array .char)) (by decide)
  have f972 : Fld Z h945 o945 "com/example/holdfast/holdfast/dom/CompactDocument" "attributeNames" "[I" .null := D945 (Or.inl (own_w hw 66 rfl)) (ty := (.array .int)) (by decide)
  have f973 : Fld Z h945 o945 "com/example/holdfast/holdfast/dom/CompactDocument" "attributeValueStarts" "[I" .null := D945 (Or.inl (own_w hw 68 rfl)) (ty := (.array .int)) (by decide)
  have f974 : Fld Z h945 o945 "com/example/holdfast/holdfast/dom/CompactDocument" "attributeValueLengths" "[I" .null := D945 (Or.inl (own_w hw 70 rfl)) (ty := (.array .int)) (by decide)
  have f975 : Fld Z h945 o945 "com/example/holdfast/holdfast/dom/CompactDocument" "nameTable" "[Lcom/example/holdfast/holdfast/dom/CompactDocument$Name;" .null := D945 (Or.inl (own_w hw 74 rfl)) (ty := (.array (.object "com/example/holdfast/holdfast/dom/CompactDocument$Name"))) (by decide)
  have f976 : Fld Z h945 o945 "com/example/holdfast/holdfast/dom/CompactDocument" "nameIndex" "Ljava/util/Map;" .null := D945 (Or.inr (own_w hw 92 rfl)) (ty := (.object "java/util/Map")) (by decide)
  have f977 : Fld Z h945 o945 "com/example/holdfast/holdfast/dom/CompactDocument" "xmlVersion" "Ljava/lang/String;" .null := D945 (Or.inl (own_w hw 101 rfl)) (ty := (.object "java/lang/String")) (by decide)
  have f978 : Fld Z h945 o945 "com/example/holdfast/holdfast/dom/CompactDocument" "strictErrorChecking" "Z" (.int (0 : Int32)) := D945 (Or.inl (own_w hw 103 rfl)) (ty := .boolean) (by decide)
  have f979 : Fld Z h945 o945 "com/example/holdfast/holdfast/dom/CompactDocument" "count" "I" (.int (0 : Int32)) := D945 (Or.inl (own_w hw 105 rfl)) (ty := .int) (by decide)
  have f980 : Fld Z h945 o945 "com/example/holdfast/holdfast/dom/CompactDocument" "documentUri" "Ljava/lang/String;" .null := D945 (Or.inl (own_w hw 142 rfl)) (ty := (.object "java/lang/String")) (by decide)
  have f981 : Fld Z h945 o945 "com/example/holdfast/holdfast/dom/CompactDocument" "source" "[B" .null := D945 (Or.inl (own_w hw 155 rfl)) (ty := (.array .byte)) (by decide)
  have f982 : Fld Z h945 o945 "com/example/holdfast/holdfast/dom/CompactDocument" "reader" "Lcom/example/holdfast/holdfast/dom/CompactDocument$TextReader;" .null := D945 (Or.inl (own_w hw 157 rfl)) (ty := (.object "com/example/holdfast/holdfast/dom/CompactDocument$TextReader")) (by decide)
  have f983 : Fld Z h945 o945 "com/example/holdfast/holdfast/dom/CompactDocument" "sourceStarts" "[I" .null := D945 (Or.inl (own_w hw 159 rfl)) (ty := (.array .int)) (by decide)
  have f984 : Fld Z h945 o945 "com/example/holdfast/holdfast/dom/CompactDocument" "sourceEnds" "[I" .null := D945 (Or.inl (own_w hw 161 rfl)) (ty := (.array .int)) (by decide)
  have f985 : Fld Z h945 o945 "com/example/holdfast/holdfast/dom/CompactDocument" "built" "I" (.int (0 : Int32)) := D945 (Or.inl (own_w hw 169 rfl)) (ty := .int) (by decide)
  have f986 : Fld Z h945 o945 "com/example/holdfast/holdfast/dom/CompactDocument" "modifications" "I" (.int (0 : Int32)) := D945 (Or.inl (own_w hw 187 rfl)) (ty := .int) (by decide)
  have f987 : Fld Z h945 o945 "com/example/holdfast/holdfast/dom/CompactDocument" "readNodeChanges" "I" (.int (0 : Int32)) := D945 (Or.inl (own_w hw 190 rfl)) (ty := .int) (by decide)
  have f988 : Fld Z h945 o945 "com/example/holdfast/holdfast/dom/CompactDocument" "treeModifications" "I" (.int (0 : Int32)) := D945 (Or.inl (own_w hw 192 rfl)) (ty := .int) (by decide)
  have f989 : Fld Z h945 o945 "com/example/holdfast/holdfast/dom/CompactDocument" "marked" "[I" .null := D945 (Or.inl (own_w hw 198 rfl)) (ty := (.array .int)) (by decide)
  have f990 : Fld Z h945 o945 "com/example/holdfast/holdfast/dom/CompactDocument" "markedCount" "I" (.int (0 : Int32)) := D945 (Or.inl (own_w hw 200 rfl)) (ty := .int) (by decide)
  have f991 : Fld Z h945 o945 "com/example/holdfast/holdfast/dom/CompactDocument" "markedFlags" "[B" .null := D945 (Or.inl (own_w hw 203 rfl)) (ty := (.array .byte)) (by decide)
  refine own_s st945 ?_
  show own_E p e below _ (T945.setTop (mkF m 8 #[.val (.ref a1), .val .null, .val (.int (0 : Int32)), .val (.int (0 : Int32))] [(.ref o945), (.ref a1)]))
  have f992 : own_FL Z h945 o945 own_g0 := by
    intro i hi
    match i, hi with
    | 0, _ => exact f957
    | 1, _ => exact f958
    | 2, _ => exact f959
    | 3, _ => exact f960
    | 4, _ => exact f961
    | 5, _ => exact f962
    | 6, _ => exact f963
    | 7, _ => exact f964
    | 8, _ => exact f965
    | 9, _ => exact f966
    | 10, _ => exact f967
    | 11, _ => exact f968
    | 12, _ => exact f969
    | 13, _ => exact f970
    | 14, _ => exact f971
    | 15, _ => exact f972
    | 16, _ => exact f973
    | 17, _ => exact f974
    | 18, _ => exact f975
    | 19, _ => exact f976
    | 20, _ => exact f977
    | 21, _ => exact f978
    | 22, _ => exact f979
    | 23, _ => exact f980
    | 24, _ => exact f981
    | 25, _ => exact f982
    | 26, _ => exact f983
    | 27, _ => exact f984
    | 28, _ => exact f985
    | 29, _ => exact f986
    | 30, _ => exact f987
    | 31, _ => exact f988
    | 32, _ => exact f989
    | 33, _ => exact f990
    | 34, _ => exact f991
    | n + 35, h => exact absurd h (by omega)
  refine own_g (mkF m 9 #[.val (.ref a1), .val .null, .val (.int (0 : Int32)), .val (.int (0 : Int32))] [(.ref o945), (.ref o945), (.ref a1)]) (fun _ kz => XS.dup X945.here hx rfl (hb hby od_122_2_8) rfl rfl kz) ?_
  refine own_callIW (rest := [(.ref o945), (.ref a1)]) (a := o945) (as := []) X945 hx hZ hown e945 (own_c_cd l Z a0 hw o945 sv h945 n0 s956 b947 A945 f992 f950) rfl (own_w hw 15 rfl) (own_w hw 16 rfl) (own_w hw 14 rfl) (own_w hw 17 rfl) (by decide) own_pd0 rfl (by rw [hml]; rfl) rfl (hb hby od_122_2_9) 2 (by show 2 * 0 + _ ≤ _; exact Nat.le_of_eq rfl) (by decide) (by decide) (by decide) (by decide) ?_
  rintro _ T993 L993 X993 hS993 hZ hown ⟨rfl, Nq993, K993q, Sq993, bb, gd, fs, Dd, Gd, p1, p7⟩
  have N993 := Fr.app N0 Nq993
  have f995 := own_staK f950 K993q (allS (own_plE A945) all0)
  have f996 := Exa.keep f949 K993q
  have f997 := Fld.keep f951 K993q (ninS (Nat.ne_of_lt lt946) nin0)
  have f998 := Fld.keep f952 K993q (ninS (Nat.ne_of_lt lt946) nin0)
  have f999 := Fld.keep f953 K993q (ninS (Nat.ne_of_lt lt946) nin0)
  have f1000 := Fld.keep f954 K993q (ninS (Nat.ne_of_lt lt946) nin0)
  have f1001 := Exa.keep A945 K993q
  have s1002 : n0 ≤ T993.heap.size := Nat.le_trans s956 K993q.1
  have K1003 := K955.trans K993q (allS (Or.inr z948) all0)
  show own_E p e below _ (T993.setTop (mkF m 12 #[.val (.ref a1), .val .null, .val (.int (0 : Int32)), .val (.int (0 : Int32))] [(.ref o945), (.ref a1)]))
  obtain ⟨Ed, Fd, Ad, nd, ld, od, kd⟩ := Dd
  have od_0 : bb 0 < bb 1 := od 0 (by decide)
  have od_1 : bb 1 < bb 2 := od 1 (by decide)
  have od_2 : bb 2 < bb 3 := od 2 (by decide)
  have od_3 : bb 3 < bb 4 := od 3 (by decide)
  have od_4 : bb 4 < bb 5 := od 4 (by decide)
  have od_5 : bb 5 < bb 6 := od 5 (by decide)
  have od_6 : bb 6 < bb 7 := od 6 (by decide)
  have od_7 : bb 7 < bb 8 := od 7 (by decide)
  have od_8 : bb 8 < bb 9 := od 8 (by decide)
  have Ad_0 : own_IA Z T993.heap (bb 0) .byte 64 (fs 0) := Ad 0 (by decide)
  have Ad_1 : own_IA Z T993.heap (bb 1) .int 64 (fs 1) := Ad 1 (by decide)
  have Ad_2 : own_IA Z T993.heap (bb 2) .int 64 (fs 2) := Ad 2 (by decide)
  have Ad_3 : own_IA Z T993.heap (bb 3) .int 64 (fs 3) := Ad 3 (by decide)
  have Ad_4 : own_IA Z T993.heap (bb 4) .int 64 (fs 4) := Ad 4 (by decide)
  have Ad_5 : own_IA Z T993.heap (bb 5) .int 64 (fs 5) := Ad 5 (by decide)
  have Ad_6 : own_IA Z T993.heap (bb 6) .int 64 (fs 6) := Ad 6 (by decide)
  have Ad_7 : own_IA Z T993.heap (bb 7) .byte 64 (fs 7) := Ad 7 (by decide)
  have Ad_8 : own_IA Z T993.heap (bb 8) .int 64 (fs 8) := Ad 8 (by decide)
  have Ad_9 : own_IA Z T993.heap (bb 9) .int 64 (fs 9) := Ad 9 (by decide)
  obtain ⟨qd_0, qd_1, qd_2, qd_3, qd_4, qd_5, qd_6, qd_7, qd_8, qd_9, qd_10, qd_11, qd_12⟩ := Gd
  obtain ⟨T1004, h1004, X1004, e1004, W1004, st1004⟩ := putF X993 hx hZ hown (host := "") (Or.inl (own_w hw 107 rfl)) Via.refl rfl f997 f996 (Or.inr ⟨(own_w hw 108 rfl), rfl, hnm⟩) (own_w hw 1 rfl) (ty := (.object "com/example/holdfast/holdfast/dom/CompactDocument")) (by decide) rfl rfl (g := (mkF m 12 #[.val (.ref a1), .val .null, .val (.int (0 : Int32)), .val (.int (0 : Int32))] [(.ref o945), (.ref a1)])) rfl rfl (hb hby od_122_2_12)
  have N1004 := Fr.snoc X1004 N993 g1
  have s1005 : n0 ≤ h1004.size := Nat.le_trans s1002 (Keep.of_wr W1004).1
  have z1006 : T993.heap.size ≤ h1004.size := Nat.le_trans (Nat.le_refl _) (Keep.of_wr W1004).1
  have f1007 := own_FL.other W1004 Fd (Ne.symm (Nat.ne_of_lt lt946))
  have f1008 := Exa.wr W1004 f996
  have f1009 := Fld.other W1004 f998 (Or.inr (slot_ne (Or.inl (own_w hw 110 rfl)) (Or.inr (own_w hw 108 rfl)) (by decide) (t := .int) (t' := (.object "com/example/holdfast/holdfast/dom/CompactDocument")) (by decide) (by decide)))
  have f1010 := Fld.other W1004 f999 (Or.inr (slot_ne (Or.inr (own_w hw 136 rfl)) (Or.inr (own_w hw 108 rfl)) (by decide) (t := (.object "java/util/List")) (t' := (.object "com/example/holdfast/holdfast/dom/CompactDocument")) (by decide) (by decide)))
  have f1011 := Fld.other W1004 f1000 (Or.inr (slot_ne (Or.inl (own_w hw 140 rfl)) (Or.inr (own_w hw 108 rfl)) (by decide) (t := (.array (.object "com/example/holdfast/holdfast/dom/CompactDocument$Namespaces"))) (t' := (.object "com/example/holdfast/holdfast/dom/CompactDocument")) (by decide) (by decide)))
  have f1012 := Sta.wr W1004 f995
  have f1013 := Exa.wr W1004 Ed
  have f1014 := Ad_0.other W1004 (by show @Ne Nat _ _; omega)
  have f1015 := Ad_1.other W1004 (by show @Ne Nat _ _; omega)
  have f1016 := Ad_2.other W1004 (by show @Ne Nat _ _; omega)
  have f1017 := Ad_3.other W1004 (by show @Ne Nat _ _; omega)
  have f1018 := Ad_4.other W1004 (by show @Ne Nat _ _; omega)
  have f1019 := Ad_5.other W1004 (by show @Ne Nat _ _; omega)
  have f1020 := Ad_6.other W1004 (by show @Ne Nat _ _; omega)
  have f1021 := Ad_7.other W1004 (by show @Ne Nat _ _; omega)
  have f1022 := Ad_8.other W1004 (by show @Ne Nat _ _; omega)
  have f1023 := Ad_9.other W1004 (by show @Ne Nat _ _; omega)
  have K1024 := K1003.wr W1004 (Or.inl (by simp))
  have f1025 := Fld.same W1004 f997
  refine own_s st1004 ?_
  show own_E p e below _ (T1004.setTop (mkF m 15 #[.val (.ref a1), .val .null, .val (.int (0 : Int32)), .val (.int (0 : Int32))] []))
  refine own_g (mkF m 16 #[.val (.ref a1), .val .null, .val (.int (0 : Int32)), .val (.int (0 : Int32))] [(.ref a1)]) (fun _ kz => XS.aloadN X1004.here hx rfl (hb hby od_122_2_15) rfl rfl kz) ?_
  refine own_g (mkF m 17 #[.val (.ref a1), .val .null, .val (.int (0 : Int32)), .val (.int (0 : Int32))] [(.int (-1 : Int32)), (.ref a1)]) (fun _ kz => XS.iconst X1004.here hx rfl (hb hby od_122_2_16) kz) ?_
  obtain ⟨T1026, h1026, X1026, e1026, W1026, st1026⟩ := putF X1004 hx hZ hown (host := "") (Or.inl (own_w hw 109 rfl)) Via.refl e1004 f1009 f1008 (Or.inl (own_w hw 110 rfl)) (own_w hw 1 rfl) (ty := .int) (by decide) rfl rfl (g := (mkF m 17 #[.val (.ref a1), .val .null, .val (.int (0 : Int32)), .val (.int (0 : Int32))] [(.int (-1 : Int32)), (.ref a1)])) rfl rfl (hb hby od_122_2_17)
  have N1026 := Fr.snoc X1026 N1004 g1
  have s1027 : n0 ≤ h1026.size := Nat.le_trans s1005 (Keep.of_wr W1026).1
  have z1028 : T993.heap.size ≤ h1026.size := Nat.le_trans z1006 (Keep.of_wr W1026).1
  have f1029 := own_FL.other W1026 f1007 (Ne.symm (Nat.ne_of_lt lt946))
  have f1030 := Exa.wr W1026 f1008
  have f1031 := Fld.other W1026 f1025 (Or.inr (slot_ne (Or.inr (own_w hw 108 rfl)) (Or.inl (own_w hw 110 rfl)) (by decide) (t := (.object "com/example/holdfast/holdfast/dom/CompactDocument")) (t' := .int) (by decide) (by decide)))
  have f1032 := Fld.other W1026 f1010 (Or.inr (slot_ne (Or.inr (own_w hw 136 rfl)) (Or.inl (own_w hw 110 rfl)) (by decide) (t := (.object "java/util/List")) (t' := .int) (by decide) (by decide)))
  have f1033 := Fld.other W1026 f1011 (Or.inr (slot_ne (Or.inl (own_w hw 140 rfl)) (Or.inl (own_w hw 110 rfl)) (by decide) (t := (.array (.object "com/example/holdfast/holdfast/dom/CompactDocument$Namespaces"))) (t' := .int) (by decide) (by decide)))
  have f1034 := Sta.wr W1026 f1012
  have f1035 := Exa.wr W1026 f1013
  have f1036 := f1014.other W1026 (by show @Ne Nat _ _; omega)
  have f1037 := f1015.other W1026 (by show @Ne Nat _ _; omega)
  have f1038 := f1016.other W1026 (by show @Ne Nat _ _; omega)
  have f1039 := f1017.other W1026 (by show @Ne Nat _ _; omega)
  have f1040 := f1018.other W1026 (by show @Ne Nat _ _; omega)
  have f1041 := f1019.other W1026 (by show @Ne Nat _ _; omega)
  have f1042 := f1020.other W1026 (by show @Ne Nat _ _; omega)
  have f1043 := f1021.other W1026 (by show @Ne Nat _ _; omega)
  have f1044 := f1022.other W1026 (by show @Ne Nat _ _; omega)
  have f1045 := f1023.other W1026 (by show @Ne Nat _ _; omega)
  have K1046 := K1024.wr W1026 (Or.inl (by simp))
  have f1047 := Fld.same W1026 f1009
  refine own_s st1026 ?_
  show own_E p e below _ (T1026.setTop (mkF m 20 #[.val (.ref a1), .val .null, .val (.int (0 : Int32)), .val (.int (0 : Int32))] []))
  refine own_g (mkF m 21 #[.val (.ref a1), .val .null, .val (.int (0 : Int32)), .val (.int (0 : Int32))] [(.ref a1)]) (fun _ kz => XS.aloadN X1026.here hx rfl (hb hby od_122_2_20) rfl rfl kz) ?_
  obtain ⟨T1048, h1048, X1048, e1048, E1048, A1048, D1048, -, st1048⟩ := newO X1026 hx hZ hown (own_w hw 111 rfl) (own_w hw 112 rfl) (own_w hw 113 rfl) e1026 (g := (mkF m 21 #[.val (.ref a1), .val .null, .val (.int (0 : Int32)), .val (.int (0 : Int32))] [(.ref a1)])) rfl (hb hby od_122_2_21) (by decide) (by decide)
  obtain ⟨o1048, g1048⟩ : ∃ z, z = h1026.size := ⟨_, rfl⟩
  rw [← g1048] at A1048 D1048 st1048
  have lt1049 : o945 < o1048 := Nat.lt_of_lt_of_le f1029.lt (Nat.le_of_eq g1048.symm)
  have lt1050 : a1 < o1048 := Nat.lt_of_lt_of_le f1030.lt (Nat.le_of_eq g1048.symm)
  have lt1051 : (bb 0) < o1048 := Nat.lt_of_lt_of_le f1036.lt (Nat.le_of_eq g1048.symm)
  have lt1052 : (bb 1) < o1048 := Nat.lt_of_lt_of_le f1037.lt (Nat.le_of_eq g1048.symm)
  have lt1053 : (bb 2) < o1048 := Nat.lt_of_lt_of_le f1038.lt (Nat.le_of_eq g1048.symm)
  have lt1054 : (bb 3) < o1048 := Nat.lt_of_lt_of_le f1039.lt (Nat.le_of_eq g1048.symm)
  have lt1055 : (bb 4) < o1048 := Nat.lt_of_lt_of_le f1040.lt (Nat.le_of_eq g1048.symm)
  have lt1056 : (bb 5) < o1048 := Nat.lt_of_lt_of_le f1041.lt (Nat.le_of_eq g1048.symm)
  have lt1057 : (bb 6) < o1048 := Nat.lt_of_lt_of_le f1042.lt (Nat.le_of_eq g1048.symm)
  have lt1058 : (bb 7) < o1048 := Nat.lt_of_lt_of_le f1043.lt (Nat.le_of_eq g1048.symm)
  have lt1059 : (bb 8) < o1048 := Nat.lt_of_lt_of_le f1044.lt (Nat.le_of_eq g1048.symm)
  have lt1060 : (bb 9) < o1048 := Nat.lt_of_lt_of_le f1045.lt (Nat.le_of_eq g1048.symm)
  have b1061 : n0 ≤ o1048 := Nat.le_trans s1027 (Nat.le_of_eq g1048.symm)
  have z1062 : h0.size ≤ o1048 := Nat.le_trans K1046.1 (Nat.le_of_eq g1048.symm)
  have f1063 := own_FL.ext E1048 f1029
  have f1064 := Exa.ext E1048 f1030
  have f1065 := Fld.ext E1048 f1031
  have f1066 := Fld.ext E1048 f1047
  have f1067 := Fld.ext E1048 f1032
  have f1068 := Fld.ext E1048 f1033
  have f1069 := Sta.ext E1048 f1034
  have f1070 := Exa.ext E1048 f1035
  have f1071 := f1036.ext E1048
  have f1072 := f1037.ext E1048
  have f1073 := f1038.ext E1048
  have f1074 := f1039.ext E1048
  have f1075 := f1040.ext E1048
  have f1076 := f1041.ext E1048
  have f1077 := f1042.ext E1048
  have f1078 := f1043.ext E1048
  have f1079 := f1044.ext E1048
  have f1080 := f1045.ext E1048
  have K1081 := K1046.ext E1048
  have s1082 : n0 ≤ h1048.size := Nat.le_trans s1027 E1048.1
  have z1083 : T993.heap.size ≤ h1048.size := Nat.le_trans z1028 E1048.1
  have f1084 : Fld Z h1048 o1048 "java/util/AbstractList" "modCount" "I" (.int (0 : Int32)) := D1048 (Or.inl (own_w hw 131 rfl)) (ty := .int) (by decide)
  have f1085 : Fld Z h1048 o1048 "java/util/ArrayList" "elementData" "[Ljava/lang/Object;" .null := D1048 (Or.inl (own_w hw 134 rfl)) (ty := (.array (.object "java/lang/Object"))) (by decide)
  refine own_s st1048 ?_
  show own_E p e below _ (T1048.setTop (mkF m 24 #[.val (.ref a1), .val .null, .val (.int (0 : Int32)), .val (.int (0 : Int32))] [(.ref o1048), (.ref a1)]))
  refine own_g (mkF m 25 #[.val (.ref a1), .val .null, .val (.int (0 : Int32)), .val (.int (0 : Int32))] [(.ref o1048), (.ref o1048), (.ref a1)]) (fun _ kz => XS.dup X1048.here hx rfl (hb hby od_122_2_24) rfl rfl kz) ?_
  refine own_callI (rest := [(.ref o1048), (.ref a1)]) (a := o1048) (as := []) X1048 hx hZ hown e1048 (own_c_al l Z a0 hw o1048 sv h1048 n0 s1082 b1061 A1048 f1084 f1085 f1069) rfl (own_w hw 114 rfl) (own_w hw 115 rfl) (own_w hw 113 rfl) (own_w hw 116 rfl) (by decide) own_pd0 rfl (by rw [hml]; rfl) rfl (hb hby od_122_2_25) 2 (by show 2 * 0 + _ ≤ _; exact Nat.le_of_eq rfl) (by decide) (by decide) (by decide) (by decide) ?_
  rintro _ T1086 L1086 X1086 ⟨rfl, Nq1086, K1086q⟩
  have N1086 := Fr.app N1026 Nq1086
  have f1088 := own_staK f1069 K1086q (allS (own_plE A1048) all0)
  have f1089 := own_FL.keep f1063 K1086q (ninS (Nat.ne_of_lt lt1049) nin0)
  have f1090 := Exa.keep f1064 K1086q
  have f1091 := Fld.keep f1065 K1086q (ninS (Nat.ne_of_lt lt1050) nin0)
  have f1092 := Fld.keep f1066 K1086q (ninS (Nat.ne_of_lt lt1050) nin0)
  have f1093 := Fld.keep f1067 K1086q (ninS (Nat.ne_of_lt lt1050) nin0)
  have f1094 := Fld.keep f1068 K1086q (ninS (Nat.ne_of_lt lt1050) nin0)
  have f1095 := Exa.keep f1070 K1086q
  have f1096 := own_IA.keep f1071 K1086q (ninS (Nat.ne_of_lt lt1051) nin0)
  have f1097 := own_IA.keep f1072 K1086q (ninS (Nat.ne_of_lt lt1052) nin0)
  have f1098 := own_IA.keep f1073 K1086q (ninS (Nat.ne_of_lt lt1053) nin0)
  have f1099 := own_IA.keep f1074 K1086q (ninS (Nat.ne_of_lt lt1054) nin0)
  have f1100 := own_IA.keep f1075 K1086q (ninS (Nat.ne_of_lt lt1055) nin0)
  have f1101 := own_IA.keep f1076 K1086q (ninS (Nat.ne_of_lt lt1056) nin0)
  have f1102 := own_IA.keep f1077 K1086q (ninS (Nat.ne_of_lt lt1057) nin0)
  have f1103 := own_IA.keep f1078 K1086q (ninS (Nat.ne_of_lt lt1058) nin0)
  have f1104 := own_IA.keep f1079 K1086q (ninS (Nat.ne_of_lt lt1059) nin0)
  have f1105 := own_IA.keep f1080 K1086q (ninS (Nat.ne_of_lt lt1060) nin0)
  have f1106 := Exa.keep A1048 K1086q
  have s1109 : n0 ≤ T1086.heap.size := Nat.le_trans s1082 K1086q.1
  have K1110 := K1081.trans K1086q (allS (Or.inr z1062) all0)
  show own_E p e below _ (T1086.setTop (mkF m 28 #[.val (.ref a1), .val .null, .val (.int (0 : Int32)), .val (.int (0 : Int32))] [(.ref o1048), (.ref a1)]))
  have z1111 : T993.heap.size ≤ T1086.heap.size := Nat.le_trans z1083 K1086q.1
  obtain ⟨T1112, h1112, X1112, e1112, W1112, st1112⟩ := putF X1086 hx hZ hown (host := "") (Or.inl (own_w hw 135 rfl)) Via.refl rfl f1093 f1090 (Or.inr ⟨(own_w hw 136 rfl), rfl, hnm⟩) (own_w hw 1 rfl) (ty := (.object "java/util/List")) (by decide) rfl rfl (g := (mkF m 28 #[.val (.ref a1), .val .null, .val (.int (0 : Int32)), .val (.int (0 : Int32))] [(.ref o1048), (.ref a1)])) rfl rfl (hb hby od_122_2_28)
  have N1112 := Fr.snoc X1112 N1086 g1
  have s1113 : n0 ≤ h1112.size := Nat.le_trans s1109 (Keep.of_wr W1112).1
  have z1114 : T993.heap.size ≤ h1112.size := Nat.le_trans z1111 (Keep.of_wr W1112).1
  have f1115 := own_FL.other W1112 f1089 (Ne.symm (Nat.ne_of_lt lt946))
  have f1116 := Exa.wr W1112 f1090
  have f1117 := Fld.other W1112 f1091 (Or.inr (slot_ne (Or.inr (own_w hw 108 rfl)) (Or.inr (own_w hw 136 rfl)) (by decide) (t := (.object "com/example/holdfast/holdfast/dom/CompactDocument")) (t' := (.object "java/util/List")) (by decide) (by decide)))
  have f1118 := Fld.other W1112 f1092 (Or.inr (slot_ne (Or.inl (own_w hw 110 rfl)) (Or.inr (own_w hw 136 rfl)) (by decide) (t := .int) (t' := (.object "java/util/List")) (by decide) (by decide)))
  have f1119 := Fld.other W1112 f1094 (Or.inr (slot_ne (Or.inl (own_w hw 140 rfl)) (Or.inr (own_w hw 136 rfl)) (by decide) (t := (.array (.object "com/example/holdfast/holdfast/dom/CompactDocument$Namespaces"))) (t' := (.object "java/util/List")) (by decide) (by decide)))
  have f1120 := Exa.wr W1112 f1095
  have f1121 := f1096.other W1112 (by show @Ne Nat _ _; omega)
  have f1122 := f1097.other W1112 (by show @Ne Nat _ _; omega)
  have f1123 := f1098.other W1112 (by show @Ne Nat _ _; omega)
  have f1124 := f1099.other W1112 (by show @Ne Nat _ _; omega)
  have f1125 := f1100.other W1112 (by show @Ne Nat _ _; omega)
  have f1126 := f1101.other W1112 (by show @Ne Nat _ _; omega)
  have f1127 := f1102.other W1112 (by show @Ne Nat _ _; omega)
  have f1128 := f1103.other W1112 (by show @Ne Nat _ _; omega)
  have f1129 := f1104.other W1112 (by show @Ne Nat _ _; omega)
  have f1130 := f1105.other W1112 (by show @Ne Nat _ _; omega)
  have K1131 := K1110.wr W1112 (Or.inl (by simp))
  have f1132 := Fld.same W1112 f1093
  refine own_s st1112 ?_
  show own_E p e below _ (T1112.setTop (mkF m 31 #[.val (.ref a1), .val .null, .val (.int (0 : Int32)), .val (.int (0 : Int32))] []))
  refine own_g (mkF m 32 #[.val (.ref a1), .val .null, .val (.int (0 : Int32)), .val (.int (0 : Int32))] [(.ref a1)]) (fun _ kz => XS.aloadN X1112.here hx rfl (hb hby od_122_2_31) rfl rfl kz) ?_
  refine own_g (mkF m 34 #[.val (.ref a1), .val .null, .val (.int (0 : Int32)), .val (.int (0 : Int32))] [(.int (16 : Int32)), (.ref a1)]) (fun _ kz => XS.bipush X1112.here hx rfl (hb hby od_122_2_32) kz) ?_
  obtain ⟨T1133, h1133, k1133, X1133, e1133, E1133, A1133, O1133, st1133⟩ := newR X1112 hx hZ hown (own_w hw 137 rfl) (own_w hw 138 rfl) e1112 (g := (mkF m 34 #[.val (.ref a1), .val .null, .val (.int (0 : Int32)), .val (.int (0 : Int32))] [(.int (16 : Int32)), (.ref a1)])) rfl (hb hby od_122_2_34) rfl (by decide) (cap := 16) (by decide) (by decide) (by decide) (by decide)
  obtain ⟨o1133, g1133⟩ : ∃ z, z = h1112.size := ⟨_, rfl⟩
  rw [← g1133] at A1133 st1133
  have lt1134 : o945 < o1133 := Nat.lt_of_lt_of_le f1115.lt (Nat.le_of_eq g1133.symm)
  have lt1135 : a1 < o1133 := Nat.lt_of_lt_of_le f1116.lt (Nat.le_of_eq g1133.symm)
  have lt1136 : (bb 0) < o1133 := Nat.lt_of_lt_of_le f1121.lt (Nat.le_of_eq g1133.symm)
  have lt1137 : (bb 1) < o1133 := Nat.lt_of_lt_of_le f1122.lt (Nat.le_of_eq g1133.symm)
  have lt1138 : (bb 2) < o1133 := Nat.lt_of_lt_of_le f1123.lt (Nat.le_of_eq g1133.symm)
  have lt1139 : (bb 3) < o1133 := Nat.lt_of_lt_of_le f1124.lt (Nat.le_of_eq g1133.symm)
  have lt1140 : (bb 4) < o1133 := Nat.lt_of_lt_of_le f1125.lt (Nat.le_of_eq g1133.symm)
  have lt1141 : (bb 5) < o1133 := Nat.lt_of_lt_of_le f1126.lt (Nat.le_of_eq g1133.symm)
  have lt1142 : (bb 6) < o1133 := Nat.lt_of_lt_of_le f1127.lt (Nat.le_of_eq g1133.symm)
  have lt1143 : (bb 7) < o1133 := Nat.lt_of_lt_of_le f1128.lt (Nat.le_of_eq g1133.symm)
  have lt1144 : (bb 8) < o1133 := Nat.lt_of_lt_of_le f1129.lt (Nat.le_of_eq g1133.symm)
  have lt1145 : (bb 9) < o1133 := Nat.lt_of_lt_of_le f1130.lt (Nat.le_of_eq g1133.symm)
  have b1146 : n0 ≤ o1133 := Nat.le_trans s1113 (Nat.le_of_eq g1133.symm)
  have z1147 : h0.size ≤ o1133 := Nat.le_trans K1131.1 (Nat.le_of_eq g1133.symm)
  have f1148 := own_FL.ext E1133 f1115
  have f1149 := Exa.ext E1133 f1116
  have f1150 := Fld.ext E1133 f1117
  have f1151 := Fld.ext E1133 f1118
  have f1152 := Fld.ext E1133 f1132
  have f1153 := Fld.ext E1133 f1119
  have f1154 := Exa.ext E1133 f1120
  have f1155 := f1121.ext E1133
  have f1156 := f1122.ext E1133
  have f1157 := f1123.ext E1133
  have f1158 := f1124.ext E1133
  have f1159 := f1125.ext E1133
  have f1160 := f1126.ext E1133
  have f1161 := f1127.ext E1133
  have f1162 := f1128.ext E1133
  have f1163 := f1129.ext E1133
  have f1164 := f1130.ext E1133
  have K1165 := K1131.ext E1133
  have s1166 : n0 ≤ h1133.size := Nat.le_trans s1113 E1133.1
  have z1167 : T993.heap.size ≤ h1133.size := Nat.le_trans z1114 E1133.1
  refine own_s st1133 ?_
  show own_E p e below _ (T1133.setTop (mkF m 37 #[.val (.ref a1), .val .null, .val (.int (0 : Int32)), .val (.int (0 : Int32))] [(.ref o1133), (.ref a1)]))
  obtain ⟨T1168, h1168, X1168, e1168, W1168, st1168⟩ := putF X1133 hx hZ hown (host := "") (Or.inl (own_w hw 139 rfl)) Via.refl e1133 f1153 f1149 (Or.inl (own_w hw 140 rfl)) (own_w hw 1 rfl) (ty := (.array (.object "com/example/holdfast/holdfast/dom/CompactDocument$Namespaces"))) (by decide) rfl rfl (g := (mkF m 37 #[.val (.ref a1), .val .null, .val (.int (0 : Int32)), .val (.int (0 : Int32))] [(.ref o1133), (.ref a1)])) rfl rfl (hb hby od_122_2_37)
  have N1168 := Fr.snoc X1168 N1112 g1
  have s1169 : n0 ≤ h1168.size := Nat.le_trans s1166 (Keep.of_wr W1168).1
  have z1170 : T993.heap.size ≤ h1168.size := Nat.le_trans z1167 (Keep.of_wr W1168).1
  have f1171 := own_FL.other W1168 f1148 (Ne.symm (Nat.ne_of_lt lt946))
  have f1172 := Arr.other W1168 A1133 (Ne.symm (Nat.ne_of_lt lt1135))
  have f1173 := Exa.wr W1168 f1149
  have f1174 := Fld.other W1168 f1150 (Or.inr (slot_ne (Or.inr (own_w hw 108 rfl)) (Or.inl (own_w hw 140 rfl)) (by decide) (t := (.object "com/example/holdfast/holdfast/dom/CompactDocument")) (t' := (.array (.object "com/example/holdfast/holdfast/dom/CompactDocument$Namespaces"))) (by decide) (by decide)))
  have f1175 := Fld.other W1168 f1151 (Or.inr (slot_ne (Or.inl (own_w hw 110 rfl)) (Or.inl (own_w hw 140 rfl)) (by decide) (t := .int) (t' := (.array (.object "com/example/holdfast/holdfast/dom/CompactDocument$Namespaces"))) (by decide) (by decide)))
  have f1176 := Fld.other W1168 f1152 (Or.inr (slot_ne (Or.inr (own_w hw 136 rfl)) (Or.inl (own_w hw 140 rfl)) (by decide) (t := (.object "java/util/List")) (t' := (.array (.object "com/example/holdfast/holdfast/dom/CompactDocument$Namespaces"))) (by decide) (by decide)))
  have f1177 := Exa.wr W1168 f1154
  have f1178 := f1155.other W1168 (by show @Ne Nat _ _; omega)
  have f1179 := f1156.other W1168 (by show @Ne Nat _ _; omega)
  have f1180 := f1157.other W1168 (by show @Ne Nat _ _; omega)
  have f1181 := f1158.other W1168 (by show @Ne Nat _ _; omega)
  have f1182 := f1159.other W1168 (by show @Ne Nat _ _; omega)
  have f1183 := f1160.other W1168 (by show @Ne Nat _ _; omega)
  have f1184 := f1161.other W1168 (by show @Ne Nat _ _; omega)
  have f1185 := f1162.other W1168 (by show @Ne Nat _ _; omega)
  have f1186 := f1163.other W1168 (by show @Ne Nat _ _; omega)
  have f1187 := f1164.other W1168 (by show @Ne Nat _ _; omega)
  have K1188 := K1165.wr W1168 (Or.inl (by simp))
  have f1189 := Fld.same W1168 f1153
  refine own_s st1168 ?_
  show own_E p e below _ (T1168.setTop (mkF m 40 #[.val (.ref a1), .val .null, .val (.int (0 : Int32)), .val (.int (0 : Int32))] []))
  refine own_g (mkF m 41 #[.val (.ref a1), .val .null, .val (.int (0 : Int32)), .val (.int (0 : Int32))] [(.ref a1)]) (fun _ kz => XS.aloadN X1168.here hx rfl (hb hby od_122_2_40) rfl rfl kz) ?_
  obtain ⟨T1190, X1190, e1190, st1190⟩ := getF X1168 hx hZ hown (host := "") (Or.inl (own_w hw 107 rfl)) Via.refl e1168 f1174 (g := (mkF m 41 #[.val (.ref a1), .val .null, .val (.int (0 : Int32)), .val (.int (0 : Int32))] [(.ref a1)])) rfl rfl (hb hby od_122_2_41)
  refine own_s st1190 ?_
  show own_E p e below _ (T1190.setTop (mkF m 44 #[.val (.ref a1), .val .null, .val (.int (0 : Int32)), .val (.int (0 : Int32))] [(.ref o945)]))
  refine own_g (mkF m 45 #[.val (.ref a1), .val .null, .val (.int (0 : Int32)), .val (.int (0 : Int32))] [.null, (.ref o945)]) (fun _ kz => XS.aloadN X1190.here hx rfl (hb hby od_122_2_44) rfl rfl kz) ?_
  obtain ⟨T1191, h1191, X1191, e1191, W1191, st1191⟩ := putF X1190 hx hZ hown (Or.inr (own_w hw 141 rfl)) Via.refl e1190 (show Fld Z h1168 o945 "com/example/holdfast/holdfast/dom/CompactDocument" "documentUri" "Ljava/lang/String;" .null from own_FLg f1171 23 (by decide) qd_11) f1177 (Or.inl (own_w hw 142 rfl)) (own_w hw 13 rfl) (ty := (.object "java/lang/String")) (by decide) rfl rfl (g := (mkF m 45 #[.val (.ref a1), .val .null, .val (.int (0 : Int32)), .val (.int (0 : Int32))] [.null, (.ref o945)])) rfl rfl (hb hby od_122_2_45)
  have N1191 := Fr.snoc X1191 N1168 b947
  have s1192 : n0 ≤ h1191.size := Nat.le_trans s1169 (Keep.of_wr W1191).1
  have z1193 : T993.heap.size ≤ h1191.size := Nat.le_trans z1170 (Keep.of_wr W1191).1
  have f1194 := own_FL.wr hw f1171 23 (by decide) W1191
  have f1195 := Arr.other W1191 f1172 (Ne.symm (Nat.ne_of_lt lt1134))
  have f1196 := Exa.wr W1191 f1173
  have f1197 := Fld.other W1191 f1174 (Or.inl (Nat.ne_of_lt lt946))
  have f1198 := Fld.other W1191 f1175 (Or.inl (Nat.ne_of_lt lt946))
  have f1199 := Fld.other W1191 f1176 (Or.inl (Nat.ne_of_lt lt946))
  have f1200 := Fld.other W1191 f1189 (Or.inl (Nat.ne_of_lt lt946))
  have f1201 := Exa.wr W1191 f1177
  have f1202 := f1178.other W1191 (by show @Ne Nat _ _; omega)
  have f1203 := f1179.other W1191 (by show @Ne Nat _ _; omega)
  have f1204 := f1180.other W1191 (by show @Ne Nat _ _; omega)
  have f1205 := f1181.other W1191 (by show @Ne Nat _ _; omega)
  have f1206 := f1182.other W1191 (by show @Ne Nat _ _; omega)
  have f1207 := f1183.other W1191 (by show @Ne Nat _ _; omega)
  have f1208 := f1184.other W1191 (by show @Ne Nat _ _; omega)
  have f1209 := f1185.other W1191 (by show @Ne Nat _ _; omega)
  have f1210 := f1186.other W1191 (by show @Ne Nat _ _; omega)
  have f1211 := f1187.other W1191 (by show @Ne Nat _ _; omega)
  have K1212 := K1188.wr W1191 (Or.inr z948)
  refine own_s st1191 ?_
  show own_E p e below _ (T1191.setTop (mkF m 48 #[.val (.ref a1), .val .null, .val (.int (0 : Int32)), .val (.int (0 : Int32))] []))
  refine own_g (mkF m 49 #[.val (.ref a1), .val .null, .val (.int (0 : Int32)), .val (.int (0 : Int32))] [(.int (0 : Int32))]) (fun _ kz => XS.iloadN X1191.here hx rfl (hb hby od_122_2_48) rfl kz) ?_
  refine own_g (mkF m 50 #[.val (.ref a1), .val .null, .val (.int (0 : Int32)), .val (.int (0 : Int32))] [(.ref a1), (.int (0 : Int32))]) (fun _ kz => XS.aloadN X1191.here hx rfl (hb hby od_122_2_49) rfl rfl kz) ?_
  obtain ⟨T1213, X1213, e1213, st1213⟩ := getF X1191 hx hZ hown (host := "") (Or.inl (own_w hw 107 rfl)) Via.refl e1191 f1197 (g := (mkF m 50 #[.val (.ref a1), .val .null, .val (.int (0 : Int32)), .val (.int (0 : Int32))] [(.ref a1), (.int (0 : Int32))])) rfl rfl (hb hby od_122_2_50)
  refine own_s st1213 ?_
  show own_E p e below _ (T1213.setTop (mkF m 53 #[.val (.ref a1), .val .null, .val (.int (0 : Int32)), .val (.int (0 : Int32))] [(.ref o945), (.int (0 : Int32))]))
  obtain ⟨T1214, X1214, e1214, st1214⟩ := getF X1213 hx hZ hown (Or.inr (own_w hw 143 rfl)) Via.refl e1213 (show Fld Z h1191 o945 "com/example/holdfast/holdfast/dom/CompactDocument" "types" "[B" (.ref (bb 0)) from own_FLg f1194 2 (by decide) (kd 0 (by decide))) (g := (mkF m 53 #[.val (.ref a1), .val .null, .val (.int (0 : Int32)), .val (.int (0 : Int32))] [(.ref o945), (.int (0 : Int32))])) rfl rfl (hb hby od_122_2_53)
  refine own_s st1214 ?_
  show own_E p e below _ (T1214.setTop (mkF m 56 #[.val (.ref a1), .val .null, .val (.int (0 : Int32)), .val (.int (0 : Int32))] [(.ref (bb 0)), (.int (0 : Int32))]))
  refine own_lenI X1214 hx hZ e1214 f1202 (hb hby od_122_2_56) (z := (64 : Int32)) rfl ?_
  show own_E p e below _ (T1214.setTop (mkF m 57 #[.val (.ref a1), .val .null, .val (.int (0 : Int32)), .val (.int (0 : Int32))] [(.int (64 : Int32)), (.int (0 : Int32))]))
  refine own_g (mkF m 68 #[.val (.ref a1), .val .null, .val (.int (0 : Int32)), .val (.int (0 : Int32))] []) (fun _ kz => XS.icmpYes X1214.here hx rfl (pc0 := 57) (pc' := 68) rfl (hb hby od_122_2_57) rfl (flt (by decide)).2.2.2 (by decide) (by decide) kz) ?_
  refine own_g (mkF m 69 #[.val (.ref a1), .val .null, .val (.int (0 : Int32)), .val (.int (0 : Int32))] [(.ref a1)]) (fun _ kz => XS.aloadN X1214.here hx rfl (hb hby od_122_2_68) rfl rfl kz) ?_
  obtain ⟨T1215, X1215, e1215, st1215⟩ := getF X1214 hx hZ hown (host := "") (Or.inl (own_w hw 107 rfl)) Via.refl e1214 f1197 (g := (mkF m 69 #[.val (.ref a1), .val .null, .val (.int (0 : Int32)), .val (.int (0 : Int32))] [(.ref a1)])) rfl rfl (hb hby od_122_2_69)
  refine own_s st1215 ?_
  show own_E p e below _ (T1215.setTop (mkF m 72 #[.val (.ref a1), .val .null, .val (.int (0 : Int32)), .val (.int (0 : Int32))] [(.ref o945)]))
  refine own_g (mkF m 75 #[.val (.ref a1), .val .null, .val (.int (0 : Int32)), .val (.int (0 : Int32))] [(.int (1024 : Int32)), (.ref o945)]) (fun _ kz => XS.sipush X1215.here hx rfl (hb hby od_122_2_72) kz) ?_
  refine own_g (mkF m 76 #[.val (.ref a1), .val .null, .val (.int (0 : Int32)), .val (.int (0 : Int32))] [(.int (0 : Int32)), (.int (1024 : Int32)), (.ref o945)]) (fun _ kz => XS.iloadN X1215.here hx rfl (hb hby od_122_2_75) rfl kz) ?_
  refine own_g (mkF m 78 #[.val (.ref a1), .val .null, .val (.int (0 : Int32)), .val (.int (0 : Int32))] [(.int (16 : Int32)), (.int (0 : Int32)), (.int (1024 : Int32)), (.ref o945)]) (fun _ kz => XS.bipush X1215.here hx rfl (hb hby od_122_2_76) kz) ?_
  refine own_g (mkF m 79 #[.val (.ref a1), .val .null, .val (.int (0 : Int32)), .val (.int (0 : Int32))] [(.int ((0 : Int32) / (16 : Int32))), (.int (1024 : Int32)), (.ref o945)]) (fun _ kz => XS.idiv X1215.here hx rfl (hb hby od_122_2_78) rfl (by decide) kz) ?_
  rw [show ((0 : Int32) / (16 : Int32)) = (0 : Int32) from by decide]
  show own_E p e below _ (T1215.setTop (mkF m 79 #[.val (.ref a1), .val .null, .val (.int (0 : Int32)), .val (.int (0 : Int32))] [(.int (0 : Int32)), (.int (1024 : Int32)), (.ref o945)]))
  refine own_callS (rest := [(.ref o945)]) (as := [(.int (1024 : Int32)), (.int (0 : Int32))]) X1215 hx hZ hown e1215 (own_c_max l Z a0 hw (1024 : Int32) (0 : Int32) h1191) (own_w hw 144 rfl) (own_w hw 145 rfl) (own_w hw 146 rfl) (own_w hw 147 rfl) (by decide) own_pd2 rfl (by rw [hml]; rfl) rfl (hb hby od_122_2_79) 1 (by show 2 * 0 + _ ≤ _; exact Nat.le_of_eq rfl) (by decide) (by decide) (by decide) (by decide) ?_
  rintro _ T1216 L1216 X1216 ⟨rfl, rfl, e1216⟩
  have N1216 := Fr.app N1191 (Fr.nil n0)
  show own_E p e below _ (T1216.setTop (mkF m 82 #[.val (.ref a1), .val .null, .val (.int (0 : Int32)), .val (.int (0 : Int32))] [(.int (own_max (1024 : Int32) (0 : Int32))), (.ref o945)]))
  rw [show own_max (1024 : Int32) (0 : Int32) = 1024 from by decide]
  show own_E p e below _ (T1216.setTop (mkF m 82 #[.val (.ref a1), .val .null, .val (.int (0 : Int32)), .val (.int (0 : Int32))] [(.int (1024 : Int32)), (.ref o945)]))
  refine own_newI X1216 hx hZ e1216 (own_w hw 62 rfl) rfl (hb hby od_122_2_82) (by decide) (n := 1024) rfl 1024 (by decide) (by decide) (by decide) (by decide) ?_
  intro T1217 h1217 o1217 g1217 X1217 e1217 E1217 A1217
  have lt1218 : o945 < o1217 := Nat.lt_of_lt_of_le f1194.lt (Nat.le_of_eq g1217.symm)
  have lt1219 : a1 < o1217 := Nat.lt_of_lt_of_le f1196.lt (Nat.le_of_eq g1217.symm)
  have lt1220 : (bb 0) < o1217 := Nat.lt_of_lt_of_le f1202.lt (Nat.le_of_eq g1217.symm)
  have lt1221 : (bb 1) < o1217 := Nat.lt_of_lt_of_le f1203.lt (Nat.le_of_eq g1217.symm)
  have lt1222 : (bb 2) < o1217 := Nat.lt_of_lt_of_le f1204.lt (Nat.le_of_eq g1217.symm)
  have lt1223 : (bb 3) < o1217 := Nat.lt_of_lt_of_le f1205.lt (Nat.le_of_eq g1217.symm)
  have lt1224 : (bb 4) < o1217 := Nat.lt_of_lt_of_le f1206.lt (Nat.le_of_eq g1217.symm)
  have lt1225 : (bb 5) < o1217 := Nat.lt_of_lt_of_le f1207.lt (Nat.le_of_eq g1217.symm)
  have lt1226 : (bb 6) < o1217 := Nat.lt_of_lt_of_le f1208.lt (Nat.le_of_eq g1217.symm)
  have lt1227 : (bb 7) < o1217 := Nat.lt_of_lt_of_le f1209.lt (Nat.le_of_eq g1217.symm)
  have lt1228 : (bb 8) < o1217 := Nat.lt_of_lt_of_le f1210.lt (Nat.le_of_eq g1217.symm)
  have lt1229 : (bb 9) < o1217 := Nat.lt_of_lt_of_le f1211.lt (Nat.le_of_eq g1217.symm)
  have lt1230 : o1133 < o1217 := Nat.lt_of_lt_of_le f1195.lt (Nat.le_of_eq g1217.symm)
  have b1231 : n0 ≤ o1217 := Nat.le_trans s1192 (Nat.le_of_eq g1217.symm)
  have z1232 : h0.size ≤ o1217 := Nat.le_trans K1212.1 (Nat.le_of_eq g1217.symm)
  have f1233 := own_FL.ext E1217 f1194
  have f1234 := Arr.ext E1217 f1195
  have f1235 := Exa.ext E1217 f1196
  have f1236 := Fld.ext E1217 f1197
  have f1237 := Fld.ext E1217 f1198
  have f1238 := Fld.ext E1217 f1199
  have f1239 := Fld.ext E1217 f1200
  have f1240 := Exa.ext E1217 f1201
  have f1241 := f1202.ext E1217
  have f1242 := f1203.ext E1217
  have f1243 := f1204.ext E1217
  have f1244 := f1205.ext E1217
  have f1245 := f1206.ext E1217
  have f1246 := f1207.ext E1217
  have f1247 := f1208.ext E1217
  have f1248 := f1209.ext E1217
  have f1249 := f1210.ext E1217
  have f1250 := f1211.ext E1217
  have K1251 := K1212.ext E1217
  have s1252 : n0 ≤ h1217.size := Nat.le_trans s1192 E1217.1
  have z1253 : T993.heap.size ≤ h1217.size := Nat.le_trans z1193 E1217.1
  show own_E p e below _ (T1217.setTop (mkF m 84 #[.val (.ref a1), .val .null, .val (.int (0 : Int32)), .val (.int (0 : Int32))] [(.ref o1217), (.ref o945)]))
  obtain ⟨T1254, h1254, X1254, e1254, W1254, st1254⟩ := putF X1217 hx hZ hown (Or.inr (own_w hw 148 rfl)) Via.refl e1217 (show Fld Z h1217 o945 "com/example/holdfast/holdfast/dom/CompactDocument" "chars" "[C" (gd 14) from own_FLg f1233 14 (by decide) rfl) f1240 (Or.inl (own_w hw 64 rfl)) (own_w hw 13 rfl) (ty := (.array .char)) (by decide) rfl rfl (g := (mkF m 84 #[.val (.ref a1), .val .null, .val (.int (0 : Int32)), .val (.int (0 : Int32))] [(.ref o1217), (.ref o945)])) rfl rfl (hb hby od_122_2_84)
  have N1254 := Fr.snoc X1254 N1216 b947
  have s1255 : n0 ≤ h1254.size := Nat.le_trans s1252 (Keep.of_wr W1254).1
  have z1256 : T993.heap.size ≤ h1254.size := Nat.le_trans z1253 (Keep.of_wr W1254).1
  have f1257 := own_FL.wr hw f1233 14 (by decide) W1254
  have f1258 := Arr.other W1254 f1234 (Ne.symm (Nat.ne_of_lt lt1134))
  have f1259 := Exa.wr W1254 f1235
  have f1260 := Fld.other W1254 f1236 (Or.inl (Nat.ne_of_lt lt946))
  have f1261 := Fld.other W1254 f1237 (Or.inl (Nat.ne_of_lt lt946))
  have f1262 := Fld.other W1254 f1238 (Or.inl (Nat.ne_of_lt lt946))
  have f1263 := Fld.other W1254 f1239 (Or.inl (Nat.ne_of_lt lt946))
  have f1264 := Exa.wr W1254 f1240
  have f1265 := f1241.other W1254 (by show @Ne Nat _ _; omega)
  have f1266 := f1242.other W1254 (by show @Ne Nat _ _; omega)
  have f1267 := f1243.other W1254 (by show @Ne Nat _ _; omega)
  have f1268 := f1244.other W1254 (by show @Ne Nat _ _; omega)
  have f1269 := f1245.other W1254 (by show @Ne Nat _ _; omega)
  have f1270 := f1246.other W1254 (by show @Ne Nat _ _; omega)
  have f1271 := f1247.other W1254 (by show @Ne Nat _ _; omega)
  have f1272 := f1248.other W1254 (by show @Ne Nat _ _; omega)
  have f1273 := f1249.other W1254 (by show @Ne Nat _ _; omega)
  have f1274 := f1250.other W1254 (by show @Ne Nat _ _; omega)
  have f1275 := A1217.other W1254 (Ne.symm (Nat.ne_of_lt lt1218))
  have K1276 := K1251.wr W1254 (Or.inr z948)
  refine own_s st1254 ?_
  show own_E p e below _ (T1254.setTop (mkF m 87 #[.val (.ref a1), .val .null, .val (.int (0 : Int32)), .val (.int (0 : Int32))] []))
  have Dya : ∀ i, i < 10 → own_IA Z h1254 (bb i) (own_aty i) 64 (fs i) := by
    intro i hi
    match i, hi with
    | 0, _ => exact f1265
    | 1, _ => exact f1266
    | 2, _ => exact f1267
    | 3, _ => exact f1268
    | 4, _ => exact f1269
    | 5, _ => exact f1270
    | 6, _ => exact f1271
    | 7, _ => exact f1272
    | 8, _ => exact f1273
    | 9, _ => exact f1274
  have Dy : ∃ g, own_Doc Z h1254 n0 o945 bb g fs ∧ (g 29 = .int 0 ∧ g 30 = .int 0 ∧ g 31 = .int 0 ∧ g 33 = .int 0 ∧ g 28 = .int 0 ∧ g 32 = .null ∧ g 34 = .null ∧ g 24 = .null ∧ g 25 = .null ∧ g 26 = .null ∧ g 27 = .null ∧ g 23 = .null ∧ g 22 = .int 1) := by
    refine ⟨_, ⟨f1264, f1257, Dya, nd, ld, od, by
        intro i hi
        match i, hi with
        | 0, _ => exact (kd 0 (by decide))
        | 1, _ => exact (kd 1 (by decide))
        | 2, _ => exact (kd 2 (by decide))
        | 3, _ => exact (kd 3 (by decide))
        | 4, _ => exact (kd 4 (by decide))
        | 5, _ => exact (kd 5 (by decide))
        | 6, _ => exact (kd 6 (by decide))
        | 7, _ => exact (kd 7 (by decide))
        | 8, _ => exact (kd 8 (by decide))
        | 9, _ => exact (kd 9 (by decide))⟩, ?_⟩
    exact ⟨qd_0, qd_1, qd_2, qd_3, qd_4, qd_5, qd_6, qd_7, qd_8, qd_9, qd_10, rfl, qd_12⟩
  obtain ⟨gy, Dy, Gy⟩ := Dy
  exact own_retVW X1254 hS993 (by rw [e1254]; exact z1256) hx hret hlk (hb hby od_122_2_87) (by decide) (by decide) (by first | exact ⟨rfl, N1254, K1276, o945, lt946, f1260, bb, gy, fs, Dy, Gy, p1, p7⟩ | (rw [e1254]; exact ⟨rfl, N1254, K1276, o945, lt946, f1260, bb, gy, fs, Dy, Gy, p1, p7⟩))
theorem od_122_1_0 : decode prog_122_method_1_code 0 = .ok (.aload_n 0, 1) := by decide +kernel
theorem od_122_1_1 : decode prog_122_method_1_code 1 = .ok (.aload_n 1, 1) := by decide +kernel
theorem od_122_1_2 : decode prog_122_method_1_code 2 = .ok (.iload_n 2, 1) := by decide +kernel
theorem od_122_1_3 : decode prog_122_method_1_code 3 = .ok (.iload_n 2, 1) := by decide +kernel
theorem od_122_1_4 : decode prog_122_method_1_code 4 = .ok (.bipush 10, 2) := by decide +kernel
theorem od_122_1_6 : decode prog_122_method_1_code 6 = .ok (.idiv, 1) := by decide +kernel
theorem own_pd3 : parseMethodDescriptor "(Ljava/lang/String;II)V" = some ⟨[(.object "java/lang/String"), .int, .int], none⟩ := by decide +kernel
theorem od_122_1_7 : decode prog_122_method_1_code 7 = .ok (.invokespecial 5, 3) := by decide +kernel
theorem od_122_1_10 : decode prog_122_method_1_code 10 = .ok (.return_, 1) := by decide +kernel
set_option maxRecDepth 65536 in
set_option maxHeartbeats 40000000 in
theorem own_c_b1 (l : Launch) (Z : State) (a0 : Array Value) (hw : ∀ d ∈ tables_1, d.before a0 Z = true) (a1 : Nat) (sv : Nat) (h0 : Heap) (n0 : Nat) (Z0 : n0 ≤ h0.size) (g1 : n0 ≤ a1) (E1 : Exa Z h0 a1 "com/example/holdfast/holdfast/dom/CompactDocument$Builder") (B0 : Fld Z h0 a1 "com/example/holdfast/holdfast/dom/CompactDocument$Builder" "document" "Lcom/example/holdfast/holdfast/dom/CompactDocument;" .null) (B1 : Fld Z h0 a1 "com/example/holdfast/holdfast/dom/CompactDocument$Builder" "text" "I" (.int (0 : Int32))) (B2 : Fld Z h0 a1 "com/example/holdfast/holdfast/dom/CompactDocument$Builder" "declarations" "Ljava/util/List;" .null) (B3 : Fld Z h0 a1 "com/example/holdfast/holdfast/dom/CompactDocument$Builder" "scopes" "[Lcom/example/holdfast/holdfast/dom/CompactDocument$Namespaces;" .null) (S1 : Sta Z h0 "java/util/ArrayList" "DEFAULTCAPACITY_EMPTY_ELEMENTDATA" "[Ljava/lang/Object;" (.ref sv)) :
    own_ConW l Z (⟨"com/example/holdfast/holdfast/dom/CompactDocument$Builder", "<init>", "(Ljava/lang/String;I)V"⟩ : MethodName) prog_122_method_1_code 3 none [] ({ frames := 5, cells := 24, slots := 3051, locals := 67 } : Room) #[(.ref a1), .null, (.int (0 : Int32))] h0 (fun v h L => v = none ∧ Fr n0 L ∧ Keep h0 h [a1] ∧ ∃ d, a1 < d ∧ Fld Z h a1 "com/example/holdfast/holdfast/dom/CompactDocument$Builder" "document" "Lcom/example/holdfast/holdfast/dom/CompactDocument;" (.ref d) ∧ ∃ b g fs, own_Doc Z h n0 d b g fs ∧ (g 29 = .int 0 ∧ g 30 = .int 0 ∧ g 31 = .int 0 ∧ g 33 = .int 0 ∧ g 28 = .int 0 ∧ g 32 = .null ∧ g 34 = .null ∧ g 24 = .null ∧ g 25 = .null ∧ g 26 = .null ∧ g 27 = .null ∧ g 23 = .null ∧ g 22 = .int 1) ∧ fs 1 0 = -1 ∧ (∀ q, fs 7 q = 0)) := by
  refine own_enterW (plainFor_of_name own_pn7) ?_
  intro p e s m below meth c s₁ X0 e0 hx hZ hby hml hown hnm hret hlk
  refine own_cast (g' := (mkF m 0 #[.val (.ref a1), .val .null, .val (.int (0 : Int32))] [])) (by first | (simp [entryFrame, mkF, argsToLocals, Value.category]; done) | rfl) ?_
  have N0 := Fr.nil n0
  have K0 := Keep.refl h0 [a1]
  refine own_g (mkF m 1 #[.val (.ref a1), .val .null, .val (.int (0 : Int32))] [(.ref a1)]) (fun _ kz => XS.aloadN X0.here hx rfl (hb hby od_122_1_0) rfl rfl kz) ?_
  refine own_g (mkF m 2 #[.val (.ref a1), .val .null, .val (.int (0 : Int32))] [.null, (.ref a1)]) (fun _ kz => XS.aloadN X0.here hx rfl (hb hby od_122_1_1) rfl rfl kz) ?_
  refine own_g (mkF m 3 #[.val (.ref a1), .val .null, .val (.int (0 : Int32))] [(.int (0 : Int32)), .null, (.ref a1)]) (fun _ kz => XS.iloadN X0.here hx rfl (hb hby od_122_1_2) rfl kz) ?_
  refine own_g (mkF m 4 #[.val (.ref a1), .val .null, .val (.int (0 : Int32))] [(.int (0 : Int32)), (.int (0 : Int32)), .null, (.ref a1)]) (fun _ kz => XS.iloadN X0.here hx rfl (hb hby od_122_1_3) rfl kz) ?_
  refine own_g (mkF m 6 #[.val (.ref a1), .val .null, .val (.int (0 : Int32))] [(.int (10 : Int32)), (.int (0 : Int32)), (.int (0 : Int32)), .null, (.ref a1)]) (fun _ kz => XS.bipush X0.here hx rfl (hb hby od_122_1_4) kz) ?_
  refine own_g (mkF m 7 #[.val (.ref a1), .val .null, .val (.int (0 : Int32))] [(.int ((0 : Int32) / (10 : Int32))), (.int (0 : Int32)), .null, (.ref a1)]) (fun _ kz => XS.idiv X0.here hx rfl (hb hby od_122_1_6) rfl (by decide) kz) ?_
  rw [show ((0 : Int32) / (10 : Int32)) = (0 : Int32) from by decide]
  show own_E p e below _ (s₁.setTop (mkF m 7 #[.val (.ref a1), .val .null, .val (.int (0 : Int32))] [(.int (0 : Int32)), (.int (0 : Int32)), .null, (.ref a1)]))
  refine own_callIW (rest := []) (a := a1) (as := [.null, (.int (0 : Int32)), (.int (0 : Int32))]) X0 hx hZ hown e0 (own_c_b2 l Z a0 hw a1 sv h0 n0 Z0 g1 E1 B0 B1 B2 B3 S1) rfl (own_w hw 6 rfl) (own_w hw 7 rfl) (own_w hw 2 rfl) (own_w hw 8 rfl) (by decide) own_pd3 rfl (by rw [hml]; rfl) rfl (hb hby od_122_1_7) 0 (by show 2 * 0 + _ ≤ _; exact Nat.le_of_eq rfl) (by decide) (by decide) (by decide) (by decide) ?_
  rintro _ T1277 L1277 X1277 hS1277 hZ hown ⟨rfl, Nq1277, K1277q, R1277⟩
  have N1277 := Fr.app N0 Nq1277
  have f1278 := Exa.keep E1 K1277q
  have s1279 : n0 ≤ T1277.heap.size := Nat.le_trans Z0 K1277q.1
  have K1280 := K0.trans K1277q (allS (Or.inl (by simp)) all0)
  show own_E p e below _ (T1277.setTop (mkF m 10 #[.val (.ref a1), .val .null, .val (.int (0 : Int32))] []))
  exact own_retVW X1277 hS1277 (Nat.le_refl _) hx hret hlk (hb hby od_122_1_10) (by decide) (by decide) (⟨rfl, N1277, K1280, R1277⟩)
theorem od_122_4_0 : decode prog_122_method_4_code 0 = .ok (.aload_n 0, 1) := by decide +kernel
theorem od_122_4_1 : decode prog_122_method_4_code 1 = .ok (.getfield 17, 3) := by decide +kernel
theorem od_122_4_4 : decode prog_122_method_4_code 4 = .ok (.aload_n 1, 1) := by decide +kernel
theorem od_122_4_5 : decode prog_122_method_4_code 5 = .ok (.putfield 68, 3) := by decide +kernel
theorem od_122_4_8 : decode prog_122_method_4_code 8 = .ok (.aload_n 0, 1) := by decide +kernel
theorem od_122_4_9 : decode prog_122_method_4_code 9 = .ok (.getfield 17, 3) := by decide +kernel
theorem od_122_4_12 : decode prog_122_method_4_code 12 = .ok (.aload_n 2, 1) := by decide +kernel
theorem od_122_4_13 : decode prog_122_method_4_code 13 = .ok (.putfield 71, 3) := by decide +kernel
theorem od_122_4_16 : decode prog_122_method_4_code 16 = .ok (.aload_n 0, 1) := by decide +kernel
theorem od_122_4_17 : decode prog_122_method_4_code 17 = .ok (.getfield 17, 3) := by decide +kernel
theorem od_122_4_20 : decode prog_122_method_4_code 20 = .ok (.aload_n 0, 1) := by decide +kernel
theorem od_122_4_21 : decode prog_122_method_4_code 21 = .ok (.getfield 17, 3) := by decide +kernel
theorem od_122_4_24 : decode prog_122_method_4_code 24 = .ok (.getfield 42, 3) := by decide +kernel
theorem od_122_4_27 : decode prog_122_method_4_code 27 = .ok (.arraylength, 1) := by decide +kernel
theorem od_122_4_28 : decode prog_122_method_4_code 28 = .ok (.newarray .int, 2) := by decide +kernel
theorem od_122_4_30 : decode prog_122_method_4_code 30 = .ok (.putfield 75, 3) := by decide +kernel
theorem od_122_4_33 : decode prog_122_method_4_code 33 = .ok (.aload_n 0, 1) := by decide +kernel
theorem od_122_4_34 : decode prog_122_method_4_code 34 = .ok (.getfield 17, 3) := by decide +kernel
theorem od_122_4_37 : decode prog_122_method_4_code 37 = .ok (.aload_n 0, 1) := by decide +kernel
theorem od_122_4_38 : decode prog_122_method_4_code 38 = .ok (.getfield 17, 3) := by decide +kernel
theorem od_122_4_41 : decode prog_122_method_4_code 41 = .ok (.getfield 42, 3) := by decide +kernel
theorem od_122_4_44 : decode prog_122_method_4_code 44 = .ok (.arraylength, 1) := by decide +kernel
theorem od_122_4_45 : decode prog_122_method_4_code 45 = .ok (.newarray .int, 2) := by decide +kernel
theorem od_122_4_47 : decode prog_122_method_4_code 47 = .ok (.putfield 79, 3) := by decide +kernel
theorem od_122_4_50 : decode prog_122_method_4_code 50 = .ok (.return_, 1) := by decide +kernel
set_option maxRecDepth 65536 in
set_option maxHeartbeats 40000000 in
theorem own_c_ks (l : Launch) (Z : State) (a0 : Array Value) (hw : ∀ d ∈ tables_1, d.before a0 Z = true) (a1 : Nat) (a2 : Nat) (d : Nat) (b : Nat → Nat) (g : Nat → Value) (fs : Nat → Nat → Int32) (h0 : Heap) (n0 : Nat) (Z0 : n0 ≤ h0.size) (E1 : Exa Z h0 a1 "com/example/holdfast/holdfast/dom/CompactDocument$Builder") (B0 : Fld Z h0 a1 "com/example/holdfast/holdfast/dom/CompactDocument$Builder" "document" "Lcom/example/holdfast/holdfast/dom/CompactDocument;" (.ref d)) (lad : a1 < d) (D0 : own_Doc Z h0 n0 d b g fs) :
    own_Con l Z (⟨"com/example/holdfast/holdfast/dom/CompactDocument$Builder", "keepSource", "([BLcom/example/holdfast/holdfast/dom/CompactDocument$TextReader;)V"⟩ : MethodName) prog_122_method_4_code 3 none [] ({ frames := 0, cells := 2, slots := 128, locals := 0 } : Room) #[(.ref a1), (.ref a2), .null] h0 (fun v h L => v = none ∧ Fr n0 L ∧ h0.size ≤ h.size ∧ Exa Z h a1 "com/example/holdfast/holdfast/dom/CompactDocument$Builder" ∧ Fld Z h a1 "com/example/holdfast/holdfast/dom/CompactDocument$Builder" "document" "Lcom/example/holdfast/holdfast/dom/CompactDocument;" (.ref d) ∧ ∃ g' sb, own_Doc Z h n0 d b g' fs ∧ g' 26 = .ref sb ∧ own_IA Z h sb .int 64 (fun _ => 0) ∧ b 9 < sb ∧ ∀ k, k ≠ 24 → k ≠ 25 → k ≠ 26 → k ≠ 27 → g' k = g k) := by
  refine own_enter (plainFor_of_name own_pn7) ?_
  intro p e s m below meth c s₁ X0 e0 hx hZ hby hml hown hnm hret hlk
  refine own_cast (g' := (mkF m 0 #[.val (.ref a1), .val (.ref a2), .val .null] [])) (by first | (simp [entryFrame, mkF, argsToLocals, Value.category]; done) | rfl) ?_
  have N0 := Fr.nil n0
  have K0 := Keep.refl h0 [d]
  obtain ⟨Ed, Fd, Ad, nd, ld, od, kd⟩ := D0
  have od_0 : b 0 < b 1 := od 0 (by decide)
  have od_1 : b 1 < b 2 := od 1 (by decide)
  have od_2 : b 2 < b 3 := od 2 (by decide)
  have od_3 : b 3 < b 4 := od 3 (by decide)
  have od_4 : b 4 < b 5 := od 4 (by decide)
  have od_5 : b 5 < b 6 := od 5 (by decide)
  have od_6 : b 6 < b 7 := od 6 (by decide)
  have od_7 : b 7 < b 8 := od 7 (by decide)
  have od_8 : b 8 < b 9 := od 8 (by decide)
  have Ad_0 : own_IA Z h0 (b 0) .byte 64 (fs 0) := Ad 0 (by decide)
  have Ad_1 : own_IA Z h0 (b 1) .int 64 (fs 1) := Ad 1 (by decide)
  have Ad_2 : own_IA Z h0 (b 2) .int 64 (fs 2) := Ad 2 (by decide)
  have Ad_3 : own_IA Z h0 (b 3) .int 64 (fs 3) := Ad 3 (by decide)
  have Ad_4 : own_IA Z h0 (b 4) .int 64 (fs 4) := Ad 4 (by decide)
  have Ad_5 : own_IA Z h0 (b 5) .int 64 (fs 5) := Ad 5 (by decide)
  have Ad_6 : own_IA Z h0 (b 6) .int 64 (fs 6) := Ad 6 (by decide)
  have Ad_7 : own_IA Z h0 (b 7) .byte 64 (fs 7) := Ad 7 (by decide)
  have Ad_8 : own_IA Z h0 (b 8) .int 64 (fs 8) := Ad 8 (by decide)
  have Ad_9 : own_IA Z h0 (b 9) .int 64 (fs 9) := Ad 9 (by decide)
  refine own_g (mkF m 1 #[.val (.ref a1), .val (.ref a2), .val .null] [(.ref a1)]) (fun _ kz => XS.aloadN X0.here hx rfl (hb hby od_122_4_0) rfl rfl kz) ?_
  obtain ⟨T1281, X1281, e1281, st1281⟩ := getF X0 hx hZ hown (host := "") (Or.inl (own_w hw 107 rfl)) Via.refl e0 B0 (g := (mkF m 1 #[.val (.ref a1), .val (.ref a2), .val .null] [(.ref a1)])) rfl rfl (hb hby od_122_4_1)
  refine own_s st1281 ?_
  show own_E p e below _ (T1281.setTop (mkF m 4 #[.val (.ref a1), .val (.ref a2), .val .null] [(.ref d)]))
  refine own_g (mkF m 5 #[.val (.ref a1), .val (.ref a2), .val .null] [(.ref a2), (.ref d)]) (fun _ kz => XS.aloadN X1281.here hx rfl (hb hby od_122_4_4) rfl rfl kz) ?_
  obtain ⟨T1282, h1282, X1282, e1282, W1282, st1282⟩ := putF X1281 hx hZ hown (Or.inr (own_w hw 154 rfl)) Via.refl e1281 (show Fld Z h0 d "com/example/holdfast/holdfast/dom/CompactDocument" "source" "[B" (g 24) from own_FLg Fd 24 (by decide) rfl) Ed (Or.inl (own_w hw 155 rfl)) (own_w hw 13 rfl) (ty := (.array .byte)) (by decide) rfl rfl (g := (mkF m 5 #[.val (.ref a1), .val (.ref a2), .val .null] [(.ref a2), (.ref d)])) rfl rfl (hb hby od_122_4_5)
  have N1282 := Fr.snoc X1282 N0 nd
  have s1283 : n0 ≤ h1282.size := Nat.le_trans Z0 (Keep.of_wr W1282).1
  have f1284 := own_FL.wr hw Fd 24 (by decide) W1282
  have f1285 := Exa.wr W1282 E1
  have f1286 := Fld.other W1282 B0 (Or.inl (by show @Ne Nat _ _; omega))
  have f1287 := Exa.wr W1282 Ed
  have f1288 := Ad_0.other W1282 (by show @Ne Nat _ _; omega)
  have f1289 := Ad_1.other W1282 (by show @Ne Nat _ _; omega)
  have f1290 := Ad_2.other W1282 (by show @Ne Nat _ _; omega)
  have f1291 := Ad_3.other W1282 (by show @Ne Nat _ _; omega)
  have f1292 := Ad_4.other W1282 (by show @Ne Nat _ _; omega)
  have f1293 := Ad_5.other W1282 (by show @Ne Nat _ _; omega)
  have f1294 := Ad_6.other W1282 (by show @Ne Nat _ _; omega)
  have f1295 := Ad_7.other W1282 (by show @Ne Nat _ _; omega)
  have f1296 := Ad_8.other W1282 (by show @Ne Nat _ _; omega)
  have f1297 := Ad_9.other W1282 (by show @Ne Nat _ _; omega)
  have K1298 := K0.wr W1282 (Or.inl (by simp))
  refine own_s st1282 ?_
  show own_E p e below _ (T1282.setTop (mkF m 8 #[.val (.ref a1), .val (.ref a2), .val .null] []))
  refine own_g (mkF m 9 #[.val (.ref a1), .val (.ref a2), .val .null] [(.ref a1)]) (fun _ kz => XS.aloadN X1282.here hx rfl (hb hby od_122_4_8) rfl rfl kz) ?_
  obtain ⟨T1299, X1299, e1299, st1299⟩ := getF X1282 hx hZ hown (host := "") (Or.inl (own_w hw 107 rfl)) Via.refl e1282 f1286 (g := (mkF m 9 #[.val (.ref a1), .val (.ref a2), .val .null] [(.ref a1)])) rfl rfl (hb hby od_122_4_9)
  refine own_s st1299 ?_
  show own_E p e below _ (T1299.setTop (mkF m 12 #[.val (.ref a1), .val (.ref a2), .val .null] [(.ref d)]))
  refine own_g (mkF m 13 #[.val (.ref a1), .val (.ref a2), .val .null] [.null, (.ref d)]) (fun _ kz => XS.aloadN X1299.here hx rfl (hb hby od_122_4_12) rfl rfl kz) ?_
  obtain ⟨T1300, h1300, X1300, e1300, W1300, st1300⟩ := putF X1299 hx hZ hown (Or.inr (own_w hw 156 rfl)) Via.refl e1299 (show Fld Z h1282 d "com/example/holdfast/holdfast/dom/CompactDocument" "reader" "Lcom/example/holdfast/holdfast/dom/CompactDocument$TextReader;" (g 25) from own_FLg f1284 25 (by decide) rfl) f1287 (Or.inl (own_w hw 157 rfl)) (own_w hw 13 rfl) (ty := (.object "com/example/holdfast/holdfast/dom/CompactDocument$TextReader")) (by decide) rfl rfl (g := (mkF m 13 #[.val (.ref a1), .val (.ref a2), .val .null] [.null, (.ref d)])) rfl rfl (hb hby od_122_4_13)
  have N1300 := Fr.snoc X1300 N1282 nd
  have s1301 : n0 ≤ h1300.size := Nat.le_trans s1283 (Keep.of_wr W1300).1
  have f1302 := own_FL.wr hw f1284 25 (by decide) W1300
  have f1303 := Exa.wr W1300 f1285
  have f1304 := Fld.other W1300 f1286 (Or.inl (by show @Ne Nat _ _; omega))
  have f1305 := Exa.wr W1300 f1287
  have f1306 := f1288.other W1300 (by show @Ne Nat _ _; omega)
  have f1307 := f1289.other W1300 (by show @Ne Nat _ _; omega)
  have f1308 := f1290.other W1300 (by show @Ne Nat _ _; omega)
  have f1309 := f1291.other W1300 (by show @Ne Nat _ _; omega)
  have f1310 := f1292.other W1300 (by show @Ne Nat _ _; omega)
  have f1311 := f1293.other W1300 (by show @Ne Nat _ _; omega)
  have f1312 := f1294.other W1300 (by show @Ne Nat _ _; omega)
  have f1313 := f1295.other W1300 (by show @Ne Nat _ _; omega)
  have f1314 := f1296.other W1300 (by show @Ne Nat _ _; omega)
  have f1315 := f1297.other W1300 (by show @Ne Nat _ _; omega)
  have K1316 := K1298.wr W1300 (Or.inl (by simp))
  refine own_s st1300 ?_
  show own_E p e below _ (T1300.setTop (mkF m 16 #[.val (.ref a1), .val (.ref a2), .val .null] []))
  refine own_g (mkF m 17 #[.val (.ref a1), .val (.ref a2), .val .null] [(.ref a1)]) (fun _ kz => XS.aloadN X1300.here hx rfl (hb hby od_122_4_16) rfl rfl kz) ?_
  obtain ⟨T1317, X1317, e1317, st1317⟩ := getF X1300 hx hZ hown (host := "") (Or.inl (own_w hw 107 rfl)) Via.refl e1300 f1304 (g := (mkF m 17 #[.val (.ref a1), .val (.ref a2), .val .null] [(.ref a1)])) rfl rfl (hb hby od_122_4_17)
  refine own_s st1317 ?_
  show own_E p e below _ (T1317.setTop (mkF m 20 #[.val (.ref a1), .val (.ref a2), .val .null] [(.ref d)]))
  refine own_g (mkF m 21 #[.val (.ref a1), .val (.ref a2), .val .null] [(.ref a1), (.ref d)]) (fun _ kz => XS.aloadN X1317.here hx rfl (hb hby od_122_4_20) rfl rfl kz) ?_
  obtain ⟨T1318, X1318, e1318, st1318⟩ := getF X1317 hx hZ hown (host := "") (Or.inl (own_w hw 107 rfl)) Via.refl e1317 f1304 (g := (mkF m 21 #[.val (.ref a1), .val (.ref a2), .val .null] [(.ref a1), (.ref d)])) rfl rfl (hb hby od_122_4_21)
  refine own_s st1318 ?_
  show own_E p e below _ (T1318.setTop (mkF m 24 #[.val (.ref a1), .val (.ref a2), .val .null] [(.ref d), (.ref d)]))
  obtain ⟨T1319, X1319, e1319, st1319⟩ := getF X1318 hx hZ hown (Or.inr (own_w hw 143 rfl)) Via.refl e1318 (show Fld Z h1300 d "com/example/holdfast/holdfast/dom/CompactDocument" "types" "[B" (.ref (b 0)) from own_FLg f1302 2 (by decide) (kd 0 (by decide))) (g := (mkF m 24 #[.val (.ref a1), .val (.ref a2), .val .null] [(.ref d), (.ref d)])) rfl rfl (hb hby od_122_4_24)
  refine own_s st1319 ?_
  show own_E p e below _ (T1319.setTop (mkF m 27 #[.val (.ref a1), .val (.ref a2), .val .null] [(.ref (b 0)), (.ref d)]))
  refine own_lenI X1319 hx hZ e1319 f1306 (hb hby od_122_4_27) (z := (64 : Int32)) rfl ?_
  show own_E p e below _ (T1319.setTop (mkF m 28 #[.val (.ref a1), .val (.ref a2), .val .null] [(.int (64 : Int32)), (.ref d)]))
  refine own_newI X1319 hx hZ e1319 (own_w hw 33 rfl) rfl (hb hby od_122_4_28) (by decide) (n := 64) rfl 64 (by decide) (by decide) (by decide) (by decide) ?_
  intro T1320 h1320 o1320 g1320 X1320 e1320 E1320 A1320
  have lt1321 : d < o1320 := Nat.lt_of_lt_of_le f1302.lt (Nat.le_of_eq g1320.symm)
  have lt1322 : a1 < o1320 := Nat.lt_of_lt_of_le f1303.lt (Nat.le_of_eq g1320.symm)
  have lt1323 : (b 0) < o1320 := Nat.lt_of_lt_of_le f1306.lt (Nat.le_of_eq g1320.symm)
  have lt1324 : (b 1) < o1320 := Nat.lt_of_lt_of_le f1307.lt (Nat.le_of_eq g1320.symm)
  have lt1325 : (b 2) < o1320 := Nat.lt_of_lt_of_le f1308.lt (Nat.le_of_eq g1320.symm)
  have lt1326 : (b 3) < o1320 := Nat.lt_of_lt_of_le f1309.lt (Nat.le_of_eq g1320.symm)
  have lt1327 : (b 4) < o1320 := Nat.lt_of_lt_of_le f1310.lt (Nat.le_of_eq g1320.symm)
  have lt1328 : (b 5) < o1320 := Nat.lt_of_lt_of_le f1311.lt (Nat.le_of_eq g1320.symm)
  have lt1329 : (b 6) < o1320 := Nat.lt_of_lt_of_le f1312.lt (Nat.le_of_eq g1320.symm)
  have lt1330 : (b 7) < o1320 := Nat.lt_of_lt_of_le f1313.lt (Nat.le_of_eq g1320.symm)
  have lt1331 : (b 8) < o1320 := Nat.lt_of_lt_of_le f1314.lt (Nat.le_of_eq g1320.symm)
  have lt1332 : (b 9) < o1320 := Nat.lt_of_lt_of_le f1315.lt (Nat.le_of_eq g1320.symm)
  have b1333 : n0 ≤ o1320 := Nat.le_trans s1301 (Nat.le_of_eq g1320.symm)
  have z1334 : h0.size ≤ o1320 := Nat.le_trans K1316.1 (Nat.le_of_eq g1320.symm)
  have f1335 := own_FL.ext E1320 f1302
  have f1336 := Exa.ext E1320 f1303
  have f1337 := Fld.ext E1320 f1304
  have f1338 := Exa.ext E1320 f1305
  have f1339 := f1306.ext E1320
  have f1340 := f1307.ext E1320
  have f1341 := f1308.ext E1320
  have f1342 := f1309.ext E1320
  have f1343 := f1310.ext E1320
  have f1344 := f1311.ext E1320
  have f1345 := f1312.ext E1320
  have f1346 := f1313.ext E1320
  have f1347 := f1314.ext E1320
  have f1348 := f1315.ext E1320
  have K1349 := K1316.ext E1320
  have s1350 : n0 ≤ h1320.size := Nat.le_trans s1301 E1320.1
  show own_E p e below _ (T1320.setTop (mkF m 30 #[.val (.ref a1), .val (.ref a2), .val .null] [(.ref o1320), (.ref d)]))
  obtain ⟨T1351, h1351, X1351, e1351, W1351, st1351⟩ := putF X1320 hx hZ hown (Or.inr (own_w hw 158 rfl)) Via.refl e1320 (show Fld Z h1320 d "com/example/holdfast/holdfast/dom/CompactDocument" "sourceStarts" "[I" (g 26) from own_FLg f1335 26 (by decide) rfl) f1338 (Or.inl (own_w hw 159 rfl)) (own_w hw 13 rfl) (ty := (.array .int)) (by decide) rfl rfl (g := (mkF m 30 #[.val (.ref a1), .val (.ref a2), .val .null] [(.ref o1320), (.ref d)])) rfl rfl (hb hby od_122_4_30)
  have N1351 := Fr.snoc X1351 N1300 nd
  have s1352 : n0 ≤ h1351.size := Nat.le_trans s1350 (Keep.of_wr W1351).1
  have f1353 := own_FL.wr hw f1335 26 (by decide) W1351
  have f1354 := Exa.wr W1351 f1336
  have f1355 := Fld.other W1351 f1337 (Or.inl (by show @Ne Nat _ _; omega))
  have f1356 := Exa.wr W1351 f1338
  have f1357 := f1339.other W1351 (by show @Ne Nat _ _; omega)
  have f1358 := f1340.other W1351 (by show @Ne Nat _ _; omega)
  have f1359 := f1341.other W1351 (by show @Ne Nat _ _; omega)
  have f1360 := f1342.other W1351 (by show @Ne Nat _ _; omega)
  have f1361 := f1343.other W1351 (by show @Ne Nat _ _; omega)
  have f1362 := f1344.other W1351 (by show @Ne Nat _ _; omega)
  have f1363 := f1345.other W1351 (by show @Ne Nat _ _; omega)
  have f1364 := f1346.other W1351 (by show @Ne Nat _ _; omega)
  have f1365 := f1347.other W1351 (by show @Ne Nat _ _; omega)
  have f1366 := f1348.other W1351 (by show @Ne Nat _ _; omega)
  have f1367 := A1320.other W1351 (Ne.symm (Nat.ne_of_lt lt1321))
  have K1368 := K1349.wr W1351 (Or.inl (by simp))
  refine own_s st1351 ?_
  show own_E p e below _ (T1351.setTop (mkF m 33 #[.val (.ref a1), .val (.ref a2), .val .null] []))
  refine own_g (mkF m 34 #[.val (.ref a1), .val (.ref a2), .val .null] [(.ref a1)]) (fun _ kz => XS.aloadN X1351.here hx rfl (hb hby od_122_4_33) rfl rfl kz) ?_
  obtain ⟨T1369, X1369, e1369, st1369⟩ := getF X1351 hx hZ hown (host := "") (Or.inl (own_w hw 107 rfl)) Via.refl e1351 f1355 (g := (mkF m 34 #[.val (.ref a1), .val (.ref a2), .val .null] [(.ref a1)])) rfl rfl (hb hby od_122_4_34)
  refine own_s st1369 ?_
  show own_E p e below _ (T1369.setTop (mkF m 37 #[.val (.ref a1), .val (.ref a2), .val .null] [(.ref d)]))
  refine own_g (mkF m 38 #[.val (.ref a1), .val (.ref a2), .val .null] [(.ref a1), (.ref d)]) (fun _ kz => XS.aloadN X1369.here hx rfl (hb hby od_122_4_37) rfl rfl kz) ?_
  obtain ⟨T1370, X1370, e1370, st1370⟩ := getF X1369 hx hZ hown (host := "") (Or.inl (own_w hw 107 rfl)) Via.refl e1369 f1355 (g := (mkF m 38 #[.val (.ref a1), .val (.ref a2), .val .null] [(.ref a1), (.ref d)])) rfl rfl (hb hby od_122_4_38)
  refine own_s st1370 ?_
  show own_E p e below _ (T1370.setTop (mkF m 41 #[.val (.ref a1), .val (.ref a2), .val .null] [(.ref d), (.ref d)]))
  obtain ⟨T1371, X1371, e1371, st1371⟩ := getF X1370 hx hZ hown (Or.inr (own_w hw 143 rfl)) Via.refl e1370 (show Fld Z h1351 d "com/example/holdfast/holdfast/dom/CompactDocument" "types" "[B" (.ref (b 0)) from own_FLg f1353 2 (by decide) (kd 0 (by decide))) (g := (mkF m 41 #[.val (.ref a1), .val (.ref a2), .val .null] [(.ref d), (.ref d)])) rfl rfl (hb hby od_122_4_41)
  refine own_s st1371 ?_
  show own_E p e below _ (T1371.setTop (mkF m 44 #[.val (.ref a1), .val (.ref a2), .val .null] [(.ref (b 0)), (.ref d)]))
  refine own_lenI X1371 hx hZ e1371 f1357 (hb hby od_122_4_44) (z := (64 : Int32)) rfl ?_
  show own_E p e below _ (T1371.setTop (mkF m 45 #[.val (.ref a1), .val (.ref a2), .val .null] [(.int (64 : Int32)), (.ref d)]))
  refine own_newI X1371 hx hZ e1371 (own_w hw 33 rfl) rfl (hb hby od_122_4_45) (by decide) (n := 64) rfl 64 (by decide) (by decide) (by decide) (by decide) ?_
  intro T1372 h1372 o1372 g1372 X1372 e1372 E1372 A1372
  have lt1373 : d < o1372 := Nat.lt_of_lt_of_le f1353.lt (Nat.le_of_eq g1372.symm)
  have lt1374 : a1 < o1372 := Nat.lt_of_lt_of_le f1354.lt (Nat.le_of_eq g1372.symm)
  have lt1375 : (b 0) < o1372 := Nat.lt_of_lt_of_le f1357.lt (Nat.le_of_eq g1372.symm)
  have lt1376 : (b 1) < o1372 := Nat.lt_of_lt_of_le f1358.lt (Nat.le_of_eq g1372.symm)
  have lt1377 : (b 2) < o1372 := Nat.lt_of_lt_of_le f1359.lt (Nat.le_of_eq g1372.symm)
  have lt1378 : (b 3) < o1372 := Nat.lt_of_lt_of_le f1360.lt (Nat.le_of_eq g1372.symm)
  have lt1379 : (b 4) < o1372 := Nat.lt_of_lt_of_le f1361.lt (Nat.le_of_eq g1372.symm)
  have lt1380 : (b 5) < o1372 := Nat.lt_of_lt_of_le f1362.lt (Nat.le_of_eq g1372.symm)
  have lt1381 : (b 6) < o1372 := Nat.lt_of_lt_of_le f1363.lt (Nat.le_of_eq g1372.symm)
  have lt1382 : (b 7) < o1372 := Nat.lt_of_lt_of_le f1364.lt (Nat.le_of_eq g1372.symm)
  have lt1383 : (b 8) < o1372 := Nat.lt_of_lt_of_le f1365.lt (Nat.le_of_eq g1372.symm)
  have lt1384 : (b 9) < o1372 := Nat.lt_of_lt_of_le f1366.lt (Nat.le_of_eq g1372.symm)
  have lt1385 : o1320 < o1372 := Nat.lt_of_lt_of_le f1367.lt (Nat.le_of_eq g1372.symm)
  have b1386 : n0 ≤ o1372 := Nat.le_trans s1352 (Nat.le_of_eq g1372.symm)
  have z1387 : h0.size ≤ o1372 := Nat.le_trans K1368.1 (Nat.le_of_eq g1372.symm)
  have f1388 := own_FL.ext E1372 f1353
  have f1389 := Exa.ext E1372 f1354
  have f1390 := Fld.ext E1372 f1355
  have f1391 := Exa.ext E1372 f1356
  have f1392 := f1357.ext E1372
  have f1393 := f1358.ext E1372
  have f1394 := f1359.ext E1372
  have f1395 := f1360.ext E1372
  have f1396 := f1361.ext E1372
  have f1397 := f1362.ext E1372
  have f1398 := f1363.ext E1372
  have f1399 := f1364.ext E1372
  have f1400 := f1365.ext E1372
  have f1401 := f1366.ext E1372
  have f1402 := f1367.ext E1372
  have K1403 := K1368.ext E1372
  have s1404 : n0 ≤ h1372.size := Nat.le_trans s1352 E1372.1
  show own_E p e below _ (T1372.setTop (mkF m 47 #[.val (.ref a1), .val (.ref a2), .val .null] [(.ref o1372), (.ref d)]))
  obtain ⟨T1405, h1405, X1405, e1405, W1405, st1405⟩ := putF X1372 hx hZ hown (Or.inr (own_w hw 160 rfl)) Via.refl e1372 (show Fld Z h1372 d "com/example/holdfast/holdfast/dom/CompactDocument" "sourceEnds" "[I" (g 27) from own_FLg f1388 27 (by decide) rfl) f1391 (Or.inl (own_w hw 161 rfl)) (own_w hw 13 rfl) (ty := (.array .int)) (by decide) rfl rfl (g := (mkF m 47 #[.val (.ref a1), .val (.ref a2), .val .null] [(.ref o1372), (.ref d)])) rfl rfl (hb hby od_122_4_47)
  have N1405 := Fr.snoc X1405 N1351 nd
  have s1406 : n0 ≤ h1405.size := Nat.le_trans s1404 (Keep.of_wr W1405).1
  have f1407 := own_FL.wr hw f1388 27 (by decide) W1405
  have f1408 := Exa.wr W1405 f1389
  have f1409 := Fld.other W1405 f1390 (Or.inl (by show @Ne Nat _ _; omega))
  have f1410 := Exa.wr W1405 f1391
  have f1411 := f1392.other W1405 (by show @Ne Nat _ _; omega)
  have f1412 := f1393.other W1405 (by show @Ne Nat _ _; omega)
  have f1413 := f1394.other W1405 (by show @Ne Nat _ _; omega)
  have f1414 := f1395.other W1405 (by show @Ne Nat _ _; omega)
  have f1415 := f1396.other W1405 (by show @Ne Nat _ _; omega)
  have f1416 := f1397.other W1405 (by show @Ne Nat _ _; omega)
  have f1417 := f1398.other W1405 (by show @Ne Nat _ _; omega)
  have f1418 := f1399.other W1405 (by show @Ne Nat _ _; omega)
  have f1419 := f1400.other W1405 (by show @Ne Nat _ _; omega)
  have f1420 := f1401.other W1405 (by show @Ne Nat _ _; omega)
  have f1421 := f1402.other W1405 (Ne.symm (Nat.ne_of_lt lt1321))
  have f1422 := A1372.other W1405 (Ne.symm (Nat.ne_of_lt lt1373))
  have K1423 := K1403.wr W1405 (Or.inl (by simp))
  refine own_s st1405 ?_
  show own_E p e below _ (T1405.setTop (mkF m 50 #[.val (.ref a1), .val (.ref a2), .val .null] []))
  have Dya : ∀ i, i < 10 → own_IA Z h1405 (b i) (own_aty i) 64 (fs i) := by
    intro i hi
    match i, hi with
    | 0, _ => exact f1411
    | 1, _ => exact f1412
    | 2, _ => exact f1413
    | 3, _ => exact f1414
    | 4, _ => exact f1415
    | 5, _ => exact f1416
    | 6, _ => exact f1417
    | 7, _ => exact f1418
    | 8, _ => exact f1419
    | 9, _ => exact f1420
  have Dy : ∃ g', own_Doc Z h1405 n0 d b g' fs ∧ g' 26 = .ref o1320 ∧ ∀ k, k ≠ 24 → k ≠ 25 → k ≠ 26 → k ≠ 27 → g' k = g k := ⟨_, ⟨f1410, f1407, Dya, nd, ld, od, by
        intro i hi
        match i, hi with
        | 0, _ => exact (kd 0 (by decide))
        | 1, _ => exact (kd 1 (by decide))
        | 2, _ => exact (kd 2 (by decide))
        | 3, _ => exact (kd 3 (by decide))
        | 4, _ => exact (kd 4 (by decide))
        | 5, _ => exact (kd 5 (by decide))
        | 6, _ => exact (kd 6 (by decide))
        | 7, _ => exact (kd 7 (by decide))
        | 8, _ => exact (kd 8 (by decide))
        | 9, _ => exact (kd 9 (by decide))⟩, rfl, fun k h1 h2 h3 h4 => by simp only [own_set, h1, h2, h3, h4, if_false]⟩
  obtain ⟨gy, Dy, Gy1, Gy2⟩ := Dy
  exact own_retV X1405 hx hret hlk (hb hby od_122_4_50) (by decide) (by decide) (by first | exact ⟨rfl, N1405, K1423.1, f1408, f1409, gy, o1320, Dy, Gy1, f1421, lt1332, Gy2⟩ | (rw [e1405]; exact ⟨rfl, N1405, K1423.1, f1408, f1409, gy, o1320, Dy, Gy1, f1421, lt1332, Gy2⟩))
theorem od_122_22_0 : decode prog_122_method_22_code 0 = .ok (.aload_n 0, 1) := by decide +kernel
theorem od_122_22_1 : decode prog_122_method_22_code 1 = .ok (.getfield 17, 3) := by decide +kernel
theorem od_122_22_4 : decode prog_122_method_22_code 4 = .ok (.aload_n 0, 1) := by decide +kernel
theorem od_122_22_5 : decode prog_122_method_22_code 5 = .ok (.getfield 17, 3) := by decide +kernel
theorem od_122_22_8 : decode prog_122_method_22_code 8 = .ok (.getfield 85, 3) := by decide +kernel
theorem od_122_22_11 : decode prog_122_method_22_code 11 = .ok (.putfield 281, 3) := by decide +kernel
theorem od_122_22_14 : decode prog_122_method_22_code 14 = .ok (.aload_n 0, 1) := by decide +kernel
theorem od_122_22_15 : decode prog_122_method_22_code 15 = .ok (.getfield 17, 3) := by decide +kernel
theorem od_122_22_18 : decode prog_122_method_22_code 18 = .ok (.areturn, 1) := by decide +kernel
set_option maxRecDepth 65536 in
set_option maxHeartbeats 40000000 in
theorem own_c_dc (l : Launch) (Z : State) (a0 : Array Value) (hw : ∀ d ∈ tables_1, d.before a0 Z = true) (a1 : Nat) (d : Nat) (b : Nat → Nat) (g : Nat → Value) (fs : Nat → Nat → Int32) (sb : Nat) (fss : Nat → Int32) (h0 : Heap) (n0 : Nat) (Z0 : n0 ≤ h0.size) (B0 : Fld Z h0 a1 "com/example/holdfast/holdfast/dom/CompactDocument$Builder" "document" "Lcom/example/holdfast/holdfast/dom/CompactDocument;" (.ref d)) (lad : a1 < d) (D0 : own_Doc Z h0 n0 d b g fs) (qc : g 22 = .int 1) (As : own_IA Z h0 sb .int 64 fss) (lsb : b 9 < sb) :
    own_Con l Z (⟨"com/example/holdfast/holdfast/dom/CompactDocument$Builder", "document", "()Lcom/example/holdfast/holdfast/dom/CompactDocument;"⟩ : MethodName) prog_122_method_22_code 1 (some (.object "com/example/holdfast/holdfast/dom/CompactDocument")) [] ({ frames := 0, cells := 0, slots := 0, locals := 0 } : Room) #[(.ref a1)] h0 (fun v h L => v = some (.ref d) ∧ Fr n0 L ∧ h0.size ≤ h.size ∧ own_Doc Z h n0 d b (own_set g 28 (.int 1)) fs ∧ own_IA Z h sb .int 64 fss) := by
  refine own_enter (plainFor_of_name own_pn7) ?_
  intro p e s m below meth c s₁ X0 e0 hx hZ hby hml hown hnm hret hlk
  refine own_cast (g' := (mkF m 0 #[.val (.ref a1)] [])) (by first | (simp [entryFrame, mkF, argsToLocals, Value.category]; done) | rfl) ?_
  have N0 := Fr.nil n0
  have K0 := Keep.refl h0 [d]
  obtain ⟨Ed, Fd, Ad, nd, ld, od, kd⟩ := D0
  have od_0 : b 0 < b 1 := od 0 (by decide)
  have od_1 : b 1 < b 2 := od 1 (by decide)
  have od_2 : b 2 < b 3 := od 2 (by decide)
  have od_3 : b 3 < b 4 := od 3 (by decide)
  have od_4 : b 4 < b 5 := od 4 (by decide)
  have od_5 : b 5 < b 6 := od 5 (by decide)
  have od_6 : b 6 < b 7 := od 6 (by decide)
  have od_7 : b 7 < b 8 := od 7 (by decide)
  have od_8 : b 8 < b 9 := od 8 (by decide)
  have Ad_0 : own_IA Z h0 (b 0) .byte 64 (fs 0) := Ad 0 (by decide)
  have Ad_1 : own_IA Z h0 (b 1) .int 64 (fs 1) := Ad 1 (by decide)
  have Ad_2 : own_IA Z h0 (b 2) .int 64 (fs 2) := Ad 2 (by decide)
  have Ad_3 : own_IA Z h0 (b 3) .int 64 (fs 3) := Ad 3 (by decide)
  have Ad_4 : own_IA Z h0 (b 4) .int 64 (fs 4) := Ad 4 (by decide)
  have Ad_5 : own_IA Z h0 (b 5) .int 64 (fs 5) := Ad 5 (by decide)
  have Ad_6 : own_IA Z h0 (b 6) .int 64 (fs 6) := Ad 6 (by decide)
  have Ad_7 : own_IA Z h0 (b 7) .byte 64 (fs 7) := Ad 7 (by decide)
  have Ad_8 : own_IA Z h0 (b 8) .int 64 (fs 8) := Ad 8 (by decide)
  have Ad_9 : own_IA Z h0 (b 9) .int 64 (fs 9) := Ad 9 (by decide)
  refine own_g (mkF m 1 #[.val (.ref a1)] [(.ref a1)]) (fun _ kz => XS.aloadN X0.here hx rfl (hb hby od_122_22_0) rfl rfl kz) ?_
  obtain ⟨T1424, X1424, e1424, st1424⟩ := getF X0 hx hZ hown (host := "") (Or.inl (own_w hw 107 rfl)) Via.refl e0 B0 (g := (mkF m 1 #[.val (.ref a1)] [(.ref a1)])) rfl rfl (hb hby od_122_22_1)
  refine own_s st1424 ?_
  show own_E p e below _ (T1424.setTop (mkF m 4 #[.val (.ref a1)] [(.ref d)]))
  refine own_g (mkF m 5 #[.val (.ref a1)] [(.ref a1), (.ref d)]) (fun _ kz => XS.aloadN X1424.here hx rfl (hb hby od_122_22_4) rfl rfl kz) ?_
  obtain ⟨T1425, X1425, e1425, st1425⟩ := getF X1424 hx hZ hown (host := "") (Or.inl (own_w hw 107 rfl)) Via.refl e1424 B0 (g := (mkF m 5 #[.val (.ref a1)] [(.ref a1), (.ref d)])) rfl rfl (hb hby od_122_22_5)
  refine own_s st1425 ?_
  show own_E p e below _ (T1425.setTop (mkF m 8 #[.val (.ref a1)] [(.ref d), (.ref d)]))
  obtain ⟨T1426, X1426, e1426, st1426⟩ := getF X1425 hx hZ hown (Or.inr (own_w hw 167 rfl)) Via.refl e1425 (show Fld Z h0 d "com/example/holdfast/holdfast/dom/CompactDocument" "count" "I" (.int (1 : Int32)) from own_FLg Fd 22 (by decide) qc) (g := (mkF m 8 #[.val (.ref a1)] [(.ref d), (.ref d)])) rfl rfl (hb hby od_122_22_8)
  refine own_s st1426 ?_
  show own_E p e below _ (T1426.setTop (mkF m 11 #[.val (.ref a1)] [(.int (1 : Int32)), (.ref d)]))
  obtain ⟨T1427, h1427, X1427, e1427, W1427, st1427⟩ := putF X1426 hx hZ hown (Or.inr (own_w hw 168 rfl)) Via.refl e1426 (show Fld Z h0 d "com/example/holdfast/holdfast/dom/CompactDocument" "built" "I" (g 28) from own_FLg Fd 28 (by decide) rfl) Ed (Or.inl (own_w hw 169 rfl)) (own_w hw 13 rfl) (ty := .int) (by decide) rfl rfl (g := (mkF m 11 #[.val (.ref a1)] [(.int (1 : Int32)), (.ref d)])) rfl rfl (hb hby od_122_22_11)
  have N1427 := Fr.snoc X1427 N0 nd
  have s1428 : n0 ≤ h1427.size := Nat.le_trans Z0 (Keep.of_wr W1427).1
  have f1429 := own_FL.wr hw Fd 28 (by decide) W1427
  have f1430 := Fld.other W1427 B0 (Or.inl (by show @Ne Nat _ _; omega))
  have f1431 := As.other W1427 (by show @Ne Nat _ _; omega)
  have f1432 := Exa.wr W1427 Ed
  have f1433 := Ad_0.other W1427 (by show @Ne Nat _ _; omega)
  have f1434 := Ad_1.other W1427 (by show @Ne Nat _ _; omega)
  have f1435 := Ad_2.other W1427 (by show @Ne Nat _ _; omega)
  have f1436 := Ad_3.other W1427 (by show @Ne Nat _ _; omega)
  have f1437 := Ad_4.other W1427 (by show @Ne Nat _ _; omega)
  have f1438 := Ad_5.other W1427 (by show @Ne Nat _ _; omega)
  have f1439 := Ad_6.other W1427 (by show @Ne Nat _ _; omega)
  have f1440 := Ad_7.other W1427 (by show @Ne Nat _ _; omega)
  have f1441 := Ad_8.other W1427 (by show @Ne Nat _ _; omega)
  have f1442 := Ad_9.other W1427 (by show @Ne Nat _ _; omega)
  have K1443 := K0.wr W1427 (Or.inl (by simp))
  refine own_s st1427 ?_
  show own_E p e below _ (T1427.setTop (mkF m 14 #[.val (.ref a1)] []))
  refine own_g (mkF m 15 #[.val (.ref a1)] [(.ref a1)]) (fun _ kz => XS.aloadN X1427.here hx rfl (hb hby od_122_22_14) rfl rfl kz) ?_
  obtain ⟨T1444, X1444, e1444, st1444⟩ := getF X1427 hx hZ hown (host := "") (Or.inl (own_w hw 107 rfl)) Via.refl e1427 f1430 (g := (mkF m 15 #[.val (.ref a1)] [(.ref a1)])) rfl rfl (hb hby od_122_22_15)
  refine own_s st1444 ?_
  show own_E p e below _ (T1444.setTop (mkF m 18 #[.val (.ref a1)] [(.ref d)]))
  have Dya : ∀ i, i < 10 → own_IA Z h1427 (b i) (own_aty i) 64 (fs i) := by
    intro i hi
    match i, hi with
    | 0, _ => exact f1433
    | 1, _ => exact f1434
    | 2, _ => exact f1435
    | 3, _ => exact f1436
    | 4, _ => exact f1437
    | 5, _ => exact f1438
    | 6, _ => exact f1439
    | 7, _ => exact f1440
    | 8, _ => exact f1441
    | 9, _ => exact f1442
  have Dy : own_Doc Z h1427 n0 d b (own_set g 28 (.int 1)) fs := ⟨f1432, f1429, Dya, nd, ld, od, by
        intro i hi
        match i, hi with
        | 0, _ => exact (kd 0 (by decide))
        | 1, _ => exact (kd 1 (by decide))
        | 2, _ => exact (kd 2 (by decide))
        | 3, _ => exact (kd 3 (by decide))
        | 4, _ => exact (kd 4 (by decide))
        | 5, _ => exact (kd 5 (by decide))
        | 6, _ => exact (kd 6 (by decide))
        | 7, _ => exact (kd 7 (by decide))
        | 8, _ => exact (kd 8 (by decide))
        | 9, _ => exact (kd 9 (by decide))⟩
  exact own_retA X1444 hx rfl hret hlk (hb hby od_122_22_18) (by decide) (by decide) (by first | exact ⟨rfl, N1427, K1443.1, Dy, f1431⟩ | (rw [e1444]; exact ⟨rfl, N1427, K1443.1, Dy, f1431⟩))
theorem od_121_2_0 : decode prog_121_method_2_code 0 = .ok (.aload_n 0, 1) := by decide +kernel
theorem od_121_2_1 : decode prog_121_method_2_code 1 = .ok (.getfield 90, 3) := by decide +kernel
theorem od_121_2_4 : decode prog_121_method_2_code 4 = .ok (.aload_n 0, 1) := by decide +kernel
theorem od_121_2_5 : decode prog_121_method_2_code 5 = .ok (.getfield 7, 3) := by decide +kernel
theorem od_121_2_8 : decode prog_121_method_2_code 8 = .ok (.arraylength, 1) := by decide +kernel
theorem od_121_2_9 : decode prog_121_method_2_code 9 = .ok (.if_icmp .ne 13, 3) := by decide +kernel
theorem od_121_2_22 : decode prog_121_method_2_code 22 = .ok (.aload_n 0, 1) := by decide +kernel
theorem od_121_2_23 : decode prog_121_method_2_code 23 = .ok (.dup, 1) := by decide +kernel
theorem od_121_2_24 : decode prog_121_method_2_code 24 = .ok (.getfield 90, 3) := by decide +kernel
theorem od_121_2_27 : decode prog_121_method_2_code 27 = .ok (.dup_x1, 1) := by decide +kernel
theorem od_121_2_28 : decode prog_121_method_2_code 28 = .ok (.iconst 1, 1) := by decide +kernel
theorem od_121_2_29 : decode prog_121_method_2_code 29 = .ok (.iadd, 1) := by decide +kernel
theorem od_121_2_30 : decode prog_121_method_2_code 30 = .ok (.putfield 90, 3) := by decide +kernel
theorem od_121_2_33 : decode prog_121_method_2_code 33 = .ok (.istore_n 3, 1) := by decide +kernel
theorem od_121_2_34 : decode prog_121_method_2_code 34 = .ok (.aload_n 0, 1) := by decide +kernel
theorem od_121_2_35 : decode prog_121_method_2_code 35 = .ok (.getfield 7, 3) := by decide +kernel
theorem od_121_2_38 : decode prog_121_method_2_code 38 = .ok (.iload_n 3, 1) := by decide +kernel
theorem od_121_2_39 : decode prog_121_method_2_code 39 = .ok (.iload_n 1, 1) := by decide +kernel
theorem od_121_2_40 : decode prog_121_method_2_code 40 = .ok (.i2b, 1) := by decide +kernel
theorem od_121_2_41 : decode prog_121_method_2_code 41 = .ok (.bastore, 1) := by decide +kernel
theorem od_121_2_42 : decode prog_121_method_2_code 42 = .ok (.aload_n 0, 1) := by decide +kernel
theorem od_121_2_43 : decode prog_121_method_2_code 43 = .ok (.getfield 13, 3) := by decide +kernel
theorem od_121_2_46 : decode prog_121_method_2_code 46 = .ok (.iload_n 3, 1) := by decide +kernel
theorem od_121_2_47 : decode prog_121_method_2_code 47 = .ok (.iconst (-1), 1) := by decide +kernel
theorem od_121_2_48 : decode prog_121_method_2_code 48 = .ok (.iastore, 1) := by decide +kernel
theorem od_121_2_49 : decode prog_121_method_2_code 49 = .ok (.aload_n 0, 1) := by decide +kernel
theorem od_121_2_50 : decode prog_121_method_2_code 50 = .ok (.getfield 17, 3) := by decide +kernel
theorem od_121_2_53 : decode prog_121_method_2_code 53 = .ok (.iload_n 3, 1) := by decide +kernel
theorem od_121_2_54 : decode prog_121_method_2_code 54 = .ok (.iconst (-1), 1) := by decide +kernel
theorem od_121_2_55 : decode prog_121_method_2_code 55 = .ok (.iastore, 1) := by decide +kernel
theorem od_121_2_56 : decode prog_121_method_2_code 56 = .ok (.aload_n 0, 1) := by decide +kernel
theorem od_121_2_57 : decode prog_121_method_2_code 57 = .ok (.getfield 20, 3) := by decide +kernel
theorem od_121_2_60 : decode prog_121_method_2_code 60 = .ok (.iload_n 3, 1) := by decide +kernel
theorem od_121_2_61 : decode prog_121_method_2_code 61 = .ok (.iconst (-1), 1) := by decide +kernel
theorem od_121_2_62 : decode prog_121_method_2_code 62 = .ok (.iastore, 1) := by decide +kernel
theorem od_121_2_63 : decode prog_121_method_2_code 63 = .ok (.aload_n 0, 1) := by decide +kernel
theorem od_121_2_64 : decode prog_121_method_2_code 64 = .ok (.getfield 23, 3) := by decide +kernel
theorem od_121_2_67 : decode prog_121_method_2_code 67 = .ok (.iload_n 3, 1) := by decide +kernel
theorem od_121_2_68 : decode prog_121_method_2_code 68 = .ok (.iconst (-1), 1) := by decide +kernel
theorem od_121_2_69 : decode prog_121_method_2_code 69 = .ok (.iastore, 1) := by decide +kernel
theorem od_121_2_70 : decode prog_121_method_2_code 70 = .ok (.aload_n 0, 1) := by decide +kernel
theorem od_121_2_71 : decode prog_121_method_2_code 71 = .ok (.getfield 26, 3) := by decide +kernel
theorem od_121_2_74 : decode prog_121_method_2_code 74 = .ok (.iload_n 3, 1) := by decide +kernel
theorem od_121_2_75 : decode prog_121_method_2_code 75 = .ok (.iconst (-1), 1) := by decide +kernel
theorem od_121_2_76 : decode prog_121_method_2_code 76 = .ok (.iastore, 1) := by decide +kernel
theorem od_121_2_77 : decode prog_121_method_2_code 77 = .ok (.aload_n 0, 1) := by decide +kernel
theorem od_121_2_78 : decode prog_121_method_2_code 78 = .ok (.getfield 29, 3) := by decide +kernel
theorem od_121_2_81 : decode prog_121_method_2_code 81 = .ok (.iload_n 3, 1) := by decide +kernel
theorem od_121_2_82 : decode prog_121_method_2_code 82 = .ok (.iload_n 2, 1) := by decide +kernel
theorem od_121_2_83 : decode prog_121_method_2_code 83 = .ok (.iastore, 1) := by decide +kernel
theorem od_121_2_84 : decode prog_121_method_2_code 84 = .ok (.aload_n 0, 1) := by decide +kernel
theorem od_121_2_85 : decode prog_121_method_2_code 85 = .ok (.getfield 35, 3) := by decide +kernel
theorem od_121_2_88 : decode prog_121_method_2_code 88 = .ok (.iload_n 3, 1) := by decide +kernel
theorem od_121_2_89 : decode prog_121_method_2_code 89 = .ok (.iconst (-1), 1) := by decide +kernel
theorem od_121_2_90 : decode prog_121_method_2_code 90 = .ok (.iastore, 1) := by decide +kernel
theorem od_121_2_91 : decode prog_121_method_2_code 91 = .ok (.aload_n 0, 1) := by decide +kernel
theorem od_121_2_92 : decode prog_121_method_2_code 92 = .ok (.getfield 38, 3) := by decide +kernel
theorem od_121_2_95 : decode prog_121_method_2_code 95 = .ok (.iload_n 3, 1) := by decide +kernel
theorem od_121_2_96 : decode prog_121_method_2_code 96 = .ok (.iconst 0, 1) := by decide +kernel
theorem od_121_2_97 : decode prog_121_method_2_code 97 = .ok (.iastore, 1) := by decide +kernel
theorem od_121_2_98 : decode prog_121_method_2_code 98 = .ok (.aload_n 0, 1) := by decide +kernel
theorem od_121_2_99 : decode prog_121_method_2_code 99 = .ok (.getfield 100, 3) := by decide +kernel
theorem od_121_2_102 : decode prog_121_method_2_code 102 = .ok (.ifnull 10, 3) := by decide +kernel
theorem od_121_2_105 : decode prog_121_method_2_code 105 = .ok (.aload_n 0, 1) := by decide +kernel
theorem od_121_2_106 : decode prog_121_method_2_code 106 = .ok (.getfield 100, 3) := by decide +kernel
theorem od_121_2_109 : decode prog_121_method_2_code 109 = .ok (.iload_n 3, 1) := by decide +kernel
theorem od_121_2_110 : decode prog_121_method_2_code 110 = .ok (.iconst (-1), 1) := by decide +kernel
theorem od_121_2_111 : decode prog_121_method_2_code 111 = .ok (.iastore, 1) := by decide +kernel
theorem od_121_2_112 : decode prog_121_method_2_code 112 = .ok (.iload_n 3, 1) := by decide +kernel
theorem od_121_2_113 : decode prog_121_method_2_code 113 = .ok (.ireturn, 1) := by decide +kernel
set_option maxRecDepth 65536 in
set_option maxHeartbeats 40000000 in
theorem own_c_add (l : Launch) (Z : State) (a0 : Array Value) (hw : ∀ d ∈ tables_1, d.before a0 Z = true) (d : Nat) (b : Nat → Nat) (g : Nat → Value) (fs : Nat → Nat → Int32) (sb : Nat) (fss : Nat → Int32) (h0 : Heap) (n0 : Nat) (Z0 : n0 ≤ h0.size) (D0 : own_Doc Z h0 n0 d b g fs) (qc : g 22 = .int 1) (qs : g 26 = .ref sb) (As : own_IA Z h0 sb .int 64 fss) (lsb : b 9 < sb) :
    own_Con l Z (⟨"com/example/holdfast/holdfast/dom/CompactDocument", "add", "(SI)I"⟩ : MethodName) prog_121_method_2_code 4 (some .int) [] ({ frames := 0, cells := 0, slots := 0, locals := 0 } : Room) #[(.ref d), (.int (3 : Int32)), (.int (-1 : Int32))] h0 (fun v h L => v = some (.int 1) ∧ Fr n0 L ∧ h0.size ≤ h.size ∧ ∃ fs', own_Doc Z h n0 d b (own_set g 22 (.int 2)) fs' ∧ fs' 1 0 = fs 1 0 ∧ fs' 1 1 = -1 ∧ ∀ q, fs' 7 q = fs 7 q) := by
  refine own_enter (plainFor_of_name own_pn6) ?_
  intro p e s m below meth c s₁ X0 e0 hx hZ hby hml hown hnm hret hlk
  refine own_cast (g' := (mkF m 0 #[.val (.ref d), .val (.int (3 : Int32)), .val (.int (-1 : Int32)), .unset] [])) (by first | (simp [entryFrame, mkF, argsToLocals, Value.category]; done) | rfl) ?_
  have N0 := Fr.nil n0
  have K0 := Keep.refl h0 [d, sb, b 0, b 1, b 2, b 3, b 4, b 5, b 6, b 8, b 9]
  obtain ⟨Ed, Fd, Ad, nd, ld, od, kd⟩ := D0
  have od_0 : b 0 < b 1 := od 0 (by decide)
  have od_1 : b 1 < b 2 := od 1 (by decide)
  have od_2 : b 2 < b 3 := od 2 (by decide)
  have od_3 : b 3 < b 4 := od 3 (by decide)
  have od_4 : b 4 < b 5 := od 4 (by decide)
  have od_5 : b 5 < b 6 := od 5 (by decide)
  have od_6 : b 6 < b 7 := od 6 (by decide)
  have od_7 : b 7 < b 8 := od 7 (by decide)
  have od_8 : b 8 < b 9 := od 8 (by decide)
  have Ad_0 : own_IA Z h0 (b 0) .byte 64 (fs 0) := Ad 0 (by decide)
  have Ad_1 : own_IA Z h0 (b 1) .int 64 (fs 1) := Ad 1 (by decide)
  have Ad_2 : own_IA Z h0 (b 2) .int 64 (fs 2) := Ad 2 (by decide)
  have Ad_3 : own_IA Z h0 (b 3) .int 64 (fs 3) := Ad 3 (by decide)
  have Ad_4 : own_IA Z h0 (b 4) .int 64 (fs 4) := Ad 4 (by decide)
  have Ad_5 : own_IA Z h0 (b 5) .int 64 (fs 5) := Ad 5 (by decide)
  have Ad_6 : own_IA Z h0 (b 6) .int 64 (fs 6) := Ad 6 (by decide)
  have Ad_7 : own_IA Z h0 (b 7) .byte 64 (fs 7) := Ad 7 (by decide)
  have Ad_8 : own_IA Z h0 (b 8) .int 64 (fs 8) := Ad 8 (by decide)
  have Ad_9 : own_IA Z h0 (b 9) .int 64 (fs 9) := Ad 9 (by decide)
  refine own_g (mkF m 1 #[.val (.ref d), .val (.int (3 : Int32)), .val (.int (-1 : Int32)), .unset] [(.ref d)]) (fun _ kz => XS.aloadN X0.here hx rfl (hb hby od_121_2_0) rfl rfl kz) ?_
  obtain ⟨T1445, X1445, e1445, st1445⟩ := getF X0 hx hZ hown (host := "") (Or.inl (own_w hw 104 rfl)) Via.refl e0 (show Fld Z h0 d "com/example/holdfast/holdfast/dom/CompactDocument" "count" "I" (.int (1 : Int32)) from own_FLg Fd 22 (by decide) qc) (g := (mkF m 1 #[.val (.ref d), .val (.int (3 : Int32)), .val (.int (-1 : Int32)), .unset] [(.ref d)])) rfl rfl (hb hby od_121_2_1)
  refine own_s st1445 ?_
  show own_E p e below _ (T1445.setTop (mkF m 4 #[.val (.ref d), .val (.int (3 : Int32)), .val (.int (-1 : Int32)), .unset] [(.int (1 : Int32))]))
  refine own_g (mkF m 5 #[.val (.ref d), .val (.int (3 : Int32)), .val (.int (-1 : Int32)), .unset] [(.ref d), (.int (1 : Int32))]) (fun _ kz => XS.aloadN X1445.here hx rfl (hb hby od_121_2_4) rfl rfl kz) ?_
  obtain ⟨T1446, X1446, e1446, st1446⟩ := getF X1445 hx hZ hown (host := "") (Or.inl (own_w hw 31 rfl)) Via.refl e1445 (show Fld Z h0 d "com/example/holdfast/holdfast/dom/CompactDocument" "types" "[B" (.ref (b 0)) from own_FLg Fd 2 (by decide) (kd 0 (by decide))) (g := (mkF m 5 #[.val (.ref d), .val (.int (3 : Int32)), .val (.int (-1 : Int32)), .unset] [(.ref d), (.int (1 : Int32))])) rfl rfl (hb hby od_121_2_5)
  refine own_s st1446 ?_
  show own_E p e below _ (T1446.setTop (mkF m 8 #[.val (.ref d), .val (.int (3 : Int32)), .val (.int (-1 : Int32)), .unset] [(.ref (b 0)), (.int (1 : Int32))]))
  refine own_lenI X1446 hx hZ e1446 Ad_0 (hb hby od_121_2_8) (z := (64 : Int32)) rfl ?_
  show own_E p e below _ (T1446.setTop (mkF m 9 #[.val (.ref d), .val (.int (3 : Int32)), .val (.int (-1 : Int32)), .unset] [(.int (64 : Int32)), (.int (1 : Int32))]))
  refine own_g (mkF m 22 #[.val (.ref d), .val (.int (3 : Int32)), .val (.int (-1 : Int32)), .unset] []) (fun _ kz => XS.icmpYes X1446.here hx rfl (pc0 := 9) (pc' := 22) rfl (hb hby od_121_2_9) rfl (feq (by decide)).2 (by decide) (by decide) kz) ?_
  refine own_g (mkF m 23 #[.val (.ref d), .val (.int (3 : Int32)), .val (.int (-1 : Int32)), .unset] [(.ref d)]) (fun _ kz => XS.aloadN X1446.here hx rfl (hb hby od_121_2_22) rfl rfl kz) ?_
  refine own_g (mkF m 24 #[.val (.ref d), .val (.int (3 : Int32)), .val (.int (-1 : Int32)), .unset] [(.ref d), (.ref d)]) (fun _ kz => XS.dup X1446.here hx rfl (hb hby od_121_2_23) rfl rfl kz) ?_
  obtain ⟨T1447, X1447, e1447, st1447⟩ := getF X1446 hx hZ hown (host := "") (Or.inl (own_w hw 104 rfl)) Via.refl e1446 (show Fld Z h0 d "com/example/holdfast/holdfast/dom/CompactDocument" "count" "I" (.int (1 : Int32)) from own_FLg Fd 22 (by decide) qc) (g := (mkF m 24 #[.val (.ref d), .val (.int (3 : Int32)), .val (.int (-1 : Int32)), .unset] [(.ref d), (.ref d)])) rfl rfl (hb hby od_121_2_24)
  refine own_s st1447 ?_
  show own_E p e below _ (T1447.setTop (mkF m 27 #[.val (.ref d), .val (.int (3 : Int32)), .val (.int (-1 : Int32)), .unset] [(.int (1 : Int32)), (.ref d)]))
  refine own_g (mkF m 28 #[.val (.ref d), .val (.int (3 : Int32)), .val (.int (-1 : Int32)), .unset] [(.int (1 : Int32)), (.ref d), (.int (1 : Int32))]) (fun _ kz => XS.dupX1 X1447.here hx rfl (hb hby od_121_2_27) rfl rfl rfl kz) ?_
  refine own_g (mkF m 29 #[.val (.ref d), .val (.int (3 : Int32)), .val (.int (-1 : Int32)), .unset] [(.int (1 : Int32)), (.int (1 : Int32)), (.ref d), (.int (1 : Int32))]) (fun _ kz => XS.iconst X1447.here hx rfl (hb hby od_121_2_28) kz) ?_
  refine own_g (mkF m 30 #[.val (.ref d), .val (.int (3 : Int32)), .val (.int (-1 : Int32)), .unset] [(.int ((1 : Int32) + (1 : Int32))), (.ref d), (.int (1 : Int32))]) (fun _ kz => XS.iadd X1447.here hx rfl (hb hby od_121_2_29) rfl kz) ?_
  rw [show ((1 : Int32) + (1 : Int32)) = (2 : Int32) from by decide]
  show own_E p e below _ (T1447.setTop (mkF m 30 #[.val (.ref d), .val (.int (3 : Int32)), .val (.int (-1 : Int32)), .unset] [(.int (2 : Int32)), (.ref d), (.int (1 : Int32))]))
  obtain ⟨T1448, h1448, X1448, e1448, W1448, st1448⟩ := putF X1447 hx hZ hown (host := "") (Or.inl (own_w hw 104 rfl)) Via.refl e1447 (show Fld Z h0 d "com/example/holdfast/holdfast/dom/CompactDocument" "count" "I" (.int (1 : Int32)) from own_FLg Fd 22 (by decide) qc) Ed (Or.inl (own_w hw 105 rfl)) (own_w hw 13 rfl) (ty := .int) (by decide) rfl rfl (g := (mkF m 30 #[.val (.ref d), .val (.int (3 : Int32)), .val (.int (-1 : Int32)), .unset] [(.int (2 : Int32)), (.ref d), (.int (1 : Int32))])) rfl rfl (hb hby od_121_2_30)
  have N1448 := Fr.snoc X1448 N0 nd
  have s1449 : n0 ≤ h1448.size := Nat.le_trans Z0 (Keep.of_wr W1448).1
  have f1450 := own_FL.wr hw Fd 22 (by decide) W1448
  have f1451 := As.other W1448 (by show @Ne Nat _ _; omega)
  have f1452 := Exa.wr W1448 Ed
  have f1453 := Ad_0.other W1448 (by show @Ne Nat _ _; omega)
  have f1454 := Ad_1.other W1448 (by show @Ne Nat _ _; omega)
  have f1455 := Ad_2.other W1448 (by show @Ne Nat _ _; omega)
  have f1456 := Ad_3.other W1448 (by show @Ne Nat _ _; omega)
  have f1457 := Ad_4.other W1448 (by show @Ne Nat _ _; omega)
  have f1458 := Ad_5.other W1448 (by show @Ne Nat _ _; omega)
  have f1459 := Ad_6.other W1448 (by show @Ne Nat _ _; omega)
  have f1460 := Ad_7.other W1448 (by show @Ne Nat _ _; omega)
  have f1461 := Ad_8.other W1448 (by show @Ne Nat _ _; omega)
  have f1462 := Ad_9.other W1448 (by show @Ne Nat _ _; omega)
  have K1463 := K0.wr W1448 (Or.inl (by simp))
  refine own_s st1448 ?_
  show own_E p e below _ (T1448.setTop (mkF m 33 #[.val (.ref d), .val (.int (3 : Int32)), .val (.int (-1 : Int32)), .unset] [(.int (1 : Int32))]))
  refine own_g (mkF m 34 #[.val (.ref d), .val (.int (3 : Int32)), .val (.int (-1 : Int32)), .val (.int (1 : Int32))] []) (fun _ kz => XS.istoreN X1448.here hx rfl (hb hby od_121_2_33) rfl (l' := #[.val (.ref d), .val (.int (3 : Int32)), .val (.int (-1 : Int32)), .val (.int (1 : Int32))]) rfl kz) ?_
  refine own_g (mkF m 35 #[.val (.ref d), .val (.int (3 : Int32)), .val (.int (-1 : Int32)), .val (.int (1 : Int32))] [(.ref d)]) (fun _ kz => XS.aloadN X1448.here hx rfl (hb hby od_121_2_34) rfl rfl kz) ?_
  obtain ⟨T1464, X1464, e1464, st1464⟩ := getF X1448 hx hZ hown (host := "") (Or.inl (own_w hw 31 rfl)) Via.refl e1448 (show Fld Z h1448 d "com/example/holdfast/holdfast/dom/CompactDocument" "types" "[B" (.ref (b 0)) from own_FLg f1450 2 (by decide) (kd 0 (by decide))) (g := (mkF m 35 #[.val (.ref d), .val (.int (3 : Int32)), .val (.int (-1 : Int32)), .val (.int (1 : Int32))] [(.ref d)])) rfl rfl (hb hby od_121_2_35)
  refine own_s st1464 ?_
  show own_E p e below _ (T1464.setTop (mkF m 38 #[.val (.ref d), .val (.int (3 : Int32)), .val (.int (-1 : Int32)), .val (.int (1 : Int32))] [(.ref (b 0))]))
  refine own_g (mkF m 39 #[.val (.ref d), .val (.int (3 : Int32)), .val (.int (-1 : Int32)), .val (.int (1 : Int32))] [(.int (1 : Int32)), (.ref (b 0))]) (fun _ kz => XS.iloadN X1464.here hx rfl (hb hby od_121_2_38) rfl kz) ?_
  refine own_g (mkF m 40 #[.val (.ref d), .val (.int (3 : Int32)), .val (.int (-1 : Int32)), .val (.int (1 : Int32))] [(.int (3 : Int32)), (.int (1 : Int32)), (.ref (b 0))]) (fun _ kz => XS.iloadN X1464.here hx rfl (hb hby od_121_2_39) rfl kz) ?_
  refine own_g (mkF m 41 #[.val (.ref d), .val (.int (3 : Int32)), .val (.int (-1 : Int32)), .val (.int (1 : Int32))] [(.int (3 : Int32).toInt8.toInt32), (.int (1 : Int32)), (.ref (b 0))]) (fun _ kz => XS.i2b X1464.here hx rfl (hb hby od_121_2_40) rfl kz) ?_
  refine own_stB X1464 hx hZ e1464 f1453 (hb hby od_121_2_41) (by decide) (i := 1) rfl (by decide) ?_
  intro T1465 h1465 X1465 e1465 W1465 A1465
  have N1465 := Fr.snoc X1465 N1448 (by show @LE.le Nat _ _ _; omega)
  have s1466 : n0 ≤ h1465.size := Nat.le_trans s1449 (Keep.of_wr W1465).1
  have f1467 := own_FL.other W1465 f1450 (by show @Ne Nat _ _; omega)
  have f1468 := f1451.other W1465 (by show @Ne Nat _ _; omega)
  have f1469 := Exa.wr W1465 f1452
  have f1470 := f1454.other W1465 (by show @Ne Nat _ _; omega)
  have f1471 := f1455.other W1465 (by show @Ne Nat _ _; omega)
  have f1472 := f1456.other W1465 (by show @Ne Nat _ _; omega)
  have f1473 := f1457.other W1465 (by show @Ne Nat _ _; omega)
  have f1474 := f1458.other W1465 (by show @Ne Nat _ _; omega)
  have f1475 := f1459.other W1465 (by show @Ne Nat _ _; omega)
  have f1476 := f1460.other W1465 (by show @Ne Nat _ _; omega)
  have f1477 := f1461.other W1465 (by show @Ne Nat _ _; omega)
  have f1478 := f1462.other W1465 (by show @Ne Nat _ _; omega)
  have K1479 := K1463.wr W1465 (Or.inl (by simp))
  show own_E p e below _ (T1465.setTop (mkF m 42 #[.val (.ref d), .val (.int (3 : Int32)), .val (.int (-1 : Int32)), .val (.int (1 : Int32))] []))
  refine own_g (mkF m 43 #[.val (.ref d), .val (.int (3 : Int32)), .val (.int (-1 : Int32)), .val (.int (1 : Int32))] [(.ref d)]) (fun _ kz => XS.aloadN X1465.here hx rfl (hb hby od_121_2_42) rfl rfl kz) ?_
  obtain ⟨T1480, X1480, e1480, st1480⟩ := getF X1465 hx hZ hown (host := "") (Or.inl (own_w hw 34 rfl)) Via.refl e1465 (show Fld Z h1465 d "com/example/holdfast/holdfast/dom/CompactDocument" "parents" "[I" (.ref (b 1)) from own_FLg f1467 3 (by decide) (kd 1 (by decide))) (g := (mkF m 43 #[.val (.ref d), .val (.int (3 : Int32)), .val (.int (-1 : Int32)), .val (.int (1 : Int32))] [(.ref d)])) rfl rfl (hb hby od_121_2_43)
  refine own_s st1480 ?_
  show own_E p e below _ (T1480.setTop (mkF m 46 #[.val (.ref d), .val (.int (3 : Int32)), .val (.int (-1 : Int32)), .val (.int (1 : Int32))] [(.ref (b 1))]))
  refine own_g (mkF m 47 #[.val (.ref d), .val (.int (3 : Int32)), .val (.int (-1 : Int32)), .val (.int (1 : Int32))] [(.int (1 : Int32)), (.ref (b 1))]) (fun _ kz => XS.iloadN X1480.here hx rfl (hb hby od_121_2_46) rfl kz) ?_
  refine own_g (mkF m 48 #[.val (.ref d), .val (.int (3 : Int32)), .val (.int (-1 : Int32)), .val (.int (1 : Int32))] [(.int (-1 : Int32)), (.int (1 : Int32)), (.ref (b 1))]) (fun _ kz => XS.iconst X1480.here hx rfl (hb hby od_121_2_47) kz) ?_
  refine own_stI X1480 hx hZ e1480 f1470 (hb hby od_121_2_48) (by decide) (i := 1) rfl (by decide) ?_
  intro T1481 h1481 X1481 e1481 W1481 A1481
  have N1481 := Fr.snoc X1481 N1465 (by show @LE.le Nat _ _ _; omega)
  have s1482 : n0 ≤ h1481.size := Nat.le_trans s1466 (Keep.of_wr W1481).1
  have f1483 := own_FL.other W1481 f1467 (by show @Ne Nat _ _; omega)
  have f1484 := f1468.other W1481 (by show @Ne Nat _ _; omega)
  have f1485 := Exa.wr W1481 f1469
  have f1486 := A1465.other W1481 (by show @Ne Nat _ _; omega)
  have f1487 := f1471.other W1481 (by show @Ne Nat _ _; omega)
  have f1488 := f1472.other W1481 (by show @Ne Nat _ _; omega)
  have f1489 := f1473.other W1481 (by show @Ne Nat _ _; omega)
  have f1490 := f1474.other W1481 (by show @Ne Nat _ _; omega)
  have f1491 := f1475.other W1481 (by show @Ne Nat _ _; omega)
  have f1492 := f1476.other W1481 (by show @Ne Nat _ _; omega)
  have f1493 := f1477.other W1481 (by show @Ne Nat _ _; omega)
  have f1494 := f1478.other W1481 (by show @Ne Nat _ _; omega)
  have K1495 := K1479.wr W1481 (Or.inl (by simp))
  show own_E p e below _ (T1481.setTop (mkF m 49 #[.val (.ref d), .val (.int (3 : Int32)), .val (.int (-1 : Int32)), .val (.int (1 : Int32))] []))
  refine own_g (mkF m 50 #[.val (.ref d), .val (.int (3 : Int32)), .val (.int (-1 : Int32)), .val (.int (1 : Int32))] [(.ref d)]) (fun _ kz => XS.aloadN X1481.here hx rfl (hb hby od_121_2_49) rfl rfl kz) ?_
  obtain ⟨T1496, X1496, e1496, st1496⟩ := getF X1481 hx hZ hown (host := "") (Or.inl (own_w hw 36 rfl)) Via.refl e1481 (show Fld Z h1481 d "com/example/holdfast/holdfast/dom/CompactDocument" "firsts" "[I" (.ref (b 2)) from own_FLg f1483 4 (by decide) (kd 2 (by decide))) (g := (mkF m 50 #[.val (.ref d), .val (.int (3 : Int32)), .val (.int (-1 : Int32)), .val (.int (1 : Int32))] [(.ref d)])) rfl rfl (hb hby od_121_2_50)
  refine own_s st1496 ?_
  show own_E p e below _ (T1496.setTop (mkF m 53 #[.val (.ref d), .val (.int (3 : Int32)), .val (.int (-1 : Int32)), .val (.int (1 : Int32))] [(.ref (b 2))]))
  refine own_g (mkF m 54 #[.val (.ref d), .val (.int (3 : Int32)), .val (.int (-1 : Int32)), .val (.int (1 : Int32))] [(.int (1 : Int32)), (.ref (b 2))]) (fun _ kz => XS.iloadN X1496.here hx rfl (hb hby od_121_2_53) rfl kz) ?_
  refine own_g (mkF m 55 #[.val (.ref d), .val (.int (3 : Int32)), .val (.int (-1 : Int32)), .val (.int (1 : Int32))] [(.int (-1 : Int32)), (.int (1 : Int32)), (.ref (b 2))]) (fun _ kz => XS.iconst X1496.here hx rfl (hb hby od_121_2_54) kz) ?_
  refine own_stI X1496 hx hZ e1496 f1487 (hb hby od_121_2_55) (by decide) (i := 1) rfl (by decide) ?_
  intro T1497 h1497 X1497 e1497 W1497 A1497
  have N1497 := Fr.snoc X1497 N1481 (by show @LE.le Nat _ _ _; omega)
  have s1498 : n0 ≤ h1497.size := Nat.le_trans s1482 (Keep.of_wr W1497).1
  have f1499 := own_FL.other W1497 f1483 (by show @Ne Nat _ _; omega)
  have f1500 := f1484.other W1497 (by show @Ne Nat _ _; omega)
  have f1501 := Exa.wr W1497 f1485
  have f1502 := f1486.other W1497 (by show @Ne Nat _ _; omega)
  have f1503 := A1481.other W1497 (by show @Ne Nat _ _; omega)
  have f1504 := f1488.other W1497 (by show @Ne Nat _ _; omega)
  have f1505 := f1489.other W1497 (by show @Ne Nat _ _; omega)
  have f1506 := f1490.other W1497 (by show @Ne Nat _ _; omega)
  have f1507 := f1491.other W1497 (by show @Ne Nat _ _; omega)
  have f1508 := f1492.other W1497 (by show @Ne Nat _ _; omega)
  have f1509 := f1493.other W1497 (by show @Ne Nat _ _; omega)
  have f1510 := f1494.other W1497 (by show @Ne Nat _ _; omega)
  have K1511 := K1495.wr W1497 (Or.inl (by simp))
  show own_E p e below _ (T1497.setTop (mkF m 56 #[.val (.ref d), .val (.int (3 : Int32)), .val (.int (-1 : Int32)), .val (.int (1 : Int32))] []))
  refine own_g (mkF m 57 #[.val (.ref d), .val (.int (3 : Int32)), .val (.int (-1 : Int32)), .val (.int (1 : Int32))] [(.ref d)]) (fun _ kz => XS.aloadN X1497.here hx rfl (hb hby od_121_2_56) rfl rfl kz) ?_
  obtain ⟨T1512, X1512, e1512, st1512⟩ := getF X1497 hx hZ hown (host := "") (Or.inl (own_w hw 38 rfl)) Via.refl e1497 (show Fld Z h1497 d "com/example/holdfast/holdfast/dom/CompactDocument" "lasts" "[I" (.ref (b 3)) from own_FLg f1499 5 (by decide) (kd 3 (by decide))) (g := (mkF m 57 #[.val (.ref d), .val (.int (3 : Int32)), .val (.int (-1 : Int32)), .val (.int (1 : Int32))] [(.ref d)])) rfl rfl (hb hby od_121_2_57)
  refine own_s st1512 ?_
  show own_E p e below _ (T1512.setTop (mkF m 60 #[.val (.ref d), .val (.int (3 : Int32)), .val (.int (-1 : Int32)), .val (.int (1 : Int32))] [(.ref (b 3))]))
  refine own_g (mkF m 61 #[.val (.ref d), .val (.int (3 : Int32)), .val (.int (-1 : Int32)), .val (.int (1 : Int32))] [(.int (1 : Int32)), (.ref (b 3))]) (fun _ kz => XS.iloadN X1512.here hx rfl (hb hby od_121_2_60) rfl kz) ?_
  refine own_g (mkF m 62 #[.val (.ref d), .val (.int (3 : Int32)), .val (.int (-1 : Int32)), .val (.int (1 : Int32))] [(.int (-1 : Int32)), (.int (1 : Int32)), (.ref (b 3))]) (fun _ kz => XS.iconst X1512.here hx rfl (hb hby od_121_2_61) kz) ?_
  refine own_stI X1512 hx hZ e1512 f1504 (hb hby od_121_2_62) (by decide) (i := 1) rfl (by decide) ?_
  intro T1513 h1513 X1513 e1513 W1513 A1513
  have N1513 := Fr.snoc X1513 N1497 (by show @LE.le Nat _ _ _; omega)
  have s1514 : n0 ≤ h1513.size := Nat.le_trans s1498 (Keep.of_wr W1513).1
  have f1515 := own_FL.other W1513 f1499 (by show @Ne Nat _ _; omega)
  have f1516 := f1500.other W1513 (by show @Ne Nat _ _; omega)
  have f1517 := Exa.wr W1513 f1501
  have f1518 := f1502.other W1513 (by show @Ne Nat _ _; omega)
  have f1519 := f1503.other W1513 (by show @Ne Nat _ _; omega)
  have f1520 := A1497.other W1513 (by show @Ne Nat _ _; omega)
  have f1521 := f1505.other W1513 (by show @Ne Nat _ _; omega)
  have f1522 := f1506.other W1513 (by show @Ne Nat _ _; omega)
  have f1523 := f1507.other W1513 (by show @Ne Nat _ _; omega)
  have f1524 := f1508.other W1513 (by show @Ne Nat _ _; omega)
  have f1525 := f1509.other W1513 (by show @Ne Nat _ _; omega)
  have f1526 := f1510.other W1513 (by show @Ne Nat _ _; omega)
  have K1527 := K1511.wr W1513 (Or.inl (by simp))
  show own_E p e below _ (T1513.setTop (mkF m 63 #[.val (.ref d), .val (.int (3 : Int32)), .val (.int (-1 : Int32)), .val (.int (1 : Int32))] []))
  refine own_g (mkF m 64 #[.val (.ref d), .val (.int (3 : Int32)), .val (.int (-1 : Int32)), .val (.int (1 : Int32))] [(.ref d)]) (fun _ kz => XS.aloadN X1513.here hx rfl (hb hby od_121_2_63) rfl rfl kz) ?_
  obtain ⟨T1528, X1528, e1528, st1528⟩ := getF X1513 hx hZ hown (host := "") (Or.inl (own_w hw 40 rfl)) Via.refl e1513 (show Fld Z h1513 d "com/example/holdfast/holdfast/dom/CompactDocument" "nexts" "[I" (.ref (b 4)) from own_FLg f1515 6 (by decide) (kd 4 (by decide))) (g := (mkF m 64 #[.val (.ref d), .val (.int (3 : Int32)), .val (.int (-1 : Int32)), .val (.int (1 : Int32))] [(.ref d)])) rfl rfl (hb hby od_121_2_64)
  refine own_s st1528 ?_
  show own_E p e below _ (T1528.setTop (mkF m 67 #[.val (.ref d), .val (.int (3 : Int32)), .val (.int (-1 : Int32)), .val (.int (1 : Int32))] [(.ref (b 4))]))
  refine own_g (mkF m 68 #[.val (.ref d), .val (.int (3 : Int32)), .val (.int (-1 : Int32)), .val (.int (1 : Int32))] [(.int (1 : Int32)), (.ref (b 4))]) (fun _ kz => XS.iloadN X1528.here hx rfl (hb hby od_121_2_67) rfl kz) ?_
  refine own_g (mkF m 69 #[.val (.ref d), .val (.int (3 : Int32)), .val (.int (-1 : Int32)), .val (.int (1 : Int32))] [(.int (-1 : Int32)), (.int (1 : Int32)), (.ref (b 4))]) (fun _ kz => XS.iconst X1528.here hx rfl (hb hby od_121_2_68) kz) ?_
  refine own_stI X1528 hx hZ e1528 f1521 (hb hby od_121_2_69) (by decide) (i := 1) rfl (by decide) ?_
  intro T1529 h1529 X1529 e1529 W1529 A1529
  have N1529 := Fr.snoc X1529 N1513 (by show @LE.le Nat _ _ _; omega)
  have s1530 : n0 ≤ h1529.size := Nat.le_trans s1514 (Keep.of_wr W1529).1
  have f1531 := own_FL.other W1529 f1515 (by show @Ne Nat _ _; omega)
  have f1532 := f1516.other W1529 (by show @Ne Nat _ _; omega)
  have f1533 := Exa.wr W1529 f1517
  have f1534 := f1518.other W1529 (by show @Ne Nat _ _; omega)
  have f1535 := f1519.other W1529 (by show @Ne Nat _ _; omega)
  have f1536 := f1520.other W1529 (by show @Ne Nat _ _; omega)
  have f1537 := A1513.other W1529 (by show @Ne Nat _ _; omega)
  have f1538 := f1522.other W1529 (by show @Ne Nat _ _; omega)
  have f1539 := f1523.other W1529 (by show @Ne Nat _ _; omega)
  have f1540 := f1524.other W1529 (by show @Ne Nat _ _; omega)
  have f1541 := f1525.other W1529 (by show @Ne Nat _ _; omega)
  have f1542 := f1526.other W1529 (by show @Ne Nat _ _; omega)
  have K1543 := K1527.wr W1529 (Or.inl (by simp))
  show own_E p e below _ (T1529.setTop (mkF m 70 #[.val (.ref d), .val (.int (3 : Int32)), .val (.int (-1 : Int32)), .val (.int (1 : Int32))] []))
  refine own_g (mkF m 71 #[.val (.ref d), .val (.int (3 : Int32)), .val (.int (-1 : Int32)), .val (.int (1 : Int32))] [(.ref d)]) (fun _ kz => XS.aloadN X1529.here hx rfl (hb hby od_121_2_70) rfl rfl kz) ?_
  obtain ⟨T1544, X1544, e1544, st1544⟩ := getF X1529 hx hZ hown (host := "") (Or.inl (own_w hw 42 rfl)) Via.refl e1529 (show Fld Z h1529 d "com/example/holdfast/holdfast/dom/CompactDocument" "previouses" "[I" (.ref (b 5)) from own_FLg f1531 7 (by decide) (kd 5 (by decide))) (g := (mkF m 71 #[.val (.ref d), .val (.int (3 : Int32)), .val (.int (-1 : Int32)), .val (.int (1 : Int32))] [(.ref d)])) rfl rfl (hb hby od_121_2_71)
  refine own_s st1544 ?_
  show own_E p e below _ (T1544.setTop (mkF m 74 #[.val (.ref d), .val (.int (3 : Int32)), .val (.int (-1 : Int32)), .val (.int (1 : Int32))] [(.ref (b 5))]))
  refine own_g (mkF m 75 #[.val (.ref d), .val (.int (3 : Int32)), .val (.int (-1 : Int32)), .val (.int (1 : Int32))] [(.int (1 : Int32)), (.ref (b 5))]) (fun _ kz => XS.iloadN X1544.here hx rfl (hb hby od_121_2_74) rfl kz) ?_
  refine own_g (mkF m 76 #[.val (.ref d), .val (.int (3 : Int32)), .val (.int (-1 : Int32)), .val (.int (1 : Int32))] [(.int (-1 : Int32)), (.int (1 : Int32)), (.ref (b 5))]) (fun _ kz => XS.iconst X1544.here hx rfl (hb hby od_121_2_75) kz) ?_
  refine own_stI X1544 hx hZ e1544 f1538 (hb hby od_121_2_76) (by decide) (i := 1) rfl (by decide) ?_
  intro T1545 h1545 X1545 e1545 W1545 A1545
  have N1545 := Fr.snoc X1545 N1529 (by show @LE.le Nat _ _ _; omega)
  have s1546 : n0 ≤ h1545.size := Nat.le_trans s1530 (Keep.of_wr W1545).1
  have f1547 := own_FL.other W1545 f1531 (by show @Ne Nat _ _; omega)
  have f1548 := f1532.other W1545 (by show @Ne Nat _ _; omega)
  have f1549 := Exa.wr W1545 f1533
  have f1550 := f1534.other W1545 (by show @Ne Nat _ _; omega)
  have f1551 := f1535.other W1545 (by show @Ne Nat _ _; omega)
  have f1552 := f1536.other W1545 (by show @Ne Nat _ _; omega)
  have f1553 := f1537.other W1545 (by show @Ne Nat _ _; omega)
  have f1554 := A1529.other W1545 (by show @Ne Nat _ _; omega)
  have f1555 := f1539.other W1545 (by show @Ne Nat _ _; omega)
  have f1556 := f1540.other W1545 (by show @Ne Nat _ _; omega)
  have f1557 := f1541.other W1545 (by show @Ne Nat _ _; omega)
  have f1558 := f1542.other W1545 (by show @Ne Nat _ _; omega)
  have K1559 := K1543.wr W1545 (Or.inl (by simp))
  show own_E p e below _ (T1545.setTop (mkF m 77 #[.val (.ref d), .val (.int (3 : Int32)), .val (.int (-1 : Int32)), .val (.int (1 : Int32))] []))
  refine own_g (mkF m 78 #[.val (.ref d), .val (.int (3 : Int32)), .val (.int (-1 : Int32)), .val (.int (1 : Int32))] [(.ref d)]) (fun _ kz => XS.aloadN X1545.here hx rfl (hb hby od_121_2_77) rfl rfl kz) ?_
  obtain ⟨T1560, X1560, e1560, st1560⟩ := getF X1545 hx hZ hown (host := "") (Or.inl (own_w hw 44 rfl)) Via.refl e1545 (show Fld Z h1545 d "com/example/holdfast/holdfast/dom/CompactDocument" "names" "[I" (.ref (b 6)) from own_FLg f1547 8 (by decide) (kd 6 (by decide))) (g := (mkF m 78 #[.val (.ref d), .val (.int (3 : Int32)), .val (.int (-1 : Int32)), .val (.int (1 : Int32))] [(.ref d)])) rfl rfl (hb hby od_121_2_78)
  refine own_s st1560 ?_
  show own_E p e below _ (T1560.setTop (mkF m 81 #[.val (.ref d), .val (.int (3 : Int32)), .val (.int (-1 : Int32)), .val (.int (1 : Int32))] [(.ref (b 6))]))
  refine own_g (mkF m 82 #[.val (.ref d), .val (.int (3 : Int32)), .val (.int (-1 : Int32)), .val (.int (1 : Int32))] [(.int (1 : Int32)), (.ref (b 6))]) (fun _ kz => XS.iloadN X1560.here hx rfl (hb hby od_121_2_81) rfl kz) ?_
  refine own_g (mkF m 83 #[.val (.ref d), .val (.int (3 : Int32)), .val (.int (-1 : Int32)), .val (.int (1 : Int32))] [(.int (-1 : Int32)), (.int (1 : Int32)), (.ref (b 6))]) (fun _ kz => XS.iloadN X1560.here hx rfl (hb hby od_121_2_82) rfl kz) ?_
  refine own_stI X1560 hx hZ e1560 f1555 (hb hby od_121_2_83) (by decide) (i := 1) rfl (by decide) ?_
  intro T1561 h1561 X1561 e1561 W1561 A1561
  have N1561 := Fr.snoc X1561 N1545 (by show @LE.le Nat _ _ _; omega)
  have s1562 : n0 ≤ h1561.size := Nat.le_trans s1546 (Keep.of_wr W1561).1
  have f1563 := own_FL.other W1561 f1547 (by show @Ne Nat _ _; omega)
  have f1564 := f1548.other W1561 (by show @Ne Nat _ _; omega)
  have f1565 := Exa.wr W1561 f1549
  have f1566 := f1550.other W1561 (by show @Ne Nat _ _; omega)
  have f1567 := f1551.other W1561 (by show @Ne Nat _ _; omega)
  have f1568 := f1552.other W1561 (by show @Ne Nat _ _; omega)
  have f1569 := f1553.other W1561 (by show @Ne Nat _ _; omega)
  have f1570 := f1554.other W1561 (by show @Ne Nat _ _; omega)
  have f1571 := A1545.other W1561 (by show @Ne Nat _ _; omega)
  have f1572 := f1556.other W1561 (by show @Ne Nat _ _; omega)
  have f1573 := f1557.other W1561 (by show @Ne Nat _ _; omega)
  have f1574 := f1558.other W1561 (by show @Ne Nat _ _; omega)
  have K1575 := K1559.wr W1561 (Or.inl (by simp))
  show own_E p e below _ (T1561.setTop (mkF m 84 #[.val (.ref d), .val (.int (3 : Int32)), .val (.int (-1 : Int32)), .val (.int (1 : Int32))] []))
  refine own_g (mkF m 85 #[.val (.ref d), .val (.int (3 : Int32)), .val (.int (-1 : Int32)), .val (.int (1 : Int32))] [(.ref d)]) (fun _ kz => XS.aloadN X1561.here hx rfl (hb hby od_121_2_84) rfl rfl kz) ?_
  obtain ⟨T1576, X1576, e1576, st1576⟩ := getF X1561 hx hZ hown (host := "") (Or.inl (own_w hw 48 rfl)) Via.refl e1561 (show Fld Z h1561 d "com/example/holdfast/holdfast/dom/CompactDocument" "dataStarts" "[I" (.ref (b 8)) from own_FLg f1563 10 (by decide) (kd 8 (by decide))) (g := (mkF m 85 #[.val (.ref d), .val (.int (3 : Int32)), .val (.int (-1 : Int32)), .val (.int (1 : Int32))] [(.ref d)])) rfl rfl (hb hby od_121_2_85)
  refine own_s st1576 ?_
  show own_E p e below _ (T1576.setTop (mkF m 88 #[.val (.ref d), .val (.int (3 : Int32)), .val (.int (-1 : Int32)), .val (.int (1 : Int32))] [(.ref (b 8))]))
  refine own_g (mkF m 89 #[.val (.ref d), .val (.int (3 : Int32)), .val (.int (-1 : Int32)), .val (.int (1 : Int32))] [(.int (1 : Int32)), (.ref (b 8))]) (fun _ kz => XS.iloadN X1576.here hx rfl (hb hby od_121_2_88) rfl kz) ?_
  refine own_g (mkF m 90 #[.val (.ref d), .val (.int (3 : Int32)), .val (.int (-1 : Int32)), .val (.int (1 : Int32))] [(.int (-1 : Int32)), (.int (1 : Int32)), (.ref (b 8))]) (fun _ kz => XS.iconst X1576.here hx rfl (hb hby od_121_2_89) kz) ?_
  refine own_stI X1576 hx hZ e1576 f1573 (hb hby od_121_2_90) (by decide) (i := 1) rfl (by decide) ?_
  intro T1577 h1577 X1577 e1577 W1577 A1577
  have N1577 := Fr.snoc X1577 N1561 (by show @LE.le Nat _ _ _; omega)
  have s1578 : n0 ≤ h1577.size := Nat.le_trans s1562 (Keep.of_wr W1577).1
  have f1579 := own_FL.other W1577 f1563 (by show @Ne Nat _ _; omega)
  have f1580 := f1564.other W1577 (by show @Ne Nat _ _; omega)
  have f1581 := Exa.wr W1577 f1565
  have f1582 := f1566.other W1577 (by show @Ne Nat _ _; omega)
  have f1583 := f1567.other W1577 (by show @Ne Nat _ _; omega)
  have f1584 := f1568.other W1577 (by show @Ne Nat _ _; omega)
  have f1585 := f1569.other W1577 (by show @Ne Nat _ _; omega)
  have f1586 := f1570.other W1577 (by show @Ne Nat _ _; omega)
  have f1587 := f1571.other W1577 (by show @Ne Nat _ _; omega)
  have f1588 := A1561.other W1577 (by show @Ne Nat _ _; omega)
  have f1589 := f1572.other W1577 (by show @Ne Nat _ _; omega)
  have f1590 := f1574.other W1577 (by show @Ne Nat _ _; omega)
  have K1591 := K1575.wr W1577 (Or.inl (by simp))
  show own_E p e below _ (T1577.setTop (mkF m 91 #[.val (.ref d), .val (.int (3 : Int32)), .val (.int (-1 : Int32)), .val (.int (1 : Int32))] []))
  refine own_g (mkF m 92 #[.val (.ref d), .val (.int (3 : Int32)), .val (.int (-1 : Int32)), .val (.int (1 : Int32))] [(.ref d)]) (fun _ kz => XS.aloadN X1577.here hx rfl (hb hby od_121_2_91) rfl rfl kz) ?_
  obtain ⟨T1592, X1592, e1592, st1592⟩ := getF X1577 hx hZ hown (host := "") (Or.inl (own_w hw 50 rfl)) Via.refl e1577 (show Fld Z h1577 d "com/example/holdfast/holdfast/dom/CompactDocument" "dataLengths" "[I" (.ref (b 9)) from own_FLg f1579 11 (by decide) (kd 9 (by decide))) (g := (mkF m 92 #[.val (.ref d), .val (.int (3 : Int32)), .val (.int (-1 : Int32)), .val (.int (1 : Int32))] [(.ref d)])) rfl rfl (hb hby od_121_2_92)
  refine own_s st1592 ?_
  show own_E p e below _ (T1592.setTop (mkF m 95 #[.val (.ref d), .val (.int (3 : Int32)), .val (.int (-1 : Int32)), .val (.int (1 : Int32))] [(.ref (b 9))]))
  refine own_g (mkF m 96 #[.val (.ref d), .val (.int (3 : Int32)), .val (.int (-1 : Int32)), .val (.int (1 : Int32))] [(.int (1 : Int32)), (.ref (b 9))]) (fun _ kz => XS.iloadN X1592.here hx rfl (hb hby od_121_2_95) rfl kz) ?_
  refine own_g (mkF m 97 #[.val (.ref d), .val (.int (3 : Int32)), .val (.int (-1 : Int32)), .val (.int (1 : Int32))] [(.int (0 : Int32)), (.int (1 : Int32)), (.ref (b 9))]) (fun _ kz => XS.iconst X1592.here hx rfl (hb hby od_121_2_96) kz) ?_
  refine own_stI X1592 hx hZ e1592 f1590 (hb hby od_121_2_97) (by decide) (i := 1) rfl (by decide) ?_
  intro T1593 h1593 X1593 e1593 W1593 A1593
  have N1593 := Fr.snoc X1593 N1577 (by show @LE.le Nat _ _ _; omega)
  have s1594 : n0 ≤ h1593.size := Nat.le_trans s1578 (Keep.of_wr W1593).1
  have f1595 := own_FL.other W1593 f1579 (by show @Ne Nat _ _; omega)
  have f1596 := f1580.other W1593 (by show @Ne Nat _ _; omega)
  have f1597 := Exa.wr W1593 f1581
  have f1598 := f1582.other W1593 (by show @Ne Nat _ _; omega)
  have f1599 := f1583.other W1593 (by show @Ne Nat _ _; omega)
  have f1600 := f1584.other W1593 (by show @Ne Nat _ _; omega)
  have f1601 := f1585.other W1593 (by show @Ne Nat _ _; omega)
  have f1602 := f1586.other W1593 (by show @Ne Nat _ _; omega)
  have f1603 := f1587.other W1593 (by show @Ne Nat _ _; omega)
  have f1604 := f1588.other W1593 (by show @Ne Nat _ _; omega)
  have f1605 := f1589.other W1593 (by show @Ne Nat _ _; omega)
  have f1606 := A1577.other W1593 (by show @Ne Nat _ _; omega)
  have K1607 := K1591.wr W1593 (Or.inl (by simp))
  show own_E p e below _ (T1593.setTop (mkF m 98 #[.val (.ref d), .val (.int (3 : Int32)), .val (.int (-1 : Int32)), .val (.int (1 : Int32))] []))
  refine own_g (mkF m 99 #[.val (.ref d), .val (.int (3 : Int32)), .val (.int (-1 : Int32)), .val (.int (1 : Int32))] [(.ref d)]) (fun _ kz => XS.aloadN X1593.here hx rfl (hb hby od_121_2_98) rfl rfl kz) ?_
  obtain ⟨T1608, X1608, e1608, st1608⟩ := getF X1593 hx hZ hown (host := "") (Or.inl (own_w hw 175 rfl)) Via.refl e1593 (show Fld Z h1593 d "com/example/holdfast/holdfast/dom/CompactDocument" "sourceStarts" "[I" (.ref sb) from own_FLg f1595 26 (by decide) qs) (g := (mkF m 99 #[.val (.ref d), .val (.int (3 : Int32)), .val (.int (-1 : Int32)), .val (.int (1 : Int32))] [(.ref d)])) rfl rfl (hb hby od_121_2_99)
  refine own_s st1608 ?_
  show own_E p e below _ (T1608.setTop (mkF m 102 #[.val (.ref d), .val (.int (3 : Int32)), .val (.int (-1 : Int32)), .val (.int (1 : Int32))] [(.ref sb)]))
  refine own_g (mkF m 105 #[.val (.ref d), .val (.int (3 : Int32)), .val (.int (-1 : Int32)), .val (.int (1 : Int32))] []) (fun _ kz => XS.ifnullNo X1608.here hx rfl (hb hby od_121_2_102) rfl kz) ?_
  refine own_g (mkF m 106 #[.val (.ref d), .val (.int (3 : Int32)), .val (.int (-1 : Int32)), .val (.int (1 : Int32))] [(.ref d)]) (fun _ kz => XS.aloadN X1608.here hx rfl (hb hby od_121_2_105) rfl rfl kz) ?_
  obtain ⟨T1609, X1609, e1609, st1609⟩ := getF X1608 hx hZ hown (host := "") (Or.inl (own_w hw 175 rfl)) Via.refl e1608 (show Fld Z h1593 d "com/example/holdfast/holdfast/dom/CompactDocument" "sourceStarts" "[I" (.ref sb) from own_FLg f1595 26 (by decide) qs) (g := (mkF m 106 #[.val (.ref d), .val (.int (3 : Int32)), .val (.int (-1 : Int32)), .val (.int (1 : Int32))] [(.ref d)])) rfl rfl (hb hby od_121_2_106)
  refine own_s st1609 ?_
  show own_E p e below _ (T1609.setTop (mkF m 109 #[.val (.ref d), .val (.int (3 : Int32)), .val (.int (-1 : Int32)), .val (.int (1 : Int32))] [(.ref sb)]))
  refine own_g (mkF m 110 #[.val (.ref d), .val (.int (3 : Int32)), .val (.int (-1 : Int32)), .val (.int (1 : Int32))] [(.int (1 : Int32)), (.ref sb)]) (fun _ kz => XS.iloadN X1609.here hx rfl (hb hby od_121_2_109) rfl kz) ?_
  refine own_g (mkF m 111 #[.val (.ref d), .val (.int (3 : Int32)), .val (.int (-1 : Int32)), .val (.int (1 : Int32))] [(.int (-1 : Int32)), (.int (1 : Int32)), (.ref sb)]) (fun _ kz => XS.iconst X1609.here hx rfl (hb hby od_121_2_110) kz) ?_
  refine own_stI X1609 hx hZ e1609 f1596 (hb hby od_121_2_111) (by decide) (i := 1) rfl (by decide) ?_
  intro T1610 h1610 X1610 e1610 W1610 A1610
  have N1610 := Fr.snoc X1610 N1593 (by show @LE.le Nat _ _ _; omega)
  have s1611 : n0 ≤ h1610.size := Nat.le_trans s1594 (Keep.of_wr W1610).1
  have f1612 := own_FL.other W1610 f1595 (by show @Ne Nat _ _; omega)
  have f1613 := Exa.wr W1610 f1597
  have f1614 := f1598.other W1610 (by show @Ne Nat _ _; omega)
  have f1615 := f1599.other W1610 (by show @Ne Nat _ _; omega)
  have f1616 := f1600.other W1610 (by show @Ne Nat _ _; omega)
  have f1617 := f1601.other W1610 (by show @Ne Nat _ _; omega)
  have f1618 := f1602.other W1610 (by show @Ne Nat _ _; omega)
  have f1619 := f1603.other W1610 (by show @Ne Nat _ _; omega)
  have f1620 := f1604.other W1610 (by show @Ne Nat _ _; omega)
  have f1621 := f1605.other W1610 (by show @Ne Nat _ _; omega)
  have f1622 := f1606.other W1610 (by show @Ne Nat _ _; omega)
  have f1623 := A1593.other W1610 (by show @Ne Nat _ _; omega)
  have K1624 := K1607.wr W1610 (Or.inl (by simp))
  show own_E p e below _ (T1610.setTop (mkF m 112 #[.val (.ref d), .val (.int (3 : Int32)), .val (.int (-1 : Int32)), .val (.int (1 : Int32))] []))
  refine own_g (mkF m 113 #[.val (.ref d), .val (.int (3 : Int32)), .val (.int (-1 : Int32)), .val (.int (1 : Int32))] [(.int (1 : Int32))]) (fun _ kz => XS.iloadN X1610.here hx rfl (hb hby od_121_2_112) rfl kz) ?_
  have Dya : ∀ i, i < 10 → own_IA Z h1610 (b i) (own_aty i) 64 ((own_ten (own_set (fs 0) 1 (nar .byte (3 : Int32).toInt8.toInt32)) (own_set (fs 1) 1 (-1 : Int32)) (own_set (fs 2) 1 (-1 : Int32)) (own_set (fs 3) 1 (-1 : Int32)) (own_set (fs 4) 1 (-1 : Int32)) (own_set (fs 5) 1 (-1 : Int32)) (own_set (fs 6) 1 (-1 : Int32)) (fs 7) (own_set (fs 8) 1 (-1 : Int32)) (own_set (fs 9) 1 (0 : Int32))) i) := by
    intro i hi
    match i, hi with
    | 0, _ => exact f1614
    | 1, _ => exact f1615
    | 2, _ => exact f1616
    | 3, _ => exact f1617
    | 4, _ => exact f1618
    | 5, _ => exact f1619
    | 6, _ => exact f1620
    | 7, _ => exact f1621
    | 8, _ => exact f1622
    | 9, _ => exact f1623
  have Dy : own_Doc Z h1610 n0 d b (own_set g 22 (.int 2)) (own_ten (own_set (fs 0) 1 (nar .byte (3 : Int32).toInt8.toInt32)) (own_set (fs 1) 1 (-1 : Int32)) (own_set (fs 2) 1 (-1 : Int32)) (own_set (fs 3) 1 (-1 : Int32)) (own_set (fs 4) 1 (-1 : Int32)) (own_set (fs 5) 1 (-1 : Int32)) (own_set (fs 6) 1 (-1 : Int32)) (fs 7) (own_set (fs 8) 1 (-1 : Int32)) (own_set (fs 9) 1 (0 : Int32))) := ⟨f1613, f1612, Dya, nd, ld, od, by
        intro i hi
        match i, hi with
        | 0, _ => exact (kd 0 (by decide))
        | 1, _ => exact (kd 1 (by decide))
        | 2, _ => exact (kd 2 (by decide))
        | 3, _ => exact (kd 3 (by decide))
        | 4, _ => exact (kd 4 (by decide))
        | 5, _ => exact (kd 5 (by decide))
        | 6, _ => exact (kd 6 (by decide))
        | 7, _ => exact (kd 7 (by decide))
        | 8, _ => exact (kd 8 (by decide))
        | 9, _ => exact (kd 9 (by decide))⟩
  exact own_retI X1610 hx hret hlk (hb hby od_121_2_113) (by decide) (by decide) (by first | exact ⟨rfl, N1610, K1624.1, (own_ten (own_set (fs 0) 1 (nar .byte (3 : Int32).toInt8.toInt32)) (own_set (fs 1) 1 (-1 : Int32)) (own_set (fs 2) 1 (-1 : Int32)) (own_set (fs 3) 1 (-1 : Int32)) (own_set (fs 4) 1 (-1 : Int32)) (own_set (fs 5) 1 (-1 : Int32)) (own_set (fs 6) 1 (-1 : Int32)) (fs 7) (own_set (fs 8) 1 (-1 : Int32)) (own_set (fs 9) 1 (0 : Int32))), Dy, rfl, rfl, fun _ => rfl⟩ | (rw [e1610]; exact ⟨rfl, N1610, K1624.1, (own_ten (own_set (fs 0) 1 (nar .byte (3 : Int32).toInt8.toInt32)) (own_set (fs 1) 1 (-1 : Int32)) (own_set (fs 2) 1 (-1 : Int32)) (own_set (fs 3) 1 (-1 : Int32)) (own_set (fs 4) 1 (-1 : Int32)) (own_set (fs 5) 1 (-1 : Int32)) (own_set (fs 6) 1 (-1 : Int32)) (fs 7) (own_set (fs 8) 1 (-1 : Int32)) (own_set (fs 9) 1 (0 : Int32))), Dy, rfl, rfl, fun _ => rfl⟩))
theorem od_121_26_0 : decode prog_121_method_26_code 0 = .ok (.aload_n 0, 1) := by decide +kernel
theorem od_121_26_1 : decode prog_121_method_26_code 1 = .ok (.getfield 308, 3) := by decide +kernel
theorem od_121_26_4 : decode prog_121_method_26_code 4 = .ok (.ifnull 17, 3) := by decide +kernel
theorem od_121_26_21 : decode prog_121_method_26_code 21 = .ok (.bipush 64, 2) := by decide +kernel
theorem od_121_26_23 : decode prog_121_method_26_code 23 = .ok (.iconst 2, 1) := by decide +kernel
theorem od_121_26_24 : decode prog_121_method_26_code 24 = .ok (.aload_n 0, 1) := by decide +kernel
theorem od_121_26_25 : decode prog_121_method_26_code 25 = .ok (.getfield 311, 3) := by decide +kernel
theorem od_121_26_28 : decode prog_121_method_26_code 28 = .ok (.iload_n 2, 1) := by decide +kernel
theorem od_121_26_29 : decode prog_121_method_26_code 29 = .ok (.iadd, 1) := by decide +kernel
theorem od_121_26_30 : decode prog_121_method_26_code 30 = .ok (.imul, 1) := by decide +kernel
theorem od_121_26_31 : decode prog_121_method_26_code 31 = .ok (.invokestatic 314, 3) := by decide +kernel
theorem od_121_26_34 : decode prog_121_method_26_code 34 = .ok (.istore 4, 2) := by decide +kernel
theorem od_121_26_36 : decode prog_121_method_26_code 36 = .ok (.aload_n 0, 1) := by decide +kernel
theorem od_121_26_37 : decode prog_121_method_26_code 37 = .ok (.aload_n 0, 1) := by decide +kernel
theorem od_121_26_38 : decode prog_121_method_26_code 38 = .ok (.getfield 308, 3) := by decide +kernel
theorem od_121_26_41 : decode prog_121_method_26_code 41 = .ok (.ifnonnull 10, 3) := by decide +kernel
theorem od_121_26_44 : decode prog_121_method_26_code 44 = .ok (.iload 4, 2) := by decide +kernel
theorem od_121_26_46 : decode prog_121_method_26_code 46 = .ok (.newarray .int, 2) := by decide +kernel
theorem od_121_26_48 : decode prog_121_method_26_code 48 = .ok (.goto 12, 3) := by decide +kernel
theorem od_121_26_60 : decode prog_121_method_26_code 60 = .ok (.putfield 308, 3) := by decide +kernel
theorem od_121_26_63 : decode prog_121_method_26_code 63 = .ok (.aload_n 0, 1) := by decide +kernel
theorem od_121_26_64 : decode prog_121_method_26_code 64 = .ok (.aload_n 0, 1) := by decide +kernel
theorem od_121_26_65 : decode prog_121_method_26_code 65 = .ok (.getfield 320, 3) := by decide +kernel
theorem od_121_26_68 : decode prog_121_method_26_code 68 = .ok (.ifnonnull 10, 3) := by decide +kernel
theorem od_121_26_71 : decode prog_121_method_26_code 71 = .ok (.iload 4, 2) := by decide +kernel
theorem od_121_26_73 : decode prog_121_method_26_code 73 = .ok (.newarray .byte, 2) := by decide +kernel
theorem od_121_26_75 : decode prog_121_method_26_code 75 = .ok (.goto 12, 3) := by decide +kernel
theorem od_121_26_87 : decode prog_121_method_26_code 87 = .ok (.putfield 320, 3) := by decide +kernel
theorem od_121_26_90 : decode prog_121_method_26_code 90 = .ok (.iload_n 1, 1) := by decide +kernel
theorem od_121_26_91 : decode prog_121_method_26_code 91 = .ok (.istore 4, 2) := by decide +kernel
theorem od_121_26_93 : decode prog_121_method_26_code 93 = .ok (.iconst 0, 1) := by decide +kernel
theorem od_121_26_94 : decode prog_121_method_26_code 94 = .ok (.istore 5, 2) := by decide +kernel
theorem od_121_26_96 : decode prog_121_method_26_code 96 = .ok (.iload 5, 2) := by decide +kernel
theorem od_121_26_98 : decode prog_121_method_26_code 98 = .ok (.iload_n 2, 1) := by decide +kernel
theorem od_121_26_99 : decode prog_121_method_26_code 99 = .ok (.if_icmp .ge 49, 3) := by decide +kernel
theorem od_121_26_102 : decode prog_121_method_26_code 102 = .ok (.aload_n 0, 1) := by decide +kernel
theorem od_121_26_103 : decode prog_121_method_26_code 103 = .ok (.getfield 308, 3) := by decide +kernel
theorem od_121_26_106 : decode prog_121_method_26_code 106 = .ok (.aload_n 0, 1) := by decide +kernel
theorem od_121_26_107 : decode prog_121_method_26_code 107 = .ok (.getfield 311, 3) := by decide +kernel
theorem od_121_26_110 : decode prog_121_method_26_code 110 = .ok (.iload 4, 2) := by decide +kernel
theorem od_121_26_112 : decode prog_121_method_26_code 112 = .ok (.iastore, 1) := by decide +kernel
theorem od_121_26_113 : decode prog_121_method_26_code 113 = .ok (.aload_n 0, 1) := by decide +kernel
theorem od_121_26_114 : decode prog_121_method_26_code 114 = .ok (.getfield 320, 3) := by decide +kernel
theorem od_121_26_117 : decode prog_121_method_26_code 117 = .ok (.aload_n 0, 1) := by decide +kernel
theorem od_121_26_118 : decode prog_121_method_26_code 118 = .ok (.getfield 311, 3) := by decide +kernel
theorem od_121_26_121 : decode prog_121_method_26_code 121 = .ok (.iload_n 3, 1) := by decide +kernel
theorem od_121_26_122 : decode prog_121_method_26_code 122 = .ok (.bastore, 1) := by decide +kernel
theorem od_121_26_123 : decode prog_121_method_26_code 123 = .ok (.aload_n 0, 1) := by decide +kernel
theorem od_121_26_124 : decode prog_121_method_26_code 124 = .ok (.dup, 1) := by decide +kernel
theorem od_121_26_125 : decode prog_121_method_26_code 125 = .ok (.getfield 311, 3) := by decide +kernel
theorem od_121_26_128 : decode prog_121_method_26_code 128 = .ok (.iconst 1, 1) := by decide +kernel
theorem od_121_26_129 : decode prog_121_method_26_code 129 = .ok (.iadd, 1) := by decide +kernel
theorem od_121_26_130 : decode prog_121_method_26_code 130 = .ok (.putfield 311, 3) := by decide +kernel
theorem od_121_26_133 : decode prog_121_method_26_code 133 = .ok (.aload_n 0, 1) := by decide +kernel
theorem od_121_26_134 : decode prog_121_method_26_code 134 = .ok (.getfield 13, 3) := by decide +kernel
theorem od_121_26_137 : decode prog_121_method_26_code 137 = .ok (.iload 4, 2) := by decide +kernel
theorem od_121_26_139 : decode prog_121_method_26_code 139 = .ok (.iaload, 1) := by decide +kernel
theorem od_121_26_140 : decode prog_121_method_26_code 140 = .ok (.istore 4, 2) := by decide +kernel
theorem od_121_26_142 : decode prog_121_method_26_code 142 = .ok (.iinc 5 1, 3) := by decide +kernel
theorem od_121_26_145 : decode prog_121_method_26_code 145 = .ok (.goto (-49), 3) := by decide +kernel
theorem od_121_26_148 : decode prog_121_method_26_code 148 = .ok (.return_, 1) := by decide +kernel
theorem od_121_26_7 : decode prog_121_method_26_code 7 = .ok (.aload_n 0, 1) := by decide +kernel
theorem od_121_26_8 : decode prog_121_method_26_code 8 = .ok (.getfield 311, 3) := by decide +kernel
theorem od_121_26_11 : decode prog_121_method_26_code 11 = .ok (.iload_n 2, 1) := by decide +kernel
theorem od_121_26_12 : decode prog_121_method_26_code 12 = .ok (.iadd, 1) := by decide +kernel
theorem od_121_26_13 : decode prog_121_method_26_code 13 = .ok (.aload_n 0, 1) := by decide +kernel
theorem od_121_26_14 : decode prog_121_method_26_code 14 = .ok (.getfield 308, 3) := by decide +kernel
theorem od_121_26_17 : decode prog_121_method_26_code 17 = .ok (.arraylength, 1) := by decide +kernel
theorem od_121_26_18 : decode prog_121_method_26_code 18 = .ok (.if_icmp .le 72, 3) := by decide +kernel
set_option maxRecDepth 65536 in
set_option maxHeartbeats 40000000 in
theorem own_c_km (l : Launch) (Z : State) (a0 : Array Value) (hw : ∀ d ∈ tables_1, d.before a0 Z = true) (lo : Nat) (a : Nat) (pb : Nat) (fb : Nat) (sb : Nat) (ff : Nat → Int32) (mk : Nat → Int32) (mf : Nat → Int32) (cc : Nat) (xi : Int32) (x3 : Int32) (h0 : Heap) (n0 : Nat) (Z0 : n0 ≤ h0.size) (hxi : xi = 0 ∨ xi = 1) (hcc : cc < 60) (D0 : own_D Z h0 n0 lo a pb fb sb ff mk mf cc) :
    own_Con l Z (⟨"com/example/holdfast/holdfast/dom/CompactDocument", "keepMarked", "(IIB)V"⟩ : MethodName) prog_121_method_26_code 6 none [] ({ frames := 1, cells := 2, slots := 128, locals := 13 } : Room) #[(.ref a), (.int xi), (.int (1 : Int32)), (.int x3)] h0 (fun v h L => v = none ∧ Fr n0 L ∧ own_KL fb lo h0 h ∧ ∃ f' k' m' c', (f', k', m', c') = own_km xi x3 (ff, mk, mf, cc) ∧ own_D Z h n0 lo a pb fb sb f' k' m' c') := by
  refine own_enter (plainFor_of_name own_pn6) ?_
  intro p e s m below meth c s₁ X0 e0 hx hZ hby hml hown hnm hret hlk
  refine own_cast (g' := (mkF m 0 #[.val (.ref a), .val (.int xi), .val (.int (1 : Int32)), .val (.int x3), .unset, .unset] [])) (by first | (simp [entryFrame, mkF, argsToLocals, Value.category]; done) | rfl) ?_
  have N0 := Fr.nil n0
  have KL0 : own_KL fb lo h0 h0 := own_KL.refl h0
  obtain ⟨E0, ⟨vm0, Fm0⟩, Fb0, ⟨vr0, Fr0⟩, ⟨vt0, Ft0⟩, Fp0, Ff0, Fs0, Fc0, ⟨fp0, Ap0, p00, p10⟩, Af0, na0, zl0, oa0, ob0, oc0, dm0, Fk0⟩ := D0
  rcases Fk0 with ⟨M0, M1, hc0, hmk, hmf⟩ | ⟨mb, gb, omb, ogb, M0, M1, Am, Ag⟩
  · subst hc0 hmk hmf
    have Fc00 : Fld Z h0 a "com/example/holdfast/holdfast/dom/CompactDocument" "markedCount" "I" (.int (0 : Int32)) := Fc0
    refine own_g (mkF m 1 #[.val (.ref a), .val (.int xi), .val (.int (1 : Int32)), .val (.int x3), .unset, .unset] [(.ref a)]) (fun _ kz => XS.aloadN X0.here hx rfl (hb hby od_121_26_0) rfl rfl kz) ?_
    obtain ⟨T1625, X1625, e1625, st1625⟩ := getF X0 hx hZ hown (host := "") (Or.inl (own_w hw 197 rfl)) Via.refl e0 M0 (g := (mkF m 1 #[.val (.ref a), .val (.int xi), .val (.int (1 : Int32)), .val (.int x3), .unset, .unset] [(.ref a)])) rfl rfl (hb hby od_121_26_1)
    refine own_s st1625 ?_
    show own_E p e below _ (T1625.setTop (mkF m 4 #[.val (.ref a), .val (.int xi), .val (.int (1 : Int32)), .val (.int x3), .unset, .unset] [.null]))
    refine own_g (mkF m 21 #[.val (.ref a), .val (.int xi), .val (.int (1 : Int32)), .val (.int x3), .unset, .unset] []) (fun _ kz => XS.ifnullYes X1625.here hx rfl (pc0 := 4) (pc' := 21) rfl (hb hby od_121_26_4) rfl (by decide) (by decide) kz) ?_
    refine own_g (mkF m 23 #[.val (.ref a), .val (.int xi), .val (.int (1 : Int32)), .val (.int x3), .unset, .unset] [(.int (64 : Int32))]) (fun _ kz => XS.bipush X1625.here hx rfl (hb hby od_121_26_21) kz) ?_
    refine own_g (mkF m 24 #[.val (.ref a), .val (.int xi), .val (.int (1 : Int32)), .val (.int x3), .unset, .unset] [(.int (2 : Int32)), (.int (64 : Int32))]) (fun _ kz => XS.iconst X1625.here hx rfl (hb hby od_121_26_23) kz) ?_
    refine own_g (mkF m 25 #[.val (.ref a), .val (.int xi), .val (.int (1 : Int32)), .val (.int x3), .unset, .unset] [(.ref a), (.int (2 : Int32)), (.int (64 : Int32))]) (fun _ kz => XS.aloadN X1625.here hx rfl (hb hby od_121_26_24) rfl rfl kz) ?_
    obtain ⟨T1626, X1626, e1626, st1626⟩ := getF X1625 hx hZ hown (host := "") (Or.inl (own_w hw 199 rfl)) Via.refl e1625 Fc00 (g := (mkF m 25 #[.val (.ref a), .val (.int xi), .val (.int (1 : Int32)), .val (.int x3), .unset, .unset] [(.ref a), (.int (2 : Int32)), (.int (64 : Int32))])) rfl rfl (hb hby od_121_26_25)
    refine own_s st1626 ?_
    show own_E p e below _ (T1626.setTop (mkF m 28 #[.val (.ref a), .val (.int xi), .val (.int (1 : Int32)), .val (.int x3), .unset, .unset] [(.int (0 : Int32)), (.int (2 : Int32)), (.int (64 : Int32))]))
    refine own_g (mkF m 29 #[.val (.ref a), .val (.int xi), .val (.int (1 : Int32)), .val (.int x3), .unset, .unset] [(.int (1 : Int32)), (.int (0 : Int32)), (.int (2 : Int32)), (.int (64 : Int32))]) (fun _ kz => XS.iloadN X1626.here hx rfl (hb hby od_121_26_28) rfl kz) ?_
    refine own_g (mkF m 30 #[.val (.ref a), .val (.int xi), .val (.int (1 : Int32)), .val (.int x3), .unset, .unset] [(.int ((0 : Int32) + (1 : Int32))), (.int (2 : Int32)), (.int (64 : Int32))]) (fun _ kz => XS.iadd X1626.here hx rfl (hb hby od_121_26_29) rfl kz) ?_
    rw [show ((0 : Int32) + (1 : Int32)) = (1 : Int32) from by decide]
    show own_E p e below _ (T1626.setTop (mkF m 30 #[.val (.ref a), .val (.int xi), .val (.int (1 : Int32)), .val (.int x3), .unset, .unset] [(.int (1 : Int32)), (.int (2 : Int32)), (.int (64 : Int32))]))
    refine own_g (mkF m 31 #[.val (.ref a), .val (.int xi), .val (.int (1 : Int32)), .val (.int x3), .unset, .unset] [(.int ((2 : Int32) * (1 : Int32))), (.int (64 : Int32))]) (fun _ kz => XS.imul X1626.here hx rfl (hb hby od_121_26_30) rfl kz) ?_
    rw [show ((2 : Int32) * (1 : Int32)) = (2 : Int32) from by decide]
    show own_E p e below _ (T1626.setTop (mkF m 31 #[.val (.ref a), .val (.int xi), .val (.int (1 : Int32)), .val (.int x3), .unset, .unset] [(.int (2 : Int32)), (.int (64 : Int32))]))
    refine own_callS (rest := []) (as := [(.int (64 : Int32)), (.int (2 : Int32))]) X1626 hx hZ hown e1626 (own_c_max l Z a0 hw (64 : Int32) (2 : Int32) h0) (own_w hw 201 rfl) (own_w hw 145 rfl) (own_w hw 146 rfl) (own_w hw 147 rfl) (by decide) own_pd2 rfl (by rw [hml]; rfl) rfl (hb hby od_121_26_31) 0 (by show 2 * 0 + _ ≤ _; exact Nat.le_of_eq rfl) (by decide) (by decide) (by decide) (by decide) ?_
    rintro _ T1627 L1627 X1627 ⟨rfl, rfl, e1627⟩
    have N1627 := Fr.app N0 (Fr.nil n0)
    show own_E p e below _ (T1627.setTop (mkF m 34 #[.val (.ref a), .val (.int xi), .val (.int (1 : Int32)), .val (.int x3), .unset, .unset] [(.int (own_max (64 : Int32) (2 : Int32)))]))
    rw [show own_max (64 : Int32) (2 : Int32) = 64 from by decide]
    show own_E p e below _ (T1627.setTop (mkF m 34 #[.val (.ref a), .val (.int xi), .val (.int (1 : Int32)), .val (.int x3), .unset, .unset] [(.int (64 : Int32))]))
    refine own_g (mkF m 36 #[.val (.ref a), .val (.int xi), .val (.int (1 : Int32)), .val (.int x3), .val (.int (64 : Int32)), .unset] []) (fun _ kz => XS.istore X1627.here hx rfl (hb hby od_121_26_34) rfl (l' := #[.val (.ref a), .val (.int xi), .val (.int (1 : Int32)), .val (.int x3), .val (.int (64 : Int32)), .unset]) rfl kz) ?_
    refine own_g (mkF m 37 #[.val (.ref a), .val (.int xi), .val (.int (1 : Int32)), .val (.int x3), .val (.int (64 : Int32)), .unset] [(.ref a)]) (fun _ kz => XS.aloadN X1627.here hx rfl (hb hby od_121_26_36) rfl rfl kz) ?_
    refine own_g (mkF m 38 #[.val (.ref a), .val (.int xi), .val (.int (1 : Int32)), .val (.int x3), .val (.int (64 : Int32)), .unset] [(.ref a), (.ref a)]) (fun _ kz => XS.aloadN X1627.here hx rfl (hb hby od_121_26_37) rfl rfl kz) ?_
    obtain ⟨T1628, X1628, e1628, st1628⟩ := getF X1627 hx hZ hown (host := "") (Or.inl (own_w hw 197 rfl)) Via.refl e1627 M0 (g := (mkF m 38 #[.val (.ref a), .val (.int xi), .val (.int (1 : Int32)), .val (.int x3), .val (.int (64 : Int32)), .unset] [(.ref a), (.ref a)])) rfl rfl (hb hby od_121_26_38)
    refine own_s st1628 ?_
    show own_E p e below _ (T1628.setTop (mkF m 41 #[.val (.ref a), .val (.int xi), .val (.int (1 : Int32)), .val (.int x3), .val (.int (64 : Int32)), .unset] [.null, (.ref a)]))
    refine own_g (mkF m 44 #[.val (.ref a), .val (.int xi), .val (.int (1 : Int32)), .val (.int x3), .val (.int (64 : Int32)), .unset] [(.ref a)]) (fun _ kz => XS.ifnonnullNo X1628.here hx rfl (hb hby od_121_26_41) rfl kz) ?_
    refine own_g (mkF m 46 #[.val (.ref a), .val (.int xi), .val (.int (1 : Int32)), .val (.int x3), .val (.int (64 : Int32)), .unset] [(.int (64 : Int32)), (.ref a)]) (fun _ kz => XS.iload X1628.here hx rfl (hb hby od_121_26_44) rfl kz) ?_
    refine own_newI X1628 hx hZ e1628 (own_w hw 33 rfl) rfl (hb hby od_121_26_46) (by decide) (n := 64) rfl 64 (by decide) (by decide) (by decide) (by decide) ?_
    intro T1629 h1629 o1629 g1629 X1629 e1629 E1629 A1629
    have lt1630 : a < o1629 := Nat.lt_of_lt_of_le E0.lt (Nat.le_of_eq g1629.symm)
    have lt1631 : pb < o1629 := Nat.lt_of_lt_of_le Ap0.lt (Nat.le_of_eq g1629.symm)
    have lt1632 : fb < o1629 := Nat.lt_of_lt_of_le Af0.lt (Nat.le_of_eq g1629.symm)
    have b1633 : n0 ≤ o1629 := Nat.le_trans Z0 (Nat.le_of_eq g1629.symm)
    have z1634 : h0.size ≤ o1629 := Nat.le_trans KL0.1 (Nat.le_of_eq g1629.symm)
    have f1635 := Exa.ext E1629 E0
    have f1636 := Fld.ext E1629 Fm0
    have f1637 := Fld.ext E1629 Fb0
    have f1638 := Fld.ext E1629 Fr0
    have f1639 := Fld.ext E1629 Ft0
    have f1640 := Fld.ext E1629 Fp0
    have f1641 := Fld.ext E1629 Ff0
    have f1642 := Fld.ext E1629 Fs0
    have f1643 := Fld.ext E1629 Fc00
    have f1644 := Ap0.ext E1629
    have f1645 := Af0.ext E1629
    have f1646 := Fld.ext E1629 M0
    have f1647 := Fld.ext E1629 M1
    have K1648 := own_KL.ext KL0 E1629
    have s1649 : n0 ≤ h1629.size := Nat.le_trans Z0 E1629.1
    show own_E p e below _ (T1629.setTop (mkF m 48 #[.val (.ref a), .val (.int xi), .val (.int (1 : Int32)), .val (.int x3), .val (.int (64 : Int32)), .unset] [(.ref o1629), (.ref a)]))
    refine own_g (mkF m 60 #[.val (.ref a), .val (.int xi), .val (.int (1 : Int32)), .val (.int x3), .val (.int (64 : Int32)), .unset] [(.ref o1629), (.ref a)]) (fun _ kz => XS.goto X1629.here hx rfl (pc0 := 48) (pc' := 60) rfl (hb hby od_121_26_48) (by decide) (by decide) kz) ?_
    obtain ⟨T1650, h1650, X1650, e1650, W1650, st1650⟩ := putF X1629 hx hZ hown (host := "") (Or.inl (own_w hw 197 rfl)) Via.refl e1629 f1646 f1635 (Or.inl (own_w hw 198 rfl)) (own_w hw 13 rfl) (ty := (.array .int)) (by decide) rfl rfl (g := (mkF m 60 #[.val (.ref a), .val (.int xi), .val (.int (1 : Int32)), .val (.int x3), .val (.int (64 : Int32)), .unset] [(.ref o1629), (.ref a)])) rfl rfl (hb hby od_121_26_60)
    have N1650 := Fr.snoc X1650 N1627 na0
    have s1651 : n0 ≤ h1650.size := Nat.le_trans s1649 (Keep.of_wr W1650).1
    have f1652 := Exa.wr W1650 f1635
    have f1653 := Fld.other W1650 f1636 (Or.inr (slot_ne (Or.inl (own_w hw 187 rfl)) (Or.inl (own_w hw 198 rfl)) (by decide) (t := .int) (t' := (.array .int)) (by decide) (by decide)))
    have f1654 := Fld.other W1650 f1637 (Or.inr (slot_ne (Or.inl (own_w hw 169 rfl)) (Or.inl (own_w hw 198 rfl)) (by decide) (t := .int) (t' := (.array .int)) (by decide) (by decide)))
    have f1655 := Fld.other W1650 f1638 (Or.inr (slot_ne (Or.inl (own_w hw 190 rfl)) (Or.inl (own_w hw 198 rfl)) (by decide) (t := .int) (t' := (.array .int)) (by decide) (by decide)))
    have f1656 := Fld.other W1650 f1639 (Or.inr (slot_ne (Or.inl (own_w hw 192 rfl)) (Or.inl (own_w hw 198 rfl)) (by decide) (t := .int) (t' := (.array .int)) (by decide) (by decide)))
    have f1657 := Fld.other W1650 f1640 (Or.inr (slot_ne (Or.inl (own_w hw 35 rfl)) (Or.inl (own_w hw 198 rfl)) (by decide) (t := (.array .int)) (t' := (.array .int)) (by decide) (by decide)))
    have f1658 := Fld.other W1650 f1641 (Or.inr (slot_ne (Or.inl (own_w hw 47 rfl)) (Or.inl (own_w hw 198 rfl)) (by decide) (t := (.array .byte)) (t' := (.array .int)) (by decide) (by decide)))
    have f1659 := Fld.other W1650 f1642 (Or.inr (slot_ne (Or.inl (own_w hw 159 rfl)) (Or.inl (own_w hw 198 rfl)) (by decide) (t := (.array .int)) (t' := (.array .int)) (by decide) (by decide)))
    have f1660 := Fld.other W1650 f1643 (Or.inr (slot_ne (Or.inl (own_w hw 200 rfl)) (Or.inl (own_w hw 198 rfl)) (by decide) (t := .int) (t' := (.array .int)) (by decide) (by decide)))
    have f1661 := f1644.other W1650 (by show @Ne Nat _ _; omega)
    have f1662 := f1645.other W1650 (by show @Ne Nat _ _; omega)
    have f1663 := Fld.other W1650 f1647 (Or.inr (slot_ne (Or.inl (own_w hw 203 rfl)) (Or.inl (own_w hw 198 rfl)) (by decide) (t := (.array .byte)) (t' := (.array .int)) (by decide) (by decide)))
    have f1664 := A1629.other W1650 (Ne.symm (Nat.ne_of_lt lt1630))
    have K1665 := own_KL.wr K1648 W1650 (by omega)
    have f1666 := Fld.same W1650 f1646
    refine own_s st1650 ?_
    show own_E p e below _ (T1650.setTop (mkF m 63 #[.val (.ref a), .val (.int xi), .val (.int (1 : Int32)), .val (.int x3), .val (.int (64 : Int32)), .unset] []))
    refine own_g (mkF m 64 #[.val (.ref a), .val (.int xi), .val (.int (1 : Int32)), .val (.int x3), .val (.int (64 : Int32)), .unset] [(.ref a)]) (fun _ kz => XS.aloadN X1650.here hx rfl (hb hby od_121_26_63) rfl rfl kz) ?_
    refine own_g (mkF m 65 #[.val (.ref a), .val (.int xi), .val (.int (1 : Int32)), .val (.int x3), .val (.int (64 : Int32)), .unset] [(.ref a), (.ref a)]) (fun _ kz => XS.aloadN X1650.here hx rfl (hb hby od_121_26_64) rfl rfl kz) ?_
    obtain ⟨T1667, X1667, e1667, st1667⟩ := getF X1650 hx hZ hown (host := "") (Or.inl (own_w hw 202 rfl)) Via.refl e1650 f1663 (g := (mkF m 65 #[.val (.ref a), .val (.int xi), .val (.int (1 : Int32)), .val (.int x3), .val (.int (64 : Int32)), .unset] [(.ref a), (.ref a)])) rfl rfl (hb hby od_121_26_65)
    refine own_s st1667 ?_
    show own_E p e below _ (T1667.setTop (mkF m 68 #[.val (.ref a), .val (.int xi), .val (.int (1 : Int32)), .val (.int x3), .val (.int (64 : Int32)), .unset] [.null, (.ref a)]))
    refine own_g (mkF m 71 #[.val (.ref a), .val (.int xi), .val (.int (1 : Int32)), .val (.int x3), .val (.int (64 : Int32)), .unset] [(.ref a)]) (fun _ kz => XS.ifnonnullNo X1667.here hx rfl (hb hby od_121_26_68) rfl kz) ?_
    refine own_g (mkF m 73 #[.val (.ref a), .val (.int xi), .val (.int (1 : Int32)), .val (.int x3), .val (.int (64 : Int32)), .unset] [(.int (64 : Int32)), (.ref a)]) (fun _ kz => XS.iload X1667.here hx rfl (hb hby od_121_26_71) rfl kz) ?_
    refine own_newI X1667 hx hZ e1667 (own_w hw 30 rfl) rfl (hb hby od_121_26_73) (by decide) (n := 64) rfl 64 (by decide) (by decide) (by decide) (by decide) ?_
    intro T1668 h1668 o1668 g1668 X1668 e1668 E1668 A1668
    have lt1669 : a < o1668 := Nat.lt_of_lt_of_le f1652.lt (Nat.le_of_eq g1668.symm)
    have lt1670 : pb < o1668 := Nat.lt_of_lt_of_le f1661.lt (Nat.le_of_eq g1668.symm)
    have lt1671 : fb < o1668 := Nat.lt_of_lt_of_le f1662.lt (Nat.le_of_eq g1668.symm)
    have lt1672 : o1629 < o1668 := Nat.lt_of_lt_of_le f1664.lt (Nat.le_of_eq g1668.symm)
    have b1673 : n0 ≤ o1668 := Nat.le_trans s1651 (Nat.le_of_eq g1668.symm)
    have z1674 : h0.size ≤ o1668 := Nat.le_trans K1665.1 (Nat.le_of_eq g1668.symm)
    have f1675 := Exa.ext E1668 f1652
    have f1676 := Fld.ext E1668 f1653
    have f1677 := Fld.ext E1668 f1654
    have f1678 := Fld.ext E1668 f1655
    have f1679 := Fld.ext E1668 f1656
    have f1680 := Fld.ext E1668 f1657
    have f1681 := Fld.ext E1668 f1658
    have f1682 := Fld.ext E1668 f1659
    have f1683 := Fld.ext E1668 f1660
    have f1684 := f1661.ext E1668
    have f1685 := f1662.ext E1668
    have f1686 := Fld.ext E1668 f1666
    have f1687 := Fld.ext E1668 f1663
    have f1688 := f1664.ext E1668
    have K1689 := own_KL.ext K1665 E1668
    have s1690 : n0 ≤ h1668.size := Nat.le_trans s1651 E1668.1
    show own_E p e below _ (T1668.setTop (mkF m 75 #[.val (.ref a), .val (.int xi), .val (.int (1 : Int32)), .val (.int x3), .val (.int (64 : Int32)), .unset] [(.ref o1668), (.ref a)]))
    refine own_g (mkF m 87 #[.val (.ref a), .val (.int xi), .val (.int (1 : Int32)), .val (.int x3), .val (.int (64 : Int32)), .unset] [(.ref o1668), (.ref a)]) (fun _ kz => XS.goto X1668.here hx rfl (pc0 := 75) (pc' := 87) rfl (hb hby od_121_26_75) (by decide) (by decide) kz) ?_
    obtain ⟨T1691, h1691, X1691, e1691, W1691, st1691⟩ := putF X1668 hx hZ hown (host := "") (Or.inl (own_w hw 202 rfl)) Via.refl e1668 f1687 f1675 (Or.inl (own_w hw 203 rfl)) (own_w hw 13 rfl) (ty := (.array .byte)) (by decide) rfl rfl (g := (mkF m 87 #[.val (.ref a), .val (.int xi), .val (.int (1 : Int32)), .val (.int x3), .val (.int (64 : Int32)), .unset] [(.ref o1668), (.ref a)])) rfl rfl (hb hby od_121_26_87)
    have N1691 := Fr.snoc X1691 N1650 na0
    have s1692 : n0 ≤ h1691.size := Nat.le_trans s1690 (Keep.of_wr W1691).1
    have f1693 := Exa.wr W1691 f1675
    have f1694 := Fld.other W1691 f1676 (Or.inr (slot_ne (Or.inl (own_w hw 187 rfl)) (Or.inl (own_w hw 203 rfl)) (by decide) (t := .int) (t' := (.array .byte)) (by decide) (by decide)))
    have f1695 := Fld.other W1691 f1677 (Or.inr (slot_ne (Or.inl (own_w hw 169 rfl)) (Or.inl (own_w hw 203 rfl)) (by decide) (t := .int) (t' := (.array .byte)) (by decide) (by decide)))
    have f1696 := Fld.other W1691 f1678 (Or.inr (slot_ne (Or.inl (own_w hw 190 rfl)) (Or.inl (own_w hw 203 rfl)) (by decide) (t := .int) (t' := (.array .byte)) (by decide) (by decide)))
    have f1697 := Fld.other W1691 f1679 (Or.inr (slot_ne (Or.inl (own_w hw 192 rfl)) (Or.inl (own_w hw 203 rfl)) (by decide) (t := .int) (t' := (.array .byte)) (by decide) (by decide)))
    have f1698 := Fld.other W1691 f1680 (Or.inr (slot_ne (Or.inl (own_w hw 35 rfl)) (Or.inl (own_w hw 203 rfl)) (by decide) (t := (.array .int)) (t' := (.array .byte)) (by decide) (by decide)))
    have f1699 := Fld.other W1691 f1681 (Or.inr (slot_ne (Or.inl (own_w hw 47 rfl)) (Or.inl (own_w hw 203 rfl)) (by decide) (t := (.array .byte)) (t' := (.array .byte)) (by decide) (by decide)))
    have f1700 := Fld.other W1691 f1682 (Or.inr (slot_ne (Or.inl (own_w hw 159 rfl)) (Or.inl (own_w hw 203 rfl)) (by decide) (t := (.array .int)) (t' := (.array .byte)) (by decide) (by decide)))
    have f1701 := Fld.other W1691 f1683 (Or.inr (slot_ne (Or.inl (own_w hw 200 rfl)) (Or.inl (own_w hw 203 rfl)) (by decide) (t := .int) (t' := (.array .byte)) (by decide) (by decide)))
    have f1702 := f1684.other W1691 (by show @Ne Nat _ _; omega)
    have f1703 := f1685.other W1691 (by show @Ne Nat _ _; omega)
    have f1704 := Fld.other W1691 f1686 (Or.inr (slot_ne (Or.inl (own_w hw 198 rfl)) (Or.inl (own_w hw 203 rfl)) (by decide) (t := (.array .int)) (t' := (.array .byte)) (by decide) (by decide)))
    have f1705 := f1688.other W1691 (Ne.symm (Nat.ne_of_lt lt1630))
    have f1706 := A1668.other W1691 (Ne.symm (Nat.ne_of_lt lt1669))
    have K1707 := own_KL.wr K1689 W1691 (by omega)
    have f1708 := Fld.same W1691 f1687
    refine own_s st1691 ?_
    show own_E p e below _ (T1691.setTop (mkF m 90 #[.val (.ref a), .val (.int xi), .val (.int (1 : Int32)), .val (.int x3), .val (.int (64 : Int32)), .unset] []))
    refine own_g (mkF m 91 #[.val (.ref a), .val (.int xi), .val (.int (1 : Int32)), .val (.int x3), .val (.int (64 : Int32)), .unset] [(.int xi)]) (fun _ kz => XS.iloadN X1691.here hx rfl (hb hby od_121_26_90) rfl kz) ?_
    refine own_g (mkF m 93 #[.val (.ref a), .val (.int xi), .val (.int (1 : Int32)), .val (.int x3), .val (.int xi), .unset] []) (fun _ kz => XS.istore X1691.here hx rfl (hb hby od_121_26_91) rfl (l' := #[.val (.ref a), .val (.int xi), .val (.int (1 : Int32)), .val (.int x3), .val (.int xi), .unset]) rfl kz) ?_
    refine own_g (mkF m 94 #[.val (.ref a), .val (.int xi), .val (.int (1 : Int32)), .val (.int x3), .val (.int xi), .unset] [(.int (0 : Int32))]) (fun _ kz => XS.iconst X1691.here hx rfl (hb hby od_121_26_93) kz) ?_
    refine own_g (mkF m 96 #[.val (.ref a), .val (.int xi), .val (.int (1 : Int32)), .val (.int x3), .val (.int xi), .val (.int (0 : Int32))] []) (fun _ kz => XS.istore X1691.here hx rfl (hb hby od_121_26_94) rfl (l' := #[.val (.ref a), .val (.int xi), .val (.int (1 : Int32)), .val (.int x3), .val (.int xi), .val (.int (0 : Int32))]) rfl kz) ?_
    refine own_g (mkF m 98 #[.val (.ref a), .val (.int xi), .val (.int (1 : Int32)), .val (.int x3), .val (.int xi), .val (.int (0 : Int32))] [(.int (0 : Int32))]) (fun _ kz => XS.iload X1691.here hx rfl (hb hby od_121_26_96) rfl kz) ?_
    refine own_g (mkF m 99 #[.val (.ref a), .val (.int xi), .val (.int (1 : Int32)), .val (.int x3), .val (.int xi), .val (.int (0 : Int32))] [(.int (1 : Int32)), (.int (0 : Int32))]) (fun _ kz => XS.iloadN X1691.here hx rfl (hb hby od_121_26_98) rfl kz) ?_
    refine own_g (mkF m 102 #[.val (.ref a), .val (.int xi), .val (.int (1 : Int32)), .val (.int x3), .val (.int xi), .val (.int (0 : Int32))] []) (fun _ kz => XS.icmpNo X1691.here hx rfl (hb hby od_121_26_99) rfl (tlt (by decide)).2.1 kz) ?_
    refine own_g (mkF m 103 #[.val (.ref a), .val (.int xi), .val (.int (1 : Int32)), .val (.int x3), .val (.int xi), .val (.int (0 : Int32))] [(.ref a)]) (fun _ kz => XS.aloadN X1691.here hx rfl (hb hby od_121_26_102) rfl rfl kz) ?_
    obtain ⟨T1709, X1709, e1709, st1709⟩ := getF X1691 hx hZ hown (host := "") (Or.inl (own_w hw 197 rfl)) Via.refl e1691 f1704 (g := (mkF m 103 #[.val (.ref a), .val (.int xi), .val (.int (1 : Int32)), .val (.int x3), .val (.int xi), .val (.int (0 : Int32))] [(.ref a)])) rfl rfl (hb hby od_121_26_103)
    refine own_s st1709 ?_
    show own_E p e below _ (T1709.setTop (mkF m 106 #[.val (.ref a), .val (.int xi), .val (.int (1 : Int32)), .val (.int x3), .val (.int xi), .val (.int (0 : Int32))] [(.ref o1629)]))
    refine own_g (mkF m 107 #[.val (.ref a), .val (.int xi), .val (.int (1 : Int32)), .val (.int x3), .val (.int xi), .val (.int (0 : Int32))] [(.ref a), (.ref o1629)]) (fun _ kz => XS.aloadN X1709.here hx rfl (hb hby od_121_26_106) rfl rfl kz) ?_
    obtain ⟨T1710, X1710, e1710, st1710⟩ := getF X1709 hx hZ hown (host := "") (Or.inl (own_w hw 199 rfl)) Via.refl e1709 f1701 (g := (mkF m 107 #[.val (.ref a), .val (.int xi), .val (.int (1 : Int32)), .val (.int x3), .val (.int xi), .val (.int (0 : Int32))] [(.ref a), (.ref o1629)])) rfl rfl (hb hby od_121_26_107)
    refine own_s st1710 ?_
    show own_E p e below _ (T1710.setTop (mkF m 110 #[.val (.ref a), .val (.int xi), .val (.int (1 : Int32)), .val (.int x3), .val (.int xi), .val (.int (0 : Int32))] [(.int (0 : Int32)), (.ref o1629)]))
    refine own_g (mkF m 112 #[.val (.ref a), .val (.int xi), .val (.int (1 : Int32)), .val (.int x3), .val (.int xi), .val (.int (0 : Int32))] [(.int xi), (.int (0 : Int32)), (.ref o1629)]) (fun _ kz => XS.iload X1710.here hx rfl (hb hby od_121_26_110) rfl kz) ?_
    refine own_stI X1710 hx hZ e1710 f1705 (hb hby od_121_26_112) (by decide) (i := 0) rfl (by decide) ?_
    intro T1711 h1711 X1711 e1711 W1711 A1711
    have N1711 := Fr.snoc X1711 N1691 b1633
    have s1712 : n0 ≤ h1711.size := Nat.le_trans s1692 (Keep.of_wr W1711).1
    have f1713 := Exa.wr W1711 f1693
    have f1714 := Fld.other W1711 f1694 (Or.inl (Nat.ne_of_lt lt1630))
    have f1715 := Fld.other W1711 f1695 (Or.inl (Nat.ne_of_lt lt1630))
    have f1716 := Fld.other W1711 f1696 (Or.inl (Nat.ne_of_lt lt1630))
    have f1717 := Fld.other W1711 f1697 (Or.inl (Nat.ne_of_lt lt1630))
    have f1718 := Fld.other W1711 f1698 (Or.inl (Nat.ne_of_lt lt1630))
    have f1719 := Fld.other W1711 f1699 (Or.inl (Nat.ne_of_lt lt1630))
    have f1720 := Fld.other W1711 f1700 (Or.inl (Nat.ne_of_lt lt1630))
    have f1721 := Fld.other W1711 f1701 (Or.inl (Nat.ne_of_lt lt1630))
    have f1722 := f1702.other W1711 (Nat.ne_of_lt lt1631)
    have f1723 := f1703.other W1711 (Nat.ne_of_lt lt1632)
    have f1724 := Fld.other W1711 f1704 (Or.inl (Nat.ne_of_lt lt1630))
    have f1725 := Fld.other W1711 f1708 (Or.inl (Nat.ne_of_lt lt1630))
    have f1726 := f1706.other W1711 (Ne.symm (Nat.ne_of_lt lt1672))
    have K1727 := own_KL.wr K1707 W1711 (by omega)
    show own_E p e below _ (T1711.setTop (mkF m 113 #[.val (.ref a), .val (.int xi), .val (.int (1 : Int32)), .val (.int x3), .val (.int xi), .val (.int (0 : Int32))] []))
    refine own_g (mkF m 114 #[.val (.ref a), .val (.int xi), .val (.int (1 : Int32)), .val (.int x3), .val (.int xi), .val (.int (0 : Int32))] [(.ref a)]) (fun _ kz => XS.aloadN X1711.here hx rfl (hb hby od_121_26_113) rfl rfl kz) ?_
    obtain ⟨T1728, X1728, e1728, st1728⟩ := getF X1711 hx hZ hown (host := "") (Or.inl (own_w hw 202 rfl)) Via.refl e1711 f1725 (g := (mkF m 114 #[.val (.ref a), .val (.int xi), .val (.int (1 : Int32)), .val (.int x3), .val (.int xi), .val (.int (0 : Int32))] [(.ref a)])) rfl rfl (hb hby od_121_26_114)
    refine own_s st1728 ?_
    show own_E p e below _ (T1728.setTop (mkF m 117 #[.val (.ref a), .val (.int xi), .val (.int (1 : Int32)), .val (.int x3), .val (.int xi), .val (.int (0 : Int32))] [(.ref o1668)]))
    refine own_g (mkF m 118 #[.val (.ref a), .val (.int xi), .val (.int (1 : Int32)), .val (.int x3), .val (.int xi), .val (.int (0 : Int32))] [(.ref a), (.ref o1668)]) (fun _ kz => XS.aloadN X1728.here hx rfl (hb hby od_121_26_117) rfl rfl kz) ?_
    obtain ⟨T1729, X1729, e1729, st1729⟩ := getF X1728 hx hZ hown (host := "") (Or.inl (own_w hw 199 rfl)) Via.refl e1728 f1721 (g := (mkF m 118 #[.val (.ref a), .val (.int xi), .val (.int (1 : Int32)), .val (.int x3), .val (.int xi), .val (.int (0 : Int32))] [(.ref a), (.ref o1668)])) rfl rfl (hb hby od_121_26_118)
    refine own_s st1729 ?_
    show own_E p e below _ (T1729.setTop (mkF m 121 #[.val (.ref a), .val (.int xi), .val (.int (1 : Int32)), .val (.int x3), .val (.int xi), .val (.int (0 : Int32))] [(.int (0 : Int32)), (.ref o1668)]))
    refine own_g (mkF m 122 #[.val (.ref a), .val (.int xi), .val (.int (1 : Int32)), .val (.int x3), .val (.int xi), .val (.int (0 : Int32))] [(.int x3), (.int (0 : Int32)), (.ref o1668)]) (fun _ kz => XS.iloadN X1729.here hx rfl (hb hby od_121_26_121) rfl kz) ?_
    refine own_stB X1729 hx hZ e1729 f1726 (hb hby od_121_26_122) (by decide) (i := 0) rfl (by decide) ?_
    intro T1730 h1730 X1730 e1730 W1730 A1730
    have N1730 := Fr.snoc X1730 N1711 b1673
    have s1731 : n0 ≤ h1730.size := Nat.le_trans s1712 (Keep.of_wr W1730).1
    have f1732 := Exa.wr W1730 f1713
    have f1733 := Fld.other W1730 f1714 (Or.inl (Nat.ne_of_lt lt1669))
    have f1734 := Fld.other W1730 f1715 (Or.inl (Nat.ne_of_lt lt1669))
    have f1735 := Fld.other W1730 f1716 (Or.inl (Nat.ne_of_lt lt1669))
    have f1736 := Fld.other W1730 f1717 (Or.inl (Nat.ne_of_lt lt1669))
    have f1737 := Fld.other W1730 f1718 (Or.inl (Nat.ne_of_lt lt1669))
    have f1738 := Fld.other W1730 f1719 (Or.inl (Nat.ne_of_lt lt1669))
    have f1739 := Fld.other W1730 f1720 (Or.inl (Nat.ne_of_lt lt1669))
    have f1740 := Fld.other W1730 f1721 (Or.inl (Nat.ne_of_lt lt1669))
    have f1741 := f1722.other W1730 (Nat.ne_of_lt lt1670)
    have f1742 := f1723.other W1730 (Nat.ne_of_lt lt1671)
    have f1743 := Fld.other W1730 f1724 (Or.inl (Nat.ne_of_lt lt1669))
    have f1744 := Fld.other W1730 f1725 (Or.inl (Nat.ne_of_lt lt1669))
    have f1745 := A1711.other W1730 (Nat.ne_of_lt lt1672)
    have K1746 := own_KL.wr K1727 W1730 (by omega)
    show own_E p e below _ (T1730.setTop (mkF m 123 #[.val (.ref a), .val (.int xi), .val (.int (1 : Int32)), .val (.int x3), .val (.int xi), .val (.int (0 : Int32))] []))
    refine own_g (mkF m 124 #[.val (.ref a), .val (.int xi), .val (.int (1 : Int32)), .val (.int x3), .val (.int xi), .val (.int (0 : Int32))] [(.ref a)]) (fun _ kz => XS.aloadN X1730.here hx rfl (hb hby od_121_26_123) rfl rfl kz) ?_
    refine own_g (mkF m 125 #[.val (.ref a), .val (.int xi), .val (.int (1 : Int32)), .val (.int x3), .val (.int xi), .val (.int (0 : Int32))] [(.ref a), (.ref a)]) (fun _ kz => XS.dup X1730.here hx rfl (hb hby od_121_26_124) rfl rfl kz) ?_
    obtain ⟨T1747, X1747, e1747, st1747⟩ := getF X1730 hx hZ hown (host := "") (Or.inl (own_w hw 199 rfl)) Via.refl e1730 f1740 (g := (mkF m 125 #[.val (.ref a), .val (.int xi), .val (.int (1 : Int32)), .val (.int x3), .val (.int xi), .val (.int (0 : Int32))] [(.ref a), (.ref a)])) rfl rfl (hb hby od_121_26_125)
    refine own_s st1747 ?_
    show own_E p e below _ (T1747.setTop (mkF m 128 #[.val (.ref a), .val (.int xi), .val (.int (1 : Int32)), .val (.int x3), .val (.int xi), .val (.int (0 : Int32))] [(.int (0 : Int32)), (.ref a)]))
    refine own_g (mkF m 129 #[.val (.ref a), .val (.int xi), .val (.int (1 : Int32)), .val (.int x3), .val (.int xi), .val (.int (0 : Int32))] [(.int (1 : Int32)), (.int (0 : Int32)), (.ref a)]) (fun _ kz => XS.iconst X1747.here hx rfl (hb hby od_121_26_128) kz) ?_
    refine own_g (mkF m 130 #[.val (.ref a), .val (.int xi), .val (.int (1 : Int32)), .val (.int x3), .val (.int xi), .val (.int (0 : Int32))] [(.int ((0 : Int32) + (1 : Int32))), (.ref a)]) (fun _ kz => XS.iadd X1747.here hx rfl (hb hby od_121_26_129) rfl kz) ?_
    rw [show ((0 : Int32) + (1 : Int32)) = (1 : Int32) from by decide]
    show own_E p e below _ (T1747.setTop (mkF m 130 #[.val (.ref a), .val (.int xi), .val (.int (1 : Int32)), .val (.int x3), .val (.int xi), .val (.int (0 : Int32))] [(.int (1 : Int32)), (.ref a)]))
    obtain ⟨T1748, h1748, X1748, e1748, W1748, st1748⟩ := putF X1747 hx hZ hown (host := "") (Or.inl (own_w hw 199 rfl)) Via.refl e1747 f1740 f1732 (Or.inl (own_w hw 200 rfl)) (own_w hw 13 rfl) (ty := .int) (by decide) rfl rfl (g := (mkF m 130 #[.val (.ref a), .val (.int xi), .val (.int (1 : Int32)), .val (.int x3), .val (.int xi), .val (.int (0 : Int32))] [(.int (1 : Int32)), (.ref a)])) rfl rfl (hb hby od_121_26_130)
    have N1748 := Fr.snoc X1748 N1730 na0
    have s1749 : n0 ≤ h1748.size := Nat.le_trans s1731 (Keep.of_wr W1748).1
    have f1750 := Exa.wr W1748 f1732
    have f1751 := Fld.other W1748 f1733 (Or.inr (slot_ne (Or.inl (own_w hw 187 rfl)) (Or.inl (own_w hw 200 rfl)) (by decide) (t := .int) (t' := .int) (by decide) (by decide)))
    have f1752 := Fld.other W1748 f1734 (Or.inr (slot_ne (Or.inl (own_w hw 169 rfl)) (Or.inl (own_w hw 200 rfl)) (by decide) (t := .int) (t' := .int) (by decide) (by decide)))
    have f1753 := Fld.other W1748 f1735 (Or.inr (slot_ne (Or.inl (own_w hw 190 rfl)) (Or.inl (own_w hw 200 rfl)) (by decide) (t := .int) (t' := .int) (by decide) (by decide)))
    have f1754 := Fld.other W1748 f1736 (Or.inr (slot_ne (Or.inl (own_w hw 192 rfl)) (Or.inl (own_w hw 200 rfl)) (by decide) (t := .int) (t' := .int) (by decide) (by decide)))
    have f1755 := Fld.other W1748 f1737 (Or.inr (slot_ne (Or.inl (own_w hw 35 rfl)) (Or.inl (own_w hw 200 rfl)) (by decide) (t := (.array .int)) (t' := .int) (by decide) (by decide)))
    have f1756 := Fld.other W1748 f1738 (Or.inr (slot_ne (Or.inl (own_w hw 47 rfl)) (Or.inl (own_w hw 200 rfl)) (by decide) (t := (.array .byte)) (t' := .int) (by decide) (by decide)))
    have f1757 := Fld.other W1748 f1739 (Or.inr (slot_ne (Or.inl (own_w hw 159 rfl)) (Or.inl (own_w hw 200 rfl)) (by decide) (t := (.array .int)) (t' := .int) (by decide) (by decide)))
    have f1758 := f1741.other W1748 (by show @Ne Nat _ _; omega)
    have f1759 := f1742.other W1748 (by show @Ne Nat _ _; omega)
    have f1760 := Fld.other W1748 f1743 (Or.inr (slot_ne (Or.inl (own_w hw 198 rfl)) (Or.inl (own_w hw 200 rfl)) (by decide) (t := (.array .int)) (t' := .int) (by decide) (by decide)))
    have f1761 := Fld.other W1748 f1744 (Or.inr (slot_ne (Or.inl (own_w hw 203 rfl)) (Or.inl (own_w hw 200 rfl)) (by decide) (t := (.array .byte)) (t' := .int) (by decide) (by decide)))
    have f1762 := f1745.other W1748 (Ne.symm (Nat.ne_of_lt lt1630))
    have f1763 := A1730.other W1748 (Ne.symm (Nat.ne_of_lt lt1669))
    have K1764 := own_KL.wr K1746 W1748 (by omega)
    have f1765 := Fld.same W1748 f1740
    refine own_s st1748 ?_
    show own_E p e below _ (T1748.setTop (mkF m 133 #[.val (.ref a), .val (.int xi), .val (.int (1 : Int32)), .val (.int x3), .val (.int xi), .val (.int (0 : Int32))] []))
    refine own_g (mkF m 134 #[.val (.ref a), .val (.int xi), .val (.int (1 : Int32)), .val (.int x3), .val (.int xi), .val (.int (0 : Int32))] [(.ref a)]) (fun _ kz => XS.aloadN X1748.here hx rfl (hb hby od_121_26_133) rfl rfl kz) ?_
    obtain ⟨T1766, X1766, e1766, st1766⟩ := getF X1748 hx hZ hown (host := "") (Or.inl (own_w hw 34 rfl)) Via.refl e1748 f1755 (g := (mkF m 134 #[.val (.ref a), .val (.int xi), .val (.int (1 : Int32)), .val (.int x3), .val (.int xi), .val (.int (0 : Int32))] [(.ref a)])) rfl rfl (hb hby od_121_26_134)
    refine own_s st1766 ?_
    show own_E p e below _ (T1766.setTop (mkF m 137 #[.val (.ref a), .val (.int xi), .val (.int (1 : Int32)), .val (.int x3), .val (.int xi), .val (.int (0 : Int32))] [(.ref pb)]))
    refine own_g (mkF m 139 #[.val (.ref a), .val (.int xi), .val (.int (1 : Int32)), .val (.int x3), .val (.int xi), .val (.int (0 : Int32))] [(.int xi), (.ref pb)]) (fun _ kz => XS.iload X1766.here hx rfl (hb hby od_121_26_137) rfl kz) ?_
    refine own_ildI X1766 hx hZ e1766 f1758 (hb hby od_121_26_139) (own_d01 hxi).1 (i := xi.toNatClampNeg) rfl (own_d01 hxi).2 (x := (-1 : Int32)) (own_pm hxi p00 p10) ?_
    show own_E p e below _ (T1766.setTop (mkF m 140 #[.val (.ref a), .val (.int xi), .val (.int (1 : Int32)), .val (.int x3), .val (.int xi), .val (.int (0 : Int32))] [(.int (-1 : Int32))]))
    refine own_g (mkF m 142 #[.val (.ref a), .val (.int xi), .val (.int (1 : Int32)), .val (.int x3), .val (.int (-1 : Int32)), .val (.int (0 : Int32))] []) (fun _ kz => XS.istore X1766.here hx rfl (hb hby od_121_26_140) rfl (l' := #[.val (.ref a), .val (.int xi), .val (.int (1 : Int32)), .val (.int x3), .val (.int (-1 : Int32)), .val (.int (0 : Int32))]) rfl kz) ?_
    refine own_g (mkF m 145 #[.val (.ref a), .val (.int xi), .val (.int (1 : Int32)), .val (.int x3), .val (.int (-1 : Int32)), .val (.int ((0 : Int32) + (1 : Int32)))] []) (fun _ kz => XS.iinc X1766.here hx rfl (hb hby od_121_26_142) rfl (l' := #[.val (.ref a), .val (.int xi), .val (.int (1 : Int32)), .val (.int x3), .val (.int (-1 : Int32)), .val (.int ((0 : Int32) + (1 : Int32)))]) rfl kz) ?_
    rw [show ((0 : Int32) + (1 : Int32)) = (1 : Int32) from by decide]
    show own_E p e below _ (T1766.setTop (mkF m 145 #[.val (.ref a), .val (.int xi), .val (.int (1 : Int32)), .val (.int x3), .val (.int (-1 : Int32)), .val (.int (1 : Int32))] []))
    refine own_g (mkF m 96 #[.val (.ref a), .val (.int xi), .val (.int (1 : Int32)), .val (.int x3), .val (.int (-1 : Int32)), .val (.int (1 : Int32))] []) (fun _ kz => XS.goto X1766.here hx rfl (pc0 := 145) (pc' := 96) rfl (hb hby od_121_26_145) (by decide) (by decide) kz) ?_
    refine own_g (mkF m 98 #[.val (.ref a), .val (.int xi), .val (.int (1 : Int32)), .val (.int x3), .val (.int (-1 : Int32)), .val (.int (1 : Int32))] [(.int (1 : Int32))]) (fun _ kz => XS.iload X1766.here hx rfl (hb hby od_121_26_96) rfl kz) ?_
    refine own_g (mkF m 99 #[.val (.ref a), .val (.int xi), .val (.int (1 : Int32)), .val (.int x3), .val (.int (-1 : Int32)), .val (.int (1 : Int32))] [(.int (1 : Int32)), (.int (1 : Int32))]) (fun _ kz => XS.iloadN X1766.here hx rfl (hb hby od_121_26_98) rfl kz) ?_
    refine own_g (mkF m 148 #[.val (.ref a), .val (.int xi), .val (.int (1 : Int32)), .val (.int x3), .val (.int (-1 : Int32)), .val (.int (1 : Int32))] []) (fun _ kz => XS.icmpYes X1766.here hx rfl (pc0 := 99) (pc' := 148) rfl (hb hby od_121_26_99) rfl (flt (by decide)).2.1 (by decide) (by decide) kz) ?_
    have dmx : ∀ p, p < 0 + 1 → own_set (fun _ => (0 : Int32)) 0 xi p = 0 ∨ own_set (fun _ => (0 : Int32)) 0 xi p = 1 := by
      intro p hp
      by_cases q : p = 0
      · subst q; rw [own_set_same]; exact hxi
      · rw [own_set_other _ _ q]; exact Or.inl rfl
    exact own_retV X1766 hx hret hlk (hb hby od_121_26_148) (by decide) (by decide) (by first | exact ⟨rfl, N1748, K1764, _, _, _, _, rfl, ⟨f1750, ⟨_, f1751⟩, f1752, ⟨_, f1753⟩, ⟨_, f1754⟩, f1755, f1756, f1757, f1765, ⟨_, f1758, p00, p10⟩, f1759, na0, (Nat.le_trans zl0 K1764.1), oa0, ob0, oc0, dmx, Or.inr ⟨o1629, o1668, (by omega), lt1672, f1760, f1761, f1762, f1763⟩⟩⟩ | (rw [e1766]; exact ⟨rfl, N1748, K1764, _, _, _, _, rfl, ⟨f1750, ⟨_, f1751⟩, f1752, ⟨_, f1753⟩, ⟨_, f1754⟩, f1755, f1756, f1757, f1765, ⟨_, f1758, p00, p10⟩, f1759, na0, (Nat.le_trans zl0 K1764.1), oa0, ob0, oc0, dmx, Or.inr ⟨o1629, o1668, (by omega), lt1672, f1760, f1761, f1762, f1763⟩⟩⟩))
  · have omb' := omb
    refine own_g (mkF m 1 #[.val (.ref a), .val (.int xi), .val (.int (1 : Int32)), .val (.int x3), .unset, .unset] [(.ref a)]) (fun _ kz => XS.aloadN X0.here hx rfl (hb hby od_121_26_0) rfl rfl kz) ?_
    obtain ⟨T1767, X1767, e1767, st1767⟩ := getF X0 hx hZ hown (host := "") (Or.inl (own_w hw 197 rfl)) Via.refl e0 M0 (g := (mkF m 1 #[.val (.ref a), .val (.int xi), .val (.int (1 : Int32)), .val (.int x3), .unset, .unset] [(.ref a)])) rfl rfl (hb hby od_121_26_1)
    refine own_s st1767 ?_
    show own_E p e below _ (T1767.setTop (mkF m 4 #[.val (.ref a), .val (.int xi), .val (.int (1 : Int32)), .val (.int x3), .unset, .unset] [(.ref mb)]))
    refine own_g (mkF m 7 #[.val (.ref a), .val (.int xi), .val (.int (1 : Int32)), .val (.int x3), .unset, .unset] []) (fun _ kz => XS.ifnullNo X1767.here hx rfl (hb hby od_121_26_4) rfl kz) ?_
    refine own_g (mkF m 8 #[.val (.ref a), .val (.int xi), .val (.int (1 : Int32)), .val (.int x3), .unset, .unset] [(.ref a)]) (fun _ kz => XS.aloadN X1767.here hx rfl (hb hby od_121_26_7) rfl rfl kz) ?_
    obtain ⟨T1768, X1768, e1768, st1768⟩ := getF X1767 hx hZ hown (host := "") (Or.inl (own_w hw 199 rfl)) Via.refl e1767 Fc0 (g := (mkF m 8 #[.val (.ref a), .val (.int xi), .val (.int (1 : Int32)), .val (.int x3), .unset, .unset] [(.ref a)])) rfl rfl (hb hby od_121_26_8)
    refine own_s st1768 ?_
    show own_E p e below _ (T1768.setTop (mkF m 11 #[.val (.ref a), .val (.int xi), .val (.int (1 : Int32)), .val (.int x3), .unset, .unset] [(.int (Int32.ofNat cc))]))
    refine own_g (mkF m 12 #[.val (.ref a), .val (.int xi), .val (.int (1 : Int32)), .val (.int x3), .unset, .unset] [(.int (1 : Int32)), (.int (Int32.ofNat cc))]) (fun _ kz => XS.iloadN X1768.here hx rfl (hb hby od_121_26_11) rfl kz) ?_
    refine own_g (mkF m 13 #[.val (.ref a), .val (.int xi), .val (.int (1 : Int32)), .val (.int x3), .unset, .unset] [(.int ((Int32.ofNat cc) + (1 : Int32)))]) (fun _ kz => XS.iadd X1768.here hx rfl (hb hby od_121_26_12) rfl kz) ?_
    rw [own_one]
    show own_E p e below _ (T1768.setTop (mkF m 13 #[.val (.ref a), .val (.int xi), .val (.int (1 : Int32)), .val (.int x3), .unset, .unset] [(.int (Int32.ofNat (cc + 1)))]))
    refine own_g (mkF m 14 #[.val (.ref a), .val (.int xi), .val (.int (1 : Int32)), .val (.int x3), .unset, .unset] [(.ref a), (.int (Int32.ofNat (cc + 1)))]) (fun _ kz => XS.aloadN X1768.here hx rfl (hb hby od_121_26_13) rfl rfl kz) ?_
    obtain ⟨T1769, X1769, e1769, st1769⟩ := getF X1768 hx hZ hown (host := "") (Or.inl (own_w hw 197 rfl)) Via.refl e1768 M0 (g := (mkF m 14 #[.val (.ref a), .val (.int xi), .val (.int (1 : Int32)), .val (.int x3), .unset, .unset] [(.ref a), (.int (Int32.ofNat (cc + 1)))])) rfl rfl (hb hby od_121_26_14)
    refine own_s st1769 ?_
    show own_E p e below _ (T1769.setTop (mkF m 17 #[.val (.ref a), .val (.int xi), .val (.int (1 : Int32)), .val (.int x3), .unset, .unset] [(.ref mb), (.int (Int32.ofNat (cc + 1)))]))
    refine own_lenI X1769 hx hZ e1769 Am (hb hby od_121_26_17) (z := (64 : Int32)) rfl ?_
    show own_E p e below _ (T1769.setTop (mkF m 18 #[.val (.ref a), .val (.int xi), .val (.int (1 : Int32)), .val (.int x3), .unset, .unset] [(.int (64 : Int32)), (.int (Int32.ofNat (cc + 1)))]))
    refine own_g (mkF m 90 #[.val (.ref a), .val (.int xi), .val (.int (1 : Int32)), .val (.int x3), .unset, .unset] []) (fun _ kz => XS.icmpYes X1769.here hx rfl (pc0 := 18) (pc' := 90) rfl (hb hby od_121_26_18) rfl (flt (own_nlt (show cc + 1 ≤ 64 by omega) (by omega))).2.2.2 (by decide) (by decide) kz) ?_
    refine own_g (mkF m 91 #[.val (.ref a), .val (.int xi), .val (.int (1 : Int32)), .val (.int x3), .unset, .unset] [(.int xi)]) (fun _ kz => XS.iloadN X1769.here hx rfl (hb hby od_121_26_90) rfl kz) ?_
    refine own_g (mkF m 93 #[.val (.ref a), .val (.int xi), .val (.int (1 : Int32)), .val (.int x3), .val (.int xi), .unset] []) (fun _ kz => XS.istore X1769.here hx rfl (hb hby od_121_26_91) rfl (l' := #[.val (.ref a), .val (.int xi), .val (.int (1 : Int32)), .val (.int x3), .val (.int xi), .unset]) rfl kz) ?_
    refine own_g (mkF m 94 #[.val (.ref a), .val (.int xi), .val (.int (1 : Int32)), .val (.int x3), .val (.int xi), .unset] [(.int (0 : Int32))]) (fun _ kz => XS.iconst X1769.here hx rfl (hb hby od_121_26_93) kz) ?_
    refine own_g (mkF m 96 #[.val (.ref a), .val (.int xi), .val (.int (1 : Int32)), .val (.int x3), .val (.int xi), .val (.int (0 : Int32))] []) (fun _ kz => XS.istore X1769.here hx rfl (hb hby od_121_26_94) rfl (l' := #[.val (.ref a), .val (.int xi), .val (.int (1 : Int32)), .val (.int x3), .val (.int xi), .val (.int (0 : Int32))]) rfl kz) ?_
    refine own_g (mkF m 98 #[.val (.ref a), .val (.int xi), .val (.int (1 : Int32)), .val (.int x3), .val (.int xi), .val (.int (0 : Int32))] [(.int (0 : Int32))]) (fun _ kz => XS.iload X1769.here hx rfl (hb hby od_121_26_96) rfl kz) ?_
    refine own_g (mkF m 99 #[.val (.ref a), .val (.int xi), .val (.int (1 : Int32)), .val (.int x3), .val (.int xi), .val (.int (0 : Int32))] [(.int (1 : Int32)), (.int (0 : Int32))]) (fun _ kz => XS.iloadN X1769.here hx rfl (hb hby od_121_26_98) rfl kz) ?_
    refine own_g (mkF m 102 #[.val (.ref a), .val (.int xi), .val (.int (1 : Int32)), .val (.int x3), .val (.int xi), .val (.int (0 : Int32))] []) (fun _ kz => XS.icmpNo X1769.here hx rfl (hb hby od_121_26_99) rfl (tlt (by decide)).2.1 kz) ?_
    refine own_g (mkF m 103 #[.val (.ref a), .val (.int xi), .val (.int (1 : Int32)), .val (.int x3), .val (.int xi), .val (.int (0 : Int32))] [(.ref a)]) (fun _ kz => XS.aloadN X1769.here hx rfl (hb hby od_121_26_102) rfl rfl kz) ?_
    obtain ⟨T1770, X1770, e1770, st1770⟩ := getF X1769 hx hZ hown (host := "") (Or.inl (own_w hw 197 rfl)) Via.refl e1769 M0 (g := (mkF m 103 #[.val (.ref a), .val (.int xi), .val (.int (1 : Int32)), .val (.int x3), .val (.int xi), .val (.int (0 : Int32))] [(.ref a)])) rfl rfl (hb hby od_121_26_103)
    refine own_s st1770 ?_
    show own_E p e below _ (T1770.setTop (mkF m 106 #[.val (.ref a), .val (.int xi), .val (.int (1 : Int32)), .val (.int x3), .val (.int xi), .val (.int (0 : Int32))] [(.ref mb)]))
    refine own_g (mkF m 107 #[.val (.ref a), .val (.int xi), .val (.int (1 : Int32)), .val (.int x3), .val (.int xi), .val (.int (0 : Int32))] [(.ref a), (.ref mb)]) (fun _ kz => XS.aloadN X1770.here hx rfl (hb hby od_121_26_106) rfl rfl kz) ?_
    obtain ⟨T1771, X1771, e1771, st1771⟩ := getF X1770 hx hZ hown (host := "") (Or.inl (own_w hw 199 rfl)) Via.refl e1770 Fc0 (g := (mkF m 107 #[.val (.ref a), .val (.int xi), .val (.int (1 : Int32)), .val (.int x3), .val (.int xi), .val (.int (0 : Int32))] [(.ref a), (.ref mb)])) rfl rfl (hb hby od_121_26_107)
    refine own_s st1771 ?_
    show own_E p e below _ (T1771.setTop (mkF m 110 #[.val (.ref a), .val (.int xi), .val (.int (1 : Int32)), .val (.int x3), .val (.int xi), .val (.int (0 : Int32))] [(.int (Int32.ofNat cc)), (.ref mb)]))
    refine own_g (mkF m 112 #[.val (.ref a), .val (.int xi), .val (.int (1 : Int32)), .val (.int x3), .val (.int xi), .val (.int (0 : Int32))] [(.int xi), (.int (Int32.ofNat cc)), (.ref mb)]) (fun _ kz => XS.iload X1771.here hx rfl (hb hby od_121_26_110) rfl kz) ?_
    refine own_stI X1771 hx hZ e1771 Am (hb hby od_121_26_112) (own_nn (by omega)).1 (i := cc) (own_nn (by omega)).2 (by omega) ?_
    intro T1772 h1772 X1772 e1772 W1772 A1772
    have N1772 := Fr.snoc X1772 N0 (by show @LE.le Nat _ _ _; omega)
    have s1773 : n0 ≤ h1772.size := Nat.le_trans Z0 (Keep.of_wr W1772).1
    have f1774 := Exa.wr W1772 E0
    have f1775 := Fld.other W1772 Fm0 (Or.inl (by show @Ne Nat _ _; omega))
    have f1776 := Fld.other W1772 Fb0 (Or.inl (by show @Ne Nat _ _; omega))
    have f1777 := Fld.other W1772 Fr0 (Or.inl (by show @Ne Nat _ _; omega))
    have f1778 := Fld.other W1772 Ft0 (Or.inl (by show @Ne Nat _ _; omega))
    have f1779 := Fld.other W1772 Fp0 (Or.inl (by show @Ne Nat _ _; omega))
    have f1780 := Fld.other W1772 Ff0 (Or.inl (by show @Ne Nat _ _; omega))
    have f1781 := Fld.other W1772 Fs0 (Or.inl (by show @Ne Nat _ _; omega))
    have f1782 := Fld.other W1772 Fc0 (Or.inl (by show @Ne Nat _ _; omega))
    have f1783 := Ap0.other W1772 (by show @Ne Nat _ _; omega)
    have f1784 := Af0.other W1772 (by show @Ne Nat _ _; omega)
    have f1785 := Fld.other W1772 M0 (Or.inl (by show @Ne Nat _ _; omega))
    have f1786 := Fld.other W1772 M1 (Or.inl (by show @Ne Nat _ _; omega))
    have f1787 := Ag.other W1772 (by show @Ne Nat _ _; omega)
    have K1788 := own_KL.wr KL0 W1772 (by omega)
    show own_E p e below _ (T1772.setTop (mkF m 113 #[.val (.ref a), .val (.int xi), .val (.int (1 : Int32)), .val (.int x3), .val (.int xi), .val (.int (0 : Int32))] []))
    refine own_g (mkF m 114 #[.val (.ref a), .val (.int xi), .val (.int (1 : Int32)), .val (.int x3), .val (.int xi), .val (.int (0 : Int32))] [(.ref a)]) (fun _ kz => XS.aloadN X1772.here hx rfl (hb hby od_121_26_113) rfl rfl kz) ?_
    obtain ⟨T1789, X1789, e1789, st1789⟩ := getF X1772 hx hZ hown (host := "") (Or.inl (own_w hw 202 rfl)) Via.refl e1772 f1786 (g := (mkF m 114 #[.val (.ref a), .val (.int xi), .val (.int (1 : Int32)), .val (.int x3), .val (.int xi), .val (.int (0 : Int32))] [(.ref a)])) rfl rfl (hb hby od_121_26_114)
    refine own_s st1789 ?_
    show own_E p e below _ (T1789.setTop (mkF m 117 #[.val (.ref a), .val (.int xi), .val (.int (1 : Int32)), .val (.int x3), .val (.int xi), .val (.int (0 : Int32))] [(.ref gb)]))
    refine own_g (mkF m 118 #[.val (.ref a), .val (.int xi), .val (.int (1 : Int32)), .val (.int x3), .val (.int xi), .val (.int (0 : Int32))] [(.ref a), (.ref gb)]) (fun _ kz => XS.aloadN X1789.here hx rfl (hb hby od_121_26_117) rfl rfl kz) ?_
    obtain ⟨T1790, X1790, e1790, st1790⟩ := getF X1789 hx hZ hown (host := "") (Or.inl (own_w hw 199 rfl)) Via.refl e1789 f1782 (g := (mkF m 118 #[.val (.ref a), .val (.int xi), .val (.int (1 : Int32)), .val (.int x3), .val (.int xi), .val (.int (0 : Int32))] [(.ref a), (.ref gb)])) rfl rfl (hb hby od_121_26_118)
    refine own_s st1790 ?_
    show own_E p e below _ (T1790.setTop (mkF m 121 #[.val (.ref a), .val (.int xi), .val (.int (1 : Int32)), .val (.int x3), .val (.int xi), .val (.int (0 : Int32))] [(.int (Int32.ofNat cc)), (.ref gb)]))
    refine own_g (mkF m 122 #[.val (.ref a), .val (.int xi), .val (.int (1 : Int32)), .val (.int x3), .val (.int xi), .val (.int (0 : Int32))] [(.int x3), (.int (Int32.ofNat cc)), (.ref gb)]) (fun _ kz => XS.iloadN X1790.here hx rfl (hb hby od_121_26_121) rfl kz) ?_
    refine own_stB X1790 hx hZ e1790 f1787 (hb hby od_121_26_122) (own_nn (by omega)).1 (i := cc) (own_nn (by omega)).2 (by omega) ?_
    intro T1791 h1791 X1791 e1791 W1791 A1791
    have N1791 := Fr.snoc X1791 N1772 (by show @LE.le Nat _ _ _; omega)
    have s1792 : n0 ≤ h1791.size := Nat.le_trans s1773 (Keep.of_wr W1791).1
    have f1793 := Exa.wr W1791 f1774
    have f1794 := Fld.other W1791 f1775 (Or.inl (by show @Ne Nat _ _; omega))
    have f1795 := Fld.other W1791 f1776 (Or.inl (by show @Ne Nat _ _; omega))
    have f1796 := Fld.other W1791 f1777 (Or.inl (by show @Ne Nat _ _; omega))
    have f1797 := Fld.other W1791 f1778 (Or.inl (by show @Ne Nat _ _; omega))
    have f1798 := Fld.other W1791 f1779 (Or.inl (by show @Ne Nat _ _; omega))
    have f1799 := Fld.other W1791 f1780 (Or.inl (by show @Ne Nat _ _; omega))
    have f1800 := Fld.other W1791 f1781 (Or.inl (by show @Ne Nat _ _; omega))
    have f1801 := Fld.other W1791 f1782 (Or.inl (by show @Ne Nat _ _; omega))
    have f1802 := f1783.other W1791 (by show @Ne Nat _ _; omega)
    have f1803 := f1784.other W1791 (by show @Ne Nat _ _; omega)
    have f1804 := Fld.other W1791 f1785 (Or.inl (by show @Ne Nat _ _; omega))
    have f1805 := Fld.other W1791 f1786 (Or.inl (by show @Ne Nat _ _; omega))
    have f1806 := A1772.other W1791 (by show @Ne Nat _ _; omega)
    have K1807 := own_KL.wr K1788 W1791 (by omega)
    show own_E p e below _ (T1791.setTop (mkF m 123 #[.val (.ref a), .val (.int xi), .val (.int (1 : Int32)), .val (.int x3), .val (.int xi), .val (.int (0 : Int32))] []))
    refine own_g (mkF m 124 #[.val (.ref a), .val (.int xi), .val (.int (1 : Int32)), .val (.int x3), .val (.int xi), .val (.int (0 : Int32))] [(.ref a)]) (fun _ kz => XS.aloadN X1791.here hx rfl (hb hby od_121_26_123) rfl rfl kz) ?_
    refine own_g (mkF m 125 #[.val (.ref a), .val (.int xi), .val (.int (1 : Int32)), .val (.int x3), .val (.int xi), .val (.int (0 : Int32))] [(.ref a), (.ref a)]) (fun _ kz => XS.dup X1791.here hx rfl (hb hby od_121_26_124) rfl rfl kz) ?_
    obtain ⟨T1808, X1808, e1808, st1808⟩ := getF X1791 hx hZ hown (host := "") (Or.inl (own_w hw 199 rfl)) Via.refl e1791 f1801 (g := (mkF m 125 #[.val (.ref a), .val (.int xi), .val (.int (1 : Int32)), .val (.int x3), .val (.int xi), .val (.int (0 : Int32))] [(.ref a), (.ref a)])) rfl rfl (hb hby od_121_26_125)
    refine own_s st1808 ?_
    show own_E p e below _ (T1808.setTop (mkF m 128 #[.val (.ref a), .val (.int xi), .val (.int (1 : Int32)), .val (.int x3), .val (.int xi), .val (.int (0 : Int32))] [(.int (Int32.ofNat cc)), (.ref a)]))
    refine own_g (mkF m 129 #[.val (.ref a), .val (.int xi), .val (.int (1 : Int32)), .val (.int x3), .val (.int xi), .val (.int (0 : Int32))] [(.int (1 : Int32)), (.int (Int32.ofNat cc)), (.ref a)]) (fun _ kz => XS.iconst X1808.here hx rfl (hb hby od_121_26_128) kz) ?_
    refine own_g (mkF m 130 #[.val (.ref a), .val (.int xi), .val (.int (1 : Int32)), .val (.int x3), .val (.int xi), .val (.int (0 : Int32))] [(.int ((Int32.ofNat cc) + (1 : Int32))), (.ref a)]) (fun _ kz => XS.iadd X1808.here hx rfl (hb hby od_121_26_129) rfl kz) ?_
    rw [own_one]
    show own_E p e below _ (T1808.setTop (mkF m 130 #[.val (.ref a), .val (.int xi), .val (.int (1 : Int32)), .val (.int x3), .val (.int xi), .val (.int (0 : Int32))] [(.int (Int32.ofNat (cc + 1))), (.ref a)]))
    obtain ⟨T1809, h1809, X1809, e1809, W1809, st1809⟩ := putF X1808 hx hZ hown (host := "") (Or.inl (own_w hw 199 rfl)) Via.refl e1808 f1801 f1793 (Or.inl (own_w hw 200 rfl)) (own_w hw 13 rfl) (ty := .int) (by decide) rfl rfl (g := (mkF m 130 #[.val (.ref a), .val (.int xi), .val (.int (1 : Int32)), .val (.int x3), .val (.int xi), .val (.int (0 : Int32))] [(.int (Int32.ofNat (cc + 1))), (.ref a)])) rfl rfl (hb hby od_121_26_130)
    have N1809 := Fr.snoc X1809 N1791 na0
    have s1810 : n0 ≤ h1809.size := Nat.le_trans s1792 (Keep.of_wr W1809).1
    have f1811 := Exa.wr W1809 f1793
    have f1812 := Fld.other W1809 f1794 (Or.inr (slot_ne (Or.inl (own_w hw 187 rfl)) (Or.inl (own_w hw 200 rfl)) (by decide) (t := .int) (t' := .int) (by decide) (by decide)))
    have f1813 := Fld.other W1809 f1795 (Or.inr (slot_ne (Or.inl (own_w hw 169 rfl)) (Or.inl (own_w hw 200 rfl)) (by decide) (t := .int) (t' := .int) (by decide) (by decide)))
    have f1814 := Fld.other W1809 f1796 (Or.inr (slot_ne (Or.inl (own_w hw 190 rfl)) (Or.inl (own_w hw 200 rfl)) (by decide) (t := .int) (t' := .int) (by decide) (by decide)))
    have f1815 := Fld.other W1809 f1797 (Or.inr (slot_ne (Or.inl (own_w hw 192 rfl)) (Or.inl (own_w hw 200 rfl)) (by decide) (t := .int) (t' := .int) (by decide) (by decide)))
    have f1816 := Fld.other W1809 f1798 (Or.inr (slot_ne (Or.inl (own_w hw 35 rfl)) (Or.inl (own_w hw 200 rfl)) (by decide) (t := (.array .int)) (t' := .int) (by decide) (by decide)))
    have f1817 := Fld.other W1809 f1799 (Or.inr (slot_ne (Or.inl (own_w hw 47 rfl)) (Or.inl (own_w hw 200 rfl)) (by decide) (t := (.array .byte)) (t' := .int) (by decide) (by decide)))
    have f1818 := Fld.other W1809 f1800 (Or.inr (slot_ne (Or.inl (own_w hw 159 rfl)) (Or.inl (own_w hw 200 rfl)) (by decide) (t := (.array .int)) (t' := .int) (by decide) (by decide)))
    have f1819 := f1802.other W1809 (by show @Ne Nat _ _; omega)
    have f1820 := f1803.other W1809 (by show @Ne Nat _ _; omega)
    have f1821 := Fld.other W1809 f1804 (Or.inr (slot_ne (Or.inl (own_w hw 198 rfl)) (Or.inl (own_w hw 200 rfl)) (by decide) (t := (.array .int)) (t' := .int) (by decide) (by decide)))
    have f1822 := Fld.other W1809 f1805 (Or.inr (slot_ne (Or.inl (own_w hw 203 rfl)) (Or.inl (own_w hw 200 rfl)) (by decide) (t := (.array .byte)) (t' := .int) (by decide) (by decide)))
    have f1823 := f1806.other W1809 (by show @Ne Nat _ _; omega)
    have f1824 := A1791.other W1809 (by show @Ne Nat _ _; omega)
    have K1825 := own_KL.wr K1807 W1809 (by omega)
    have f1826 := Fld.same W1809 f1801
    refine own_s st1809 ?_
    show own_E p e below _ (T1809.setTop (mkF m 133 #[.val (.ref a), .val (.int xi), .val (.int (1 : Int32)), .val (.int x3), .val (.int xi), .val (.int (0 : Int32))] []))
    refine own_g (mkF m 134 #[.val (.ref a), .val (.int xi), .val (.int (1 : Int32)), .val (.int x3), .val (.int xi), .val (.int (0 : Int32))] [(.ref a)]) (fun _ kz => XS.aloadN X1809.here hx rfl (hb hby od_121_26_133) rfl rfl kz) ?_
    obtain ⟨T1827, X1827, e1827, st1827⟩ := getF X1809 hx hZ hown (host := "") (Or.inl (own_w hw 34 rfl)) Via.refl e1809 f1816 (g := (mkF m 134 #[.val (.ref a), .val (.int xi), .val (.int (1 : Int32)), .val (.int x3), .val (.int xi), .val (.int (0 : Int32))] [(.ref a)])) rfl rfl (hb hby od_121_26_134)
    refine own_s st1827 ?_
    show own_E p e below _ (T1827.setTop (mkF m 137 #[.val (.ref a), .val (.int xi), .val (.int (1 : Int32)), .val (.int x3), .val (.int xi), .val (.int (0 : Int32))] [(.ref pb)]))
    refine own_g (mkF m 139 #[.val (.ref a), .val (.int xi), .val (.int (1 : Int32)), .val (.int x3), .val (.int xi), .val (.int (0 : Int32))] [(.int xi), (.ref pb)]) (fun _ kz => XS.iload X1827.here hx rfl (hb hby od_121_26_137) rfl kz) ?_
    refine own_ildI X1827 hx hZ e1827 f1819 (hb hby od_121_26_139) (own_d01 hxi).1 (i := xi.toNatClampNeg) rfl (own_d01 hxi).2 (x := (-1 : Int32)) (own_pm hxi p00 p10) ?_
    show own_E p e below _ (T1827.setTop (mkF m 140 #[.val (.ref a), .val (.int xi), .val (.int (1 : Int32)), .val (.int x3), .val (.int xi), .val (.int (0 : Int32))] [(.int (-1 : Int32))]))
    refine own_g (mkF m 142 #[.val (.ref a), .val (.int xi), .val (.int (1 : Int32)), .val (.int x3), .val (.int (-1 : Int32)), .val (.int (0 : Int32))] []) (fun _ kz => XS.istore X1827.here hx rfl (hb hby od_121_26_140) rfl (l' := #[.val (.ref a), .val (.int xi), .val (.int (1 : Int32)), .val (.int x3), .val (.int (-1 : Int32)), .val (.int (0 : Int32))]) rfl kz) ?_
    refine own_g (mkF m 145 #[.val (.ref a), .val (.int xi), .val (.int (1 : Int32)), .val (.int x3), .val (.int (-1 : Int32)), .val (.int ((0 : Int32) + (1 : Int32)))] []) (fun _ kz => XS.iinc X1827.here hx rfl (hb hby od_121_26_142) rfl (l' := #[.val (.ref a), .val (.int xi), .val (.int (1 : Int32)), .val (.int x3), .val (.int (-1 : Int32)), .val (.int ((0 : Int32) + (1 : Int32)))]) rfl kz) ?_
    rw [show ((0 : Int32) + (1 : Int32)) = (1 : Int32) from by decide]
    show own_E p e below _ (T1827.setTop (mkF m 145 #[.val (.ref a), .val (.int xi), .val (.int (1 : Int32)), .val (.int x3), .val (.int (-1 : Int32)), .val (.int (1 : Int32))] []))
    refine own_g (mkF m 96 #[.val (.ref a), .val (.int xi), .val (.int (1 : Int32)), .val (.int x3), .val (.int (-1 : Int32)), .val (.int (1 : Int32))] []) (fun _ kz => XS.goto X1827.here hx rfl (pc0 := 145) (pc' := 96) rfl (hb hby od_121_26_145) (by decide) (by decide) kz) ?_
    refine own_g (mkF m 98 #[.val (.ref a), .val (.int xi), .val (.int (1 : Int32)), .val (.int x3), .val (.int (-1 : Int32)), .val (.int (1 : Int32))] [(.int (1 : Int32))]) (fun _ kz => XS.iload X1827.here hx rfl (hb hby od_121_26_96) rfl kz) ?_
    refine own_g (mkF m 99 #[.val (.ref a), .val (.int xi), .val (.int (1 : Int32)), .val (.int x3), .val (.int (-1 : Int32)), .val (.int (1 : Int32))] [(.int (1 : Int32)), (.int (1 : Int32))]) (fun _ kz => XS.iloadN X1827.here hx rfl (hb hby od_121_26_98) rfl kz) ?_
    refine own_g (mkF m 148 #[.val (.ref a), .val (.int xi), .val (.int (1 : Int32)), .val (.int x3), .val (.int (-1 : Int32)), .val (.int (1 : Int32))] []) (fun _ kz => XS.icmpYes X1827.here hx rfl (pc0 := 99) (pc' := 148) rfl (hb hby od_121_26_99) rfl (flt (by decide)).2.1 (by decide) (by decide) kz) ?_
    have dmx : ∀ p, p < cc + 1 → own_set mk cc xi p = 0 ∨ own_set mk cc xi p = 1 := by
      intro p hp
      by_cases q : p = cc
      · subst q; rw [own_set_same]; exact hxi
      · rw [own_set_other _ _ q]; exact dm0 p (by omega)
    exact own_retV X1827 hx hret hlk (hb hby od_121_26_148) (by decide) (by decide) (by first | exact ⟨rfl, N1809, K1825, _, _, _, _, rfl, ⟨f1811, ⟨_, f1812⟩, f1813, ⟨_, f1814⟩, ⟨_, f1815⟩, f1816, f1817, f1818, f1826, ⟨_, f1819, p00, p10⟩, f1820, na0, (Nat.le_trans zl0 K1825.1), oa0, ob0, oc0, dmx, Or.inr ⟨mb, gb, omb, ogb, f1821, f1822, f1823, f1824⟩⟩⟩ | (rw [e1827]; exact ⟨rfl, N1809, K1825, _, _, _, _, rfl, ⟨f1811, ⟨_, f1812⟩, f1813, ⟨_, f1814⟩, ⟨_, f1815⟩, f1816, f1817, f1818, f1826, ⟨_, f1819, p00, p10⟩, f1820, na0, (Nat.le_trans zl0 K1825.1), oa0, ob0, oc0, dmx, Or.inr ⟨mb, gb, omb, ogb, f1821, f1822, f1823, f1824⟩⟩⟩))
theorem od_121_24_0 : decode prog_121_method_24_code 0 = .ok (.aload_n 0, 1) := by decide +kernel
theorem od_121_24_1 : decode prog_121_method_24_code 1 = .ok (.dup, 1) := by decide +kernel
theorem od_121_24_2 : decode prog_121_method_24_code 2 = .ok (.getfield 292, 3) := by decide +kernel
theorem od_121_24_5 : decode prog_121_method_24_code 5 = .ok (.iconst 1, 1) := by decide +kernel
theorem od_121_24_6 : decode prog_121_method_24_code 6 = .ok (.iadd, 1) := by decide +kernel
theorem od_121_24_7 : decode prog_121_method_24_code 7 = .ok (.putfield 292, 3) := by decide +kernel
theorem od_121_24_10 : decode prog_121_method_24_code 10 = .ok (.iload_n 1, 1) := by decide +kernel
theorem od_121_24_11 : decode prog_121_method_24_code 11 = .ok (.aload_n 0, 1) := by decide +kernel
theorem od_121_24_12 : decode prog_121_method_24_code 12 = .ok (.getfield 295, 3) := by decide +kernel
theorem od_121_24_15 : decode prog_121_method_24_code 15 = .ok (.if_icmp .ge 13, 3) := by decide +kernel
theorem od_121_24_18 : decode prog_121_method_24_code 18 = .ok (.aload_n 0, 1) := by decide +kernel
theorem od_121_24_19 : decode prog_121_method_24_code 19 = .ok (.dup, 1) := by decide +kernel
theorem od_121_24_20 : decode prog_121_method_24_code 20 = .ok (.getfield 298, 3) := by decide +kernel
theorem od_121_24_23 : decode prog_121_method_24_code 23 = .ok (.iconst 1, 1) := by decide +kernel
theorem od_121_24_24 : decode prog_121_method_24_code 24 = .ok (.iadd, 1) := by decide +kernel
theorem od_121_24_25 : decode prog_121_method_24_code 25 = .ok (.putfield 298, 3) := by decide +kernel
theorem od_121_24_28 : decode prog_121_method_24_code 28 = .ok (.iload_n 1, 1) := by decide +kernel
theorem od_121_24_29 : decode prog_121_method_24_code 29 = .ok (.istore_n 2, 1) := by decide +kernel
theorem od_121_24_30 : decode prog_121_method_24_code 30 = .ok (.aload_n 0, 1) := by decide +kernel
theorem od_121_24_31 : decode prog_121_method_24_code 31 = .ok (.getfield 13, 3) := by decide +kernel
theorem od_121_24_34 : decode prog_121_method_24_code 34 = .ok (.iload_n 2, 1) := by decide +kernel
theorem od_121_24_35 : decode prog_121_method_24_code 35 = .ok (.iaload, 1) := by decide +kernel
theorem od_121_24_36 : decode prog_121_method_24_code 36 = .ok (.ifCond .lt 13, 3) := by decide +kernel
theorem od_121_24_49 : decode prog_121_method_24_code 49 = .ok (.iload_n 2, 1) := by decide +kernel
theorem od_121_24_50 : decode prog_121_method_24_code 50 = .ok (.ifCond .ne 13, 3) := by decide +kernel
theorem od_121_24_53 : decode prog_121_method_24_code 53 = .ok (.aload_n 0, 1) := by decide +kernel
theorem od_121_24_54 : decode prog_121_method_24_code 54 = .ok (.dup, 1) := by decide +kernel
theorem od_121_24_55 : decode prog_121_method_24_code 55 = .ok (.getfield 301, 3) := by decide +kernel
theorem od_121_24_58 : decode prog_121_method_24_code 58 = .ok (.iconst 1, 1) := by decide +kernel
theorem od_121_24_59 : decode prog_121_method_24_code 59 = .ok (.iadd, 1) := by decide +kernel
theorem od_121_24_60 : decode prog_121_method_24_code 60 = .ok (.putfield 301, 3) := by decide +kernel
theorem od_121_24_63 : decode prog_121_method_24_code 63 = .ok (.iconst 0, 1) := by decide +kernel
theorem od_121_24_64 : decode prog_121_method_24_code 64 = .ok (.istore_n 3, 1) := by decide +kernel
theorem od_121_24_65 : decode prog_121_method_24_code 65 = .ok (.iload_n 1, 1) := by decide +kernel
theorem od_121_24_66 : decode prog_121_method_24_code 66 = .ok (.istore 4, 2) := by decide +kernel
theorem od_121_24_68 : decode prog_121_method_24_code 68 = .ok (.iload 4, 2) := by decide +kernel
theorem od_121_24_70 : decode prog_121_method_24_code 70 = .ok (.ifCond .lt 42, 3) := by decide +kernel
theorem od_121_24_73 : decode prog_121_method_24_code 73 = .ok (.aload_n 0, 1) := by decide +kernel
theorem od_121_24_74 : decode prog_121_method_24_code 74 = .ok (.getfield 32, 3) := by decide +kernel
theorem od_121_24_77 : decode prog_121_method_24_code 77 = .ok (.iload 4, 2) := by decide +kernel
theorem od_121_24_79 : decode prog_121_method_24_code 79 = .ok (.baload, 1) := by decide +kernel
theorem od_121_24_80 : decode prog_121_method_24_code 80 = .ok (.iconst 1, 1) := by decide +kernel
theorem od_121_24_81 : decode prog_121_method_24_code 81 = .ok (.iand, 1) := by decide +kernel
theorem od_121_24_82 : decode prog_121_method_24_code 82 = .ok (.ifCond .ne 30, 3) := by decide +kernel
theorem od_121_24_85 : decode prog_121_method_24_code 85 = .ok (.aload_n 0, 1) := by decide +kernel
theorem od_121_24_86 : decode prog_121_method_24_code 86 = .ok (.getfield 32, 3) := by decide +kernel
theorem od_121_24_89 : decode prog_121_method_24_code 89 = .ok (.iload 4, 2) := by decide +kernel
theorem od_121_24_91 : decode prog_121_method_24_code 91 = .ok (.dup2, 1) := by decide +kernel
theorem od_121_24_92 : decode prog_121_method_24_code 92 = .ok (.baload, 1) := by decide +kernel
theorem od_121_24_93 : decode prog_121_method_24_code 93 = .ok (.iconst 1, 1) := by decide +kernel
theorem od_121_24_94 : decode prog_121_method_24_code 94 = .ok (.ior, 1) := by decide +kernel
theorem od_121_24_95 : decode prog_121_method_24_code 95 = .ok (.i2b, 1) := by decide +kernel
theorem od_121_24_96 : decode prog_121_method_24_code 96 = .ok (.bastore, 1) := by decide +kernel
theorem od_121_24_97 : decode prog_121_method_24_code 97 = .ok (.iinc 3 1, 3) := by decide +kernel
theorem od_121_24_100 : decode prog_121_method_24_code 100 = .ok (.aload_n 0, 1) := by decide +kernel
theorem od_121_24_101 : decode prog_121_method_24_code 101 = .ok (.getfield 13, 3) := by decide +kernel
theorem od_121_24_104 : decode prog_121_method_24_code 104 = .ok (.iload 4, 2) := by decide +kernel
theorem od_121_24_106 : decode prog_121_method_24_code 106 = .ok (.iaload, 1) := by decide +kernel
theorem od_121_24_107 : decode prog_121_method_24_code 107 = .ok (.istore 4, 2) := by decide +kernel
theorem od_121_24_109 : decode prog_121_method_24_code 109 = .ok (.goto (-41), 3) := by decide +kernel
theorem od_121_24_112 : decode prog_121_method_24_code 112 = .ok (.aload_n 0, 1) := by decide +kernel
theorem od_121_24_113 : decode prog_121_method_24_code 113 = .ok (.getfield 100, 3) := by decide +kernel
theorem od_121_24_116 : decode prog_121_method_24_code 116 = .ok (.ifnull 14, 3) := by decide +kernel
theorem od_121_24_119 : decode prog_121_method_24_code 119 = .ok (.iload_n 3, 1) := by decide +kernel
theorem od_121_24_120 : decode prog_121_method_24_code 120 = .ok (.ifCond .le 10, 3) := by decide +kernel
theorem od_121_24_123 : decode prog_121_method_24_code 123 = .ok (.aload_n 0, 1) := by decide +kernel
theorem od_121_24_124 : decode prog_121_method_24_code 124 = .ok (.iload_n 1, 1) := by decide +kernel
theorem od_121_24_125 : decode prog_121_method_24_code 125 = .ok (.iload_n 3, 1) := by decide +kernel
theorem od_121_24_126 : decode prog_121_method_24_code 126 = .ok (.iconst 1, 1) := by decide +kernel
theorem own_pd4 : parseMethodDescriptor "(IIB)V" = some ⟨[.int, .int, .byte], none⟩ := by decide +kernel
theorem od_121_24_127 : decode prog_121_method_24_code 127 = .ok (.invokevirtual 304, 3) := by decide +kernel
theorem od_121_24_130 : decode prog_121_method_24_code 130 = .ok (.return_, 1) := by decide +kernel
set_option maxRecDepth 65536 in
set_option maxHeartbeats 40000000 in
theorem own_c_chg0 (l : Launch) (Z : State) (a0 : Array Value) (hw : ∀ d ∈ tables_1, d.before a0 Z = true) (lo : Nat) (a : Nat) (pb : Nat) (fb : Nat) (sb : Nat) (ff : Nat → Int32) (mk : Nat → Int32) (mf : Nat → Int32) (cc : Nat) (h0 : Heap) (n0 : Nat) (Z0 : n0 ≤ h0.size) (hcc : cc < 58) (D0 : own_D Z h0 n0 lo a pb fb sb ff mk mf cc) :
    own_Con l Z (⟨"com/example/holdfast/holdfast/dom/CompactDocument", "changed", "(I)V"⟩ : MethodName) prog_121_method_24_code 5 none [] ({ frames := 2, cells := 2, slots := 128, locals := 30 } : Room) #[(.ref a), (.int (0 : Int32))] h0 (fun v h L => v = none ∧ Fr n0 L ∧ own_KL fb lo h0 h ∧ ∃ f' k' m' c', (f', k', m', c') = own_chg 0 (ff, mk, mf, cc) ∧ c' ≤ cc + 1 ∧ own_D Z h n0 lo a pb fb sb f' k' m' c') := by
  refine own_enter (plainFor_of_name own_pn6) ?_
  intro p e s m below meth c s₁ X0 e0 hx hZ hby hml hown hnm hret hlk
  refine own_cast (g' := (mkF m 0 #[.val (.ref a), .val (.int (0 : Int32)), .unset, .unset, .unset] [])) (by first | (simp [entryFrame, mkF, argsToLocals, Value.category]; done) | rfl) ?_
  have N0 := Fr.nil n0
  have KL0 : own_KL fb lo h0 h0 := own_KL.refl h0
  obtain ⟨E0, ⟨vm0, Fm0⟩, Fb0, ⟨vr0, Fr0⟩, ⟨vt0, Ft0⟩, Fp0, Ff0, Fs0, Fc0, ⟨fp0, Ap0, p00, p10⟩, Af0, na0, zl0, oa0, ob0, oc0, dm0, Fk0⟩ := D0
  refine own_g (mkF m 1 #[.val (.ref a), .val (.int (0 : Int32)), .unset, .unset, .unset] [(.ref a)]) (fun _ kz => XS.aloadN X0.here hx rfl (hb hby od_121_24_0) rfl rfl kz) ?_
  refine own_g (mkF m 2 #[.val (.ref a), .val (.int (0 : Int32)), .unset, .unset, .unset] [(.ref a), (.ref a)]) (fun _ kz => XS.dup X0.here hx rfl (hb hby od_121_24_1) rfl rfl kz) ?_
  obtain ⟨T1828, X1828, e1828, st1828⟩ := getF X0 hx hZ hown (host := "") (Or.inl (own_w hw 186 rfl)) Via.refl e0 Fm0 (g := (mkF m 2 #[.val (.ref a), .val (.int (0 : Int32)), .unset, .unset, .unset] [(.ref a), (.ref a)])) rfl rfl (hb hby od_121_24_2)
  refine own_s st1828 ?_
  show own_E p e below _ (T1828.setTop (mkF m 5 #[.val (.ref a), .val (.int (0 : Int32)), .unset, .unset, .unset] [(.int vm0), (.ref a)]))
  refine own_g (mkF m 6 #[.val (.ref a), .val (.int (0 : Int32)), .unset, .unset, .unset] [(.int (1 : Int32)), (.int vm0), (.ref a)]) (fun _ kz => XS.iconst X1828.here hx rfl (hb hby od_121_24_5) kz) ?_
  refine own_g (mkF m 7 #[.val (.ref a), .val (.int (0 : Int32)), .unset, .unset, .unset] [(.int (vm0 + (1 : Int32))), (.ref a)]) (fun _ kz => XS.iadd X1828.here hx rfl (hb hby od_121_24_6) rfl kz) ?_
  obtain ⟨T1829, h1829, X1829, e1829, W1829, st1829⟩ := putF X1828 hx hZ hown (host := "") (Or.inl (own_w hw 186 rfl)) Via.refl e1828 Fm0 E0 (Or.inl (own_w hw 187 rfl)) (own_w hw 13 rfl) (ty := .int) (by decide) rfl rfl (g := (mkF m 7 #[.val (.ref a), .val (.int (0 : Int32)), .unset, .unset, .unset] [(.int (vm0 + (1 : Int32))), (.ref a)])) rfl rfl (hb hby od_121_24_7)
  have N1829 := Fr.snoc X1829 N0 na0
  have s1830 : n0 ≤ h1829.size := Nat.le_trans Z0 (Keep.of_wr W1829).1
  have f1831 := own_M.fld W1829 (slot_ne (Or.inl (own_w hw 198 rfl)) (Or.inl (own_w hw 187 rfl)) (by decide) (t := (.array .int)) (t' := .int) (by decide) (by decide)) (slot_ne (Or.inl (own_w hw 203 rfl)) (Or.inl (own_w hw 187 rfl)) (by decide) (t := (.array .byte)) (t' := .int) (by decide) (by decide)) (by omega) Fk0
  have f1832 := Exa.wr W1829 E0
  have f1833 := Fld.other W1829 Fb0 (Or.inr (slot_ne (Or.inl (own_w hw 169 rfl)) (Or.inl (own_w hw 187 rfl)) (by decide) (t := .int) (t' := .int) (by decide) (by decide)))
  have f1834 := Fld.other W1829 Fr0 (Or.inr (slot_ne (Or.inl (own_w hw 190 rfl)) (Or.inl (own_w hw 187 rfl)) (by decide) (t := .int) (t' := .int) (by decide) (by decide)))
  have f1835 := Fld.other W1829 Ft0 (Or.inr (slot_ne (Or.inl (own_w hw 192 rfl)) (Or.inl (own_w hw 187 rfl)) (by decide) (t := .int) (t' := .int) (by decide) (by decide)))
  have f1836 := Fld.other W1829 Fp0 (Or.inr (slot_ne (Or.inl (own_w hw 35 rfl)) (Or.inl (own_w hw 187 rfl)) (by decide) (t := (.array .int)) (t' := .int) (by decide) (by decide)))
  have f1837 := Fld.other W1829 Ff0 (Or.inr (slot_ne (Or.inl (own_w hw 47 rfl)) (Or.inl (own_w hw 187 rfl)) (by decide) (t := (.array .byte)) (t' := .int) (by decide) (by decide)))
  have f1838 := Fld.other W1829 Fs0 (Or.inr (slot_ne (Or.inl (own_w hw 159 rfl)) (Or.inl (own_w hw 187 rfl)) (by decide) (t := (.array .int)) (t' := .int) (by decide) (by decide)))
  have f1839 := Fld.other W1829 Fc0 (Or.inr (slot_ne (Or.inl (own_w hw 200 rfl)) (Or.inl (own_w hw 187 rfl)) (by decide) (t := .int) (t' := .int) (by decide) (by decide)))
  have f1840 := Ap0.other W1829 (by show @Ne Nat _ _; omega)
  have f1841 := Af0.other W1829 (by show @Ne Nat _ _; omega)
  have K1842 := own_KL.wr KL0 W1829 (by omega)
  have f1843 := Fld.same W1829 Fm0
  refine own_s st1829 ?_
  show own_E p e below _ (T1829.setTop (mkF m 10 #[.val (.ref a), .val (.int (0 : Int32)), .unset, .unset, .unset] []))
  refine own_g (mkF m 11 #[.val (.ref a), .val (.int (0 : Int32)), .unset, .unset, .unset] [(.int (0 : Int32))]) (fun _ kz => XS.iloadN X1829.here hx rfl (hb hby od_121_24_10) rfl kz) ?_
  refine own_g (mkF m 12 #[.val (.ref a), .val (.int (0 : Int32)), .unset, .unset, .unset] [(.ref a), (.int (0 : Int32))]) (fun _ kz => XS.aloadN X1829.here hx rfl (hb hby od_121_24_11) rfl rfl kz) ?_
  obtain ⟨T1844, X1844, e1844, st1844⟩ := getF X1829 hx hZ hown (host := "") (Or.inl (own_w hw 188 rfl)) Via.refl e1829 f1833 (g := (mkF m 12 #[.val (.ref a), .val (.int (0 : Int32)), .unset, .unset, .unset] [(.ref a), (.int (0 : Int32))])) rfl rfl (hb hby od_121_24_12)
  refine own_s st1844 ?_
  show own_E p e below _ (T1844.setTop (mkF m 15 #[.val (.ref a), .val (.int (0 : Int32)), .unset, .unset, .unset] [(.int (1 : Int32)), (.int (0 : Int32))]))
  refine own_g (mkF m 18 #[.val (.ref a), .val (.int (0 : Int32)), .unset, .unset, .unset] []) (fun _ kz => XS.icmpNo X1844.here hx rfl (hb hby od_121_24_15) rfl (tlt (by decide)).2.1 kz) ?_
  refine own_g (mkF m 19 #[.val (.ref a), .val (.int (0 : Int32)), .unset, .unset, .unset] [(.ref a)]) (fun _ kz => XS.aloadN X1844.here hx rfl (hb hby od_121_24_18) rfl rfl kz) ?_
  refine own_g (mkF m 20 #[.val (.ref a), .val (.int (0 : Int32)), .unset, .unset, .unset] [(.ref a), (.ref a)]) (fun _ kz => XS.dup X1844.here hx rfl (hb hby od_121_24_19) rfl rfl kz) ?_
  obtain ⟨T1845, X1845, e1845, st1845⟩ := getF X1844 hx hZ hown (host := "") (Or.inl (own_w hw 189 rfl)) Via.refl e1844 f1834 (g := (mkF m 20 #[.val (.ref a), .val (.int (0 : Int32)), .unset, .unset, .unset] [(.ref a), (.ref a)])) rfl rfl (hb hby od_121_24_20)
  refine own_s st1845 ?_
  show own_E p e below _ (T1845.setTop (mkF m 23 #[.val (.ref a), .val (.int (0 : Int32)), .unset, .unset, .unset] [(.int vr0), (.ref a)]))
  refine own_g (mkF m 24 #[.val (.ref a), .val (.int (0 : Int32)), .unset, .unset, .unset] [(.int (1 : Int32)), (.int vr0), (.ref a)]) (fun _ kz => XS.iconst X1845.here hx rfl (hb hby od_121_24_23) kz) ?_
  refine own_g (mkF m 25 #[.val (.ref a), .val (.int (0 : Int32)), .unset, .unset, .unset] [(.int (vr0 + (1 : Int32))), (.ref a)]) (fun _ kz => XS.iadd X1845.here hx rfl (hb hby od_121_24_24) rfl kz) ?_
  obtain ⟨T1846, h1846, X1846, e1846, W1846, st1846⟩ := putF X1845 hx hZ hown (host := "") (Or.inl (own_w hw 189 rfl)) Via.refl e1845 f1834 f1832 (Or.inl (own_w hw 190 rfl)) (own_w hw 13 rfl) (ty := .int) (by decide) rfl rfl (g := (mkF m 25 #[.val (.ref a), .val (.int (0 : Int32)), .unset, .unset, .unset] [(.int (vr0 + (1 : Int32))), (.ref a)])) rfl rfl (hb hby od_121_24_25)
  have N1846 := Fr.snoc X1846 N1829 na0
  have s1847 : n0 ≤ h1846.size := Nat.le_trans s1830 (Keep.of_wr W1846).1
  have f1848 := own_M.fld W1846 (slot_ne (Or.inl (own_w hw 198 rfl)) (Or.inl (own_w hw 190 rfl)) (by decide) (t := (.array .int)) (t' := .int) (by decide) (by decide)) (slot_ne (Or.inl (own_w hw 203 rfl)) (Or.inl (own_w hw 190 rfl)) (by decide) (t := (.array .byte)) (t' := .int) (by decide) (by decide)) (by omega) f1831
  have f1849 := Exa.wr W1846 f1832
  have f1850 := Fld.other W1846 f1843 (Or.inr (slot_ne (Or.inl (own_w hw 187 rfl)) (Or.inl (own_w hw 190 rfl)) (by decide) (t := .int) (t' := .int) (by decide) (by decide)))
  have f1851 := Fld.other W1846 f1833 (Or.inr (slot_ne (Or.inl (own_w hw 169 rfl)) (Or.inl (own_w hw 190 rfl)) (by decide) (t := .int) (t' := .int) (by decide) (by decide)))
  have f1852 := Fld.other W1846 f1835 (Or.inr (slot_ne (Or.inl (own_w hw 192 rfl)) (Or.inl (own_w hw 190 rfl)) (by decide) (t := .int) (t' := .int) (by decide) (by decide)))
  have f1853 := Fld.other W1846 f1836 (Or.inr (slot_ne (Or.inl (own_w hw 35 rfl)) (Or.inl (own_w hw 190 rfl)) (by decide) (t := (.array .int)) (t' := .int) (by decide) (by decide)))
  have f1854 := Fld.other W1846 f1837 (Or.inr (slot_ne (Or.inl (own_w hw 47 rfl)) (Or.inl (own_w hw 190 rfl)) (by decide) (t := (.array .byte)) (t' := .int) (by decide) (by decide)))
  have f1855 := Fld.other W1846 f1838 (Or.inr (slot_ne (Or.inl (own_w hw 159 rfl)) (Or.inl (own_w hw 190 rfl)) (by decide) (t := (.array .int)) (t' := .int) (by decide) (by decide)))
  have f1856 := Fld.other W1846 f1839 (Or.inr (slot_ne (Or.inl (own_w hw 200 rfl)) (Or.inl (own_w hw 190 rfl)) (by decide) (t := .int) (t' := .int) (by decide) (by decide)))
  have f1857 := f1840.other W1846 (by show @Ne Nat _ _; omega)
  have f1858 := f1841.other W1846 (by show @Ne Nat _ _; omega)
  have K1859 := own_KL.wr K1842 W1846 (by omega)
  have f1860 := Fld.same W1846 f1834
  refine own_s st1846 ?_
  show own_E p e below _ (T1846.setTop (mkF m 28 #[.val (.ref a), .val (.int (0 : Int32)), .unset, .unset, .unset] []))
  refine own_g (mkF m 29 #[.val (.ref a), .val (.int (0 : Int32)), .unset, .unset, .unset] [(.int (0 : Int32))]) (fun _ kz => XS.iloadN X1846.here hx rfl (hb hby od_121_24_28) rfl kz) ?_
  refine own_g (mkF m 30 #[.val (.ref a), .val (.int (0 : Int32)), .val (.int (0 : Int32)), .unset, .unset] []) (fun _ kz => XS.istoreN X1846.here hx rfl (hb hby od_121_24_29) rfl (l' := #[.val (.ref a), .val (.int (0 : Int32)), .val (.int (0 : Int32)), .unset, .unset]) rfl kz) ?_
  refine own_g (mkF m 31 #[.val (.ref a), .val (.int (0 : Int32)), .val (.int (0 : Int32)), .unset, .unset] [(.ref a)]) (fun _ kz => XS.aloadN X1846.here hx rfl (hb hby od_121_24_30) rfl rfl kz) ?_
  obtain ⟨T1861, X1861, e1861, st1861⟩ := getF X1846 hx hZ hown (host := "") (Or.inl (own_w hw 34 rfl)) Via.refl e1846 f1853 (g := (mkF m 31 #[.val (.ref a), .val (.int (0 : Int32)), .val (.int (0 : Int32)), .unset, .unset] [(.ref a)])) rfl rfl (hb hby od_121_24_31)
  refine own_s st1861 ?_
  show own_E p e below _ (T1861.setTop (mkF m 34 #[.val (.ref a), .val (.int (0 : Int32)), .val (.int (0 : Int32)), .unset, .unset] [(.ref pb)]))
  refine own_g (mkF m 35 #[.val (.ref a), .val (.int (0 : Int32)), .val (.int (0 : Int32)), .unset, .unset] [(.int (0 : Int32)), (.ref pb)]) (fun _ kz => XS.iloadN X1861.here hx rfl (hb hby od_121_24_34) rfl kz) ?_
  refine own_ildI X1861 hx hZ e1861 f1857 (hb hby od_121_24_35) (by decide) (i := 0) rfl (by decide) (x := (-1 : Int32)) p00 ?_
  show own_E p e below _ (T1861.setTop (mkF m 36 #[.val (.ref a), .val (.int (0 : Int32)), .val (.int (0 : Int32)), .unset, .unset] [(.int (-1 : Int32))]))
  refine own_g (mkF m 49 #[.val (.ref a), .val (.int (0 : Int32)), .val (.int (0 : Int32)), .unset, .unset] []) (fun _ kz => XS.ifYes X1861.here hx rfl (pc0 := 36) (pc' := 49) rfl (hb hby od_121_24_36) rfl ((if0 _ _).trans (tlt (by decide)).1) (by decide) (by decide) kz) ?_
  refine own_g (mkF m 50 #[.val (.ref a), .val (.int (0 : Int32)), .val (.int (0 : Int32)), .unset, .unset] [(.int (0 : Int32))]) (fun _ kz => XS.iloadN X1861.here hx rfl (hb hby od_121_24_49) rfl kz) ?_
  refine own_g (mkF m 53 #[.val (.ref a), .val (.int (0 : Int32)), .val (.int (0 : Int32)), .unset, .unset] []) (fun _ kz => XS.ifNo X1861.here hx rfl (hb hby od_121_24_50) rfl ((if0 _ _).trans (teq (by decide)).2) kz) ?_
  refine own_g (mkF m 54 #[.val (.ref a), .val (.int (0 : Int32)), .val (.int (0 : Int32)), .unset, .unset] [(.ref a)]) (fun _ kz => XS.aloadN X1861.here hx rfl (hb hby od_121_24_53) rfl rfl kz) ?_
  refine own_g (mkF m 55 #[.val (.ref a), .val (.int (0 : Int32)), .val (.int (0 : Int32)), .unset, .unset] [(.ref a), (.ref a)]) (fun _ kz => XS.dup X1861.here hx rfl (hb hby od_121_24_54) rfl rfl kz) ?_
  obtain ⟨T1862, X1862, e1862, st1862⟩ := getF X1861 hx hZ hown (host := "") (Or.inl (own_w hw 191 rfl)) Via.refl e1861 f1852 (g := (mkF m 55 #[.val (.ref a), .val (.int (0 : Int32)), .val (.int (0 : Int32)), .unset, .unset] [(.ref a), (.ref a)])) rfl rfl (hb hby od_121_24_55)
  refine own_s st1862 ?_
  show own_E p e below _ (T1862.setTop (mkF m 58 #[.val (.ref a), .val (.int (0 : Int32)), .val (.int (0 : Int32)), .unset, .unset] [(.int vt0), (.ref a)]))
  refine own_g (mkF m 59 #[.val (.ref a), .val (.int (0 : Int32)), .val (.int (0 : Int32)), .unset, .unset] [(.int (1 : Int32)), (.int vt0), (.ref a)]) (fun _ kz => XS.iconst X1862.here hx rfl (hb hby od_121_24_58) kz) ?_
  refine own_g (mkF m 60 #[.val (.ref a), .val (.int (0 : Int32)), .val (.int (0 : Int32)), .unset, .unset] [(.int (vt0 + (1 : Int32))), (.ref a)]) (fun _ kz => XS.iadd X1862.here hx rfl (hb hby od_121_24_59) rfl kz) ?_
  obtain ⟨T1863, h1863, X1863, e1863, W1863, st1863⟩ := putF X1862 hx hZ hown (host := "") (Or.inl (own_w hw 191 rfl)) Via.refl e1862 f1852 f1849 (Or.inl (own_w hw 192 rfl)) (own_w hw 13 rfl) (ty := .int) (by decide) rfl rfl (g := (mkF m 60 #[.val (.ref a), .val (.int (0 : Int32)), .val (.int (0 : Int32)), .unset, .unset] [(.int (vt0 + (1 : Int32))), (.ref a)])) rfl rfl (hb hby od_121_24_60)
  have N1863 := Fr.snoc X1863 N1846 na0
  have s1864 : n0 ≤ h1863.size := Nat.le_trans s1847 (Keep.of_wr W1863).1
  have f1865 := own_M.fld W1863 (slot_ne (Or.inl (own_w hw 198 rfl)) (Or.inl (own_w hw 192 rfl)) (by decide) (t := (.array .int)) (t' := .int) (by decide) (by decide)) (slot_ne (Or.inl (own_w hw 203 rfl)) (Or.inl (own_w hw 192 rfl)) (by decide) (t := (.array .byte)) (t' := .int) (by decide) (by decide)) (by omega) f1848
  have f1866 := Exa.wr W1863 f1849
  have f1867 := Fld.other W1863 f1850 (Or.inr (slot_ne (Or.inl (own_w hw 187 rfl)) (Or.inl (own_w hw 192 rfl)) (by decide) (t := .int) (t' := .int) (by decide) (by decide)))
  have f1868 := Fld.other W1863 f1851 (Or.inr (slot_ne (Or.inl (own_w hw 169 rfl)) (Or.inl (own_w hw 192 rfl)) (by decide) (t := .int) (t' := .int) (by decide) (by decide)))
  have f1869 := Fld.other W1863 f1860 (Or.inr (slot_ne (Or.inl (own_w hw 190 rfl)) (Or.inl (own_w hw 192 rfl)) (by decide) (t := .int) (t' := .int) (by decide) (by decide)))
  have f1870 := Fld.other W1863 f1853 (Or.inr (slot_ne (Or.inl (own_w hw 35 rfl)) (Or.inl (own_w hw 192 rfl)) (by decide) (t := (.array .int)) (t' := .int) (by decide) (by decide)))
  have f1871 := Fld.other W1863 f1854 (Or.inr (slot_ne (Or.inl (own_w hw 47 rfl)) (Or.inl (own_w hw 192 rfl)) (by decide) (t := (.array .byte)) (t' := .int) (by decide) (by decide)))
  have f1872 := Fld.other W1863 f1855 (Or.inr (slot_ne (Or.inl (own_w hw 159 rfl)) (Or.inl (own_w hw 192 rfl)) (by decide) (t := (.array .int)) (t' := .int) (by decide) (by decide)))
  have f1873 := Fld.other W1863 f1856 (Or.inr (slot_ne (Or.inl (own_w hw 200 rfl)) (Or.inl (own_w hw 192 rfl)) (by decide) (t := .int) (t' := .int) (by decide) (by decide)))
  have f1874 := f1857.other W1863 (by show @Ne Nat _ _; omega)
  have f1875 := f1858.other W1863 (by show @Ne Nat _ _; omega)
  have K1876 := own_KL.wr K1859 W1863 (by omega)
  have f1877 := Fld.same W1863 f1852
  refine own_s st1863 ?_
  show own_E p e below _ (T1863.setTop (mkF m 63 #[.val (.ref a), .val (.int (0 : Int32)), .val (.int (0 : Int32)), .unset, .unset] []))
  refine own_g (mkF m 64 #[.val (.ref a), .val (.int (0 : Int32)), .val (.int (0 : Int32)), .unset, .unset] [(.int (0 : Int32))]) (fun _ kz => XS.iconst X1863.here hx rfl (hb hby od_121_24_63) kz) ?_
  refine own_g (mkF m 65 #[.val (.ref a), .val (.int (0 : Int32)), .val (.int (0 : Int32)), .val (.int (0 : Int32)), .unset] []) (fun _ kz => XS.istoreN X1863.here hx rfl (hb hby od_121_24_64) rfl (l' := #[.val (.ref a), .val (.int (0 : Int32)), .val (.int (0 : Int32)), .val (.int (0 : Int32)), .unset]) rfl kz) ?_
  refine own_g (mkF m 66 #[.val (.ref a), .val (.int (0 : Int32)), .val (.int (0 : Int32)), .val (.int (0 : Int32)), .unset] [(.int (0 : Int32))]) (fun _ kz => XS.iloadN X1863.here hx rfl (hb hby od_121_24_65) rfl kz) ?_
  refine own_g (mkF m 68 #[.val (.ref a), .val (.int (0 : Int32)), .val (.int (0 : Int32)), .val (.int (0 : Int32)), .val (.int (0 : Int32))] []) (fun _ kz => XS.istore X1863.here hx rfl (hb hby od_121_24_66) rfl (l' := #[.val (.ref a), .val (.int (0 : Int32)), .val (.int (0 : Int32)), .val (.int (0 : Int32)), .val (.int (0 : Int32))]) rfl kz) ?_
  refine own_g (mkF m 70 #[.val (.ref a), .val (.int (0 : Int32)), .val (.int (0 : Int32)), .val (.int (0 : Int32)), .val (.int (0 : Int32))] [(.int (0 : Int32))]) (fun _ kz => XS.iload X1863.here hx rfl (hb hby od_121_24_68) rfl kz) ?_
  refine own_g (mkF m 73 #[.val (.ref a), .val (.int (0 : Int32)), .val (.int (0 : Int32)), .val (.int (0 : Int32)), .val (.int (0 : Int32))] []) (fun _ kz => XS.ifNo X1863.here hx rfl (hb hby od_121_24_70) rfl ((if0 _ _).trans (flt (by decide)).1) kz) ?_
  refine own_g (mkF m 74 #[.val (.ref a), .val (.int (0 : Int32)), .val (.int (0 : Int32)), .val (.int (0 : Int32)), .val (.int (0 : Int32))] [(.ref a)]) (fun _ kz => XS.aloadN X1863.here hx rfl (hb hby od_121_24_73) rfl rfl kz) ?_
  obtain ⟨T1878, X1878, e1878, st1878⟩ := getF X1863 hx hZ hown (host := "") (Or.inl (own_w hw 46 rfl)) Via.refl e1863 f1871 (g := (mkF m 74 #[.val (.ref a), .val (.int (0 : Int32)), .val (.int (0 : Int32)), .val (.int (0 : Int32)), .val (.int (0 : Int32))] [(.ref a)])) rfl rfl (hb hby od_121_24_74)
  refine own_s st1878 ?_
  show own_E p e below _ (T1878.setTop (mkF m 77 #[.val (.ref a), .val (.int (0 : Int32)), .val (.int (0 : Int32)), .val (.int (0 : Int32)), .val (.int (0 : Int32))] [(.ref fb)]))
  refine own_g (mkF m 79 #[.val (.ref a), .val (.int (0 : Int32)), .val (.int (0 : Int32)), .val (.int (0 : Int32)), .val (.int (0 : Int32))] [(.int (0 : Int32)), (.ref fb)]) (fun _ kz => XS.iload X1878.here hx rfl (hb hby od_121_24_77) rfl kz) ?_
  refine own_ildB X1878 hx hZ e1878 f1875 (hb hby od_121_24_79) (by decide) (i := 0) rfl (by decide) (x := (ff 0)) rfl ?_
  show own_E p e below _ (T1878.setTop (mkF m 80 #[.val (.ref a), .val (.int (0 : Int32)), .val (.int (0 : Int32)), .val (.int (0 : Int32)), .val (.int (0 : Int32))] [(.int (ff 0))]))
  refine own_g (mkF m 81 #[.val (.ref a), .val (.int (0 : Int32)), .val (.int (0 : Int32)), .val (.int (0 : Int32)), .val (.int (0 : Int32))] [(.int (1 : Int32)), (.int (ff 0))]) (fun _ kz => XS.iconst X1878.here hx rfl (hb hby od_121_24_80) kz) ?_
  refine own_g (mkF m 82 #[.val (.ref a), .val (.int (0 : Int32)), .val (.int (0 : Int32)), .val (.int (0 : Int32)), .val (.int (0 : Int32))] [(.int ((ff 0) &&& (1 : Int32)))]) (fun _ kz => XS.iand X1878.here hx rfl (hb hby od_121_24_81) rfl kz) ?_
  by_cases hf : ((ff 0) &&& (1 : Int32)) = (0 : Int32)
  · refine own_g (mkF m 85 #[.val (.ref a), .val (.int (0 : Int32)), .val (.int (0 : Int32)), .val (.int (0 : Int32)), .val (.int (0 : Int32))] []) (fun _ kz => XS.ifNo X1878.here hx rfl (hb hby od_121_24_82) rfl ((if0 _ _).trans (teq hf).2) kz) ?_
    refine own_g (mkF m 86 #[.val (.ref a), .val (.int (0 : Int32)), .val (.int (0 : Int32)), .val (.int (0 : Int32)), .val (.int (0 : Int32))] [(.ref a)]) (fun _ kz => XS.aloadN X1878.here hx rfl (hb hby od_121_24_85) rfl rfl kz) ?_
    obtain ⟨T1879, X1879, e1879, st1879⟩ := getF X1878 hx hZ hown (host := "") (Or.inl (own_w hw 46 rfl)) Via.refl e1878 f1871 (g := (mkF m 86 #[.val (.ref a), .val (.int (0 : Int32)), .val (.int (0 : Int32)), .val (.int (0 : Int32)), .val (.int (0 : Int32))] [(.ref a)])) rfl rfl (hb hby od_121_24_86)
    refine own_s st1879 ?_
    show own_E p e below _ (T1879.setTop (mkF m 89 #[.val (.ref a), .val (.int (0 : Int32)), .val (.int (0 : Int32)), .val (.int (0 : Int32)), .val (.int (0 : Int32))] [(.ref fb)]))
    refine own_g (mkF m 91 #[.val (.ref a), .val (.int (0 : Int32)), .val (.int (0 : Int32)), .val (.int (0 : Int32)), .val (.int (0 : Int32))] [(.int (0 : Int32)), (.ref fb)]) (fun _ kz => XS.iload X1879.here hx rfl (hb hby od_121_24_89) rfl kz) ?_
    refine own_g (mkF m 92 #[.val (.ref a), .val (.int (0 : Int32)), .val (.int (0 : Int32)), .val (.int (0 : Int32)), .val (.int (0 : Int32))] [(.int (0 : Int32)), (.ref fb), (.int (0 : Int32)), (.ref fb)]) (fun _ kz => XT.dup2 X1879.here hx rfl (hb hby od_121_24_91) rfl rfl rfl kz) ?_
    refine own_ildB X1879 hx hZ e1879 f1875 (hb hby od_121_24_92) (by decide) (i := 0) rfl (by decide) (x := (ff 0)) rfl ?_
    show own_E p e below _ (T1879.setTop (mkF m 93 #[.val (.ref a), .val (.int (0 : Int32)), .val (.int (0 : Int32)), .val (.int (0 : Int32)), .val (.int (0 : Int32))] [(.int (ff 0)), (.int (0 : Int32)), (.ref fb)]))
    refine own_g (mkF m 94 #[.val (.ref a), .val (.int (0 : Int32)), .val (.int (0 : Int32)), .val (.int (0 : Int32)), .val (.int (0 : Int32))] [(.int (1 : Int32)), (.int (ff 0)), (.int (0 : Int32)), (.ref fb)]) (fun _ kz => XS.iconst X1879.here hx rfl (hb hby od_121_24_93) kz) ?_
    refine own_g (mkF m 95 #[.val (.ref a), .val (.int (0 : Int32)), .val (.int (0 : Int32)), .val (.int (0 : Int32)), .val (.int (0 : Int32))] [(.int ((ff 0) ||| (1 : Int32))), (.int (0 : Int32)), (.ref fb)]) (fun _ kz => XS.ior X1879.here hx rfl (hb hby od_121_24_94) rfl kz) ?_
    refine own_g (mkF m 96 #[.val (.ref a), .val (.int (0 : Int32)), .val (.int (0 : Int32)), .val (.int (0 : Int32)), .val (.int (0 : Int32))] [(.int ((ff 0) ||| (1 : Int32)).toInt8.toInt32), (.int (0 : Int32)), (.ref fb)]) (fun _ kz => XS.i2b X1879.here hx rfl (hb hby od_121_24_95) rfl kz) ?_
    refine own_stB X1879 hx hZ e1879 f1875 (hb hby od_121_24_96) (by decide) (i := 0) rfl (by decide) ?_
    intro T1880 h1880 X1880 e1880 W1880 A1880
    have N1880 := Fr.snoc X1880 N1863 (by show @LE.le Nat _ _ _; omega)
    have s1881 : n0 ≤ h1880.size := Nat.le_trans s1864 (Keep.of_wr W1880).1
    have f1882 := own_M.arr W1880 (by show @Ne Nat _ _; omega) (by omega) f1865
    have f1883 := Exa.wr W1880 f1866
    have f1884 := Fld.other W1880 f1867 (Or.inl (by show @Ne Nat _ _; omega))
    have f1885 := Fld.other W1880 f1868 (Or.inl (by show @Ne Nat _ _; omega))
    have f1886 := Fld.other W1880 f1869 (Or.inl (by show @Ne Nat _ _; omega))
    have f1887 := Fld.other W1880 f1877 (Or.inl (by show @Ne Nat _ _; omega))
    have f1888 := Fld.other W1880 f1870 (Or.inl (by show @Ne Nat _ _; omega))
    have f1889 := Fld.other W1880 f1871 (Or.inl (by show @Ne Nat _ _; omega))
    have f1890 := Fld.other W1880 f1872 (Or.inl (by show @Ne Nat _ _; omega))
    have f1891 := Fld.other W1880 f1873 (Or.inl (by show @Ne Nat _ _; omega))
    have f1892 := f1874.other W1880 (by show @Ne Nat _ _; omega)
    have K1893 := own_KL.wr K1876 W1880 (by omega)
    show own_E p e below _ (T1880.setTop (mkF m 97 #[.val (.ref a), .val (.int (0 : Int32)), .val (.int (0 : Int32)), .val (.int (0 : Int32)), .val (.int (0 : Int32))] []))
    refine own_g (mkF m 100 #[.val (.ref a), .val (.int (0 : Int32)), .val (.int (0 : Int32)), .val (.int ((0 : Int32) + (1 : Int32))), .val (.int (0 : Int32))] []) (fun _ kz => XS.iinc X1880.here hx rfl (hb hby od_121_24_97) rfl (l' := #[.val (.ref a), .val (.int (0 : Int32)), .val (.int (0 : Int32)), .val (.int ((0 : Int32) + (1 : Int32))), .val (.int (0 : Int32))]) rfl kz) ?_
    rw [show ((0 : Int32) + (1 : Int32)) = (1 : Int32) from by decide]
    show own_E p e below _ (T1880.setTop (mkF m 100 #[.val (.ref a), .val (.int (0 : Int32)), .val (.int (0 : Int32)), .val (.int (1 : Int32)), .val (.int (0 : Int32))] []))
    refine own_g (mkF m 101 #[.val (.ref a), .val (.int (0 : Int32)), .val (.int (0 : Int32)), .val (.int (1 : Int32)), .val (.int (0 : Int32))] [(.ref a)]) (fun _ kz => XS.aloadN X1880.here hx rfl (hb hby od_121_24_100) rfl rfl kz) ?_
    obtain ⟨T1894, X1894, e1894, st1894⟩ := getF X1880 hx hZ hown (host := "") (Or.inl (own_w hw 34 rfl)) Via.refl e1880 f1888 (g := (mkF m 101 #[.val (.ref a), .val (.int (0 : Int32)), .val (.int (0 : Int32)), .val (.int (1 : Int32)), .val (.int (0 : Int32))] [(.ref a)])) rfl rfl (hb hby od_121_24_101)
    refine own_s st1894 ?_
    show own_E p e below _ (T1894.setTop (mkF m 104 #[.val (.ref a), .val (.int (0 : Int32)), .val (.int (0 : Int32)), .val (.int (1 : Int32)), .val (.int (0 : Int32))] [(.ref pb)]))
    refine own_g (mkF m 106 #[.val (.ref a), .val (.int (0 : Int32)), .val (.int (0 : Int32)), .val (.int (1 : Int32)), .val (.int (0 : Int32))] [(.int (0 : Int32)), (.ref pb)]) (fun _ kz => XS.iload X1894.here hx rfl (hb hby od_121_24_104) rfl kz) ?_
    refine own_ildI X1894 hx hZ e1894 f1892 (hb hby od_121_24_106) (by decide) (i := 0) rfl (by decide) (x := (-1 : Int32)) p00 ?_
    show own_E p e below _ (T1894.setTop (mkF m 107 #[.val (.ref a), .val (.int (0 : Int32)), .val (.int (0 : Int32)), .val (.int (1 : Int32)), .val (.int (0 : Int32))] [(.int (-1 : Int32))]))
    refine own_g (mkF m 109 #[.val (.ref a), .val (.int (0 : Int32)), .val (.int (0 : Int32)), .val (.int (1 : Int32)), .val (.int (-1 : Int32))] []) (fun _ kz => XS.istore X1894.here hx rfl (hb hby od_121_24_107) rfl (l' := #[.val (.ref a), .val (.int (0 : Int32)), .val (.int (0 : Int32)), .val (.int (1 : Int32)), .val (.int (-1 : Int32))]) rfl kz) ?_
    refine own_g (mkF m 68 #[.val (.ref a), .val (.int (0 : Int32)), .val (.int (0 : Int32)), .val (.int (1 : Int32)), .val (.int (-1 : Int32))] []) (fun _ kz => XS.goto X1894.here hx rfl (pc0 := 109) (pc' := 68) rfl (hb hby od_121_24_109) (by decide) (by decide) kz) ?_
    refine own_g (mkF m 70 #[.val (.ref a), .val (.int (0 : Int32)), .val (.int (0 : Int32)), .val (.int (1 : Int32)), .val (.int (-1 : Int32))] [(.int (-1 : Int32))]) (fun _ kz => XS.iload X1894.here hx rfl (hb hby od_121_24_68) rfl kz) ?_
    refine own_g (mkF m 112 #[.val (.ref a), .val (.int (0 : Int32)), .val (.int (0 : Int32)), .val (.int (1 : Int32)), .val (.int (-1 : Int32))] []) (fun _ kz => XS.ifYes X1894.here hx rfl (pc0 := 70) (pc' := 112) rfl (hb hby od_121_24_70) rfl ((if0 _ _).trans (tlt (by decide)).1) (by decide) (by decide) kz) ?_
    refine own_g (mkF m 113 #[.val (.ref a), .val (.int (0 : Int32)), .val (.int (0 : Int32)), .val (.int (1 : Int32)), .val (.int (-1 : Int32))] [(.ref a)]) (fun _ kz => XS.aloadN X1894.here hx rfl (hb hby od_121_24_112) rfl rfl kz) ?_
    obtain ⟨T1895, X1895, e1895, st1895⟩ := getF X1894 hx hZ hown (host := "") (Or.inl (own_w hw 175 rfl)) Via.refl e1894 f1890 (g := (mkF m 113 #[.val (.ref a), .val (.int (0 : Int32)), .val (.int (0 : Int32)), .val (.int (1 : Int32)), .val (.int (-1 : Int32))] [(.ref a)])) rfl rfl (hb hby od_121_24_113)
    refine own_s st1895 ?_
    show own_E p e below _ (T1895.setTop (mkF m 116 #[.val (.ref a), .val (.int (0 : Int32)), .val (.int (0 : Int32)), .val (.int (1 : Int32)), .val (.int (-1 : Int32))] [(.ref sb)]))
    refine own_g (mkF m 119 #[.val (.ref a), .val (.int (0 : Int32)), .val (.int (0 : Int32)), .val (.int (1 : Int32)), .val (.int (-1 : Int32))] []) (fun _ kz => XS.ifnullNo X1895.here hx rfl (hb hby od_121_24_116) rfl kz) ?_
    refine own_g (mkF m 120 #[.val (.ref a), .val (.int (0 : Int32)), .val (.int (0 : Int32)), .val (.int (1 : Int32)), .val (.int (-1 : Int32))] [(.int (1 : Int32))]) (fun _ kz => XS.iloadN X1895.here hx rfl (hb hby od_121_24_119) rfl kz) ?_
    refine own_g (mkF m 123 #[.val (.ref a), .val (.int (0 : Int32)), .val (.int (0 : Int32)), .val (.int (1 : Int32)), .val (.int (-1 : Int32))] []) (fun _ kz => XS.ifNo X1895.here hx rfl (hb hby od_121_24_120) rfl ((if0 _ _).trans (tlt (by decide)).2.2.2) kz) ?_
    refine own_g (mkF m 124 #[.val (.ref a), .val (.int (0 : Int32)), .val (.int (0 : Int32)), .val (.int (1 : Int32)), .val (.int (-1 : Int32))] [(.ref a)]) (fun _ kz => XS.aloadN X1895.here hx rfl (hb hby od_121_24_123) rfl rfl kz) ?_
    refine own_g (mkF m 125 #[.val (.ref a), .val (.int (0 : Int32)), .val (.int (0 : Int32)), .val (.int (1 : Int32)), .val (.int (-1 : Int32))] [(.int (0 : Int32)), (.ref a)]) (fun _ kz => XS.iloadN X1895.here hx rfl (hb hby od_121_24_124) rfl kz) ?_
    refine own_g (mkF m 126 #[.val (.ref a), .val (.int (0 : Int32)), .val (.int (0 : Int32)), .val (.int (1 : Int32)), .val (.int (-1 : Int32))] [(.int (1 : Int32)), (.int (0 : Int32)), (.ref a)]) (fun _ kz => XS.iloadN X1895.here hx rfl (hb hby od_121_24_125) rfl kz) ?_
    refine own_g (mkF m 127 #[.val (.ref a), .val (.int (0 : Int32)), .val (.int (0 : Int32)), .val (.int (1 : Int32)), .val (.int (-1 : Int32))] [(.int (1 : Int32)), (.int (1 : Int32)), (.int (0 : Int32)), (.ref a)]) (fun _ kz => XS.iconst X1895.here hx rfl (hb hby od_121_24_126) kz) ?_
    have Dz : own_D Z h1880 n0 lo a pb fb sb (own_or ff 0 1) mk mf cc := ⟨f1883, ⟨_, f1884⟩, f1885, ⟨_, f1886⟩, ⟨_, f1887⟩, f1888, f1889, f1890, f1891, ⟨_, f1892, p00, p10⟩, A1880, na0, (Nat.le_trans zl0 K1893.1), oa0, ob0, oc0, dm0, f1882⟩
    refine own_callP (rest := []) (a := a) (as := [(.int (0 : Int32)), (.int (1 : Int32)), (.int (1 : Int32))]) X1895 hx hZ hown e1895 (own_c_km l Z a0 hw lo a pb fb sb (own_or ff 0 1) mk mf cc 0 1 h1880 n0 s1881 (Or.inl rfl) (by omega) Dz) f1883 (own_w hw 193 rfl) (own_w hw 13 rfl) (own_w hw 195 rfl) (own_w hw 194 rfl) (own_w hw 14 rfl) (own_w hw 196 rfl) (by decide) own_pd4 rfl (by rw [hml]; rfl) rfl (hb hby od_121_24_127) 0 (by show 2 * 0 + _ ≤ _; exact Nat.le_of_eq rfl) (by decide) (by decide) (by decide) (by decide) ?_
    rintro _ T1896 L1896 X1896 ⟨rfl, Nq1896, KL1896, f1896', k1896', m1896', c1896', eq1896, D1896⟩
    have N1896 := Fr.app N1880 Nq1896
    have zq1896 : n0 ≤ T1896.heap.size := Nat.le_trans s1881 KL1896.1
    have KX1896 := own_KL.trans K1893 KL1896
    show own_E p e below _ (T1896.setTop (mkF m 130 #[.val (.ref a), .val (.int (0 : Int32)), .val (.int (0 : Int32)), .val (.int (1 : Int32)), .val (.int (-1 : Int32))] []))
    exact own_retV X1896 hx hret hlk (hb hby od_121_24_130) (by decide) (by decide) ((⟨rfl, N1896, KX1896, f1896', k1896', m1896', c1896', by rw [eq1896, own_chg]; exact (if_pos hf).symm, by injection eq1896 with _ q; injection q with _ q; injection q with _ q; exact Nat.le_of_eq q, D1896⟩))
  · refine own_g (mkF m 112 #[.val (.ref a), .val (.int (0 : Int32)), .val (.int (0 : Int32)), .val (.int (0 : Int32)), .val (.int (0 : Int32))] []) (fun _ kz => XS.ifYes X1878.here hx rfl (pc0 := 82) (pc' := 112) rfl (hb hby od_121_24_82) rfl ((if0 _ _).trans (feq hf).2) (by decide) (by decide) kz) ?_
    refine own_g (mkF m 113 #[.val (.ref a), .val (.int (0 : Int32)), .val (.int (0 : Int32)), .val (.int (0 : Int32)), .val (.int (0 : Int32))] [(.ref a)]) (fun _ kz => XS.aloadN X1878.here hx rfl (hb hby od_121_24_112) rfl rfl kz) ?_
    obtain ⟨T1897, X1897, e1897, st1897⟩ := getF X1878 hx hZ hown (host := "") (Or.inl (own_w hw 175 rfl)) Via.refl e1878 f1872 (g := (mkF m 113 #[.val (.ref a), .val (.int (0 : Int32)), .val (.int (0 : Int32)), .val (.int (0 : Int32)), .val (.int (0 : Int32))] [(.ref a)])) rfl rfl (hb hby od_121_24_113)
    refine own_s st1897 ?_
    show own_E p e below _ (T1897.setTop (mkF m 116 #[.val (.ref a), .val (.int (0 : Int32)), .val (.int (0 : Int32)), .val (.int (0 : Int32)), .val (.int (0 : Int32))] [(.ref sb)]))
    refine own_g (mkF m 119 #[.val (.ref a), .val (.int (0 : Int32)), .val (.int (0 : Int32)), .val (.int (0 : Int32)), .val (.int (0 : Int32))] []) (fun _ kz => XS.ifnullNo X1897.here hx rfl (hb hby od_121_24_116) rfl kz) ?_
    refine own_g (mkF m 120 #[.val (.ref a), .val (.int (0 : Int32)), .val (.int (0 : Int32)), .val (.int (0 : Int32)), .val (.int (0 : Int32))] [(.int (0 : Int32))]) (fun _ kz => XS.iloadN X1897.here hx rfl (hb hby od_121_24_119) rfl kz) ?_
    refine own_g (mkF m 130 #[.val (.ref a), .val (.int (0 : Int32)), .val (.int (0 : Int32)), .val (.int (0 : Int32)), .val (.int (0 : Int32))] []) (fun _ kz => XS.ifYes X1897.here hx rfl (pc0 := 120) (pc' := 130) rfl (hb hby od_121_24_120) rfl ((if0 _ _).trans (flt (by decide)).2.2.2) (by decide) (by decide) kz) ?_
    exact own_retV X1897 hx hret hlk (hb hby od_121_24_130) (by decide) (by decide) (by first | exact ⟨rfl, N1863, K1876, ff, mk, mf, cc, by rw [own_chg]; exact (if_neg hf).symm, by omega, ⟨f1866, ⟨_, f1867⟩, f1868, ⟨_, f1869⟩, ⟨_, f1877⟩, f1870, f1871, f1872, f1873, ⟨_, f1874, p00, p10⟩, f1875, na0, (Nat.le_trans zl0 K1876.1), oa0, ob0, oc0, dm0, f1865⟩⟩ | (rw [e1897]; exact ⟨rfl, N1863, K1876, ff, mk, mf, cc, by rw [own_chg]; exact (if_neg hf).symm, by omega, ⟨f1866, ⟨_, f1867⟩, f1868, ⟨_, f1869⟩, ⟨_, f1877⟩, f1870, f1871, f1872, f1873, ⟨_, f1874, p00, p10⟩, f1875, na0, (Nat.le_trans zl0 K1876.1), oa0, ob0, oc0, dm0, f1865⟩⟩))
set_option maxRecDepth 65536 in
set_option maxHeartbeats 40000000 in
theorem own_c_chg1 (l : Launch) (Z : State) (a0 : Array Value) (hw : ∀ d ∈ tables_1, d.before a0 Z = true) (lo : Nat) (a : Nat) (pb : Nat) (fb : Nat) (sb : Nat) (ff : Nat → Int32) (mk : Nat → Int32) (mf : Nat → Int32) (cc : Nat) (h0 : Heap) (n0 : Nat) (Z0 : n0 ≤ h0.size) (hcc : cc < 58) (D0 : own_D Z h0 n0 lo a pb fb sb ff mk mf cc) :
    own_Con l Z (⟨"com/example/holdfast/holdfast/dom/CompactDocument", "changed", "(I)V"⟩ : MethodName) prog_121_method_24_code 5 none [] ({ frames := 2, cells := 2, slots := 128, locals := 30 } : Room) #[(.ref a), (.int (1 : Int32))] h0 (fun v h L => v = none ∧ Fr n0 L ∧ own_KL fb lo h0 h ∧ ∃ f' k' m' c', (f', k', m', c') = own_chg 1 (ff, mk, mf, cc) ∧ c' ≤ cc + 1 ∧ own_D Z h n0 lo a pb fb sb f' k' m' c') := by
  refine own_enter (plainFor_of_name own_pn6) ?_
  intro p e s m below meth c s₁ X0 e0 hx hZ hby hml hown hnm hret hlk
  refine own_cast (g' := (mkF m 0 #[.val (.ref a), .val (.int (1 : Int32)), .unset, .unset, .unset] [])) (by first | (simp [entryFrame, mkF, argsToLocals, Value.category]; done) | rfl) ?_
  have N0 := Fr.nil n0
  have KL0 : own_KL fb lo h0 h0 := own_KL.refl h0
  obtain ⟨E0, ⟨vm0, Fm0⟩, Fb0, ⟨vr0, Fr0⟩, ⟨vt0, Ft0⟩, Fp0, Ff0, Fs0, Fc0, ⟨fp0, Ap0, p00, p10⟩, Af0, na0, zl0, oa0, ob0, oc0, dm0, Fk0⟩ := D0
  refine own_g (mkF m 1 #[.val (.ref a), .val (.int (1 : Int32)), .unset, .unset, .unset] [(.ref a)]) (fun _ kz => XS.aloadN X0.here hx rfl (hb hby od_121_24_0) rfl rfl kz) ?_
  refine own_g (mkF m 2 #[.val (.ref a), .val (.int (1 : Int32)), .unset, .unset, .unset] [(.ref a), (.ref a)]) (fun _ kz => XS.dup X0.here hx rfl (hb hby od_121_24_1) rfl rfl kz) ?_
  obtain ⟨T1898, X1898, e1898, st1898⟩ := getF X0 hx hZ hown (host := "") (Or.inl (own_w hw 186 rfl)) Via.refl e0 Fm0 (g := (mkF m 2 #[.val (.ref a), .val (.int (1 : Int32)), .unset, .unset, .unset] [(.ref a), (.ref a)])) rfl rfl (hb hby od_121_24_2)
  refine own_s st1898 ?_
  show own_E p e below _ (T1898.setTop (mkF m 5 #[.val (.ref a), .val (.int (1 : Int32)), .unset, .unset, .unset] [(.int vm0), (.ref a)]))
  refine own_g (mkF m 6 #[.val (.ref a), .val (.int (1 : Int32)), .unset, .unset, .unset] [(.int (1 : Int32)), (.int vm0), (.ref a)]) (fun _ kz => XS.iconst X1898.here hx rfl (hb hby od_121_24_5) kz) ?_
  refine own_g (mkF m 7 #[.val (.ref a), .val (.int (1 : Int32)), .unset, .unset, .unset] [(.int (vm0 + (1 : Int32))), (.ref a)]) (fun _ kz => XS.iadd X1898.here hx rfl (hb hby od_121_24_6) rfl kz) ?_
  obtain ⟨T1899, h1899, X1899, e1899, W1899, st1899⟩ := putF X1898 hx hZ hown (host := "") (Or.inl (own_w hw 186 rfl)) Via.refl e1898 Fm0 E0 (Or.inl (own_w hw 187 rfl)) (own_w hw 13 rfl) (ty := .int) (by decide) rfl rfl (g := (mkF m 7 #[.val (.ref a), .val (.int (1 : Int32)), .unset, .unset, .unset] [(.int (vm0 + (1 : Int32))), (.ref a)])) rfl rfl (hb hby od_121_24_7)
  have N1899 := Fr.snoc X1899 N0 na0
  have s1900 : n0 ≤ h1899.size := Nat.le_trans Z0 (Keep.of_wr W1899).1
  have f1901 := own_M.fld W1899 (slot_ne (Or.inl (own_w hw 198 rfl)) (Or.inl (own_w hw 187 rfl)) (by decide) (t := (.array .int)) (t' := .int) (by decide) (by decide)) (slot_ne (Or.inl (own_w hw 203 rfl)) (Or.inl (own_w hw 187 rfl)) (by decide) (t := (.array .byte)) (t' := .int) (by decide) (by decide)) (by omega) Fk0
  have f1902 := Exa.wr W1899 E0
  have f1903 := Fld.other W1899 Fb0 (Or.inr (slot_ne (Or.inl (own_w hw 169 rfl)) (Or.inl (own_w hw 187 rfl)) (by decide) (t := .int) (t' := .int) (by decide) (by decide)))
  have f1904 := Fld.other W1899 Fr0 (Or.inr (slot_ne (Or.inl (own_w hw 190 rfl)) (Or.inl (own_w hw 187 rfl)) (by decide) (t := .int) (t' := .int) (by decide) (by decide)))
  have f1905 := Fld.other W1899 Ft0 (Or.inr (slot_ne (Or.inl (own_w hw 192 rfl)) (Or.inl (own_w hw 187 rfl)) (by decide) (t := .int) (t' := .int) (by decide) (by decide)))
  have f1906 := Fld.other W1899 Fp0 (Or.inr (slot_ne (Or.inl (own_w hw 35 rfl)) (Or.inl (own_w hw 187 rfl)) (by decide) (t := (.array .int)) (t' := .int) (by decide) (by decide)))
  have f1907 := Fld.other W1899 Ff0 (Or.inr (slot_ne (Or.inl (own_w hw 47 rfl)) (Or.inl (own_w hw 187 rfl)) (by decide) (t := (.array .byte)) (t' := .int) (by decide) (by decide)))
  have f1908 := Fld.other W1899 Fs0 (Or.inr (slot_ne (Or.inl (own_w hw 159 rfl)) (Or.inl (own_w hw 187 rfl)) (by decide) (t := (.array .int)) (t' := .int) (by decide) (by decide)))
  have f1909 := Fld.other W1899 Fc0 (Or.inr (slot_ne (Or.inl (own_w hw 200 rfl)) (Or.inl (own_w hw 187 rfl)) (by decide) (t := .int) (t' := .int) (by decide) (by decide)))
  have f1910 := Ap0.other W1899 (by show @Ne Nat _ _; omega)
  have f1911 := Af0.other W1899 (by show @Ne Nat _ _; omega)
  have K1912 := own_KL.wr KL0 W1899 (by omega)
  have f1913 := Fld.same W1899 Fm0
  refine own_s st1899 ?_
  show own_E p e below _ (T1899.setTop (mkF m 10 #[.val (.ref a), .val (.int (1 : Int32)), .unset, .unset, .unset] []))
  refine own_g (mkF m 11 #[.val (.ref a), .val (.int (1 : Int32)), .unset, .unset, .unset] [(.int (1 : Int32))]) (fun _ kz => XS.iloadN X1899.here hx rfl (hb hby od_121_24_10) rfl kz) ?_
  refine own_g (mkF m 12 #[.val (.ref a), .val (.int (1 : Int32)), .unset, .unset, .unset] [(.ref a), (.int (1 : Int32))]) (fun _ kz => XS.aloadN X1899.here hx rfl (hb hby od_121_24_11) rfl rfl kz) ?_
  obtain ⟨T1914, X1914, e1914, st1914⟩ := getF X1899 hx hZ hown (host := "") (Or.inl (own_w hw 188 rfl)) Via.refl e1899 f1903 (g := (mkF m 12 #[.val (.ref a), .val (.int (1 : Int32)), .unset, .unset, .unset] [(.ref a), (.int (1 : Int32))])) rfl rfl (hb hby od_121_24_12)
  refine own_s st1914 ?_
  show own_E p e below _ (T1914.setTop (mkF m 15 #[.val (.ref a), .val (.int (1 : Int32)), .unset, .unset, .unset] [(.int (1 : Int32)), (.int (1 : Int32))]))
  refine own_g (mkF m 28 #[.val (.ref a), .val (.int (1 : Int32)), .unset, .unset, .unset] []) (fun _ kz => XS.icmpYes X1914.here hx rfl (pc0 := 15) (pc' := 28) rfl (hb hby od_121_24_15) rfl (flt (by decide)).2.1 (by decide) (by decide) kz) ?_
  refine own_g (mkF m 29 #[.val (.ref a), .val (.int (1 : Int32)), .unset, .unset, .unset] [(.int (1 : Int32))]) (fun _ kz => XS.iloadN X1914.here hx rfl (hb hby od_121_24_28) rfl kz) ?_
  refine own_g (mkF m 30 #[.val (.ref a), .val (.int (1 : Int32)), .val (.int (1 : Int32)), .unset, .unset] []) (fun _ kz => XS.istoreN X1914.here hx rfl (hb hby od_121_24_29) rfl (l' := #[.val (.ref a), .val (.int (1 : Int32)), .val (.int (1 : Int32)), .unset, .unset]) rfl kz) ?_
  refine own_g (mkF m 31 #[.val (.ref a), .val (.int (1 : Int32)), .val (.int (1 : Int32)), .unset, .unset] [(.ref a)]) (fun _ kz => XS.aloadN X1914.here hx rfl (hb hby od_121_24_30) rfl rfl kz) ?_
  obtain ⟨T1915, X1915, e1915, st1915⟩ := getF X1914 hx hZ hown (host := "") (Or.inl (own_w hw 34 rfl)) Via.refl e1914 f1906 (g := (mkF m 31 #[.val (.ref a), .val (.int (1 : Int32)), .val (.int (1 : Int32)), .unset, .unset] [(.ref a)])) rfl rfl (hb hby od_121_24_31)
  refine own_s st1915 ?_
  show own_E p e below _ (T1915.setTop (mkF m 34 #[.val (.ref a), .val (.int (1 : Int32)), .val (.int (1 : Int32)), .unset, .unset] [(.ref pb)]))
  refine own_g (mkF m 35 #[.val (.ref a), .val (.int (1 : Int32)), .val (.int (1 : Int32)), .unset, .unset] [(.int (1 : Int32)), (.ref pb)]) (fun _ kz => XS.iloadN X1915.here hx rfl (hb hby od_121_24_34) rfl kz) ?_
  refine own_ildI X1915 hx hZ e1915 f1910 (hb hby od_121_24_35) (by decide) (i := 1) rfl (by decide) (x := (-1 : Int32)) p10 ?_
  show own_E p e below _ (T1915.setTop (mkF m 36 #[.val (.ref a), .val (.int (1 : Int32)), .val (.int (1 : Int32)), .unset, .unset] [(.int (-1 : Int32))]))
  refine own_g (mkF m 49 #[.val (.ref a), .val (.int (1 : Int32)), .val (.int (1 : Int32)), .unset, .unset] []) (fun _ kz => XS.ifYes X1915.here hx rfl (pc0 := 36) (pc' := 49) rfl (hb hby od_121_24_36) rfl ((if0 _ _).trans (tlt (by decide)).1) (by decide) (by decide) kz) ?_
  refine own_g (mkF m 50 #[.val (.ref a), .val (.int (1 : Int32)), .val (.int (1 : Int32)), .unset, .unset] [(.int (1 : Int32))]) (fun _ kz => XS.iloadN X1915.here hx rfl (hb hby od_121_24_49) rfl kz) ?_
  refine own_g (mkF m 63 #[.val (.ref a), .val (.int (1 : Int32)), .val (.int (1 : Int32)), .unset, .unset] []) (fun _ kz => XS.ifYes X1915.here hx rfl (pc0 := 50) (pc' := 63) rfl (hb hby od_121_24_50) rfl ((if0 _ _).trans (feq (by decide)).2) (by decide) (by decide) kz) ?_
  refine own_g (mkF m 64 #[.val (.ref a), .val (.int (1 : Int32)), .val (.int (1 : Int32)), .unset, .unset] [(.int (0 : Int32))]) (fun _ kz => XS.iconst X1915.here hx rfl (hb hby od_121_24_63) kz) ?_
  refine own_g (mkF m 65 #[.val (.ref a), .val (.int (1 : Int32)), .val (.int (1 : Int32)), .val (.int (0 : Int32)), .unset] []) (fun _ kz => XS.istoreN X1915.here hx rfl (hb hby od_121_24_64) rfl (l' := #[.val (.ref a), .val (.int (1 : Int32)), .val (.int (1 : Int32)), .val (.int (0 : Int32)), .unset]) rfl kz) ?_
  refine own_g (mkF m 66 #[.val (.ref a), .val (.int (1 : Int32)), .val (.int (1 : Int32)), .val (.int (0 : Int32)), .unset] [(.int (1 : Int32))]) (fun _ kz => XS.iloadN X1915.here hx rfl (hb hby od_121_24_65) rfl kz) ?_
  refine own_g (mkF m 68 #[.val (.ref a), .val (.int (1 : Int32)), .val (.int (1 : Int32)), .val (.int (0 : Int32)), .val (.int (1 : Int32))] []) (fun _ kz => XS.istore X1915.here hx rfl (hb hby od_121_24_66) rfl (l' := #[.val (.ref a), .val (.int (1 : Int32)), .val (.int (1 : Int32)), .val (.int (0 : Int32)), .val (.int (1 : Int32))]) rfl kz) ?_
  refine own_g (mkF m 70 #[.val (.ref a), .val (.int (1 : Int32)), .val (.int (1 : Int32)), .val (.int (0 : Int32)), .val (.int (1 : Int32))] [(.int (1 : Int32))]) (fun _ kz => XS.iload X1915.here hx rfl (hb hby od_121_24_68) rfl kz) ?_
  refine own_g (mkF m 73 #[.val (.ref a), .val (.int (1 : Int32)), .val (.int (1 : Int32)), .val (.int (0 : Int32)), .val (.int (1 : Int32))] []) (fun _ kz => XS.ifNo X1915.here hx rfl (hb hby od_121_24_70) rfl ((if0 _ _).trans (flt (by decide)).1) kz) ?_
  refine own_g (mkF m 74 #[.val (.ref a), .val (.int (1 : Int32)), .val (.int (1 : Int32)), .val (.int (0 : Int32)), .val (.int (1 : Int32))] [(.ref a)]) (fun _ kz => XS.aloadN X1915.here hx rfl (hb hby od_121_24_73) rfl rfl kz) ?_
  obtain ⟨T1916, X1916, e1916, st1916⟩ := getF X1915 hx hZ hown (host := "") (Or.inl (own_w hw 46 rfl)) Via.refl e1915 f1907 (g := (mkF m 74 #[.val (.ref a), .val (.int (1 : Int32)), .val (.int (1 : Int32)), .val (.int (0 : Int32)), .val (.int (1 : Int32))] [(.ref a)])) rfl rfl (hb hby od_121_24_74)
  refine own_s st1916 ?_
  show own_E p e below _ (T1916.setTop (mkF m 77 #[.val (.ref a), .val (.int (1 : Int32)), .val (.int (1 : Int32)), .val (.int (0 : Int32)), .val (.int (1 : Int32))] [(.ref fb)]))
  refine own_g (mkF m 79 #[.val (.ref a), .val (.int (1 : Int32)), .val (.int (1 : Int32)), .val (.int (0 : Int32)), .val (.int (1 : Int32))] [(.int (1 : Int32)), (.ref fb)]) (fun _ kz => XS.iload X1916.here hx rfl (hb hby od_121_24_77) rfl kz) ?_
  refine own_ildB X1916 hx hZ e1916 f1911 (hb hby od_121_24_79) (by decide) (i := 1) rfl (by decide) (x := (ff 1)) rfl ?_
  show own_E p e below _ (T1916.setTop (mkF m 80 #[.val (.ref a), .val (.int (1 : Int32)), .val (.int (1 : Int32)), .val (.int (0 : Int32)), .val (.int (1 : Int32))] [(.int (ff 1))]))
  refine own_g (mkF m 81 #[.val (.ref a), .val (.int (1 : Int32)), .val (.int (1 : Int32)), .val (.int (0 : Int32)), .val (.int (1 : Int32))] [(.int (1 : Int32)), (.int (ff 1))]) (fun _ kz => XS.iconst X1916.here hx rfl (hb hby od_121_24_80) kz) ?_
  refine own_g (mkF m 82 #[.val (.ref a), .val (.int (1 : Int32)), .val (.int (1 : Int32)), .val (.int (0 : Int32)), .val (.int (1 : Int32))] [(.int ((ff 1) &&& (1 : Int32)))]) (fun _ kz => XS.iand X1916.here hx rfl (hb hby od_121_24_81) rfl kz) ?_
  by_cases hf : ((ff 1) &&& (1 : Int32)) = (0 : Int32)
  · refine own_g (mkF m 85 #[.val (.ref a), .val (.int (1 : Int32)), .val (.int (1 : Int32)), .val (.int (0 : Int32)), .val (.int (1 : Int32))] []) (fun _ kz => XS.ifNo X1916.here hx rfl (hb hby od_121_24_82) rfl ((if0 _ _).trans (teq hf).2) kz) ?_
    refine own_g (mkF m 86 #[.val (.ref a), .val (.int (1 : Int32)), .val (.int (1 : Int32)), .val (.int (0 : Int32)), .val (.int (1 : Int32))] [(.ref a)]) (fun _ kz => XS.aloadN X1916.here hx rfl (hb hby od_121_24_85) rfl rfl kz) ?_
    obtain ⟨T1917, X1917, e1917, st1917⟩ := getF X1916 hx hZ hown (host := "") (Or.inl (own_w hw 46 rfl)) Via.refl e1916 f1907 (g := (mkF m 86 #[.val (.ref a), .val (.int (1 : Int32)), .val (.int (1 : Int32)), .val (.int (0 : Int32)), .val (.int (1 : Int32))] [(.ref a)])) rfl rfl (hb hby od_121_24_86)
    refine own_s st1917 ?_
    show own_E p e below _ (T1917.setTop (mkF m 89 #[.val (.ref a), .val (.int (1 : Int32)), .val (.int (1 : Int32)), .val (.int (0 : Int32)), .val (.int (1 : Int32))] [(.ref fb)]))
    refine own_g (mkF m 91 #[.val (.ref a), .val (.int (1 : Int32)), .val (.int (1 : Int32)), .val (.int (0 : Int32)), .val (.int (1 : Int32))] [(.int (1 : Int32)), (.ref fb)]) (fun _ kz => XS.iload X1917.here hx rfl (hb hby od_121_24_89) rfl kz) ?_
    refine own_g (mkF m 92 #[.val (.ref a), .val (.int (1 : Int32)), .val (.int (1 : Int32)), .val (.int (0 : Int32)), .val (.int (1 : Int32))] [(.int (1 : Int32)), (.ref fb), (.int (1 : Int32)), (.ref fb)]) (fun _ kz => XT.dup2 X1917.here hx rfl (hb hby od_121_24_91) rfl rfl rfl kz) ?_
    refine own_ildB X1917 hx hZ e1917 f1911 (hb hby od_121_24_92) (by decide) (i := 1) rfl (by decide) (x := (ff 1)) rfl ?_
    show own_E p e below _ (T1917.setTop (mkF m 93 #[.val (.ref a), .val (.int (1 : Int32)), .val (.int (1 : Int32)), .val (.int (0 : Int32)), .val (.int (1 : Int32))] [(.int (ff 1)), (.int (1 : Int32)), (.ref fb)]))
    refine own_g (mkF m 94 #[.val (.ref a), .val (.int (1 : Int32)), .val (.int (1 : Int32)), .val (.int (0 : Int32)), .val (.int (1 : Int32))] [(.int (1 : Int32)), (.int (ff 1)), (.int (1 : Int32)), (.ref fb)]) (fun _ kz => XS.iconst X1917.here hx rfl (hb hby od_121_24_93) kz) ?_
    refine own_g (mkF m 95 #[.val (.ref a), .val (.int (1 : Int32)), .val (.int (1 : Int32)), .val (.int (0 : Int32)), .val (.int (1 : Int32))] [(.int ((ff 1) ||| (1 : Int32))), (.int (1 : Int32)), (.ref fb)]) (fun _ kz => XS.ior X1917.here hx rfl (hb hby od_121_24_94) rfl kz) ?_
    refine own_g (mkF m 96 #[.val (.ref a), .val (.int (1 : Int32)), .val (.int (1 : Int32)), .val (.int (0 : Int32)), .val (.int (1 : Int32))] [(.int ((ff 1) ||| (1 : Int32)).toInt8.toInt32), (.int (1 : Int32)), (.ref fb)]) (fun _ kz => XS.i2b X1917.here hx rfl (hb hby od_121_24_95) rfl kz) ?_
    refine own_stB X1917 hx hZ e1917 f1911 (hb hby od_121_24_96) (by decide) (i := 1) rfl (by decide) ?_
    intro T1918 h1918 X1918 e1918 W1918 A1918
    have N1918 := Fr.snoc X1918 N1899 (by show @LE.le Nat _ _ _; omega)
    have s1919 : n0 ≤ h1918.size := Nat.le_trans s1900 (Keep.of_wr W1918).1
    have f1920 := own_M.arr W1918 (by show @Ne Nat _ _; omega) (by omega) f1901
    have f1921 := Exa.wr W1918 f1902
    have f1922 := Fld.other W1918 f1913 (Or.inl (by show @Ne Nat _ _; omega))
    have f1923 := Fld.other W1918 f1903 (Or.inl (by show @Ne Nat _ _; omega))
    have f1924 := Fld.other W1918 f1904 (Or.inl (by show @Ne Nat _ _; omega))
    have f1925 := Fld.other W1918 f1905 (Or.inl (by show @Ne Nat _ _; omega))
    have f1926 := Fld.other W1918 f1906 (Or.inl (by show @Ne Nat _ _; omega))
    have f1927 := Fld.other W1918 f1907 (Or.inl (by show @Ne Nat _ _; omega))
    have f1928 := Fld.other W1918 f1908 (Or.inl (by show @Ne Nat _ _; omega))
    have f1929 := Fld.other W1918 f1909 (Or.inl (by show @Ne Nat _ _; omega))
    have f1930 := f1910.other W1918 (by show @Ne Nat _ _; omega)
    have K1931 := own_KL.wr K1912 W1918 (by omega)
    show own_E p e below _ (T1918.setTop (mkF m 97 #[.val (.ref a), .val (.int (1 : Int32)), .val (.int (1 : Int32)), .val (.int (0 : Int32)), .val (.int (1 : Int32))] []))
    refine own_g (mkF m 100 #[.val (.ref a), .val (.int (1 : Int32)), .val (.int (1 : Int32)), .val (.int ((0 : Int32) + (1 : Int32))), .val (.int (1 : Int32))] []) (fun _ kz => XS.iinc X1918.here hx rfl (hb hby od_121_24_97) rfl (l' := #[.val (.ref a), .val (.int (1 : Int32)), .val (.int (1 : Int32)), .val (.int ((0 : Int32) + (1 : Int32))), .val (.int (1 : Int32))]) rfl kz) ?_
    rw [show ((0 : Int32) + (1 : Int32)) = (1 : Int32) from by decide]
    show own_E p e below _ (T1918.setTop (mkF m 100 #[.val (.ref a), .val (.int (1 : Int32)), .val (.int (1 : Int32)), .val (.int (1 : Int32)), .val (.int (1 : Int32))] []))
    refine own_g (mkF m 101 #[.val (.ref a), .val (.int (1 : Int32)), .val (.int (1 : Int32)), .val (.int (1 : Int32)), .val (.int (1 : Int32))] [(.ref a)]) (fun _ kz => XS.aloadN X1918.here hx rfl (hb hby od_121_24_100) rfl rfl kz) ?_
    obtain ⟨T1932, X1932, e1932, st1932⟩ := getF X1918 hx hZ hown (host := "") (Or.inl (own_w hw 34 rfl)) Via.refl e1918 f1926 (g := (mkF m 101 #[.val (.ref a), .val (.int (1 : Int32)), .val (.int (1 : Int32)), .val (.int (1 : Int32)), .val (.int (1 : Int32))] [(.ref a)])) rfl rfl (hb hby od_121_24_101)
    refine own_s st1932 ?_
    show own_E p e below _ (T1932.setTop (mkF m 104 #[.val (.ref a), .val (.int (1 : Int32)), .val (.int (1 : Int32)), .val (.int (1 : Int32)), .val (.int (1 : Int32))] [(.ref pb)]))
    refine own_g (mkF m 106 #[.val (.ref a), .val (.int (1 : Int32)), .val (.int (1 : Int32)), .val (.int (1 : Int32)), .val (.int (1 : Int32))] [(.int (1 : Int32)), (.ref pb)]) (fun _ kz => XS.iload X1932.here hx rfl (hb hby od_121_24_104) rfl kz) ?_
    refine own_ildI X1932 hx hZ e1932 f1930 (hb hby od_121_24_106) (by decide) (i := 1) rfl (by decide) (x := (-1 : Int32)) p10 ?_
    show own_E p e below _ (T1932.setTop (mkF m 107 #[.val (.ref a), .val (.int (1 : Int32)), .val (.int (1 : Int32)), .val (.int (1 : Int32)), .val (.int (1 : Int32))] [(.int (-1 : Int32))]))
    refine own_g (mkF m 109 #[.val (.ref a), .val (.int (1 : Int32)), .val (.int (1 : Int32)), .val (.int (1 : Int32)), .val (.int (-1 : Int32))] []) (fun _ kz => XS.istore X1932.here hx rfl (hb hby od_121_24_107) rfl (l' := #[.val (.ref a), .val (.int (1 : Int32)), .val (.int (1 : Int32)), .val (.int (1 : Int32)), .val (.int (-1 : Int32))]) rfl kz) ?_
    refine own_g (mkF m 68 #[.val (.ref a), .val (.int (1 : Int32)), .val (.int (1 : Int32)), .val (.int (1 : Int32)), .val (.int (-1 : Int32))] []) (fun _ kz => XS.goto X1932.here hx rfl (pc0 := 109) (pc' := 68) rfl (hb hby od_121_24_109) (by decide) (by decide) kz) ?_
    refine own_g (mkF m 70 #[.val (.ref a), .val (.int (1 : Int32)), .val (.int (1 : Int32)), .val (.int (1 : Int32)), .val (.int (-1 : Int32))] [(.int (-1 : Int32))]) (fun _ kz => XS.iload X1932.here hx rfl (hb hby od_121_24_68) rfl kz) ?_
    refine own_g (mkF m 112 #[.val (.ref a), .val (.int (1 : Int32)), .val (.int (1 : Int32)), .val (.int (1 : Int32)), .val (.int (-1 : Int32))] []) (fun _ kz => XS.ifYes X1932.here hx rfl (pc0 := 70) (pc' := 112) rfl (hb hby od_121_24_70) rfl ((if0 _ _).trans (tlt (by decide)).1) (by decide) (by decide) kz) ?_
    refine own_g (mkF m 113 #[.val (.ref a), .val (.int (1 : Int32)), .val (.int (1 : Int32)), .val (.int (1 : Int32)), .val (.int (-1 : Int32))] [(.ref a)]) (fun _ kz => XS.aloadN X1932.here hx rfl (hb hby od_121_24_112) rfl rfl kz) ?_
    obtain ⟨T1933, X1933, e1933, st1933⟩ := getF X1932 hx hZ hown (host := "") (Or.inl (own_w hw 175 rfl)) Via.refl e1932 f1928 (g := (mkF m 113 #[.val (.ref a), .val (.int (1 : Int32)), .val (.int (1 : Int32)), .val (.int (1 : Int32)), .val (.int (-1 : Int32))] [(.ref a)])) rfl rfl (hb hby od_121_24_113)
    refine own_s st1933 ?_
    show own_E p e below _ (T1933.setTop (mkF m 116 #[.val (.ref a), .val (.int (1 : Int32)), .val (.int (1 : Int32)), .val (.int (1 : Int32)), .val (.int (-1 : Int32))] [(.ref sb)]))
    refine own_g (mkF m 119 #[.val (.ref a), .val (.int (1 : Int32)), .val (.int (1 : Int32)), .val (.int (1 : Int32)), .val (.int (-1 : Int32))] []) (fun _ kz => XS.ifnullNo X1933.here hx rfl (hb hby od_121_24_116) rfl kz) ?_
    refine own_g (mkF m 120 #[.val (.ref a), .val (.int (1 : Int32)), .val (.int (1 : Int32)), .val (.int (1 : Int32)), .val (.int (-1 : Int32))] [(.int (1 : Int32))]) (fun _ kz => XS.iloadN X1933.here hx rfl (hb hby od_121_24_119) rfl kz) ?_
    refine own_g (mkF m 123 #[.val (.ref a), .val (.int (1 : Int32)), .val (.int (1 : Int32)), .val (.int (1 : Int32)), .val (.int (-1 : Int32))] []) (fun _ kz => XS.ifNo X1933.here hx rfl (hb hby od_121_24_120) rfl ((if0 _ _).trans (tlt (by decide)).2.2.2) kz) ?_
    refine own_g (mkF m 124 #[.val (.ref a), .val (.int (1 : Int32)), .val (.int (1 : Int32)), .val (.int (1 : Int32)), .val (.int (-1 : Int32))] [(.ref a)]) (fun _ kz => XS.aloadN X1933.here hx rfl (hb hby od_121_24_123) rfl rfl kz) ?_
    refine own_g (mkF m 125 #[.val (.ref a), .val (.int (1 : Int32)), .val (.int (1 : Int32)), .val (.int (1 : Int32)), .val (.int (-1 : Int32))] [(.int (1 : Int32)), (.ref a)]) (fun _ kz => XS.iloadN X1933.here hx rfl (hb hby od_121_24_124) rfl kz) ?_
    refine own_g (mkF m 126 #[.val (.ref a), .val (.int (1 : Int32)), .val (.int (1 : Int32)), .val (.int (1 : Int32)), .val (.int (-1 : Int32))] [(.int (1 : Int32)), (.int (1 : Int32)), (.ref a)]) (fun _ kz => XS.iloadN X1933.here hx rfl (hb hby od_121_24_125) rfl kz) ?_
    refine own_g (mkF m 127 #[.val (.ref a), .val (.int (1 : Int32)), .val (.int (1 : Int32)), .val (.int (1 : Int32)), .val (.int (-1 : Int32))] [(.int (1 : Int32)), (.int (1 : Int32)), (.int (1 : Int32)), (.ref a)]) (fun _ kz => XS.iconst X1933.here hx rfl (hb hby od_121_24_126) kz) ?_
    have Dz : own_D Z h1918 n0 lo a pb fb sb (own_or ff 1 1) mk mf cc := ⟨f1921, ⟨_, f1922⟩, f1923, ⟨_, f1924⟩, ⟨_, f1925⟩, f1926, f1927, f1928, f1929, ⟨_, f1930, p00, p10⟩, A1918, na0, (Nat.le_trans zl0 K1931.1), oa0, ob0, oc0, dm0, f1920⟩
    refine own_callP (rest := []) (a := a) (as := [(.int (1 : Int32)), (.int (1 : Int32)), (.int (1 : Int32))]) X1933 hx hZ hown e1933 (own_c_km l Z a0 hw lo a pb fb sb (own_or ff 1 1) mk mf cc 1 1 h1918 n0 s1919 (Or.inr rfl) (by omega) Dz) f1921 (own_w hw 193 rfl) (own_w hw 13 rfl) (own_w hw 195 rfl) (own_w hw 194 rfl) (own_w hw 14 rfl) (own_w hw 196 rfl) (by decide) own_pd4 rfl (by rw [hml]; rfl) rfl (hb hby od_121_24_127) 0 (by show 2 * 0 + _ ≤ _; exact Nat.le_of_eq rfl) (by decide) (by decide) (by decide) (by decide) ?_
    rintro _ T1934 L1934 X1934 ⟨rfl, Nq1934, KL1934, f1934', k1934', m1934', c1934', eq1934, D1934⟩
    have N1934 := Fr.app N1918 Nq1934
    have zq1934 : n0 ≤ T1934.heap.size := Nat.le_trans s1919 KL1934.1
    have KX1934 := own_KL.trans K1931 KL1934
    show own_E p e below _ (T1934.setTop (mkF m 130 #[.val (.ref a), .val (.int (1 : Int32)), .val (.int (1 : Int32)), .val (.int (1 : Int32)), .val (.int (-1 : Int32))] []))
    exact own_retV X1934 hx hret hlk (hb hby od_121_24_130) (by decide) (by decide) ((⟨rfl, N1934, KX1934, f1934', k1934', m1934', c1934', by rw [eq1934, own_chg]; exact (if_pos hf).symm, by injection eq1934 with _ q; injection q with _ q; injection q with _ q; exact Nat.le_of_eq q, D1934⟩))
  · refine own_g (mkF m 112 #[.val (.ref a), .val (.int (1 : Int32)), .val (.int (1 : Int32)), .val (.int (0 : Int32)), .val (.int (1 : Int32))] []) (fun _ kz => XS.ifYes X1916.here hx rfl (pc0 := 82) (pc' := 112) rfl (hb hby od_121_24_82) rfl ((if0 _ _).trans (feq hf).2) (by decide) (by decide) kz) ?_
    refine own_g (mkF m 113 #[.val (.ref a), .val (.int (1 : Int32)), .val (.int (1 : Int32)), .val (.int (0 : Int32)), .val (.int (1 : Int32))] [(.ref a)]) (fun _ kz => XS.aloadN X1916.here hx rfl (hb hby od_121_24_112) rfl rfl kz) ?_
    obtain ⟨T1935, X1935, e1935, st1935⟩ := getF X1916 hx hZ hown (host := "") (Or.inl (own_w hw 175 rfl)) Via.refl e1916 f1908 (g := (mkF m 113 #[.val (.ref a), .val (.int (1 : Int32)), .val (.int (1 : Int32)), .val (.int (0 : Int32)), .val (.int (1 : Int32))] [(.ref a)])) rfl rfl (hb hby od_121_24_113)
    refine own_s st1935 ?_
    show own_E p e below _ (T1935.setTop (mkF m 116 #[.val (.ref a), .val (.int (1 : Int32)), .val (.int (1 : Int32)), .val (.int (0 : Int32)), .val (.int (1 : Int32))] [(.ref sb)]))
    refine own_g (mkF m 119 #[.val (.ref a), .val (.int (1 : Int32)), .val (.int (1 : Int32)), .val (.int (0 : Int32)), .val (.int (1 : Int32))] []) (fun _ kz => XS.ifnullNo X1935.here hx rfl (hb hby od_121_24_116) rfl kz) ?_
    refine own_g (mkF m 120 #[.val (.ref a), .val (.int (1 : Int32)), .val (.int (1 : Int32)), .val (.int (0 : Int32)), .val (.int (1 : Int32))] [(.int (0 : Int32))]) (fun _ kz => XS.iloadN X1935.here hx rfl (hb hby od_121_24_119) rfl kz) ?_
    refine own_g (mkF m 130 #[.val (.ref a), .val (.int (1 : Int32)), .val (.int (1 : Int32)), .val (.int (0 : Int32)), .val (.int (1 : Int32))] []) (fun _ kz => XS.ifYes X1935.here hx rfl (pc0 := 120) (pc' := 130) rfl (hb hby od_121_24_120) rfl ((if0 _ _).trans (flt (by decide)).2.2.2) (by decide) (by decide) kz) ?_
    exact own_retV X1935 hx hret hlk (hb hby od_121_24_130) (by decide) (by decide) (by first | exact ⟨rfl, N1899, K1912, ff, mk, mf, cc, by rw [own_chg]; exact (if_neg hf).symm, by omega, ⟨f1902, ⟨_, f1913⟩, f1903, ⟨_, f1904⟩, ⟨_, f1905⟩, f1906, f1907, f1908, f1909, ⟨_, f1910, p00, p10⟩, f1911, na0, (Nat.le_trans zl0 K1912.1), oa0, ob0, oc0, dm0, f1901⟩⟩ | (rw [e1935]; exact ⟨rfl, N1899, K1912, ff, mk, mf, cc, by rw [own_chg]; exact (if_neg hf).symm, by omega, ⟨f1902, ⟨_, f1913⟩, f1903, ⟨_, f1904⟩, ⟨_, f1905⟩, f1906, f1907, f1908, f1909, ⟨_, f1910, p00, p10⟩, f1911, na0, (Nat.le_trans zl0 K1912.1), oa0, ob0, oc0, dm0, f1901⟩⟩))
theorem od_121_25_0 : decode prog_121_method_25_code 0 = .ok (.aload_n 0, 1) := by decide +kernel
theorem od_121_25_1 : decode prog_121_method_25_code 1 = .ok (.getfield 32, 3) := by decide +kernel
theorem od_121_25_4 : decode prog_121_method_25_code 4 = .ok (.iload_n 1, 1) := by decide +kernel
theorem od_121_25_5 : decode prog_121_method_25_code 5 = .ok (.baload, 1) := by decide +kernel
theorem od_121_25_6 : decode prog_121_method_25_code 6 = .ok (.bipush 16, 2) := by decide +kernel
theorem od_121_25_8 : decode prog_121_method_25_code 8 = .ok (.iand, 1) := by decide +kernel
theorem od_121_25_9 : decode prog_121_method_25_code 9 = .ok (.ifCond .ne 7, 3) := by decide +kernel
theorem od_121_25_12 : decode prog_121_method_25_code 12 = .ok (.iconst 1, 1) := by decide +kernel
theorem od_121_25_13 : decode prog_121_method_25_code 13 = .ok (.goto 4, 3) := by decide +kernel
theorem od_121_25_17 : decode prog_121_method_25_code 17 = .ok (.istore_n 2, 1) := by decide +kernel
theorem od_121_25_18 : decode prog_121_method_25_code 18 = .ok (.aload_n 0, 1) := by decide +kernel
theorem od_121_25_19 : decode prog_121_method_25_code 19 = .ok (.getfield 32, 3) := by decide +kernel
theorem od_121_25_22 : decode prog_121_method_25_code 22 = .ok (.iload_n 1, 1) := by decide +kernel
theorem od_121_25_23 : decode prog_121_method_25_code 23 = .ok (.dup2, 1) := by decide +kernel
theorem od_121_25_24 : decode prog_121_method_25_code 24 = .ok (.baload, 1) := by decide +kernel
theorem od_121_25_25 : decode prog_121_method_25_code 25 = .ok (.bipush 16, 2) := by decide +kernel
theorem od_121_25_27 : decode prog_121_method_25_code 27 = .ok (.ior, 1) := by decide +kernel
theorem od_121_25_28 : decode prog_121_method_25_code 28 = .ok (.i2b, 1) := by decide +kernel
theorem od_121_25_29 : decode prog_121_method_25_code 29 = .ok (.bastore, 1) := by decide +kernel
theorem od_121_25_30 : decode prog_121_method_25_code 30 = .ok (.aload_n 0, 1) := by decide +kernel
theorem od_121_25_31 : decode prog_121_method_25_code 31 = .ok (.iload_n 1, 1) := by decide +kernel
theorem own_pd5 : parseMethodDescriptor "(I)V" = some ⟨[.int], none⟩ := by decide +kernel
theorem od_121_25_32 : decode prog_121_method_25_code 32 = .ok (.invokevirtual 216, 3) := by decide +kernel
theorem od_121_25_35 : decode prog_121_method_25_code 35 = .ok (.aload_n 0, 1) := by decide +kernel
theorem od_121_25_36 : decode prog_121_method_25_code 36 = .ok (.getfield 100, 3) := by decide +kernel
theorem od_121_25_39 : decode prog_121_method_25_code 39 = .ok (.ifnull 15, 3) := by decide +kernel
theorem od_121_25_42 : decode prog_121_method_25_code 42 = .ok (.iload_n 2, 1) := by decide +kernel
theorem od_121_25_43 : decode prog_121_method_25_code 43 = .ok (.ifCond .eq 11, 3) := by decide +kernel
theorem od_121_25_46 : decode prog_121_method_25_code 46 = .ok (.aload_n 0, 1) := by decide +kernel
theorem od_121_25_47 : decode prog_121_method_25_code 47 = .ok (.iload_n 1, 1) := by decide +kernel
theorem od_121_25_48 : decode prog_121_method_25_code 48 = .ok (.iconst 1, 1) := by decide +kernel
theorem od_121_25_49 : decode prog_121_method_25_code 49 = .ok (.bipush 16, 2) := by decide +kernel
theorem od_121_25_51 : decode prog_121_method_25_code 51 = .ok (.invokevirtual 304, 3) := by decide +kernel
theorem od_121_25_54 : decode prog_121_method_25_code 54 = .ok (.return_, 1) := by decide +kernel
theorem od_121_25_16 : decode prog_121_method_25_code 16 = .ok (.iconst 0, 1) := by decide +kernel
set_option maxRecDepth 65536 in
set_option maxHeartbeats 40000000 in
theorem own_c_ret0 (l : Launch) (Z : State) (a0 : Array Value) (hw : ∀ d ∈ tables_1, d.before a0 Z = true) (lo : Nat) (a : Nat) (pb : Nat) (fb : Nat) (sb : Nat) (ff : Nat → Int32) (mk : Nat → Int32) (mf : Nat → Int32) (cc : Nat) (h0 : Heap) (n0 : Nat) (Z0 : n0 ≤ h0.size) (hcc : cc < 56) (D0 : own_D Z h0 n0 lo a pb fb sb ff mk mf cc) :
    own_Con l Z (⟨"com/example/holdfast/holdfast/dom/CompactDocument", "retagged", "(I)V"⟩ : MethodName) prog_121_method_25_code 3 none [] ({ frames := 3, cells := 4, slots := 256, locals := 46 } : Room) #[(.ref a), (.int (0 : Int32))] h0 (fun v h L => v = none ∧ Fr n0 L ∧ own_KL fb lo h0 h ∧ ∃ f' k' m' c', (f', k', m', c') = own_ret 0 (ff, mk, mf, cc) ∧ c' ≤ cc + 2 ∧ own_D Z h n0 lo a pb fb sb f' k' m' c') := by
  refine own_enter (plainFor_of_name own_pn6) ?_
  intro p e s m below meth c s₁ X0 e0 hx hZ hby hml hown hnm hret hlk
  refine own_cast (g' := (mkF m 0 #[.val (.ref a), .val (.int (0 : Int32)), .unset] [])) (by first | (simp [entryFrame, mkF, argsToLocals, Value.category]; done) | rfl) ?_
  have N0 := Fr.nil n0
  have KL0 : own_KL fb lo h0 h0 := own_KL.refl h0
  obtain ⟨E0, ⟨vm0, Fm0⟩, Fb0, ⟨vr0, Fr0⟩, ⟨vt0, Ft0⟩, Fp0, Ff0, Fs0, Fc0, ⟨fp0, Ap0, p00, p10⟩, Af0, na0, zl0, oa0, ob0, oc0, dm0, Fk0⟩ := D0
  refine own_g (mkF m 1 #[.val (.ref a), .val (.int (0 : Int32)), .unset] [(.ref a)]) (fun _ kz => XS.aloadN X0.here hx rfl (hb hby od_121_25_0) rfl rfl kz) ?_
  obtain ⟨T1936, X1936, e1936, st1936⟩ := getF X0 hx hZ hown (host := "") (Or.inl (own_w hw 46 rfl)) Via.refl e0 Ff0 (g := (mkF m 1 #[.val (.ref a), .val (.int (0 : Int32)), .unset] [(.ref a)])) rfl rfl (hb hby od_121_25_1)
  refine own_s st1936 ?_
  show own_E p e below _ (T1936.setTop (mkF m 4 #[.val (.ref a), .val (.int (0 : Int32)), .unset] [(.ref fb)]))
  refine own_g (mkF m 5 #[.val (.ref a), .val (.int (0 : Int32)), .unset] [(.int (0 : Int32)), (.ref fb)]) (fun _ kz => XS.iloadN X1936.here hx rfl (hb hby od_121_25_4) rfl kz) ?_
  refine own_ildB X1936 hx hZ e1936 Af0 (hb hby od_121_25_5) (by decide) (i := 0) rfl (by decide) (x := (ff 0)) rfl ?_
  show own_E p e below _ (T1936.setTop (mkF m 6 #[.val (.ref a), .val (.int (0 : Int32)), .unset] [(.int (ff 0))]))
  refine own_g (mkF m 8 #[.val (.ref a), .val (.int (0 : Int32)), .unset] [(.int (16 : Int32)), (.int (ff 0))]) (fun _ kz => XS.bipush X1936.here hx rfl (hb hby od_121_25_6) kz) ?_
  refine own_g (mkF m 9 #[.val (.ref a), .val (.int (0 : Int32)), .unset] [(.int ((ff 0) &&& (16 : Int32)))]) (fun _ kz => XS.iand X1936.here hx rfl (hb hby od_121_25_8) rfl kz) ?_
  by_cases hf : ((ff 0) &&& (16 : Int32)) = (0 : Int32)
  · refine own_g (mkF m 12 #[.val (.ref a), .val (.int (0 : Int32)), .unset] []) (fun _ kz => XS.ifNo X1936.here hx rfl (hb hby od_121_25_9) rfl ((if0 _ _).trans (teq hf).2) kz) ?_
    refine own_g (mkF m 13 #[.val (.ref a), .val (.int (0 : Int32)), .unset] [(.int (1 : Int32))]) (fun _ kz => XS.iconst X1936.here hx rfl (hb hby od_121_25_12) kz) ?_
    refine own_g (mkF m 17 #[.val (.ref a), .val (.int (0 : Int32)), .unset] [(.int (1 : Int32))]) (fun _ kz => XS.goto X1936.here hx rfl (pc0 := 13) (pc' := 17) rfl (hb hby od_121_25_13) (by decide) (by decide) kz) ?_
    refine own_g (mkF m 18 #[.val (.ref a), .val (.int (0 : Int32)), .val (.int (1 : Int32))] []) (fun _ kz => XS.istoreN X1936.here hx rfl (hb hby od_121_25_17) rfl (l' := #[.val (.ref a), .val (.int (0 : Int32)), .val (.int (1 : Int32))]) rfl kz) ?_
    refine own_g (mkF m 19 #[.val (.ref a), .val (.int (0 : Int32)), .val (.int (1 : Int32))] [(.ref a)]) (fun _ kz => XS.aloadN X1936.here hx rfl (hb hby od_121_25_18) rfl rfl kz) ?_
    obtain ⟨T1937, X1937, e1937, st1937⟩ := getF X1936 hx hZ hown (host := "") (Or.inl (own_w hw 46 rfl)) Via.refl e1936 Ff0 (g := (mkF m 19 #[.val (.ref a), .val (.int (0 : Int32)), .val (.int (1 : Int32))] [(.ref a)])) rfl rfl (hb hby od_121_25_19)
    refine own_s st1937 ?_
    show own_E p e below _ (T1937.setTop (mkF m 22 #[.val (.ref a), .val (.int (0 : Int32)), .val (.int (1 : Int32))] [(.ref fb)]))
    refine own_g (mkF m 23 #[.val (.ref a), .val (.int (0 : Int32)), .val (.int (1 : Int32))] [(.int (0 : Int32)), (.ref fb)]) (fun _ kz => XS.iloadN X1937.here hx rfl (hb hby od_121_25_22) rfl kz) ?_
    refine own_g (mkF m 24 #[.val (.ref a), .val (.int (0 : Int32)), .val (.int (1 : Int32))] [(.int (0 : Int32)), (.ref fb), (.int (0 : Int32)), (.ref fb)]) (fun _ kz => XT.dup2 X1937.here hx rfl (hb hby od_121_25_23) rfl rfl rfl kz) ?_
    refine own_ildB X1937 hx hZ e1937 Af0 (hb hby od_121_25_24) (by decide) (i := 0) rfl (by decide) (x := (ff 0)) rfl ?_
    show own_E p e below _ (T1937.setTop (mkF m 25 #[.val (.ref a), .val (.int (0 : Int32)), .val (.int (1 : Int32))] [(.int (ff 0)), (.int (0 : Int32)), (.ref fb)]))
    refine own_g (mkF m 27 #[.val (.ref a), .val (.int (0 : Int32)), .val (.int (1 : Int32))] [(.int (16 : Int32)), (.int (ff 0)), (.int (0 : Int32)), (.ref fb)]) (fun _ kz => XS.bipush X1937.here hx rfl (hb hby od_121_25_25) kz) ?_
    refine own_g (mkF m 28 #[.val (.ref a), .val (.int (0 : Int32)), .val (.int (1 : Int32))] [(.int ((ff 0) ||| (16 : Int32))), (.int (0 : Int32)), (.ref fb)]) (fun _ kz => XS.ior X1937.here hx rfl (hb hby od_121_25_27) rfl kz) ?_
    refine own_g (mkF m 29 #[.val (.ref a), .val (.int (0 : Int32)), .val (.int (1 : Int32))] [(.int ((ff 0) ||| (16 : Int32)).toInt8.toInt32), (.int (0 : Int32)), (.ref fb)]) (fun _ kz => XS.i2b X1937.here hx rfl (hb hby od_121_25_28) rfl kz) ?_
    refine own_stB X1937 hx hZ e1937 Af0 (hb hby od_121_25_29) (by decide) (i := 0) rfl (by decide) ?_
    intro T1938 h1938 X1938 e1938 W1938 A1938
    have N1938 := Fr.snoc X1938 N0 (by show @LE.le Nat _ _ _; omega)
    have s1939 : n0 ≤ h1938.size := Nat.le_trans Z0 (Keep.of_wr W1938).1
    have f1940 := own_M.arr W1938 (by show @Ne Nat _ _; omega) (by omega) Fk0
    have f1941 := Exa.wr W1938 E0
    have f1942 := Fld.other W1938 Fm0 (Or.inl (by show @Ne Nat _ _; omega))
    have f1943 := Fld.other W1938 Fb0 (Or.inl (by show @Ne Nat _ _; omega))
    have f1944 := Fld.other W1938 Fr0 (Or.inl (by show @Ne Nat _ _; omega))
    have f1945 := Fld.other W1938 Ft0 (Or.inl (by show @Ne Nat _ _; omega))
    have f1946 := Fld.other W1938 Fp0 (Or.inl (by show @Ne Nat _ _; omega))
    have f1947 := Fld.other W1938 Ff0 (Or.inl (by show @Ne Nat _ _; omega))
    have f1948 := Fld.other W1938 Fs0 (Or.inl (by show @Ne Nat _ _; omega))
    have f1949 := Fld.other W1938 Fc0 (Or.inl (by show @Ne Nat _ _; omega))
    have f1950 := Ap0.other W1938 (by show @Ne Nat _ _; omega)
    have K1951 := own_KL.wr KL0 W1938 (by omega)
    show own_E p e below _ (T1938.setTop (mkF m 30 #[.val (.ref a), .val (.int (0 : Int32)), .val (.int (1 : Int32))] []))
    refine own_g (mkF m 31 #[.val (.ref a), .val (.int (0 : Int32)), .val (.int (1 : Int32))] [(.ref a)]) (fun _ kz => XS.aloadN X1938.here hx rfl (hb hby od_121_25_30) rfl rfl kz) ?_
    refine own_g (mkF m 32 #[.val (.ref a), .val (.int (0 : Int32)), .val (.int (1 : Int32))] [(.int (0 : Int32)), (.ref a)]) (fun _ kz => XS.iloadN X1938.here hx rfl (hb hby od_121_25_31) rfl kz) ?_
    have Dz : own_D Z h1938 n0 lo a pb fb sb (own_or ff 0 16) mk mf cc := ⟨f1941, ⟨_, f1942⟩, f1943, ⟨_, f1944⟩, ⟨_, f1945⟩, f1946, f1947, f1948, f1949, ⟨_, f1950, p00, p10⟩, A1938, na0, (Nat.le_trans zl0 K1951.1), oa0, ob0, oc0, dm0, f1940⟩
    refine own_callV (rest := []) (a := a) (as := [(.int (0 : Int32))]) X1938 hx hZ hown e1938 (own_c_chg0 l Z a0 hw lo a pb fb sb (own_or ff 0 16) mk mf cc h1938 n0 s1939 (by omega) Dz) Dz.1 (own_w hw 220 rfl) (own_w hw 182 rfl) (own_w hw 184 rfl) (own_w hw 183 rfl) (own_w hw 14 rfl) (own_w hw 185 rfl) (by decide) own_pd5 rfl (by rw [hml]; rfl) rfl (hb hby od_121_25_32) 0 (by show 2 * 0 + _ ≤ _; exact Nat.le_of_eq rfl) (by decide) (by decide) (by decide) (by decide) ?_
    rintro _ T1952 L1952 X1952 ⟨rfl, Nq1952, KL1952, f1952', k1952', m1952', c1952', eq1952, lc1952, D1952⟩
    have N1952 := Fr.app N1938 Nq1952
    have zq1952 : n0 ≤ T1952.heap.size := Nat.le_trans s1939 KL1952.1
    have KX1952 := own_KL.trans K1951 KL1952
    show own_E p e below _ (T1952.setTop (mkF m 35 #[.val (.ref a), .val (.int (0 : Int32)), .val (.int (1 : Int32))] []))
    refine own_g (mkF m 36 #[.val (.ref a), .val (.int (0 : Int32)), .val (.int (1 : Int32))] [(.ref a)]) (fun _ kz => XS.aloadN X1952.here hx rfl (hb hby od_121_25_35) rfl rfl kz) ?_
    obtain ⟨T1953, X1953, e1953, st1953⟩ := getF X1952 hx hZ hown (host := "") (Or.inl (own_w hw 175 rfl)) Via.refl rfl D1952.2.2.2.2.2.2.2.1 (g := (mkF m 36 #[.val (.ref a), .val (.int (0 : Int32)), .val (.int (1 : Int32))] [(.ref a)])) rfl rfl (hb hby od_121_25_36)
    refine own_s st1953 ?_
    show own_E p e below _ (T1953.setTop (mkF m 39 #[.val (.ref a), .val (.int (0 : Int32)), .val (.int (1 : Int32))] [(.ref sb)]))
    refine own_g (mkF m 42 #[.val (.ref a), .val (.int (0 : Int32)), .val (.int (1 : Int32))] []) (fun _ kz => XS.ifnullNo X1953.here hx rfl (hb hby od_121_25_39) rfl kz) ?_
    refine own_g (mkF m 43 #[.val (.ref a), .val (.int (0 : Int32)), .val (.int (1 : Int32))] [(.int (1 : Int32))]) (fun _ kz => XS.iloadN X1953.here hx rfl (hb hby od_121_25_42) rfl kz) ?_
    refine own_g (mkF m 46 #[.val (.ref a), .val (.int (0 : Int32)), .val (.int (1 : Int32))] []) (fun _ kz => XS.ifNo X1953.here hx rfl (hb hby od_121_25_43) rfl ((if0 _ _).trans (feq (by decide)).1) kz) ?_
    refine own_g (mkF m 47 #[.val (.ref a), .val (.int (0 : Int32)), .val (.int (1 : Int32))] [(.ref a)]) (fun _ kz => XS.aloadN X1953.here hx rfl (hb hby od_121_25_46) rfl rfl kz) ?_
    refine own_g (mkF m 48 #[.val (.ref a), .val (.int (0 : Int32)), .val (.int (1 : Int32))] [(.int (0 : Int32)), (.ref a)]) (fun _ kz => XS.iloadN X1953.here hx rfl (hb hby od_121_25_47) rfl kz) ?_
    refine own_g (mkF m 49 #[.val (.ref a), .val (.int (0 : Int32)), .val (.int (1 : Int32))] [(.int (1 : Int32)), (.int (0 : Int32)), (.ref a)]) (fun _ kz => XS.iconst X1953.here hx rfl (hb hby od_121_25_48) kz) ?_
    refine own_g (mkF m 51 #[.val (.ref a), .val (.int (0 : Int32)), .val (.int (1 : Int32))] [(.int (16 : Int32)), (.int (1 : Int32)), (.int (0 : Int32)), (.ref a)]) (fun _ kz => XS.bipush X1953.here hx rfl (hb hby od_121_25_49) kz) ?_
    refine own_callP (rest := []) (a := a) (as := [(.int (0 : Int32)), (.int (1 : Int32)), (.int (16 : Int32))]) X1953 hx hZ hown e1953 (own_c_km l Z a0 hw lo a pb fb sb f1952' k1952' m1952' c1952' 0 16 T1952.heap n0 zq1952 (Or.inl rfl) (by omega) D1952) D1952.1 (own_w hw 193 rfl) (own_w hw 13 rfl) (own_w hw 195 rfl) (own_w hw 194 rfl) (own_w hw 14 rfl) (own_w hw 196 rfl) (by decide) own_pd4 rfl (by rw [hml]; rfl) rfl (hb hby od_121_25_51) 0 (by show 2 * 0 + _ ≤ _; exact Nat.le_of_eq rfl) (by decide) (by decide) (by decide) (by decide) ?_
    rintro _ T1954 L1954 X1954 ⟨rfl, Nq1954, KL1954, f1954', k1954', m1954', c1954', eq1954, D1954⟩
    have N1954 := Fr.app N1952 Nq1954
    have zq1954 : n0 ≤ T1954.heap.size := Nat.le_trans zq1952 KL1954.1
    have KX1954 := own_KL.trans KX1952 KL1954
    show own_E p e below _ (T1954.setTop (mkF m 54 #[.val (.ref a), .val (.int (0 : Int32)), .val (.int (1 : Int32))] []))
    exact own_retV X1954 hx hret hlk (hb hby od_121_25_54) (by decide) (by decide) ((⟨rfl, N1954, KX1954, f1954', k1954', m1954', c1954', by rw [eq1954, eq1952, own_ret]; exact (if_pos hf).symm, by injection eq1954 with _ q; injection q with _ q; injection q with _ q; have q' : c1954' = c1952' + 1 := q; omega, D1954⟩))
  · refine own_g (mkF m 16 #[.val (.ref a), .val (.int (0 : Int32)), .unset] []) (fun _ kz => XS.ifYes X1936.here hx rfl (pc0 := 9) (pc' := 16) rfl (hb hby od_121_25_9) rfl ((if0 _ _).trans (feq hf).2) (by decide) (by decide) kz) ?_
    refine own_g (mkF m 17 #[.val (.ref a), .val (.int (0 : Int32)), .unset] [(.int (0 : Int32))]) (fun _ kz => XS.iconst X1936.here hx rfl (hb hby od_121_25_16) kz) ?_
    refine own_g (mkF m 18 #[.val (.ref a), .val (.int (0 : Int32)), .val (.int (0 : Int32))] []) (fun _ kz => XS.istoreN X1936.here hx rfl (hb hby od_121_25_17) rfl (l' := #[.val (.ref a), .val (.int (0 : Int32)), .val (.int (0 : Int32))]) rfl kz) ?_
    refine own_g (mkF m 19 #[.val (.ref a), .val (.int (0 : Int32)), .val (.int (0 : Int32))] [(.ref a)]) (fun _ kz => XS.aloadN X1936.here hx rfl (hb hby od_121_25_18) rfl rfl kz) ?_
    obtain ⟨T1955, X1955, e1955, st1955⟩ := getF X1936 hx hZ hown (host := "") (Or.inl (own_w hw 46 rfl)) Via.refl e1936 Ff0 (g := (mkF m 19 #[.val (.ref a), .val (.int (0 : Int32)), .val (.int (0 : Int32))] [(.ref a)])) rfl rfl (hb hby od_121_25_19)
    refine own_s st1955 ?_
    show own_E p e below _ (T1955.setTop (mkF m 22 #[.val (.ref a), .val (.int (0 : Int32)), .val (.int (0 : Int32))] [(.ref fb)]))
    refine own_g (mkF m 23 #[.val (.ref a), .val (.int (0 : Int32)), .val (.int (0 : Int32))] [(.int (0 : Int32)), (.ref fb)]) (fun _ kz => XS.iloadN X1955.here hx rfl (hb hby od_121_25_22) rfl kz) ?_
    refine own_g (mkF m 24 #[.val (.ref a), .val (.int (0 : Int32)), .val (.int (0 : Int32))] [(.int (0 : Int32)), (.ref fb), (.int (0 : Int32)), (.ref fb)]) (fun _ kz => XT.dup2 X1955.here hx rfl (hb hby od_121_25_23) rfl rfl rfl kz) ?_
    refine own_ildB X1955 hx hZ e1955 Af0 (hb hby od_121_25_24) (by decide) (i := 0) rfl (by decide) (x := (ff 0)) rfl ?_
    show own_E p e below _ (T1955.setTop (mkF m 25 #[.val (.ref a), .val (.int (0 : Int32)), .val (.int (0 : Int32))] [(.int (ff 0)), (.int (0 : Int32)), (.ref fb)]))
    refine own_g (mkF m 27 #[.val (.ref a), .val (.int (0 : Int32)), .val (.int (0 : Int32))] [(.int (16 : Int32)), (.int (ff 0)), (.int (0 : Int32)), (.ref fb)]) (fun _ kz => XS.bipush X1955.here hx rfl (hb hby od_121_25_25) kz) ?_
    refine own_g (mkF m 28 #[.val (.ref a), .val (.int (0 : Int32)), .val (.int (0 : Int32))] [(.int ((ff 0) ||| (16 : Int32))), (.int (0 : Int32)), (.ref fb)]) (fun _ kz => XS.ior X1955.here hx rfl (hb hby od_121_25_27) rfl kz) ?_
    refine own_g (mkF m 29 #[.val (.ref a), .val (.int (0 : Int32)), .val (.int (0 : Int32))] [(.int ((ff 0) ||| (16 : Int32)).toInt8.toInt32), (.int (0 : Int32)), (.ref fb)]) (fun _ kz => XS.i2b X1955.here hx rfl (hb hby od_121_25_28) rfl kz) ?_
    refine own_stB X1955 hx hZ e1955 Af0 (hb hby od_121_25_29) (by decide) (i := 0) rfl (by decide) ?_
    intro T1956 h1956 X1956 e1956 W1956 A1956
    have N1956 := Fr.snoc X1956 N0 (by show @LE.le Nat _ _ _; omega)
    have s1957 : n0 ≤ h1956.size := Nat.le_trans Z0 (Keep.of_wr W1956).1
    have f1958 := own_M.arr W1956 (by show @Ne Nat _ _; omega) (by omega) Fk0
    have f1959 := Exa.wr W1956 E0
    have f1960 := Fld.other W1956 Fm0 (Or.inl (by show @Ne Nat _ _; omega))
    have f1961 := Fld.other W1956 Fb0 (Or.inl (by show @Ne Nat _ _; omega))
    have f1962 := Fld.other W1956 Fr0 (Or.inl (by show @Ne Nat _ _; omega))
    have f1963 := Fld.other W1956 Ft0 (Or.inl (by show @Ne Nat _ _; omega))
    have f1964 := Fld.other W1956 Fp0 (Or.inl (by show @Ne Nat _ _; omega))
    have f1965 := Fld.other W1956 Ff0 (Or.inl (by show @Ne Nat _ _; omega))
    have f1966 := Fld.other W1956 Fs0 (Or.inl (by show @Ne Nat _ _; omega))
    have f1967 := Fld.other W1956 Fc0 (Or.inl (by show @Ne Nat _ _; omega))
    have f1968 := Ap0.other W1956 (by show @Ne Nat _ _; omega)
    have K1969 := own_KL.wr KL0 W1956 (by omega)
    show own_E p e below _ (T1956.setTop (mkF m 30 #[.val (.ref a), .val (.int (0 : Int32)), .val (.int (0 : Int32))] []))
    refine own_g (mkF m 31 #[.val (.ref a), .val (.int (0 : Int32)), .val (.int (0 : Int32))] [(.ref a)]) (fun _ kz => XS.aloadN X1956.here hx rfl (hb hby od_121_25_30) rfl rfl kz) ?_
    refine own_g (mkF m 32 #[.val (.ref a), .val (.int (0 : Int32)), .val (.int (0 : Int32))] [(.int (0 : Int32)), (.ref a)]) (fun _ kz => XS.iloadN X1956.here hx rfl (hb hby od_121_25_31) rfl kz) ?_
    have Dz : own_D Z h1956 n0 lo a pb fb sb (own_or ff 0 16) mk mf cc := ⟨f1959, ⟨_, f1960⟩, f1961, ⟨_, f1962⟩, ⟨_, f1963⟩, f1964, f1965, f1966, f1967, ⟨_, f1968, p00, p10⟩, A1956, na0, (Nat.le_trans zl0 K1969.1), oa0, ob0, oc0, dm0, f1958⟩
    refine own_callV (rest := []) (a := a) (as := [(.int (0 : Int32))]) X1956 hx hZ hown e1956 (own_c_chg0 l Z a0 hw lo a pb fb sb (own_or ff 0 16) mk mf cc h1956 n0 s1957 (by omega) Dz) Dz.1 (own_w hw 220 rfl) (own_w hw 182 rfl) (own_w hw 184 rfl) (own_w hw 183 rfl) (own_w hw 14 rfl) (own_w hw 185 rfl) (by decide) own_pd5 rfl (by rw [hml]; rfl) rfl (hb hby od_121_25_32) 0 (by show 2 * 0 + _ ≤ _; exact Nat.le_of_eq rfl) (by decide) (by decide) (by decide) (by decide) ?_
    rintro _ T1970 L1970 X1970 ⟨rfl, Nq1970, KL1970, f1970', k1970', m1970', c1970', eq1970, lc1970, D1970⟩
    have N1970 := Fr.app N1956 Nq1970
    have zq1970 : n0 ≤ T1970.heap.size := Nat.le_trans s1957 KL1970.1
    have KX1970 := own_KL.trans K1969 KL1970
    show own_E p e below _ (T1970.setTop (mkF m 35 #[.val (.ref a), .val (.int (0 : Int32)), .val (.int (0 : Int32))] []))
    refine own_g (mkF m 36 #[.val (.ref a), .val (.int (0 : Int32)), .val (.int (0 : Int32))] [(.ref a)]) (fun _ kz => XS.aloadN X1970.here hx rfl (hb hby od_121_25_35) rfl rfl kz) ?_
    obtain ⟨T1971, X1971, e1971, st1971⟩ := getF X1970 hx hZ hown (host := "") (Or.inl (own_w hw 175 rfl)) Via.refl rfl D1970.2.2.2.2.2.2.2.1 (g := (mkF m 36 #[.val (.ref a), .val (.int (0 : Int32)), .val (.int (0 : Int32))] [(.ref a)])) rfl rfl (hb hby od_121_25_36)
    refine own_s st1971 ?_
    show own_E p e below _ (T1971.setTop (mkF m 39 #[.val (.ref a), .val (.int (0 : Int32)), .val (.int (0 : Int32))] [(.ref sb)]))
    refine own_g (mkF m 42 #[.val (.ref a), .val (.int (0 : Int32)), .val (.int (0 : Int32))] []) (fun _ kz => XS.ifnullNo X1971.here hx rfl (hb hby od_121_25_39) rfl kz) ?_
    refine own_g (mkF m 43 #[.val (.ref a), .val (.int (0 : Int32)), .val (.int (0 : Int32))] [(.int (0 : Int32))]) (fun _ kz => XS.iloadN X1971.here hx rfl (hb hby od_121_25_42) rfl kz) ?_
    refine own_g (mkF m 54 #[.val (.ref a), .val (.int (0 : Int32)), .val (.int (0 : Int32))] []) (fun _ kz => XS.ifYes X1971.here hx rfl (pc0 := 43) (pc' := 54) rfl (hb hby od_121_25_43) rfl ((if0 _ _).trans (teq (by decide)).1) (by decide) (by decide) kz) ?_
    exact own_retV X1971 hx hret hlk (hb hby od_121_25_54) (by decide) (by decide) (by first | exact ⟨rfl, N1970, KX1970, f1970', k1970', m1970', c1970', by rw [eq1970, own_ret]; exact (if_neg hf).symm, by omega, D1970⟩ | (rw [e1971]; exact ⟨rfl, N1970, KX1970, f1970', k1970', m1970', c1970', by rw [eq1970, own_ret]; exact (if_neg hf).symm, by omega, D1970⟩))
set_option maxRecDepth 65536 in
set_option maxHeartbeats 40000000 in
theorem own_c_ret1 (l : Launch) (Z : State) (a0 : Array Value) (hw : ∀ d ∈ tables_1, d.before a0 Z = true) (lo : Nat) (a : Nat) (pb : Nat) (fb : Nat) (sb : Nat) (ff : Nat → Int32) (mk : Nat → Int32) (mf : Nat → Int32) (cc : Nat) (h0 : Heap) (n0 : Nat) (Z0 : n0 ≤ h0.size) (hcc : cc < 56) (D0 : own_D Z h0 n0 lo a pb fb sb ff mk mf cc) :
    own_Con l Z (⟨"com/example/holdfast/holdfast/dom/CompactDocument", "retagged", "(I)V"⟩ : MethodName) prog_121_method_25_code 3 none [] ({ frames := 3, cells := 4, slots := 256, locals := 46 } : Room) #[(.ref a), (.int (1 : Int32))] h0 (fun v h L => v = none ∧ Fr n0 L ∧ own_KL fb lo h0 h ∧ ∃ f' k' m' c', (f', k', m', c') = own_ret 1 (ff, mk, mf, cc) ∧ c' ≤ cc + 2 ∧ own_D Z h n0 lo a pb fb sb f' k' m' c') := by
  refine own_enter (plainFor_of_name own_pn6) ?_
  intro p e s m below meth c s₁ X0 e0 hx hZ hby hml hown hnm hret hlk
  refine own_cast (g' := (mkF m 0 #[.val (.ref a), .val (.int (1 : Int32)), .unset] [])) (by first | (simp [entryFrame, mkF, argsToLocals, Value.category]; done) | rfl) ?_
  have N0 := Fr.nil n0
  have KL0 : own_KL fb lo h0 h0 := own_KL.refl h0
  obtain ⟨E0, ⟨vm0, Fm0⟩, Fb0, ⟨vr0, Fr0⟩, ⟨vt0, Ft0⟩, Fp0, Ff0, Fs0, Fc0, ⟨fp0, Ap0, p00, p10⟩, Af0, na0, zl0, oa0, ob0, oc0, dm0, Fk0⟩ := D0
  refine own_g (mkF m 1 #[.val (.ref a), .val (.int (1 : Int32)), .unset] [(.ref a)]) (fun _ kz => XS.aloadN X0.here hx rfl (hb hby od_121_25_0) rfl rfl kz) ?_
  obtain ⟨T1972, X1972, e1972, st1972⟩ := getF X0 hx hZ hown (host := "") (Or.inl (own_w hw 46 rfl)) Via.refl e0 Ff0 (g := (mkF m 1 #[.val (.ref a), .val (.int (1 : Int32)), .unset] [(.ref a)])) rfl rfl (hb hby od_121_25_1)
  refine own_s st1972 ?_
  show own_E p e below _ (T1972.setTop (mkF m 4 #[.val (.ref a), .val (.int (1 : Int32)), .unset] [(.ref fb)]))
  refine own_g (mkF m 5 #[.val (.ref a), .val (.int (1 : Int32)), .unset] [(.int (1 : Int32)), (.ref fb)]) (fun _ kz => XS.iloadN X1972.here hx rfl (hb hby od_121_25_4) rfl kz) ?_
  refine own_ildB X1972 hx hZ e1972 Af0 (hb hby od_121_25_5) (by decide) (i := 1) rfl (by decide) (x := (ff 1)) rfl ?_
  show own_E p e below _ (T1972.setTop (mkF m 6 #[.val (.ref a), .val (.int (1 : Int32)), .unset] [(.int (ff 1))]))
  refine own_g (mkF m 8 #[.val (.ref a), .val (.int (1 : Int32)), .unset] [(.int (16 : Int32)), (.int (ff 1))]) (fun _ kz => XS.bipush X1972.here hx rfl (hb hby od_121_25_6) kz) ?_
  refine own_g (mkF m 9 #[.val (.ref a), .val (.int (1 : Int32)), .unset] [(.int ((ff 1) &&& (16 : Int32)))]) (fun _ kz => XS.iand X1972.here hx rfl (hb hby od_121_25_8) rfl kz) ?_
  by_cases hf : ((ff 1) &&& (16 : Int32)) = (0 : Int32)
  · refine own_g (mkF m 12 #[.val (.ref a), .val (.int (1 : Int32)), .unset] []) (fun _ kz => XS.ifNo X1972.here hx rfl (hb hby od_121_25_9) rfl ((if0 _ _).trans (teq hf).2) kz) ?_
    refine own_g (mkF m 13 #[.val (.ref a), .val (.int (1 : Int32)), .unset] [(.int (1 : Int32))]) (fun _ kz => XS.iconst X1972.here hx rfl (hb hby od_121_25_12) kz) ?_
    refine own_g (mkF m 17 #[.val (.ref a), .val (.int (1 : Int32)), .unset] [(.int (1 : Int32))]) (fun _ kz => XS.goto X1972.here hx rfl (pc0 := 13) (pc' := 17) rfl (hb hby od_121_25_13) (by decide) (by decide) kz) ?_
    refine own_g (mkF m 18 #[.val (.ref a), .val (.int (1 : Int32)), .val (.int (1 : Int32))] []) (fun _ kz => XS.istoreN X1972.here hx rfl (hb hby od_121_25_17) rfl (l' := #[.val (.ref a), .val (.int (1 : Int32)), .val (.int (1 : Int32))]) rfl kz) ?_
    refine own_g (mkF m 19 #[.val (.ref a), .val (.int (1 : Int32)), .val (.int (1 : Int32))] [(.ref a)]) (fun _ kz => XS.aloadN X1972.here hx rfl (hb hby od_121_25_18) rfl rfl kz) ?_
    obtain ⟨T1973, X1973, e1973, st1973⟩ := getF X1972 hx hZ hown (host := "") (Or.inl (own_w hw 46 rfl)) Via.refl e1972 Ff0 (g := (mkF m 19 #[.val (.ref a), .val (.int (1 : Int32)), .val (.int (1 : Int32))] [(.ref a)])) rfl rfl (hb hby od_121_25_19)
    refine own_s st1973 ?_
    show own_E p e below _ (T1973.setTop (mkF m 22 #[.val (.ref a), .val (.int (1 : Int32)), .val (.int (1 : Int32))] [(.ref fb)]))
    refine own_g (mkF m 23 #[.val (.ref a), .val (.int (1 : Int32)), .val (.int (1 : Int32))] [(.int (1 : Int32)), (.ref fb)]) (fun _ kz => XS.iloadN X1973.here hx rfl (hb hby od_121_25_22) rfl kz) ?_
    refine own_g (mkF m 24 #[.val (.ref a), .val (.int (1 : Int32)), .val (.int (1 : Int32))] [(.int (1 : Int32)), (.ref fb), (.int (1 : Int32)), (.ref fb)]) (fun _ kz => XT.dup2 X1973.here hx rfl (hb hby od_121_25_23) rfl rfl rfl kz) ?_
    refine own_ildB X1973 hx hZ e1973 Af0 (hb hby od_121_25_24) (by decide) (i := 1) rfl (by decide) (x := (ff 1)) rfl ?_
    show own_E p e below _ (T1973.setTop (mkF m 25 #[.val (.ref a), .val (.int (1 : Int32)), .val (.int (1 : Int32))] [(.int (ff 1)), (.int (1 : Int32)), (.ref fb)]))
    refine own_g (mkF m 27 #[.val (.ref a), .val (.int (1 : Int32)), .val (.int (1 : Int32))] [(.int (16 : Int32)), (.int (ff 1)), (.int (1 : Int32)), (.ref fb)]) (fun _ kz => XS.bipush X1973.here hx rfl (hb hby od_121_25_25) kz) ?_
    refine own_g (mkF m 28 #[.val (.ref a), .val (.int (1 : Int32)), .val (.int (1 : Int32))] [(.int ((ff 1) ||| (16 : Int32))), (.int (1 : Int32)), (.ref fb)]) (fun _ kz => XS.ior X1973.here hx rfl (hb hby od_121_25_27) rfl kz) ?_
    refine own_g (mkF m 29 #[.val (.ref a), .val (.int (1 : Int32)), .val (.int (1 : Int32))] [(.int ((ff 1) ||| (16 : Int32)).toInt8.toInt32), (.int (1 : Int32)), (.ref fb)]) (fun _ kz => XS.i2b X1973.here hx rfl (hb hby od_121_25_28) rfl kz) ?_
    refine own_stB X1973 hx hZ e1973 Af0 (hb hby od_121_25_29) (by decide) (i := 1) rfl (by decide) ?_
    intro T1974 h1974 X1974 e1974 W1974 A1974
    have N1974 := Fr.snoc X1974 N0 (by show @LE.le Nat _ _ _; omega)
    have s1975 : n0 ≤ h1974.size := Nat.le_trans Z0 (Keep.of_wr W1974).1
    have f1976 := own_M.arr W1974 (by show @Ne Nat _ _; omega) (by omega) Fk0
    have f1977 := Exa.wr W1974 E0
    have f1978 := Fld.other W1974 Fm0 (Or.inl (by show @Ne Nat _ _; omega))
    have f1979 := Fld.other W1974 Fb0 (Or.inl (by show @Ne Nat _ _; omega))
    have f1980 := Fld.other W1974 Fr0 (Or.inl (by show @Ne Nat _ _; omega))
    have f1981 := Fld.other W1974 Ft0 (Or.inl (by show @Ne Nat _ _; omega))
    have f1982 := Fld.other W1974 Fp0 (Or.inl (by show @Ne Nat _ _; omega))
    have f1983 := Fld.other W1974 Ff0 (Or.inl (by show @Ne Nat _ _; omega))
    have f1984 := Fld.other W1974 Fs0 (Or.inl (by show @Ne Nat _ _; omega))
    have f1985 := Fld.other W1974 Fc0 (Or.inl (by show @Ne Nat _ _; omega))
    have f1986 := Ap0.other W1974 (by show @Ne Nat _ _; omega)
    have K1987 := own_KL.wr KL0 W1974 (by omega)
    show own_E p e below _ (T1974.setTop (mkF m 30 #[.val (.ref a), .val (.int (1 : Int32)), .val (.int (1 : Int32))] []))
    refine own_g (mkF m 31 #[.val (.ref a), .val (.int (1 : Int32)), .val (.int (1 : Int32))] [(.ref a)]) (fun _ kz => XS.aloadN X1974.here hx rfl (hb hby od_121_25_30) rfl rfl kz) ?_
    refine own_g (mkF m 32 #[.val (.ref a), .val (.int (1 : Int32)), .val (.int (1 : Int32))] [(.int (1 : Int32)), (.ref a)]) (fun _ kz => XS.iloadN X1974.here hx rfl (hb hby od_121_25_31) rfl kz) ?_
    have Dz : own_D Z h1974 n0 lo a pb fb sb (own_or ff 1 16) mk mf cc := ⟨f1977, ⟨_, f1978⟩, f1979, ⟨_, f1980⟩, ⟨_, f1981⟩, f1982, f1983, f1984, f1985, ⟨_, f1986, p00, p10⟩, A1974, na0, (Nat.le_trans zl0 K1987.1), oa0, ob0, oc0, dm0, f1976⟩
    refine own_callV (rest := []) (a := a) (as := [(.int (1 : Int32))]) X1974 hx hZ hown e1974 (own_c_chg1 l Z a0 hw lo a pb fb sb (own_or ff 1 16) mk mf cc h1974 n0 s1975 (by omega) Dz) Dz.1 (own_w hw 220 rfl) (own_w hw 182 rfl) (own_w hw 184 rfl) (own_w hw 183 rfl) (own_w hw 14 rfl) (own_w hw 185 rfl) (by decide) own_pd5 rfl (by rw [hml]; rfl) rfl (hb hby od_121_25_32) 0 (by show 2 * 0 + _ ≤ _; exact Nat.le_of_eq rfl) (by decide) (by decide) (by decide) (by decide) ?_
    rintro _ T1988 L1988 X1988 ⟨rfl, Nq1988, KL1988, f1988', k1988', m1988', c1988', eq1988, lc1988, D1988⟩
    have N1988 := Fr.app N1974 Nq1988
    have zq1988 : n0 ≤ T1988.heap.size := Nat.le_trans s1975 KL1988.1
    have KX1988 := own_KL.trans K1987 KL1988
    show own_E p e below _ (T1988.setTop (mkF m 35 #[.val (.ref a), .val (.int (1 : Int32)), .val (.int (1 : Int32))] []))
    refine own_g (mkF m 36 #[.val (.ref a), .val (.int (1 : Int32)), .val (.int (1 : Int32))] [(.ref a)]) (fun _ kz => XS.aloadN X1988.here hx rfl (hb hby od_121_25_35) rfl rfl kz) ?_
    obtain ⟨T1989, X1989, e1989, st1989⟩ := getF X1988 hx hZ hown (host := "") (Or.inl (own_w hw 175 rfl)) Via.refl rfl D1988.2.2.2.2.2.2.2.1 (g := (mkF m 36 #[.val (.ref a), .val (.int (1 : Int32)), .val (.int (1 : Int32))] [(.ref a)])) rfl rfl (hb hby od_121_25_36)
    refine own_s st1989 ?_
    show own_E p e below _ (T1989.setTop (mkF m 39 #[.val (.ref a), .val (.int (1 : Int32)), .val (.int (1 : Int32))] [(.ref sb)]))
    refine own_g (mkF m 42 #[.val (.ref a), .val (.int (1 : Int32)), .val (.int (1 : Int32))] []) (fun _ kz => XS.ifnullNo X1989.here hx rfl (hb hby od_121_25_39) rfl kz) ?_
    refine own_g (mkF m 43 #[.val (.ref a), .val (.int (1 : Int32)), .val (.int (1 : Int32))] [(.int (1 : Int32))]) (fun _ kz => XS.iloadN X1989.here hx rfl (hb hby od_121_25_42) rfl kz) ?_
    refine own_g (mkF m 46 #[.val (.ref a), .val (.int (1 : Int32)), .val (.int (1 : Int32))] []) (fun _ kz => XS.ifNo X1989.here hx rfl (hb hby od_121_25_43) rfl ((if0 _ _).trans (feq (by decide)).1) kz) ?_
    refine own_g (mkF m 47 #[.val (.ref a), .val (.int (1 : Int32)), .val (.int (1 : Int32))] [(.ref a)]) (fun _ kz => XS.aloadN X1989.here hx rfl (hb hby od_121_25_46) rfl rfl kz) ?_
    refine own_g (mkF m 48 #[.val (.ref a), .val (.int (1 : Int32)), .val (.int (1 : Int32))] [(.int (1 : Int32)), (.ref a)]) (fun _ kz => XS.iloadN X1989.here hx rfl (hb hby od_121_25_47) rfl kz) ?_
    refine own_g (mkF m 49 #[.val (.ref a), .val (.int (1 : Int32)), .val (.int (1 : Int32))] [(.int (1 : Int32)), (.int (1 : Int32)), (.ref a)]) (fun _ kz => XS.iconst X1989.here hx rfl (hb hby od_121_25_48) kz) ?_
    refine own_g (mkF m 51 #[.val (.ref a), .val (.int (1 : Int32)), .val (.int (1 : Int32))] [(.int (16 : Int32)), (.int (1 : Int32)), (.int (1 : Int32)), (.ref a)]) (fun _ kz => XS.bipush X1989.here hx rfl (hb hby od_121_25_49) kz) ?_
    refine own_callP (rest := []) (a := a) (as := [(.int (1 : Int32)), (.int (1 : Int32)), (.int (16 : Int32))]) X1989 hx hZ hown e1989 (own_c_km l Z a0 hw lo a pb fb sb f1988' k1988' m1988' c1988' 1 16 T1988.heap n0 zq1988 (Or.inr rfl) (by omega) D1988) D1988.1 (own_w hw 193 rfl) (own_w hw 13 rfl) (own_w hw 195 rfl) (own_w hw 194 rfl) (own_w hw 14 rfl) (own_w hw 196 rfl) (by decide) own_pd4 rfl (by rw [hml]; rfl) rfl (hb hby od_121_25_51) 0 (by show 2 * 0 + _ ≤ _; exact Nat.le_of_eq rfl) (by decide) (by decide) (by decide) (by decide) ?_
    rintro _ T1990 L1990 X1990 ⟨rfl, Nq1990, KL1990, f1990', k1990', m1990', c1990', eq1990, D1990⟩
    have N1990 := Fr.app N1988 Nq1990
    have zq1990 : n0 ≤ T1990.heap.size := Nat.le_trans zq1988 KL1990.1
    have KX1990 := own_KL.trans KX1988 KL1990
    show own_E p e below _ (T1990.setTop (mkF m 54 #[.val (.ref a), .val (.int (1 : Int32)), .val (.int (1 : Int32))] []))
    exact own_retV X1990 hx hret hlk (hb hby od_121_25_54) (by decide) (by decide) ((⟨rfl, N1990, KX1990, f1990', k1990', m1990', c1990', by rw [eq1990, eq1988, own_ret]; exact (if_pos hf).symm, by injection eq1990 with _ q; injection q with _ q; injection q with _ q; have q' : c1990' = c1988' + 1 := q; omega, D1990⟩))
  · refine own_g (mkF m 16 #[.val (.ref a), .val (.int (1 : Int32)), .unset] []) (fun _ kz => XS.ifYes X1972.here hx rfl (pc0 := 9) (pc' := 16) rfl (hb hby od_121_25_9) rfl ((if0 _ _).trans (feq hf).2) (by decide) (by decide) kz) ?_
    refine own_g (mkF m 17 #[.val (.ref a), .val (.int (1 : Int32)), .unset] [(.int (0 : Int32))]) (fun _ kz => XS.iconst X1972.here hx rfl (hb hby od_121_25_16) kz) ?_
    refine own_g (mkF m 18 #[.val (.ref a), .val (.int (1 : Int32)), .val (.int (0 : Int32))] []) (fun _ kz => XS.istoreN X1972.here hx rfl (hb hby od_121_25_17) rfl (l' := #[.val (.ref a), .val (.int (1 : Int32)), .val (.int (0 : Int32))]) rfl kz) ?_
    refine own_g (mkF m 19 #[.val (.ref a), .val (.int (1 : Int32)), .val (.int (0 : Int32))] [(.ref a)]) (fun _ kz => XS.aloadN X1972.here hx rfl (hb hby od_121_25_18) rfl rfl kz) ?_
    obtain ⟨T1991, X1991, e1991, st1991⟩ := getF X1972 hx hZ hown (host := "") (Or.inl (own_w hw 46 rfl)) Via.refl e1972 Ff0 (g := (mkF m 19 #[.val (.ref a), .val (.int (1 : Int32)), .val (.int (0 : Int32))] [(.ref a)])) rfl rfl (hb hby od_121_25_19)
    refine own_s st1991 ?_
    show own_E p e below _ (T1991.setTop (mkF m 22 #[.val (.ref a), .val (.int (1 : Int32)), .val (.int (0 : Int32))] [(.ref fb)]))
    refine own_g (mkF m 23 #[.val (.ref a), .val (.int (1 : Int32)), .val (.int (0 : Int32))] [(.int (1 : Int32)), (.ref fb)]) (fun _ kz => XS.iloadN X1991.here hx rfl (hb hby od_121_25_22) rfl kz) ?_
    refine own_g (mkF m 24 #[.val (.ref a), .val (.int (1 : Int32)), .val (.int (0 : Int32))] [(.int (1 : Int32)), (.ref fb), (.int (1 : Int32)), (.ref fb)]) (fun _ kz => XT.dup2 X1991.here hx rfl (hb hby od_121_25_23) rfl rfl rfl kz) ?_
    refine own_ildB X1991 hx hZ e1991 Af0 (hb hby od_121_25_24) (by decide) (i := 1) rfl (by decide) (x := (ff 1)) rfl ?_
    show own_E p e below _ (T1991.setTop (mkF m 25 #[.val (.ref a), .val (.int (1 : Int32)), .val (.int (0 : Int32))] [(.int (ff 1)), (.int (1 : Int32)), (.ref fb)]))
    refine own_g (mkF m 27 #[.val (.ref a), .val (.int (1 : Int32)), .val (.int (0 : Int32))] [(.int (16 : Int32)), (.int (ff 1)), (.int (1 : Int32)), (.ref fb)]) (fun _ kz => XS.bipush X1991.here hx rfl (hb hby od_121_25_25) kz) ?_
    refine own_g (mkF m 28 #[.val (.ref a), .val (.int (1 : Int32)), .val (.int (0 : Int32))] [(.int ((ff 1) ||| (16 : Int32))), (.int (1 : Int32)), (.ref fb)]) (fun _ kz => XS.ior X1991.here hx rfl (hb hby od_121_25_27) rfl kz) ?_
    refine own_g (mkF m 29 #[.val (.ref a), .val (.int (1 : Int32)), .val (.int (0 : Int32))] [(.int ((ff 1) ||| (16 : Int32)).toInt8.toInt32), (.int (1 : Int32)), (.ref fb)]) (fun _ kz => XS.i2b X1991.here hx rfl (hb hby od_121_25_28) rfl kz) ?_
    refine own_stB X1991 hx hZ e1991 Af0 (hb hby od_121_25_29) (by decide) (i := 1) rfl (by decide) ?_
    intro T1992 h1992 X1992 e1992 W1992 A1992
    have N1992 := Fr.snoc X1992 N0 (by show @LE.le Nat _ _ _; omega)
    have s1993 : n0 ≤ h1992.size := Nat.le_trans Z0 (Keep.of_wr W1992).1
    have f1994 := own_M.arr W1992 (by show @Ne Nat _ _; omega) (by omega) Fk0
    have f1995 := Exa.wr W1992 E0
    have f1996 := Fld.other W1992 Fm0 (Or.inl (by show @Ne Nat _ _; omega))
    have f1997 := Fld.other W1992 Fb0 (Or.inl (by show @Ne Nat _ _; omega))
    have f1998 := Fld.other W1992 Fr0 (Or.inl (by show @Ne Nat _ _; omega))
    have f1999 := Fld.other W1992 Ft0 (Or.inl (by show @Ne Nat _ _; omega))
    have f2000 := Fld.other W1992 Fp0 (Or.inl (by show @Ne Nat _ _; omega))
    have f2001 := Fld.other W1992 Ff0 (Or.inl (by show @Ne Nat _ _; omega))
    have f2002 := Fld.other W1992 Fs0 (Or.inl (by show @Ne Nat _ _; omega))
    have f2003 := Fld.other W1992 Fc0 (Or.inl (by show @Ne Nat _ _; omega))
    have f2004 := Ap0.other W1992 (by show @Ne Nat _ _; omega)
    have K2005 := own_KL.wr KL0 W1992 (by omega)
    show own_E p e below _ (T1992.setTop (mkF m 30 #[.val (.ref a), .val (.int (1 : Int32)), .val (.int (0 : Int32))] []))
    refine own_g (mkF m 31 #[.val (.ref a), .val (.int (1 : Int32)), .val (.int (0 : Int32))] [(.ref a)]) (fun _ kz => XS.aloadN X1992.here hx rfl (hb hby od_121_25_30) rfl rfl kz) ?_
    refine own_g (mkF m 32 #[.val (.ref a), .val (.int (1 : Int32)), .val (.int (0 : Int32))] [(.int (1 : Int32)), (.ref a)]) (fun _ kz => XS.iloadN X1992.here hx rfl (hb hby od_121_25_31) rfl kz) ?_
    have Dz : own_D Z h1992 n0 lo a pb fb sb (own_or ff 1 16) mk mf cc := ⟨f1995, ⟨_, f1996⟩, f1997, ⟨_, f1998⟩, ⟨_, f1999⟩, f2000, f2001, f2002, f2003, ⟨_, f2004, p00, p10⟩, A1992, na0, (Nat.le_trans zl0 K2005.1), oa0, ob0, oc0, dm0, f1994⟩
    refine own_callV (rest := []) (a := a) (as := [(.int (1 : Int32))]) X1992 hx hZ hown e1992 (own_c_chg1 l Z a0 hw lo a pb fb sb (own_or ff 1 16) mk mf cc h1992 n0 s1993 (by omega) Dz) Dz.1 (own_w hw 220 rfl) (own_w hw 182 rfl) (own_w hw 184 rfl) (own_w hw 183 rfl) (own_w hw 14 rfl) (own_w hw 185 rfl) (by decide) own_pd5 rfl (by rw [hml]; rfl) rfl (hb hby od_121_25_32) 0 (by show 2 * 0 + _ ≤ _; exact Nat.le_of_eq rfl) (by decide) (by decide) (by decide) (by decide) ?_
    rintro _ T2006 L2006 X2006 ⟨rfl, Nq2006, KL2006, f2006', k2006', m2006', c2006', eq2006, lc2006, D2006⟩
    have N2006 := Fr.app N1992 Nq2006
    have zq2006 : n0 ≤ T2006.heap.size := Nat.le_trans s1993 KL2006.1
    have KX2006 := own_KL.trans K2005 KL2006
    show own_E p e below _ (T2006.setTop (mkF m 35 #[.val (.ref a), .val (.int (1 : Int32)), .val (.int (0 : Int32))] []))
    refine own_g (mkF m 36 #[.val (.ref a), .val (.int (1 : Int32)), .val (.int (0 : Int32))] [(.ref a)]) (fun _ kz => XS.aloadN X2006.here hx rfl (hb hby od_121_25_35) rfl rfl kz) ?_
    obtain ⟨T2007, X2007, e2007, st2007⟩ := getF X2006 hx hZ hown (host := "") (Or.inl (own_w hw 175 rfl)) Via.refl rfl D2006.2.2.2.2.2.2.2.1 (g := (mkF m 36 #[.val (.ref a), .val (.int (1 : Int32)), .val (.int (0 : Int32))] [(.ref a)])) rfl rfl (hb hby od_121_25_36)
    refine own_s st2007 ?_
    show own_E p e below _ (T2007.setTop (mkF m 39 #[.val (.ref a), .val (.int (1 : Int32)), .val (.int (0 : Int32))] [(.ref sb)]))
    refine own_g (mkF m 42 #[.val (.ref a), .val (.int (1 : Int32)), .val (.int (0 : Int32))] []) (fun _ kz => XS.ifnullNo X2007.here hx rfl (hb hby od_121_25_39) rfl kz) ?_
    refine own_g (mkF m 43 #[.val (.ref a), .val (.int (1 : Int32)), .val (.int (0 : Int32))] [(.int (0 : Int32))]) (fun _ kz => XS.iloadN X2007.here hx rfl (hb hby od_121_25_42) rfl kz) ?_
    refine own_g (mkF m 54 #[.val (.ref a), .val (.int (1 : Int32)), .val (.int (0 : Int32))] []) (fun _ kz => XS.ifYes X2007.here hx rfl (pc0 := 43) (pc' := 54) rfl (hb hby od_121_25_43) rfl ((if0 _ _).trans (teq (by decide)).1) (by decide) (by decide) kz) ?_
    exact own_retV X2007 hx hret hlk (hb hby od_121_25_54) (by decide) (by decide) (by first | exact ⟨rfl, N2006, KX2006, f2006', k2006', m2006', c2006', by rw [eq2006, own_ret]; exact (if_neg hf).symm, by omega, D2006⟩ | (rw [e2007]; exact ⟨rfl, N2006, KX2006, f2006', k2006', m2006', c2006', by rw [eq2006, own_ret]; exact (if_neg hf).symm, by omega, D2006⟩))
theorem od_121_27_0 : decode prog_121_method_27_code 0 = .ok (.aload_n 0, 1) := by decide +kernel
theorem od_121_27_1 : decode prog_121_method_27_code 1 = .ok (.getfield 311, 3) := by decide +kernel
theorem od_121_27_4 : decode prog_121_method_27_code 4 = .ok (.ireturn, 1) := by decide +kernel
set_option maxRecDepth 65536 in
set_option maxHeartbeats 40000000 in
theorem own_c_chm (l : Launch) (Z : State) (a0 : Array Value) (hw : ∀ d ∈ tables_1, d.before a0 Z = true) (lo : Nat) (a : Nat) (pb : Nat) (fb : Nat) (sb : Nat) (ff : Nat → Int32) (mk : Nat → Int32) (mf : Nat → Int32) (cc : Nat) (h0 : Heap) (n0 : Nat) (Z0 : n0 ≤ h0.size) (D0 : own_D Z h0 n0 lo a pb fb sb ff mk mf cc) :
    own_Con l Z (⟨"com/example/holdfast/holdfast/dom/CompactDocument", "changeMarks", "()I"⟩ : MethodName) prog_121_method_27_code 1 (some .int) [] ({ frames := 0, cells := 0, slots := 0, locals := 0 } : Room) #[(.ref a)] h0 (fun v h L => v = some (.int (Int32.ofNat cc)) ∧ L = [] ∧ h = h0) := by
  refine own_enter (plainFor_of_name own_pn6) ?_
  intro p e s m below meth c s₁ X0 e0 hx hZ hby hml hown hnm hret hlk
  refine own_cast (g' := (mkF m 0 #[.val (.ref a)] [])) (by first | (simp [entryFrame, mkF, argsToLocals, Value.category]; done) | rfl) ?_
  have N0 := Fr.nil n0
  obtain ⟨E0, ⟨vm0, Fm0⟩, Fb0, ⟨vr0, Fr0⟩, ⟨vt0, Ft0⟩, Fp0, Ff0, Fs0, Fc0, ⟨fp0, Ap0, p00, p10⟩, Af0, na0, zl0, oa0, ob0, oc0, dm0, Fk0⟩ := D0
  refine own_g (mkF m 1 #[.val (.ref a)] [(.ref a)]) (fun _ kz => XS.aloadN X0.here hx rfl (hb hby od_121_27_0) rfl rfl kz) ?_
  obtain ⟨T2008, X2008, e2008, st2008⟩ := getF X0 hx hZ hown (host := "") (Or.inl (own_w hw 199 rfl)) Via.refl e0 Fc0 (g := (mkF m 1 #[.val (.ref a)] [(.ref a)])) rfl rfl (hb hby od_121_27_1)
  refine own_s st2008 ?_
  show own_E p e below _ (T2008.setTop (mkF m 4 #[.val (.ref a)] [(.int (Int32.ofNat cc))]))
  exact own_retI X2008 hx hret hlk (hb hby od_121_27_4) (by decide) (by decide) (by first | exact ⟨rfl, rfl, rfl⟩ | (rw [e2008]; exact ⟨rfl, rfl, rfl⟩))
theorem od_121_28_0 : decode prog_121_method_28_code 0 = .ok (.aload_n 0, 1) := by decide +kernel
theorem od_121_28_1 : decode prog_121_method_28_code 1 = .ok (.getfield 311, 3) := by decide +kernel
theorem od_121_28_4 : decode prog_121_method_28_code 4 = .ok (.iload_n 1, 1) := by decide +kernel
theorem od_121_28_5 : decode prog_121_method_28_code 5 = .ok (.if_icmp .le 46, 3) := by decide +kernel
theorem od_121_28_51 : decode prog_121_method_28_code 51 = .ok (.return_, 1) := by decide +kernel
theorem od_121_28_8 : decode prog_121_method_28_code 8 = .ok (.aload_n 0, 1) := by decide +kernel
theorem od_121_28_9 : decode prog_121_method_28_code 9 = .ok (.dup, 1) := by decide +kernel
theorem od_121_28_10 : decode prog_121_method_28_code 10 = .ok (.getfield 311, 3) := by decide +kernel
theorem od_121_28_13 : decode prog_121_method_28_code 13 = .ok (.iconst 1, 1) := by decide +kernel
theorem od_121_28_14 : decode prog_121_method_28_code 14 = .ok (.isub, 1) := by decide +kernel
theorem od_121_28_15 : decode prog_121_method_28_code 15 = .ok (.putfield 311, 3) := by decide +kernel
theorem od_121_28_18 : decode prog_121_method_28_code 18 = .ok (.aload_n 0, 1) := by decide +kernel
theorem od_121_28_19 : decode prog_121_method_28_code 19 = .ok (.getfield 32, 3) := by decide +kernel
theorem od_121_28_22 : decode prog_121_method_28_code 22 = .ok (.aload_n 0, 1) := by decide +kernel
theorem od_121_28_23 : decode prog_121_method_28_code 23 = .ok (.getfield 308, 3) := by decide +kernel
theorem od_121_28_26 : decode prog_121_method_28_code 26 = .ok (.aload_n 0, 1) := by decide +kernel
theorem od_121_28_27 : decode prog_121_method_28_code 27 = .ok (.getfield 311, 3) := by decide +kernel
theorem od_121_28_30 : decode prog_121_method_28_code 30 = .ok (.iaload, 1) := by decide +kernel
theorem od_121_28_31 : decode prog_121_method_28_code 31 = .ok (.dup2, 1) := by decide +kernel
theorem od_121_28_32 : decode prog_121_method_28_code 32 = .ok (.baload, 1) := by decide +kernel
theorem od_121_28_33 : decode prog_121_method_28_code 33 = .ok (.aload_n 0, 1) := by decide +kernel
theorem od_121_28_34 : decode prog_121_method_28_code 34 = .ok (.getfield 320, 3) := by decide +kernel
theorem od_121_28_37 : decode prog_121_method_28_code 37 = .ok (.aload_n 0, 1) := by decide +kernel
theorem od_121_28_38 : decode prog_121_method_28_code 38 = .ok (.getfield 311, 3) := by decide +kernel
theorem od_121_28_41 : decode prog_121_method_28_code 41 = .ok (.baload, 1) := by decide +kernel
theorem od_121_28_42 : decode prog_121_method_28_code 42 = .ok (.iconst (-1), 1) := by decide +kernel
theorem od_121_28_43 : decode prog_121_method_28_code 43 = .ok (.ixor, 1) := by decide +kernel
theorem od_121_28_44 : decode prog_121_method_28_code 44 = .ok (.i2b, 1) := by decide +kernel
theorem od_121_28_45 : decode prog_121_method_28_code 45 = .ok (.iand, 1) := by decide +kernel
theorem od_121_28_46 : decode prog_121_method_28_code 46 = .ok (.i2b, 1) := by decide +kernel
theorem od_121_28_47 : decode prog_121_method_28_code 47 = .ok (.bastore, 1) := by decide +kernel
theorem od_121_28_48 : decode prog_121_method_28_code 48 = .ok (.goto (-48), 3) := by decide +kernel
set_option maxRecDepth 65536 in
set_option maxHeartbeats 40000000 in
theorem own_c_unm (l : Launch) (Z : State) (a0 : Array Value) (hw : ∀ d ∈ tables_1, d.before a0 Z = true) (lo : Nat) (a : Nat) (pb : Nat) (fb : Nat) (sb : Nat) (ff : Nat → Int32) (mk : Nat → Int32) (mf : Nat → Int32) (cc : Nat) (mm : Nat) (h0 : Heap) (n0 : Nat) (Z0 : n0 ≤ h0.size) (hm : mm ≤ cc) (hcc : cc < 60) (D0 : own_D Z h0 n0 lo a pb fb sb ff mk mf cc) :
    own_Con l Z (⟨"com/example/holdfast/holdfast/dom/CompactDocument", "unmarkSince", "(I)V"⟩ : MethodName) prog_121_method_28_code 2 none [] ({ frames := 0, cells := 0, slots := 0, locals := 0 } : Room) #[(.ref a), (.int (Int32.ofNat mm))] h0 (fun v h L => v = none ∧ Fr n0 L ∧ own_KL fb lo h0 h ∧ ∃ f' k' m' c', (f', k', m', c') = own_un (cc - mm) (ff, mk, mf, cc) ∧ own_D Z h n0 lo a pb fb sb f' k' m' c') := by
  refine own_enter (plainFor_of_name own_pn6) ?_
  intro p e s m below meth c s₁ X0 e0 hx hZ hby hml hown hnm hret hlk
  refine own_cast (g' := (mkF m 0 #[.val (.ref a), .val (.int (Int32.ofNat mm))] [])) (by first | (simp [entryFrame, mkF, argsToLocals, Value.category]; done) | rfl) ?_
  have N0 := Fr.nil n0
  have KL0 : own_KL fb lo h0 h0 := own_KL.refl h0
  have loop : ∀ (kk : Nat) (ff : Nat → Int32) (cc : Nat) (T : State) (L : List Loc), cc = mm + kk → cc < 60 → Stand p l e ({ frames := 0, cells := 0, slots := 0, locals := 0 } : Room) s m #[(.ref a), (.int (Int32.ofNat mm))] below meth c T L 0 0 → n0 ≤ T.heap.size → Fr n0 L → own_KL fb lo h0 T.heap → own_D Z T.heap n0 lo a pb fb sb ff mk mf cc → own_E p e below (own_P (fun v h L => v = none ∧ Fr n0 L ∧ own_KL fb lo h0 h ∧ ∃ f' k' m' c', (f', k', m', c') = own_un kk (ff, mk, mf, cc) ∧ own_D Z h n0 lo a pb fb sb f' k' m' c') s 0 0) (T.setTop (mkF m 0 #[.val (.ref a), .val (.int (Int32.ofNat mm))] [])) := by
    intro kk
    induction kk with
    | zero =>
      intro ff cc T L hk hcc X zz N K D
      obtain rfl : cc = mm := by omega
      have Dk := D
      obtain ⟨E1, ⟨vm1, Fm1⟩, Fb1, ⟨vr1, Fr1⟩, ⟨vt1, Ft1⟩, Fp1, Ff1, Fs1, Fc1, ⟨fp1, Ap1, p01, p11⟩, Af1, na1, zl1, oa1, ob1, oc1, dm1, Fk1⟩ := D
      show own_E p e below _ (T.setTop (mkF m 0 #[.val (.ref a), .val (.int (Int32.ofNat cc))] []))
      refine own_g (mkF m 1 #[.val (.ref a), .val (.int (Int32.ofNat cc))] [(.ref a)]) (fun _ kz => XS.aloadN X.here hx rfl (hb hby od_121_28_0) rfl rfl kz) ?_
      obtain ⟨T2009, X2009, e2009, st2009⟩ := getF X hx hZ hown (host := "") (Or.inl (own_w hw 199 rfl)) Via.refl rfl Fc1 (g := (mkF m 1 #[.val (.ref a), .val (.int (Int32.ofNat cc))] [(.ref a)])) rfl rfl (hb hby od_121_28_1)
      refine own_s st2009 ?_
      show own_E p e below _ (T2009.setTop (mkF m 4 #[.val (.ref a), .val (.int (Int32.ofNat cc))] [(.int (Int32.ofNat cc))]))
      refine own_g (mkF m 5 #[.val (.ref a), .val (.int (Int32.ofNat cc))] [(.int (Int32.ofNat cc)), (.int (Int32.ofNat cc))]) (fun _ kz => XS.iloadN X2009.here hx rfl (hb hby od_121_28_4) rfl kz) ?_
      refine own_g (mkF m 51 #[.val (.ref a), .val (.int (Int32.ofNat cc))] []) (fun _ kz => XS.icmpYes X2009.here hx rfl (pc0 := 5) (pc' := 51) rfl (hb hby od_121_28_5) rfl (flt (Int32.lt_irrefl)).2.2.2 (by decide) (by decide) kz) ?_
      exact own_retV X2009 hx hret hlk (hb hby od_121_28_51) (by decide) (by decide) (by first | exact ⟨rfl, N, K, ff, mk, mf, cc, rfl, Dk⟩ | (rw [e2009]; exact ⟨rfl, N, K, ff, mk, mf, cc, rfl, Dk⟩))
    | succ kk ih =>
      intro ff cc T L hk hcc X zz N K D
      obtain ⟨c1, rfl⟩ : ∃ c1, cc = c1 + 1 := ⟨mm + kk, by omega⟩
      obtain ⟨E1, ⟨vm1, Fm1⟩, Fb1, ⟨vr1, Fr1⟩, ⟨vt1, Ft1⟩, Fp1, Ff1, Fs1, Fc1, ⟨fp1, Ap1, p01, p11⟩, Af1, na1, zl1, oa1, ob1, oc1, dm1, Fk1⟩ := D
      rcases Fk1 with ⟨M0, M1, hc0, hmk, hmf⟩ | ⟨mb, gb, omb, ogb, M0, M1, Am, Ag⟩
      · exact absurd hc0 (by omega)
      · have hmc := dm1 c1 (by omega)
        show own_E p e below _ (T.setTop (mkF m 0 #[.val (.ref a), .val (.int (Int32.ofNat mm))] []))
        refine own_g (mkF m 1 #[.val (.ref a), .val (.int (Int32.ofNat mm))] [(.ref a)]) (fun _ kz => XS.aloadN X.here hx rfl (hb hby od_121_28_0) rfl rfl kz) ?_
        obtain ⟨T2010, X2010, e2010, st2010⟩ := getF X hx hZ hown (host := "") (Or.inl (own_w hw 199 rfl)) Via.refl rfl Fc1 (g := (mkF m 1 #[.val (.ref a), .val (.int (Int32.ofNat mm))] [(.ref a)])) rfl rfl (hb hby od_121_28_1)
        refine own_s st2010 ?_
        show own_E p e below _ (T2010.setTop (mkF m 4 #[.val (.ref a), .val (.int (Int32.ofNat mm))] [(.int (Int32.ofNat (c1 + 1)))]))
        refine own_g (mkF m 5 #[.val (.ref a), .val (.int (Int32.ofNat mm))] [(.int (Int32.ofNat mm)), (.int (Int32.ofNat (c1 + 1)))]) (fun _ kz => XS.iloadN X2010.here hx rfl (hb hby od_121_28_4) rfl kz) ?_
        refine own_g (mkF m 8 #[.val (.ref a), .val (.int (Int32.ofNat mm))] []) (fun _ kz => XS.icmpNo X2010.here hx rfl (hb hby od_121_28_5) rfl (tlt (own_lt (show mm < c1 + 1 by omega) (by omega))).2.2.2 kz) ?_
        refine own_g (mkF m 9 #[.val (.ref a), .val (.int (Int32.ofNat mm))] [(.ref a)]) (fun _ kz => XS.aloadN X2010.here hx rfl (hb hby od_121_28_8) rfl rfl kz) ?_
        refine own_g (mkF m 10 #[.val (.ref a), .val (.int (Int32.ofNat mm))] [(.ref a), (.ref a)]) (fun _ kz => XS.dup X2010.here hx rfl (hb hby od_121_28_9) rfl rfl kz) ?_
        obtain ⟨T2011, X2011, e2011, st2011⟩ := getF X2010 hx hZ hown (host := "") (Or.inl (own_w hw 199 rfl)) Via.refl e2010 Fc1 (g := (mkF m 10 #[.val (.ref a), .val (.int (Int32.ofNat mm))] [(.ref a), (.ref a)])) rfl rfl (hb hby od_121_28_10)
        refine own_s st2011 ?_
        show own_E p e below _ (T2011.setTop (mkF m 13 #[.val (.ref a), .val (.int (Int32.ofNat mm))] [(.int (Int32.ofNat (c1 + 1))), (.ref a)]))
        refine own_g (mkF m 14 #[.val (.ref a), .val (.int (Int32.ofNat mm))] [(.int (1 : Int32)), (.int (Int32.ofNat (c1 + 1))), (.ref a)]) (fun _ kz => XS.iconst X2011.here hx rfl (hb hby od_121_28_13) kz) ?_
        refine own_g (mkF m 15 #[.val (.ref a), .val (.int (Int32.ofNat mm))] [(.int ((Int32.ofNat (c1 + 1)) - (1 : Int32))), (.ref a)]) (fun _ kz => XS.isub X2011.here hx rfl (hb hby od_121_28_14) rfl kz) ?_
        rw [own_pred]
        show own_E p e below _ (T2011.setTop (mkF m 15 #[.val (.ref a), .val (.int (Int32.ofNat mm))] [(.int (Int32.ofNat c1)), (.ref a)]))
        obtain ⟨T2012, h2012, X2012, e2012, W2012, st2012⟩ := putF X2011 hx hZ hown (host := "") (Or.inl (own_w hw 199 rfl)) Via.refl e2011 Fc1 E1 (Or.inl (own_w hw 200 rfl)) (own_w hw 13 rfl) (ty := .int) (by decide) rfl rfl (g := (mkF m 15 #[.val (.ref a), .val (.int (Int32.ofNat mm))] [(.int (Int32.ofNat c1)), (.ref a)])) rfl rfl (hb hby od_121_28_15)
        have N2012 := Fr.snoc X2012 N na1
        have s2013 : n0 ≤ h2012.size := Nat.le_trans zz (Keep.of_wr W2012).1
        have f2014 := Exa.wr W2012 E1
        have f2015 := Fld.other W2012 Fm1 (Or.inr (slot_ne (Or.inl (own_w hw 187 rfl)) (Or.inl (own_w hw 200 rfl)) (by decide) (t := .int) (t' := .int) (by decide) (by decide)))
        have f2016 := Fld.other W2012 Fb1 (Or.inr (slot_ne (Or.inl (own_w hw 169 rfl)) (Or.inl (own_w hw 200 rfl)) (by decide) (t := .int) (t' := .int) (by decide) (by decide)))
        have f2017 := Fld.other W2012 Fr1 (Or.inr (slot_ne (Or.inl (own_w hw 190 rfl)) (Or.inl (own_w hw 200 rfl)) (by decide) (t := .int) (t' := .int) (by decide) (by decide)))
        have f2018 := Fld.other W2012 Ft1 (Or.inr (slot_ne (Or.inl (own_w hw 192 rfl)) (Or.inl (own_w hw 200 rfl)) (by decide) (t := .int) (t' := .int) (by decide) (by decide)))
        have f2019 := Fld.other W2012 Fp1 (Or.inr (slot_ne (Or.inl (own_w hw 35 rfl)) (Or.inl (own_w hw 200 rfl)) (by decide) (t := (.array .int)) (t' := .int) (by decide) (by decide)))
        have f2020 := Fld.other W2012 Ff1 (Or.inr (slot_ne (Or.inl (own_w hw 47 rfl)) (Or.inl (own_w hw 200 rfl)) (by decide) (t := (.array .byte)) (t' := .int) (by decide) (by decide)))
        have f2021 := Fld.other W2012 Fs1 (Or.inr (slot_ne (Or.inl (own_w hw 159 rfl)) (Or.inl (own_w hw 200 rfl)) (by decide) (t := (.array .int)) (t' := .int) (by decide) (by decide)))
        have f2022 := Ap1.other W2012 (by show @Ne Nat _ _; omega)
        have f2023 := Af1.other W2012 (by show @Ne Nat _ _; omega)
        have f2024 := Fld.other W2012 M0 (Or.inr (slot_ne (Or.inl (own_w hw 198 rfl)) (Or.inl (own_w hw 200 rfl)) (by decide) (t := (.array .int)) (t' := .int) (by decide) (by decide)))
        have f2025 := Fld.other W2012 M1 (Or.inr (slot_ne (Or.inl (own_w hw 203 rfl)) (Or.inl (own_w hw 200 rfl)) (by decide) (t := (.array .byte)) (t' := .int) (by decide) (by decide)))
        have f2026 := Am.other W2012 (by show @Ne Nat _ _; omega)
        have f2027 := Ag.other W2012 (by show @Ne Nat _ _; omega)
        have K2028 := own_KL.wr K W2012 (by omega)
        have f2029 := Fld.same W2012 Fc1
        refine own_s st2012 ?_
        show own_E p e below _ (T2012.setTop (mkF m 18 #[.val (.ref a), .val (.int (Int32.ofNat mm))] []))
        refine own_g (mkF m 19 #[.val (.ref a), .val (.int (Int32.ofNat mm))] [(.ref a)]) (fun _ kz => XS.aloadN X2012.here hx rfl (hb hby od_121_28_18) rfl rfl kz) ?_
        obtain ⟨T2030, X2030, e2030, st2030⟩ := getF X2012 hx hZ hown (host := "") (Or.inl (own_w hw 46 rfl)) Via.refl e2012 f2020 (g := (mkF m 19 #[.val (.ref a), .val (.int (Int32.ofNat mm))] [(.ref a)])) rfl rfl (hb hby od_121_28_19)
        refine own_s st2030 ?_
        show own_E p e below _ (T2030.setTop (mkF m 22 #[.val (.ref a), .val (.int (Int32.ofNat mm))] [(.ref fb)]))
        refine own_g (mkF m 23 #[.val (.ref a), .val (.int (Int32.ofNat mm))] [(.ref a), (.ref fb)]) (fun _ kz => XS.aloadN X2030.here hx rfl (hb hby od_121_28_22) rfl rfl kz) ?_
        obtain ⟨T2031, X2031, e2031, st2031⟩ := getF X2030 hx hZ hown (host := "") (Or.inl (own_w hw 197 rfl)) Via.refl e2030 f2024 (g := (mkF m 23 #[.val (.ref a), .val (.int (Int32.ofNat mm))] [(.ref a), (.ref fb)])) rfl rfl (hb hby od_121_28_23)
        refine own_s st2031 ?_
        show own_E p e below _ (T2031.setTop (mkF m 26 #[.val (.ref a), .val (.int (Int32.ofNat mm))] [(.ref mb), (.ref fb)]))
        refine own_g (mkF m 27 #[.val (.ref a), .val (.int (Int32.ofNat mm))] [(.ref a), (.ref mb), (.ref fb)]) (fun _ kz => XS.aloadN X2031.here hx rfl (hb hby od_121_28_26) rfl rfl kz) ?_
        obtain ⟨T2032, X2032, e2032, st2032⟩ := getF X2031 hx hZ hown (host := "") (Or.inl (own_w hw 199 rfl)) Via.refl e2031 f2029 (g := (mkF m 27 #[.val (.ref a), .val (.int (Int32.ofNat mm))] [(.ref a), (.ref mb), (.ref fb)])) rfl rfl (hb hby od_121_28_27)
        refine own_s st2032 ?_
        show own_E p e below _ (T2032.setTop (mkF m 30 #[.val (.ref a), .val (.int (Int32.ofNat mm))] [(.int (Int32.ofNat c1)), (.ref mb), (.ref fb)]))
        refine own_ildI X2032 hx hZ e2032 f2026 (hb hby od_121_28_30) (own_nn (by omega)).1 (i := c1) (own_nn (by omega)).2 (by omega) (x := (mk c1)) rfl ?_
        show own_E p e below _ (T2032.setTop (mkF m 31 #[.val (.ref a), .val (.int (Int32.ofNat mm))] [(.int (mk c1)), (.ref fb)]))
        refine own_g (mkF m 32 #[.val (.ref a), .val (.int (Int32.ofNat mm))] [(.int (mk c1)), (.ref fb), (.int (mk c1)), (.ref fb)]) (fun _ kz => XT.dup2 X2032.here hx rfl (hb hby od_121_28_31) rfl rfl rfl kz) ?_
        refine own_ildB X2032 hx hZ e2032 f2023 (hb hby od_121_28_32) (own_d01 hmc).1 (i := (mk c1).toNatClampNeg) rfl (own_d01 hmc).2 (x := (ff (mk c1).toNatClampNeg)) rfl ?_
        show own_E p e below _ (T2032.setTop (mkF m 33 #[.val (.ref a), .val (.int (Int32.ofNat mm))] [(.int (ff (mk c1).toNatClampNeg)), (.int (mk c1)), (.ref fb)]))
        refine own_g (mkF m 34 #[.val (.ref a), .val (.int (Int32.ofNat mm))] [(.ref a), (.int (ff (mk c1).toNatClampNeg)), (.int (mk c1)), (.ref fb)]) (fun _ kz => XS.aloadN X2032.here hx rfl (hb hby od_121_28_33) rfl rfl kz) ?_
        obtain ⟨T2033, X2033, e2033, st2033⟩ := getF X2032 hx hZ hown (host := "") (Or.inl (own_w hw 202 rfl)) Via.refl e2032 f2025 (g := (mkF m 34 #[.val (.ref a), .val (.int (Int32.ofNat mm))] [(.ref a), (.int (ff (mk c1).toNatClampNeg)), (.int (mk c1)), (.ref fb)])) rfl rfl (hb hby od_121_28_34)
        refine own_s st2033 ?_
        show own_E p e below _ (T2033.setTop (mkF m 37 #[.val (.ref a), .val (.int (Int32.ofNat mm))] [(.ref gb), (.int (ff (mk c1).toNatClampNeg)), (.int (mk c1)), (.ref fb)]))
        refine own_g (mkF m 38 #[.val (.ref a), .val (.int (Int32.ofNat mm))] [(.ref a), (.ref gb), (.int (ff (mk c1).toNatClampNeg)), (.int (mk c1)), (.ref fb)]) (fun _ kz => XS.aloadN X2033.here hx rfl (hb hby od_121_28_37) rfl rfl kz) ?_
        obtain ⟨T2034, X2034, e2034, st2034⟩ := getF X2033 hx hZ hown (host := "") (Or.inl (own_w hw 199 rfl)) Via.refl e2033 f2029 (g := (mkF m 38 #[.val (.ref a), .val (.int (Int32.ofNat mm))] [(.ref a), (.ref gb), (.int (ff (mk c1).toNatClampNeg)), (.int (mk c1)), (.ref fb)])) rfl rfl (hb hby od_121_28_38)
        refine own_s st2034 ?_
        show own_E p e below _ (T2034.setTop (mkF m 41 #[.val (.ref a), .val (.int (Int32.ofNat mm))] [(.int (Int32.ofNat c1)), (.ref gb), (.int (ff (mk c1).toNatClampNeg)), (.int (mk c1)), (.ref fb)]))
        refine own_ildB X2034 hx hZ e2034 f2027 (hb hby od_121_28_41) (own_nn (by omega)).1 (i := c1) (own_nn (by omega)).2 (by omega) (x := (mf c1)) rfl ?_
        show own_E p e below _ (T2034.setTop (mkF m 42 #[.val (.ref a), .val (.int (Int32.ofNat mm))] [(.int (mf c1)), (.int (ff (mk c1).toNatClampNeg)), (.int (mk c1)), (.ref fb)]))
        refine own_g (mkF m 43 #[.val (.ref a), .val (.int (Int32.ofNat mm))] [(.int (-1 : Int32)), (.int (mf c1)), (.int (ff (mk c1).toNatClampNeg)), (.int (mk c1)), (.ref fb)]) (fun _ kz => XS.iconst X2034.here hx rfl (hb hby od_121_28_42) kz) ?_
        refine own_g (mkF m 44 #[.val (.ref a), .val (.int (Int32.ofNat mm))] [(.int ((mf c1) ^^^ (-1 : Int32))), (.int (ff (mk c1).toNatClampNeg)), (.int (mk c1)), (.ref fb)]) (fun _ kz => XS.ixor X2034.here hx rfl (hb hby od_121_28_43) rfl kz) ?_
        refine own_g (mkF m 45 #[.val (.ref a), .val (.int (Int32.ofNat mm))] [(.int ((mf c1) ^^^ (-1 : Int32)).toInt8.toInt32), (.int (ff (mk c1).toNatClampNeg)), (.int (mk c1)), (.ref fb)]) (fun _ kz => XS.i2b X2034.here hx rfl (hb hby od_121_28_44) rfl kz) ?_
        refine own_g (mkF m 46 #[.val (.ref a), .val (.int (Int32.ofNat mm))] [(.int ((ff (mk c1).toNatClampNeg) &&& ((mf c1) ^^^ (-1 : Int32)).toInt8.toInt32)), (.int (mk c1)), (.ref fb)]) (fun _ kz => XS.iand X2034.here hx rfl (hb hby od_121_28_45) rfl kz) ?_
        refine own_g (mkF m 47 #[.val (.ref a), .val (.int (Int32.ofNat mm))] [(.int ((ff (mk c1).toNatClampNeg) &&& ((mf c1) ^^^ (-1 : Int32)).toInt8.toInt32).toInt8.toInt32), (.int (mk c1)), (.ref fb)]) (fun _ kz => XS.i2b X2034.here hx rfl (hb hby od_121_28_46) rfl kz) ?_
        refine own_stB X2034 hx hZ e2034 f2023 (hb hby od_121_28_47) (own_d01 hmc).1 (i := (mk c1).toNatClampNeg) rfl (own_d01 hmc).2 ?_
        intro T2035 h2035 X2035 e2035 W2035 A2035
        have N2035 := Fr.snoc X2035 N2012 (by show @LE.le Nat _ _ _; omega)
        have s2036 : n0 ≤ h2035.size := Nat.le_trans s2013 (Keep.of_wr W2035).1
        have f2037 := Exa.wr W2035 f2014
        have f2038 := Fld.other W2035 f2015 (Or.inl (by show @Ne Nat _ _; omega))
        have f2039 := Fld.other W2035 f2016 (Or.inl (by show @Ne Nat _ _; omega))
        have f2040 := Fld.other W2035 f2017 (Or.inl (by show @Ne Nat _ _; omega))
        have f2041 := Fld.other W2035 f2018 (Or.inl (by show @Ne Nat _ _; omega))
        have f2042 := Fld.other W2035 f2019 (Or.inl (by show @Ne Nat _ _; omega))
        have f2043 := Fld.other W2035 f2020 (Or.inl (by show @Ne Nat _ _; omega))
        have f2044 := Fld.other W2035 f2021 (Or.inl (by show @Ne Nat _ _; omega))
        have f2045 := Fld.other W2035 f2029 (Or.inl (by show @Ne Nat _ _; omega))
        have f2046 := f2022.other W2035 (by show @Ne Nat _ _; omega)
        have f2047 := Fld.other W2035 f2024 (Or.inl (by show @Ne Nat _ _; omega))
        have f2048 := Fld.other W2035 f2025 (Or.inl (by show @Ne Nat _ _; omega))
        have f2049 := f2026.other W2035 (by show @Ne Nat _ _; omega)
        have f2050 := f2027.other W2035 (by show @Ne Nat _ _; omega)
        have K2051 := own_KL.wr K2028 W2035 (by omega)
        show own_E p e below _ (T2035.setTop (mkF m 48 #[.val (.ref a), .val (.int (Int32.ofNat mm))] []))
        refine own_g (mkF m 0 #[.val (.ref a), .val (.int (Int32.ofNat mm))] []) (fun _ kz => XS.goto X2035.here hx rfl (pc0 := 48) (pc' := 0) rfl (hb hby od_121_28_48) (by decide) (by decide) kz) ?_
        have szN : T.heap.size ≤ h2035.size := by simp only [W2035.size, W2012.size]; exact Nat.le_refl _
        have Dn : own_D Z h2035 n0 lo a pb fb sb (own_set ff (mk c1).toNatClampNeg (nar .byte ((ff (mk c1).toNatClampNeg) &&& ((mf c1) ^^^ (-1 : Int32)).toInt8.toInt32).toInt8.toInt32)) mk mf c1 := ⟨f2037, ⟨_, f2038⟩, f2039, ⟨_, f2040⟩, ⟨_, f2041⟩, f2042, f2043, f2044, f2045, ⟨_, f2046, p01, p11⟩, A2035, na1, Nat.le_trans zl1 szN, oa1, ob1, oc1, fun p hp => dm1 p (by omega), Or.inr ⟨mb, gb, omb, ogb, f2047, f2048, f2049, f2050⟩⟩
        exact ih _ c1 _ _ (by omega) (by omega) X2035 (by rw [e2035]; exact s2036) N2035 (by rw [e2035]; exact K2051) (by rw [e2035]; exact Dn)
  have kx : cc = mm + (cc - mm) := by omega
  exact loop (cc - mm) ff cc _ _ kx hcc X0 (by rw [e0]; exact Z0) N0 (by rw [e0]; exact KL0) (by rw [e0]; exact D0)
theorem own_pn8 : plainName "com/example/holdfast/holdfast/dom/CompactDocumentUnmarkSincePinLaw" = true := by first | (simp [plainName, overriddenIn]; done) | decide +kernel
theorem od_2_0 : decode method_2_code 0 = .ok (.iload 7, 2) := by decide +kernel
theorem od_2_2 : decode method_2_code 2 = .ok (.iconst 1, 1) := by decide +kernel
theorem od_2_3 : decode method_2_code 3 = .ok (.iand, 1) := by decide +kernel
theorem od_2_4 : decode method_2_code 4 = .ok (.istore 8, 2) := by decide +kernel
theorem od_2_6 : decode method_2_code 6 = .ok (.iload 6, 2) := by decide +kernel
theorem od_2_8 : decode method_2_code 8 = .ok (.istore 9, 2) := by decide +kernel
theorem od_2_10 : decode method_2_code 10 = .ok (.iload 7, 2) := by decide +kernel
theorem od_2_12 : decode method_2_code 12 = .ok (.iconst 2, 1) := by decide +kernel
theorem od_2_13 : decode method_2_code 13 = .ok (.iand, 1) := by decide +kernel
theorem od_2_14 : decode method_2_code 14 = .ok (.ifCond .eq 58, 3) := by decide +kernel
theorem od_2_72 : decode method_2_code 72 = .ok (.aload_n 0, 1) := by decide +kernel
theorem od_2_73 : decode method_2_code 73 = .ok (.aload_n 1, 1) := by decide +kernel
theorem od_2_74 : decode method_2_code 74 = .ok (.iload 8, 2) := by decide +kernel
theorem od_2_76 : decode method_2_code 76 = .ok (.iaload, 1) := by decide +kernel
theorem od_2_77 : decode method_2_code 77 = .ok (.invokevirtual 13, 3) := by decide +kernel
theorem od_2_80 : decode method_2_code 80 = .ok (.aload_n 2, 1) := by decide +kernel
theorem od_2_81 : decode method_2_code 81 = .ok (.iload 8, 2) := by decide +kernel
theorem od_2_83 : decode method_2_code 83 = .ok (.baload, 1) := by decide +kernel
theorem od_2_84 : decode method_2_code 84 = .ok (.ifCond .ne 18, 3) := by decide +kernel
theorem od_2_87 : decode method_2_code 87 = .ok (.aload_n 2, 1) := by decide +kernel
theorem od_2_88 : decode method_2_code 88 = .ok (.iload 8, 2) := by decide +kernel
theorem od_2_90 : decode method_2_code 90 = .ok (.iconst 1, 1) := by decide +kernel
theorem od_2_91 : decode method_2_code 91 = .ok (.bastore, 1) := by decide +kernel
theorem od_2_92 : decode method_2_code 92 = .ok (.aload 4, 2) := by decide +kernel
theorem od_2_94 : decode method_2_code 94 = .ok (.iload 8, 2) := by decide +kernel
theorem od_2_96 : decode method_2_code 96 = .ok (.iload 9, 2) := by decide +kernel
theorem od_2_98 : decode method_2_code 98 = .ok (.iastore, 1) := by decide +kernel
theorem od_2_99 : decode method_2_code 99 = .ok (.iinc 9 1, 3) := by decide +kernel
theorem od_2_102 : decode method_2_code 102 = .ok (.iload 9, 2) := by decide +kernel
theorem od_2_104 : decode method_2_code 104 = .ok (.ireturn, 1) := by decide +kernel
set_option maxRecDepth 65536 in
set_option maxHeartbeats 40000000 in
theorem own_c_app0 (l : Launch) (Z : State) (a0 : Array Value) (hw : ∀ d ∈ tables_1, d.before a0 Z = true) (lo : Nat) (a : Nat) (pb : Nat) (fb : Nat) (sb : Nat) (ff : Nat → Int32) (mk : Nat → Int32) (mf : Nat → Int32) (cc : Nat) (ib : Nat) (cb : Nat) (rb : Nat) (xb : Nat) (yb : Nat) (fi : Nat → Int32) (fch : Nat → Int32) (frt : Nat → Int32) (fx : Nat → Int32) (fy : Nat → Int32) (mc : Int32) (h0 : Heap) (n0 : Nat) (Z0 : n0 ≤ h0.size) (hcc : cc < 50) (D0 : own_D Z h0 n0 lo a pb fb sb ff mk mf cc) (o1 : fb < ib) (o2 : ib < cb) (o3 : cb < rb) (o4 : rb < xb) (o5 : xb < yb) (o6 : yb < lo) (Ai : own_IA Z h0 ib .int 2 fi) (i0 : fi 0 = 0) (i1 : fi 1 = 1) (Ac : own_IA Z h0 cb .boolean 2 fch) (Ar : own_IA Z h0 rb .boolean 2 frt) (Ax : own_IA Z h0 xb .int 2 fx) (Ay : own_IA Z h0 yb .int 2 fy) :
    own_Con l Z (⟨"com/example/holdfast/holdfast/dom/CompactDocumentUnmarkSincePinLaw", "apply", "(Lcom/example/holdfast/holdfast/dom/CompactDocument;[I[Z[Z[I[III)I"⟩ : MethodName) method_2_code 10 (some .int) [] ({ frames := 4, cells := 4, slots := 256, locals := 60 } : Room) #[(.ref a), (.ref ib), (.ref cb), (.ref rb), (.ref xb), (.ref yb), (.int mc), (.int (0 : Int32))] h0 (fun v h L => ∃ f' k' m' c' u1 u2 u3 u4 u5, v = some (.int u5) ∧ Fr n0 L ∧ own_KL yb lo h0 h ∧ ((f', k', m', c'), (u1, u2, u3, u4, u5)) = own_apl 0 (ff, mk, mf, cc) (fch, frt, fx, fy, mc) ∧ c' ≤ cc + 2 ∧ own_D Z h n0 lo a pb fb sb f' k' m' c' ∧ own_IA Z h ib .int 2 fi ∧ own_IA Z h cb .boolean 2 u1 ∧ own_IA Z h rb .boolean 2 u2 ∧ own_IA Z h xb .int 2 u3 ∧ own_IA Z h yb .int 2 u4) := by
  refine own_enter (plainFor_of_name own_pn8) ?_
  intro p e s m below meth c s₁ X0 e0 hx hZ hby hml hown hnm hret hlk
  refine own_cast (g' := (mkF m 0 #[.val (.ref a), .val (.ref ib), .val (.ref cb), .val (.ref rb), .val (.ref xb), .val (.ref yb), .val (.int mc), .val (.int (0 : Int32)), .unset, .unset] [])) (by first | (simp [entryFrame, mkF, argsToLocals, Value.category]; done) | rfl) ?_
  have N0 := Fr.nil n0
  have oc := D0.2.2.2.2.2.2.2.2.2.2.2.2.2.2.2.1
  have ob := D0.2.2.2.2.2.2.2.2.2.2.2.2.2.2.1
  have oa := D0.2.2.2.2.2.2.2.2.2.2.2.2.2.1
  have na := D0.2.2.2.2.2.2.2.2.2.2.2.1
  have KL0 : own_KL yb lo h0 h0 := own_KL.refl h0
  refine own_g (mkF m 2 #[.val (.ref a), .val (.ref ib), .val (.ref cb), .val (.ref rb), .val (.ref xb), .val (.ref yb), .val (.int mc), .val (.int (0 : Int32)), .unset, .unset] [(.int (0 : Int32))]) (fun _ kz => XS.iload X0.here hx rfl (hb hby od_2_0) rfl kz) ?_
  refine own_g (mkF m 3 #[.val (.ref a), .val (.ref ib), .val (.ref cb), .val (.ref rb), .val (.ref xb), .val (.ref yb), .val (.int mc), .val (.int (0 : Int32)), .unset, .unset] [(.int (1 : Int32)), (.int (0 : Int32))]) (fun _ kz => XS.iconst X0.here hx rfl (hb hby od_2_2) kz) ?_
  refine own_g (mkF m 4 #[.val (.ref a), .val (.ref ib), .val (.ref cb), .val (.ref rb), .val (.ref xb), .val (.ref yb), .val (.int mc), .val (.int (0 : Int32)), .unset, .unset] [(.int ((0 : Int32) &&& (1 : Int32)))]) (fun _ kz => XS.iand X0.here hx rfl (hb hby od_2_3) rfl kz) ?_
  rw [show ((0 : Int32) &&& (1 : Int32)) = (0 : Int32) from by decide]
  show own_E p e below _ (s₁.setTop (mkF m 4 #[.val (.ref a), .val (.ref ib), .val (.ref cb), .val (.ref rb), .val (.ref xb), .val (.ref yb), .val (.int mc), .val (.int (0 : Int32)), .unset, .unset] [(.int (0 : Int32))]))
  refine own_g (mkF m 6 #[.val (.ref a), .val (.ref ib), .val (.ref cb), .val (.ref rb), .val (.ref xb), .val (.ref yb), .val (.int mc), .val (.int (0 : Int32)), .val (.int (0 : Int32)), .unset] []) (fun _ kz => XS.istore X0.here hx rfl (hb hby od_2_4) rfl (l' := #[.val (.ref a), .val (.ref ib), .val (.ref cb), .val (.ref rb), .val (.ref xb), .val (.ref yb), .val (.int mc), .val (.int (0 : Int32)), .val (.int (0 : Int32)), .unset]) rfl kz) ?_
  refine own_g (mkF m 8 #[.val (.ref a), .val (.ref ib), .val (.ref cb), .val (.ref rb), .val (.ref xb), .val (.ref yb), .val (.int mc), .val (.int (0 : Int32)), .val (.int (0 : Int32)), .unset] [(.int mc)]) (fun _ kz => XS.iload X0.here hx rfl (hb hby od_2_6) rfl kz) ?_
  refine own_g (mkF m 10 #[.val (.ref a), .val (.ref ib), .val (.ref cb), .val (.ref rb), .val (.ref xb), .val (.ref yb), .val (.int mc), .val (.int (0 : Int32)), .val (.int (0 : Int32)), .val (.int mc)] []) (fun _ kz => XS.istore X0.here hx rfl (hb hby od_2_8) rfl (l' := #[.val (.ref a), .val (.ref ib), .val (.ref cb), .val (.ref rb), .val (.ref xb), .val (.ref yb), .val (.int mc), .val (.int (0 : Int32)), .val (.int (0 : Int32)), .val (.int mc)]) rfl kz) ?_
  refine own_g (mkF m 12 #[.val (.ref a), .val (.ref ib), .val (.ref cb), .val (.ref rb), .val (.ref xb), .val (.ref yb), .val (.int mc), .val (.int (0 : Int32)), .val (.int (0 : Int32)), .val (.int mc)] [(.int (0 : Int32))]) (fun _ kz => XS.iload X0.here hx rfl (hb hby od_2_10) rfl kz) ?_
  refine own_g (mkF m 13 #[.val (.ref a), .val (.ref ib), .val (.ref cb), .val (.ref rb), .val (.ref xb), .val (.ref yb), .val (.int mc), .val (.int (0 : Int32)), .val (.int (0 : Int32)), .val (.int mc)] [(.int (2 : Int32)), (.int (0 : Int32))]) (fun _ kz => XS.iconst X0.here hx rfl (hb hby od_2_12) kz) ?_
  refine own_g (mkF m 14 #[.val (.ref a), .val (.ref ib), .val (.ref cb), .val (.ref rb), .val (.ref xb), .val (.ref yb), .val (.int mc), .val (.int (0 : Int32)), .val (.int (0 : Int32)), .val (.int mc)] [(.int ((0 : Int32) &&& (2 : Int32)))]) (fun _ kz => XS.iand X0.here hx rfl (hb hby od_2_13) rfl kz) ?_
  rw [show ((0 : Int32) &&& (2 : Int32)) = (0 : Int32) from by decide]
  show own_E p e below _ (s₁.setTop (mkF m 14 #[.val (.ref a), .val (.ref ib), .val (.ref cb), .val (.ref rb), .val (.ref xb), .val (.ref yb), .val (.int mc), .val (.int (0 : Int32)), .val (.int (0 : Int32)), .val (.int mc)] [(.int (0 : Int32))]))
  refine own_g (mkF m 72 #[.val (.ref a), .val (.ref ib), .val (.ref cb), .val (.ref rb), .val (.ref xb), .val (.ref yb), .val (.int mc), .val (.int (0 : Int32)), .val (.int (0 : Int32)), .val (.int mc)] []) (fun _ kz => XS.ifYes X0.here hx rfl (pc0 := 14) (pc' := 72) rfl (hb hby od_2_14) rfl ((if0 _ _).trans (teq (by decide)).1) (by decide) (by decide) kz) ?_
  refine own_g (mkF m 73 #[.val (.ref a), .val (.ref ib), .val (.ref cb), .val (.ref rb), .val (.ref xb), .val (.ref yb), .val (.int mc), .val (.int (0 : Int32)), .val (.int (0 : Int32)), .val (.int mc)] [(.ref a)]) (fun _ kz => XS.aloadN X0.here hx rfl (hb hby od_2_72) rfl rfl kz) ?_
  refine own_g (mkF m 74 #[.val (.ref a), .val (.ref ib), .val (.ref cb), .val (.ref rb), .val (.ref xb), .val (.ref yb), .val (.int mc), .val (.int (0 : Int32)), .val (.int (0 : Int32)), .val (.int mc)] [(.ref ib), (.ref a)]) (fun _ kz => XS.aloadN X0.here hx rfl (hb hby od_2_73) rfl rfl kz) ?_
  refine own_g (mkF m 76 #[.val (.ref a), .val (.ref ib), .val (.ref cb), .val (.ref rb), .val (.ref xb), .val (.ref yb), .val (.int mc), .val (.int (0 : Int32)), .val (.int (0 : Int32)), .val (.int mc)] [(.int (0 : Int32)), (.ref ib), (.ref a)]) (fun _ kz => XS.iload X0.here hx rfl (hb hby od_2_74) rfl kz) ?_
  refine own_ildI X0 hx hZ e0 Ai (hb hby od_2_76) (by decide) (i := 0) rfl (by decide) (x := (0 : Int32)) i0 ?_
  show own_E p e below _ (s₁.setTop (mkF m 77 #[.val (.ref a), .val (.ref ib), .val (.ref cb), .val (.ref rb), .val (.ref xb), .val (.ref yb), .val (.int mc), .val (.int (0 : Int32)), .val (.int (0 : Int32)), .val (.int mc)] [(.int (0 : Int32)), (.ref a)]))
  refine own_callV (rest := []) (a := a) (as := [(.int (0 : Int32))]) X0 hx hZ hown e0 (own_c_chg0 l Z a0 hw lo a pb fb sb ff mk mf cc h0 n0 Z0 (by omega) D0) D0.1 (own_w hw 181 rfl) (own_w hw 182 rfl) (own_w hw 184 rfl) (own_w hw 183 rfl) (own_w hw 14 rfl) (own_w hw 185 rfl) (by decide) own_pd5 rfl (by rw [hml]; rfl) rfl (hb hby od_2_77) 0 (by show 2 * 0 + _ ≤ _; exact Nat.le_of_eq rfl) (by decide) (by decide) (by decide) (by decide) ?_
  rintro _ T2052 L2052 X2052 ⟨rfl, Nq2052, KL2052, f2052', k2052', m2052', c2052', eq2052, lc2052, D2052⟩
  have N2052 := Fr.app N0 Nq2052
  have zq2052 : n0 ≤ T2052.heap.size := Nat.le_trans Z0 KL2052.1
  have KX2052 := own_KL.trans KL0 (KL2052.mono (show fb ≤ yb by omega))
  have f2053 := own_IA.kl Ai KL2052 (by omega) (by omega)
  have f2054 := own_IA.kl Ac KL2052 (by omega) (by omega)
  have f2055 := own_IA.kl Ar KL2052 (by omega) (by omega)
  have f2056 := own_IA.kl Ax KL2052 (by omega) (by omega)
  have f2057 := own_IA.kl Ay KL2052 (by omega) (by omega)
  show own_E p e below _ (T2052.setTop (mkF m 80 #[.val (.ref a), .val (.ref ib), .val (.ref cb), .val (.ref rb), .val (.ref xb), .val (.ref yb), .val (.int mc), .val (.int (0 : Int32)), .val (.int (0 : Int32)), .val (.int mc)] []))
  refine own_g (mkF m 81 #[.val (.ref a), .val (.ref ib), .val (.ref cb), .val (.ref rb), .val (.ref xb), .val (.ref yb), .val (.int mc), .val (.int (0 : Int32)), .val (.int (0 : Int32)), .val (.int mc)] [(.ref cb)]) (fun _ kz => XS.aloadN X2052.here hx rfl (hb hby od_2_80) rfl rfl kz) ?_
  refine own_g (mkF m 83 #[.val (.ref a), .val (.ref ib), .val (.ref cb), .val (.ref rb), .val (.ref xb), .val (.ref yb), .val (.int mc), .val (.int (0 : Int32)), .val (.int (0 : Int32)), .val (.int mc)] [(.int (0 : Int32)), (.ref cb)]) (fun _ kz => XS.iload X2052.here hx rfl (hb hby od_2_81) rfl kz) ?_
  refine own_ildZ X2052 hx hZ rfl f2054 (hb hby od_2_83) (by decide) (i := 0) rfl (by decide) (x := (fch 0)) rfl ?_
  show own_E p e below _ (T2052.setTop (mkF m 84 #[.val (.ref a), .val (.ref ib), .val (.ref cb), .val (.ref rb), .val (.ref xb), .val (.ref yb), .val (.int mc), .val (.int (0 : Int32)), .val (.int (0 : Int32)), .val (.int mc)] [(.int (fch 0))]))
  by_cases hc84_2058 : (fch 0) = (0 : Int32)
  · refine own_g (mkF m 87 #[.val (.ref a), .val (.ref ib), .val (.ref cb), .val (.ref rb), .val (.ref xb), .val (.ref yb), .val (.int mc), .val (.int (0 : Int32)), .val (.int (0 : Int32)), .val (.int mc)] []) (fun _ kz => XS.ifNo X2052.here hx rfl (hb hby od_2_84) rfl ((if0 _ _).trans (teq hc84_2058).2) kz) ?_
    refine own_g (mkF m 88 #[.val (.ref a), .val (.ref ib), .val (.ref cb), .val (.ref rb), .val (.ref xb), .val (.ref yb), .val (.int mc), .val (.int (0 : Int32)), .val (.int (0 : Int32)), .val (.int mc)] [(.ref cb)]) (fun _ kz => XS.aloadN X2052.here hx rfl (hb hby od_2_87) rfl rfl kz) ?_
    refine own_g (mkF m 90 #[.val (.ref a), .val (.ref ib), .val (.ref cb), .val (.ref rb), .val (.ref xb), .val (.ref yb), .val (.int mc), .val (.int (0 : Int32)), .val (.int (0 : Int32)), .val (.int mc)] [(.int (0 : Int32)), (.ref cb)]) (fun _ kz => XS.iload X2052.here hx rfl (hb hby od_2_88) rfl kz) ?_
    refine own_g (mkF m 91 #[.val (.ref a), .val (.ref ib), .val (.ref cb), .val (.ref rb), .val (.ref xb), .val (.ref yb), .val (.int mc), .val (.int (0 : Int32)), .val (.int (0 : Int32)), .val (.int mc)] [(.int (1 : Int32)), (.int (0 : Int32)), (.ref cb)]) (fun _ kz => XS.iconst X2052.here hx rfl (hb hby od_2_90) kz) ?_
    refine own_stZ X2052 hx hZ rfl f2054 (hb hby od_2_91) (by decide) (i := 0) rfl (by decide) ?_
    intro T2059 h2059 X2059 e2059 W2059 A2059
    have N2059 := Fr.snoc X2059 N2052 (by show @LE.le Nat _ _ _; omega)
    have s2060 : n0 ≤ h2059.size := Nat.le_trans zq2052 (Keep.of_wr W2059).1
    have f2061 := f2053.other W2059 (by show @Ne Nat _ _; omega)
    have f2062 := f2055.other W2059 (by show @Ne Nat _ _; omega)
    have f2063 := f2056.other W2059 (by show @Ne Nat _ _; omega)
    have f2064 := f2057.other W2059 (by show @Ne Nat _ _; omega)
    have K2065 := own_KL.wr KX2052 W2059 (by omega)
    have f2066 := own_D.arr W2059 (by omega) (by omega) D2052
    show own_E p e below _ (T2059.setTop (mkF m 92 #[.val (.ref a), .val (.ref ib), .val (.ref cb), .val (.ref rb), .val (.ref xb), .val (.ref yb), .val (.int mc), .val (.int (0 : Int32)), .val (.int (0 : Int32)), .val (.int mc)] []))
    refine own_g (mkF m 94 #[.val (.ref a), .val (.ref ib), .val (.ref cb), .val (.ref rb), .val (.ref xb), .val (.ref yb), .val (.int mc), .val (.int (0 : Int32)), .val (.int (0 : Int32)), .val (.int mc)] [(.ref xb)]) (fun _ kz => XS.aload X2059.here hx rfl (hb hby od_2_92) rfl rfl kz) ?_
    refine own_g (mkF m 96 #[.val (.ref a), .val (.ref ib), .val (.ref cb), .val (.ref rb), .val (.ref xb), .val (.ref yb), .val (.int mc), .val (.int (0 : Int32)), .val (.int (0 : Int32)), .val (.int mc)] [(.int (0 : Int32)), (.ref xb)]) (fun _ kz => XS.iload X2059.here hx rfl (hb hby od_2_94) rfl kz) ?_
    refine own_g (mkF m 98 #[.val (.ref a), .val (.ref ib), .val (.ref cb), .val (.ref rb), .val (.ref xb), .val (.ref yb), .val (.int mc), .val (.int (0 : Int32)), .val (.int (0 : Int32)), .val (.int mc)] [(.int mc), (.int (0 : Int32)), (.ref xb)]) (fun _ kz => XS.iload X2059.here hx rfl (hb hby od_2_96) rfl kz) ?_
    refine own_stI X2059 hx hZ e2059 f2063 (hb hby od_2_98) (by decide) (i := 0) rfl (by decide) ?_
    intro T2067 h2067 X2067 e2067 W2067 A2067
    have N2067 := Fr.snoc X2067 N2059 (by show @LE.le Nat _ _ _; omega)
    have s2068 : n0 ≤ h2067.size := Nat.le_trans s2060 (Keep.of_wr W2067).1
    have f2069 := f2061.other W2067 (by show @Ne Nat _ _; omega)
    have f2070 := A2059.other W2067 (by show @Ne Nat _ _; omega)
    have f2071 := f2062.other W2067 (by show @Ne Nat _ _; omega)
    have f2072 := f2064.other W2067 (by show @Ne Nat _ _; omega)
    have K2073 := own_KL.wr K2065 W2067 (by omega)
    have f2074 := own_D.arr W2067 (by omega) (by omega) f2066
    show own_E p e below _ (T2067.setTop (mkF m 99 #[.val (.ref a), .val (.ref ib), .val (.ref cb), .val (.ref rb), .val (.ref xb), .val (.ref yb), .val (.int mc), .val (.int (0 : Int32)), .val (.int (0 : Int32)), .val (.int mc)] []))
    refine own_g (mkF m 102 #[.val (.ref a), .val (.ref ib), .val (.ref cb), .val (.ref rb), .val (.ref xb), .val (.ref yb), .val (.int mc), .val (.int (0 : Int32)), .val (.int (0 : Int32)), .val (.int (mc + (1 : Int32)))] []) (fun _ kz => XS.iinc X2067.here hx rfl (hb hby od_2_99) rfl (l' := #[.val (.ref a), .val (.ref ib), .val (.ref cb), .val (.ref rb), .val (.ref xb), .val (.ref yb), .val (.int mc), .val (.int (0 : Int32)), .val (.int (0 : Int32)), .val (.int (mc + (1 : Int32)))]) rfl kz) ?_
    refine own_g (mkF m 104 #[.val (.ref a), .val (.ref ib), .val (.ref cb), .val (.ref rb), .val (.ref xb), .val (.ref yb), .val (.int mc), .val (.int (0 : Int32)), .val (.int (0 : Int32)), .val (.int (mc + (1 : Int32)))] [(.int (mc + (1 : Int32)))]) (fun _ kz => XS.iload X2067.here hx rfl (hb hby od_2_102) rfl kz) ?_
    exact own_retI X2067 hx hret hlk (hb hby od_2_104) (by decide) (by decide) (by first | exact ⟨f2052', k2052', m2052', c2052', _, _, _, _, _, rfl, N2067, K2073, by rw [eq2052]; simp [own_apl, own_mc, own_mr, hc84_2058], by omega, f2074, f2069, f2070, f2071, A2067, f2072⟩ | (rw [e2067]; exact ⟨f2052', k2052', m2052', c2052', _, _, _, _, _, rfl, N2067, K2073, by rw [eq2052]; simp [own_apl, own_mc, own_mr, hc84_2058], by omega, f2074, f2069, f2070, f2071, A2067, f2072⟩))
  · refine own_g (mkF m 102 #[.val (.ref a), .val (.ref ib), .val (.ref cb), .val (.ref rb), .val (.ref xb), .val (.ref yb), .val (.int mc), .val (.int (0 : Int32)), .val (.int (0 : Int32)), .val (.int mc)] []) (fun _ kz => XS.ifYes X2052.here hx rfl (pc0 := 84) (pc' := 102) rfl (hb hby od_2_84) rfl ((if0 _ _).trans (feq hc84_2058).2) (by decide) (by decide) kz) ?_
    refine own_g (mkF m 104 #[.val (.ref a), .val (.ref ib), .val (.ref cb), .val (.ref rb), .val (.ref xb), .val (.ref yb), .val (.int mc), .val (.int (0 : Int32)), .val (.int (0 : Int32)), .val (.int mc)] [(.int mc)]) (fun _ kz => XS.iload X2052.here hx rfl (hb hby od_2_102) rfl kz) ?_
    exact own_retI X2052 hx hret hlk (hb hby od_2_104) (by decide) (by decide) ((⟨f2052', k2052', m2052', c2052', _, _, _, _, _, rfl, N2052, KX2052, by rw [eq2052]; simp [own_apl, own_mc, own_mr, hc84_2058], by omega, D2052, f2053, f2054, f2055, f2056, f2057⟩))
set_option maxRecDepth 65536 in
set_option maxHeartbeats 40000000 in
theorem own_c_app1 (l : Launch) (Z : State) (a0 : Array Value) (hw : ∀ d ∈ tables_1, d.before a0 Z = true) (lo : Nat) (a : Nat) (pb : Nat) (fb : Nat) (sb : Nat) (ff : Nat → Int32) (mk : Nat → Int32) (mf : Nat → Int32) (cc : Nat) (ib : Nat) (cb : Nat) (rb : Nat) (xb : Nat) (yb : Nat) (fi : Nat → Int32) (fch : Nat → Int32) (frt : Nat → Int32) (fx : Nat → Int32) (fy : Nat → Int32) (mc : Int32) (h0 : Heap) (n0 : Nat) (Z0 : n0 ≤ h0.size) (hcc : cc < 50) (D0 : own_D Z h0 n0 lo a pb fb sb ff mk mf cc) (o1 : fb < ib) (o2 : ib < cb) (o3 : cb < rb) (o4 : rb < xb) (o5 : xb < yb) (o6 : yb < lo) (Ai : own_IA Z h0 ib .int 2 fi) (i0 : fi 0 = 0) (i1 : fi 1 = 1) (Ac : own_IA Z h0 cb .boolean 2 fch) (Ar : own_IA Z h0 rb .boolean 2 frt) (Ax : own_IA Z h0 xb .int 2 fx) (Ay : own_IA Z h0 yb .int 2 fy) :
    own_Con l Z (⟨"com/example/holdfast/holdfast/dom/CompactDocumentUnmarkSincePinLaw", "apply", "(Lcom/example/holdfast/holdfast/dom/CompactDocument;[I[Z[Z[I[III)I"⟩ : MethodName) method_2_code 10 (some .int) [] ({ frames := 4, cells := 4, slots := 256, locals := 60 } : Room) #[(.ref a), (.ref ib), (.ref cb), (.ref rb), (.ref xb), (.ref yb), (.int mc), (.int (1 : Int32))] h0 (fun v h L => ∃ f' k' m' c' u1 u2 u3 u4 u5, v = some (.int u5) ∧ Fr n0 L ∧ own_KL yb lo h0 h ∧ ((f', k', m', c'), (u1, u2, u3, u4, u5)) = own_apl 1 (ff, mk, mf, cc) (fch, frt, fx, fy, mc) ∧ c' ≤ cc + 2 ∧ own_D Z h n0 lo a pb fb sb f' k' m' c' ∧ own_IA Z h ib .int 2 fi ∧ own_IA Z h cb .boolean 2 u1 ∧ own_IA Z h rb .boolean 2 u2 ∧ own_IA Z h xb .int 2 u3 ∧ own_IA Z h yb .int 2 u4) := by
  refine own_enter (plainFor_of_name own_pn8) ?_
  intro p e s m below meth c s₁ X0 e0 hx hZ hby hml hown hnm hret hlk
  refine own_cast (g' := (mkF m 0 #[.val (.ref a), .val (.ref ib), .val (.ref cb), .val (.ref rb), .val (.ref xb), .val (.ref yb), .val (.int mc), .val (.int (1 : Int32)), .unset, .unset] [])) (by first | (simp [entryFrame, mkF, argsToLocals, Value.category]; done) | rfl) ?_
  have N0 := Fr.nil n0
  have oc := D0.2.2.2.2.2.2.2.2.2.2.2.2.2.2.2.1
  have ob := D0.2.2.2.2.2.2.2.2.2.2.2.2.2.2.1
  have oa := D0.2.2.2.2.2.2.2.2.2.2.2.2.2.1
  have na := D0.2.2.2.2.2.2.2.2.2.2.2.1
  have KL0 : own_KL yb lo h0 h0 := own_KL.refl h0
  refine own_g (mkF m 2 #[.val (.ref a), .val (.ref ib), .val (.ref cb), .val (.ref rb), .val (.ref xb), .val (.ref yb), .val (.int mc), .val (.int (1 : Int32)), .unset, .unset] [(.int (1 : Int32))]) (fun _ kz => XS.iload X0.here hx rfl (hb hby od_2_0) rfl kz) ?_
  refine own_g (mkF m 3 #[.val (.ref a), .val (.ref ib), .val (.ref cb), .val (.ref rb), .val (.ref xb), .val (.ref yb), .val (.int mc), .val (.int (1 : Int32)), .unset, .unset] [(.int (1 : Int32)), (.int (1 : Int32))]) (fun _ kz => XS.iconst X0.here hx rfl (hb hby od_2_2) kz) ?_
  refine own_g (mkF m 4 #[.val (.ref a), .val (.ref ib), .val (.ref cb), .val (.ref rb), .val (.ref xb), .val (.ref yb), .val (.int mc), .val (.int (1 : Int32)), .unset, .unset] [(.int ((1 : Int32) &&& (1 : Int32)))]) (fun _ kz => XS.iand X0.here hx rfl (hb hby od_2_3) rfl kz) ?_
  rw [show ((1 : Int32) &&& (1 : Int32)) = (1 : Int32) from by decide]
  show own_E p e below _ (s₁.setTop (mkF m 4 #[.val (.ref a), .val (.ref ib), .val (.ref cb), .val (.ref rb), .val (.ref xb), .val (.ref yb), .val (.int mc), .val (.int (1 : Int32)), .unset, .unset] [(.int (1 : Int32))]))
  refine own_g (mkF m 6 #[.val (.ref a), .val (.ref ib), .val (.ref cb), .val (.ref rb), .val (.ref xb), .val (.ref yb), .val (.int mc), .val (.int (1 : Int32)), .val (.int (1 : Int32)), .unset] []) (fun _ kz => XS.istore X0.here hx rfl (hb hby od_2_4) rfl (l' := #[.val (.ref a), .val (.ref ib), .val (.ref cb), .val (.ref rb), .val (.ref xb), .val (.ref yb), .val (.int mc), .val (.int (1 : Int32)), .val (.int (1 : Int32)), .unset]) rfl kz) ?_
  refine own_g (mkF m 8 #[.val (.ref a), .val (.ref ib), .val (.ref cb), .val (.ref rb), .val (.ref xb), .val (.ref yb), .val (.int mc), .val (.int (1 : Int32)), .val (.int (1 : Int32)), .unset] [(.int mc)]) (fun _ kz => XS.iload X0.here hx rfl (hb hby od_2_6) rfl kz) ?_
  refine own_g (mkF m 10 #[.val (.ref a), .val (.ref ib), .val (.ref cb), .val (.ref rb), .val (.ref xb), .val (.ref yb), .val (.int mc), .val (.int (1 : Int32)), .val (.int (1 : Int32)), .val (.int mc)] []) (fun _ kz => XS.istore X0.here hx rfl (hb hby od_2_8) rfl (l' := #[.val (.ref a), .val (.ref ib), .val (.ref cb), .val (.ref rb), .val (.ref xb), .val (.ref yb), .val (.int mc), .val (.int (1 : Int32)), .val (.int (1 : Int32)), .val (.int mc)]) rfl kz) ?_
  refine own_g (mkF m 12 #[.val (.ref a), .val (.ref ib), .val (.ref cb), .val (.ref rb), .val (.ref xb), .val (.ref yb), .val (.int mc), .val (.int (1 : Int32)), .val (.int (1 : Int32)), .val (.int mc)] [(.int (1 : Int32))]) (fun _ kz => XS.iload X0.here hx rfl (hb hby od_2_10) rfl kz) ?_
  refine own_g (mkF m 13 #[.val (.ref a), .val (.ref ib), .val (.ref cb), .val (.ref rb), .val (.ref xb), .val (.ref yb), .val (.int mc), .val (.int (1 : Int32)), .val (.int (1 : Int32)), .val (.int mc)] [(.int (2 : Int32)), (.int (1 : Int32))]) (fun _ kz => XS.iconst X0.here hx rfl (hb hby od_2_12) kz) ?_
  refine own_g (mkF m 14 #[.val (.ref a), .val (.ref ib), .val (.ref cb), .val (.ref rb), .val (.ref xb), .val (.ref yb), .val (.int mc), .val (.int (1 : Int32)), .val (.int (1 : Int32)), .val (.int mc)] [(.int ((1 : Int32) &&& (2 : Int32)))]) (fun _ kz => XS.iand X0.here hx rfl (hb hby od_2_13) rfl kz) ?_
  rw [show ((1 : Int32) &&& (2 : Int32)) = (0 : Int32) from by decide]
  show own_E p e below _ (s₁.setTop (mkF m 14 #[.val (.ref a), .val (.ref ib), .val (.ref cb), .val (.ref rb), .val (.ref xb), .val (.ref yb), .val (.int mc), .val (.int (1 : Int32)), .val (.int (1 : Int32)), .val (.int mc)] [(.int (0 : Int32))]))
  refine own_g (mkF m 72 #[.val (.ref a), .val (.ref ib), .val (.ref cb), .val (.ref rb), .val (.ref xb), .val (.ref yb), .val (.int mc), .val (.int (1 : Int32)), .val (.int (1 : Int32)), .val (.int mc)] []) (fun _ kz => XS.ifYes X0.here hx rfl (pc0 := 14) (pc' := 72) rfl (hb hby od_2_14) rfl ((if0 _ _).trans (teq (by decide)).1) (by decide) (by decide) kz) ?_
  refine own_g (mkF m 73 #[.val (.ref a), .val (.ref ib), .val (.ref cb), .val (.ref rb), .val (.ref xb), .val (.ref yb), .val (.int mc), .val (.int (1 : Int32)), .val (.int (1 : Int32)), .val (.int mc)] [(.ref a)]) (fun _ kz => XS.aloadN X0.here hx rfl (hb hby od_2_72) rfl rfl kz) ?_
  refine own_g (mkF m 74 #[.val (.ref a), .val (.ref ib), .val (.ref cb), .val (.ref rb), .val (.ref xb), .val (.ref yb), .val (.int mc), .val (.int (1 : Int32)), .val (.int (1 : Int32)), .val (.int mc)] [(.ref ib), (.ref a)]) (fun _ kz => XS.aloadN X0.here hx rfl (hb hby od_2_73) rfl rfl kz) ?_
  refine own_g (mkF m 76 #[.val (.ref a), .val (.ref ib), .val (.ref cb), .val (.ref rb), .val (.ref xb), .val (.ref yb), .val (.int mc), .val (.int (1 : Int32)), .val (.int (1 : Int32)), .val (.int mc)] [(.int (1 : Int32)), (.ref ib), (.ref a)]) (fun _ kz => XS.iload X0.here hx rfl (hb hby od_2_74) rfl kz) ?_
  refine own_ildI X0 hx hZ e0 Ai (hb hby od_2_76) (by decide) (i := 1) rfl (by decide) (x := (1 : Int32)) i1 ?_
  show own_E p e below _ (s₁.setTop (mkF m 77 #[.val (.ref a), .val (.ref ib), .val (.ref cb), .val (.ref rb), .val (.ref xb), .val (.ref yb), .val (.int mc), .val (.int (1 : Int32)), .val (.int (1 : Int32)), .val (.int mc)] [(.int (1 : Int32)), (.ref a)]))
  refine own_callV (rest := []) (a := a) (as := [(.int (1 : Int32))]) X0 hx hZ hown e0 (own_c_chg1 l Z a0 hw lo a pb fb sb ff mk mf cc h0 n0 Z0 (by omega) D0) D0.1 (own_w hw 181 rfl) (own_w hw 182 rfl) (own_w hw 184 rfl) (own_w hw 183 rfl) (own_w hw 14 rfl) (own_w hw 185 rfl) (by decide) own_pd5 rfl (by rw [hml]; rfl) rfl (hb hby od_2_77) 0 (by show 2 * 0 + _ ≤ _; exact Nat.le_of_eq rfl) (by decide) (by decide) (by decide) (by decide) ?_
  rintro _ T2075 L2075 X2075 ⟨rfl, Nq2075, KL2075, f2075', k2075', m2075', c2075', eq2075, lc2075, D2075⟩
  have N2075 := Fr.app N0 Nq2075
  have zq2075 : n0 ≤ T2075.heap.size := Nat.le_trans Z0 KL2075.1
  have KX2075 := own_KL.trans KL0 (KL2075.mono (show fb ≤ yb by omega))
  have f2076 := own_IA.kl Ai KL2075 (by omega) (by omega)
  have f2077 := own_IA.kl Ac KL2075 (by omega) (by omega)
  have f2078 := own_IA.kl Ar KL2075 (by omega) (by omega)
  have f2079 := own_IA.kl Ax KL2075 (by omega) (by omega)
  have f2080 := own_IA.kl Ay KL2075 (by omega) (by omega)
  show own_E p e below _ (T2075.setTop (mkF m 80 #[.val (.ref a), .val (.ref ib), .val (.ref cb), .val (.ref rb), .val (.ref xb), .val (.ref yb), .val (.int mc), .val (.int (1 : Int32)), .val (.int (1 : Int32)), .val (.int mc)] []))
  refine own_g (mkF m 81 #[.val (.ref a), .val (.ref ib), .val (.ref cb), .val (.ref rb), .val (.ref xb), .val (.ref yb), .val (.int mc), .val (.int (1 : Int32)), .val (.int (1 : Int32)), .val (.int mc)] [(.ref cb)]) (fun _ kz => XS.aloadN X2075.here hx rfl (hb hby od_2_80) rfl rfl kz) ?_
  refine own_g (mkF m 83 #[.val (.ref a), .val (.ref ib), .val (.ref cb), .val (.ref rb), .val (.ref xb), .val (.ref yb), .val (.int mc), .val (.int (1 : Int32)), .val (.int (1 : Int32)), .val (.int mc)] [(.int (1 : Int32)), (.ref cb)]) (fun _ kz => XS.iload X2075.here hx rfl (hb hby od_2_81) rfl kz) ?_
  refine own_ildZ X2075 hx hZ rfl f2077 (hb hby od_2_83) (by decide) (i := 1) rfl (by decide) (x := (fch 1)) rfl ?_
  show own_E p e below _ (T2075.setTop (mkF m 84 #[.val (.ref a), .val (.ref ib), .val (.ref cb), .val (.ref rb), .val (.ref xb), .val (.ref yb), .val (.int mc), .val (.int (1 : Int32)), .val (.int (1 : Int32)), .val (.int mc)] [(.int (fch 1))]))
  by_cases hc84_2081 : (fch 1) = (0 : Int32)
  · refine own_g (mkF m 87 #[.val (.ref a), .val (.ref ib), .val (.ref cb), .val (.ref rb), .val (.ref xb), .val (.ref yb), .val (.int mc), .val (.int (1 : Int32)), .val (.int (1 : Int32)), .val (.int mc)] []) (fun _ kz => XS.ifNo X2075.here hx rfl (hb hby od_2_84) rfl ((if0 _ _).trans (teq hc84_2081).2) kz) ?_
    refine own_g (mkF m 88 #[.val (.ref a), .val (.ref ib), .val (.ref cb), .val (.ref rb), .val (.ref xb), .val (.ref yb), .val (.int mc), .val (.int (1 : Int32)), .val (.int (1 : Int32)), .val (.int mc)] [(.ref cb)]) (fun _ kz => XS.aloadN X2075.here hx rfl (hb hby od_2_87) rfl rfl kz) ?_
    refine own_g (mkF m 90 #[.val (.ref a), .val (.ref ib), .val (.ref cb), .val (.ref rb), .val (.ref xb), .val (.ref yb), .val (.int mc), .val (.int (1 : Int32)), .val (.int (1 : Int32)), .val (.int mc)] [(.int (1 : Int32)), (.ref cb)]) (fun _ kz => XS.iload X2075.here hx rfl (hb hby od_2_88) rfl kz) ?_
    refine own_g (mkF m 91 #[.val (.ref a), .val (.ref ib), .val (.ref cb), .val (.ref rb), .val (.ref xb), .val (.ref yb), .val (.int mc), .val (.int (1 : Int32)), .val (.int (1 : Int32)), .val (.int mc)] [(.int (1 : Int32)), (.int (1 : Int32)), (.ref cb)]) (fun _ kz => XS.iconst X2075.here hx rfl (hb hby od_2_90) kz) ?_
    refine own_stZ X2075 hx hZ rfl f2077 (hb hby od_2_91) (by decide) (i := 1) rfl (by decide) ?_
    intro T2082 h2082 X2082 e2082 W2082 A2082
    have N2082 := Fr.snoc X2082 N2075 (by show @LE.le Nat _ _ _; omega)
    have s2083 : n0 ≤ h2082.size := Nat.le_trans zq2075 (Keep.of_wr W2082).1
    have f2084 := f2076.other W2082 (by show @Ne Nat _ _; omega)
    have f2085 := f2078.other W2082 (by show @Ne Nat _ _; omega)
    have f2086 := f2079.other W2082 (by show @Ne Nat _ _; omega)
    have f2087 := f2080.other W2082 (by show @Ne Nat _ _; omega)
    have K2088 := own_KL.wr KX2075 W2082 (by omega)
    have f2089 := own_D.arr W2082 (by omega) (by omega) D2075
    show own_E p e below _ (T2082.setTop (mkF m 92 #[.val (.ref a), .val (.ref ib), .val (.ref cb), .val (.ref rb), .val (.ref xb), .val (.ref yb), .val (.int mc), .val (.int (1 : Int32)), .val (.int (1 : Int32)), .val (.int mc)] []))
    refine own_g (mkF m 94 #[.val (.ref a), .val (.ref ib), .val (.ref cb), .val (.ref rb), .val (.ref xb), .val (.ref yb), .val (.int mc), .val (.int (1 : Int32)), .val (.int (1 : Int32)), .val (.int mc)] [(.ref xb)]) (fun _ kz => XS.aload X2082.here hx rfl (hb hby od_2_92) rfl rfl kz) ?_
    refine own_g (mkF m 96 #[.val (.ref a), .val (.ref ib), .val (.ref cb), .val (.ref rb), .val (.ref xb), .val (.ref yb), .val (.int mc), .val (.int (1 : Int32)), .val (.int (1 : Int32)), .val (.int mc)] [(.int (1 : Int32)), (.ref xb)]) (fun _ kz => XS.iload X2082.here hx rfl (hb hby od_2_94) rfl kz) ?_
    refine own_g (mkF m 98 #[.val (.ref a), .val (.ref ib), .val (.ref cb), .val (.ref rb), .val (.ref xb), .val (.ref yb), .val (.int mc), .val (.int (1 : Int32)), .val (.int (1 : Int32)), .val (.int mc)] [(.int mc), (.int (1 : Int32)), (.ref xb)]) (fun _ kz => XS.iload X2082.here hx rfl (hb hby od_2_96) rfl kz) ?_
    refine own_stI X2082 hx hZ e2082 f2086 (hb hby od_2_98) (by decide) (i := 1) rfl (by decide) ?_
    intro T2090 h2090 X2090 e2090 W2090 A2090
    have N2090 := Fr.snoc X2090 N2082 (by show @LE.le Nat _ _ _; omega)
    have s2091 : n0 ≤ h2090.size := Nat.le_trans s2083 (Keep.of_wr W2090).1
    have f2092 := f2084.other W2090 (by show @Ne Nat _ _; omega)
    have f2093 := A2082.other W2090 (by show @Ne Nat _ _; omega)
    have f2094 := f2085.other W2090 (by show @Ne Nat _ _; omega)
    have f2095 := f2087.other W2090 (by show @Ne Nat _ _; omega)
    have K2096 := own_KL.wr K2088 W2090 (by omega)
    have f2097 := own_D.arr W2090 (by omega) (by omega) f2089
    show own_E p e below _ (T2090.setTop (mkF m 99 #[.val (.ref a), .val (.ref ib), .val (.ref cb), .val (.ref rb), .val (.ref xb), .val (.ref yb), .val (.int mc), .val (.int (1 : Int32)), .val (.int (1 : Int32)), .val (.int mc)] []))
    refine own_g (mkF m 102 #[.val (.ref a), .val (.ref ib), .val (.ref cb), .val (.ref rb), .val (.ref xb), .val (.ref yb), .val (.int mc), .val (.int (1 : Int32)), .val (.int (1 : Int32)), .val (.int (mc + (1 : Int32)))] []) (fun _ kz => XS.iinc X2090.here hx rfl (hb hby od_2_99) rfl (l' := #[.val (.ref a), .val (.ref ib), .val (.ref cb), .val (.ref rb), .val (.ref xb), .val (.ref yb), .val (.int mc), .val (.int (1 : Int32)), .val (.int (1 : Int32)), .val (.int (mc + (1 : Int32)))]) rfl kz) ?_
    refine own_g (mkF m 104 #[.val (.ref a), .val (.ref ib), .val (.ref cb), .val (.ref rb), .val (.ref xb), .val (.ref yb), .val (.int mc), .val (.int (1 : Int32)), .val (.int (1 : Int32)), .val (.int (mc + (1 : Int32)))] [(.int (mc + (1 : Int32)))]) (fun _ kz => XS.iload X2090.here hx rfl (hb hby od_2_102) rfl kz) ?_
    exact own_retI X2090 hx hret hlk (hb hby od_2_104) (by decide) (by decide) (by first | exact ⟨f2075', k2075', m2075', c2075', _, _, _, _, _, rfl, N2090, K2096, by rw [eq2075]; simp [own_apl, own_mc, own_mr, hc84_2081], by omega, f2097, f2092, f2093, f2094, A2090, f2095⟩ | (rw [e2090]; exact ⟨f2075', k2075', m2075', c2075', _, _, _, _, _, rfl, N2090, K2096, by rw [eq2075]; simp [own_apl, own_mc, own_mr, hc84_2081], by omega, f2097, f2092, f2093, f2094, A2090, f2095⟩))
  · refine own_g (mkF m 102 #[.val (.ref a), .val (.ref ib), .val (.ref cb), .val (.ref rb), .val (.ref xb), .val (.ref yb), .val (.int mc), .val (.int (1 : Int32)), .val (.int (1 : Int32)), .val (.int mc)] []) (fun _ kz => XS.ifYes X2075.here hx rfl (pc0 := 84) (pc' := 102) rfl (hb hby od_2_84) rfl ((if0 _ _).trans (feq hc84_2081).2) (by decide) (by decide) kz) ?_
    refine own_g (mkF m 104 #[.val (.ref a), .val (.ref ib), .val (.ref cb), .val (.ref rb), .val (.ref xb), .val (.ref yb), .val (.int mc), .val (.int (1 : Int32)), .val (.int (1 : Int32)), .val (.int mc)] [(.int mc)]) (fun _ kz => XS.iload X2075.here hx rfl (hb hby od_2_102) rfl kz) ?_
    exact own_retI X2075 hx hret hlk (hb hby od_2_104) (by decide) (by decide) ((⟨f2075', k2075', m2075', c2075', _, _, _, _, _, rfl, N2075, KX2075, by rw [eq2075]; simp [own_apl, own_mc, own_mr, hc84_2081], by omega, D2075, f2076, f2077, f2078, f2079, f2080⟩))
theorem od_2_17 : decode method_2_code 17 = .ok (.aload_n 0, 1) := by decide +kernel
theorem od_2_18 : decode method_2_code 18 = .ok (.aload_n 1, 1) := by decide +kernel
theorem od_2_19 : decode method_2_code 19 = .ok (.iload 8, 2) := by decide +kernel
theorem od_2_21 : decode method_2_code 21 = .ok (.iaload, 1) := by decide +kernel
theorem od_2_22 : decode method_2_code 22 = .ok (.invokevirtual 7, 3) := by decide +kernel
theorem od_2_25 : decode method_2_code 25 = .ok (.aload_n 2, 1) := by decide +kernel
theorem od_2_26 : decode method_2_code 26 = .ok (.iload 8, 2) := by decide +kernel
theorem od_2_28 : decode method_2_code 28 = .ok (.baload, 1) := by decide +kernel
theorem od_2_29 : decode method_2_code 29 = .ok (.ifCond .ne 18, 3) := by decide +kernel
theorem od_2_32 : decode method_2_code 32 = .ok (.aload_n 2, 1) := by decide +kernel
theorem od_2_33 : decode method_2_code 33 = .ok (.iload 8, 2) := by decide +kernel
theorem od_2_35 : decode method_2_code 35 = .ok (.iconst 1, 1) := by decide +kernel
theorem od_2_36 : decode method_2_code 36 = .ok (.bastore, 1) := by decide +kernel
theorem od_2_37 : decode method_2_code 37 = .ok (.aload 4, 2) := by decide +kernel
theorem od_2_39 : decode method_2_code 39 = .ok (.iload 8, 2) := by decide +kernel
theorem od_2_41 : decode method_2_code 41 = .ok (.iload 9, 2) := by decide +kernel
theorem od_2_43 : decode method_2_code 43 = .ok (.iastore, 1) := by decide +kernel
theorem od_2_44 : decode method_2_code 44 = .ok (.iinc 9 1, 3) := by decide +kernel
theorem od_2_47 : decode method_2_code 47 = .ok (.aload_n 3, 1) := by decide +kernel
theorem od_2_48 : decode method_2_code 48 = .ok (.iload 8, 2) := by decide +kernel
theorem od_2_50 : decode method_2_code 50 = .ok (.baload, 1) := by decide +kernel
theorem od_2_51 : decode method_2_code 51 = .ok (.ifCond .ne 51, 3) := by decide +kernel
theorem od_2_54 : decode method_2_code 54 = .ok (.aload_n 3, 1) := by decide +kernel
theorem od_2_55 : decode method_2_code 55 = .ok (.iload 8, 2) := by decide +kernel
theorem od_2_57 : decode method_2_code 57 = .ok (.iconst 1, 1) := by decide +kernel
theorem od_2_58 : decode method_2_code 58 = .ok (.bastore, 1) := by decide +kernel
theorem od_2_59 : decode method_2_code 59 = .ok (.aload 5, 2) := by decide +kernel
theorem od_2_61 : decode method_2_code 61 = .ok (.iload 8, 2) := by decide +kernel
theorem od_2_63 : decode method_2_code 63 = .ok (.iload 9, 2) := by decide +kernel
theorem od_2_65 : decode method_2_code 65 = .ok (.iastore, 1) := by decide +kernel
theorem od_2_66 : decode method_2_code 66 = .ok (.iinc 9 1, 3) := by decide +kernel
theorem od_2_69 : decode method_2_code 69 = .ok (.goto 33, 3) := by decide +kernel
set_option maxRecDepth 65536 in
set_option maxHeartbeats 40000000 in
theorem own_c_app2 (l : Launch) (Z : State) (a0 : Array Value) (hw : ∀ d ∈ tables_1, d.before a0 Z = true) (lo : Nat) (a : Nat) (pb : Nat) (fb : Nat) (sb : Nat) (ff : Nat → Int32) (mk : Nat → Int32) (mf : Nat → Int32) (cc : Nat) (ib : Nat) (cb : Nat) (rb : Nat) (xb : Nat) (yb : Nat) (fi : Nat → Int32) (fch : Nat → Int32) (frt : Nat → Int32) (fx : Nat → Int32) (fy : Nat → Int32) (mc : Int32) (h0 : Heap) (n0 : Nat) (Z0 : n0 ≤ h0.size) (hcc : cc < 50) (D0 : own_D Z h0 n0 lo a pb fb sb ff mk mf cc) (o1 : fb < ib) (o2 : ib < cb) (o3 : cb < rb) (o4 : rb < xb) (o5 : xb < yb) (o6 : yb < lo) (Ai : own_IA Z h0 ib .int 2 fi) (i0 : fi 0 = 0) (i1 : fi 1 = 1) (Ac : own_IA Z h0 cb .boolean 2 fch) (Ar : own_IA Z h0 rb .boolean 2 frt) (Ax : own_IA Z h0 xb .int 2 fx) (Ay : own_IA Z h0 yb .int 2 fy) :
    own_Con l Z (⟨"com/example/holdfast/holdfast/dom/CompactDocumentUnmarkSincePinLaw", "apply", "(Lcom/example/holdfast/holdfast/dom/CompactDocument;[I[Z[Z[I[III)I"⟩ : MethodName) method_2_code 10 (some .int) [] ({ frames := 4, cells := 4, slots := 256, locals := 60 } : Room) #[(.ref a), (.ref ib), (.ref cb), (.ref rb), (.ref xb), (.ref yb), (.int mc), (.int (2 : Int32))] h0 (fun v h L => ∃ f' k' m' c' u1 u2 u3 u4 u5, v = some (.int u5) ∧ Fr n0 L ∧ own_KL yb lo h0 h ∧ ((f', k', m', c'), (u1, u2, u3, u4, u5)) = own_apl 2 (ff, mk, mf, cc) (fch, frt, fx, fy, mc) ∧ c' ≤ cc + 2 ∧ own_D Z h n0 lo a pb fb sb f' k' m' c' ∧ own_IA Z h ib .int 2 fi ∧ own_IA Z h cb .boolean 2 u1 ∧ own_IA Z h rb .boolean 2 u2 ∧ own_IA Z h xb .int 2 u3 ∧ own_IA Z h yb .int 2 u4) := by
  refine own_enter (plainFor_of_name own_pn8) ?_
  intro p e s m below meth c s₁ X0 e0 hx hZ hby hml hown hnm hret hlk
  refine own_cast (g' := (mkF m 0 #[.val (.ref a), .val (.ref ib), .val (.ref cb), .val (.ref rb), .val (.ref xb), .val (.ref yb), .val (.int mc), .val (.int (2 : Int32)), .unset, .unset] [])) (by first | (simp [entryFrame, mkF, argsToLocals, Value.category]; done) | rfl) ?_
  have N0 := Fr.nil n0
  have oc := D0.2.2.2.2.2.2.2.2.2.2.2.2.2.2.2.1
  have ob := D0.2.2.2.2.2.2.2.2.2.2.2.2.2.2.1
  have oa := D0.2.2.2.2.2.2.2.2.2.2.2.2.2.1
  have na := D0.2.2.2.2.2.2.2.2.2.2.2.1
  have KL0 : own_KL yb lo h0 h0 := own_KL.refl h0
  refine own_g (mkF m 2 #[.val (.ref a), .val (.ref ib), .val (.ref cb), .val (.ref rb), .val (.ref xb), .val (.ref yb), .val (.int mc), .val (.int (2 : Int32)), .unset, .unset] [(.int (2 : Int32))]) (fun _ kz => XS.iload X0.here hx rfl (hb hby od_2_0) rfl kz) ?_
  refine own_g (mkF m 3 #[.val (.ref a), .val (.ref ib), .val (.ref cb), .val (.ref rb), .val (.ref xb), .val (.ref yb), .val (.int mc), .val (.int (2 : Int32)), .unset, .unset] [(.int (1 : Int32)), (.int (2 : Int32))]) (fun _ kz => XS.iconst X0.here hx rfl (hb hby od_2_2) kz) ?_
  refine own_g (mkF m 4 #[.val (.ref a), .val (.ref ib), .val (.ref cb), .val (.ref rb), .val (.ref xb), .val (.ref yb), .val (.int mc), .val (.int (2 : Int32)), .unset, .unset] [(.int ((2 : Int32) &&& (1 : Int32)))]) (fun _ kz => XS.iand X0.here hx rfl (hb hby od_2_3) rfl kz) ?_
  rw [show ((2 : Int32) &&& (1 : Int32)) = (0 : Int32) from by decide]
  show own_E p e below _ (s₁.setTop (mkF m 4 #[.val (.ref a), .val (.ref ib), .val (.ref cb), .val (.ref rb), .val (.ref xb), .val (.ref yb), .val (.int mc), .val (.int (2 : Int32)), .unset, .unset] [(.int (0 : Int32))]))
  refine own_g (mkF m 6 #[.val (.ref a), .val (.ref ib), .val (.ref cb), .val (.ref rb), .val (.ref xb), .val (.ref yb), .val (.int mc), .val (.int (2 : Int32)), .val (.int (0 : Int32)), .unset] []) (fun _ kz => XS.istore X0.here hx rfl (hb hby od_2_4) rfl (l' := #[.val (.ref a), .val (.ref ib), .val (.ref cb), .val (.ref rb), .val (.ref xb), .val (.ref yb), .val (.int mc), .val (.int (2 : Int32)), .val (.int (0 : Int32)), .unset]) rfl kz) ?_
  refine own_g (mkF m 8 #[.val (.ref a), .val (.ref ib), .val (.ref cb), .val (.ref rb), .val (.ref xb), .val (.ref yb), .val (.int mc), .val (.int (2 : Int32)), .val (.int (0 : Int32)), .unset] [(.int mc)]) (fun _ kz => XS.iload X0.here hx rfl (hb hby od_2_6) rfl kz) ?_
  refine own_g (mkF m 10 #[.val (.ref a), .val (.ref ib), .val (.ref cb), .val (.ref rb), .val (.ref xb), .val (.ref yb), .val (.int mc), .val (.int (2 : Int32)), .val (.int (0 : Int32)), .val (.int mc)] []) (fun _ kz => XS.istore X0.here hx rfl (hb hby od_2_8) rfl (l' := #[.val (.ref a), .val (.ref ib), .val (.ref cb), .val (.ref rb), .val (.ref xb), .val (.ref yb), .val (.int mc), .val (.int (2 : Int32)), .val (.int (0 : Int32)), .val (.int mc)]) rfl kz) ?_
  refine own_g (mkF m 12 #[.val (.ref a), .val (.ref ib), .val (.ref cb), .val (.ref rb), .val (.ref xb), .val (.ref yb), .val (.int mc), .val (.int (2 : Int32)), .val (.int (0 : Int32)), .val (.int mc)] [(.int (2 : Int32))]) (fun _ kz => XS.iload X0.here hx rfl (hb hby od_2_10) rfl kz) ?_
  refine own_g (mkF m 13 #[.val (.ref a), .val (.ref ib), .val (.ref cb), .val (.ref rb), .val (.ref xb), .val (.ref yb), .val (.int mc), .val (.int (2 : Int32)), .val (.int (0 : Int32)), .val (.int mc)] [(.int (2 : Int32)), (.int (2 : Int32))]) (fun _ kz => XS.iconst X0.here hx rfl (hb hby od_2_12) kz) ?_
  refine own_g (mkF m 14 #[.val (.ref a), .val (.ref ib), .val (.ref cb), .val (.ref rb), .val (.ref xb), .val (.ref yb), .val (.int mc), .val (.int (2 : Int32)), .val (.int (0 : Int32)), .val (.int mc)] [(.int ((2 : Int32) &&& (2 : Int32)))]) (fun _ kz => XS.iand X0.here hx rfl (hb hby od_2_13) rfl kz) ?_
  rw [show ((2 : Int32) &&& (2 : Int32)) = (2 : Int32) from by decide]
  show own_E p e below _ (s₁.setTop (mkF m 14 #[.val (.ref a), .val (.ref ib), .val (.ref cb), .val (.ref rb), .val (.ref xb), .val (.ref yb), .val (.int mc), .val (.int (2 : Int32)), .val (.int (0 : Int32)), .val (.int mc)] [(.int (2 : Int32))]))
  refine own_g (mkF m 17 #[.val (.ref a), .val (.ref ib), .val (.ref cb), .val (.ref rb), .val (.ref xb), .val (.ref yb), .val (.int mc), .val (.int (2 : Int32)), .val (.int (0 : Int32)), .val (.int mc)] []) (fun _ kz => XS.ifNo X0.here hx rfl (hb hby od_2_14) rfl ((if0 _ _).trans (feq (by decide)).1) kz) ?_
  refine own_g (mkF m 18 #[.val (.ref a), .val (.ref ib), .val (.ref cb), .val (.ref rb), .val (.ref xb), .val (.ref yb), .val (.int mc), .val (.int (2 : Int32)), .val (.int (0 : Int32)), .val (.int mc)] [(.ref a)]) (fun _ kz => XS.aloadN X0.here hx rfl (hb hby od_2_17) rfl rfl kz) ?_
  refine own_g (mkF m 19 #[.val (.ref a), .val (.ref ib), .val (.ref cb), .val (.ref rb), .val (.ref xb), .val (.ref yb), .val (.int mc), .val (.int (2 : Int32)), .val (.int (0 : Int32)), .val (.int mc)] [(.ref ib), (.ref a)]) (fun _ kz => XS.aloadN X0.here hx rfl (hb hby od_2_18) rfl rfl kz) ?_
  refine own_g (mkF m 21 #[.val (.ref a), .val (.ref ib), .val (.ref cb), .val (.ref rb), .val (.ref xb), .val (.ref yb), .val (.int mc), .val (.int (2 : Int32)), .val (.int (0 : Int32)), .val (.int mc)] [(.int (0 : Int32)), (.ref ib), (.ref a)]) (fun _ kz => XS.iload X0.here hx rfl (hb hby od_2_19) rfl kz) ?_
  refine own_ildI X0 hx hZ e0 Ai (hb hby od_2_21) (by decide) (i := 0) rfl (by decide) (x := (0 : Int32)) i0 ?_
  show own_E p e below _ (s₁.setTop (mkF m 22 #[.val (.ref a), .val (.ref ib), .val (.ref cb), .val (.ref rb), .val (.ref xb), .val (.ref yb), .val (.int mc), .val (.int (2 : Int32)), .val (.int (0 : Int32)), .val (.int mc)] [(.int (0 : Int32)), (.ref a)]))
  refine own_callV (rest := []) (a := a) (as := [(.int (0 : Int32))]) X0 hx hZ hown e0 (own_c_ret0 l Z a0 hw lo a pb fb sb ff mk mf cc h0 n0 Z0 (by omega) D0) D0.1 (own_w hw 215 rfl) (own_w hw 216 rfl) (own_w hw 218 rfl) (own_w hw 217 rfl) (own_w hw 14 rfl) (own_w hw 219 rfl) (by decide) own_pd5 rfl (by rw [hml]; rfl) rfl (hb hby od_2_22) 0 (by show 2 * 0 + _ ≤ _; exact Nat.le_of_eq rfl) (by decide) (by decide) (by decide) (by decide) ?_
  rintro _ T2098 L2098 X2098 ⟨rfl, Nq2098, KL2098, f2098', k2098', m2098', c2098', eq2098, lc2098, D2098⟩
  have N2098 := Fr.app N0 Nq2098
  have zq2098 : n0 ≤ T2098.heap.size := Nat.le_trans Z0 KL2098.1
  have KX2098 := own_KL.trans KL0 (KL2098.mono (show fb ≤ yb by omega))
  have f2099 := own_IA.kl Ai KL2098 (by omega) (by omega)
  have f2100 := own_IA.kl Ac KL2098 (by omega) (by omega)
  have f2101 := own_IA.kl Ar KL2098 (by omega) (by omega)
  have f2102 := own_IA.kl Ax KL2098 (by omega) (by omega)
  have f2103 := own_IA.kl Ay KL2098 (by omega) (by omega)
  show own_E p e below _ (T2098.setTop (mkF m 25 #[.val (.ref a), .val (.ref ib), .val (.ref cb), .val (.ref rb), .val (.ref xb), .val (.ref yb), .val (.int mc), .val (.int (2 : Int32)), .val (.int (0 : Int32)), .val (.int mc)] []))
  refine own_g (mkF m 26 #[.val (.ref a), .val (.ref ib), .val (.ref cb), .val (.ref rb), .val (.ref xb), .val (.ref yb), .val (.int mc), .val (.int (2 : Int32)), .val (.int (0 : Int32)), .val (.int mc)] [(.ref cb)]) (fun _ kz => XS.aloadN X2098.here hx rfl (hb hby od_2_25) rfl rfl kz) ?_
  refine own_g (mkF m 28 #[.val (.ref a), .val (.ref ib), .val (.ref cb), .val (.ref rb), .val (.ref xb), .val (.ref yb), .val (.int mc), .val (.int (2 : Int32)), .val (.int (0 : Int32)), .val (.int mc)] [(.int (0 : Int32)), (.ref cb)]) (fun _ kz => XS.iload X2098.here hx rfl (hb hby od_2_26) rfl kz) ?_
  refine own_ildZ X2098 hx hZ rfl f2100 (hb hby od_2_28) (by decide) (i := 0) rfl (by decide) (x := (fch 0)) rfl ?_
  show own_E p e below _ (T2098.setTop (mkF m 29 #[.val (.ref a), .val (.ref ib), .val (.ref cb), .val (.ref rb), .val (.ref xb), .val (.ref yb), .val (.int mc), .val (.int (2 : Int32)), .val (.int (0 : Int32)), .val (.int mc)] [(.int (fch 0))]))
  by_cases hc29_2104 : (fch 0) = (0 : Int32)
  · refine own_g (mkF m 32 #[.val (.ref a), .val (.ref ib), .val (.ref cb), .val (.ref rb), .val (.ref xb), .val (.ref yb), .val (.int mc), .val (.int (2 : Int32)), .val (.int (0 : Int32)), .val (.int mc)] []) (fun _ kz => XS.ifNo X2098.here hx rfl (hb hby od_2_29) rfl ((if0 _ _).trans (teq hc29_2104).2) kz) ?_
    refine own_g (mkF m 33 #[.val (.ref a), .val (.ref ib), .val (.ref cb), .val (.ref rb), .val (.ref xb), .val (.ref yb), .val (.int mc), .val (.int (2 : Int32)), .val (.int (0 : Int32)), .val (.int mc)] [(.ref cb)]) (fun _ kz => XS.aloadN X2098.here hx rfl (hb hby od_2_32) rfl rfl kz) ?_
    refine own_g (mkF m 35 #[.val (.ref a), .val (.ref ib), .val (.ref cb), .val (.ref rb), .val (.ref xb), .val (.ref yb), .val (.int mc), .val (.int (2 : Int32)), .val (.int (0 : Int32)), .val (.int mc)] [(.int (0 : Int32)), (.ref cb)]) (fun _ kz => XS.iload X2098.here hx rfl (hb hby od_2_33) rfl kz) ?_
    refine own_g (mkF m 36 #[.val (.ref a), .val (.ref ib), .val (.ref cb), .val (.ref rb), .val (.ref xb), .val (.ref yb), .val (.int mc), .val (.int (2 : Int32)), .val (.int (0 : Int32)), .val (.int mc)] [(.int (1 : Int32)), (.int (0 : Int32)), (.ref cb)]) (fun _ kz => XS.iconst X2098.here hx rfl (hb hby od_2_35) kz) ?_
    refine own_stZ X2098 hx hZ rfl f2100 (hb hby od_2_36) (by decide) (i := 0) rfl (by decide) ?_
    intro T2105 h2105 X2105 e2105 W2105 A2105
    have N2105 := Fr.snoc X2105 N2098 (by show @LE.le Nat _ _ _; omega)
    have s2106 : n0 ≤ h2105.size := Nat.le_trans zq2098 (Keep.of_wr W2105).1
    have f2107 := f2099.other W2105 (by show @Ne Nat _ _; omega)
    have f2108 := f2101.other W2105 (by show @Ne Nat _ _; omega)
    have f2109 := f2102.other W2105 (by show @Ne Nat _ _; omega)
    have f2110 := f2103.other W2105 (by show @Ne Nat _ _; omega)
    have K2111 := own_KL.wr KX2098 W2105 (by omega)
    have f2112 := own_D.arr W2105 (by omega) (by omega) D2098
    show own_E p e below _ (T2105.setTop (mkF m 37 #[.val (.ref a), .val (.ref ib), .val (.ref cb), .val (.ref rb), .val (.ref xb), .val (.ref yb), .val (.int mc), .val (.int (2 : Int32)), .val (.int (0 : Int32)), .val (.int mc)] []))
    refine own_g (mkF m 39 #[.val (.ref a), .val (.ref ib), .val (.ref cb), .val (.ref rb), .val (.ref xb), .val (.ref yb), .val (.int mc), .val (.int (2 : Int32)), .val (.int (0 : Int32)), .val (.int mc)] [(.ref xb)]) (fun _ kz => XS.aload X2105.here hx rfl (hb hby od_2_37) rfl rfl kz) ?_
    refine own_g (mkF m 41 #[.val (.ref a), .val (.ref ib), .val (.ref cb), .val (.ref rb), .val (.ref xb), .val (.ref yb), .val (.int mc), .val (.int (2 : Int32)), .val (.int (0 : Int32)), .val (.int mc)] [(.int (0 : Int32)), (.ref xb)]) (fun _ kz => XS.iload X2105.here hx rfl (hb hby od_2_39) rfl kz) ?_
    refine own_g (mkF m 43 #[.val (.ref a), .val (.ref ib), .val (.ref cb), .val (.ref rb), .val (.ref xb), .val (.ref yb), .val (.int mc), .val (.int (2 : Int32)), .val (.int (0 : Int32)), .val (.int mc)] [(.int mc), (.int (0 : Int32)), (.ref xb)]) (fun _ kz => XS.iload X2105.here hx rfl (hb hby od_2_41) rfl kz) ?_
    refine own_stI X2105 hx hZ e2105 f2109 (hb hby od_2_43) (by decide) (i := 0) rfl (by decide) ?_
    intro T2113 h2113 X2113 e2113 W2113 A2113
    have N2113 := Fr.snoc X2113 N2105 (by show @LE.le Nat _ _ _; omega)
    have s2114 : n0 ≤ h2113.size := Nat.le_trans s2106 (Keep.of_wr W2113).1
    have f2115 := f2107.other W2113 (by show @Ne Nat _ _; omega)
    have f2116 := A2105.other W2113 (by show @Ne Nat _ _; omega)
    have f2117 := f2108.other W2113 (by show @Ne Nat _ _; omega)
    have f2118 := f2110.other W2113 (by show @Ne Nat _ _; omega)
    have K2119 := own_KL.wr K2111 W2113 (by omega)
    have f2120 := own_D.arr W2113 (by omega) (by omega) f2112
    show own_E p e below _ (T2113.setTop (mkF m 44 #[.val (.ref a), .val (.ref ib), .val (.ref cb), .val (.ref rb), .val (.ref xb), .val (.ref yb), .val (.int mc), .val (.int (2 : Int32)), .val (.int (0 : Int32)), .val (.int mc)] []))
    refine own_g (mkF m 47 #[.val (.ref a), .val (.ref ib), .val (.ref cb), .val (.ref rb), .val (.ref xb), .val (.ref yb), .val (.int mc), .val (.int (2 : Int32)), .val (.int (0 : Int32)), .val (.int (mc + (1 : Int32)))] []) (fun _ kz => XS.iinc X2113.here hx rfl (hb hby od_2_44) rfl (l' := #[.val (.ref a), .val (.ref ib), .val (.ref cb), .val (.ref rb), .val (.ref xb), .val (.ref yb), .val (.int mc), .val (.int (2 : Int32)), .val (.int (0 : Int32)), .val (.int (mc + (1 : Int32)))]) rfl kz) ?_
    refine own_g (mkF m 48 #[.val (.ref a), .val (.ref ib), .val (.ref cb), .val (.ref rb), .val (.ref xb), .val (.ref yb), .val (.int mc), .val (.int (2 : Int32)), .val (.int (0 : Int32)), .val (.int (mc + (1 : Int32)))] [(.ref rb)]) (fun _ kz => XS.aloadN X2113.here hx rfl (hb hby od_2_47) rfl rfl kz) ?_
    refine own_g (mkF m 50 #[.val (.ref a), .val (.ref ib), .val (.ref cb), .val (.ref rb), .val (.ref xb), .val (.ref yb), .val (.int mc), .val (.int (2 : Int32)), .val (.int (0 : Int32)), .val (.int (mc + (1 : Int32)))] [(.int (0 : Int32)), (.ref rb)]) (fun _ kz => XS.iload X2113.here hx rfl (hb hby od_2_48) rfl kz) ?_
    refine own_ildZ X2113 hx hZ e2113 f2117 (hb hby od_2_50) (by decide) (i := 0) rfl (by decide) (x := (frt 0)) rfl ?_
    show own_E p e below _ (T2113.setTop (mkF m 51 #[.val (.ref a), .val (.ref ib), .val (.ref cb), .val (.ref rb), .val (.ref xb), .val (.ref yb), .val (.int mc), .val (.int (2 : Int32)), .val (.int (0 : Int32)), .val (.int (mc + (1 : Int32)))] [(.int (frt 0))]))
    by_cases hc51_2121 : (frt 0) = (0 : Int32)
    · refine own_g (mkF m 54 #[.val (.ref a), .val (.ref ib), .val (.ref cb), .val (.ref rb), .val (.ref xb), .val (.ref yb), .val (.int mc), .val (.int (2 : Int32)), .val (.int (0 : Int32)), .val (.int (mc + (1 : Int32)))] []) (fun _ kz => XS.ifNo X2113.here hx rfl (hb hby od_2_51) rfl ((if0 _ _).trans (teq hc51_2121).2) kz) ?_
      refine own_g (mkF m 55 #[.val (.ref a), .val (.ref ib), .val (.ref cb), .val (.ref rb), .val (.ref xb), .val (.ref yb), .val (.int mc), .val (.int (2 : Int32)), .val (.int (0 : Int32)), .val (.int (mc + (1 : Int32)))] [(.ref rb)]) (fun _ kz => XS.aloadN X2113.here hx rfl (hb hby od_2_54) rfl rfl kz) ?_
      refine own_g (mkF m 57 #[.val (.ref a), .val (.ref ib), .val (.ref cb), .val (.ref rb), .val (.ref xb), .val (.ref yb), .val (.int mc), .val (.int (2 : Int32)), .val (.int (0 : Int32)), .val (.int (mc + (1 : Int32)))] [(.int (0 : Int32)), (.ref rb)]) (fun _ kz => XS.iload X2113.here hx rfl (hb hby od_2_55) rfl kz) ?_
      refine own_g (mkF m 58 #[.val (.ref a), .val (.ref ib), .val (.ref cb), .val (.ref rb), .val (.ref xb), .val (.ref yb), .val (.int mc), .val (.int (2 : Int32)), .val (.int (0 : Int32)), .val (.int (mc + (1 : Int32)))] [(.int (1 : Int32)), (.int (0 : Int32)), (.ref rb)]) (fun _ kz => XS.iconst X2113.here hx rfl (hb hby od_2_57) kz) ?_
      refine own_stZ X2113 hx hZ e2113 f2117 (hb hby od_2_58) (by decide) (i := 0) rfl (by decide) ?_
      intro T2122 h2122 X2122 e2122 W2122 A2122
      have N2122 := Fr.snoc X2122 N2113 (by show @LE.le Nat _ _ _; omega)
      have s2123 : n0 ≤ h2122.size := Nat.le_trans s2114 (Keep.of_wr W2122).1
      have f2124 := f2115.other W2122 (by show @Ne Nat _ _; omega)
      have f2125 := f2116.other W2122 (by show @Ne Nat _ _; omega)
      have f2126 := A2113.other W2122 (by show @Ne Nat _ _; omega)
      have f2127 := f2118.other W2122 (by show @Ne Nat _ _; omega)
      have K2128 := own_KL.wr K2119 W2122 (by omega)
      have f2129 := own_D.arr W2122 (by omega) (by omega) f2120
      show own_E p e below _ (T2122.setTop (mkF m 59 #[.val (.ref a), .val (.ref ib), .val (.ref cb), .val (.ref rb), .val (.ref xb), .val (.ref yb), .val (.int mc), .val (.int (2 : Int32)), .val (.int (0 : Int32)), .val (.int (mc + (1 : Int32)))] []))
      refine own_g (mkF m 61 #[.val (.ref a), .val (.ref ib), .val (.ref cb), .val (.ref rb), .val (.ref xb), .val (.ref yb), .val (.int mc), .val (.int (2 : Int32)), .val (.int (0 : Int32)), .val (.int (mc + (1 : Int32)))] [(.ref yb)]) (fun _ kz => XS.aload X2122.here hx rfl (hb hby od_2_59) rfl rfl kz) ?_
      refine own_g (mkF m 63 #[.val (.ref a), .val (.ref ib), .val (.ref cb), .val (.ref rb), .val (.ref xb), .val (.ref yb), .val (.int mc), .val (.int (2 : Int32)), .val (.int (0 : Int32)), .val (.int (mc + (1 : Int32)))] [(.int (0 : Int32)), (.ref yb)]) (fun _ kz => XS.iload X2122.here hx rfl (hb hby od_2_61) rfl kz) ?_
      refine own_g (mkF m 65 #[.val (.ref a), .val (.ref ib), .val (.ref cb), .val (.ref rb), .val (.ref xb), .val (.ref yb), .val (.int mc), .val (.int (2 : Int32)), .val (.int (0 : Int32)), .val (.int (mc + (1 : Int32)))] [(.int (mc + (1 : Int32))), (.int (0 : Int32)), (.ref yb)]) (fun _ kz => XS.iload X2122.here hx rfl (hb hby od_2_63) rfl kz) ?_
      refine own_stI X2122 hx hZ e2122 f2127 (hb hby od_2_65) (by decide) (i := 0) rfl (by decide) ?_
      intro T2130 h2130 X2130 e2130 W2130 A2130
      have N2130 := Fr.snoc X2130 N2122 (by show @LE.le Nat _ _ _; omega)
      have s2131 : n0 ≤ h2130.size := Nat.le_trans s2123 (Keep.of_wr W2130).1
      have f2132 := f2124.other W2130 (by show @Ne Nat _ _; omega)
      have f2133 := f2125.other W2130 (by show @Ne Nat _ _; omega)
      have f2134 := A2122.other W2130 (by show @Ne Nat _ _; omega)
      have f2135 := f2126.other W2130 (by show @Ne Nat _ _; omega)
      have K2136 := own_KL.wr K2128 W2130 (by omega)
      have f2137 := own_D.arr W2130 (by omega) (by omega) f2129
      show own_E p e below _ (T2130.setTop (mkF m 66 #[.val (.ref a), .val (.ref ib), .val (.ref cb), .val (.ref rb), .val (.ref xb), .val (.ref yb), .val (.int mc), .val (.int (2 : Int32)), .val (.int (0 : Int32)), .val (.int (mc + (1 : Int32)))] []))
      refine own_g (mkF m 69 #[.val (.ref a), .val (.ref ib), .val (.ref cb), .val (.ref rb), .val (.ref xb), .val (.ref yb), .val (.int mc), .val (.int (2 : Int32)), .val (.int (0 : Int32)), .val (.int ((mc + (1 : Int32)) + (1 : Int32)))] []) (fun _ kz => XS.iinc X2130.here hx rfl (hb hby od_2_66) rfl (l' := #[.val (.ref a), .val (.ref ib), .val (.ref cb), .val (.ref rb), .val (.ref xb), .val (.ref yb), .val (.int mc), .val (.int (2 : Int32)), .val (.int (0 : Int32)), .val (.int ((mc + (1 : Int32)) + (1 : Int32)))]) rfl kz) ?_
      refine own_g (mkF m 102 #[.val (.ref a), .val (.ref ib), .val (.ref cb), .val (.ref rb), .val (.ref xb), .val (.ref yb), .val (.int mc), .val (.int (2 : Int32)), .val (.int (0 : Int32)), .val (.int ((mc + (1 : Int32)) + (1 : Int32)))] []) (fun _ kz => XS.goto X2130.here hx rfl (pc0 := 69) (pc' := 102) rfl (hb hby od_2_69) (by decide) (by decide) kz) ?_
      refine own_g (mkF m 104 #[.val (.ref a), .val (.ref ib), .val (.ref cb), .val (.ref rb), .val (.ref xb), .val (.ref yb), .val (.int mc), .val (.int (2 : Int32)), .val (.int (0 : Int32)), .val (.int ((mc + (1 : Int32)) + (1 : Int32)))] [(.int ((mc + (1 : Int32)) + (1 : Int32)))]) (fun _ kz => XS.iload X2130.here hx rfl (hb hby od_2_102) rfl kz) ?_
      exact own_retI X2130 hx hret hlk (hb hby od_2_104) (by decide) (by decide) (by first | exact ⟨f2098', k2098', m2098', c2098', _, _, _, _, _, rfl, N2130, K2136, by rw [eq2098]; simp [own_apl, own_mc, own_mr, hc29_2104, hc51_2121], by omega, f2137, f2132, f2133, f2134, f2135, A2130⟩ | (rw [e2130]; exact ⟨f2098', k2098', m2098', c2098', _, _, _, _, _, rfl, N2130, K2136, by rw [eq2098]; simp [own_apl, own_mc, own_mr, hc29_2104, hc51_2121], by omega, f2137, f2132, f2133, f2134, f2135, A2130⟩))
    · refine own_g (mkF m 102 #[.val (.ref a), .val (.ref ib), .val (.ref cb), .val (.ref rb), .val (.ref xb), .val (.ref yb), .val (.int mc), .val (.int (2 : Int32)), .val (.int (0 : Int32)), .val (.int (mc + (1 : Int32)))] []) (fun _ kz => XS.ifYes X2113.here hx rfl (pc0 := 51) (pc' := 102) rfl (hb hby od_2_51) rfl ((if0 _ _).trans (feq hc51_2121).2) (by decide) (by decide) kz) ?_
      refine own_g (mkF m 104 #[.val (.ref a), .val (.ref ib), .val (.ref cb), .val (.ref rb), .val (.ref xb), .val (.ref yb), .val (.int mc), .val (.int (2 : Int32)), .val (.int (0 : Int32)), .val (.int (mc + (1 : Int32)))] [(.int (mc + (1 : Int32)))]) (fun _ kz => XS.iload X2113.here hx rfl (hb hby od_2_102) rfl kz) ?_
      exact own_retI X2113 hx hret hlk (hb hby od_2_104) (by decide) (by decide) (by first | exact ⟨f2098', k2098', m2098', c2098', _, _, _, _, _, rfl, N2113, K2119, by rw [eq2098]; simp [own_apl, own_mc, own_mr, hc29_2104, hc51_2121], by omega, f2120, f2115, f2116, f2117, A2113, f2118⟩ | (rw [e2113]; exact ⟨f2098', k2098', m2098', c2098', _, _, _, _, _, rfl, N2113, K2119, by rw [eq2098]; simp [own_apl, own_mc, own_mr, hc29_2104, hc51_2121], by omega, f2120, f2115, f2116, f2117, A2113, f2118⟩))
  · refine own_g (mkF m 47 #[.val (.ref a), .val (.ref ib), .val (.ref cb), .val (.ref rb), .val (.ref xb), .val (.ref yb), .val (.int mc), .val (.int (2 : Int32)), .val (.int (0 : Int32)), .val (.int mc)] []) (fun _ kz => XS.ifYes X2098.here hx rfl (pc0 := 29) (pc' := 47) rfl (hb hby od_2_29) rfl ((if0 _ _).trans (feq hc29_2104).2) (by decide) (by decide) kz) ?_
    refine own_g (mkF m 48 #[.val (.ref a), .val (.ref ib), .val (.ref cb), .val (.ref rb), .val (.ref xb), .val (.ref yb), .val (.int mc), .val (.int (2 : Int32)), .val (.int (0 : Int32)), .val (.int mc)] [(.ref rb)]) (fun _ kz => XS.aloadN X2098.here hx rfl (hb hby od_2_47) rfl rfl kz) ?_
    refine own_g (mkF m 50 #[.val (.ref a), .val (.ref ib), .val (.ref cb), .val (.ref rb), .val (.ref xb), .val (.ref yb), .val (.int mc), .val (.int (2 : Int32)), .val (.int (0 : Int32)), .val (.int mc)] [(.int (0 : Int32)), (.ref rb)]) (fun _ kz => XS.iload X2098.here hx rfl (hb hby od_2_48) rfl kz) ?_
    refine own_ildZ X2098 hx hZ rfl f2101 (hb hby od_2_50) (by decide) (i := 0) rfl (by decide) (x := (frt 0)) rfl ?_
    show own_E p e below _ (T2098.setTop (mkF m 51 #[.val (.ref a), .val (.ref ib), .val (.ref cb), .val (.ref rb), .val (.ref xb), .val (.ref yb), .val (.int mc), .val (.int (2 : Int32)), .val (.int (0 : Int32)), .val (.int mc)] [(.int (frt 0))]))
    by_cases hc51_2138 : (frt 0) = (0 : Int32)
    · refine own_g (mkF m 54 #[.val (.ref a), .val (.ref ib), .val (.ref cb), .val (.ref rb), .val (.ref xb), .val (.ref yb), .val (.int mc), .val (.int (2 : Int32)), .val (.int (0 : Int32)), .val (.int mc)] []) (fun _ kz => XS.ifNo X2098.here hx rfl (hb hby od_2_51) rfl ((if0 _ _).trans (teq hc51_2138).2) kz) ?_
      refine own_g (mkF m 55 #[.val (.ref a), .val (.ref ib), .val (.ref cb), .val (.ref rb), .val (.ref xb), .val (.ref yb), .val (.int mc), .val (.int (2 : Int32)), .val (.int (0 : Int32)), .val (.int mc)] [(.ref rb)]) (fun _ kz => XS.aloadN X2098.here hx rfl (hb hby od_2_54) rfl rfl kz) ?_
      refine own_g (mkF m 57 #[.val (.ref a), .val (.ref ib), .val (.ref cb), .val (.ref rb), .val (.ref xb), .val (.ref yb), .val (.int mc), .val (.int (2 : Int32)), .val (.int (0 : Int32)), .val (.int mc)] [(.int (0 : Int32)), (.ref rb)]) (fun _ kz => XS.iload X2098.here hx rfl (hb hby od_2_55) rfl kz) ?_
      refine own_g (mkF m 58 #[.val (.ref a), .val (.ref ib), .val (.ref cb), .val (.ref rb), .val (.ref xb), .val (.ref yb), .val (.int mc), .val (.int (2 : Int32)), .val (.int (0 : Int32)), .val (.int mc)] [(.int (1 : Int32)), (.int (0 : Int32)), (.ref rb)]) (fun _ kz => XS.iconst X2098.here hx rfl (hb hby od_2_57) kz) ?_
      refine own_stZ X2098 hx hZ rfl f2101 (hb hby od_2_58) (by decide) (i := 0) rfl (by decide) ?_
      intro T2139 h2139 X2139 e2139 W2139 A2139
      have N2139 := Fr.snoc X2139 N2098 (by show @LE.le Nat _ _ _; omega)
      have s2140 : n0 ≤ h2139.size := Nat.le_trans zq2098 (Keep.of_wr W2139).1
      have f2141 := f2099.other W2139 (by show @Ne Nat _ _; omega)
      have f2142 := f2100.other W2139 (by show @Ne Nat _ _; omega)
      have f2143 := f2102.other W2139 (by show @Ne Nat _ _; omega)
      have f2144 := f2103.other W2139 (by show @Ne Nat _ _; omega)
      have K2145 := own_KL.wr KX2098 W2139 (by omega)
      have f2146 := own_D.arr W2139 (by omega) (by omega) D2098
      show own_E p e below _ (T2139.setTop (mkF m 59 #[.val (.ref a), .val (.ref ib), .val (.ref cb), .val (.ref rb), .val (.ref xb), .val (.ref yb), .val (.int mc), .val (.int (2 : Int32)), .val (.int (0 : Int32)), .val (.int mc)] []))
      refine own_g (mkF m 61 #[.val (.ref a), .val (.ref ib), .val (.ref cb), .val (.ref rb), .val (.ref xb), .val (.ref yb), .val (.int mc), .val (.int (2 : Int32)), .val (.int (0 : Int32)), .val (.int mc)] [(.ref yb)]) (fun _ kz => XS.aload X2139.here hx rfl (hb hby od_2_59) rfl rfl kz) ?_
      refine own_g (mkF m 63 #[.val (.ref a), .val (.ref ib), .val (.ref cb), .val (.ref rb), .val (.ref xb), .val (.ref yb), .val (.int mc), .val (.int (2 : Int32)), .val (.int (0 : Int32)), .val (.int mc)] [(.int (0 : Int32)), (.ref yb)]) (fun _ kz => XS.iload X2139.here hx rfl (hb hby od_2_61) rfl kz) ?_
      refine own_g (mkF m 65 #[.val (.ref a), .val (.ref ib), .val (.ref cb), .val (.ref rb), .val (.ref xb), .val (.ref yb), .val (.int mc), .val (.int (2 : Int32)), .val (.int (0 : Int32)), .val (.int mc)] [(.int mc), (.int (0 : Int32)), (.ref yb)]) (fun _ kz => XS.iload X2139.here hx rfl (hb hby od_2_63) rfl kz) ?_
      refine own_stI X2139 hx hZ e2139 f2144 (hb hby od_2_65) (by decide) (i := 0) rfl (by decide) ?_
      intro T2147 h2147 X2147 e2147 W2147 A2147
      have N2147 := Fr.snoc X2147 N2139 (by show @LE.le Nat _ _ _; omega)
      have s2148 : n0 ≤ h2147.size := Nat.le_trans s2140 (Keep.of_wr W2147).1
      have f2149 := f2141.other W2147 (by show @Ne Nat _ _; omega)
      have f2150 := f2142.other W2147 (by show @Ne Nat _ _; omega)
      have f2151 := A2139.other W2147 (by show @Ne Nat _ _; omega)
      have f2152 := f2143.other W2147 (by show @Ne Nat _ _; omega)
      have K2153 := own_KL.wr K2145 W2147 (by omega)
      have f2154 := own_D.arr W2147 (by omega) (by omega) f2146
      show own_E p e below _ (T2147.setTop (mkF m 66 #[.val (.ref a), .val (.ref ib), .val (.ref cb), .val (.ref rb), .val (.ref xb), .val (.ref yb), .val (.int mc), .val (.int (2 : Int32)), .val (.int (0 : Int32)), .val (.int mc)] []))
      refine own_g (mkF m 69 #[.val (.ref a), .val (.ref ib), .val (.ref cb), .val (.ref rb), .val (.ref xb), .val (.ref yb), .val (.int mc), .val (.int (2 : Int32)), .val (.int (0 : Int32)), .val (.int (mc + (1 : Int32)))] []) (fun _ kz => XS.iinc X2147.here hx rfl (hb hby od_2_66) rfl (l' := #[.val (.ref a), .val (.ref ib), .val (.ref cb), .val (.ref rb), .val (.ref xb), .val (.ref yb), .val (.int mc), .val (.int (2 : Int32)), .val (.int (0 : Int32)), .val (.int (mc + (1 : Int32)))]) rfl kz) ?_
      refine own_g (mkF m 102 #[.val (.ref a), .val (.ref ib), .val (.ref cb), .val (.ref rb), .val (.ref xb), .val (.ref yb), .val (.int mc), .val (.int (2 : Int32)), .val (.int (0 : Int32)), .val (.int (mc + (1 : Int32)))] []) (fun _ kz => XS.goto X2147.here hx rfl (pc0 := 69) (pc' := 102) rfl (hb hby od_2_69) (by decide) (by decide) kz) ?_
      refine own_g (mkF m 104 #[.val (.ref a), .val (.ref ib), .val (.ref cb), .val (.ref rb), .val (.ref xb), .val (.ref yb), .val (.int mc), .val (.int (2 : Int32)), .val (.int (0 : Int32)), .val (.int (mc + (1 : Int32)))] [(.int (mc + (1 : Int32)))]) (fun _ kz => XS.iload X2147.here hx rfl (hb hby od_2_102) rfl kz) ?_
      exact own_retI X2147 hx hret hlk (hb hby od_2_104) (by decide) (by decide) (by first | exact ⟨f2098', k2098', m2098', c2098', _, _, _, _, _, rfl, N2147, K2153, by rw [eq2098]; simp [own_apl, own_mc, own_mr, hc29_2104, hc51_2138], by omega, f2154, f2149, f2150, f2151, f2152, A2147⟩ | (rw [e2147]; exact ⟨f2098', k2098', m2098', c2098', _, _, _, _, _, rfl, N2147, K2153, by rw [eq2098]; simp [own_apl, own_mc, own_mr, hc29_2104, hc51_2138], by omega, f2154, f2149, f2150, f2151, f2152, A2147⟩))
    · refine own_g (mkF m 102 #[.val (.ref a), .val (.ref ib), .val (.ref cb), .val (.ref rb), .val (.ref xb), .val (.ref yb), .val (.int mc), .val (.int (2 : Int32)), .val (.int (0 : Int32)), .val (.int mc)] []) (fun _ kz => XS.ifYes X2098.here hx rfl (pc0 := 51) (pc' := 102) rfl (hb hby od_2_51) rfl ((if0 _ _).trans (feq hc51_2138).2) (by decide) (by decide) kz) ?_
      refine own_g (mkF m 104 #[.val (.ref a), .val (.ref ib), .val (.ref cb), .val (.ref rb), .val (.ref xb), .val (.ref yb), .val (.int mc), .val (.int (2 : Int32)), .val (.int (0 : Int32)), .val (.int mc)] [(.int mc)]) (fun _ kz => XS.iload X2098.here hx rfl (hb hby od_2_102) rfl kz) ?_
      exact own_retI X2098 hx hret hlk (hb hby od_2_104) (by decide) (by decide) ((⟨f2098', k2098', m2098', c2098', _, _, _, _, _, rfl, N2098, KX2098, by rw [eq2098]; simp [own_apl, own_mc, own_mr, hc29_2104, hc51_2138], by omega, D2098, f2099, f2100, f2101, f2102, f2103⟩))
set_option maxRecDepth 65536 in
set_option maxHeartbeats 40000000 in
theorem own_c_app3 (l : Launch) (Z : State) (a0 : Array Value) (hw : ∀ d ∈ tables_1, d.before a0 Z = true) (lo : Nat) (a : Nat) (pb : Nat) (fb : Nat) (sb : Nat) (ff : Nat → Int32) (mk : Nat → Int32) (mf : Nat → Int32) (cc : Nat) (ib : Nat) (cb : Nat) (rb : Nat) (xb : Nat) (yb : Nat) (fi : Nat → Int32) (fch : Nat → Int32) (frt : Nat → Int32) (fx : Nat → Int32) (fy : Nat → Int32) (mc : Int32) (h0 : Heap) (n0 : Nat) (Z0 : n0 ≤ h0.size) (hcc : cc < 50) (D0 : own_D Z h0 n0 lo a pb fb sb ff mk mf cc) (o1 : fb < ib) (o2 : ib < cb) (o3 : cb < rb) (o4 : rb < xb) (o5 : xb < yb) (o6 : yb < lo) (Ai : own_IA Z h0 ib .int 2 fi) (i0 : fi 0 = 0) (i1 : fi 1 = 1) (Ac : own_IA Z h0 cb .boolean 2 fch) (Ar : own_IA Z h0 rb .boolean 2 frt) (Ax : own_IA Z h0 xb .int 2 fx) (Ay : own_IA Z h0 yb .int 2 fy) :
    own_Con l Z (⟨"com/example/holdfast/holdfast/dom/CompactDocumentUnmarkSincePinLaw", "apply", "(Lcom/example/holdfast/holdfast/dom/CompactDocument;[I[Z[Z[I[III)I"⟩ : MethodName) method_2_code 10 (some .int) [] ({ frames := 4, cells := 4, slots := 256, locals := 60 } : Room) #[(.ref a), (.ref ib), (.ref cb), (.ref rb), (.ref xb), (.ref yb), (.int mc), (.int (3 : Int32))] h0 (fun v h L => ∃ f' k' m' c' u1 u2 u3 u4 u5, v = some (.int u5) ∧ Fr n0 L ∧ own_KL yb lo h0 h ∧ ((f', k', m', c'), (u1, u2, u3, u4, u5)) = own_apl 3 (ff, mk, mf, cc) (fch, frt, fx, fy, mc) ∧ c' ≤ cc + 2 ∧ own_D Z h n0 lo a pb fb sb f' k' m' c' ∧ own_IA Z h ib .int 2 fi ∧ own_IA Z h cb .boolean 2 u1 ∧ own_IA Z h rb .boolean 2 u2 ∧ own_IA Z h xb .int 2 u3 ∧ own_IA Z h yb .int 2 u4) := by
  refine own_enter (plainFor_of_name own_pn8) ?_
  intro p e s m below meth c s₁ X0 e0 hx hZ hby hml hown hnm hret hlk
  refine own_cast (g' := (mkF m 0 #[.val (.ref a), .val (.ref ib), .val (.ref cb), .val (.ref rb), .val (.ref xb), .val (.ref yb), .val (.int mc), .val (.int (3 : Int32)), .unset, .unset] [])) (by first | (simp [entryFrame, mkF, argsToLocals, Value.category]; done) | rfl) ?_
  have N0 := Fr.nil n0
  have oc := D0.2.2.2.2.2.2.2.2.2.2.2.2.2.2.2.1
  have ob := D0.2.2.2.2.2.2.2.2.2.2.2.2.2.2.1
  have oa := D0.2.2.2.2.2.2.2.2.2.2.2.2.2.1
  have na := D0.2.2.2.2.2.2.2.2.2.2.2.1
  have KL0 : own_KL yb lo h0 h0 := own_KL.refl h0
  refine own_g (mkF m 2 #[.val (.ref a), .val (.ref ib), .val (.ref cb), .val (.ref rb), .val (.ref xb), .val (.ref yb), .val (.int mc), .val (.int (3 : Int32)), .unset, .unset] [(.int (3 : Int32))]) (fun _ kz => XS.iload X0.here hx rfl (hb hby od_2_0) rfl kz) ?_
  refine own_g (mkF m 3 #[.val (.ref a), .val (.ref ib), .val (.ref cb), .val (.ref rb), .val (.ref xb), .val (.ref yb), .val (.int mc), .val (.int (3 : Int32)), .unset, .unset] [(.int (1 : Int32)), (.int (3 : Int32))]) (fun _ kz => XS.iconst X0.here hx rfl (hb hby od_2_2) kz) ?_
  refine own_g (mkF m 4 #[.val (.ref a), .val (.ref ib), .val (.ref cb), .val (.ref rb), .val (.ref xb), .val (.ref yb), .val (.int mc), .val (.int (3 : Int32)), .unset, .unset] [(.int ((3 : Int32) &&& (1 : Int32)))]) (fun _ kz => XS.iand X0.here hx rfl (hb hby od_2_3) rfl kz) ?_
  rw [show ((3 : Int32) &&& (1 : Int32)) = (1 : Int32) from by decide]
  show own_E p e below _ (s₁.setTop (mkF m 4 #[.val (.ref a), .val (.ref ib), .val (.ref cb), .val (.ref rb), .val (.ref xb), .val (.ref yb), .val (.int mc), .val (.int (3 : Int32)), .unset, .unset] [(.int (1 : Int32))]))
  refine own_g (mkF m 6 #[.val (.ref a), .val (.ref ib), .val (.ref cb), .val (.ref rb), .val (.ref xb), .val (.ref yb), .val (.int mc), .val (.int (3 : Int32)), .val (.int (1 : Int32)), .unset] []) (fun _ kz => XS.istore X0.here hx rfl (hb hby od_2_4) rfl (l' := #[.val (.ref a), .val (.ref ib), .val (.ref cb), .val (.ref rb), .val (.ref xb), .val (.ref yb), .val (.int mc), .val (.int (3 : Int32)), .val (.int (1 : Int32)), .unset]) rfl kz) ?_
  refine own_g (mkF m 8 #[.val (.ref a), .val (.ref ib), .val (.ref cb), .val (.ref rb), .val (.ref xb), .val (.ref yb), .val (.int mc), .val (.int (3 : Int32)), .val (.int (1 : Int32)), .unset] [(.int mc)]) (fun _ kz => XS.iload X0.here hx rfl (hb hby od_2_6) rfl kz) ?_
  refine own_g (mkF m 10 #[.val (.ref a), .val (.ref ib), .val (.ref cb), .val (.ref rb), .val (.ref xb), .val (.ref yb), .val (.int mc), .val (.int (3 : Int32)), .val (.int (1 : Int32)), .val (.int mc)] []) (fun _ kz => XS.istore X0.here hx rfl (hb hby od_2_8) rfl (l' := #[.val (.ref a), .val (.ref ib), .val (.ref cb), .val (.ref rb), .val (.ref xb), .val (.ref yb), .val (.int mc), .val (.int (3 : Int32)), .val (.int (1 : Int32)), .val (.int mc)]) rfl kz) ?_
  refine own_g (mkF m 12 #[.val (.ref a), .val (.ref ib), .val (.ref cb), .val (.ref rb), .val (.ref xb), .val (.ref yb), .val (.int mc), .val (.int (3 : Int32)), .val (.int (1 : Int32)), .val (.int mc)] [(.int (3 : Int32))]) (fun _ kz => XS.iload X0.here hx rfl (hb hby od_2_10) rfl kz) ?_
  refine own_g (mkF m 13 #[.val (.ref a), .val (.ref ib), .val (.ref cb), .val (.ref rb), .val (.ref xb), .val (.ref yb), .val (.int mc), .val (.int (3 : Int32)), .val (.int (1 : Int32)), .val (.int mc)] [(.int (2 : Int32)), (.int (3 : Int32))]) (fun _ kz => XS.iconst X0.here hx rfl (hb hby od_2_12) kz) ?_
  refine own_g (mkF m 14 #[.val (.ref a), .val (.ref ib), .val (.ref cb), .val (.ref rb), .val (.ref xb), .val (.ref yb), .val (.int mc), .val (.int (3 : Int32)), .val (.int (1 : Int32)), .val (.int mc)] [(.int ((3 : Int32) &&& (2 : Int32)))]) (fun _ kz => XS.iand X0.here hx rfl (hb hby od_2_13) rfl kz) ?_
  rw [show ((3 : Int32) &&& (2 : Int32)) = (2 : Int32) from by decide]
  show own_E p e below _ (s₁.setTop (mkF m 14 #[.val (.ref a), .val (.ref ib), .val (.ref cb), .val (.ref rb), .val (.ref xb), .val (.ref yb), .val (.int mc), .val (.int (3 : Int32)), .val (.int (1 : Int32)), .val (.int mc)] [(.int (2 : Int32))]))
  refine own_g (mkF m 17 #[.val (.ref a), .val (.ref ib), .val (.ref cb), .val (.ref rb), .val (.ref xb), .val (.ref yb), .val (.int mc), .val (.int (3 : Int32)), .val (.int (1 : Int32)), .val (.int mc)] []) (fun _ kz => XS.ifNo X0.here hx rfl (hb hby od_2_14) rfl ((if0 _ _).trans (feq (by decide)).1) kz) ?_
  refine own_g (mkF m 18 #[.val (.ref a), .val (.ref ib), .val (.ref cb), .val (.ref rb), .val (.ref xb), .val (.ref yb), .val (.int mc), .val (.int (3 : Int32)), .val (.int (1 : Int32)), .val (.int mc)] [(.ref a)]) (fun _ kz => XS.aloadN X0.here hx rfl (hb hby od_2_17) rfl rfl kz) ?_
  refine own_g (mkF m 19 #[.val (.ref a), .val (.ref ib), .val (.ref cb), .val (.ref rb), .val (.ref xb), .val (.ref yb), .val (.int mc), .val (.int (3 : Int32)), .val (.int (1 : Int32)), .val (.int mc)] [(.ref ib), (.ref a)]) (fun _ kz => XS.aloadN X0.here hx rfl (hb hby od_2_18) rfl rfl kz) ?_
  refine own_g (mkF m 21 #[.val (.ref a), .val (.ref ib), .val (.ref cb), .val (.ref rb), .val (.ref xb), .val (.ref yb), .val (.int mc), .val (.int (3 : Int32)), .val (.int (1 : Int32)), .val (.int mc)] [(.int (1 : Int32)), (.ref ib), (.ref a)]) (fun _ kz => XS.iload X0.here hx rfl (hb hby od_2_19) rfl kz) ?_
  refine own_ildI X0 hx hZ e0 Ai (hb hby od_2_21) (by decide) (i := 1) rfl (by decide) (x := (1 : Int32)) i1 ?_
  show own_E p e below _ (s₁.setTop (mkF m 22 #[.val (.ref a), .val (.ref ib), .val (.ref cb), .val (.ref rb), .val (.ref xb), .val (.ref yb), .val (.int mc), .val (.int (3 : Int32)), .val (.int (1 : Int32)), .val (.int mc)] [(.int (1 : Int32)), (.ref a)]))
  refine own_callV (rest := []) (a := a) (as := [(.int (1 : Int32))]) X0 hx hZ hown e0 (own_c_ret1 l Z a0 hw lo a pb fb sb ff mk mf cc h0 n0 Z0 (by omega) D0) D0.1 (own_w hw 215 rfl) (own_w hw 216 rfl) (own_w hw 218 rfl) (own_w hw 217 rfl) (own_w hw 14 rfl) (own_w hw 219 rfl) (by decide) own_pd5 rfl (by rw [hml]; rfl) rfl (hb hby od_2_22) 0 (by show 2 * 0 + _ ≤ _; exact Nat.le_of_eq rfl) (by decide) (by decide) (by decide) (by decide) ?_
  rintro _ T2155 L2155 X2155 ⟨rfl, Nq2155, KL2155, f2155', k2155', m2155', c2155', eq2155, lc2155, D2155⟩
  have N2155 := Fr.app N0 Nq2155
  have zq2155 : n0 ≤ T2155.heap.size := Nat.le_trans Z0 KL2155.1
  have KX2155 := own_KL.trans KL0 (KL2155.mono (show fb ≤ yb by omega))
  have f2156 := own_IA.kl Ai KL2155 (by omega) (by omega)
  have f2157 := own_IA.kl Ac KL2155 (by omega) (by omega)
  have f2158 := own_IA.kl Ar KL2155 (by omega) (by omega)
  have f2159 := own_IA.kl Ax KL2155 (by omega) (by omega)
  have f2160 := own_IA.kl Ay KL2155 (by omega) (by omega)
  show own_E p e below _ (T2155.setTop (mkF m 25 #[.val (.ref a), .val (.ref ib), .val (.ref cb), .val (.ref rb), .val (.ref xb), .val (.ref yb), .val (.int mc), .val (.int (3 : Int32)), .val (.int (1 : Int32)), .val (.int mc)] []))
  refine own_g (mkF m 26 #[.val (.ref a), .val (.ref ib), .val (.ref cb), .val (.ref rb), .val (.ref xb), .val (.ref yb), .val (.int mc), .val (.int (3 : Int32)), .val (.int (1 : Int32)), .val (.int mc)] [(.ref cb)]) (fun _ kz => XS.aloadN X2155.here hx rfl (hb hby od_2_25) rfl rfl kz) ?_
  refine own_g (mkF m 28 #[.val (.ref a), .val (.ref ib), .val (.ref cb), .val (.ref rb), .val (.ref xb), .val (.ref yb), .val (.int mc), .val (.int (3 : Int32)), .val (.int (1 : Int32)), .val (.int mc)] [(.int (1 : Int32)), (.ref cb)]) (fun _ kz => XS.iload X2155.here hx rfl (hb hby od_2_26) rfl kz) ?_
  refine own_ildZ X2155 hx hZ rfl f2157 (hb hby od_2_28) (by decide) (i := 1) rfl (by decide) (x := (fch 1)) rfl ?_
  show own_E p e below _ (T2155.setTop (mkF m 29 #[.val (.ref a), .val (.ref ib), .val (.ref cb), .val (.ref rb), .val (.ref xb), .val (.ref yb), .val (.int mc), .val (.int (3 : Int32)), .val (.int (1 : Int32)), .val (.int mc)] [(.int (fch 1))]))
  by_cases hc29_2161 : (fch 1) = (0 : Int32)
  · refine own_g (mkF m 32 #[.val (.ref a), .val (.ref ib), .val (.ref cb), .val (.ref rb), .val (.ref xb), .val (.ref yb), .val (.int mc), .val (.int (3 : Int32)), .val (.int (1 : Int32)), .val (.int mc)] []) (fun _ kz => XS.ifNo X2155.here hx rfl (hb hby od_2_29) rfl ((if0 _ _).trans (teq hc29_2161).2) kz) ?_
    refine own_g (mkF m 33 #[.val (.ref a), .val (.ref ib), .val (.ref cb), .val (.ref rb), .val (.ref xb), .val (.ref yb), .val (.int mc), .val (.int (3 : Int32)), .val (.int (1 : Int32)), .val (.int mc)] [(.ref cb)]) (fun _ kz => XS.aloadN X2155.here hx rfl (hb hby od_2_32) rfl rfl kz) ?_
    refine own_g (mkF m 35 #[.val (.ref a), .val (.ref ib), .val (.ref cb), .val (.ref rb), .val (.ref xb), .val (.ref yb), .val (.int mc), .val (.int (3 : Int32)), .val (.int (1 : Int32)), .val (.int mc)] [(.int (1 : Int32)), (.ref cb)]) (fun _ kz => XS.iload X2155.here hx rfl (hb hby od_2_33) rfl kz) ?_
    refine own_g (mkF m 36 #[.val (.ref a), .val (.ref ib), .val (.ref cb), .val (.ref rb), .val (.ref xb), .val (.ref yb), .val (.int mc), .val (.int (3 : Int32)), .val (.int (1 : Int32)), .val (.int mc)] [(.int (1 : Int32)), (.int (1 : Int32)), (.ref cb)]) (fun _ kz => XS.iconst X2155.here hx rfl (hb hby od_2_35) kz) ?_
    refine own_stZ X2155 hx hZ rfl f2157 (hb hby od_2_36) (by decide) (i := 1) rfl (by decide) ?_
    intro T2162 h2162 X2162 e2162 W2162 A2162
    have N2162 := Fr.snoc X2162 N2155 (by show @LE.le Nat _ _ _; omega)
    have s2163 : n0 ≤ h2162.size := Nat.le_trans zq2155 (Keep.of_wr W2162).1
    have f2164 := f2156.other W2162 (by show @Ne Nat _ _; omega)
    have f2165 := f2158.other W2162 (by show @Ne Nat _ _; omega)
    have f2166 := f2159.other W2162 (by show @Ne Nat _ _; omega)
    have f2167 := f2160.other W2162 (by show @Ne Nat _ _; omega)
    have K2168 := own_KL.wr KX2155 W2162 (by omega)
    have f2169 := own_D.arr W2162 (by omega) (by omega) D2155
    show own_E p e below _ (T2162.setTop (mkF m 37 #[.val (.ref a), .val (.ref ib), .val (.ref cb), .val (.ref rb), .val (.ref xb), .val (.ref yb), .val (.int mc), .val (.int (3 : Int32)), .val (.int (1 : Int32)), .val (.int mc)] []))
    refine own_g (mkF m 39 #[.val (.ref a), .val (.ref ib), .val (.ref cb), .val (.ref rb), .val (.ref xb), .val (.ref yb), .val (.int mc), .val (.int (3 : Int32)), .val (.int (1 : Int32)), .val (.int mc)] [(.ref xb)]) (fun _ kz => XS.aload X2162.here hx rfl (hb hby od_2_37) rfl rfl kz) ?_
    refine own_g (mkF m 41 #[.val (.ref a), .val (.ref ib), .val (.ref cb), .val (.ref rb), .val (.ref xb), .val (.ref yb), .val (.int mc), .val (.int (3 : Int32)), .val (.int (1 : Int32)), .val (.int mc)] [(.int (1 : Int32)), (.ref xb)]) (fun _ kz => XS.iload X2162.here hx rfl (hb hby od_2_39) rfl kz) ?_
    refine own_g (mkF m 43 #[.val (.ref a), .val (.ref ib), .val (.ref cb), .val (.ref rb), .val (.ref xb), .val (.ref yb), .val (.int mc), .val (.int (3 : Int32)), .val (.int (1 : Int32)), .val (.int mc)] [(.int mc), (.int (1 : Int32)), (.ref xb)]) (fun _ kz => XS.iload X2162.here hx rfl (hb hby od_2_41) rfl kz) ?_
    refine own_stI X2162 hx hZ e2162 f2166 (hb hby od_2_43) (by decide) (i := 1) rfl (by decide) ?_
    intro T2170 h2170 X2170 e2170 W2170 A2170
    have N2170 := Fr.snoc X2170 N2162 (by show @LE.le Nat _ _ _; omega)
    have s2171 : n0 ≤ h2170.size := Nat.le_trans s2163 (Keep.of_wr W2170).1
    have f2172 := f2164.other W2170 (by show @Ne Nat _ _; omega)
    have f2173 := A2162.other W2170 (by show @Ne Nat _ _; omega)
    have f2174 := f2165.other W2170 (by show @Ne Nat _ _; omega)
    have f2175 := f2167.other W2170 (by show @Ne Nat _ _; omega)
    have K2176 := own_KL.wr K2168 W2170 (by omega)
    have f2177 := own_D.arr W2170 (by omega) (by omega) f2169
    show own_E p e below _ (T2170.setTop (mkF m 44 #[.val (.ref a), .val (.ref ib), .val (.ref cb), .val (.ref rb), .val (.ref xb), .val (.ref yb), .val (.int mc), .val (.int (3 : Int32)), .val (.int (1 : Int32)), .val (.int mc)] []))
    refine own_g (mkF m 47 #[.val (.ref a), .val (.ref ib), .val (.ref cb), .val (.ref rb), .val (.ref xb), .val (.ref yb), .val (.int mc), .val (.int (3 : Int32)), .val (.int (1 : Int32)), .val (.int (mc + (1 : Int32)))] []) (fun _ kz => XS.iinc X2170.here hx rfl (hb hby od_2_44) rfl (l' := #[.val (.ref a), .val (.ref ib), .val (.ref cb), .val (.ref rb), .val (.ref xb), .val (.ref yb), .val (.int mc), .val (.int (3 : Int32)), .val (.int (1 : Int32)), .val (.int (mc + (1 : Int32)))]) rfl kz) ?_
    refine own_g (mkF m 48 #[.val (.ref a), .val (.ref ib), .val (.ref cb), .val (.ref rb), .val (.ref xb), .val (.ref yb), .val (.int mc), .val (.int (3 : Int32)), .val (.int (1 : Int32)), .val (.int (mc + (1 : Int32)))] [(.ref rb)]) (fun _ kz => XS.aloadN X2170.here hx rfl (hb hby od_2_47) rfl rfl kz) ?_
    refine own_g (mkF m 50 #[.val (.ref a), .val (.ref ib), .val (.ref cb), .val (.ref rb), .val (.ref xb), .val (.ref yb), .val (.int mc), .val (.int (3 : Int32)), .val (.int (1 : Int32)), .val (.int (mc + (1 : Int32)))] [(.int (1 : Int32)), (.ref rb)]) (fun _ kz => XS.iload X2170.here hx rfl (hb hby od_2_48) rfl kz) ?_
    refine own_ildZ X2170 hx hZ e2170 f2174 (hb hby od_2_50) (by decide) (i := 1) rfl (by decide) (x := (frt 1)) rfl ?_
    show own_E p e below _ (T2170.setTop (mkF m 51 #[.val (.ref a), .val (.ref ib), .val (.ref cb), .val (.ref rb), .val (.ref xb), .val (.ref yb), .val (.int mc), .val (.int (3 : Int32)), .val (.int (1 : Int32)), .val (.int (mc + (1 : Int32)))] [(.int (frt 1))]))
    by_cases hc51_2178 : (frt 1) = (0 : Int32)
    · refine own_g (mkF m 54 #[.val (.ref a), .val (.ref ib), .val (.ref cb), .val (.ref rb), .val (.ref xb), .val (.ref yb), .val (.int mc), .val (.int (3 : Int32)), .val (.int (1 : Int32)), .val (.int (mc + (1 : Int32)))] []) (fun _ kz => XS.ifNo X2170.here hx rfl (hb hby od_2_51) rfl ((if0 _ _).trans (teq hc51_2178).2) kz) ?_
      refine own_g (mkF m 55 #[.val (.ref a), .val (.ref ib), .val (.ref cb), .val (.ref rb), .val (.ref xb), .val (.ref yb), .val (.int mc), .val (.int (3 : Int32)), .val (.int (1 : Int32)), .val (.int (mc + (1 : Int32)))] [(.ref rb)]) (fun _ kz => XS.aloadN X2170.here hx rfl (hb hby od_2_54) rfl rfl kz) ?_
      refine own_g (mkF m 57 #[.val (.ref a), .val (.ref ib), .val (.ref cb), .val (.ref rb), .val (.ref xb), .val (.ref yb), .val (.int mc), .val (.int (3 : Int32)), .val (.int (1 : Int32)), .val (.int (mc + (1 : Int32)))] [(.int (1 : Int32)), (.ref rb)]) (fun _ kz => XS.iload X2170.here hx rfl (hb hby od_2_55) rfl kz) ?_
      refine own_g (mkF m 58 #[.val (.ref a), .val (.ref ib), .val (.ref cb), .val (.ref rb), .val (.ref xb), .val (.ref yb), .val (.int mc), .val (.int (3 : Int32)), .val (.int (1 : Int32)), .val (.int (mc + (1 : Int32)))] [(.int (1 : Int32)), (.int (1 : Int32)), (.ref rb)]) (fun _ kz => XS.iconst X2170.here hx rfl (hb hby od_2_57) kz) ?_
      refine own_stZ X2170 hx hZ e2170 f2174 (hb hby od_2_58) (by decide) (i := 1) rfl (by decide) ?_
      intro T2179 h2179 X2179 e2179 W2179 A2179
      have N2179 := Fr.snoc X2179 N2170 (by show @LE.le Nat _ _ _; omega)
      have s2180 : n0 ≤ h2179.size := Nat.le_trans s2171 (Keep.of_wr W2179).1
      have f2181 := f2172.other W2179 (by show @Ne Nat _ _; omega)
      have f2182 := f2173.other W2179 (by show @Ne Nat _ _; omega)
      have f2183 := A2170.other W2179 (by show @Ne Nat _ _; omega)
      have f2184 := f2175.other W2179 (by show @Ne Nat _ _; omega)
      have K2185 := own_KL.wr K2176 W2179 (by omega)
      have f2186 := own_D.arr W2179 (by omega) (by omega) f2177
      show own_E p e below _ (T2179.setTop (mkF m 59 #[.val (.ref a), .val (.ref ib), .val (.ref cb), .val (.ref rb), .val (.ref xb), .val (.ref yb), .val (.int mc), .val (.int (3 : Int32)), .val (.int (1 : Int32)), .val (.int (mc + (1 : Int32)))] []))
      refine own_g (mkF m 61 #[.val (.ref a), .val (.ref ib), .val (.ref cb), .val (.ref rb), .val (.ref xb), .val (.ref yb), .val (.int mc), .val (.int (3 : Int32)), .val (.int (1 : Int32)), .val (.int (mc + (1 : Int32)))] [(.ref yb)]) (fun _ kz => XS.aload X2179.here hx rfl (hb hby od_2_59) rfl rfl kz) ?_
      refine own_g (mkF m 63 #[.val (.ref a), .val (.ref ib), .val (.ref cb), .val (.ref rb), .val (.ref xb), .val (.ref yb), .val (.int mc), .val (.int (3 : Int32)), .val (.int (1 : Int32)), .val (.int (mc + (1 : Int32)))] [(.int (1 : Int32)), (.ref yb)]) (fun _ kz => XS.iload X2179.here hx rfl (hb hby od_2_61) rfl kz) ?_
      refine own_g (mkF m 65 #[.val (.ref a), .val (.ref ib), .val (.ref cb), .val (.ref rb), .val (.ref xb), .val (.ref yb), .val (.int mc), .val (.int (3 : Int32)), .val (.int (1 : Int32)), .val (.int (mc + (1 : Int32)))] [(.int (mc + (1 : Int32))), (.int (1 : Int32)), (.ref yb)]) (fun _ kz => XS.iload X2179.here hx rfl (hb hby od_2_63) rfl kz) ?_
      refine own_stI X2179 hx hZ e2179 f2184 (hb hby od_2_65) (by decide) (i := 1) rfl (by decide) ?_
      intro T2187 h2187 X2187 e2187 W2187 A2187
      have N2187 := Fr.snoc X2187 N2179 (by show @LE.le Nat _ _ _; omega)
      have s2188 : n0 ≤ h2187.size := Nat.le_trans s2180 (Keep.of_wr W2187).1
      have f2189 := f2181.other W2187 (by show @Ne Nat _ _; omega)
      have f2190 := f2182.other W2187 (by show @Ne Nat _ _; omega)
      have f2191 := A2179.other W2187 (by show @Ne Nat _ _; omega)
      have f2192 := f2183.other W2187 (by show @Ne Nat _ _; omega)
      have K2193 := own_KL.wr K2185 W2187 (by omega)
      have f2194 := own_D.arr W2187 (by omega) (by omega) f2186
      show own_E p e below _ (T2187.setTop (mkF m 66 #[.val (.ref a), .val (.ref ib), .val (.ref cb), .val (.ref rb), .val (.ref xb), .val (.ref yb), .val (.int mc), .val (.int (3 : Int32)), .val (.int (1 : Int32)), .val (.int (mc + (1 : Int32)))] []))
      refine own_g (mkF m 69 #[.val (.ref a), .val (.ref ib), .val (.ref cb), .val (.ref rb), .val (.ref xb), .val (.ref yb), .val (.int mc), .val (.int (3 : Int32)), .val (.int (1 : Int32)), .val (.int ((mc + (1 : Int32)) + (1 : Int32)))] []) (fun _ kz => XS.iinc X2187.here hx rfl (hb hby od_2_66) rfl (l' := #[.val (.ref a), .val (.ref ib), .val (.ref cb), .val (.ref rb), .val (.ref xb), .val (.ref yb), .val (.int mc), .val (.int (3 : Int32)), .val (.int (1 : Int32)), .val (.int ((mc + (1 : Int32)) + (1 : Int32)))]) rfl kz) ?_
      refine own_g (mkF m 102 #[.val (.ref a), .val (.ref ib), .val (.ref cb), .val (.ref rb), .val (.ref xb), .val (.ref yb), .val (.int mc), .val (.int (3 : Int32)), .val (.int (1 : Int32)), .val (.int ((mc + (1 : Int32)) + (1 : Int32)))] []) (fun _ kz => XS.goto X2187.here hx rfl (pc0 := 69) (pc' := 102) rfl (hb hby od_2_69) (by decide) (by decide) kz) ?_
      refine own_g (mkF m 104 #[.val (.ref a), .val (.ref ib), .val (.ref cb), .val (.ref rb), .val (.ref xb), .val (.ref yb), .val (.int mc), .val (.int (3 : Int32)), .val (.int (1 : Int32)), .val (.int ((mc + (1 : Int32)) + (1 : Int32)))] [(.int ((mc + (1 : Int32)) + (1 : Int32)))]) (fun _ kz => XS.iload X2187.here hx rfl (hb hby od_2_102) rfl kz) ?_
      exact own_retI X2187 hx hret hlk (hb hby od_2_104) (by decide) (by decide) (by first | exact ⟨f2155', k2155', m2155', c2155', _, _, _, _, _, rfl, N2187, K2193, by rw [eq2155]; simp [own_apl, own_mc, own_mr, hc29_2161, hc51_2178], by omega, f2194, f2189, f2190, f2191, f2192, A2187⟩ | (rw [e2187]; exact ⟨f2155', k2155', m2155', c2155', _, _, _, _, _, rfl, N2187, K2193, by rw [eq2155]; simp [own_apl, own_mc, own_mr, hc29_2161, hc51_2178], by omega, f2194, f2189, f2190, f2191, f2192, A2187⟩))
    · refine own_g (mkF m 102 #[.val (.ref a), .val (.ref ib), .val (.ref cb), .val (.ref rb), .val (.ref xb), .val (.ref yb), .val (.int mc), .val (.int (3 : Int32)), .val (.int (1 : Int32)), .val (.int (mc + (1 : Int32)))] []) (fun _ kz => XS.ifYes X2170.here hx rfl (pc0 := 51) (pc' := 102) rfl (hb hby od_2_51) rfl ((if0 _ _).trans (feq hc51_2178).2) (by decide) (by decide) kz) ?_
      refine own_g (mkF m 104 #[.val (.ref a), .val (.ref ib), .val (.ref cb), .val (.ref rb), .val (.ref xb), .val (.ref yb), .val (.int mc), .val (.int (3 : Int32)), .val (.int (1 : Int32)), .val (.int (mc + (1 : Int32)))] [(.int (mc + (1 : Int32)))]) (fun _ kz => XS.iload X2170.here hx rfl (hb hby od_2_102) rfl kz) ?_
      exact own_retI X2170 hx hret hlk (hb hby od_2_104) (by decide) (by decide) (by first | exact ⟨f2155', k2155', m2155', c2155', _, _, _, _, _, rfl, N2170, K2176, by rw [eq2155]; simp [own_apl, own_mc, own_mr, hc29_2161, hc51_2178], by omega, f2177, f2172, f2173, f2174, A2170, f2175⟩ | (rw [e2170]; exact ⟨f2155', k2155', m2155', c2155', _, _, _, _, _, rfl, N2170, K2176, by rw [eq2155]; simp [own_apl, own_mc, own_mr, hc29_2161, hc51_2178], by omega, f2177, f2172, f2173, f2174, A2170, f2175⟩))
  · refine own_g (mkF m 47 #[.val (.ref a), .val (.ref ib), .val (.ref cb), .val (.ref rb), .val (.ref xb), .val (.ref yb), .val (.int mc), .val (.int (3 : Int32)), .val (.int (1 : Int32)), .val (.int mc)] []) (fun _ kz => XS.ifYes X2155.here hx rfl (pc0 := 29) (pc' := 47) rfl (hb hby od_2_29) rfl ((if0 _ _).trans (feq hc29_2161).2) (by decide) (by decide) kz) ?_
    refine own_g (mkF m 48 #[.val (.ref a), .val (.ref ib), .val (.ref cb), .val (.ref rb), .val (.ref xb), .val (.ref yb), .val (.int mc), .val (.int (3 : Int32)), .val (.int (1 : Int32)), .val (.int mc)] [(.ref rb)]) (fun _ kz => XS.aloadN X2155.here hx rfl (hb hby od_2_47) rfl rfl kz) ?_
    refine own_g (mkF m 50 #[.val (.ref a), .val (.ref ib), .val (.ref cb), .val (.ref rb), .val (.ref xb), .val (.ref yb), .val (.int mc), .val (.int (3 : Int32)), .val (.int (1 : Int32)), .val (.int mc)] [(.int (1 : Int32)), (.ref rb)]) (fun _ kz => XS.iload X2155.here hx rfl (hb hby od_2_48) rfl kz) ?_
    refine own_ildZ X2155 hx hZ rfl f2158 (hb hby od_2_50) (by decide) (i := 1) rfl (by decide) (x := (frt 1)) rfl ?_
    show own_E p e below _ (T2155.setTop (mkF m 51 #[.val (.ref a), .val (.ref ib), .val (.ref cb), .val (.ref rb), .val (.ref xb), .val (.ref yb), .val (.int mc), .val (.int (3 : Int32)), .val (.int (1 : Int32)), .val (.int mc)] [(.int (frt 1))]))
    by_cases hc51_2195 : (frt 1) = (0 : Int32)
    · refine own_g (mkF m 54 #[.val (.ref a), .val (.ref ib), .val (.ref cb), .val (.ref rb), .val (.ref xb), .val (.ref yb), .val (.int mc), .val (.int (3 : Int32)), .val (.int (1 : Int32)), .val (.int mc)] []) (fun _ kz => XS.ifNo X2155.here hx rfl (hb hby od_2_51) rfl ((if0 _ _).trans (teq hc51_2195).2) kz) ?_
      refine own_g (mkF m 55 #[.val (.ref a), .val (.ref ib), .val (.ref cb), .val (.ref rb), .val (.ref xb), .val (.ref yb), .val (.int mc), .val (.int (3 : Int32)), .val (.int (1 : Int32)), .val (.int mc)] [(.ref rb)]) (fun _ kz => XS.aloadN X2155.here hx rfl (hb hby od_2_54) rfl rfl kz) ?_
      refine own_g (mkF m 57 #[.val (.ref a), .val (.ref ib), .val (.ref cb), .val (.ref rb), .val (.ref xb), .val (.ref yb), .val (.int mc), .val (.int (3 : Int32)), .val (.int (1 : Int32)), .val (.int mc)] [(.int (1 : Int32)), (.ref rb)]) (fun _ kz => XS.iload X2155.here hx rfl (hb hby od_2_55) rfl kz) ?_
      refine own_g (mkF m 58 #[.val (.ref a), .val (.ref ib), .val (.ref cb), .val (.ref rb), .val (.ref xb), .val (.ref yb), .val (.int mc), .val (.int (3 : Int32)), .val (.int (1 : Int32)), .val (.int mc)] [(.int (1 : Int32)), (.int (1 : Int32)), (.ref rb)]) (fun _ kz => XS.iconst X2155.here hx rfl (hb hby od_2_57) kz) ?_
      refine own_stZ X2155 hx hZ rfl f2158 (hb hby od_2_58) (by decide) (i := 1) rfl (by decide) ?_
      intro T2196 h2196 X2196 e2196 W2196 A2196
      have N2196 := Fr.snoc X2196 N2155 (by show @LE.le Nat _ _ _; omega)
      have s2197 : n0 ≤ h2196.size := Nat.le_trans zq2155 (Keep.of_wr W2196).1
      have f2198 := f2156.other W2196 (by show @Ne Nat _ _; omega)
      have f2199 := f2157.other W2196 (by show @Ne Nat _ _; omega)
      have f2200 := f2159.other W2196 (by show @Ne Nat _ _; omega)
      have f2201 := f2160.other W2196 (by show @Ne Nat _ _; omega)
      have K2202 := own_KL.wr KX2155 W2196 (by omega)
      have f2203 := own_D.arr W2196 (by omega) (by omega) D2155
      show own_E p e below _ (T2196.setTop (mkF m 59 #[.val (.ref a), .val (.ref ib), .val (.ref cb), .val (.ref rb), .val (.ref xb), .val (.ref yb), .val (.int mc), .val (.int (3 : Int32)), .val (.int (1 : Int32)), .val (.int mc)] []))
      refine own_g (mkF m 61 #[.val (.ref a), .val (.ref ib), .val (.ref cb), .val (.ref rb), .val (.ref xb), .val (.ref yb), .val (.int mc), .val (.int (3 : Int32)), .val (.int (1 : Int32)), .val (.int mc)] [(.ref yb)]) (fun _ kz => XS.aload X2196.here hx rfl (hb hby od_2_59) rfl rfl kz) ?_
      refine own_g (mkF m 63 #[.val (.ref a), .val (.ref ib), .val (.ref cb), .val (.ref rb), .val (.ref xb), .val (.ref yb), .val (.int mc), .val (.int (3 : Int32)), .val (.int (1 : Int32)), .val (.int mc)] [(.int (1 : Int32)), (.ref yb)]) (fun _ kz => XS.iload X2196.here hx rfl (hb hby od_2_61) rfl kz) ?_
      refine own_g (mkF m 65 #[.val (.ref a), .val (.ref ib), .val (.ref cb), .val (.ref rb), .val (.ref xb), .val (.ref yb), .val (.int mc), .val (.int (3 : Int32)), .val (.int (1 : Int32)), .val (.int mc)] [(.int mc), (.int (1 : Int32)), (.ref yb)]) (fun _ kz => XS.iload X2196.here hx rfl (hb hby od_2_63) rfl kz) ?_
      refine own_stI X2196 hx hZ e2196 f2201 (hb hby od_2_65) (by decide) (i := 1) rfl (by decide) ?_
      intro T2204 h2204 X2204 e2204 W2204 A2204
      have N2204 := Fr.snoc X2204 N2196 (by show @LE.le Nat _ _ _; omega)
      have s2205 : n0 ≤ h2204.size := Nat.le_trans s2197 (Keep.of_wr W2204).1
      have f2206 := f2198.other W2204 (by show @Ne Nat _ _; omega)
      have f2207 := f2199.other W2204 (by show @Ne Nat _ _; omega)
      have f2208 := A2196.other W2204 (by show @Ne Nat _ _; omega)
      have f2209 := f2200.other W2204 (by show @Ne Nat _ _; omega)
      have K2210 := own_KL.wr K2202 W2204 (by omega)
      have f2211 := own_D.arr W2204 (by omega) (by omega) f2203
      show own_E p e below _ (T2204.setTop (mkF m 66 #[.val (.ref a), .val (.ref ib), .val (.ref cb), .val (.ref rb), .val (.ref xb), .val (.ref yb), .val (.int mc), .val (.int (3 : Int32)), .val (.int (1 : Int32)), .val (.int mc)] []))
      refine own_g (mkF m 69 #[.val (.ref a), .val (.ref ib), .val (.ref cb), .val (.ref rb), .val (.ref xb), .val (.ref yb), .val (.int mc), .val (.int (3 : Int32)), .val (.int (1 : Int32)), .val (.int (mc + (1 : Int32)))] []) (fun _ kz => XS.iinc X2204.here hx rfl (hb hby od_2_66) rfl (l' := #[.val (.ref a), .val (.ref ib), .val (.ref cb), .val (.ref rb), .val (.ref xb), .val (.ref yb), .val (.int mc), .val (.int (3 : Int32)), .val (.int (1 : Int32)), .val (.int (mc + (1 : Int32)))]) rfl kz) ?_
      refine own_g (mkF m 102 #[.val (.ref a), .val (.ref ib), .val (.ref cb), .val (.ref rb), .val (.ref xb), .val (.ref yb), .val (.int mc), .val (.int (3 : Int32)), .val (.int (1 : Int32)), .val (.int (mc + (1 : Int32)))] []) (fun _ kz => XS.goto X2204.here hx rfl (pc0 := 69) (pc' := 102) rfl (hb hby od_2_69) (by decide) (by decide) kz) ?_
      refine own_g (mkF m 104 #[.val (.ref a), .val (.ref ib), .val (.ref cb), .val (.ref rb), .val (.ref xb), .val (.ref yb), .val (.int mc), .val (.int (3 : Int32)), .val (.int (1 : Int32)), .val (.int (mc + (1 : Int32)))] [(.int (mc + (1 : Int32)))]) (fun _ kz => XS.iload X2204.here hx rfl (hb hby od_2_102) rfl kz) ?_
      exact own_retI X2204 hx hret hlk (hb hby od_2_104) (by decide) (by decide) (by first | exact ⟨f2155', k2155', m2155', c2155', _, _, _, _, _, rfl, N2204, K2210, by rw [eq2155]; simp [own_apl, own_mc, own_mr, hc29_2161, hc51_2195], by omega, f2211, f2206, f2207, f2208, f2209, A2204⟩ | (rw [e2204]; exact ⟨f2155', k2155', m2155', c2155', _, _, _, _, _, rfl, N2204, K2210, by rw [eq2155]; simp [own_apl, own_mc, own_mr, hc29_2161, hc51_2195], by omega, f2211, f2206, f2207, f2208, f2209, A2204⟩))
    · refine own_g (mkF m 102 #[.val (.ref a), .val (.ref ib), .val (.ref cb), .val (.ref rb), .val (.ref xb), .val (.ref yb), .val (.int mc), .val (.int (3 : Int32)), .val (.int (1 : Int32)), .val (.int mc)] []) (fun _ kz => XS.ifYes X2155.here hx rfl (pc0 := 51) (pc' := 102) rfl (hb hby od_2_51) rfl ((if0 _ _).trans (feq hc51_2195).2) (by decide) (by decide) kz) ?_
      refine own_g (mkF m 104 #[.val (.ref a), .val (.ref ib), .val (.ref cb), .val (.ref rb), .val (.ref xb), .val (.ref yb), .val (.int mc), .val (.int (3 : Int32)), .val (.int (1 : Int32)), .val (.int mc)] [(.int mc)]) (fun _ kz => XS.iload X2155.here hx rfl (hb hby od_2_102) rfl kz) ?_
      exact own_retI X2155 hx hret hlk (hb hby od_2_104) (by decide) (by decide) ((⟨f2155', k2155', m2155', c2155', _, _, _, _, _, rfl, N2155, KX2155, by rw [eq2155]; simp [own_apl, own_mc, own_mr, hc29_2161, hc51_2195], by omega, D2155, f2156, f2157, f2158, f2159, f2160⟩))
theorem own_c_app (l : Launch) (Z : State) (a0 : Array Value) (hw : ∀ d ∈ tables_1, d.before a0 Z = true) (o : Nat) (ho : o ≤ 3) (lo : Nat) (a : Nat) (pb : Nat) (fb : Nat) (sb : Nat) (ff : Nat → Int32) (mk : Nat → Int32) (mf : Nat → Int32) (cc : Nat) (ib : Nat) (cb : Nat) (rb : Nat) (xb : Nat) (yb : Nat) (fi : Nat → Int32) (fch : Nat → Int32) (frt : Nat → Int32) (fx : Nat → Int32) (fy : Nat → Int32) (mc : Int32) (h0 : Heap) (n0 : Nat) (Z0 : n0 ≤ h0.size) (hcc : cc < 50) (D0 : own_D Z h0 n0 lo a pb fb sb ff mk mf cc) (o1 : fb < ib) (o2 : ib < cb) (o3 : cb < rb) (o4 : rb < xb) (o5 : xb < yb) (o6 : yb < lo) (Ai : own_IA Z h0 ib .int 2 fi) (i0 : fi 0 = 0) (i1 : fi 1 = 1) (Ac : own_IA Z h0 cb .boolean 2 fch) (Ar : own_IA Z h0 rb .boolean 2 frt) (Ax : own_IA Z h0 xb .int 2 fx) (Ay : own_IA Z h0 yb .int 2 fy) :
    own_Con l Z (⟨"com/example/holdfast/holdfast/dom/CompactDocumentUnmarkSincePinLaw", "apply", "(Lcom/example/holdfast/holdfast/dom/CompactDocument;[I[Z[Z[I[III)I"⟩ : MethodName) method_2_code 10 (some .int) [] ({ frames := 4, cells := 4, slots := 256, locals := 60 } : Room) #[(.ref a), (.ref ib), (.ref cb), (.ref rb), (.ref xb), (.ref yb), (.int mc), (.int (Int32.ofNat o))] h0 (fun v h L => ∃ f' k' m' c' u1 u2 u3 u4 u5, v = some (.int u5) ∧ Fr n0 L ∧ own_KL yb lo h0 h ∧ ((f', k', m', c'), (u1, u2, u3, u4, u5)) = own_apl o (ff, mk, mf, cc) (fch, frt, fx, fy, mc) ∧ c' ≤ cc + 2 ∧ own_D Z h n0 lo a pb fb sb f' k' m' c' ∧ own_IA Z h ib .int 2 fi ∧ own_IA Z h cb .boolean 2 u1 ∧ own_IA Z h rb .boolean 2 u2 ∧ own_IA Z h xb .int 2 u3 ∧ own_IA Z h yb .int 2 u4) := by
  match o, ho with
  | 0, _ => exact own_c_app0 l Z a0 hw lo a pb fb sb ff mk mf cc ib cb rb xb yb fi fch frt fx fy mc h0 n0 Z0 hcc D0 o1 o2 o3 o4 o5 o6 Ai i0 i1 Ac Ar Ax Ay
  | 1, _ => exact own_c_app1 l Z a0 hw lo a pb fb sb ff mk mf cc ib cb rb xb yb fi fch frt fx fy mc h0 n0 Z0 hcc D0 o1 o2 o3 o4 o5 o6 Ai i0 i1 Ac Ar Ax Ay
  | 2, _ => exact own_c_app2 l Z a0 hw lo a pb fb sb ff mk mf cc ib cb rb xb yb fi fch frt fx fy mc h0 n0 Z0 hcc D0 o1 o2 o3 o4 o5 o6 Ai i0 i1 Ac Ar Ax Ay
  | 3, _ => exact own_c_app3 l Z a0 hw lo a pb fb sb ff mk mf cc ib cb rb xb yb fi fch frt fx fy mc h0 n0 Z0 hcc D0 o1 o2 o3 o4 o5 o6 Ai i0 i1 Ac Ar Ax Ay
theorem own_pd6 : parseMethodDescriptor "(Ljava/lang/String;I)V" = some ⟨[(.object "java/lang/String"), .int], none⟩ := by decide +kernel
theorem own_pd7 : parseMethodDescriptor "([BLcom/example/holdfast/holdfast/dom/CompactDocument$TextReader;)V" = some ⟨[(.array .byte), (.object "com/example/holdfast/holdfast/dom/CompactDocument$TextReader")], none⟩ := by decide +kernel
theorem own_pd8 : parseMethodDescriptor "()Lcom/example/holdfast/holdfast/dom/CompactDocument;" = some ⟨[], some (.object "com/example/holdfast/holdfast/dom/CompactDocument")⟩ := by decide +kernel
theorem own_pd9 : parseMethodDescriptor "(SI)I" = some ⟨[.short, .int], some .int⟩ := by decide +kernel
theorem own_pd10 : parseMethodDescriptor "(Lcom/example/holdfast/holdfast/dom/CompactDocument;[I[Z[Z[I[III)I" = some ⟨[(.object "com/example/holdfast/holdfast/dom/CompactDocument"), (.array .int), (.array .boolean), (.array .boolean), (.array .int), (.array .int), .int, .int], some .int⟩ := by decide +kernel
theorem own_pd11 : parseMethodDescriptor "()I" = some ⟨[], some .int⟩ := by decide +kernel
set_option maxRecDepth 65536 in
set_option maxHeartbeats 40000000 in
theorem own_c_law (l : Launch) (Z : State) (a0 : Array Value) (hw : ∀ d ∈ tables_1, d.before a0 Z = true) (x0 : Int32) (x1 : Int32) (sv : Nat) (h0 : Heap) (n0 : Nat) (Z0 : n0 ≤ h0.size) (S1 : Sta Z h0 "java/util/ArrayList" "DEFAULTCAPACITY_EMPTY_ELEMENTDATA" "[Ljava/lang/Object;" (.ref sv)) :
    own_ConW l Z x code maxLocals ret tables_1 room_1 #[(.int x0), (.int x1)] h0 (fun v h L => v = some (.int 1) ∧ Fr n0 L) := by
  refine own_enterW (plainFor_of_name own_pn8) ?_
  intro p e s m below meth c s₁ X0 e0 hx hZ hby hml hown hnm hret hlk
  refine own_cast (g' := (mkF m 0 #[.val (.int x0), .val (.int x1), .unset, .unset, .unset, .unset, .unset, .unset, .unset, .unset, .unset, .unset, .unset, .unset, .unset, .unset, .unset, .unset, .unset, .unset, .unset] [])) (by first | (simp [entryFrame, mkF, argsToLocals, Value.category, maxLocals]; done) | rfl) ?_
  have N0 := Fr.nil n0
  obtain ⟨T2212, h2212, X2212, e2212, E2212, A2212, D2212, -, st2212⟩ := newO X0 hx hZ hown (own_w hw 0 rfl) (own_w hw 1 rfl) (own_w hw 2 rfl) e0 (g := (mkF m 0 #[.val (.int x0), .val (.int x1), .unset, .unset, .unset, .unset, .unset, .unset, .unset, .unset, .unset, .unset, .unset, .unset, .unset, .unset, .unset, .unset, .unset, .unset, .unset] [])) rfl (hb hby at_0) (by decide) (by decide)
  obtain ⟨o2212, g2212⟩ : ∃ z, z = h0.size := ⟨_, rfl⟩
  rw [← g2212] at A2212 D2212 st2212
  have b2213 : n0 ≤ o2212 := Nat.le_trans Z0 (Nat.le_of_eq g2212.symm)
  have f2214 := Sta.ext E2212 S1
  have s2215 : n0 ≤ h2212.size := Nat.le_trans Z0 E2212.1
  have f2216 : Fld Z h2212 o2212 "com/example/holdfast/holdfast/dom/CompactDocument$Builder" "document" "Lcom/example/holdfast/holdfast/dom/CompactDocument;" .null := D2212 (Or.inr (own_w hw 108 rfl)) (ty := (.object "com/example/holdfast/holdfast/dom/CompactDocument")) (by decide)
  have f2217 : Fld Z h2212 o2212 "com/example/holdfast/holdfast/dom/CompactDocument$Builder" "text" "I" (.int (0 : Int32)) := D2212 (Or.inl (own_w hw 110 rfl)) (ty := .int) (by decide)
  have f2218 : Fld Z h2212 o2212 "com/example/holdfast/holdfast/dom/CompactDocument$Builder" "declarations" "Ljava/util/List;" .null := D2212 (Or.inr (own_w hw 136 rfl)) (ty := (.object "java/util/List")) (by decide)
  have f2219 : Fld Z h2212 o2212 "com/example/holdfast/holdfast/dom/CompactDocument$Builder" "scopes" "[Lcom/example/holdfast/holdfast/dom/CompactDocument$Namespaces;" .null := D2212 (Or.inl (own_w hw 140 rfl)) (ty := (.array (.object "com/example/holdfast/holdfast/dom/CompactDocument$Namespaces"))) (by decide)
  refine own_s st2212 ?_
  show own_E p e below _ (T2212.setTop (mkF m 3 #[.val (.int x0), .val (.int x1), .unset, .unset, .unset, .unset, .unset, .unset, .unset, .unset, .unset, .unset, .unset, .unset, .unset, .unset, .unset, .unset, .unset, .unset, .unset] [(.ref o2212)]))
  refine own_g (mkF m 4 #[.val (.int x0), .val (.int x1), .unset, .unset, .unset, .unset, .unset, .unset, .unset, .unset, .unset, .unset, .unset, .unset, .unset, .unset, .unset, .unset, .unset, .unset, .unset] [(.ref o2212), (.ref o2212)]) (fun _ kz => XS.dup X2212.here hx rfl (hb hby at_3) rfl rfl kz) ?_
  refine own_g (mkF m 5 #[.val (.int x0), .val (.int x1), .unset, .unset, .unset, .unset, .unset, .unset, .unset, .unset, .unset, .unset, .unset, .unset, .unset, .unset, .unset, .unset, .unset, .unset, .unset] [.null, (.ref o2212), (.ref o2212)]) (fun _ kz => XS.aconstNull X2212.here hx rfl (hb hby at_4) kz) ?_
  refine own_g (mkF m 6 #[.val (.int x0), .val (.int x1), .unset, .unset, .unset, .unset, .unset, .unset, .unset, .unset, .unset, .unset, .unset, .unset, .unset, .unset, .unset, .unset, .unset, .unset, .unset] [(.int (0 : Int32)), .null, (.ref o2212), (.ref o2212)]) (fun _ kz => XS.iconst X2212.here hx rfl (hb hby at_5) kz) ?_
  refine own_callIW (rest := [(.ref o2212)]) (a := o2212) (as := [.null, (.int (0 : Int32))]) X2212 hx hZ hown e2212 (own_c_b1 l Z a0 hw o2212 sv h2212 n0 s2215 b2213 A2212 f2216 f2217 f2218 f2219 f2214) rfl (own_w hw 3 rfl) (own_w hw 4 rfl) (own_w hw 2 rfl) (own_w hw 5 rfl) (by decide) own_pd6 rfl (by rw [hml]; rfl) rfl (hb hby at_6) 1 (by show 2 * 0 + _ ≤ _; exact Nat.le_of_eq rfl) (by decide) (by decide) (by decide) (by decide) ?_
  rintro _ T2220 L2220 X2220 hS2220 hZ hown ⟨rfl, Nq2220, K2220q, d, lad, Fd2220, bb, gd, fs, Dd, Gd, p1, p7⟩
  have N2220 := Fr.app N0 Nq2220
  have f2222 := own_staK f2214 K2220q (allS (own_plE A2212) all0)
  have f2223 := Exa.keep A2212 K2220q
  have s2228 : n0 ≤ T2220.heap.size := Nat.le_trans s2215 K2220q.1
  show own_E p e below _ (T2220.setTop (mkF m 9 #[.val (.int x0), .val (.int x1), .unset, .unset, .unset, .unset, .unset, .unset, .unset, .unset, .unset, .unset, .unset, .unset, .unset, .unset, .unset, .unset, .unset, .unset, .unset] [(.ref o2212)]))
  obtain ⟨Ed, Fd, Ad, nd, ld, od, kd⟩ := Dd
  have od_0 : bb 0 < bb 1 := od 0 (by decide)
  have od_1 : bb 1 < bb 2 := od 1 (by decide)
  have od_2 : bb 2 < bb 3 := od 2 (by decide)
  have od_3 : bb 3 < bb 4 := od 3 (by decide)
  have od_4 : bb 4 < bb 5 := od 4 (by decide)
  have od_5 : bb 5 < bb 6 := od 5 (by decide)
  have od_6 : bb 6 < bb 7 := od 6 (by decide)
  have od_7 : bb 7 < bb 8 := od 7 (by decide)
  have od_8 : bb 8 < bb 9 := od 8 (by decide)
  have Ad_0 : own_IA Z T2220.heap (bb 0) .byte 64 (fs 0) := Ad 0 (by decide)
  have Ad_1 : own_IA Z T2220.heap (bb 1) .int 64 (fs 1) := Ad 1 (by decide)
  have Ad_2 : own_IA Z T2220.heap (bb 2) .int 64 (fs 2) := Ad 2 (by decide)
  have Ad_3 : own_IA Z T2220.heap (bb 3) .int 64 (fs 3) := Ad 3 (by decide)
  have Ad_4 : own_IA Z T2220.heap (bb 4) .int 64 (fs 4) := Ad 4 (by decide)
  have Ad_5 : own_IA Z T2220.heap (bb 5) .int 64 (fs 5) := Ad 5 (by decide)
  have Ad_6 : own_IA Z T2220.heap (bb 6) .int 64 (fs 6) := Ad 6 (by decide)
  have Ad_7 : own_IA Z T2220.heap (bb 7) .byte 64 (fs 7) := Ad 7 (by decide)
  have Ad_8 : own_IA Z T2220.heap (bb 8) .int 64 (fs 8) := Ad 8 (by decide)
  have Ad_9 : own_IA Z T2220.heap (bb 9) .int 64 (fs 9) := Ad 9 (by decide)
  obtain ⟨qd_0, qd_1, qd_2, qd_3, qd_4, qd_5, qd_6, qd_7, qd_8, qd_9, qd_10, qd_11, qd_12⟩ := Gd
  refine own_g (mkF m 10 #[.val (.int x0), .val (.int x1), .val (.ref o2212), .unset, .unset, .unset, .unset, .unset, .unset, .unset, .unset, .unset, .unset, .unset, .unset, .unset, .unset, .unset, .unset, .unset, .unset] []) (fun _ kz => XS.astoreN X2220.here hx rfl (hb hby at_9) rfl rfl (l' := #[.val (.int x0), .val (.int x1), .val (.ref o2212), .unset, .unset, .unset, .unset, .unset, .unset, .unset, .unset, .unset, .unset, .unset, .unset, .unset, .unset, .unset, .unset, .unset, .unset]) rfl kz) ?_
  refine own_g (mkF m 11 #[.val (.int x0), .val (.int x1), .val (.ref o2212), .unset, .unset, .unset, .unset, .unset, .unset, .unset, .unset, .unset, .unset, .unset, .unset, .unset, .unset, .unset, .unset, .unset, .unset] [(.ref o2212)]) (fun _ kz => XS.aloadN X2220.here hx rfl (hb hby at_10) rfl rfl kz) ?_
  refine own_g (mkF m 12 #[.val (.int x0), .val (.int x1), .val (.ref o2212), .unset, .unset, .unset, .unset, .unset, .unset, .unset, .unset, .unset, .unset, .unset, .unset, .unset, .unset, .unset, .unset, .unset, .unset] [(.int (0 : Int32)), (.ref o2212)]) (fun _ kz => XS.iconst X2220.here hx rfl (hb hby at_11) kz) ?_
  refine own_newI X2220 hx hZ rfl (own_w hw 30 rfl) rfl (hb hby at_12) (by decide) (n := 0) rfl 0 (by decide) (by decide) (by decide) (by decide) ?_
  intro T2229 h2229 o2229 g2229 X2229 e2229 E2229 A2229
  have lt2230 : d < o2229 := Nat.lt_of_lt_of_le Fd.lt (Nat.le_of_eq g2229.symm)
  have lt2231 : o2212 < o2229 := Nat.lt_of_lt_of_le f2223.lt (Nat.le_of_eq g2229.symm)
  have lt2232 : (bb 0) < o2229 := Nat.lt_of_lt_of_le Ad_0.lt (Nat.le_of_eq g2229.symm)
  have lt2233 : (bb 1) < o2229 := Nat.lt_of_lt_of_le Ad_1.lt (Nat.le_of_eq g2229.symm)
  have lt2234 : (bb 2) < o2229 := Nat.lt_of_lt_of_le Ad_2.lt (Nat.le_of_eq g2229.symm)
  have lt2235 : (bb 3) < o2229 := Nat.lt_of_lt_of_le Ad_3.lt (Nat.le_of_eq g2229.symm)
  have lt2236 : (bb 4) < o2229 := Nat.lt_of_lt_of_le Ad_4.lt (Nat.le_of_eq g2229.symm)
  have lt2237 : (bb 5) < o2229 := Nat.lt_of_lt_of_le Ad_5.lt (Nat.le_of_eq g2229.symm)
  have lt2238 : (bb 6) < o2229 := Nat.lt_of_lt_of_le Ad_6.lt (Nat.le_of_eq g2229.symm)
  have lt2239 : (bb 7) < o2229 := Nat.lt_of_lt_of_le Ad_7.lt (Nat.le_of_eq g2229.symm)
  have lt2240 : (bb 8) < o2229 := Nat.lt_of_lt_of_le Ad_8.lt (Nat.le_of_eq g2229.symm)
  have lt2241 : (bb 9) < o2229 := Nat.lt_of_lt_of_le Ad_9.lt (Nat.le_of_eq g2229.symm)
  have b2242 : n0 ≤ o2229 := Nat.le_trans s2228 (Nat.le_of_eq g2229.symm)
  have f2243 := own_FL.ext E2229 Fd
  have f2244 := Exa.ext E2229 f2223
  have f2245 := Fld.ext E2229 Fd2220
  have f2246 := Exa.ext E2229 Ed
  have f2247 := Ad_0.ext E2229
  have f2248 := Ad_1.ext E2229
  have f2249 := Ad_2.ext E2229
  have f2250 := Ad_3.ext E2229
  have f2251 := Ad_4.ext E2229
  have f2252 := Ad_5.ext E2229
  have f2253 := Ad_6.ext E2229
  have f2254 := Ad_7.ext E2229
  have f2255 := Ad_8.ext E2229
  have f2256 := Ad_9.ext E2229
  have s2257 : n0 ≤ h2229.size := Nat.le_trans s2228 E2229.1
  have z2258 : T2220.heap.size ≤ h2229.size := Nat.le_trans (Nat.le_refl _) E2229.1
  show own_E p e below _ (T2229.setTop (mkF m 14 #[.val (.int x0), .val (.int x1), .val (.ref o2212), .unset, .unset, .unset, .unset, .unset, .unset, .unset, .unset, .unset, .unset, .unset, .unset, .unset, .unset, .unset, .unset, .unset, .unset] [(.ref o2229), (.ref o2212)]))
  refine own_g (mkF m 15 #[.val (.int x0), .val (.int x1), .val (.ref o2212), .unset, .unset, .unset, .unset, .unset, .unset, .unset, .unset, .unset, .unset, .unset, .unset, .unset, .unset, .unset, .unset, .unset, .unset] [.null, (.ref o2229), (.ref o2212)]) (fun _ kz => XS.aconstNull X2229.here hx rfl (hb hby at_14) kz) ?_
  have Dya : ∀ i, i < 10 → own_IA Z h2229 (bb i) (own_aty i) 64 (fs i) := by
    intro i hi
    match i, hi with
    | 0, _ => exact f2247
    | 1, _ => exact f2248
    | 2, _ => exact f2249
    | 3, _ => exact f2250
    | 4, _ => exact f2251
    | 5, _ => exact f2252
    | 6, _ => exact f2253
    | 7, _ => exact f2254
    | 8, _ => exact f2255
    | 9, _ => exact f2256
  have D1 : own_Doc Z h2229 n0 d bb gd fs := ⟨f2246, f2243, Dya, nd, ld, od, by
        intro i hi
        match i, hi with
        | 0, _ => exact (kd 0 (by decide))
        | 1, _ => exact (kd 1 (by decide))
        | 2, _ => exact (kd 2 (by decide))
        | 3, _ => exact (kd 3 (by decide))
        | 4, _ => exact (kd 4 (by decide))
        | 5, _ => exact (kd 5 (by decide))
        | 6, _ => exact (kd 6 (by decide))
        | 7, _ => exact (kd 7 (by decide))
        | 8, _ => exact (kd 8 (by decide))
        | 9, _ => exact (kd 9 (by decide))⟩
  refine own_callV (rest := []) (a := o2212) (as := [(.ref o2229), .null]) X2229 hx hZ hown e2229 (own_c_ks l Z a0 hw o2212 o2229 d bb gd fs h2229 n0 s2257 f2244 f2245 lad D1) f2244 (own_w hw 149 rfl) (own_w hw 150 rfl) (own_w hw 152 rfl) (own_w hw 151 rfl) (own_w hw 2 rfl) (own_w hw 153 rfl) (by decide) own_pd7 rfl (by rw [hml]; rfl) rfl (hb hby at_15) 0 (by show 2 * 0 + _ ≤ _; exact Nat.le_of_eq rfl) (by decide) (by decide) (by decide) (by decide) ?_
  rintro _ T2259 L2259 X2259 ⟨rfl, Nq2259, zs2259, E2, F2, g2, sb, D2, qsb, Asb, lsb, gk⟩
  have N2259 := Fr.app N2220 Nq2259
  have zq2259 : n0 ≤ T2259.heap.size := Nat.le_trans s2257 zs2259
  have z2260 : T2220.heap.size ≤ T2259.heap.size := Nat.le_trans z2258 zs2259
  show own_E p e below _ (T2259.setTop (mkF m 18 #[.val (.int x0), .val (.int x1), .val (.ref o2212), .unset, .unset, .unset, .unset, .unset, .unset, .unset, .unset, .unset, .unset, .unset, .unset, .unset, .unset, .unset, .unset, .unset, .unset] []))
  refine own_g (mkF m 19 #[.val (.int x0), .val (.int x1), .val (.ref o2212), .unset, .unset, .unset, .unset, .unset, .unset, .unset, .unset, .unset, .unset, .unset, .unset, .unset, .unset, .unset, .unset, .unset, .unset] [(.ref o2212)]) (fun _ kz => XS.aloadN X2259.here hx rfl (hb hby at_18) rfl rfl kz) ?_
  refine own_callV (rest := []) (a := o2212) (as := []) X2259 hx hZ hown rfl (own_c_dc l Z a0 hw o2212 d bb g2 fs sb (fun _ => 0) T2259.heap n0 zq2259 F2 lad D2 ((gk 22 (by decide) (by decide) (by decide) (by decide)).trans qd_12) Asb lsb) E2 (own_w hw 162 rfl) (own_w hw 163 rfl) (own_w hw 165 rfl) (own_w hw 164 rfl) (own_w hw 2 rfl) (own_w hw 166 rfl) (by decide) own_pd8 rfl (by rw [hml]; rfl) rfl (hb hby at_19) 0 (by show 2 * 0 + _ ≤ _; exact Nat.le_of_eq rfl) (by decide) (by decide) (by decide) (by decide) ?_
  rintro _ T2261 L2261 X2261 ⟨rfl, Nq2261, zs2261, D3, As3⟩
  have N2261 := Fr.app N2259 Nq2261
  have zq2261 : n0 ≤ T2261.heap.size := Nat.le_trans zq2259 zs2261
  have z2262 : T2220.heap.size ≤ T2261.heap.size := Nat.le_trans z2260 zs2261
  show own_E p e below _ (T2261.setTop (mkF m 22 #[.val (.int x0), .val (.int x1), .val (.ref o2212), .unset, .unset, .unset, .unset, .unset, .unset, .unset, .unset, .unset, .unset, .unset, .unset, .unset, .unset, .unset, .unset, .unset, .unset] [(.ref d)]))
  refine own_g (mkF m 23 #[.val (.int x0), .val (.int x1), .val (.ref o2212), .val (.ref d), .unset, .unset, .unset, .unset, .unset, .unset, .unset, .unset, .unset, .unset, .unset, .unset, .unset, .unset, .unset, .unset, .unset] []) (fun _ kz => XS.astoreN X2261.here hx rfl (hb hby at_22) rfl rfl (l' := #[.val (.int x0), .val (.int x1), .val (.ref o2212), .val (.ref d), .unset, .unset, .unset, .unset, .unset, .unset, .unset, .unset, .unset, .unset, .unset, .unset, .unset, .unset, .unset, .unset, .unset]) rfl kz) ?_
  refine own_g (mkF m 24 #[.val (.int x0), .val (.int x1), .val (.ref o2212), .val (.ref d), .unset, .unset, .unset, .unset, .unset, .unset, .unset, .unset, .unset, .unset, .unset, .unset, .unset, .unset, .unset, .unset, .unset] [(.ref d)]) (fun _ kz => XS.aloadN X2261.here hx rfl (hb hby at_23) rfl rfl kz) ?_
  refine own_g (mkF m 25 #[.val (.int x0), .val (.int x1), .val (.ref o2212), .val (.ref d), .unset, .unset, .unset, .unset, .unset, .unset, .unset, .unset, .unset, .unset, .unset, .unset, .unset, .unset, .unset, .unset, .unset] [(.int (3 : Int32)), (.ref d)]) (fun _ kz => XS.iconst X2261.here hx rfl (hb hby at_24) kz) ?_
  refine own_g (mkF m 26 #[.val (.int x0), .val (.int x1), .val (.ref o2212), .val (.ref d), .unset, .unset, .unset, .unset, .unset, .unset, .unset, .unset, .unset, .unset, .unset, .unset, .unset, .unset, .unset, .unset, .unset] [(.int (-1 : Int32)), (.int (3 : Int32)), (.ref d)]) (fun _ kz => XS.iconst X2261.here hx rfl (hb hby at_25) kz) ?_
  refine own_callV (rest := []) (a := d) (as := [(.int (3 : Int32)), (.int (-1 : Int32))]) X2261 hx hZ hown rfl (own_c_add l Z a0 hw d bb (own_set g2 28 (.int 1)) fs sb (fun _ => 0) T2261.heap n0 zq2261 D3 ((gk 22 (by decide) (by decide) (by decide) (by decide)).trans qd_12) qsb As3 lsb) D3.1 (own_w hw 170 rfl) (own_w hw 171 rfl) (own_w hw 173 rfl) (own_w hw 172 rfl) (own_w hw 14 rfl) (own_w hw 174 rfl) (by decide) own_pd9 rfl (by rw [hml]; rfl) rfl (hb hby at_26) 0 (by show 2 * 0 + _ ≤ _; exact Nat.le_of_eq rfl) (by decide) (by decide) (by decide) (by decide) ?_
  rintro _ T2263 L2263 X2263 ⟨rfl, Nq2263, zs2263, fs4, D4, e10, e11, e7⟩
  have N2263 := Fr.app N2261 Nq2263
  have zq2263 : n0 ≤ T2263.heap.size := Nat.le_trans zq2261 zs2263
  have z2264 : T2220.heap.size ≤ T2263.heap.size := Nat.le_trans z2262 zs2263
  show own_E p e below _ (T2263.setTop (mkF m 29 #[.val (.int x0), .val (.int x1), .val (.ref o2212), .val (.ref d), .unset, .unset, .unset, .unset, .unset, .unset, .unset, .unset, .unset, .unset, .unset, .unset, .unset, .unset, .unset, .unset, .unset] [(.int (1 : Int32))]))
  obtain ⟨E4, F4, A4, n4, l4, o4, k4⟩ := D4
  have o4_0 : bb 0 < bb 1 := o4 0 (by decide)
  have o4_1 : bb 1 < bb 2 := o4 1 (by decide)
  have o4_2 : bb 2 < bb 3 := o4 2 (by decide)
  have o4_3 : bb 3 < bb 4 := o4 3 (by decide)
  have o4_4 : bb 4 < bb 5 := o4 4 (by decide)
  have o4_5 : bb 5 < bb 6 := o4 5 (by decide)
  have o4_6 : bb 6 < bb 7 := o4 6 (by decide)
  have o4_7 : bb 7 < bb 8 := o4 7 (by decide)
  have o4_8 : bb 8 < bb 9 := o4 8 (by decide)
  have A4_1 : own_IA Z T2263.heap (bb 1) .int 64 (fs4 1) := A4 1 (by decide)
  have A4_7 : own_IA Z T2263.heap (bb 7) .byte 64 (fun _ => 0) := (A4 7 (by decide)).congr (fun q hq => (e7 q).trans (p7 q))
  refine own_g (mkF m 31 #[.val (.int x0), .val (.int x1), .val (.ref o2212), .val (.ref d), .val (.int (1 : Int32)), .unset, .unset, .unset, .unset, .unset, .unset, .unset, .unset, .unset, .unset, .unset, .unset, .unset, .unset, .unset, .unset] []) (fun _ kz => XS.istore X2263.here hx rfl (hb hby at_29) rfl (l' := #[.val (.int x0), .val (.int x1), .val (.ref o2212), .val (.ref d), .val (.int (1 : Int32)), .unset, .unset, .unset, .unset, .unset, .unset, .unset, .unset, .unset, .unset, .unset, .unset, .unset, .unset, .unset, .unset]) rfl kz) ?_
  refine own_g (mkF m 32 #[.val (.int x0), .val (.int x1), .val (.ref o2212), .val (.ref d), .val (.int (1 : Int32)), .unset, .unset, .unset, .unset, .unset, .unset, .unset, .unset, .unset, .unset, .unset, .unset, .unset, .unset, .unset, .unset] [(.int (2 : Int32))]) (fun _ kz => XS.iconst X2263.here hx rfl (hb hby at_31) kz) ?_
  refine own_newI X2263 hx hZ rfl (own_w hw 33 rfl) rfl (hb hby at_32) (by decide) (n := 2) rfl 2 (by decide) (by decide) (by decide) (by decide) ?_
  intro T2265 h2265 o2265 g2265 X2265 e2265 E2265 A2265
  have lt2266 : d < o2265 := Nat.lt_of_lt_of_le F4.lt (Nat.le_of_eq g2265.symm)
  have lt2267 : (bb 1) < o2265 := Nat.lt_of_lt_of_le A4_1.lt (Nat.le_of_eq g2265.symm)
  have lt2268 : (bb 7) < o2265 := Nat.lt_of_lt_of_le A4_7.lt (Nat.le_of_eq g2265.symm)
  have b2269 : n0 ≤ o2265 := Nat.le_trans zq2263 (Nat.le_of_eq g2265.symm)
  have f2270 := own_FL.ext E2265 F4
  have f2271 := Exa.ext E2265 E4
  have f2272 := A4_1.ext E2265
  have f2273 := A4_7.ext E2265
  have s2274 : n0 ≤ h2265.size := Nat.le_trans zq2263 E2265.1
  have z2275 : T2220.heap.size ≤ h2265.size := Nat.le_trans z2264 E2265.1
  show own_E p e below _ (T2265.setTop (mkF m 34 #[.val (.int x0), .val (.int x1), .val (.ref o2212), .val (.ref d), .val (.int (1 : Int32)), .unset, .unset, .unset, .unset, .unset, .unset, .unset, .unset, .unset, .unset, .unset, .unset, .unset, .unset, .unset, .unset] [(.ref o2265)]))
  refine own_g (mkF m 35 #[.val (.int x0), .val (.int x1), .val (.ref o2212), .val (.ref d), .val (.int (1 : Int32)), .unset, .unset, .unset, .unset, .unset, .unset, .unset, .unset, .unset, .unset, .unset, .unset, .unset, .unset, .unset, .unset] [(.ref o2265), (.ref o2265)]) (fun _ kz => XS.dup X2265.here hx rfl (hb hby at_34) rfl rfl kz) ?_
  refine own_g (mkF m 36 #[.val (.int x0), .val (.int x1), .val (.ref o2212), .val (.ref d), .val (.int (1 : Int32)), .unset, .unset, .unset, .unset, .unset, .unset, .unset, .unset, .unset, .unset, .unset, .unset, .unset, .unset, .unset, .unset] [(.int (0 : Int32)), (.ref o2265), (.ref o2265)]) (fun _ kz => XS.iconst X2265.here hx rfl (hb hby at_35) kz) ?_
  refine own_g (mkF m 37 #[.val (.int x0), .val (.int x1), .val (.ref o2212), .val (.ref d), .val (.int (1 : Int32)), .unset, .unset, .unset, .unset, .unset, .unset, .unset, .unset, .unset, .unset, .unset, .unset, .unset, .unset, .unset, .unset] [(.int (0 : Int32)), (.int (0 : Int32)), (.ref o2265), (.ref o2265)]) (fun _ kz => XS.iconst X2265.here hx rfl (hb hby at_36) kz) ?_
  refine own_stI X2265 hx hZ e2265 A2265 (hb hby at_37) (by decide) (i := 0) rfl (by decide) ?_
  intro T2276 h2276 X2276 e2276 W2276 A2276
  have N2276 := Fr.snoc X2276 N2263 b2269
  have s2277 : n0 ≤ h2276.size := Nat.le_trans s2274 (Keep.of_wr W2276).1
  have z2278 : T2220.heap.size ≤ h2276.size := Nat.le_trans z2275 (Keep.of_wr W2276).1
  have f2279 := own_FL.other W2276 f2270 (Nat.ne_of_lt lt2266)
  have f2280 := Exa.wr W2276 f2271
  have f2281 := f2272.other W2276 (Nat.ne_of_lt lt2267)
  have f2282 := f2273.other W2276 (Nat.ne_of_lt lt2268)
  show own_E p e below _ (T2276.setTop (mkF m 38 #[.val (.int x0), .val (.int x1), .val (.ref o2212), .val (.ref d), .val (.int (1 : Int32)), .unset, .unset, .unset, .unset, .unset, .unset, .unset, .unset, .unset, .unset, .unset, .unset, .unset, .unset, .unset, .unset] [(.ref o2265)]))
  refine own_g (mkF m 39 #[.val (.int x0), .val (.int x1), .val (.ref o2212), .val (.ref d), .val (.int (1 : Int32)), .unset, .unset, .unset, .unset, .unset, .unset, .unset, .unset, .unset, .unset, .unset, .unset, .unset, .unset, .unset, .unset] [(.ref o2265), (.ref o2265)]) (fun _ kz => XS.dup X2276.here hx rfl (hb hby at_38) rfl rfl kz) ?_
  refine own_g (mkF m 40 #[.val (.int x0), .val (.int x1), .val (.ref o2212), .val (.ref d), .val (.int (1 : Int32)), .unset, .unset, .unset, .unset, .unset, .unset, .unset, .unset, .unset, .unset, .unset, .unset, .unset, .unset, .unset, .unset] [(.int (1 : Int32)), (.ref o2265), (.ref o2265)]) (fun _ kz => XS.iconst X2276.here hx rfl (hb hby at_39) kz) ?_
  refine own_g (mkF m 42 #[.val (.int x0), .val (.int x1), .val (.ref o2212), .val (.ref d), .val (.int (1 : Int32)), .unset, .unset, .unset, .unset, .unset, .unset, .unset, .unset, .unset, .unset, .unset, .unset, .unset, .unset, .unset, .unset] [(.int (1 : Int32)), (.int (1 : Int32)), (.ref o2265), (.ref o2265)]) (fun _ kz => XS.iload X2276.here hx rfl (hb hby at_40) rfl kz) ?_
  refine own_stI X2276 hx hZ e2276 A2276 (hb hby at_42) (by decide) (i := 1) rfl (by decide) ?_
  intro T2283 h2283 X2283 e2283 W2283 A2283
  have N2283 := Fr.snoc X2283 N2276 b2269
  have s2284 : n0 ≤ h2283.size := Nat.le_trans s2277 (Keep.of_wr W2283).1
  have z2285 : T2220.heap.size ≤ h2283.size := Nat.le_trans z2278 (Keep.of_wr W2283).1
  have f2286 := own_FL.other W2283 f2279 (Nat.ne_of_lt lt2266)
  have f2287 := Exa.wr W2283 f2280
  have f2288 := f2281.other W2283 (Nat.ne_of_lt lt2267)
  have f2289 := f2282.other W2283 (Nat.ne_of_lt lt2268)
  show own_E p e below _ (T2283.setTop (mkF m 43 #[.val (.int x0), .val (.int x1), .val (.ref o2212), .val (.ref d), .val (.int (1 : Int32)), .unset, .unset, .unset, .unset, .unset, .unset, .unset, .unset, .unset, .unset, .unset, .unset, .unset, .unset, .unset, .unset] [(.ref o2265)]))
  refine own_g (mkF m 45 #[.val (.int x0), .val (.int x1), .val (.ref o2212), .val (.ref d), .val (.int (1 : Int32)), .val (.ref o2265), .unset, .unset, .unset, .unset, .unset, .unset, .unset, .unset, .unset, .unset, .unset, .unset, .unset, .unset, .unset] []) (fun _ kz => XS.astore X2283.here hx rfl (hb hby at_43) rfl rfl (l' := #[.val (.int x0), .val (.int x1), .val (.ref o2212), .val (.ref d), .val (.int (1 : Int32)), .val (.ref o2265), .unset, .unset, .unset, .unset, .unset, .unset, .unset, .unset, .unset, .unset, .unset, .unset, .unset, .unset, .unset]) rfl kz) ?_
  refine own_g (mkF m 46 #[.val (.int x0), .val (.int x1), .val (.ref o2212), .val (.ref d), .val (.int (1 : Int32)), .val (.ref o2265), .unset, .unset, .unset, .unset, .unset, .unset, .unset, .unset, .unset, .unset, .unset, .unset, .unset, .unset, .unset] [(.int (2 : Int32))]) (fun _ kz => XS.iconst X2283.here hx rfl (hb hby at_45) kz) ?_
  refine own_newI X2283 hx hZ e2283 (own_w hw 176 rfl) rfl (hb hby at_46) (by decide) (n := 2) rfl 2 (by decide) (by decide) (by decide) (by decide) ?_
  intro T2290 h2290 o2290 g2290 X2290 e2290 E2290 A2290
  have lt2291 : d < o2290 := Nat.lt_of_lt_of_le f2286.lt (Nat.le_of_eq g2290.symm)
  have lt2292 : (bb 1) < o2290 := Nat.lt_of_lt_of_le f2288.lt (Nat.le_of_eq g2290.symm)
  have lt2293 : (bb 7) < o2290 := Nat.lt_of_lt_of_le f2289.lt (Nat.le_of_eq g2290.symm)
  have lt2294 : o2265 < o2290 := Nat.lt_of_lt_of_le A2283.lt (Nat.le_of_eq g2290.symm)
  have b2295 : n0 ≤ o2290 := Nat.le_trans s2284 (Nat.le_of_eq g2290.symm)
  have f2296 := own_FL.ext E2290 f2286
  have f2297 := Exa.ext E2290 f2287
  have f2298 := f2288.ext E2290
  have f2299 := f2289.ext E2290
  have f2300 := A2283.ext E2290
  have s2301 : n0 ≤ h2290.size := Nat.le_trans s2284 E2290.1
  have z2302 : T2220.heap.size ≤ h2290.size := Nat.le_trans z2285 E2290.1
  show own_E p e below _ (T2290.setTop (mkF m 48 #[.val (.int x0), .val (.int x1), .val (.ref o2212), .val (.ref d), .val (.int (1 : Int32)), .val (.ref o2265), .unset, .unset, .unset, .unset, .unset, .unset, .unset, .unset, .unset, .unset, .unset, .unset, .unset, .unset, .unset] [(.ref o2290)]))
  refine own_g (mkF m 50 #[.val (.int x0), .val (.int x1), .val (.ref o2212), .val (.ref d), .val (.int (1 : Int32)), .val (.ref o2265), .val (.ref o2290), .unset, .unset, .unset, .unset, .unset, .unset, .unset, .unset, .unset, .unset, .unset, .unset, .unset, .unset] []) (fun _ kz => XS.astore X2290.here hx rfl (hb hby at_48) rfl rfl (l' := #[.val (.int x0), .val (.int x1), .val (.ref o2212), .val (.ref d), .val (.int (1 : Int32)), .val (.ref o2265), .val (.ref o2290), .unset, .unset, .unset, .unset, .unset, .unset, .unset, .unset, .unset, .unset, .unset, .unset, .unset, .unset]) rfl kz) ?_
  refine own_g (mkF m 51 #[.val (.int x0), .val (.int x1), .val (.ref o2212), .val (.ref d), .val (.int (1 : Int32)), .val (.ref o2265), .val (.ref o2290), .unset, .unset, .unset, .unset, .unset, .unset, .unset, .unset, .unset, .unset, .unset, .unset, .unset, .unset] [(.int (2 : Int32))]) (fun _ kz => XS.iconst X2290.here hx rfl (hb hby at_50) kz) ?_
  refine own_newI X2290 hx hZ e2290 (own_w hw 176 rfl) rfl (hb hby at_51) (by decide) (n := 2) rfl 2 (by decide) (by decide) (by decide) (by decide) ?_
  intro T2303 h2303 o2303 g2303 X2303 e2303 E2303 A2303
  have lt2304 : d < o2303 := Nat.lt_of_lt_of_le f2296.lt (Nat.le_of_eq g2303.symm)
  have lt2305 : (bb 1) < o2303 := Nat.lt_of_lt_of_le f2298.lt (Nat.le_of_eq g2303.symm)
  have lt2306 : (bb 7) < o2303 := Nat.lt_of_lt_of_le f2299.lt (Nat.le_of_eq g2303.symm)
  have lt2307 : o2265 < o2303 := Nat.lt_of_lt_of_le f2300.lt (Nat.le_of_eq g2303.symm)
  have lt2308 : o2290 < o2303 := Nat.lt_of_lt_of_le A2290.lt (Nat.le_of_eq g2303.symm)
  have b2309 : n0 ≤ o2303 := Nat.le_trans s2301 (Nat.le_of_eq g2303.symm)
  have f2310 := own_FL.ext E2303 f2296
  have f2311 := Exa.ext E2303 f2297
  have f2312 := f2298.ext E2303
  have f2313 := f2299.ext E2303
  have f2314 := f2300.ext E2303
  have f2315 := A2290.ext E2303
  have s2316 : n0 ≤ h2303.size := Nat.le_trans s2301 E2303.1
  have z2317 : T2220.heap.size ≤ h2303.size := Nat.le_trans z2302 E2303.1
  show own_E p e below _ (T2303.setTop (mkF m 53 #[.val (.int x0), .val (.int x1), .val (.ref o2212), .val (.ref d), .val (.int (1 : Int32)), .val (.ref o2265), .val (.ref o2290), .unset, .unset, .unset, .unset, .unset, .unset, .unset, .unset, .unset, .unset, .unset, .unset, .unset, .unset] [(.ref o2303)]))
  refine own_g (mkF m 55 #[.val (.int x0), .val (.int x1), .val (.ref o2212), .val (.ref d), .val (.int (1 : Int32)), .val (.ref o2265), .val (.ref o2290), .val (.ref o2303), .unset, .unset, .unset, .unset, .unset, .unset, .unset, .unset, .unset, .unset, .unset, .unset, .unset] []) (fun _ kz => XS.astore X2303.here hx rfl (hb hby at_53) rfl rfl (l' := #[.val (.int x0), .val (.int x1), .val (.ref o2212), .val (.ref d), .val (.int (1 : Int32)), .val (.ref o2265), .val (.ref o2290), .val (.ref o2303), .unset, .unset, .unset, .unset, .unset, .unset, .unset, .unset, .unset, .unset, .unset, .unset, .unset]) rfl kz) ?_
  refine own_g (mkF m 56 #[.val (.int x0), .val (.int x1), .val (.ref o2212), .val (.ref d), .val (.int (1 : Int32)), .val (.ref o2265), .val (.ref o2290), .val (.ref o2303), .unset, .unset, .unset, .unset, .unset, .unset, .unset, .unset, .unset, .unset, .unset, .unset, .unset] [(.int (2 : Int32))]) (fun _ kz => XS.iconst X2303.here hx rfl (hb hby at_55) kz) ?_
  refine own_newI X2303 hx hZ e2303 (own_w hw 33 rfl) rfl (hb hby at_56) (by decide) (n := 2) rfl 2 (by decide) (by decide) (by decide) (by decide) ?_
  intro T2318 h2318 o2318 g2318 X2318 e2318 E2318 A2318
  have lt2319 : d < o2318 := Nat.lt_of_lt_of_le f2310.lt (Nat.le_of_eq g2318.symm)
  have lt2320 : (bb 1) < o2318 := Nat.lt_of_lt_of_le f2312.lt (Nat.le_of_eq g2318.symm)
  have lt2321 : (bb 7) < o2318 := Nat.lt_of_lt_of_le f2313.lt (Nat.le_of_eq g2318.symm)
  have lt2322 : o2265 < o2318 := Nat.lt_of_lt_of_le f2314.lt (Nat.le_of_eq g2318.symm)
  have lt2323 : o2290 < o2318 := Nat.lt_of_lt_of_le f2315.lt (Nat.le_of_eq g2318.symm)
  have lt2324 : o2303 < o2318 := Nat.lt_of_lt_of_le A2303.lt (Nat.le_of_eq g2318.symm)
  have b2325 : n0 ≤ o2318 := Nat.le_trans s2316 (Nat.le_of_eq g2318.symm)
  have f2326 := own_FL.ext E2318 f2310
  have f2327 := Exa.ext E2318 f2311
  have f2328 := f2312.ext E2318
  have f2329 := f2313.ext E2318
  have f2330 := f2314.ext E2318
  have f2331 := f2315.ext E2318
  have f2332 := A2303.ext E2318
  have s2333 : n0 ≤ h2318.size := Nat.le_trans s2316 E2318.1
  have z2334 : T2220.heap.size ≤ h2318.size := Nat.le_trans z2317 E2318.1
  show own_E p e below _ (T2318.setTop (mkF m 58 #[.val (.int x0), .val (.int x1), .val (.ref o2212), .val (.ref d), .val (.int (1 : Int32)), .val (.ref o2265), .val (.ref o2290), .val (.ref o2303), .unset, .unset, .unset, .unset, .unset, .unset, .unset, .unset, .unset, .unset, .unset, .unset, .unset] [(.ref o2318)]))
  refine own_g (mkF m 59 #[.val (.int x0), .val (.int x1), .val (.ref o2212), .val (.ref d), .val (.int (1 : Int32)), .val (.ref o2265), .val (.ref o2290), .val (.ref o2303), .unset, .unset, .unset, .unset, .unset, .unset, .unset, .unset, .unset, .unset, .unset, .unset, .unset] [(.ref o2318), (.ref o2318)]) (fun _ kz => XS.dup X2318.here hx rfl (hb hby at_58) rfl rfl kz) ?_
  refine own_g (mkF m 60 #[.val (.int x0), .val (.int x1), .val (.ref o2212), .val (.ref d), .val (.int (1 : Int32)), .val (.ref o2265), .val (.ref o2290), .val (.ref o2303), .unset, .unset, .unset, .unset, .unset, .unset, .unset, .unset, .unset, .unset, .unset, .unset, .unset] [(.int (0 : Int32)), (.ref o2318), (.ref o2318)]) (fun _ kz => XS.iconst X2318.here hx rfl (hb hby at_59) kz) ?_
  refine own_g (mkF m 61 #[.val (.int x0), .val (.int x1), .val (.ref o2212), .val (.ref d), .val (.int (1 : Int32)), .val (.ref o2265), .val (.ref o2290), .val (.ref o2303), .unset, .unset, .unset, .unset, .unset, .unset, .unset, .unset, .unset, .unset, .unset, .unset, .unset] [(.int (-1 : Int32)), (.int (0 : Int32)), (.ref o2318), (.ref o2318)]) (fun _ kz => XS.iconst X2318.here hx rfl (hb hby at_60) kz) ?_
  refine own_stI X2318 hx hZ e2318 A2318 (hb hby at_61) (by decide) (i := 0) rfl (by decide) ?_
  intro T2335 h2335 X2335 e2335 W2335 A2335
  have N2335 := Fr.snoc X2335 N2283 b2325
  have s2336 : n0 ≤ h2335.size := Nat.le_trans s2333 (Keep.of_wr W2335).1
  have z2337 : T2220.heap.size ≤ h2335.size := Nat.le_trans z2334 (Keep.of_wr W2335).1
  have f2338 := own_FL.other W2335 f2326 (Nat.ne_of_lt lt2319)
  have f2339 := Exa.wr W2335 f2327
  have f2340 := f2328.other W2335 (Nat.ne_of_lt lt2320)
  have f2341 := f2329.other W2335 (Nat.ne_of_lt lt2321)
  have f2342 := f2330.other W2335 (Nat.ne_of_lt lt2322)
  have f2343 := f2331.other W2335 (Nat.ne_of_lt lt2323)
  have f2344 := f2332.other W2335 (Nat.ne_of_lt lt2324)
  show own_E p e below _ (T2335.setTop (mkF m 62 #[.val (.int x0), .val (.int x1), .val (.ref o2212), .val (.ref d), .val (.int (1 : Int32)), .val (.ref o2265), .val (.ref o2290), .val (.ref o2303), .unset, .unset, .unset, .unset, .unset, .unset, .unset, .unset, .unset, .unset, .unset, .unset, .unset] [(.ref o2318)]))
  refine own_g (mkF m 63 #[.val (.int x0), .val (.int x1), .val (.ref o2212), .val (.ref d), .val (.int (1 : Int32)), .val (.ref o2265), .val (.ref o2290), .val (.ref o2303), .unset, .unset, .unset, .unset, .unset, .unset, .unset, .unset, .unset, .unset, .unset, .unset, .unset] [(.ref o2318), (.ref o2318)]) (fun _ kz => XS.dup X2335.here hx rfl (hb hby at_62) rfl rfl kz) ?_
  refine own_g (mkF m 64 #[.val (.int x0), .val (.int x1), .val (.ref o2212), .val (.ref d), .val (.int (1 : Int32)), .val (.ref o2265), .val (.ref o2290), .val (.ref o2303), .unset, .unset, .unset, .unset, .unset, .unset, .unset, .unset, .unset, .unset, .unset, .unset, .unset] [(.int (1 : Int32)), (.ref o2318), (.ref o2318)]) (fun _ kz => XS.iconst X2335.here hx rfl (hb hby at_63) kz) ?_
  refine own_g (mkF m 65 #[.val (.int x0), .val (.int x1), .val (.ref o2212), .val (.ref d), .val (.int (1 : Int32)), .val (.ref o2265), .val (.ref o2290), .val (.ref o2303), .unset, .unset, .unset, .unset, .unset, .unset, .unset, .unset, .unset, .unset, .unset, .unset, .unset] [(.int (-1 : Int32)), (.int (1 : Int32)), (.ref o2318), (.ref o2318)]) (fun _ kz => XS.iconst X2335.here hx rfl (hb hby at_64) kz) ?_
  refine own_stI X2335 hx hZ e2335 A2335 (hb hby at_65) (by decide) (i := 1) rfl (by decide) ?_
  intro T2345 h2345 X2345 e2345 W2345 A2345
  have N2345 := Fr.snoc X2345 N2335 b2325
  have s2346 : n0 ≤ h2345.size := Nat.le_trans s2336 (Keep.of_wr W2345).1
  have z2347 : T2220.heap.size ≤ h2345.size := Nat.le_trans z2337 (Keep.of_wr W2345).1
  have f2348 := own_FL.other W2345 f2338 (Nat.ne_of_lt lt2319)
  have f2349 := Exa.wr W2345 f2339
  have f2350 := f2340.other W2345 (Nat.ne_of_lt lt2320)
  have f2351 := f2341.other W2345 (Nat.ne_of_lt lt2321)
  have f2352 := f2342.other W2345 (Nat.ne_of_lt lt2322)
  have f2353 := f2343.other W2345 (Nat.ne_of_lt lt2323)
  have f2354 := f2344.other W2345 (Nat.ne_of_lt lt2324)
  show own_E p e below _ (T2345.setTop (mkF m 66 #[.val (.int x0), .val (.int x1), .val (.ref o2212), .val (.ref d), .val (.int (1 : Int32)), .val (.ref o2265), .val (.ref o2290), .val (.ref o2303), .unset, .unset, .unset, .unset, .unset, .unset, .unset, .unset, .unset, .unset, .unset, .unset, .unset] [(.ref o2318)]))
  refine own_g (mkF m 68 #[.val (.int x0), .val (.int x1), .val (.ref o2212), .val (.ref d), .val (.int (1 : Int32)), .val (.ref o2265), .val (.ref o2290), .val (.ref o2303), .val (.ref o2318), .unset, .unset, .unset, .unset, .unset, .unset, .unset, .unset, .unset, .unset, .unset, .unset] []) (fun _ kz => XS.astore X2345.here hx rfl (hb hby at_66) rfl rfl (l' := #[.val (.int x0), .val (.int x1), .val (.ref o2212), .val (.ref d), .val (.int (1 : Int32)), .val (.ref o2265), .val (.ref o2290), .val (.ref o2303), .val (.ref o2318), .unset, .unset, .unset, .unset, .unset, .unset, .unset, .unset, .unset, .unset, .unset, .unset]) rfl kz) ?_
  refine own_g (mkF m 69 #[.val (.int x0), .val (.int x1), .val (.ref o2212), .val (.ref d), .val (.int (1 : Int32)), .val (.ref o2265), .val (.ref o2290), .val (.ref o2303), .val (.ref o2318), .unset, .unset, .unset, .unset, .unset, .unset, .unset, .unset, .unset, .unset, .unset, .unset] [(.int (2 : Int32))]) (fun _ kz => XS.iconst X2345.here hx rfl (hb hby at_68) kz) ?_
  refine own_newI X2345 hx hZ e2345 (own_w hw 33 rfl) rfl (hb hby at_69) (by decide) (n := 2) rfl 2 (by decide) (by decide) (by decide) (by decide) ?_
  intro T2355 h2355 o2355 g2355 X2355 e2355 E2355 A2355
  have lt2356 : d < o2355 := Nat.lt_of_lt_of_le f2348.lt (Nat.le_of_eq g2355.symm)
  have lt2357 : (bb 1) < o2355 := Nat.lt_of_lt_of_le f2350.lt (Nat.le_of_eq g2355.symm)
  have lt2358 : (bb 7) < o2355 := Nat.lt_of_lt_of_le f2351.lt (Nat.le_of_eq g2355.symm)
  have lt2359 : o2265 < o2355 := Nat.lt_of_lt_of_le f2352.lt (Nat.le_of_eq g2355.symm)
  have lt2360 : o2290 < o2355 := Nat.lt_of_lt_of_le f2353.lt (Nat.le_of_eq g2355.symm)
  have lt2361 : o2303 < o2355 := Nat.lt_of_lt_of_le f2354.lt (Nat.le_of_eq g2355.symm)
  have lt2362 : o2318 < o2355 := Nat.lt_of_lt_of_le A2345.lt (Nat.le_of_eq g2355.symm)
  have b2363 : n0 ≤ o2355 := Nat.le_trans s2346 (Nat.le_of_eq g2355.symm)
  have f2364 := own_FL.ext E2355 f2348
  have f2365 := Exa.ext E2355 f2349
  have f2366 := f2350.ext E2355
  have f2367 := f2351.ext E2355
  have f2368 := f2352.ext E2355
  have f2369 := f2353.ext E2355
  have f2370 := f2354.ext E2355
  have f2371 := A2345.ext E2355
  have s2372 : n0 ≤ h2355.size := Nat.le_trans s2346 E2355.1
  have z2373 : T2220.heap.size ≤ h2355.size := Nat.le_trans z2347 E2355.1
  show own_E p e below _ (T2355.setTop (mkF m 71 #[.val (.int x0), .val (.int x1), .val (.ref o2212), .val (.ref d), .val (.int (1 : Int32)), .val (.ref o2265), .val (.ref o2290), .val (.ref o2303), .val (.ref o2318), .unset, .unset, .unset, .unset, .unset, .unset, .unset, .unset, .unset, .unset, .unset, .unset] [(.ref o2355)]))
  refine own_g (mkF m 72 #[.val (.int x0), .val (.int x1), .val (.ref o2212), .val (.ref d), .val (.int (1 : Int32)), .val (.ref o2265), .val (.ref o2290), .val (.ref o2303), .val (.ref o2318), .unset, .unset, .unset, .unset, .unset, .unset, .unset, .unset, .unset, .unset, .unset, .unset] [(.ref o2355), (.ref o2355)]) (fun _ kz => XS.dup X2355.here hx rfl (hb hby at_71) rfl rfl kz) ?_
  refine own_g (mkF m 73 #[.val (.int x0), .val (.int x1), .val (.ref o2212), .val (.ref d), .val (.int (1 : Int32)), .val (.ref o2265), .val (.ref o2290), .val (.ref o2303), .val (.ref o2318), .unset, .unset, .unset, .unset, .unset, .unset, .unset, .unset, .unset, .unset, .unset, .unset] [(.int (0 : Int32)), (.ref o2355), (.ref o2355)]) (fun _ kz => XS.iconst X2355.here hx rfl (hb hby at_72) kz) ?_
  refine own_g (mkF m 74 #[.val (.int x0), .val (.int x1), .val (.ref o2212), .val (.ref d), .val (.int (1 : Int32)), .val (.ref o2265), .val (.ref o2290), .val (.ref o2303), .val (.ref o2318), .unset, .unset, .unset, .unset, .unset, .unset, .unset, .unset, .unset, .unset, .unset, .unset] [(.int (-1 : Int32)), (.int (0 : Int32)), (.ref o2355), (.ref o2355)]) (fun _ kz => XS.iconst X2355.here hx rfl (hb hby at_73) kz) ?_
  refine own_stI X2355 hx hZ e2355 A2355 (hb hby at_74) (by decide) (i := 0) rfl (by decide) ?_
  intro T2374 h2374 X2374 e2374 W2374 A2374
  have N2374 := Fr.snoc X2374 N2345 b2363
  have s2375 : n0 ≤ h2374.size := Nat.le_trans s2372 (Keep.of_wr W2374).1
  have z2376 : T2220.heap.size ≤ h2374.size := Nat.le_trans z2373 (Keep.of_wr W2374).1
  have f2377 := own_FL.other W2374 f2364 (Nat.ne_of_lt lt2356)
  have f2378 := Exa.wr W2374 f2365
  have f2379 := f2366.other W2374 (Nat.ne_of_lt lt2357)
  have f2380 := f2367.other W2374 (Nat.ne_of_lt lt2358)
  have f2381 := f2368.other W2374 (Nat.ne_of_lt lt2359)
  have f2382 := f2369.other W2374 (Nat.ne_of_lt lt2360)
  have f2383 := f2370.other W2374 (Nat.ne_of_lt lt2361)
  have f2384 := f2371.other W2374 (Nat.ne_of_lt lt2362)
  show own_E p e below _ (T2374.setTop (mkF m 75 #[.val (.int x0), .val (.int x1), .val (.ref o2212), .val (.ref d), .val (.int (1 : Int32)), .val (.ref o2265), .val (.ref o2290), .val (.ref o2303), .val (.ref o2318), .unset, .unset, .unset, .unset, .unset, .unset, .unset, .unset, .unset, .unset, .unset, .unset] [(.ref o2355)]))
  refine own_g (mkF m 76 #[.val (.int x0), .val (.int x1), .val (.ref o2212), .val (.ref d), .val (.int (1 : Int32)), .val (.ref o2265), .val (.ref o2290), .val (.ref o2303), .val (.ref o2318), .unset, .unset, .unset, .unset, .unset, .unset, .unset, .unset, .unset, .unset, .unset, .unset] [(.ref o2355), (.ref o2355)]) (fun _ kz => XS.dup X2374.here hx rfl (hb hby at_75) rfl rfl kz) ?_
  refine own_g (mkF m 77 #[.val (.int x0), .val (.int x1), .val (.ref o2212), .val (.ref d), .val (.int (1 : Int32)), .val (.ref o2265), .val (.ref o2290), .val (.ref o2303), .val (.ref o2318), .unset, .unset, .unset, .unset, .unset, .unset, .unset, .unset, .unset, .unset, .unset, .unset] [(.int (1 : Int32)), (.ref o2355), (.ref o2355)]) (fun _ kz => XS.iconst X2374.here hx rfl (hb hby at_76) kz) ?_
  refine own_g (mkF m 78 #[.val (.int x0), .val (.int x1), .val (.ref o2212), .val (.ref d), .val (.int (1 : Int32)), .val (.ref o2265), .val (.ref o2290), .val (.ref o2303), .val (.ref o2318), .unset, .unset, .unset, .unset, .unset, .unset, .unset, .unset, .unset, .unset, .unset, .unset] [(.int (-1 : Int32)), (.int (1 : Int32)), (.ref o2355), (.ref o2355)]) (fun _ kz => XS.iconst X2374.here hx rfl (hb hby at_77) kz) ?_
  refine own_stI X2374 hx hZ e2374 A2374 (hb hby at_78) (by decide) (i := 1) rfl (by decide) ?_
  intro T2385 h2385 X2385 e2385 W2385 A2385
  have N2385 := Fr.snoc X2385 N2374 b2363
  have s2386 : n0 ≤ h2385.size := Nat.le_trans s2375 (Keep.of_wr W2385).1
  have z2387 : T2220.heap.size ≤ h2385.size := Nat.le_trans z2376 (Keep.of_wr W2385).1
  have f2388 := own_FL.other W2385 f2377 (Nat.ne_of_lt lt2356)
  have f2389 := Exa.wr W2385 f2378
  have f2390 := f2379.other W2385 (Nat.ne_of_lt lt2357)
  have f2391 := f2380.other W2385 (Nat.ne_of_lt lt2358)
  have f2392 := f2381.other W2385 (Nat.ne_of_lt lt2359)
  have f2393 := f2382.other W2385 (Nat.ne_of_lt lt2360)
  have f2394 := f2383.other W2385 (Nat.ne_of_lt lt2361)
  have f2395 := f2384.other W2385 (Nat.ne_of_lt lt2362)
  show own_E p e below _ (T2385.setTop (mkF m 79 #[.val (.int x0), .val (.int x1), .val (.ref o2212), .val (.ref d), .val (.int (1 : Int32)), .val (.ref o2265), .val (.ref o2290), .val (.ref o2303), .val (.ref o2318), .unset, .unset, .unset, .unset, .unset, .unset, .unset, .unset, .unset, .unset, .unset, .unset] [(.ref o2355)]))
  refine own_g (mkF m 81 #[.val (.int x0), .val (.int x1), .val (.ref o2212), .val (.ref d), .val (.int (1 : Int32)), .val (.ref o2265), .val (.ref o2290), .val (.ref o2303), .val (.ref o2318), .val (.ref o2355), .unset, .unset, .unset, .unset, .unset, .unset, .unset, .unset, .unset, .unset, .unset] []) (fun _ kz => XS.astore X2385.here hx rfl (hb hby at_79) rfl rfl (l' := #[.val (.int x0), .val (.int x1), .val (.ref o2212), .val (.ref d), .val (.int (1 : Int32)), .val (.ref o2265), .val (.ref o2290), .val (.ref o2303), .val (.ref o2318), .val (.ref o2355), .unset, .unset, .unset, .unset, .unset, .unset, .unset, .unset, .unset, .unset, .unset]) rfl kz) ?_
  refine own_g (mkF m 82 #[.val (.int x0), .val (.int x1), .val (.ref o2212), .val (.ref d), .val (.int (1 : Int32)), .val (.ref o2265), .val (.ref o2290), .val (.ref o2303), .val (.ref o2318), .val (.ref o2355), .unset, .unset, .unset, .unset, .unset, .unset, .unset, .unset, .unset, .unset, .unset] [(.int (4 : Int32))]) (fun _ kz => XS.iconst X2385.here hx rfl (hb hby at_81) kz) ?_
  refine own_newI X2385 hx hZ e2385 (own_w hw 33 rfl) rfl (hb hby at_82) (by decide) (n := 4) rfl 4 (by decide) (by decide) (by decide) (by decide) ?_
  intro T2396 h2396 o2396 g2396 X2396 e2396 E2396 A2396
  have lt2397 : d < o2396 := Nat.lt_of_lt_of_le f2388.lt (Nat.le_of_eq g2396.symm)
  have lt2398 : (bb 1) < o2396 := Nat.lt_of_lt_of_le f2390.lt (Nat.le_of_eq g2396.symm)
  have lt2399 : (bb 7) < o2396 := Nat.lt_of_lt_of_le f2391.lt (Nat.le_of_eq g2396.symm)
  have lt2400 : o2265 < o2396 := Nat.lt_of_lt_of_le f2392.lt (Nat.le_of_eq g2396.symm)
  have lt2401 : o2290 < o2396 := Nat.lt_of_lt_of_le f2393.lt (Nat.le_of_eq g2396.symm)
  have lt2402 : o2303 < o2396 := Nat.lt_of_lt_of_le f2394.lt (Nat.le_of_eq g2396.symm)
  have lt2403 : o2318 < o2396 := Nat.lt_of_lt_of_le f2395.lt (Nat.le_of_eq g2396.symm)
  have lt2404 : o2355 < o2396 := Nat.lt_of_lt_of_le A2385.lt (Nat.le_of_eq g2396.symm)
  have b2405 : n0 ≤ o2396 := Nat.le_trans s2386 (Nat.le_of_eq g2396.symm)
  have f2406 := own_FL.ext E2396 f2388
  have f2407 := Exa.ext E2396 f2389
  have f2408 := f2390.ext E2396
  have f2409 := f2391.ext E2396
  have f2410 := f2392.ext E2396
  have f2411 := f2393.ext E2396
  have f2412 := f2394.ext E2396
  have f2413 := f2395.ext E2396
  have f2414 := A2385.ext E2396
  have s2415 : n0 ≤ h2396.size := Nat.le_trans s2386 E2396.1
  have z2416 : T2220.heap.size ≤ h2396.size := Nat.le_trans z2387 E2396.1
  show own_E p e below _ (T2396.setTop (mkF m 84 #[.val (.int x0), .val (.int x1), .val (.ref o2212), .val (.ref d), .val (.int (1 : Int32)), .val (.ref o2265), .val (.ref o2290), .val (.ref o2303), .val (.ref o2318), .val (.ref o2355), .unset, .unset, .unset, .unset, .unset, .unset, .unset, .unset, .unset, .unset, .unset] [(.ref o2396)]))
  refine own_g (mkF m 86 #[.val (.int x0), .val (.int x1), .val (.ref o2212), .val (.ref d), .val (.int (1 : Int32)), .val (.ref o2265), .val (.ref o2290), .val (.ref o2303), .val (.ref o2318), .val (.ref o2355), .val (.ref o2396), .unset, .unset, .unset, .unset, .unset, .unset, .unset, .unset, .unset, .unset] []) (fun _ kz => XS.astore X2396.here hx rfl (hb hby at_84) rfl rfl (l' := #[.val (.int x0), .val (.int x1), .val (.ref o2212), .val (.ref d), .val (.int (1 : Int32)), .val (.ref o2265), .val (.ref o2290), .val (.ref o2303), .val (.ref o2318), .val (.ref o2355), .val (.ref o2396), .unset, .unset, .unset, .unset, .unset, .unset, .unset, .unset, .unset, .unset]) rfl kz) ?_
  refine own_g (mkF m 87 #[.val (.int x0), .val (.int x1), .val (.ref o2212), .val (.ref d), .val (.int (1 : Int32)), .val (.ref o2265), .val (.ref o2290), .val (.ref o2303), .val (.ref o2318), .val (.ref o2355), .val (.ref o2396), .unset, .unset, .unset, .unset, .unset, .unset, .unset, .unset, .unset, .unset] [(.int (0 : Int32))]) (fun _ kz => XS.iconst X2396.here hx rfl (hb hby at_86) kz) ?_
  refine own_g (mkF m 89 #[.val (.int x0), .val (.int x1), .val (.ref o2212), .val (.ref d), .val (.int (1 : Int32)), .val (.ref o2265), .val (.ref o2290), .val (.ref o2303), .val (.ref o2318), .val (.ref o2355), .val (.ref o2396), .val (.int (0 : Int32)), .unset, .unset, .unset, .unset, .unset, .unset, .unset, .unset, .unset] []) (fun _ kz => XS.istore X2396.here hx rfl (hb hby at_87) rfl (l' := #[.val (.int x0), .val (.int x1), .val (.ref o2212), .val (.ref d), .val (.int (1 : Int32)), .val (.ref o2265), .val (.ref o2290), .val (.ref o2303), .val (.ref o2318), .val (.ref o2355), .val (.ref o2396), .val (.int (0 : Int32)), .unset, .unset, .unset, .unset, .unset, .unset, .unset, .unset, .unset]) rfl kz) ?_
  refine own_g (mkF m 91 #[.val (.int x0), .val (.int x1), .val (.ref o2212), .val (.ref d), .val (.int (1 : Int32)), .val (.ref o2265), .val (.ref o2290), .val (.ref o2303), .val (.ref o2318), .val (.ref o2355), .val (.ref o2396), .val (.int (0 : Int32)), .unset, .unset, .unset, .unset, .unset, .unset, .unset, .unset, .unset] [(.ref o2396)]) (fun _ kz => XS.aload X2396.here hx rfl (hb hby at_89) rfl rfl kz) ?_
  refine own_g (mkF m 92 #[.val (.int x0), .val (.int x1), .val (.ref o2212), .val (.ref d), .val (.int (1 : Int32)), .val (.ref o2265), .val (.ref o2290), .val (.ref o2303), .val (.ref o2318), .val (.ref o2355), .val (.ref o2396), .val (.int (0 : Int32)), .unset, .unset, .unset, .unset, .unset, .unset, .unset, .unset, .unset] [(.int (0 : Int32)), (.ref o2396)]) (fun _ kz => XS.iconst X2396.here hx rfl (hb hby at_91) kz) ?_
  refine own_g (mkF m 94 #[.val (.int x0), .val (.int x1), .val (.ref o2212), .val (.ref d), .val (.int (1 : Int32)), .val (.ref o2265), .val (.ref o2290), .val (.ref o2303), .val (.ref o2318), .val (.ref o2355), .val (.ref o2396), .val (.int (0 : Int32)), .unset, .unset, .unset, .unset, .unset, .unset, .unset, .unset, .unset] [(.int (0 : Int32)), (.int (0 : Int32)), (.ref o2396)]) (fun _ kz => XS.iload X2396.here hx rfl (hb hby at_92) rfl kz) ?_
  refine own_stI X2396 hx hZ e2396 A2396 (hb hby at_94) (by decide) (i := 0) rfl (by decide) ?_
  intro T2417 h2417 X2417 e2417 W2417 A2417
  have N2417 := Fr.snoc X2417 N2385 b2405
  have s2418 : n0 ≤ h2417.size := Nat.le_trans s2415 (Keep.of_wr W2417).1
  have z2419 : T2220.heap.size ≤ h2417.size := Nat.le_trans z2416 (Keep.of_wr W2417).1
  have f2420 := own_FL.other W2417 f2406 (Nat.ne_of_lt lt2397)
  have f2421 := Exa.wr W2417 f2407
  have f2422 := f2408.other W2417 (Nat.ne_of_lt lt2398)
  have f2423 := f2409.other W2417 (Nat.ne_of_lt lt2399)
  have f2424 := f2410.other W2417 (Nat.ne_of_lt lt2400)
  have f2425 := f2411.other W2417 (Nat.ne_of_lt lt2401)
  have f2426 := f2412.other W2417 (Nat.ne_of_lt lt2402)
  have f2427 := f2413.other W2417 (Nat.ne_of_lt lt2403)
  have f2428 := f2414.other W2417 (Nat.ne_of_lt lt2404)
  show own_E p e below _ (T2417.setTop (mkF m 95 #[.val (.int x0), .val (.int x1), .val (.ref o2212), .val (.ref d), .val (.int (1 : Int32)), .val (.ref o2265), .val (.ref o2290), .val (.ref o2303), .val (.ref o2318), .val (.ref o2355), .val (.ref o2396), .val (.int (0 : Int32)), .unset, .unset, .unset, .unset, .unset, .unset, .unset, .unset, .unset] []))
  refine own_g (mkF m 96 #[.val (.int x0), .val (.int x1), .val (.ref o2212), .val (.ref d), .val (.int (1 : Int32)), .val (.ref o2265), .val (.ref o2290), .val (.ref o2303), .val (.ref o2318), .val (.ref o2355), .val (.ref o2396), .val (.int (0 : Int32)), .unset, .unset, .unset, .unset, .unset, .unset, .unset, .unset, .unset] [(.ref d)]) (fun _ kz => XS.aloadN X2417.here hx rfl (hb hby at_95) rfl rfl kz) ?_
  refine own_g (mkF m 98 #[.val (.int x0), .val (.int x1), .val (.ref o2212), .val (.ref d), .val (.int (1 : Int32)), .val (.ref o2265), .val (.ref o2290), .val (.ref o2303), .val (.ref o2318), .val (.ref o2355), .val (.ref o2396), .val (.int (0 : Int32)), .unset, .unset, .unset, .unset, .unset, .unset, .unset, .unset, .unset] [(.ref o2265), (.ref d)]) (fun _ kz => XS.aload X2417.here hx rfl (hb hby at_96) rfl rfl kz) ?_
  refine own_g (mkF m 100 #[.val (.int x0), .val (.int x1), .val (.ref o2212), .val (.ref d), .val (.int (1 : Int32)), .val (.ref o2265), .val (.ref o2290), .val (.ref o2303), .val (.ref o2318), .val (.ref o2355), .val (.ref o2396), .val (.int (0 : Int32)), .unset, .unset, .unset, .unset, .unset, .unset, .unset, .unset, .unset] [(.ref o2290), (.ref o2265), (.ref d)]) (fun _ kz => XS.aload X2417.here hx rfl (hb hby at_98) rfl rfl kz) ?_
  refine own_g (mkF m 102 #[.val (.int x0), .val (.int x1), .val (.ref o2212), .val (.ref d), .val (.int (1 : Int32)), .val (.ref o2265), .val (.ref o2290), .val (.ref o2303), .val (.ref o2318), .val (.ref o2355), .val (.ref o2396), .val (.int (0 : Int32)), .unset, .unset, .unset, .unset, .unset, .unset, .unset, .unset, .unset] [(.ref o2303), (.ref o2290), (.ref o2265), (.ref d)]) (fun _ kz => XS.aload X2417.here hx rfl (hb hby at_100) rfl rfl kz) ?_
  refine own_g (mkF m 104 #[.val (.int x0), .val (.int x1), .val (.ref o2212), .val (.ref d), .val (.int (1 : Int32)), .val (.ref o2265), .val (.ref o2290), .val (.ref o2303), .val (.ref o2318), .val (.ref o2355), .val (.ref o2396), .val (.int (0 : Int32)), .unset, .unset, .unset, .unset, .unset, .unset, .unset, .unset, .unset] [(.ref o2318), (.ref o2303), (.ref o2290), (.ref o2265), (.ref d)]) (fun _ kz => XS.aload X2417.here hx rfl (hb hby at_102) rfl rfl kz) ?_
  refine own_g (mkF m 106 #[.val (.int x0), .val (.int x1), .val (.ref o2212), .val (.ref d), .val (.int (1 : Int32)), .val (.ref o2265), .val (.ref o2290), .val (.ref o2303), .val (.ref o2318), .val (.ref o2355), .val (.ref o2396), .val (.int (0 : Int32)), .unset, .unset, .unset, .unset, .unset, .unset, .unset, .unset, .unset] [(.ref o2355), (.ref o2318), (.ref o2303), (.ref o2290), (.ref o2265), (.ref d)]) (fun _ kz => XS.aload X2417.here hx rfl (hb hby at_104) rfl rfl kz) ?_
  refine own_g (mkF m 108 #[.val (.int x0), .val (.int x1), .val (.ref o2212), .val (.ref d), .val (.int (1 : Int32)), .val (.ref o2265), .val (.ref o2290), .val (.ref o2303), .val (.ref o2318), .val (.ref o2355), .val (.ref o2396), .val (.int (0 : Int32)), .unset, .unset, .unset, .unset, .unset, .unset, .unset, .unset, .unset] [(.int (0 : Int32)), (.ref o2355), (.ref o2318), (.ref o2303), (.ref o2290), (.ref o2265), (.ref d)]) (fun _ kz => XS.iload X2417.here hx rfl (hb hby at_106) rfl kz) ?_
  refine own_g (mkF m 109 #[.val (.int x0), .val (.int x1), .val (.ref o2212), .val (.ref d), .val (.int (1 : Int32)), .val (.ref o2265), .val (.ref o2290), .val (.ref o2303), .val (.ref o2318), .val (.ref o2355), .val (.ref o2396), .val (.int (0 : Int32)), .unset, .unset, .unset, .unset, .unset, .unset, .unset, .unset, .unset] [(.int x0), (.int (0 : Int32)), (.ref o2355), (.ref o2318), (.ref o2303), (.ref o2290), (.ref o2265), (.ref d)]) (fun _ kz => XS.iloadN X2417.here hx rfl (hb hby at_108) rfl kz) ?_
  refine own_g (mkF m 110 #[.val (.int x0), .val (.int x1), .val (.ref o2212), .val (.ref d), .val (.int (1 : Int32)), .val (.ref o2265), .val (.ref o2290), .val (.ref o2303), .val (.ref o2318), .val (.ref o2355), .val (.ref o2396), .val (.int (0 : Int32)), .unset, .unset, .unset, .unset, .unset, .unset, .unset, .unset, .unset] [(.int (3 : Int32)), (.int x0), (.int (0 : Int32)), (.ref o2355), (.ref o2318), (.ref o2303), (.ref o2290), (.ref o2265), (.ref d)]) (fun _ kz => XS.iconst X2417.here hx rfl (hb hby at_109) kz) ?_
  refine own_g (mkF m 111 #[.val (.int x0), .val (.int x1), .val (.ref o2212), .val (.ref d), .val (.int (1 : Int32)), .val (.ref o2265), .val (.ref o2290), .val (.ref o2303), .val (.ref o2318), .val (.ref o2355), .val (.ref o2396), .val (.int (0 : Int32)), .unset, .unset, .unset, .unset, .unset, .unset, .unset, .unset, .unset] [(.int (x0 &&& (3 : Int32))), (.int (0 : Int32)), (.ref o2355), (.ref o2318), (.ref o2303), (.ref o2290), (.ref o2265), (.ref d)]) (fun _ kz => XS.iand X2417.here hx rfl (hb hby at_110) rfl kz) ?_
  obtain ⟨lo, hlo⟩ : ∃ z, z = h2417.size := ⟨_, rfl⟩
  have lnb : o2396 < lo := by rw [hlo]; exact A2417.lt
  have DL : own_D Z h2417 n0 lo d (bb 1) (bb 7) sb (fun _ => 0) (fun _ => 0) (fun _ => 0) 0 := ⟨f2421, ⟨_, (own_FLg f2420 29 (by decide) ((gk 29 (by decide) (by decide) (by decide) (by decide)).trans qd_0))⟩, (own_FLg f2420 28 (by decide) rfl), ⟨_, (own_FLg f2420 30 (by decide) ((gk 30 (by decide) (by decide) (by decide) (by decide)).trans qd_1))⟩, ⟨_, (own_FLg f2420 31 (by decide) ((gk 31 (by decide) (by decide) (by decide) (by decide)).trans qd_2))⟩, (own_FLg f2420 3 (by decide) (k4 1 (by decide))), (own_FLg f2420 9 (by decide) (k4 7 (by decide))), (own_FLg f2420 26 (by decide) qsb), (own_FLg f2420 33 (by decide) ((gk 33 (by decide) (by decide) (by decide) (by decide)).trans qd_3)), ⟨_, f2422, e10.trans p1, e11⟩, f2423, n4, Nat.le_of_eq hlo, by omega, by omega, by omega, fun p hp => absurd hp (Nat.not_lt_zero _), Or.inl ⟨(own_FLg f2420 32 (by decide) ((gk 32 (by decide) (by decide) (by decide) (by decide)).trans qd_5)), (own_FLg f2420 34 (by decide) ((gk 34 (by decide) (by decide) (by decide) (by decide)).trans qd_6)), rfl, rfl, rfl⟩⟩
  have C0 : (0 : Nat) ≤ 0 := Nat.le_refl 0
  obtain ⟨o1', ho1, eo1⟩ := own_mask (x0) 3 (by decide)
  rw [show (x0 &&& (3 : Int32)) = Int32.ofNat o1' from eo1]
  show own_E p e below _ (T2417.setTop (mkF m 111 #[.val (.int x0), .val (.int x1), .val (.ref o2212), .val (.ref d), .val (.int (1 : Int32)), .val (.ref o2265), .val (.ref o2290), .val (.ref o2303), .val (.ref o2318), .val (.ref o2355), .val (.ref o2396), .val (.int (0 : Int32)), .unset, .unset, .unset, .unset, .unset, .unset, .unset, .unset, .unset] [(.int (Int32.ofNat o1')), (.int (0 : Int32)), (.ref o2355), (.ref o2318), (.ref o2303), (.ref o2290), (.ref o2265), (.ref d)]))
  refine own_callS (rest := []) (as := [(.ref d), (.ref o2265), (.ref o2290), (.ref o2303), (.ref o2318), (.ref o2355), (.int (0 : Int32)), (.int (Int32.ofNat o1'))]) X2417 hx hZ hown e2417 (own_c_app l Z a0 hw o1' ho1 lo d (bb 1) (bb 7) sb (fun _ => 0) (fun _ => 0) (fun _ => 0) 0 o2265 o2290 o2303 o2318 o2355 (own_set (own_set (fun _ => (0 : Int32)) 0 (0 : Int32)) 1 (1 : Int32)) (fun _ => (0 : Int32)) (fun _ => (0 : Int32)) (own_set (own_set (fun _ => (0 : Int32)) 0 (-1 : Int32)) 1 (-1 : Int32)) (own_set (own_set (fun _ => (0 : Int32)) 0 (-1 : Int32)) 1 (-1 : Int32)) (0 : Int32) h2417 n0 s2418 (by omega) DL (by omega) lt2294 lt2308 lt2324 lt2362 (by omega) f2424 rfl rfl f2425 f2426 f2427 f2428) (own_w hw 177 rfl) (own_w hw 178 rfl) (own_w hw 179 rfl) (own_w hw 180 rfl) (by decide) own_pd10 rfl (by rw [hml]; rfl) rfl (hb hby at_111) 0 (by show 2 * 0 + _ ≤ _; exact Nat.le_of_eq rfl) (by decide) (by decide) (by decide) (by decide) ?_
  rintro _ T2429 L2429 X2429 ⟨fa1, ka1, ma1, ca1, u11, u21, u31, u41, u51, rfl, Nq2429, KL2429, eqa1, lca1, Da1, Ai1, Ac1, Ar1, Ax1, Ay1⟩
  have N2429 := Fr.app N2417 Nq2429
  have zq2429 : n0 ≤ T2429.heap.size := Nat.le_trans s2418 KL2429.1
  have z2430 : T2220.heap.size ≤ T2429.heap.size := Nat.le_trans z2419 KL2429.1
  have An1 := own_IA.kl A2417 KL2429 (by omega) (by omega)
  have et1 : ((fa1, ka1, ma1, ca1), (u11, u21, u31, u41, u51)) = own_nx o1' own_t0 := eqa1
  show own_E p e below _ (T2429.setTop (mkF m 114 #[.val (.int x0), .val (.int x1), .val (.ref o2212), .val (.ref d), .val (.int (1 : Int32)), .val (.ref o2265), .val (.ref o2290), .val (.ref o2303), .val (.ref o2318), .val (.ref o2355), .val (.ref o2396), .val (.int (0 : Int32)), .unset, .unset, .unset, .unset, .unset, .unset, .unset, .unset, .unset] [(.int u51)]))
  refine own_g (mkF m 116 #[.val (.int x0), .val (.int x1), .val (.ref o2212), .val (.ref d), .val (.int (1 : Int32)), .val (.ref o2265), .val (.ref o2290), .val (.ref o2303), .val (.ref o2318), .val (.ref o2355), .val (.ref o2396), .val (.int u51), .unset, .unset, .unset, .unset, .unset, .unset, .unset, .unset, .unset] []) (fun _ kz => XS.istore X2429.here hx rfl (hb hby at_114) rfl (l' := #[.val (.int x0), .val (.int x1), .val (.ref o2212), .val (.ref d), .val (.int (1 : Int32)), .val (.ref o2265), .val (.ref o2290), .val (.ref o2303), .val (.ref o2318), .val (.ref o2355), .val (.ref o2396), .val (.int u51), .unset, .unset, .unset, .unset, .unset, .unset, .unset, .unset, .unset]) rfl kz) ?_
  refine own_g (mkF m 118 #[.val (.int x0), .val (.int x1), .val (.ref o2212), .val (.ref d), .val (.int (1 : Int32)), .val (.ref o2265), .val (.ref o2290), .val (.ref o2303), .val (.ref o2318), .val (.ref o2355), .val (.ref o2396), .val (.int u51), .unset, .unset, .unset, .unset, .unset, .unset, .unset, .unset, .unset] [(.ref o2396)]) (fun _ kz => XS.aload X2429.here hx rfl (hb hby at_116) rfl rfl kz) ?_
  refine own_g (mkF m 119 #[.val (.int x0), .val (.int x1), .val (.ref o2212), .val (.ref d), .val (.int (1 : Int32)), .val (.ref o2265), .val (.ref o2290), .val (.ref o2303), .val (.ref o2318), .val (.ref o2355), .val (.ref o2396), .val (.int u51), .unset, .unset, .unset, .unset, .unset, .unset, .unset, .unset, .unset] [(.int (1 : Int32)), (.ref o2396)]) (fun _ kz => XS.iconst X2429.here hx rfl (hb hby at_118) kz) ?_
  refine own_g (mkF m 121 #[.val (.int x0), .val (.int x1), .val (.ref o2212), .val (.ref d), .val (.int (1 : Int32)), .val (.ref o2265), .val (.ref o2290), .val (.ref o2303), .val (.ref o2318), .val (.ref o2355), .val (.ref o2396), .val (.int u51), .unset, .unset, .unset, .unset, .unset, .unset, .unset, .unset, .unset] [(.int u51), (.int (1 : Int32)), (.ref o2396)]) (fun _ kz => XS.iload X2429.here hx rfl (hb hby at_119) rfl kz) ?_
  refine own_stI X2429 hx hZ rfl An1 (hb hby at_121) (by decide) (i := 1) rfl (by decide) ?_
  intro T2431 h2431 X2431 e2431 W2431 A2431
  have N2431 := Fr.snoc X2431 N2429 b2405
  have s2432 : n0 ≤ h2431.size := Nat.le_trans zq2429 (Keep.of_wr W2431).1
  have z2433 : T2220.heap.size ≤ h2431.size := Nat.le_trans z2430 (Keep.of_wr W2431).1
  have f2434 := Exa.wr W2431 Da1.1
  have f2435 := Ai1.other W2431 (Nat.ne_of_lt lt2400)
  have f2436 := Ac1.other W2431 (Nat.ne_of_lt lt2401)
  have f2437 := Ar1.other W2431 (Nat.ne_of_lt lt2402)
  have f2438 := Ax1.other W2431 (Nat.ne_of_lt lt2403)
  have f2439 := Ay1.other W2431 (Nat.ne_of_lt lt2404)
  have f2440 := own_D.arr W2431 (by omega) (by omega) Da1
  show own_E p e below _ (T2431.setTop (mkF m 122 #[.val (.int x0), .val (.int x1), .val (.ref o2212), .val (.ref d), .val (.int (1 : Int32)), .val (.ref o2265), .val (.ref o2290), .val (.ref o2303), .val (.ref o2318), .val (.ref o2355), .val (.ref o2396), .val (.int u51), .unset, .unset, .unset, .unset, .unset, .unset, .unset, .unset, .unset] []))
  refine own_g (mkF m 123 #[.val (.int x0), .val (.int x1), .val (.ref o2212), .val (.ref d), .val (.int (1 : Int32)), .val (.ref o2265), .val (.ref o2290), .val (.ref o2303), .val (.ref o2318), .val (.ref o2355), .val (.ref o2396), .val (.int u51), .unset, .unset, .unset, .unset, .unset, .unset, .unset, .unset, .unset] [(.ref d)]) (fun _ kz => XS.aloadN X2431.here hx rfl (hb hby at_122) rfl rfl kz) ?_
  refine own_g (mkF m 125 #[.val (.int x0), .val (.int x1), .val (.ref o2212), .val (.ref d), .val (.int (1 : Int32)), .val (.ref o2265), .val (.ref o2290), .val (.ref o2303), .val (.ref o2318), .val (.ref o2355), .val (.ref o2396), .val (.int u51), .unset, .unset, .unset, .unset, .unset, .unset, .unset, .unset, .unset] [(.ref o2265), (.ref d)]) (fun _ kz => XS.aload X2431.here hx rfl (hb hby at_123) rfl rfl kz) ?_
  refine own_g (mkF m 127 #[.val (.int x0), .val (.int x1), .val (.ref o2212), .val (.ref d), .val (.int (1 : Int32)), .val (.ref o2265), .val (.ref o2290), .val (.ref o2303), .val (.ref o2318), .val (.ref o2355), .val (.ref o2396), .val (.int u51), .unset, .unset, .unset, .unset, .unset, .unset, .unset, .unset, .unset] [(.ref o2290), (.ref o2265), (.ref d)]) (fun _ kz => XS.aload X2431.here hx rfl (hb hby at_125) rfl rfl kz) ?_
  refine own_g (mkF m 129 #[.val (.int x0), .val (.int x1), .val (.ref o2212), .val (.ref d), .val (.int (1 : Int32)), .val (.ref o2265), .val (.ref o2290), .val (.ref o2303), .val (.ref o2318), .val (.ref o2355), .val (.ref o2396), .val (.int u51), .unset, .unset, .unset, .unset, .unset, .unset, .unset, .unset, .unset] [(.ref o2303), (.ref o2290), (.ref o2265), (.ref d)]) (fun _ kz => XS.aload X2431.here hx rfl (hb hby at_127) rfl rfl kz) ?_
  refine own_g (mkF m 131 #[.val (.int x0), .val (.int x1), .val (.ref o2212), .val (.ref d), .val (.int (1 : Int32)), .val (.ref o2265), .val (.ref o2290), .val (.ref o2303), .val (.ref o2318), .val (.ref o2355), .val (.ref o2396), .val (.int u51), .unset, .unset, .unset, .unset, .unset, .unset, .unset, .unset, .unset] [(.ref o2318), (.ref o2303), (.ref o2290), (.ref o2265), (.ref d)]) (fun _ kz => XS.aload X2431.here hx rfl (hb hby at_129) rfl rfl kz) ?_
  refine own_g (mkF m 133 #[.val (.int x0), .val (.int x1), .val (.ref o2212), .val (.ref d), .val (.int (1 : Int32)), .val (.ref o2265), .val (.ref o2290), .val (.ref o2303), .val (.ref o2318), .val (.ref o2355), .val (.ref o2396), .val (.int u51), .unset, .unset, .unset, .unset, .unset, .unset, .unset, .unset, .unset] [(.ref o2355), (.ref o2318), (.ref o2303), (.ref o2290), (.ref o2265), (.ref d)]) (fun _ kz => XS.aload X2431.here hx rfl (hb hby at_131) rfl rfl kz) ?_
  refine own_g (mkF m 135 #[.val (.int x0), .val (.int x1), .val (.ref o2212), .val (.ref d), .val (.int (1 : Int32)), .val (.ref o2265), .val (.ref o2290), .val (.ref o2303), .val (.ref o2318), .val (.ref o2355), .val (.ref o2396), .val (.int u51), .unset, .unset, .unset, .unset, .unset, .unset, .unset, .unset, .unset] [(.int u51), (.ref o2355), (.ref o2318), (.ref o2303), (.ref o2290), (.ref o2265), (.ref d)]) (fun _ kz => XS.iload X2431.here hx rfl (hb hby at_133) rfl kz) ?_
  refine own_g (mkF m 136 #[.val (.int x0), .val (.int x1), .val (.ref o2212), .val (.ref d), .val (.int (1 : Int32)), .val (.ref o2265), .val (.ref o2290), .val (.ref o2303), .val (.ref o2318), .val (.ref o2355), .val (.ref o2396), .val (.int u51), .unset, .unset, .unset, .unset, .unset, .unset, .unset, .unset, .unset] [(.int x0), (.int u51), (.ref o2355), (.ref o2318), (.ref o2303), (.ref o2290), (.ref o2265), (.ref d)]) (fun _ kz => XS.iloadN X2431.here hx rfl (hb hby at_135) rfl kz) ?_
  refine own_g (mkF m 137 #[.val (.int x0), .val (.int x1), .val (.ref o2212), .val (.ref d), .val (.int (1 : Int32)), .val (.ref o2265), .val (.ref o2290), .val (.ref o2303), .val (.ref o2318), .val (.ref o2355), .val (.ref o2396), .val (.int u51), .unset, .unset, .unset, .unset, .unset, .unset, .unset, .unset, .unset] [(.int (2 : Int32)), (.int x0), (.int u51), (.ref o2355), (.ref o2318), (.ref o2303), (.ref o2290), (.ref o2265), (.ref d)]) (fun _ kz => XS.iconst X2431.here hx rfl (hb hby at_136) kz) ?_
  refine own_g (mkF m 138 #[.val (.int x0), .val (.int x1), .val (.ref o2212), .val (.ref d), .val (.int (1 : Int32)), .val (.ref o2265), .val (.ref o2290), .val (.ref o2303), .val (.ref o2318), .val (.ref o2355), .val (.ref o2396), .val (.int u51), .unset, .unset, .unset, .unset, .unset, .unset, .unset, .unset, .unset] [(.int (x0 >>> ((2 : Int32) &&& 31))), (.int u51), (.ref o2355), (.ref o2318), (.ref o2303), (.ref o2290), (.ref o2265), (.ref d)]) (fun _ kz => XS.ishr X2431.here hx rfl (hb hby at_137) rfl kz) ?_
  refine own_g (mkF m 139 #[.val (.int x0), .val (.int x1), .val (.ref o2212), .val (.ref d), .val (.int (1 : Int32)), .val (.ref o2265), .val (.ref o2290), .val (.ref o2303), .val (.ref o2318), .val (.ref o2355), .val (.ref o2396), .val (.int u51), .unset, .unset, .unset, .unset, .unset, .unset, .unset, .unset, .unset] [(.int (3 : Int32)), (.int (x0 >>> ((2 : Int32) &&& 31))), (.int u51), (.ref o2355), (.ref o2318), (.ref o2303), (.ref o2290), (.ref o2265), (.ref d)]) (fun _ kz => XS.iconst X2431.here hx rfl (hb hby at_138) kz) ?_
  refine own_g (mkF m 140 #[.val (.int x0), .val (.int x1), .val (.ref o2212), .val (.ref d), .val (.int (1 : Int32)), .val (.ref o2265), .val (.ref o2290), .val (.ref o2303), .val (.ref o2318), .val (.ref o2355), .val (.ref o2396), .val (.int u51), .unset, .unset, .unset, .unset, .unset, .unset, .unset, .unset, .unset] [(.int ((x0 >>> ((2 : Int32) &&& 31)) &&& (3 : Int32))), (.int u51), (.ref o2355), (.ref o2318), (.ref o2303), (.ref o2290), (.ref o2265), (.ref d)]) (fun _ kz => XS.iand X2431.here hx rfl (hb hby at_139) rfl kz) ?_
  obtain ⟨o2', ho2, eo2⟩ := own_mask ((x0 >>> ((2 : Int32) &&& 31))) 3 (by decide)
  rw [show ((x0 >>> ((2 : Int32) &&& 31)) &&& (3 : Int32)) = Int32.ofNat o2' from eo2]
  show own_E p e below _ (T2431.setTop (mkF m 140 #[.val (.int x0), .val (.int x1), .val (.ref o2212), .val (.ref d), .val (.int (1 : Int32)), .val (.ref o2265), .val (.ref o2290), .val (.ref o2303), .val (.ref o2318), .val (.ref o2355), .val (.ref o2396), .val (.int u51), .unset, .unset, .unset, .unset, .unset, .unset, .unset, .unset, .unset] [(.int (Int32.ofNat o2')), (.int u51), (.ref o2355), (.ref o2318), (.ref o2303), (.ref o2290), (.ref o2265), (.ref d)]))
  refine own_callS (rest := []) (as := [(.ref d), (.ref o2265), (.ref o2290), (.ref o2303), (.ref o2318), (.ref o2355), (.int u51), (.int (Int32.ofNat o2'))]) X2431 hx hZ hown e2431 (own_c_app l Z a0 hw o2' ho2 lo d (bb 1) (bb 7) sb fa1 ka1 ma1 ca1 o2265 o2290 o2303 o2318 o2355 (own_set (own_set (fun _ => (0 : Int32)) 0 (0 : Int32)) 1 (1 : Int32)) u11 u21 u31 u41 u51 h2431 n0 s2432 (by omega) f2440 (by omega) lt2294 lt2308 lt2324 lt2362 (by omega) f2435 rfl rfl f2436 f2437 f2438 f2439) (own_w hw 177 rfl) (own_w hw 178 rfl) (own_w hw 179 rfl) (own_w hw 180 rfl) (by decide) own_pd10 rfl (by rw [hml]; rfl) rfl (hb hby at_140) 0 (by show 2 * 0 + _ ≤ _; exact Nat.le_of_eq rfl) (by decide) (by decide) (by decide) (by decide) ?_
  rintro _ T2441 L2441 X2441 ⟨fa2, ka2, ma2, ca2, u12, u22, u32, u42, u52, rfl, Nq2441, KL2441, eqa2, lca2, Da2, Ai2, Ac2, Ar2, Ax2, Ay2⟩
  have N2441 := Fr.app N2431 Nq2441
  have zq2441 : n0 ≤ T2441.heap.size := Nat.le_trans s2432 KL2441.1
  have z2442 : T2220.heap.size ≤ T2441.heap.size := Nat.le_trans z2433 KL2441.1
  have An2 := own_IA.kl A2431 KL2441 (by omega) (by omega)
  have et2 : ((fa2, ka2, ma2, ca2), (u12, u22, u32, u42, u52)) = own_nx o2' ((fa1, ka1, ma1, ca1), (u11, u21, u31, u41, u51)) := eqa2
  show own_E p e below _ (T2441.setTop (mkF m 143 #[.val (.int x0), .val (.int x1), .val (.ref o2212), .val (.ref d), .val (.int (1 : Int32)), .val (.ref o2265), .val (.ref o2290), .val (.ref o2303), .val (.ref o2318), .val (.ref o2355), .val (.ref o2396), .val (.int u51), .unset, .unset, .unset, .unset, .unset, .unset, .unset, .unset, .unset] [(.int u52)]))
  refine own_g (mkF m 145 #[.val (.int x0), .val (.int x1), .val (.ref o2212), .val (.ref d), .val (.int (1 : Int32)), .val (.ref o2265), .val (.ref o2290), .val (.ref o2303), .val (.ref o2318), .val (.ref o2355), .val (.ref o2396), .val (.int u52), .unset, .unset, .unset, .unset, .unset, .unset, .unset, .unset, .unset] []) (fun _ kz => XS.istore X2441.here hx rfl (hb hby at_143) rfl (l' := #[.val (.int x0), .val (.int x1), .val (.ref o2212), .val (.ref d), .val (.int (1 : Int32)), .val (.ref o2265), .val (.ref o2290), .val (.ref o2303), .val (.ref o2318), .val (.ref o2355), .val (.ref o2396), .val (.int u52), .unset, .unset, .unset, .unset, .unset, .unset, .unset, .unset, .unset]) rfl kz) ?_
  refine own_g (mkF m 147 #[.val (.int x0), .val (.int x1), .val (.ref o2212), .val (.ref d), .val (.int (1 : Int32)), .val (.ref o2265), .val (.ref o2290), .val (.ref o2303), .val (.ref o2318), .val (.ref o2355), .val (.ref o2396), .val (.int u52), .unset, .unset, .unset, .unset, .unset, .unset, .unset, .unset, .unset] [(.ref o2396)]) (fun _ kz => XS.aload X2441.here hx rfl (hb hby at_145) rfl rfl kz) ?_
  refine own_g (mkF m 148 #[.val (.int x0), .val (.int x1), .val (.ref o2212), .val (.ref d), .val (.int (1 : Int32)), .val (.ref o2265), .val (.ref o2290), .val (.ref o2303), .val (.ref o2318), .val (.ref o2355), .val (.ref o2396), .val (.int u52), .unset, .unset, .unset, .unset, .unset, .unset, .unset, .unset, .unset] [(.int (2 : Int32)), (.ref o2396)]) (fun _ kz => XS.iconst X2441.here hx rfl (hb hby at_147) kz) ?_
  refine own_g (mkF m 150 #[.val (.int x0), .val (.int x1), .val (.ref o2212), .val (.ref d), .val (.int (1 : Int32)), .val (.ref o2265), .val (.ref o2290), .val (.ref o2303), .val (.ref o2318), .val (.ref o2355), .val (.ref o2396), .val (.int u52), .unset, .unset, .unset, .unset, .unset, .unset, .unset, .unset, .unset] [(.int u52), (.int (2 : Int32)), (.ref o2396)]) (fun _ kz => XS.iload X2441.here hx rfl (hb hby at_148) rfl kz) ?_
  refine own_stI X2441 hx hZ rfl An2 (hb hby at_150) (by decide) (i := 2) rfl (by decide) ?_
  intro T2443 h2443 X2443 e2443 W2443 A2443
  have N2443 := Fr.snoc X2443 N2441 b2405
  have s2444 : n0 ≤ h2443.size := Nat.le_trans zq2441 (Keep.of_wr W2443).1
  have z2445 : T2220.heap.size ≤ h2443.size := Nat.le_trans z2442 (Keep.of_wr W2443).1
  have f2446 := Exa.wr W2443 Da2.1
  have f2447 := Ai2.other W2443 (Nat.ne_of_lt lt2400)
  have f2448 := Ac2.other W2443 (Nat.ne_of_lt lt2401)
  have f2449 := Ar2.other W2443 (Nat.ne_of_lt lt2402)
  have f2450 := Ax2.other W2443 (Nat.ne_of_lt lt2403)
  have f2451 := Ay2.other W2443 (Nat.ne_of_lt lt2404)
  have f2452 := own_D.arr W2443 (by omega) (by omega) Da2
  show own_E p e below _ (T2443.setTop (mkF m 151 #[.val (.int x0), .val (.int x1), .val (.ref o2212), .val (.ref d), .val (.int (1 : Int32)), .val (.ref o2265), .val (.ref o2290), .val (.ref o2303), .val (.ref o2318), .val (.ref o2355), .val (.ref o2396), .val (.int u52), .unset, .unset, .unset, .unset, .unset, .unset, .unset, .unset, .unset] []))
  refine own_g (mkF m 152 #[.val (.int x0), .val (.int x1), .val (.ref o2212), .val (.ref d), .val (.int (1 : Int32)), .val (.ref o2265), .val (.ref o2290), .val (.ref o2303), .val (.ref o2318), .val (.ref o2355), .val (.ref o2396), .val (.int u52), .unset, .unset, .unset, .unset, .unset, .unset, .unset, .unset, .unset] [(.ref d)]) (fun _ kz => XS.aloadN X2443.here hx rfl (hb hby at_151) rfl rfl kz) ?_
  refine own_g (mkF m 154 #[.val (.int x0), .val (.int x1), .val (.ref o2212), .val (.ref d), .val (.int (1 : Int32)), .val (.ref o2265), .val (.ref o2290), .val (.ref o2303), .val (.ref o2318), .val (.ref o2355), .val (.ref o2396), .val (.int u52), .unset, .unset, .unset, .unset, .unset, .unset, .unset, .unset, .unset] [(.ref o2265), (.ref d)]) (fun _ kz => XS.aload X2443.here hx rfl (hb hby at_152) rfl rfl kz) ?_
  refine own_g (mkF m 156 #[.val (.int x0), .val (.int x1), .val (.ref o2212), .val (.ref d), .val (.int (1 : Int32)), .val (.ref o2265), .val (.ref o2290), .val (.ref o2303), .val (.ref o2318), .val (.ref o2355), .val (.ref o2396), .val (.int u52), .unset, .unset, .unset, .unset, .unset, .unset, .unset, .unset, .unset] [(.ref o2290), (.ref o2265), (.ref d)]) (fun _ kz => XS.aload X2443.here hx rfl (hb hby at_154) rfl rfl kz) ?_
  refine own_g (mkF m 158 #[.val (.int x0), .val (.int x1), .val (.ref o2212), .val (.ref d), .val (.int (1 : Int32)), .val (.ref o2265), .val (.ref o2290), .val (.ref o2303), .val (.ref o2318), .val (.ref o2355), .val (.ref o2396), .val (.int u52), .unset, .unset, .unset, .unset, .unset, .unset, .unset, .unset, .unset] [(.ref o2303), (.ref o2290), (.ref o2265), (.ref d)]) (fun _ kz => XS.aload X2443.here hx rfl (hb hby at_156) rfl rfl kz) ?_
  refine own_g (mkF m 160 #[.val (.int x0), .val (.int x1), .val (.ref o2212), .val (.ref d), .val (.int (1 : Int32)), .val (.ref o2265), .val (.ref o2290), .val (.ref o2303), .val (.ref o2318), .val (.ref o2355), .val (.ref o2396), .val (.int u52), .unset, .unset, .unset, .unset, .unset, .unset, .unset, .unset, .unset] [(.ref o2318), (.ref o2303), (.ref o2290), (.ref o2265), (.ref d)]) (fun _ kz => XS.aload X2443.here hx rfl (hb hby at_158) rfl rfl kz) ?_
  refine own_g (mkF m 162 #[.val (.int x0), .val (.int x1), .val (.ref o2212), .val (.ref d), .val (.int (1 : Int32)), .val (.ref o2265), .val (.ref o2290), .val (.ref o2303), .val (.ref o2318), .val (.ref o2355), .val (.ref o2396), .val (.int u52), .unset, .unset, .unset, .unset, .unset, .unset, .unset, .unset, .unset] [(.ref o2355), (.ref o2318), (.ref o2303), (.ref o2290), (.ref o2265), (.ref d)]) (fun _ kz => XS.aload X2443.here hx rfl (hb hby at_160) rfl rfl kz) ?_
  refine own_g (mkF m 164 #[.val (.int x0), .val (.int x1), .val (.ref o2212), .val (.ref d), .val (.int (1 : Int32)), .val (.ref o2265), .val (.ref o2290), .val (.ref o2303), .val (.ref o2318), .val (.ref o2355), .val (.ref o2396), .val (.int u52), .unset, .unset, .unset, .unset, .unset, .unset, .unset, .unset, .unset] [(.int u52), (.ref o2355), (.ref o2318), (.ref o2303), (.ref o2290), (.ref o2265), (.ref d)]) (fun _ kz => XS.iload X2443.here hx rfl (hb hby at_162) rfl kz) ?_
  refine own_g (mkF m 165 #[.val (.int x0), .val (.int x1), .val (.ref o2212), .val (.ref d), .val (.int (1 : Int32)), .val (.ref o2265), .val (.ref o2290), .val (.ref o2303), .val (.ref o2318), .val (.ref o2355), .val (.ref o2396), .val (.int u52), .unset, .unset, .unset, .unset, .unset, .unset, .unset, .unset, .unset] [(.int x0), (.int u52), (.ref o2355), (.ref o2318), (.ref o2303), (.ref o2290), (.ref o2265), (.ref d)]) (fun _ kz => XS.iloadN X2443.here hx rfl (hb hby at_164) rfl kz) ?_
  refine own_g (mkF m 166 #[.val (.int x0), .val (.int x1), .val (.ref o2212), .val (.ref d), .val (.int (1 : Int32)), .val (.ref o2265), .val (.ref o2290), .val (.ref o2303), .val (.ref o2318), .val (.ref o2355), .val (.ref o2396), .val (.int u52), .unset, .unset, .unset, .unset, .unset, .unset, .unset, .unset, .unset] [(.int (4 : Int32)), (.int x0), (.int u52), (.ref o2355), (.ref o2318), (.ref o2303), (.ref o2290), (.ref o2265), (.ref d)]) (fun _ kz => XS.iconst X2443.here hx rfl (hb hby at_165) kz) ?_
  refine own_g (mkF m 167 #[.val (.int x0), .val (.int x1), .val (.ref o2212), .val (.ref d), .val (.int (1 : Int32)), .val (.ref o2265), .val (.ref o2290), .val (.ref o2303), .val (.ref o2318), .val (.ref o2355), .val (.ref o2396), .val (.int u52), .unset, .unset, .unset, .unset, .unset, .unset, .unset, .unset, .unset] [(.int (x0 >>> ((4 : Int32) &&& 31))), (.int u52), (.ref o2355), (.ref o2318), (.ref o2303), (.ref o2290), (.ref o2265), (.ref d)]) (fun _ kz => XS.ishr X2443.here hx rfl (hb hby at_166) rfl kz) ?_
  refine own_g (mkF m 168 #[.val (.int x0), .val (.int x1), .val (.ref o2212), .val (.ref d), .val (.int (1 : Int32)), .val (.ref o2265), .val (.ref o2290), .val (.ref o2303), .val (.ref o2318), .val (.ref o2355), .val (.ref o2396), .val (.int u52), .unset, .unset, .unset, .unset, .unset, .unset, .unset, .unset, .unset] [(.int (3 : Int32)), (.int (x0 >>> ((4 : Int32) &&& 31))), (.int u52), (.ref o2355), (.ref o2318), (.ref o2303), (.ref o2290), (.ref o2265), (.ref d)]) (fun _ kz => XS.iconst X2443.here hx rfl (hb hby at_167) kz) ?_
  refine own_g (mkF m 169 #[.val (.int x0), .val (.int x1), .val (.ref o2212), .val (.ref d), .val (.int (1 : Int32)), .val (.ref o2265), .val (.ref o2290), .val (.ref o2303), .val (.ref o2318), .val (.ref o2355), .val (.ref o2396), .val (.int u52), .unset, .unset, .unset, .unset, .unset, .unset, .unset, .unset, .unset] [(.int ((x0 >>> ((4 : Int32) &&& 31)) &&& (3 : Int32))), (.int u52), (.ref o2355), (.ref o2318), (.ref o2303), (.ref o2290), (.ref o2265), (.ref d)]) (fun _ kz => XS.iand X2443.here hx rfl (hb hby at_168) rfl kz) ?_
  obtain ⟨o3', ho3, eo3⟩ := own_mask ((x0 >>> ((4 : Int32) &&& 31))) 3 (by decide)
  rw [show ((x0 >>> ((4 : Int32) &&& 31)) &&& (3 : Int32)) = Int32.ofNat o3' from eo3]
  show own_E p e below _ (T2443.setTop (mkF m 169 #[.val (.int x0), .val (.int x1), .val (.ref o2212), .val (.ref d), .val (.int (1 : Int32)), .val (.ref o2265), .val (.ref o2290), .val (.ref o2303), .val (.ref o2318), .val (.ref o2355), .val (.ref o2396), .val (.int u52), .unset, .unset, .unset, .unset, .unset, .unset, .unset, .unset, .unset] [(.int (Int32.ofNat o3')), (.int u52), (.ref o2355), (.ref o2318), (.ref o2303), (.ref o2290), (.ref o2265), (.ref d)]))
  refine own_callS (rest := []) (as := [(.ref d), (.ref o2265), (.ref o2290), (.ref o2303), (.ref o2318), (.ref o2355), (.int u52), (.int (Int32.ofNat o3'))]) X2443 hx hZ hown e2443 (own_c_app l Z a0 hw o3' ho3 lo d (bb 1) (bb 7) sb fa2 ka2 ma2 ca2 o2265 o2290 o2303 o2318 o2355 (own_set (own_set (fun _ => (0 : Int32)) 0 (0 : Int32)) 1 (1 : Int32)) u12 u22 u32 u42 u52 h2443 n0 s2444 (by omega) f2452 (by omega) lt2294 lt2308 lt2324 lt2362 (by omega) f2447 rfl rfl f2448 f2449 f2450 f2451) (own_w hw 177 rfl) (own_w hw 178 rfl) (own_w hw 179 rfl) (own_w hw 180 rfl) (by decide) own_pd10 rfl (by rw [hml]; rfl) rfl (hb hby at_169) 0 (by show 2 * 0 + _ ≤ _; exact Nat.le_of_eq rfl) (by decide) (by decide) (by decide) (by decide) ?_
  rintro _ T2453 L2453 X2453 ⟨fa3, ka3, ma3, ca3, u13, u23, u33, u43, u53, rfl, Nq2453, KL2453, eqa3, lca3, Da3, Ai3, Ac3, Ar3, Ax3, Ay3⟩
  have N2453 := Fr.app N2443 Nq2453
  have zq2453 : n0 ≤ T2453.heap.size := Nat.le_trans s2444 KL2453.1
  have z2454 : T2220.heap.size ≤ T2453.heap.size := Nat.le_trans z2445 KL2453.1
  have An3 := own_IA.kl A2443 KL2453 (by omega) (by omega)
  have et3 : ((fa3, ka3, ma3, ca3), (u13, u23, u33, u43, u53)) = own_nx o3' ((fa2, ka2, ma2, ca2), (u12, u22, u32, u42, u52)) := eqa3
  show own_E p e below _ (T2453.setTop (mkF m 172 #[.val (.int x0), .val (.int x1), .val (.ref o2212), .val (.ref d), .val (.int (1 : Int32)), .val (.ref o2265), .val (.ref o2290), .val (.ref o2303), .val (.ref o2318), .val (.ref o2355), .val (.ref o2396), .val (.int u52), .unset, .unset, .unset, .unset, .unset, .unset, .unset, .unset, .unset] [(.int u53)]))
  refine own_g (mkF m 174 #[.val (.int x0), .val (.int x1), .val (.ref o2212), .val (.ref d), .val (.int (1 : Int32)), .val (.ref o2265), .val (.ref o2290), .val (.ref o2303), .val (.ref o2318), .val (.ref o2355), .val (.ref o2396), .val (.int u53), .unset, .unset, .unset, .unset, .unset, .unset, .unset, .unset, .unset] []) (fun _ kz => XS.istore X2453.here hx rfl (hb hby at_172) rfl (l' := #[.val (.int x0), .val (.int x1), .val (.ref o2212), .val (.ref d), .val (.int (1 : Int32)), .val (.ref o2265), .val (.ref o2290), .val (.ref o2303), .val (.ref o2318), .val (.ref o2355), .val (.ref o2396), .val (.int u53), .unset, .unset, .unset, .unset, .unset, .unset, .unset, .unset, .unset]) rfl kz) ?_
  refine own_g (mkF m 176 #[.val (.int x0), .val (.int x1), .val (.ref o2212), .val (.ref d), .val (.int (1 : Int32)), .val (.ref o2265), .val (.ref o2290), .val (.ref o2303), .val (.ref o2318), .val (.ref o2355), .val (.ref o2396), .val (.int u53), .unset, .unset, .unset, .unset, .unset, .unset, .unset, .unset, .unset] [(.ref o2396)]) (fun _ kz => XS.aload X2453.here hx rfl (hb hby at_174) rfl rfl kz) ?_
  refine own_g (mkF m 177 #[.val (.int x0), .val (.int x1), .val (.ref o2212), .val (.ref d), .val (.int (1 : Int32)), .val (.ref o2265), .val (.ref o2290), .val (.ref o2303), .val (.ref o2318), .val (.ref o2355), .val (.ref o2396), .val (.int u53), .unset, .unset, .unset, .unset, .unset, .unset, .unset, .unset, .unset] [(.int (3 : Int32)), (.ref o2396)]) (fun _ kz => XS.iconst X2453.here hx rfl (hb hby at_176) kz) ?_
  refine own_g (mkF m 179 #[.val (.int x0), .val (.int x1), .val (.ref o2212), .val (.ref d), .val (.int (1 : Int32)), .val (.ref o2265), .val (.ref o2290), .val (.ref o2303), .val (.ref o2318), .val (.ref o2355), .val (.ref o2396), .val (.int u53), .unset, .unset, .unset, .unset, .unset, .unset, .unset, .unset, .unset] [(.int u53), (.int (3 : Int32)), (.ref o2396)]) (fun _ kz => XS.iload X2453.here hx rfl (hb hby at_177) rfl kz) ?_
  refine own_stI X2453 hx hZ rfl An3 (hb hby at_179) (by decide) (i := 3) rfl (by decide) ?_
  intro T2455 h2455 X2455 e2455 W2455 A2455
  have N2455 := Fr.snoc X2455 N2453 b2405
  have s2456 : n0 ≤ h2455.size := Nat.le_trans zq2453 (Keep.of_wr W2455).1
  have z2457 : T2220.heap.size ≤ h2455.size := Nat.le_trans z2454 (Keep.of_wr W2455).1
  have f2458 := Exa.wr W2455 Da3.1
  have f2459 := Ai3.other W2455 (Nat.ne_of_lt lt2400)
  have f2460 := Ac3.other W2455 (Nat.ne_of_lt lt2401)
  have f2461 := Ar3.other W2455 (Nat.ne_of_lt lt2402)
  have f2462 := Ax3.other W2455 (Nat.ne_of_lt lt2403)
  have f2463 := Ay3.other W2455 (Nat.ne_of_lt lt2404)
  have f2464 := own_D.arr W2455 (by omega) (by omega) Da3
  show own_E p e below _ (T2455.setTop (mkF m 180 #[.val (.int x0), .val (.int x1), .val (.ref o2212), .val (.ref d), .val (.int (1 : Int32)), .val (.ref o2265), .val (.ref o2290), .val (.ref o2303), .val (.ref o2318), .val (.ref o2355), .val (.ref o2396), .val (.int u53), .unset, .unset, .unset, .unset, .unset, .unset, .unset, .unset, .unset] []))
  refine own_g (mkF m 182 #[.val (.int x0), .val (.int x1), .val (.ref o2212), .val (.ref d), .val (.int (1 : Int32)), .val (.ref o2265), .val (.ref o2290), .val (.ref o2303), .val (.ref o2318), .val (.ref o2355), .val (.ref o2396), .val (.int u53), .unset, .unset, .unset, .unset, .unset, .unset, .unset, .unset, .unset] [(.ref o2396)]) (fun _ kz => XS.aload X2455.here hx rfl (hb hby at_180) rfl rfl kz) ?_
  refine own_g (mkF m 183 #[.val (.int x0), .val (.int x1), .val (.ref o2212), .val (.ref d), .val (.int (1 : Int32)), .val (.ref o2265), .val (.ref o2290), .val (.ref o2303), .val (.ref o2318), .val (.ref o2355), .val (.ref o2396), .val (.int u53), .unset, .unset, .unset, .unset, .unset, .unset, .unset, .unset, .unset] [(.int x1), (.ref o2396)]) (fun _ kz => XS.iloadN X2455.here hx rfl (hb hby at_182) rfl kz) ?_
  refine own_g (mkF m 185 #[.val (.int x0), .val (.int x1), .val (.ref o2212), .val (.ref d), .val (.int (1 : Int32)), .val (.ref o2265), .val (.ref o2290), .val (.ref o2303), .val (.ref o2318), .val (.ref o2355), .val (.ref o2396), .val (.int u53), .unset, .unset, .unset, .unset, .unset, .unset, .unset, .unset, .unset] [(.int (2147483647 : Int32)), (.int x1), (.ref o2396)]) (fun _ kz => X2455.ldcInt hx hown (mvT hZ (own_w hw 204 rfl)) (g := (mkF m 183 #[.val (.int x0), .val (.int x1), .val (.ref o2212), .val (.ref d), .val (.int (1 : Int32)), .val (.ref o2265), .val (.ref o2290), .val (.ref o2303), .val (.ref o2318), .val (.ref o2355), .val (.ref o2396), .val (.int u53), .unset, .unset, .unset, .unset, .unset, .unset, .unset, .unset, .unset] [(.int x1), (.ref o2396)])) rfl (hb hby at_183) _ kz) ?_
  refine own_g (mkF m 186 #[.val (.int x0), .val (.int x1), .val (.ref o2212), .val (.ref d), .val (.int (1 : Int32)), .val (.ref o2265), .val (.ref o2290), .val (.ref o2303), .val (.ref o2318), .val (.ref o2355), .val (.ref o2396), .val (.int u53), .unset, .unset, .unset, .unset, .unset, .unset, .unset, .unset, .unset] [(.int (x1 &&& (2147483647 : Int32))), (.ref o2396)]) (fun _ kz => XS.iand X2455.here hx rfl (hb hby at_185) rfl kz) ?_
  refine own_g (mkF m 187 #[.val (.int x0), .val (.int x1), .val (.ref o2212), .val (.ref d), .val (.int (1 : Int32)), .val (.ref o2265), .val (.ref o2290), .val (.ref o2303), .val (.ref o2318), .val (.ref o2355), .val (.ref o2396), .val (.int u53), .unset, .unset, .unset, .unset, .unset, .unset, .unset, .unset, .unset] [(.int (4 : Int32)), (.int (x1 &&& (2147483647 : Int32))), (.ref o2396)]) (fun _ kz => XS.iconst X2455.here hx rfl (hb hby at_186) kz) ?_
  refine own_g (mkF m 188 #[.val (.int x0), .val (.int x1), .val (.ref o2212), .val (.ref d), .val (.int (1 : Int32)), .val (.ref o2265), .val (.ref o2290), .val (.ref o2303), .val (.ref o2318), .val (.ref o2355), .val (.ref o2396), .val (.int u53), .unset, .unset, .unset, .unset, .unset, .unset, .unset, .unset, .unset] [(.int ((x1 &&& (2147483647 : Int32)) % (4 : Int32))), (.ref o2396)]) (fun _ kz => iremM X2455 hx rfl (hb hby at_187) rfl (by decide) kz) ?_
  obtain ⟨kq, hkq, ekq⟩ := own_off x1
  rw [ekq]
  show own_E p e below _ (T2455.setTop (mkF m 188 #[.val (.int x0), .val (.int x1), .val (.ref o2212), .val (.ref d), .val (.int (1 : Int32)), .val (.ref o2265), .val (.ref o2290), .val (.ref o2303), .val (.ref o2318), .val (.ref o2355), .val (.ref o2396), .val (.int u53), .unset, .unset, .unset, .unset, .unset, .unset, .unset, .unset, .unset] [(.int (Int32.ofNat kq)), (.ref o2396)]))
  obtain ⟨mv, hmv⟩ : ∃ z, (own_set (own_set (own_set (own_set (fun _ => (0 : Int32)) 0 (0 : Int32)) 1 u51) 2 u52) 3 u53) kq = z := ⟨_, rfl⟩
  refine own_ildI X2455 hx hZ e2455 A2455 (hb hby at_188) (own_nn (by omega)).1 (i := kq) (own_nn (by omega)).2 (by omega) (x := mv) hmv ?_
  show own_E p e below _ (T2455.setTop (mkF m 189 #[.val (.int x0), .val (.int x1), .val (.ref o2212), .val (.ref d), .val (.int (1 : Int32)), .val (.ref o2265), .val (.ref o2290), .val (.ref o2303), .val (.ref o2318), .val (.ref o2355), .val (.ref o2396), .val (.int u53), .unset, .unset, .unset, .unset, .unset, .unset, .unset, .unset, .unset] [(.int mv)]))
  refine own_g (mkF m 191 #[.val (.int x0), .val (.int x1), .val (.ref o2212), .val (.ref d), .val (.int (1 : Int32)), .val (.ref o2265), .val (.ref o2290), .val (.ref o2303), .val (.ref o2318), .val (.ref o2355), .val (.ref o2396), .val (.int u53), .val (.int mv), .unset, .unset, .unset, .unset, .unset, .unset, .unset, .unset] []) (fun _ kz => XS.istore X2455.here hx rfl (hb hby at_189) rfl (l' := #[.val (.int x0), .val (.int x1), .val (.ref o2212), .val (.ref d), .val (.int (1 : Int32)), .val (.ref o2265), .val (.ref o2290), .val (.ref o2303), .val (.ref o2318), .val (.ref o2355), .val (.ref o2396), .val (.int u53), .val (.int mv), .unset, .unset, .unset, .unset, .unset, .unset, .unset, .unset]) rfl kz) ?_
  refine own_g (mkF m 192 #[.val (.int x0), .val (.int x1), .val (.ref o2212), .val (.ref d), .val (.int (1 : Int32)), .val (.ref o2265), .val (.ref o2290), .val (.ref o2303), .val (.ref o2318), .val (.ref o2355), .val (.ref o2396), .val (.int u53), .val (.int mv), .unset, .unset, .unset, .unset, .unset, .unset, .unset, .unset] [(.int x0)]) (fun _ kz => XS.iloadN X2455.here hx rfl (hb hby at_191) rfl kz) ?_
  refine own_g (mkF m 194 #[.val (.int x0), .val (.int x1), .val (.ref o2212), .val (.ref d), .val (.int (1 : Int32)), .val (.ref o2265), .val (.ref o2290), .val (.ref o2303), .val (.ref o2318), .val (.ref o2355), .val (.ref o2396), .val (.int u53), .val (.int mv), .unset, .unset, .unset, .unset, .unset, .unset, .unset, .unset] [(.int (6 : Int32)), (.int x0)]) (fun _ kz => XS.bipush X2455.here hx rfl (hb hby at_192) kz) ?_
  refine own_g (mkF m 195 #[.val (.int x0), .val (.int x1), .val (.ref o2212), .val (.ref d), .val (.int (1 : Int32)), .val (.ref o2265), .val (.ref o2290), .val (.ref o2303), .val (.ref o2318), .val (.ref o2355), .val (.ref o2396), .val (.int u53), .val (.int mv), .unset, .unset, .unset, .unset, .unset, .unset, .unset, .unset] [(.int (x0 >>> ((6 : Int32) &&& 31)))]) (fun _ kz => XS.ishr X2455.here hx rfl (hb hby at_194) rfl kz) ?_
  refine own_g (mkF m 196 #[.val (.int x0), .val (.int x1), .val (.ref o2212), .val (.ref d), .val (.int (1 : Int32)), .val (.ref o2265), .val (.ref o2290), .val (.ref o2303), .val (.ref o2318), .val (.ref o2355), .val (.ref o2396), .val (.int u53), .val (.int mv), .unset, .unset, .unset, .unset, .unset, .unset, .unset, .unset] [(.int (1 : Int32)), (.int (x0 >>> ((6 : Int32) &&& 31)))]) (fun _ kz => XS.iconst X2455.here hx rfl (hb hby at_195) kz) ?_
  refine own_g (mkF m 197 #[.val (.int x0), .val (.int x1), .val (.ref o2212), .val (.ref d), .val (.int (1 : Int32)), .val (.ref o2265), .val (.ref o2290), .val (.ref o2303), .val (.ref o2318), .val (.ref o2355), .val (.ref o2396), .val (.int u53), .val (.int mv), .unset, .unset, .unset, .unset, .unset, .unset, .unset, .unset] [(.int ((x0 >>> ((6 : Int32) &&& 31)) &&& (1 : Int32)))]) (fun _ kz => XS.iand X2455.here hx rfl (hb hby at_196) rfl kz) ?_
  obtain ⟨qq, hqq, eqq⟩ := own_mask ((x0 >>> ((6 : Int32) &&& 31))) 1 (by decide)
  rw [show ((x0 >>> ((6 : Int32) &&& 31)) &&& (1 : Int32)) = Int32.ofNat qq from eqq]
  show own_E p e below _ (T2455.setTop (mkF m 197 #[.val (.int x0), .val (.int x1), .val (.ref o2212), .val (.ref d), .val (.int (1 : Int32)), .val (.ref o2265), .val (.ref o2290), .val (.ref o2303), .val (.ref o2318), .val (.ref o2355), .val (.ref o2396), .val (.int u53), .val (.int mv), .unset, .unset, .unset, .unset, .unset, .unset, .unset, .unset] [(.int (Int32.ofNat qq))]))
  refine own_g (mkF m 199 #[.val (.int x0), .val (.int x1), .val (.ref o2212), .val (.ref d), .val (.int (1 : Int32)), .val (.ref o2265), .val (.ref o2290), .val (.ref o2303), .val (.ref o2318), .val (.ref o2355), .val (.ref o2396), .val (.int u53), .val (.int mv), .val (.int (Int32.ofNat qq)), .unset, .unset, .unset, .unset, .unset, .unset, .unset] []) (fun _ kz => XS.istore X2455.here hx rfl (hb hby at_197) rfl (l' := #[.val (.int x0), .val (.int x1), .val (.ref o2212), .val (.ref d), .val (.int (1 : Int32)), .val (.ref o2265), .val (.ref o2290), .val (.ref o2303), .val (.ref o2318), .val (.ref o2355), .val (.ref o2396), .val (.int u53), .val (.int mv), .val (.int (Int32.ofNat qq)), .unset, .unset, .unset, .unset, .unset, .unset, .unset]) rfl kz) ?_
  refine own_g (mkF m 201 #[.val (.int x0), .val (.int x1), .val (.ref o2212), .val (.ref d), .val (.int (1 : Int32)), .val (.ref o2265), .val (.ref o2290), .val (.ref o2303), .val (.ref o2318), .val (.ref o2355), .val (.ref o2396), .val (.int u53), .val (.int mv), .val (.int (Int32.ofNat qq)), .unset, .unset, .unset, .unset, .unset, .unset, .unset] [(.ref o2318)]) (fun _ kz => XS.aload X2455.here hx rfl (hb hby at_199) rfl rfl kz) ?_
  refine own_g (mkF m 203 #[.val (.int x0), .val (.int x1), .val (.ref o2212), .val (.ref d), .val (.int (1 : Int32)), .val (.ref o2265), .val (.ref o2290), .val (.ref o2303), .val (.ref o2318), .val (.ref o2355), .val (.ref o2396), .val (.int u53), .val (.int mv), .val (.int (Int32.ofNat qq)), .unset, .unset, .unset, .unset, .unset, .unset, .unset] [(.int (Int32.ofNat qq)), (.ref o2318)]) (fun _ kz => XS.iload X2455.here hx rfl (hb hby at_201) rfl kz) ?_
  refine own_ildI X2455 hx hZ e2455 f2462 (hb hby at_203) (own_nn (by omega)).1 (i := qq) (own_nn (by omega)).2 (by omega) (x := (u33 qq)) rfl ?_
  show own_E p e below _ (T2455.setTop (mkF m 204 #[.val (.int x0), .val (.int x1), .val (.ref o2212), .val (.ref d), .val (.int (1 : Int32)), .val (.ref o2265), .val (.ref o2290), .val (.ref o2303), .val (.ref o2318), .val (.ref o2355), .val (.ref o2396), .val (.int u53), .val (.int mv), .val (.int (Int32.ofNat qq)), .unset, .unset, .unset, .unset, .unset, .unset, .unset] [(.int (u33 qq))]))
  have hall := own_all_good ⟨o1', by omega⟩ ⟨o2', by omega⟩ ⟨o3', by omega⟩ ⟨kq, by omega⟩ ⟨qq, by omega⟩
  simp only [own_good, ← et1, ← et2, ← et3, Bool.and_eq_true, decide_eq_true_eq] at hall
  have hcn : own_cnts ((fa1, ka1, ma1, ca1), (u11, u21, u31, u41, u51)) ((fa2, ka2, ma2, ca2), (u12, u22, u32, u42, u52)) ((fa3, ka3, ma3, ca3), (u13, u23, u33, u43, u53)) kq = mv := hmv
  rw [hcn] at hall
  obtain ⟨⟨⟨⟨⟨⟨⟨⟨⟨G1, G2⟩, G3⟩, Gm⟩, Gmc⟩, G4⟩, G4c⟩, G5c⟩, G5⟩, G6⟩ := hall
  have rest : ∀ e14 e15 : Int32, e14 = own_ahead (u33 qq) mv → e15 = own_ahead (u43 qq) mv → own_E p e below (own_PW (fun v h L => v = some (.int 1) ∧ Fr n0 L) s room_1.cells room_1.slots) (T2455.setTop (mkF m 249 #[.val (.int x0), .val (.int x1), .val (.ref o2212), .val (.ref d), .val (.int (1 : Int32)), .val (.ref o2265), .val (.ref o2290), .val (.ref o2303), .val (.ref o2318), .val (.ref o2355), .val (.ref o2396), .val (.int u53), .val (.int mv), .val (.int (Int32.ofNat qq)), .val (.int e14), .val (.int e15), .unset, .unset, .unset, .unset, .unset] [])) := by
    intro e14 e15 q14 q15
    match qq, hqq with
    | 0, _ =>
      show own_E p e below _ (T2455.setTop (mkF m 249 #[.val (.int x0), .val (.int x1), .val (.ref o2212), .val (.ref d), .val (.int (1 : Int32)), .val (.ref o2265), .val (.ref o2290), .val (.ref o2303), .val (.ref o2318), .val (.ref o2355), .val (.ref o2396), .val (.int u53), .val (.int mv), .val (.int (0 : Int32)), .val (.int e14), .val (.int e15), .unset, .unset, .unset, .unset, .unset] []))
      refine own_g (mkF m 250 #[.val (.int x0), .val (.int x1), .val (.ref o2212), .val (.ref d), .val (.int (1 : Int32)), .val (.ref o2265), .val (.ref o2290), .val (.ref o2303), .val (.ref o2318), .val (.ref o2355), .val (.ref o2396), .val (.int u53), .val (.int mv), .val (.int (0 : Int32)), .val (.int e14), .val (.int e15), .unset, .unset, .unset, .unset, .unset] [(.ref d)]) (fun _ kz => XS.aloadN X2455.here hx rfl (hb hby at_249) rfl rfl kz) ?_
      refine own_g (mkF m 252 #[.val (.int x0), .val (.int x1), .val (.ref o2212), .val (.ref d), .val (.int (1 : Int32)), .val (.ref o2265), .val (.ref o2290), .val (.ref o2303), .val (.ref o2318), .val (.ref o2355), .val (.ref o2396), .val (.int u53), .val (.int mv), .val (.int (0 : Int32)), .val (.int e14), .val (.int e15), .unset, .unset, .unset, .unset, .unset] [(.int mv), (.ref d)]) (fun _ kz => XS.iload X2455.here hx rfl (hb hby at_250) rfl kz) ?_
      have em : mv = Int32.ofNat mv.toNatClampNeg := Gm.symm
      obtain ⟨mm, hmm⟩ : ∃ z, z = mv.toNatClampNeg := ⟨_, rfl⟩
      rw [← hmm] at em Gmc
      rw [em]
      show own_E p e below _ (T2455.setTop (mkF m 252 #[.val (.int x0), .val (.int x1), .val (.ref o2212), .val (.ref d), .val (.int (1 : Int32)), .val (.ref o2265), .val (.ref o2290), .val (.ref o2303), .val (.ref o2318), .val (.ref o2355), .val (.ref o2396), .val (.int u53), .val (.int (Int32.ofNat mm)), .val (.int (0 : Int32)), .val (.int e14), .val (.int e15), .unset, .unset, .unset, .unset, .unset] [(.int (Int32.ofNat mm)), (.ref d)]))
      refine own_callV (rest := []) (a := d) (as := [(.int (Int32.ofNat mm))]) X2455 hx hZ hown e2455 (own_c_unm l Z a0 hw lo d (bb 1) (bb 7) sb fa3 ka3 ma3 ca3 mm h2455 n0 s2456 Gmc (by omega) f2464) f2458 (own_w hw 205 rfl) (own_w hw 206 rfl) (own_w hw 208 rfl) (own_w hw 207 rfl) (own_w hw 14 rfl) (own_w hw 209 rfl) (by decide) own_pd5 rfl (by rw [hml]; rfl) rfl (hb hby at_252) 0 (by show 2 * 0 + _ ≤ _; exact Nat.le_of_eq rfl) (by decide) (by decide) (by decide) (by decide) ?_
      rintro _ T2465 L2465 X2465 ⟨rfl, Nq2465, KL2465, f2465', k2465', m2465', c2465', eq2465, D2465⟩
      have N2465 := Fr.app N2455 Nq2465
      have zq2465 : n0 ≤ T2465.heap.size := Nat.le_trans s2456 KL2465.1
      have z2466 : T2220.heap.size ≤ T2465.heap.size := Nat.le_trans z2457 KL2465.1
      have Ai4 := own_IA.kl f2459 KL2465 (by omega) (by omega)
      show own_E p e below _ (T2465.setTop (mkF m 255 #[.val (.int x0), .val (.int x1), .val (.ref o2212), .val (.ref d), .val (.int (1 : Int32)), .val (.ref o2265), .val (.ref o2290), .val (.ref o2303), .val (.ref o2318), .val (.ref o2355), .val (.ref o2396), .val (.int u53), .val (.int (Int32.ofNat mm)), .val (.int (0 : Int32)), .val (.int e14), .val (.int e15), .unset, .unset, .unset, .unset, .unset] []))
      have es4 : (f2465', k2465', m2465', c2465') = own_un (ca3 - mv.toNatClampNeg) (fa3, ka3, ma3, ca3) := by rw [← hmm]; exact eq2465
      simp only [← es4] at G4 G4c G5c G5 G6
      refine own_g (mkF m 256 #[.val (.int x0), .val (.int x1), .val (.ref o2212), .val (.ref d), .val (.int (1 : Int32)), .val (.ref o2265), .val (.ref o2290), .val (.ref o2303), .val (.ref o2318), .val (.ref o2355), .val (.ref o2396), .val (.int u53), .val (.int (Int32.ofNat mm)), .val (.int (0 : Int32)), .val (.int e14), .val (.int e15), .unset, .unset, .unset, .unset, .unset] [(.ref d)]) (fun _ kz => XS.aloadN X2465.here hx rfl (hb hby at_255) rfl rfl kz) ?_
      refine own_callV (rest := []) (a := d) (as := []) X2465 hx hZ hown rfl (own_c_chm l Z a0 hw lo d (bb 1) (bb 7) sb f2465' k2465' m2465' c2465' T2465.heap n0 zq2465 D2465) D2465.1 (own_w hw 210 rfl) (own_w hw 211 rfl) (own_w hw 213 rfl) (own_w hw 212 rfl) (own_w hw 14 rfl) (own_w hw 214 rfl) (by decide) own_pd11 rfl (by rw [hml]; rfl) rfl (hb hby at_256) 0 (by show 2 * 0 + _ ≤ _; exact Nat.le_of_eq rfl) (by decide) (by decide) (by decide) (by decide) ?_
      rintro _ T2467 L2467 X2467 ⟨rfl, rfl, e2467⟩
      have N2467 := Fr.app N2465 (Fr.nil n0)
      show own_E p e below _ (T2467.setTop (mkF m 259 #[.val (.int x0), .val (.int x1), .val (.ref o2212), .val (.ref d), .val (.int (1 : Int32)), .val (.ref o2265), .val (.ref o2290), .val (.ref o2303), .val (.ref o2318), .val (.ref o2355), .val (.ref o2396), .val (.int u53), .val (.int (Int32.ofNat mm)), .val (.int (0 : Int32)), .val (.int e14), .val (.int e15), .unset, .unset, .unset, .unset, .unset] [(.int (Int32.ofNat c2465'))]))
      refine own_g (mkF m 261 #[.val (.int x0), .val (.int x1), .val (.ref o2212), .val (.ref d), .val (.int (1 : Int32)), .val (.ref o2265), .val (.ref o2290), .val (.ref o2303), .val (.ref o2318), .val (.ref o2355), .val (.ref o2396), .val (.int u53), .val (.int (Int32.ofNat mm)), .val (.int (0 : Int32)), .val (.int e14), .val (.int e15), .unset, .unset, .unset, .unset, .unset] [(.int (Int32.ofNat mm)), (.int (Int32.ofNat c2465'))]) (fun _ kz => XS.iload X2467.here hx rfl (hb hby at_259) rfl kz) ?_
      refine own_g (mkF m 264 #[.val (.int x0), .val (.int x1), .val (.ref o2212), .val (.ref d), .val (.int (1 : Int32)), .val (.ref o2265), .val (.ref o2290), .val (.ref o2303), .val (.ref o2318), .val (.ref o2355), .val (.ref o2396), .val (.int u53), .val (.int (Int32.ofNat mm)), .val (.int (0 : Int32)), .val (.int e14), .val (.int e15), .unset, .unset, .unset, .unset, .unset] []) (fun _ kz => XS.icmpNo X2467.here hx rfl (hb hby at_261) rfl (teq (by rw [← em]; exact G4)).2 kz) ?_
      refine own_g (mkF m 265 #[.val (.int x0), .val (.int x1), .val (.ref o2212), .val (.ref d), .val (.int (1 : Int32)), .val (.ref o2265), .val (.ref o2290), .val (.ref o2303), .val (.ref o2318), .val (.ref o2355), .val (.ref o2396), .val (.int u53), .val (.int (Int32.ofNat mm)), .val (.int (0 : Int32)), .val (.int e14), .val (.int e15), .unset, .unset, .unset, .unset, .unset] [(.int (1 : Int32))]) (fun _ kz => XS.iconst X2467.here hx rfl (hb hby at_264) kz) ?_
      refine own_g (mkF m 269 #[.val (.int x0), .val (.int x1), .val (.ref o2212), .val (.ref d), .val (.int (1 : Int32)), .val (.ref o2265), .val (.ref o2290), .val (.ref o2303), .val (.ref o2318), .val (.ref o2355), .val (.ref o2396), .val (.int u53), .val (.int (Int32.ofNat mm)), .val (.int (0 : Int32)), .val (.int e14), .val (.int e15), .unset, .unset, .unset, .unset, .unset] [(.int (1 : Int32))]) (fun _ kz => XS.goto X2467.here hx rfl (pc0 := 265) (pc' := 269) rfl (hb hby at_265) (by decide) (by decide) kz) ?_
      refine own_g (mkF m 271 #[.val (.int x0), .val (.int x1), .val (.ref o2212), .val (.ref d), .val (.int (1 : Int32)), .val (.ref o2265), .val (.ref o2290), .val (.ref o2303), .val (.ref o2318), .val (.ref o2355), .val (.ref o2396), .val (.int u53), .val (.int (Int32.ofNat mm)), .val (.int (0 : Int32)), .val (.int e14), .val (.int e15), .val (.int (1 : Int32)), .unset, .unset, .unset, .unset] []) (fun _ kz => XS.istore X2467.here hx rfl (hb hby at_269) rfl (l' := #[.val (.int x0), .val (.int x1), .val (.ref o2212), .val (.ref d), .val (.int (1 : Int32)), .val (.ref o2265), .val (.ref o2290), .val (.ref o2303), .val (.ref o2318), .val (.ref o2355), .val (.ref o2396), .val (.int u53), .val (.int (Int32.ofNat mm)), .val (.int (0 : Int32)), .val (.int e14), .val (.int e15), .val (.int (1 : Int32)), .unset, .unset, .unset, .unset]) rfl kz) ?_
      refine own_g (mkF m 272 #[.val (.int x0), .val (.int x1), .val (.ref o2212), .val (.ref d), .val (.int (1 : Int32)), .val (.ref o2265), .val (.ref o2290), .val (.ref o2303), .val (.ref o2318), .val (.ref o2355), .val (.ref o2396), .val (.int u53), .val (.int (Int32.ofNat mm)), .val (.int (0 : Int32)), .val (.int e14), .val (.int e15), .val (.int (1 : Int32)), .unset, .unset, .unset, .unset] [(.ref d)]) (fun _ kz => XS.aloadN X2467.here hx rfl (hb hby at_271) rfl rfl kz) ?_
      refine own_g (mkF m 274 #[.val (.int x0), .val (.int x1), .val (.ref o2212), .val (.ref d), .val (.int (1 : Int32)), .val (.ref o2265), .val (.ref o2290), .val (.ref o2303), .val (.ref o2318), .val (.ref o2355), .val (.ref o2396), .val (.int u53), .val (.int (Int32.ofNat mm)), .val (.int (0 : Int32)), .val (.int e14), .val (.int e15), .val (.int (1 : Int32)), .unset, .unset, .unset, .unset] [(.ref o2265), (.ref d)]) (fun _ kz => XS.aload X2467.here hx rfl (hb hby at_272) rfl rfl kz) ?_
      refine own_g (mkF m 276 #[.val (.int x0), .val (.int x1), .val (.ref o2212), .val (.ref d), .val (.int (1 : Int32)), .val (.ref o2265), .val (.ref o2290), .val (.ref o2303), .val (.ref o2318), .val (.ref o2355), .val (.ref o2396), .val (.int u53), .val (.int (Int32.ofNat mm)), .val (.int (0 : Int32)), .val (.int e14), .val (.int e15), .val (.int (1 : Int32)), .unset, .unset, .unset, .unset] [(.int (0 : Int32)), (.ref o2265), (.ref d)]) (fun _ kz => XS.iload X2467.here hx rfl (hb hby at_274) rfl kz) ?_
      refine own_ildI X2467 hx hZ e2467 Ai4 (hb hby at_276) (by decide) (i := 0) rfl (by decide) (x := (0 : Int32)) rfl ?_
      show own_E p e below _ (T2467.setTop (mkF m 277 #[.val (.int x0), .val (.int x1), .val (.ref o2212), .val (.ref d), .val (.int (1 : Int32)), .val (.ref o2265), .val (.ref o2290), .val (.ref o2303), .val (.ref o2318), .val (.ref o2355), .val (.ref o2396), .val (.int u53), .val (.int (Int32.ofNat mm)), .val (.int (0 : Int32)), .val (.int e14), .val (.int e15), .val (.int (1 : Int32)), .unset, .unset, .unset, .unset] [(.int (0 : Int32)), (.ref d)]))
      refine own_callV (rest := []) (a := d) (as := [(.int (0 : Int32))]) X2467 hx hZ hown e2467 (own_c_chg0 l Z a0 hw lo d (bb 1) (bb 7) sb f2465' k2465' m2465' c2465' T2465.heap n0 zq2465 (by omega) D2465) D2465.1 (own_w hw 181 rfl) (own_w hw 182 rfl) (own_w hw 184 rfl) (own_w hw 183 rfl) (own_w hw 14 rfl) (own_w hw 185 rfl) (by decide) own_pd5 rfl (by rw [hml]; rfl) rfl (hb hby at_277) 0 (by show 2 * 0 + _ ≤ _; exact Nat.le_of_eq rfl) (by decide) (by decide) (by decide) (by decide) ?_
      rintro _ T2468 L2468 X2468 ⟨rfl, Nq2468, KL2468, f2468', k2468', m2468', c2468', eq2468, lc2468, D2468⟩
      have N2468 := Fr.app N2467 Nq2468
      have zq2468 : n0 ≤ T2468.heap.size := Nat.le_trans zq2465 KL2468.1
      have z2469 : T2220.heap.size ≤ T2468.heap.size := Nat.le_trans z2466 KL2468.1
      have Ai5 := own_IA.kl Ai4 KL2468 (by omega) (by omega)
      show own_E p e below _ (T2468.setTop (mkF m 280 #[.val (.int x0), .val (.int x1), .val (.ref o2212), .val (.ref d), .val (.int (1 : Int32)), .val (.ref o2265), .val (.ref o2290), .val (.ref o2303), .val (.ref o2318), .val (.ref o2355), .val (.ref o2396), .val (.int u53), .val (.int (Int32.ofNat mm)), .val (.int (0 : Int32)), .val (.int e14), .val (.int e15), .val (.int (1 : Int32)), .unset, .unset, .unset, .unset] []))
      simp only [← eq2468] at G5c G5 G6
      refine own_g (mkF m 281 #[.val (.int x0), .val (.int x1), .val (.ref o2212), .val (.ref d), .val (.int (1 : Int32)), .val (.ref o2265), .val (.ref o2290), .val (.ref o2303), .val (.ref o2318), .val (.ref o2355), .val (.ref o2396), .val (.int u53), .val (.int (Int32.ofNat mm)), .val (.int (0 : Int32)), .val (.int e14), .val (.int e15), .val (.int (1 : Int32)), .unset, .unset, .unset, .unset] [(.ref d)]) (fun _ kz => XS.aloadN X2468.here hx rfl (hb hby at_280) rfl rfl kz) ?_
      refine own_callV (rest := []) (a := d) (as := []) X2468 hx hZ hown rfl (own_c_chm l Z a0 hw lo d (bb 1) (bb 7) sb f2468' k2468' m2468' c2468' T2468.heap n0 zq2468 D2468) D2468.1 (own_w hw 210 rfl) (own_w hw 211 rfl) (own_w hw 213 rfl) (own_w hw 212 rfl) (own_w hw 14 rfl) (own_w hw 214 rfl) (by decide) own_pd11 rfl (by rw [hml]; rfl) rfl (hb hby at_281) 0 (by show 2 * 0 + _ ≤ _; exact Nat.le_of_eq rfl) (by decide) (by decide) (by decide) (by decide) ?_
      rintro _ T2470 L2470 X2470 ⟨rfl, rfl, e2470⟩
      have N2470 := Fr.app N2468 (Fr.nil n0)
      show own_E p e below _ (T2470.setTop (mkF m 284 #[.val (.int x0), .val (.int x1), .val (.ref o2212), .val (.ref d), .val (.int (1 : Int32)), .val (.ref o2265), .val (.ref o2290), .val (.ref o2303), .val (.ref o2318), .val (.ref o2355), .val (.ref o2396), .val (.int u53), .val (.int (Int32.ofNat mm)), .val (.int (0 : Int32)), .val (.int e14), .val (.int e15), .val (.int (1 : Int32)), .unset, .unset, .unset, .unset] [(.int (Int32.ofNat c2468'))]))
      refine own_g (mkF m 286 #[.val (.int x0), .val (.int x1), .val (.ref o2212), .val (.ref d), .val (.int (1 : Int32)), .val (.ref o2265), .val (.ref o2290), .val (.ref o2303), .val (.ref o2318), .val (.ref o2355), .val (.ref o2396), .val (.int u53), .val (.int (Int32.ofNat mm)), .val (.int (0 : Int32)), .val (.int e14), .val (.int e15), .val (.int (1 : Int32)), .val (.int (Int32.ofNat c2468')), .unset, .unset, .unset] []) (fun _ kz => XS.istore X2470.here hx rfl (hb hby at_284) rfl (l' := #[.val (.int x0), .val (.int x1), .val (.ref o2212), .val (.ref d), .val (.int (1 : Int32)), .val (.ref o2265), .val (.ref o2290), .val (.ref o2303), .val (.ref o2318), .val (.ref o2355), .val (.ref o2396), .val (.int u53), .val (.int (Int32.ofNat mm)), .val (.int (0 : Int32)), .val (.int e14), .val (.int e15), .val (.int (1 : Int32)), .val (.int (Int32.ofNat c2468')), .unset, .unset, .unset]) rfl kz) ?_
      refine own_g (mkF m 287 #[.val (.int x0), .val (.int x1), .val (.ref o2212), .val (.ref d), .val (.int (1 : Int32)), .val (.ref o2265), .val (.ref o2290), .val (.ref o2303), .val (.ref o2318), .val (.ref o2355), .val (.ref o2396), .val (.int u53), .val (.int (Int32.ofNat mm)), .val (.int (0 : Int32)), .val (.int e14), .val (.int e15), .val (.int (1 : Int32)), .val (.int (Int32.ofNat c2468')), .unset, .unset, .unset] [(.ref d)]) (fun _ kz => XS.aloadN X2470.here hx rfl (hb hby at_286) rfl rfl kz) ?_
      refine own_g (mkF m 289 #[.val (.int x0), .val (.int x1), .val (.ref o2212), .val (.ref d), .val (.int (1 : Int32)), .val (.ref o2265), .val (.ref o2290), .val (.ref o2303), .val (.ref o2318), .val (.ref o2355), .val (.ref o2396), .val (.int u53), .val (.int (Int32.ofNat mm)), .val (.int (0 : Int32)), .val (.int e14), .val (.int e15), .val (.int (1 : Int32)), .val (.int (Int32.ofNat c2468')), .unset, .unset, .unset] [(.ref o2265), (.ref d)]) (fun _ kz => XS.aload X2470.here hx rfl (hb hby at_287) rfl rfl kz) ?_
      refine own_g (mkF m 291 #[.val (.int x0), .val (.int x1), .val (.ref o2212), .val (.ref d), .val (.int (1 : Int32)), .val (.ref o2265), .val (.ref o2290), .val (.ref o2303), .val (.ref o2318), .val (.ref o2355), .val (.ref o2396), .val (.int u53), .val (.int (Int32.ofNat mm)), .val (.int (0 : Int32)), .val (.int e14), .val (.int e15), .val (.int (1 : Int32)), .val (.int (Int32.ofNat c2468')), .unset, .unset, .unset] [(.int (0 : Int32)), (.ref o2265), (.ref d)]) (fun _ kz => XS.iload X2470.here hx rfl (hb hby at_289) rfl kz) ?_
      refine own_ildI X2470 hx hZ e2470 Ai5 (hb hby at_291) (by decide) (i := 0) rfl (by decide) (x := (0 : Int32)) rfl ?_
      show own_E p e below _ (T2470.setTop (mkF m 292 #[.val (.int x0), .val (.int x1), .val (.ref o2212), .val (.ref d), .val (.int (1 : Int32)), .val (.ref o2265), .val (.ref o2290), .val (.ref o2303), .val (.ref o2318), .val (.ref o2355), .val (.ref o2396), .val (.int u53), .val (.int (Int32.ofNat mm)), .val (.int (0 : Int32)), .val (.int e14), .val (.int e15), .val (.int (1 : Int32)), .val (.int (Int32.ofNat c2468')), .unset, .unset, .unset] [(.int (0 : Int32)), (.ref d)]))
      refine own_callV (rest := []) (a := d) (as := [(.int (0 : Int32))]) X2470 hx hZ hown e2470 (own_c_ret0 l Z a0 hw lo d (bb 1) (bb 7) sb f2468' k2468' m2468' c2468' T2468.heap n0 zq2468 (by omega) D2468) D2468.1 (own_w hw 215 rfl) (own_w hw 216 rfl) (own_w hw 218 rfl) (own_w hw 217 rfl) (own_w hw 14 rfl) (own_w hw 219 rfl) (by decide) own_pd5 rfl (by rw [hml]; rfl) rfl (hb hby at_292) 0 (by show 2 * 0 + _ ≤ _; exact Nat.le_of_eq rfl) (by decide) (by decide) (by decide) (by decide) ?_
      rintro _ T2471 L2471 X2471 ⟨rfl, Nq2471, KL2471, f2471', k2471', m2471', c2471', eq2471, lc2471, D2471⟩
      have N2471 := Fr.app N2470 Nq2471
      have zq2471 : n0 ≤ T2471.heap.size := Nat.le_trans zq2468 KL2471.1
      have z2472 : T2220.heap.size ≤ T2471.heap.size := Nat.le_trans z2469 KL2471.1
      have Ai6 := own_IA.kl Ai5 KL2471 (by omega) (by omega)
      show own_E p e below _ (T2471.setTop (mkF m 295 #[.val (.int x0), .val (.int x1), .val (.ref o2212), .val (.ref d), .val (.int (1 : Int32)), .val (.ref o2265), .val (.ref o2290), .val (.ref o2303), .val (.ref o2318), .val (.ref o2355), .val (.ref o2396), .val (.int u53), .val (.int (Int32.ofNat mm)), .val (.int (0 : Int32)), .val (.int e14), .val (.int e15), .val (.int (1 : Int32)), .val (.int (Int32.ofNat c2468')), .unset, .unset, .unset] []))
      simp only [← eq2471] at G6
      refine own_g (mkF m 296 #[.val (.int x0), .val (.int x1), .val (.ref o2212), .val (.ref d), .val (.int (1 : Int32)), .val (.ref o2265), .val (.ref o2290), .val (.ref o2303), .val (.ref o2318), .val (.ref o2355), .val (.ref o2396), .val (.int u53), .val (.int (Int32.ofNat mm)), .val (.int (0 : Int32)), .val (.int e14), .val (.int e15), .val (.int (1 : Int32)), .val (.int (Int32.ofNat c2468')), .unset, .unset, .unset] [(.ref d)]) (fun _ kz => XS.aloadN X2471.here hx rfl (hb hby at_295) rfl rfl kz) ?_
      refine own_callV (rest := []) (a := d) (as := []) X2471 hx hZ hown rfl (own_c_chm l Z a0 hw lo d (bb 1) (bb 7) sb f2471' k2471' m2471' c2471' T2471.heap n0 zq2471 D2471) D2471.1 (own_w hw 210 rfl) (own_w hw 211 rfl) (own_w hw 213 rfl) (own_w hw 212 rfl) (own_w hw 14 rfl) (own_w hw 214 rfl) (by decide) own_pd11 rfl (by rw [hml]; rfl) rfl (hb hby at_296) 0 (by show 2 * 0 + _ ≤ _; exact Nat.le_of_eq rfl) (by decide) (by decide) (by decide) (by decide) ?_
      rintro _ T2473 L2473 X2473 ⟨rfl, rfl, e2473⟩
      have N2473 := Fr.app N2471 (Fr.nil n0)
      show own_E p e below _ (T2473.setTop (mkF m 299 #[.val (.int x0), .val (.int x1), .val (.ref o2212), .val (.ref d), .val (.int (1 : Int32)), .val (.ref o2265), .val (.ref o2290), .val (.ref o2303), .val (.ref o2318), .val (.ref o2355), .val (.ref o2396), .val (.int u53), .val (.int (Int32.ofNat mm)), .val (.int (0 : Int32)), .val (.int e14), .val (.int e15), .val (.int (1 : Int32)), .val (.int (Int32.ofNat c2468')), .unset, .unset, .unset] [(.int (Int32.ofNat c2471'))]))
      refine own_g (mkF m 301 #[.val (.int x0), .val (.int x1), .val (.ref o2212), .val (.ref d), .val (.int (1 : Int32)), .val (.ref o2265), .val (.ref o2290), .val (.ref o2303), .val (.ref o2318), .val (.ref o2355), .val (.ref o2396), .val (.int u53), .val (.int (Int32.ofNat mm)), .val (.int (0 : Int32)), .val (.int e14), .val (.int e15), .val (.int (1 : Int32)), .val (.int (Int32.ofNat c2468')), .val (.int (Int32.ofNat c2471')), .unset, .unset] []) (fun _ kz => XS.istore X2473.here hx rfl (hb hby at_299) rfl (l' := #[.val (.int x0), .val (.int x1), .val (.ref o2212), .val (.ref d), .val (.int (1 : Int32)), .val (.ref o2265), .val (.ref o2290), .val (.ref o2303), .val (.ref o2318), .val (.ref o2355), .val (.ref o2396), .val (.int u53), .val (.int (Int32.ofNat mm)), .val (.int (0 : Int32)), .val (.int e14), .val (.int e15), .val (.int (1 : Int32)), .val (.int (Int32.ofNat c2468')), .val (.int (Int32.ofNat c2471')), .unset, .unset]) rfl kz) ?_
      refine own_g (mkF m 303 #[.val (.int x0), .val (.int x1), .val (.ref o2212), .val (.ref d), .val (.int (1 : Int32)), .val (.ref o2265), .val (.ref o2290), .val (.ref o2303), .val (.ref o2318), .val (.ref o2355), .val (.ref o2396), .val (.int u53), .val (.int (Int32.ofNat mm)), .val (.int (0 : Int32)), .val (.int e14), .val (.int e15), .val (.int (1 : Int32)), .val (.int (Int32.ofNat c2468')), .val (.int (Int32.ofNat c2471')), .unset, .unset] [(.int (Int32.ofNat c2468'))]) (fun _ kz => XS.iload X2473.here hx rfl (hb hby at_301) rfl kz) ?_
      refine own_g (mkF m 305 #[.val (.int x0), .val (.int x1), .val (.ref o2212), .val (.ref d), .val (.int (1 : Int32)), .val (.ref o2265), .val (.ref o2290), .val (.ref o2303), .val (.ref o2318), .val (.ref o2355), .val (.ref o2396), .val (.int u53), .val (.int (Int32.ofNat mm)), .val (.int (0 : Int32)), .val (.int e14), .val (.int e15), .val (.int (1 : Int32)), .val (.int (Int32.ofNat c2468')), .val (.int (Int32.ofNat c2471')), .unset, .unset] [(.int (Int32.ofNat mm)), (.int (Int32.ofNat c2468'))]) (fun _ kz => XS.iload X2473.here hx rfl (hb hby at_303) rfl kz) ?_
      refine own_g (mkF m 307 #[.val (.int x0), .val (.int x1), .val (.ref o2212), .val (.ref d), .val (.int (1 : Int32)), .val (.ref o2265), .val (.ref o2290), .val (.ref o2303), .val (.ref o2318), .val (.ref o2355), .val (.ref o2396), .val (.int u53), .val (.int (Int32.ofNat mm)), .val (.int (0 : Int32)), .val (.int e14), .val (.int e15), .val (.int (1 : Int32)), .val (.int (Int32.ofNat c2468')), .val (.int (Int32.ofNat c2471')), .unset, .unset] [(.int e14), (.int (Int32.ofNat mm)), (.int (Int32.ofNat c2468'))]) (fun _ kz => XS.iload X2473.here hx rfl (hb hby at_305) rfl kz) ?_
      by_cases hc307_2474 : e14 = (0 : Int32)
      · refine own_g (mkF m 314 #[.val (.int x0), .val (.int x1), .val (.ref o2212), .val (.ref d), .val (.int (1 : Int32)), .val (.ref o2265), .val (.ref o2290), .val (.ref o2303), .val (.ref o2318), .val (.ref o2355), .val (.ref o2396), .val (.int u53), .val (.int (Int32.ofNat mm)), .val (.int (0 : Int32)), .val (.int e14), .val (.int e15), .val (.int (1 : Int32)), .val (.int (Int32.ofNat c2468')), .val (.int (Int32.ofNat c2471')), .unset, .unset] [(.int (Int32.ofNat mm)), (.int (Int32.ofNat c2468'))]) (fun _ kz => XS.ifYes X2473.here hx rfl (pc0 := 307) (pc' := 314) rfl (hb hby at_307) rfl ((if0 _ _).trans (teq hc307_2474).1) (by decide) (by decide) kz) ?_
        refine own_g (mkF m 315 #[.val (.int x0), .val (.int x1), .val (.ref o2212), .val (.ref d), .val (.int (1 : Int32)), .val (.ref o2265), .val (.ref o2290), .val (.ref o2303), .val (.ref o2318), .val (.ref o2355), .val (.ref o2396), .val (.int u53), .val (.int (Int32.ofNat mm)), .val (.int (0 : Int32)), .val (.int e14), .val (.int e15), .val (.int (1 : Int32)), .val (.int (Int32.ofNat c2468')), .val (.int (Int32.ofNat c2471')), .unset, .unset] [(.int (1 : Int32)), (.int (Int32.ofNat mm)), (.int (Int32.ofNat c2468'))]) (fun _ kz => XS.iconst X2473.here hx rfl (hb hby at_314) kz) ?_
        refine own_g (mkF m 316 #[.val (.int x0), .val (.int x1), .val (.ref o2212), .val (.ref d), .val (.int (1 : Int32)), .val (.ref o2265), .val (.ref o2290), .val (.ref o2303), .val (.ref o2318), .val (.ref o2355), .val (.ref o2396), .val (.int u53), .val (.int (Int32.ofNat mm)), .val (.int (0 : Int32)), .val (.int e14), .val (.int e15), .val (.int (1 : Int32)), .val (.int (Int32.ofNat c2468')), .val (.int (Int32.ofNat c2471')), .unset, .unset] [(.int ((Int32.ofNat mm) + (1 : Int32))), (.int (Int32.ofNat c2468'))]) (fun _ kz => XS.iadd X2473.here hx rfl (hb hby at_315) rfl kz) ?_
        refine own_g (mkF m 319 #[.val (.int x0), .val (.int x1), .val (.ref o2212), .val (.ref d), .val (.int (1 : Int32)), .val (.ref o2265), .val (.ref o2290), .val (.ref o2303), .val (.ref o2318), .val (.ref o2355), .val (.ref o2396), .val (.int u53), .val (.int (Int32.ofNat mm)), .val (.int (0 : Int32)), .val (.int e14), .val (.int e15), .val (.int (1 : Int32)), .val (.int (Int32.ofNat c2468')), .val (.int (Int32.ofNat c2471')), .unset, .unset] []) (fun _ kz => XS.icmpNo X2473.here hx rfl (hb hby at_316) rfl (teq (by (try rw [← em]); rw [← q14] at G5; simpa [hc307_2474] using G5)).2 kz) ?_
        refine own_g (mkF m 320 #[.val (.int x0), .val (.int x1), .val (.ref o2212), .val (.ref d), .val (.int (1 : Int32)), .val (.ref o2265), .val (.ref o2290), .val (.ref o2303), .val (.ref o2318), .val (.ref o2355), .val (.ref o2396), .val (.int u53), .val (.int (Int32.ofNat mm)), .val (.int (0 : Int32)), .val (.int e14), .val (.int e15), .val (.int (1 : Int32)), .val (.int (Int32.ofNat c2468')), .val (.int (Int32.ofNat c2471')), .unset, .unset] [(.int (1 : Int32))]) (fun _ kz => XS.iconst X2473.here hx rfl (hb hby at_319) kz) ?_
        refine own_g (mkF m 324 #[.val (.int x0), .val (.int x1), .val (.ref o2212), .val (.ref d), .val (.int (1 : Int32)), .val (.ref o2265), .val (.ref o2290), .val (.ref o2303), .val (.ref o2318), .val (.ref o2355), .val (.ref o2396), .val (.int u53), .val (.int (Int32.ofNat mm)), .val (.int (0 : Int32)), .val (.int e14), .val (.int e15), .val (.int (1 : Int32)), .val (.int (Int32.ofNat c2468')), .val (.int (Int32.ofNat c2471')), .unset, .unset] [(.int (1 : Int32))]) (fun _ kz => XS.goto X2473.here hx rfl (pc0 := 320) (pc' := 324) rfl (hb hby at_320) (by decide) (by decide) kz) ?_
        refine own_g (mkF m 326 #[.val (.int x0), .val (.int x1), .val (.ref o2212), .val (.ref d), .val (.int (1 : Int32)), .val (.ref o2265), .val (.ref o2290), .val (.ref o2303), .val (.ref o2318), .val (.ref o2355), .val (.ref o2396), .val (.int u53), .val (.int (Int32.ofNat mm)), .val (.int (0 : Int32)), .val (.int e14), .val (.int e15), .val (.int (1 : Int32)), .val (.int (Int32.ofNat c2468')), .val (.int (Int32.ofNat c2471')), .val (.int (1 : Int32)), .unset] []) (fun _ kz => XS.istore X2473.here hx rfl (hb hby at_324) rfl (l' := #[.val (.int x0), .val (.int x1), .val (.ref o2212), .val (.ref d), .val (.int (1 : Int32)), .val (.ref o2265), .val (.ref o2290), .val (.ref o2303), .val (.ref o2318), .val (.ref o2355), .val (.ref o2396), .val (.int u53), .val (.int (Int32.ofNat mm)), .val (.int (0 : Int32)), .val (.int e14), .val (.int e15), .val (.int (1 : Int32)), .val (.int (Int32.ofNat c2468')), .val (.int (Int32.ofNat c2471')), .val (.int (1 : Int32)), .unset]) rfl kz) ?_
        refine own_g (mkF m 328 #[.val (.int x0), .val (.int x1), .val (.ref o2212), .val (.ref d), .val (.int (1 : Int32)), .val (.ref o2265), .val (.ref o2290), .val (.ref o2303), .val (.ref o2318), .val (.ref o2355), .val (.ref o2396), .val (.int u53), .val (.int (Int32.ofNat mm)), .val (.int (0 : Int32)), .val (.int e14), .val (.int e15), .val (.int (1 : Int32)), .val (.int (Int32.ofNat c2468')), .val (.int (Int32.ofNat c2471')), .val (.int (1 : Int32)), .unset] [(.int (Int32.ofNat c2471'))]) (fun _ kz => XS.iload X2473.here hx rfl (hb hby at_326) rfl kz) ?_
        refine own_g (mkF m 330 #[.val (.int x0), .val (.int x1), .val (.ref o2212), .val (.ref d), .val (.int (1 : Int32)), .val (.ref o2265), .val (.ref o2290), .val (.ref o2303), .val (.ref o2318), .val (.ref o2355), .val (.ref o2396), .val (.int u53), .val (.int (Int32.ofNat mm)), .val (.int (0 : Int32)), .val (.int e14), .val (.int e15), .val (.int (1 : Int32)), .val (.int (Int32.ofNat c2468')), .val (.int (Int32.ofNat c2471')), .val (.int (1 : Int32)), .unset] [(.int (Int32.ofNat c2468')), (.int (Int32.ofNat c2471'))]) (fun _ kz => XS.iload X2473.here hx rfl (hb hby at_328) rfl kz) ?_
        refine own_g (mkF m 332 #[.val (.int x0), .val (.int x1), .val (.ref o2212), .val (.ref d), .val (.int (1 : Int32)), .val (.ref o2265), .val (.ref o2290), .val (.ref o2303), .val (.ref o2318), .val (.ref o2355), .val (.ref o2396), .val (.int u53), .val (.int (Int32.ofNat mm)), .val (.int (0 : Int32)), .val (.int e14), .val (.int e15), .val (.int (1 : Int32)), .val (.int (Int32.ofNat c2468')), .val (.int (Int32.ofNat c2471')), .val (.int (1 : Int32)), .unset] [(.int e15), (.int (Int32.ofNat c2468')), (.int (Int32.ofNat c2471'))]) (fun _ kz => XS.iload X2473.here hx rfl (hb hby at_330) rfl kz) ?_
        by_cases hc332_2475 : e15 = (0 : Int32)
        · refine own_g (mkF m 339 #[.val (.int x0), .val (.int x1), .val (.ref o2212), .val (.ref d), .val (.int (1 : Int32)), .val (.ref o2265), .val (.ref o2290), .val (.ref o2303), .val (.ref o2318), .val (.ref o2355), .val (.ref o2396), .val (.int u53), .val (.int (Int32.ofNat mm)), .val (.int (0 : Int32)), .val (.int e14), .val (.int e15), .val (.int (1 : Int32)), .val (.int (Int32.ofNat c2468')), .val (.int (Int32.ofNat c2471')), .val (.int (1 : Int32)), .unset] [(.int (Int32.ofNat c2468')), (.int (Int32.ofNat c2471'))]) (fun _ kz => XS.ifYes X2473.here hx rfl (pc0 := 332) (pc' := 339) rfl (hb hby at_332) rfl ((if0 _ _).trans (teq hc332_2475).1) (by decide) (by decide) kz) ?_
          refine own_g (mkF m 340 #[.val (.int x0), .val (.int x1), .val (.ref o2212), .val (.ref d), .val (.int (1 : Int32)), .val (.ref o2265), .val (.ref o2290), .val (.ref o2303), .val (.ref o2318), .val (.ref o2355), .val (.ref o2396), .val (.int u53), .val (.int (Int32.ofNat mm)), .val (.int (0 : Int32)), .val (.int e14), .val (.int e15), .val (.int (1 : Int32)), .val (.int (Int32.ofNat c2468')), .val (.int (Int32.ofNat c2471')), .val (.int (1 : Int32)), .unset] [(.int (1 : Int32)), (.int (Int32.ofNat c2468')), (.int (Int32.ofNat c2471'))]) (fun _ kz => XS.iconst X2473.here hx rfl (hb hby at_339) kz) ?_
          refine own_g (mkF m 341 #[.val (.int x0), .val (.int x1), .val (.ref o2212), .val (.ref d), .val (.int (1 : Int32)), .val (.ref o2265), .val (.ref o2290), .val (.ref o2303), .val (.ref o2318), .val (.ref o2355), .val (.ref o2396), .val (.int u53), .val (.int (Int32.ofNat mm)), .val (.int (0 : Int32)), .val (.int e14), .val (.int e15), .val (.int (1 : Int32)), .val (.int (Int32.ofNat c2468')), .val (.int (Int32.ofNat c2471')), .val (.int (1 : Int32)), .unset] [(.int ((Int32.ofNat c2468') + (1 : Int32))), (.int (Int32.ofNat c2471'))]) (fun _ kz => XS.iadd X2473.here hx rfl (hb hby at_340) rfl kz) ?_
          refine own_g (mkF m 344 #[.val (.int x0), .val (.int x1), .val (.ref o2212), .val (.ref d), .val (.int (1 : Int32)), .val (.ref o2265), .val (.ref o2290), .val (.ref o2303), .val (.ref o2318), .val (.ref o2355), .val (.ref o2396), .val (.int u53), .val (.int (Int32.ofNat mm)), .val (.int (0 : Int32)), .val (.int e14), .val (.int e15), .val (.int (1 : Int32)), .val (.int (Int32.ofNat c2468')), .val (.int (Int32.ofNat c2471')), .val (.int (1 : Int32)), .unset] []) (fun _ kz => XS.icmpNo X2473.here hx rfl (hb hby at_341) rfl (teq (by (try rw [← em]); rw [← q15] at G6; simpa [hc332_2475] using G6)).2 kz) ?_
          refine own_g (mkF m 345 #[.val (.int x0), .val (.int x1), .val (.ref o2212), .val (.ref d), .val (.int (1 : Int32)), .val (.ref o2265), .val (.ref o2290), .val (.ref o2303), .val (.ref o2318), .val (.ref o2355), .val (.ref o2396), .val (.int u53), .val (.int (Int32.ofNat mm)), .val (.int (0 : Int32)), .val (.int e14), .val (.int e15), .val (.int (1 : Int32)), .val (.int (Int32.ofNat c2468')), .val (.int (Int32.ofNat c2471')), .val (.int (1 : Int32)), .unset] [(.int (1 : Int32))]) (fun _ kz => XS.iconst X2473.here hx rfl (hb hby at_344) kz) ?_
          refine own_g (mkF m 349 #[.val (.int x0), .val (.int x1), .val (.ref o2212), .val (.ref d), .val (.int (1 : Int32)), .val (.ref o2265), .val (.ref o2290), .val (.ref o2303), .val (.ref o2318), .val (.ref o2355), .val (.ref o2396), .val (.int u53), .val (.int (Int32.ofNat mm)), .val (.int (0 : Int32)), .val (.int e14), .val (.int e15), .val (.int (1 : Int32)), .val (.int (Int32.ofNat c2468')), .val (.int (Int32.ofNat c2471')), .val (.int (1 : Int32)), .unset] [(.int (1 : Int32))]) (fun _ kz => XS.goto X2473.here hx rfl (pc0 := 345) (pc' := 349) rfl (hb hby at_345) (by decide) (by decide) kz) ?_
          refine own_g (mkF m 351 #[.val (.int x0), .val (.int x1), .val (.ref o2212), .val (.ref d), .val (.int (1 : Int32)), .val (.ref o2265), .val (.ref o2290), .val (.ref o2303), .val (.ref o2318), .val (.ref o2355), .val (.ref o2396), .val (.int u53), .val (.int (Int32.ofNat mm)), .val (.int (0 : Int32)), .val (.int e14), .val (.int e15), .val (.int (1 : Int32)), .val (.int (Int32.ofNat c2468')), .val (.int (Int32.ofNat c2471')), .val (.int (1 : Int32)), .val (.int (1 : Int32))] []) (fun _ kz => XS.istore X2473.here hx rfl (hb hby at_349) rfl (l' := #[.val (.int x0), .val (.int x1), .val (.ref o2212), .val (.ref d), .val (.int (1 : Int32)), .val (.ref o2265), .val (.ref o2290), .val (.ref o2303), .val (.ref o2318), .val (.ref o2355), .val (.ref o2396), .val (.int u53), .val (.int (Int32.ofNat mm)), .val (.int (0 : Int32)), .val (.int e14), .val (.int e15), .val (.int (1 : Int32)), .val (.int (Int32.ofNat c2468')), .val (.int (Int32.ofNat c2471')), .val (.int (1 : Int32)), .val (.int (1 : Int32))]) rfl kz) ?_
          refine own_g (mkF m 353 #[.val (.int x0), .val (.int x1), .val (.ref o2212), .val (.ref d), .val (.int (1 : Int32)), .val (.ref o2265), .val (.ref o2290), .val (.ref o2303), .val (.ref o2318), .val (.ref o2355), .val (.ref o2396), .val (.int u53), .val (.int (Int32.ofNat mm)), .val (.int (0 : Int32)), .val (.int e14), .val (.int e15), .val (.int (1 : Int32)), .val (.int (Int32.ofNat c2468')), .val (.int (Int32.ofNat c2471')), .val (.int (1 : Int32)), .val (.int (1 : Int32))] [(.int (1 : Int32))]) (fun _ kz => XS.iload X2473.here hx rfl (hb hby at_351) rfl kz) ?_
          refine own_g (mkF m 356 #[.val (.int x0), .val (.int x1), .val (.ref o2212), .val (.ref d), .val (.int (1 : Int32)), .val (.ref o2265), .val (.ref o2290), .val (.ref o2303), .val (.ref o2318), .val (.ref o2355), .val (.ref o2396), .val (.int u53), .val (.int (Int32.ofNat mm)), .val (.int (0 : Int32)), .val (.int e14), .val (.int e15), .val (.int (1 : Int32)), .val (.int (Int32.ofNat c2468')), .val (.int (Int32.ofNat c2471')), .val (.int (1 : Int32)), .val (.int (1 : Int32))] []) (fun _ kz => XS.ifNo X2473.here hx rfl (hb hby at_353) rfl ((if0 _ _).trans (feq (by decide)).1) kz) ?_
          refine own_g (mkF m 358 #[.val (.int x0), .val (.int x1), .val (.ref o2212), .val (.ref d), .val (.int (1 : Int32)), .val (.ref o2265), .val (.ref o2290), .val (.ref o2303), .val (.ref o2318), .val (.ref o2355), .val (.ref o2396), .val (.int u53), .val (.int (Int32.ofNat mm)), .val (.int (0 : Int32)), .val (.int e14), .val (.int e15), .val (.int (1 : Int32)), .val (.int (Int32.ofNat c2468')), .val (.int (Int32.ofNat c2471')), .val (.int (1 : Int32)), .val (.int (1 : Int32))] [(.int (1 : Int32))]) (fun _ kz => XS.iload X2473.here hx rfl (hb hby at_356) rfl kz) ?_
          refine own_g (mkF m 361 #[.val (.int x0), .val (.int x1), .val (.ref o2212), .val (.ref d), .val (.int (1 : Int32)), .val (.ref o2265), .val (.ref o2290), .val (.ref o2303), .val (.ref o2318), .val (.ref o2355), .val (.ref o2396), .val (.int u53), .val (.int (Int32.ofNat mm)), .val (.int (0 : Int32)), .val (.int e14), .val (.int e15), .val (.int (1 : Int32)), .val (.int (Int32.ofNat c2468')), .val (.int (Int32.ofNat c2471')), .val (.int (1 : Int32)), .val (.int (1 : Int32))] []) (fun _ kz => XS.ifNo X2473.here hx rfl (hb hby at_358) rfl ((if0 _ _).trans (feq (by decide)).1) kz) ?_
          refine own_g (mkF m 363 #[.val (.int x0), .val (.int x1), .val (.ref o2212), .val (.ref d), .val (.int (1 : Int32)), .val (.ref o2265), .val (.ref o2290), .val (.ref o2303), .val (.ref o2318), .val (.ref o2355), .val (.ref o2396), .val (.int u53), .val (.int (Int32.ofNat mm)), .val (.int (0 : Int32)), .val (.int e14), .val (.int e15), .val (.int (1 : Int32)), .val (.int (Int32.ofNat c2468')), .val (.int (Int32.ofNat c2471')), .val (.int (1 : Int32)), .val (.int (1 : Int32))] [(.int (1 : Int32))]) (fun _ kz => XS.iload X2473.here hx rfl (hb hby at_361) rfl kz) ?_
          refine own_g (mkF m 366 #[.val (.int x0), .val (.int x1), .val (.ref o2212), .val (.ref d), .val (.int (1 : Int32)), .val (.ref o2265), .val (.ref o2290), .val (.ref o2303), .val (.ref o2318), .val (.ref o2355), .val (.ref o2396), .val (.int u53), .val (.int (Int32.ofNat mm)), .val (.int (0 : Int32)), .val (.int e14), .val (.int e15), .val (.int (1 : Int32)), .val (.int (Int32.ofNat c2468')), .val (.int (Int32.ofNat c2471')), .val (.int (1 : Int32)), .val (.int (1 : Int32))] []) (fun _ kz => XS.ifNo X2473.here hx rfl (hb hby at_363) rfl ((if0 _ _).trans (feq (by decide)).1) kz) ?_
          refine own_g (mkF m 367 #[.val (.int x0), .val (.int x1), .val (.ref o2212), .val (.ref d), .val (.int (1 : Int32)), .val (.ref o2265), .val (.ref o2290), .val (.ref o2303), .val (.ref o2318), .val (.ref o2355), .val (.ref o2396), .val (.int u53), .val (.int (Int32.ofNat mm)), .val (.int (0 : Int32)), .val (.int e14), .val (.int e15), .val (.int (1 : Int32)), .val (.int (Int32.ofNat c2468')), .val (.int (Int32.ofNat c2471')), .val (.int (1 : Int32)), .val (.int (1 : Int32))] [(.int (1 : Int32))]) (fun _ kz => XS.iconst X2473.here hx rfl (hb hby at_366) kz) ?_
          refine own_g (mkF m 371 #[.val (.int x0), .val (.int x1), .val (.ref o2212), .val (.ref d), .val (.int (1 : Int32)), .val (.ref o2265), .val (.ref o2290), .val (.ref o2303), .val (.ref o2318), .val (.ref o2355), .val (.ref o2396), .val (.int u53), .val (.int (Int32.ofNat mm)), .val (.int (0 : Int32)), .val (.int e14), .val (.int e15), .val (.int (1 : Int32)), .val (.int (Int32.ofNat c2468')), .val (.int (Int32.ofNat c2471')), .val (.int (1 : Int32)), .val (.int (1 : Int32))] [(.int (1 : Int32))]) (fun _ kz => XS.goto X2473.here hx rfl (pc0 := 367) (pc' := 371) rfl (hb hby at_367) (by decide) (by decide) kz) ?_
          exact own_retZW X2473 hS2220 (by rw [e2473]; exact z2472) hx hret hlk (hb hby at_371) rfl (by decide) (by decide) (by first | exact ⟨rfl, N2473⟩ | (rw [e2473]; exact ⟨rfl, N2473⟩))
        · refine own_g (mkF m 335 #[.val (.int x0), .val (.int x1), .val (.ref o2212), .val (.ref d), .val (.int (1 : Int32)), .val (.ref o2265), .val (.ref o2290), .val (.ref o2303), .val (.ref o2318), .val (.ref o2355), .val (.ref o2396), .val (.int u53), .val (.int (Int32.ofNat mm)), .val (.int (0 : Int32)), .val (.int e14), .val (.int e15), .val (.int (1 : Int32)), .val (.int (Int32.ofNat c2468')), .val (.int (Int32.ofNat c2471')), .val (.int (1 : Int32)), .unset] [(.int (Int32.ofNat c2468')), (.int (Int32.ofNat c2471'))]) (fun _ kz => XS.ifNo X2473.here hx rfl (hb hby at_332) rfl ((if0 _ _).trans (feq hc332_2475).1) kz) ?_
          refine own_g (mkF m 336 #[.val (.int x0), .val (.int x1), .val (.ref o2212), .val (.ref d), .val (.int (1 : Int32)), .val (.ref o2265), .val (.ref o2290), .val (.ref o2303), .val (.ref o2318), .val (.ref o2355), .val (.ref o2396), .val (.int u53), .val (.int (Int32.ofNat mm)), .val (.int (0 : Int32)), .val (.int e14), .val (.int e15), .val (.int (1 : Int32)), .val (.int (Int32.ofNat c2468')), .val (.int (Int32.ofNat c2471')), .val (.int (1 : Int32)), .unset] [(.int (0 : Int32)), (.int (Int32.ofNat c2468')), (.int (Int32.ofNat c2471'))]) (fun _ kz => XS.iconst X2473.here hx rfl (hb hby at_335) kz) ?_
          refine own_g (mkF m 340 #[.val (.int x0), .val (.int x1), .val (.ref o2212), .val (.ref d), .val (.int (1 : Int32)), .val (.ref o2265), .val (.ref o2290), .val (.ref o2303), .val (.ref o2318), .val (.ref o2355), .val (.ref o2396), .val (.int u53), .val (.int (Int32.ofNat mm)), .val (.int (0 : Int32)), .val (.int e14), .val (.int e15), .val (.int (1 : Int32)), .val (.int (Int32.ofNat c2468')), .val (.int (Int32.ofNat c2471')), .val (.int (1 : Int32)), .unset] [(.int (0 : Int32)), (.int (Int32.ofNat c2468')), (.int (Int32.ofNat c2471'))]) (fun _ kz => XS.goto X2473.here hx rfl (pc0 := 336) (pc' := 340) rfl (hb hby at_336) (by decide) (by decide) kz) ?_
          refine own_g (mkF m 341 #[.val (.int x0), .val (.int x1), .val (.ref o2212), .val (.ref d), .val (.int (1 : Int32)), .val (.ref o2265), .val (.ref o2290), .val (.ref o2303), .val (.ref o2318), .val (.ref o2355), .val (.ref o2396), .val (.int u53), .val (.int (Int32.ofNat mm)), .val (.int (0 : Int32)), .val (.int e14), .val (.int e15), .val (.int (1 : Int32)), .val (.int (Int32.ofNat c2468')), .val (.int (Int32.ofNat c2471')), .val (.int (1 : Int32)), .unset] [(.int ((Int32.ofNat c2468') + (0 : Int32))), (.int (Int32.ofNat c2471'))]) (fun _ kz => XS.iadd X2473.here hx rfl (hb hby at_340) rfl kz) ?_
          refine own_g (mkF m 344 #[.val (.int x0), .val (.int x1), .val (.ref o2212), .val (.ref d), .val (.int (1 : Int32)), .val (.ref o2265), .val (.ref o2290), .val (.ref o2303), .val (.ref o2318), .val (.ref o2355), .val (.ref o2396), .val (.int u53), .val (.int (Int32.ofNat mm)), .val (.int (0 : Int32)), .val (.int e14), .val (.int e15), .val (.int (1 : Int32)), .val (.int (Int32.ofNat c2468')), .val (.int (Int32.ofNat c2471')), .val (.int (1 : Int32)), .unset] []) (fun _ kz => XS.icmpNo X2473.here hx rfl (hb hby at_341) rfl (teq (by (try rw [← em]); rw [← q15] at G6; simpa [hc332_2475] using G6)).2 kz) ?_
          refine own_g (mkF m 345 #[.val (.int x0), .val (.int x1), .val (.ref o2212), .val (.ref d), .val (.int (1 : Int32)), .val (.ref o2265), .val (.ref o2290), .val (.ref o2303), .val (.ref o2318), .val (.ref o2355), .val (.ref o2396), .val (.int u53), .val (.int (Int32.ofNat mm)), .val (.int (0 : Int32)), .val (.int e14), .val (.int e15), .val (.int (1 : Int32)), .val (.int (Int32.ofNat c2468')), .val (.int (Int32.ofNat c2471')), .val (.int (1 : Int32)), .unset] [(.int (1 : Int32))]) (fun _ kz => XS.iconst X2473.here hx rfl (hb hby at_344) kz) ?_
          refine own_g (mkF m 349 #[.val (.int x0), .val (.int x1), .val (.ref o2212), .val (.ref d), .val (.int (1 : Int32)), .val (.ref o2265), .val (.ref o2290), .val (.ref o2303), .val (.ref o2318), .val (.ref o2355), .val (.ref o2396), .val (.int u53), .val (.int (Int32.ofNat mm)), .val (.int (0 : Int32)), .val (.int e14), .val (.int e15), .val (.int (1 : Int32)), .val (.int (Int32.ofNat c2468')), .val (.int (Int32.ofNat c2471')), .val (.int (1 : Int32)), .unset] [(.int (1 : Int32))]) (fun _ kz => XS.goto X2473.here hx rfl (pc0 := 345) (pc' := 349) rfl (hb hby at_345) (by decide) (by decide) kz) ?_
          refine own_g (mkF m 351 #[.val (.int x0), .val (.int x1), .val (.ref o2212), .val (.ref d), .val (.int (1 : Int32)), .val (.ref o2265), .val (.ref o2290), .val (.ref o2303), .val (.ref o2318), .val (.ref o2355), .val (.ref o2396), .val (.int u53), .val (.int (Int32.ofNat mm)), .val (.int (0 : Int32)), .val (.int e14), .val (.int e15), .val (.int (1 : Int32)), .val (.int (Int32.ofNat c2468')), .val (.int (Int32.ofNat c2471')), .val (.int (1 : Int32)), .val (.int (1 : Int32))] []) (fun _ kz => XS.istore X2473.here hx rfl (hb hby at_349) rfl (l' := #[.val (.int x0), .val (.int x1), .val (.ref o2212), .val (.ref d), .val (.int (1 : Int32)), .val (.ref o2265), .val (.ref o2290), .val (.ref o2303), .val (.ref o2318), .val (.ref o2355), .val (.ref o2396), .val (.int u53), .val (.int (Int32.ofNat mm)), .val (.int (0 : Int32)), .val (.int e14), .val (.int e15), .val (.int (1 : Int32)), .val (.int (Int32.ofNat c2468')), .val (.int (Int32.ofNat c2471')), .val (.int (1 : Int32)), .val (.int (1 : Int32))]) rfl kz) ?_
          refine own_g (mkF m 353 #[.val (.int x0), .val (.int x1), .val (.ref o2212), .val (.ref d), .val (.int (1 : Int32)), .val (.ref o2265), .val (.ref o2290), .val (.ref o2303), .val (.ref o2318), .val (.ref o2355), .val (.ref o2396), .val (.int u53), .val (.int (Int32.ofNat mm)), .val (.int (0 : Int32)), .val (.int e14), .val (.int e15), .val (.int (1 : Int32)), .val (.int (Int32.ofNat c2468')), .val (.int (Int32.ofNat c2471')), .val (.int (1 : Int32)), .val (.int (1 : Int32))] [(.int (1 : Int32))]) (fun _ kz => XS.iload X2473.here hx rfl (hb hby at_351) rfl kz) ?_
          refine own_g (mkF m 356 #[.val (.int x0), .val (.int x1), .val (.ref o2212), .val (.ref d), .val (.int (1 : Int32)), .val (.ref o2265), .val (.ref o2290), .val (.ref o2303), .val (.ref o2318), .val (.ref o2355), .val (.ref o2396), .val (.int u53), .val (.int (Int32.ofNat mm)), .val (.int (0 : Int32)), .val (.int e14), .val (.int e15), .val (.int (1 : Int32)), .val (.int (Int32.ofNat c2468')), .val (.int (Int32.ofNat c2471')), .val (.int (1 : Int32)), .val (.int (1 : Int32))] []) (fun _ kz => XS.ifNo X2473.here hx rfl (hb hby at_353) rfl ((if0 _ _).trans (feq (by decide)).1) kz) ?_
          refine own_g (mkF m 358 #[.val (.int x0), .val (.int x1), .val (.ref o2212), .val (.ref d), .val (.int (1 : Int32)), .val (.ref o2265), .val (.ref o2290), .val (.ref o2303), .val (.ref o2318), .val (.ref o2355), .val (.ref o2396), .val (.int u53), .val (.int (Int32.ofNat mm)), .val (.int (0 : Int32)), .val (.int e14), .val (.int e15), .val (.int (1 : Int32)), .val (.int (Int32.ofNat c2468')), .val (.int (Int32.ofNat c2471')), .val (.int (1 : Int32)), .val (.int (1 : Int32))] [(.int (1 : Int32))]) (fun _ kz => XS.iload X2473.here hx rfl (hb hby at_356) rfl kz) ?_
          refine own_g (mkF m 361 #[.val (.int x0), .val (.int x1), .val (.ref o2212), .val (.ref d), .val (.int (1 : Int32)), .val (.ref o2265), .val (.ref o2290), .val (.ref o2303), .val (.ref o2318), .val (.ref o2355), .val (.ref o2396), .val (.int u53), .val (.int (Int32.ofNat mm)), .val (.int (0 : Int32)), .val (.int e14), .val (.int e15), .val (.int (1 : Int32)), .val (.int (Int32.ofNat c2468')), .val (.int (Int32.ofNat c2471')), .val (.int (1 : Int32)), .val (.int (1 : Int32))] []) (fun _ kz => XS.ifNo X2473.here hx rfl (hb hby at_358) rfl ((if0 _ _).trans (feq (by decide)).1) kz) ?_
          refine own_g (mkF m 363 #[.val (.int x0), .val (.int x1), .val (.ref o2212), .val (.ref d), .val (.int (1 : Int32)), .val (.ref o2265), .val (.ref o2290), .val (.ref o2303), .val (.ref o2318), .val (.ref o2355), .val (.ref o2396), .val (.int u53), .val (.int (Int32.ofNat mm)), .val (.int (0 : Int32)), .val (.int e14), .val (.int e15), .val (.int (1 : Int32)), .val (.int (Int32.ofNat c2468')), .val (.int (Int32.ofNat c2471')), .val (.int (1 : Int32)), .val (.int (1 : Int32))] [(.int (1 : Int32))]) (fun _ kz => XS.iload X2473.here hx rfl (hb hby at_361) rfl kz) ?_
          refine own_g (mkF m 366 #[.val (.int x0), .val (.int x1), .val (.ref o2212), .val (.ref d), .val (.int (1 : Int32)), .val (.ref o2265), .val (.ref o2290), .val (.ref o2303), .val (.ref o2318), .val (.ref o2355), .val (.ref o2396), .val (.int u53), .val (.int (Int32.ofNat mm)), .val (.int (0 : Int32)), .val (.int e14), .val (.int e15), .val (.int (1 : Int32)), .val (.int (Int32.ofNat c2468')), .val (.int (Int32.ofNat c2471')), .val (.int (1 : Int32)), .val (.int (1 : Int32))] []) (fun _ kz => XS.ifNo X2473.here hx rfl (hb hby at_363) rfl ((if0 _ _).trans (feq (by decide)).1) kz) ?_
          refine own_g (mkF m 367 #[.val (.int x0), .val (.int x1), .val (.ref o2212), .val (.ref d), .val (.int (1 : Int32)), .val (.ref o2265), .val (.ref o2290), .val (.ref o2303), .val (.ref o2318), .val (.ref o2355), .val (.ref o2396), .val (.int u53), .val (.int (Int32.ofNat mm)), .val (.int (0 : Int32)), .val (.int e14), .val (.int e15), .val (.int (1 : Int32)), .val (.int (Int32.ofNat c2468')), .val (.int (Int32.ofNat c2471')), .val (.int (1 : Int32)), .val (.int (1 : Int32))] [(.int (1 : Int32))]) (fun _ kz => XS.iconst X2473.here hx rfl (hb hby at_366) kz) ?_
          refine own_g (mkF m 371 #[.val (.int x0), .val (.int x1), .val (.ref o2212), .val (.ref d), .val (.int (1 : Int32)), .val (.ref o2265), .val (.ref o2290), .val (.ref o2303), .val (.ref o2318), .val (.ref o2355), .val (.ref o2396), .val (.int u53), .val (.int (Int32.ofNat mm)), .val (.int (0 : Int32)), .val (.int e14), .val (.int e15), .val (.int (1 : Int32)), .val (.int (Int32.ofNat c2468')), .val (.int (Int32.ofNat c2471')), .val (.int (1 : Int32)), .val (.int (1 : Int32))] [(.int (1 : Int32))]) (fun _ kz => XS.goto X2473.here hx rfl (pc0 := 367) (pc' := 371) rfl (hb hby at_367) (by decide) (by decide) kz) ?_
          exact own_retZW X2473 hS2220 (by rw [e2473]; exact z2472) hx hret hlk (hb hby at_371) rfl (by decide) (by decide) (by first | exact ⟨rfl, N2473⟩ | (rw [e2473]; exact ⟨rfl, N2473⟩))
      · refine own_g (mkF m 310 #[.val (.int x0), .val (.int x1), .val (.ref o2212), .val (.ref d), .val (.int (1 : Int32)), .val (.ref o2265), .val (.ref o2290), .val (.ref o2303), .val (.ref o2318), .val (.ref o2355), .val (.ref o2396), .val (.int u53), .val (.int (Int32.ofNat mm)), .val (.int (0 : Int32)), .val (.int e14), .val (.int e15), .val (.int (1 : Int32)), .val (.int (Int32.ofNat c2468')), .val (.int (Int32.ofNat c2471')), .unset, .unset] [(.int (Int32.ofNat mm)), (.int (Int32.ofNat c2468'))]) (fun _ kz => XS.ifNo X2473.here hx rfl (hb hby at_307) rfl ((if0 _ _).trans (feq hc307_2474).1) kz) ?_
        refine own_g (mkF m 311 #[.val (.int x0), .val (.int x1), .val (.ref o2212), .val (.ref d), .val (.int (1 : Int32)), .val (.ref o2265), .val (.ref o2290), .val (.ref o2303), .val (.ref o2318), .val (.ref o2355), .val (.ref o2396), .val (.int u53), .val (.int (Int32.ofNat mm)), .val (.int (0 : Int32)), .val (.int e14), .val (.int e15), .val (.int (1 : Int32)), .val (.int (Int32.ofNat c2468')), .val (.int (Int32.ofNat c2471')), .unset, .unset] [(.int (0 : Int32)), (.int (Int32.ofNat mm)), (.int (Int32.ofNat c2468'))]) (fun _ kz => XS.iconst X2473.here hx rfl (hb hby at_310) kz) ?_
        refine own_g (mkF m 315 #[.val (.int x0), .val (.int x1), .val (.ref o2212), .val (.ref d), .val (.int (1 : Int32)), .val (.ref o2265), .val (.ref o2290), .val (.ref o2303), .val (.ref o2318), .val (.ref o2355), .val (.ref o2396), .val (.int u53), .val (.int (Int32.ofNat mm)), .val (.int (0 : Int32)), .val (.int e14), .val (.int e15), .val (.int (1 : Int32)), .val (.int (Int32.ofNat c2468')), .val (.int (Int32.ofNat c2471')), .unset, .unset] [(.int (0 : Int32)), (.int (Int32.ofNat mm)), (.int (Int32.ofNat c2468'))]) (fun _ kz => XS.goto X2473.here hx rfl (pc0 := 311) (pc' := 315) rfl (hb hby at_311) (by decide) (by decide) kz) ?_
        refine own_g (mkF m 316 #[.val (.int x0), .val (.int x1), .val (.ref o2212), .val (.ref d), .val (.int (1 : Int32)), .val (.ref o2265), .val (.ref o2290), .val (.ref o2303), .val (.ref o2318), .val (.ref o2355), .val (.ref o2396), .val (.int u53), .val (.int (Int32.ofNat mm)), .val (.int (0 : Int32)), .val (.int e14), .val (.int e15), .val (.int (1 : Int32)), .val (.int (Int32.ofNat c2468')), .val (.int (Int32.ofNat c2471')), .unset, .unset] [(.int ((Int32.ofNat mm) + (0 : Int32))), (.int (Int32.ofNat c2468'))]) (fun _ kz => XS.iadd X2473.here hx rfl (hb hby at_315) rfl kz) ?_
        refine own_g (mkF m 319 #[.val (.int x0), .val (.int x1), .val (.ref o2212), .val (.ref d), .val (.int (1 : Int32)), .val (.ref o2265), .val (.ref o2290), .val (.ref o2303), .val (.ref o2318), .val (.ref o2355), .val (.ref o2396), .val (.int u53), .val (.int (Int32.ofNat mm)), .val (.int (0 : Int32)), .val (.int e14), .val (.int e15), .val (.int (1 : Int32)), .val (.int (Int32.ofNat c2468')), .val (.int (Int32.ofNat c2471')), .unset, .unset] []) (fun _ kz => XS.icmpNo X2473.here hx rfl (hb hby at_316) rfl (teq (by (try rw [← em]); rw [← q14] at G5; simpa [hc307_2474] using G5)).2 kz) ?_
        refine own_g (mkF m 320 #[.val (.int x0), .val (.int x1), .val (.ref o2212), .val (.ref d), .val (.int (1 : Int32)), .val (.ref o2265), .val (.ref o2290), .val (.ref o2303), .val (.ref o2318), .val (.ref o2355), .val (.ref o2396), .val (.int u53), .val (.int (Int32.ofNat mm)), .val (.int (0 : Int32)), .val (.int e14), .val (.int e15), .val (.int (1 : Int32)), .val (.int (Int32.ofNat c2468')), .val (.int (Int32.ofNat c2471')), .unset, .unset] [(.int (1 : Int32))]) (fun _ kz => XS.iconst X2473.here hx rfl (hb hby at_319) kz) ?_
        refine own_g (mkF m 324 #[.val (.int x0), .val (.int x1), .val (.ref o2212), .val (.ref d), .val (.int (1 : Int32)), .val (.ref o2265), .val (.ref o2290), .val (.ref o2303), .val (.ref o2318), .val (.ref o2355), .val (.ref o2396), .val (.int u53), .val (.int (Int32.ofNat mm)), .val (.int (0 : Int32)), .val (.int e14), .val (.int e15), .val (.int (1 : Int32)), .val (.int (Int32.ofNat c2468')), .val (.int (Int32.ofNat c2471')), .unset, .unset] [(.int (1 : Int32))]) (fun _ kz => XS.goto X2473.here hx rfl (pc0 := 320) (pc' := 324) rfl (hb hby at_320) (by decide) (by decide) kz) ?_
        refine own_g (mkF m 326 #[.val (.int x0), .val (.int x1), .val (.ref o2212), .val (.ref d), .val (.int (1 : Int32)), .val (.ref o2265), .val (.ref o2290), .val (.ref o2303), .val (.ref o2318), .val (.ref o2355), .val (.ref o2396), .val (.int u53), .val (.int (Int32.ofNat mm)), .val (.int (0 : Int32)), .val (.int e14), .val (.int e15), .val (.int (1 : Int32)), .val (.int (Int32.ofNat c2468')), .val (.int (Int32.ofNat c2471')), .val (.int (1 : Int32)), .unset] []) (fun _ kz => XS.istore X2473.here hx rfl (hb hby at_324) rfl (l' := #[.val (.int x0), .val (.int x1), .val (.ref o2212), .val (.ref d), .val (.int (1 : Int32)), .val (.ref o2265), .val (.ref o2290), .val (.ref o2303), .val (.ref o2318), .val (.ref o2355), .val (.ref o2396), .val (.int u53), .val (.int (Int32.ofNat mm)), .val (.int (0 : Int32)), .val (.int e14), .val (.int e15), .val (.int (1 : Int32)), .val (.int (Int32.ofNat c2468')), .val (.int (Int32.ofNat c2471')), .val (.int (1 : Int32)), .unset]) rfl kz) ?_
        refine own_g (mkF m 328 #[.val (.int x0), .val (.int x1), .val (.ref o2212), .val (.ref d), .val (.int (1 : Int32)), .val (.ref o2265), .val (.ref o2290), .val (.ref o2303), .val (.ref o2318), .val (.ref o2355), .val (.ref o2396), .val (.int u53), .val (.int (Int32.ofNat mm)), .val (.int (0 : Int32)), .val (.int e14), .val (.int e15), .val (.int (1 : Int32)), .val (.int (Int32.ofNat c2468')), .val (.int (Int32.ofNat c2471')), .val (.int (1 : Int32)), .unset] [(.int (Int32.ofNat c2471'))]) (fun _ kz => XS.iload X2473.here hx rfl (hb hby at_326) rfl kz) ?_
        refine own_g (mkF m 330 #[.val (.int x0), .val (.int x1), .val (.ref o2212), .val (.ref d), .val (.int (1 : Int32)), .val (.ref o2265), .val (.ref o2290), .val (.ref o2303), .val (.ref o2318), .val (.ref o2355), .val (.ref o2396), .val (.int u53), .val (.int (Int32.ofNat mm)), .val (.int (0 : Int32)), .val (.int e14), .val (.int e15), .val (.int (1 : Int32)), .val (.int (Int32.ofNat c2468')), .val (.int (Int32.ofNat c2471')), .val (.int (1 : Int32)), .unset] [(.int (Int32.ofNat c2468')), (.int (Int32.ofNat c2471'))]) (fun _ kz => XS.iload X2473.here hx rfl (hb hby at_328) rfl kz) ?_
        refine own_g (mkF m 332 #[.val (.int x0), .val (.int x1), .val (.ref o2212), .val (.ref d), .val (.int (1 : Int32)), .val (.ref o2265), .val (.ref o2290), .val (.ref o2303), .val (.ref o2318), .val (.ref o2355), .val (.ref o2396), .val (.int u53), .val (.int (Int32.ofNat mm)), .val (.int (0 : Int32)), .val (.int e14), .val (.int e15), .val (.int (1 : Int32)), .val (.int (Int32.ofNat c2468')), .val (.int (Int32.ofNat c2471')), .val (.int (1 : Int32)), .unset] [(.int e15), (.int (Int32.ofNat c2468')), (.int (Int32.ofNat c2471'))]) (fun _ kz => XS.iload X2473.here hx rfl (hb hby at_330) rfl kz) ?_
        by_cases hc332_2476 : e15 = (0 : Int32)
        · refine own_g (mkF m 339 #[.val (.int x0), .val (.int x1), .val (.ref o2212), .val (.ref d), .val (.int (1 : Int32)), .val (.ref o2265), .val (.ref o2290), .val (.ref o2303), .val (.ref o2318), .val (.ref o2355), .val (.ref o2396), .val (.int u53), .val (.int (Int32.ofNat mm)), .val (.int (0 : Int32)), .val (.int e14), .val (.int e15), .val (.int (1 : Int32)), .val (.int (Int32.ofNat c2468')), .val (.int (Int32.ofNat c2471')), .val (.int (1 : Int32)), .unset] [(.int (Int32.ofNat c2468')), (.int (Int32.ofNat c2471'))]) (fun _ kz => XS.ifYes X2473.here hx rfl (pc0 := 332) (pc' := 339) rfl (hb hby at_332) rfl ((if0 _ _).trans (teq hc332_2476).1) (by decide) (by decide) kz) ?_
          refine own_g (mkF m 340 #[.val (.int x0), .val (.int x1), .val (.ref o2212), .val (.ref d), .val (.int (1 : Int32)), .val (.ref o2265), .val (.ref o2290), .val (.ref o2303), .val (.ref o2318), .val (.ref o2355), .val (.ref o2396), .val (.int u53), .val (.int (Int32.ofNat mm)), .val (.int (0 : Int32)), .val (.int e14), .val (.int e15), .val (.int (1 : Int32)), .val (.int (Int32.ofNat c2468')), .val (.int (Int32.ofNat c2471')), .val (.int (1 : Int32)), .unset] [(.int (1 : Int32)), (.int (Int32.ofNat c2468')), (.int (Int32.ofNat c2471'))]) (fun _ kz => XS.iconst X2473.here hx rfl (hb hby at_339) kz) ?_
          refine own_g (mkF m 341 #[.val (.int x0), .val (.int x1), .val (.ref o2212), .val (.ref d), .val (.int (1 : Int32)), .val (.ref o2265), .val (.ref o2290), .val (.ref o2303), .val (.ref o2318), .val (.ref o2355), .val (.ref o2396), .val (.int u53), .val (.int (Int32.ofNat mm)), .val (.int (0 : Int32)), .val (.int e14), .val (.int e15), .val (.int (1 : Int32)), .val (.int (Int32.ofNat c2468')), .val (.int (Int32.ofNat c2471')), .val (.int (1 : Int32)), .unset] [(.int ((Int32.ofNat c2468') + (1 : Int32))), (.int (Int32.ofNat c2471'))]) (fun _ kz => XS.iadd X2473.here hx rfl (hb hby at_340) rfl kz) ?_
          refine own_g (mkF m 344 #[.val (.int x0), .val (.int x1), .val (.ref o2212), .val (.ref d), .val (.int (1 : Int32)), .val (.ref o2265), .val (.ref o2290), .val (.ref o2303), .val (.ref o2318), .val (.ref o2355), .val (.ref o2396), .val (.int u53), .val (.int (Int32.ofNat mm)), .val (.int (0 : Int32)), .val (.int e14), .val (.int e15), .val (.int (1 : Int32)), .val (.int (Int32.ofNat c2468')), .val (.int (Int32.ofNat c2471')), .val (.int (1 : Int32)), .unset] []) (fun _ kz => XS.icmpNo X2473.here hx rfl (hb hby at_341) rfl (teq (by (try rw [← em]); rw [← q15] at G6; simpa [hc332_2476] using G6)).2 kz) ?_
          refine own_g (mkF m 345 #[.val (.int x0), .val (.int x1), .val (.ref o2212), .val (.ref d), .val (.int (1 : Int32)), .val (.ref o2265), .val (.ref o2290), .val (.ref o2303), .val (.ref o2318), .val (.ref o2355), .val (.ref o2396), .val (.int u53), .val (.int (Int32.ofNat mm)), .val (.int (0 : Int32)), .val (.int e14), .val (.int e15), .val (.int (1 : Int32)), .val (.int (Int32.ofNat c2468')), .val (.int (Int32.ofNat c2471')), .val (.int (1 : Int32)), .unset] [(.int (1 : Int32))]) (fun _ kz => XS.iconst X2473.here hx rfl (hb hby at_344) kz) ?_
          refine own_g (mkF m 349 #[.val (.int x0), .val (.int x1), .val (.ref o2212), .val (.ref d), .val (.int (1 : Int32)), .val (.ref o2265), .val (.ref o2290), .val (.ref o2303), .val (.ref o2318), .val (.ref o2355), .val (.ref o2396), .val (.int u53), .val (.int (Int32.ofNat mm)), .val (.int (0 : Int32)), .val (.int e14), .val (.int e15), .val (.int (1 : Int32)), .val (.int (Int32.ofNat c2468')), .val (.int (Int32.ofNat c2471')), .val (.int (1 : Int32)), .unset] [(.int (1 : Int32))]) (fun _ kz => XS.goto X2473.here hx rfl (pc0 := 345) (pc' := 349) rfl (hb hby at_345) (by decide) (by decide) kz) ?_
          refine own_g (mkF m 351 #[.val (.int x0), .val (.int x1), .val (.ref o2212), .val (.ref d), .val (.int (1 : Int32)), .val (.ref o2265), .val (.ref o2290), .val (.ref o2303), .val (.ref o2318), .val (.ref o2355), .val (.ref o2396), .val (.int u53), .val (.int (Int32.ofNat mm)), .val (.int (0 : Int32)), .val (.int e14), .val (.int e15), .val (.int (1 : Int32)), .val (.int (Int32.ofNat c2468')), .val (.int (Int32.ofNat c2471')), .val (.int (1 : Int32)), .val (.int (1 : Int32))] []) (fun _ kz => XS.istore X2473.here hx rfl (hb hby at_349) rfl (l' := #[.val (.int x0), .val (.int x1), .val (.ref o2212), .val (.ref d), .val (.int (1 : Int32)), .val (.ref o2265), .val (.ref o2290), .val (.ref o2303), .val (.ref o2318), .val (.ref o2355), .val (.ref o2396), .val (.int u53), .val (.int (Int32.ofNat mm)), .val (.int (0 : Int32)), .val (.int e14), .val (.int e15), .val (.int (1 : Int32)), .val (.int (Int32.ofNat c2468')), .val (.int (Int32.ofNat c2471')), .val (.int (1 : Int32)), .val (.int (1 : Int32))]) rfl kz) ?_
          refine own_g (mkF m 353 #[.val (.int x0), .val (.int x1), .val (.ref o2212), .val (.ref d), .val (.int (1 : Int32)), .val (.ref o2265), .val (.ref o2290), .val (.ref o2303), .val (.ref o2318), .val (.ref o2355), .val (.ref o2396), .val (.int u53), .val (.int (Int32.ofNat mm)), .val (.int (0 : Int32)), .val (.int e14), .val (.int e15), .val (.int (1 : Int32)), .val (.int (Int32.ofNat c2468')), .val (.int (Int32.ofNat c2471')), .val (.int (1 : Int32)), .val (.int (1 : Int32))] [(.int (1 : Int32))]) (fun _ kz => XS.iload X2473.here hx rfl (hb hby at_351) rfl kz) ?_
          refine own_g (mkF m 356 #[.val (.int x0), .val (.int x1), .val (.ref o2212), .val (.ref d), .val (.int (1 : Int32)), .val (.ref o2265), .val (.ref o2290), .val (.ref o2303), .val (.ref o2318), .val (.ref o2355), .val (.ref o2396), .val (.int u53), .val (.int (Int32.ofNat mm)), .val (.int (0 : Int32)), .val (.int e14), .val (.int e15), .val (.int (1 : Int32)), .val (.int (Int32.ofNat c2468')), .val (.int (Int32.ofNat c2471')), .val (.int (1 : Int32)), .val (.int (1 : Int32))] []) (fun _ kz => XS.ifNo X2473.here hx rfl (hb hby at_353) rfl ((if0 _ _).trans (feq (by decide)).1) kz) ?_
          refine own_g (mkF m 358 #[.val (.int x0), .val (.int x1), .val (.ref o2212), .val (.ref d), .val (.int (1 : Int32)), .val (.ref o2265), .val (.ref o2290), .val (.ref o2303), .val (.ref o2318), .val (.ref o2355), .val (.ref o2396), .val (.int u53), .val (.int (Int32.ofNat mm)), .val (.int (0 : Int32)), .val (.int e14), .val (.int e15), .val (.int (1 : Int32)), .val (.int (Int32.ofNat c2468')), .val (.int (Int32.ofNat c2471')), .val (.int (1 : Int32)), .val (.int (1 : Int32))] [(.int (1 : Int32))]) (fun _ kz => XS.iload X2473.here hx rfl (hb hby at_356) rfl kz) ?_
          refine own_g (mkF m 361 #[.val (.int x0), .val (.int x1), .val (.ref o2212), .val (.ref d), .val (.int (1 : Int32)), .val (.ref o2265), .val (.ref o2290), .val (.ref o2303), .val (.ref o2318), .val (.ref o2355), .val (.ref o2396), .val (.int u53), .val (.int (Int32.ofNat mm)), .val (.int (0 : Int32)), .val (.int e14), .val (.int e15), .val (.int (1 : Int32)), .val (.int (Int32.ofNat c2468')), .val (.int (Int32.ofNat c2471')), .val (.int (1 : Int32)), .val (.int (1 : Int32))] []) (fun _ kz => XS.ifNo X2473.here hx rfl (hb hby at_358) rfl ((if0 _ _).trans (feq (by decide)).1) kz) ?_
          refine own_g (mkF m 363 #[.val (.int x0), .val (.int x1), .val (.ref o2212), .val (.ref d), .val (.int (1 : Int32)), .val (.ref o2265), .val (.ref o2290), .val (.ref o2303), .val (.ref o2318), .val (.ref o2355), .val (.ref o2396), .val (.int u53), .val (.int (Int32.ofNat mm)), .val (.int (0 : Int32)), .val (.int e14), .val (.int e15), .val (.int (1 : Int32)), .val (.int (Int32.ofNat c2468')), .val (.int (Int32.ofNat c2471')), .val (.int (1 : Int32)), .val (.int (1 : Int32))] [(.int (1 : Int32))]) (fun _ kz => XS.iload X2473.here hx rfl (hb hby at_361) rfl kz) ?_
          refine own_g (mkF m 366 #[.val (.int x0), .val (.int x1), .val (.ref o2212), .val (.ref d), .val (.int (1 : Int32)), .val (.ref o2265), .val (.ref o2290), .val (.ref o2303), .val (.ref o2318), .val (.ref o2355), .val (.ref o2396), .val (.int u53), .val (.int (Int32.ofNat mm)), .val (.int (0 : Int32)), .val (.int e14), .val (.int e15), .val (.int (1 : Int32)), .val (.int (Int32.ofNat c2468')), .val (.int (Int32.ofNat c2471')), .val (.int (1 : Int32)), .val (.int (1 : Int32))] []) (fun _ kz => XS.ifNo X2473.here hx rfl (hb hby at_363) rfl ((if0 _ _).trans (feq (by decide)).1) kz) ?_
          refine own_g (mkF m 367 #[.val (.int x0), .val (.int x1), .val (.ref o2212), .val (.ref d), .val (.int (1 : Int32)), .val (.ref o2265), .val (.ref o2290), .val (.ref o2303), .val (.ref o2318), .val (.ref o2355), .val (.ref o2396), .val (.int u53), .val (.int (Int32.ofNat mm)), .val (.int (0 : Int32)), .val (.int e14), .val (.int e15), .val (.int (1 : Int32)), .val (.int (Int32.ofNat c2468')), .val (.int (Int32.ofNat c2471')), .val (.int (1 : Int32)), .val (.int (1 : Int32))] [(.int (1 : Int32))]) (fun _ kz => XS.iconst X2473.here hx rfl (hb hby at_366) kz) ?_
          refine own_g (mkF m 371 #[.val (.int x0), .val (.int x1), .val (.ref o2212), .val (.ref d), .val (.int (1 : Int32)), .val (.ref o2265), .val (.ref o2290), .val (.ref o2303), .val (.ref o2318), .val (.ref o2355), .val (.ref o2396), .val (.int u53), .val (.int (Int32.ofNat mm)), .val (.int (0 : Int32)), .val (.int e14), .val (.int e15), .val (.int (1 : Int32)), .val (.int (Int32.ofNat c2468')), .val (.int (Int32.ofNat c2471')), .val (.int (1 : Int32)), .val (.int (1 : Int32))] [(.int (1 : Int32))]) (fun _ kz => XS.goto X2473.here hx rfl (pc0 := 367) (pc' := 371) rfl (hb hby at_367) (by decide) (by decide) kz) ?_
          exact own_retZW X2473 hS2220 (by rw [e2473]; exact z2472) hx hret hlk (hb hby at_371) rfl (by decide) (by decide) (by first | exact ⟨rfl, N2473⟩ | (rw [e2473]; exact ⟨rfl, N2473⟩))
        · refine own_g (mkF m 335 #[.val (.int x0), .val (.int x1), .val (.ref o2212), .val (.ref d), .val (.int (1 : Int32)), .val (.ref o2265), .val (.ref o2290), .val (.ref o2303), .val (.ref o2318), .val (.ref o2355), .val (.ref o2396), .val (.int u53), .val (.int (Int32.ofNat mm)), .val (.int (0 : Int32)), .val (.int e14), .val (.int e15), .val (.int (1 : Int32)), .val (.int (Int32.ofNat c2468')), .val (.int (Int32.ofNat c2471')), .val (.int (1 : Int32)), .unset] [(.int (Int32.ofNat c2468')), (.int (Int32.ofNat c2471'))]) (fun _ kz => XS.ifNo X2473.here hx rfl (hb hby at_332) rfl ((if0 _ _).trans (feq hc332_2476).1) kz) ?_
          refine own_g (mkF m 336 #[.val (.int x0), .val (.int x1), .val (.ref o2212), .val (.ref d), .val (.int (1 : Int32)), .val (.ref o2265), .val (.ref o2290), .val (.ref o2303), .val (.ref o2318), .val (.ref o2355), .val (.ref o2396), .val (.int u53), .val (.int (Int32.ofNat mm)), .val (.int (0 : Int32)), .val (.int e14), .val (.int e15), .val (.int (1 : Int32)), .val (.int (Int32.ofNat c2468')), .val (.int (Int32.ofNat c2471')), .val (.int (1 : Int32)), .unset] [(.int (0 : Int32)), (.int (Int32.ofNat c2468')), (.int (Int32.ofNat c2471'))]) (fun _ kz => XS.iconst X2473.here hx rfl (hb hby at_335) kz) ?_
          refine own_g (mkF m 340 #[.val (.int x0), .val (.int x1), .val (.ref o2212), .val (.ref d), .val (.int (1 : Int32)), .val (.ref o2265), .val (.ref o2290), .val (.ref o2303), .val (.ref o2318), .val (.ref o2355), .val (.ref o2396), .val (.int u53), .val (.int (Int32.ofNat mm)), .val (.int (0 : Int32)), .val (.int e14), .val (.int e15), .val (.int (1 : Int32)), .val (.int (Int32.ofNat c2468')), .val (.int (Int32.ofNat c2471')), .val (.int (1 : Int32)), .unset] [(.int (0 : Int32)), (.int (Int32.ofNat c2468')), (.int (Int32.ofNat c2471'))]) (fun _ kz => XS.goto X2473.here hx rfl (pc0 := 336) (pc' := 340) rfl (hb hby at_336) (by decide) (by decide) kz) ?_
          refine own_g (mkF m 341 #[.val (.int x0), .val (.int x1), .val (.ref o2212), .val (.ref d), .val (.int (1 : Int32)), .val (.ref o2265), .val (.ref o2290), .val (.ref o2303), .val (.ref o2318), .val (.ref o2355), .val (.ref o2396), .val (.int u53), .val (.int (Int32.ofNat mm)), .val (.int (0 : Int32)), .val (.int e14), .val (.int e15), .val (.int (1 : Int32)), .val (.int (Int32.ofNat c2468')), .val (.int (Int32.ofNat c2471')), .val (.int (1 : Int32)), .unset] [(.int ((Int32.ofNat c2468') + (0 : Int32))), (.int (Int32.ofNat c2471'))]) (fun _ kz => XS.iadd X2473.here hx rfl (hb hby at_340) rfl kz) ?_
          refine own_g (mkF m 344 #[.val (.int x0), .val (.int x1), .val (.ref o2212), .val (.ref d), .val (.int (1 : Int32)), .val (.ref o2265), .val (.ref o2290), .val (.ref o2303), .val (.ref o2318), .val (.ref o2355), .val (.ref o2396), .val (.int u53), .val (.int (Int32.ofNat mm)), .val (.int (0 : Int32)), .val (.int e14), .val (.int e15), .val (.int (1 : Int32)), .val (.int (Int32.ofNat c2468')), .val (.int (Int32.ofNat c2471')), .val (.int (1 : Int32)), .unset] []) (fun _ kz => XS.icmpNo X2473.here hx rfl (hb hby at_341) rfl (teq (by (try rw [← em]); rw [← q15] at G6; simpa [hc332_2476] using G6)).2 kz) ?_
          refine own_g (mkF m 345 #[.val (.int x0), .val (.int x1), .val (.ref o2212), .val (.ref d), .val (.int (1 : Int32)), .val (.ref o2265), .val (.ref o2290), .val (.ref o2303), .val (.ref o2318), .val (.ref o2355), .val (.ref o2396), .val (.int u53), .val (.int (Int32.ofNat mm)), .val (.int (0 : Int32)), .val (.int e14), .val (.int e15), .val (.int (1 : Int32)), .val (.int (Int32.ofNat c2468')), .val (.int (Int32.ofNat c2471')), .val (.int (1 : Int32)), .unset] [(.int (1 : Int32))]) (fun _ kz => XS.iconst X2473.here hx rfl (hb hby at_344) kz) ?_
          refine own_g (mkF m 349 #[.val (.int x0), .val (.int x1), .val (.ref o2212), .val (.ref d), .val (.int (1 : Int32)), .val (.ref o2265), .val (.ref o2290), .val (.ref o2303), .val (.ref o2318), .val (.ref o2355), .val (.ref o2396), .val (.int u53), .val (.int (Int32.ofNat mm)), .val (.int (0 : Int32)), .val (.int e14), .val (.int e15), .val (.int (1 : Int32)), .val (.int (Int32.ofNat c2468')), .val (.int (Int32.ofNat c2471')), .val (.int (1 : Int32)), .unset] [(.int (1 : Int32))]) (fun _ kz => XS.goto X2473.here hx rfl (pc0 := 345) (pc' := 349) rfl (hb hby at_345) (by decide) (by decide) kz) ?_
          refine own_g (mkF m 351 #[.val (.int x0), .val (.int x1), .val (.ref o2212), .val (.ref d), .val (.int (1 : Int32)), .val (.ref o2265), .val (.ref o2290), .val (.ref o2303), .val (.ref o2318), .val (.ref o2355), .val (.ref o2396), .val (.int u53), .val (.int (Int32.ofNat mm)), .val (.int (0 : Int32)), .val (.int e14), .val (.int e15), .val (.int (1 : Int32)), .val (.int (Int32.ofNat c2468')), .val (.int (Int32.ofNat c2471')), .val (.int (1 : Int32)), .val (.int (1 : Int32))] []) (fun _ kz => XS.istore X2473.here hx rfl (hb hby at_349) rfl (l' := #[.val (.int x0), .val (.int x1), .val (.ref o2212), .val (.ref d), .val (.int (1 : Int32)), .val (.ref o2265), .val (.ref o2290), .val (.ref o2303), .val (.ref o2318), .val (.ref o2355), .val (.ref o2396), .val (.int u53), .val (.int (Int32.ofNat mm)), .val (.int (0 : Int32)), .val (.int e14), .val (.int e15), .val (.int (1 : Int32)), .val (.int (Int32.ofNat c2468')), .val (.int (Int32.ofNat c2471')), .val (.int (1 : Int32)), .val (.int (1 : Int32))]) rfl kz) ?_
          refine own_g (mkF m 353 #[.val (.int x0), .val (.int x1), .val (.ref o2212), .val (.ref d), .val (.int (1 : Int32)), .val (.ref o2265), .val (.ref o2290), .val (.ref o2303), .val (.ref o2318), .val (.ref o2355), .val (.ref o2396), .val (.int u53), .val (.int (Int32.ofNat mm)), .val (.int (0 : Int32)), .val (.int e14), .val (.int e15), .val (.int (1 : Int32)), .val (.int (Int32.ofNat c2468')), .val (.int (Int32.ofNat c2471')), .val (.int (1 : Int32)), .val (.int (1 : Int32))] [(.int (1 : Int32))]) (fun _ kz => XS.iload X2473.here hx rfl (hb hby at_351) rfl kz) ?_
          refine own_g (mkF m 356 #[.val (.int x0), .val (.int x1), .val (.ref o2212), .val (.ref d), .val (.int (1 : Int32)), .val (.ref o2265), .val (.ref o2290), .val (.ref o2303), .val (.ref o2318), .val (.ref o2355), .val (.ref o2396), .val (.int u53), .val (.int (Int32.ofNat mm)), .val (.int (0 : Int32)), .val (.int e14), .val (.int e15), .val (.int (1 : Int32)), .val (.int (Int32.ofNat c2468')), .val (.int (Int32.ofNat c2471')), .val (.int (1 : Int32)), .val (.int (1 : Int32))] []) (fun _ kz => XS.ifNo X2473.here hx rfl (hb hby at_353) rfl ((if0 _ _).trans (feq (by decide)).1) kz) ?_
          refine own_g (mkF m 358 #[.val (.int x0), .val (.int x1), .val (.ref o2212), .val (.ref d), .val (.int (1 : Int32)), .val (.ref o2265), .val (.ref o2290), .val (.ref o2303), .val (.ref o2318), .val (.ref o2355), .val (.ref o2396), .val (.int u53), .val (.int (Int32.ofNat mm)), .val (.int (0 : Int32)), .val (.int e14), .val (.int e15), .val (.int (1 : Int32)), .val (.int (Int32.ofNat c2468')), .val (.int (Int32.ofNat c2471')), .val (.int (1 : Int32)), .val (.int (1 : Int32))] [(.int (1 : Int32))]) (fun _ kz => XS.iload X2473.here hx rfl (hb hby at_356) rfl kz) ?_
          refine own_g (mkF m 361 #[.val (.int x0), .val (.int x1), .val (.ref o2212), .val (.ref d), .val (.int (1 : Int32)), .val (.ref o2265), .val (.ref o2290), .val (.ref o2303), .val (.ref o2318), .val (.ref o2355), .val (.ref o2396), .val (.int u53), .val (.int (Int32.ofNat mm)), .val (.int (0 : Int32)), .val (.int e14), .val (.int e15), .val (.int (1 : Int32)), .val (.int (Int32.ofNat c2468')), .val (.int (Int32.ofNat c2471')), .val (.int (1 : Int32)), .val (.int (1 : Int32))] []) (fun _ kz => XS.ifNo X2473.here hx rfl (hb hby at_358) rfl ((if0 _ _).trans (feq (by decide)).1) kz) ?_
          refine own_g (mkF m 363 #[.val (.int x0), .val (.int x1), .val (.ref o2212), .val (.ref d), .val (.int (1 : Int32)), .val (.ref o2265), .val (.ref o2290), .val (.ref o2303), .val (.ref o2318), .val (.ref o2355), .val (.ref o2396), .val (.int u53), .val (.int (Int32.ofNat mm)), .val (.int (0 : Int32)), .val (.int e14), .val (.int e15), .val (.int (1 : Int32)), .val (.int (Int32.ofNat c2468')), .val (.int (Int32.ofNat c2471')), .val (.int (1 : Int32)), .val (.int (1 : Int32))] [(.int (1 : Int32))]) (fun _ kz => XS.iload X2473.here hx rfl (hb hby at_361) rfl kz) ?_
          refine own_g (mkF m 366 #[.val (.int x0), .val (.int x1), .val (.ref o2212), .val (.ref d), .val (.int (1 : Int32)), .val (.ref o2265), .val (.ref o2290), .val (.ref o2303), .val (.ref o2318), .val (.ref o2355), .val (.ref o2396), .val (.int u53), .val (.int (Int32.ofNat mm)), .val (.int (0 : Int32)), .val (.int e14), .val (.int e15), .val (.int (1 : Int32)), .val (.int (Int32.ofNat c2468')), .val (.int (Int32.ofNat c2471')), .val (.int (1 : Int32)), .val (.int (1 : Int32))] []) (fun _ kz => XS.ifNo X2473.here hx rfl (hb hby at_363) rfl ((if0 _ _).trans (feq (by decide)).1) kz) ?_
          refine own_g (mkF m 367 #[.val (.int x0), .val (.int x1), .val (.ref o2212), .val (.ref d), .val (.int (1 : Int32)), .val (.ref o2265), .val (.ref o2290), .val (.ref o2303), .val (.ref o2318), .val (.ref o2355), .val (.ref o2396), .val (.int u53), .val (.int (Int32.ofNat mm)), .val (.int (0 : Int32)), .val (.int e14), .val (.int e15), .val (.int (1 : Int32)), .val (.int (Int32.ofNat c2468')), .val (.int (Int32.ofNat c2471')), .val (.int (1 : Int32)), .val (.int (1 : Int32))] [(.int (1 : Int32))]) (fun _ kz => XS.iconst X2473.here hx rfl (hb hby at_366) kz) ?_
          refine own_g (mkF m 371 #[.val (.int x0), .val (.int x1), .val (.ref o2212), .val (.ref d), .val (.int (1 : Int32)), .val (.ref o2265), .val (.ref o2290), .val (.ref o2303), .val (.ref o2318), .val (.ref o2355), .val (.ref o2396), .val (.int u53), .val (.int (Int32.ofNat mm)), .val (.int (0 : Int32)), .val (.int e14), .val (.int e15), .val (.int (1 : Int32)), .val (.int (Int32.ofNat c2468')), .val (.int (Int32.ofNat c2471')), .val (.int (1 : Int32)), .val (.int (1 : Int32))] [(.int (1 : Int32))]) (fun _ kz => XS.goto X2473.here hx rfl (pc0 := 367) (pc' := 371) rfl (hb hby at_367) (by decide) (by decide) kz) ?_
          exact own_retZW X2473 hS2220 (by rw [e2473]; exact z2472) hx hret hlk (hb hby at_371) rfl (by decide) (by decide) (by first | exact ⟨rfl, N2473⟩ | (rw [e2473]; exact ⟨rfl, N2473⟩))
    | 1, _ =>
      show own_E p e below _ (T2455.setTop (mkF m 249 #[.val (.int x0), .val (.int x1), .val (.ref o2212), .val (.ref d), .val (.int (1 : Int32)), .val (.ref o2265), .val (.ref o2290), .val (.ref o2303), .val (.ref o2318), .val (.ref o2355), .val (.ref o2396), .val (.int u53), .val (.int mv), .val (.int (1 : Int32)), .val (.int e14), .val (.int e15), .unset, .unset, .unset, .unset, .unset] []))
      refine own_g (mkF m 250 #[.val (.int x0), .val (.int x1), .val (.ref o2212), .val (.ref d), .val (.int (1 : Int32)), .val (.ref o2265), .val (.ref o2290), .val (.ref o2303), .val (.ref o2318), .val (.ref o2355), .val (.ref o2396), .val (.int u53), .val (.int mv), .val (.int (1 : Int32)), .val (.int e14), .val (.int e15), .unset, .unset, .unset, .unset, .unset] [(.ref d)]) (fun _ kz => XS.aloadN X2455.here hx rfl (hb hby at_249) rfl rfl kz) ?_
      refine own_g (mkF m 252 #[.val (.int x0), .val (.int x1), .val (.ref o2212), .val (.ref d), .val (.int (1 : Int32)), .val (.ref o2265), .val (.ref o2290), .val (.ref o2303), .val (.ref o2318), .val (.ref o2355), .val (.ref o2396), .val (.int u53), .val (.int mv), .val (.int (1 : Int32)), .val (.int e14), .val (.int e15), .unset, .unset, .unset, .unset, .unset] [(.int mv), (.ref d)]) (fun _ kz => XS.iload X2455.here hx rfl (hb hby at_250) rfl kz) ?_
      have em : mv = Int32.ofNat mv.toNatClampNeg := Gm.symm
      obtain ⟨mm, hmm⟩ : ∃ z, z = mv.toNatClampNeg := ⟨_, rfl⟩
      rw [← hmm] at em Gmc
      rw [em]
      show own_E p e below _ (T2455.setTop (mkF m 252 #[.val (.int x0), .val (.int x1), .val (.ref o2212), .val (.ref d), .val (.int (1 : Int32)), .val (.ref o2265), .val (.ref o2290), .val (.ref o2303), .val (.ref o2318), .val (.ref o2355), .val (.ref o2396), .val (.int u53), .val (.int (Int32.ofNat mm)), .val (.int (1 : Int32)), .val (.int e14), .val (.int e15), .unset, .unset, .unset, .unset, .unset] [(.int (Int32.ofNat mm)), (.ref d)]))
      refine own_callV (rest := []) (a := d) (as := [(.int (Int32.ofNat mm))]) X2455 hx hZ hown e2455 (own_c_unm l Z a0 hw lo d (bb 1) (bb 7) sb fa3 ka3 ma3 ca3 mm h2455 n0 s2456 Gmc (by omega) f2464) f2458 (own_w hw 205 rfl) (own_w hw 206 rfl) (own_w hw 208 rfl) (own_w hw 207 rfl) (own_w hw 14 rfl) (own_w hw 209 rfl) (by decide) own_pd5 rfl (by rw [hml]; rfl) rfl (hb hby at_252) 0 (by show 2 * 0 + _ ≤ _; exact Nat.le_of_eq rfl) (by decide) (by decide) (by decide) (by decide) ?_
      rintro _ T2477 L2477 X2477 ⟨rfl, Nq2477, KL2477, f2477', k2477', m2477', c2477', eq2477, D2477⟩
      have N2477 := Fr.app N2455 Nq2477
      have zq2477 : n0 ≤ T2477.heap.size := Nat.le_trans s2456 KL2477.1
      have z2478 : T2220.heap.size ≤ T2477.heap.size := Nat.le_trans z2457 KL2477.1
      have Ai4 := own_IA.kl f2459 KL2477 (by omega) (by omega)
      show own_E p e below _ (T2477.setTop (mkF m 255 #[.val (.int x0), .val (.int x1), .val (.ref o2212), .val (.ref d), .val (.int (1 : Int32)), .val (.ref o2265), .val (.ref o2290), .val (.ref o2303), .val (.ref o2318), .val (.ref o2355), .val (.ref o2396), .val (.int u53), .val (.int (Int32.ofNat mm)), .val (.int (1 : Int32)), .val (.int e14), .val (.int e15), .unset, .unset, .unset, .unset, .unset] []))
      have es4 : (f2477', k2477', m2477', c2477') = own_un (ca3 - mv.toNatClampNeg) (fa3, ka3, ma3, ca3) := by rw [← hmm]; exact eq2477
      simp only [← es4] at G4 G4c G5c G5 G6
      refine own_g (mkF m 256 #[.val (.int x0), .val (.int x1), .val (.ref o2212), .val (.ref d), .val (.int (1 : Int32)), .val (.ref o2265), .val (.ref o2290), .val (.ref o2303), .val (.ref o2318), .val (.ref o2355), .val (.ref o2396), .val (.int u53), .val (.int (Int32.ofNat mm)), .val (.int (1 : Int32)), .val (.int e14), .val (.int e15), .unset, .unset, .unset, .unset, .unset] [(.ref d)]) (fun _ kz => XS.aloadN X2477.here hx rfl (hb hby at_255) rfl rfl kz) ?_
      refine own_callV (rest := []) (a := d) (as := []) X2477 hx hZ hown rfl (own_c_chm l Z a0 hw lo d (bb 1) (bb 7) sb f2477' k2477' m2477' c2477' T2477.heap n0 zq2477 D2477) D2477.1 (own_w hw 210 rfl) (own_w hw 211 rfl) (own_w hw 213 rfl) (own_w hw 212 rfl) (own_w hw 14 rfl) (own_w hw 214 rfl) (by decide) own_pd11 rfl (by rw [hml]; rfl) rfl (hb hby at_256) 0 (by show 2 * 0 + _ ≤ _; exact Nat.le_of_eq rfl) (by decide) (by decide) (by decide) (by decide) ?_
      rintro _ T2479 L2479 X2479 ⟨rfl, rfl, e2479⟩
      have N2479 := Fr.app N2477 (Fr.nil n0)
      show own_E p e below _ (T2479.setTop (mkF m 259 #[.val (.int x0), .val (.int x1), .val (.ref o2212), .val (.ref d), .val (.int (1 : Int32)), .val (.ref o2265), .val (.ref o2290), .val (.ref o2303), .val (.ref o2318), .val (.ref o2355), .val (.ref o2396), .val (.int u53), .val (.int (Int32.ofNat mm)), .val (.int (1 : Int32)), .val (.int e14), .val (.int e15), .unset, .unset, .unset, .unset, .unset] [(.int (Int32.ofNat c2477'))]))
      refine own_g (mkF m 261 #[.val (.int x0), .val (.int x1), .val (.ref o2212), .val (.ref d), .val (.int (1 : Int32)), .val (.ref o2265), .val (.ref o2290), .val (.ref o2303), .val (.ref o2318), .val (.ref o2355), .val (.ref o2396), .val (.int u53), .val (.int (Int32.ofNat mm)), .val (.int (1 : Int32)), .val (.int e14), .val (.int e15), .unset, .unset, .unset, .unset, .unset] [(.int (Int32.ofNat mm)), (.int (Int32.ofNat c2477'))]) (fun _ kz => XS.iload X2479.here hx rfl (hb hby at_259) rfl kz) ?_
      refine own_g (mkF m 264 #[.val (.int x0), .val (.int x1), .val (.ref o2212), .val (.ref d), .val (.int (1 : Int32)), .val (.ref o2265), .val (.ref o2290), .val (.ref o2303), .val (.ref o2318), .val (.ref o2355), .val (.ref o2396), .val (.int u53), .val (.int (Int32.ofNat mm)), .val (.int (1 : Int32)), .val (.int e14), .val (.int e15), .unset, .unset, .unset, .unset, .unset] []) (fun _ kz => XS.icmpNo X2479.here hx rfl (hb hby at_261) rfl (teq (by rw [← em]; exact G4)).2 kz) ?_
      refine own_g (mkF m 265 #[.val (.int x0), .val (.int x1), .val (.ref o2212), .val (.ref d), .val (.int (1 : Int32)), .val (.ref o2265), .val (.ref o2290), .val (.ref o2303), .val (.ref o2318), .val (.ref o2355), .val (.ref o2396), .val (.int u53), .val (.int (Int32.ofNat mm)), .val (.int (1 : Int32)), .val (.int e14), .val (.int e15), .unset, .unset, .unset, .unset, .unset] [(.int (1 : Int32))]) (fun _ kz => XS.iconst X2479.here hx rfl (hb hby at_264) kz) ?_
      refine own_g (mkF m 269 #[.val (.int x0), .val (.int x1), .val (.ref o2212), .val (.ref d), .val (.int (1 : Int32)), .val (.ref o2265), .val (.ref o2290), .val (.ref o2303), .val (.ref o2318), .val (.ref o2355), .val (.ref o2396), .val (.int u53), .val (.int (Int32.ofNat mm)), .val (.int (1 : Int32)), .val (.int e14), .val (.int e15), .unset, .unset, .unset, .unset, .unset] [(.int (1 : Int32))]) (fun _ kz => XS.goto X2479.here hx rfl (pc0 := 265) (pc' := 269) rfl (hb hby at_265) (by decide) (by decide) kz) ?_
      refine own_g (mkF m 271 #[.val (.int x0), .val (.int x1), .val (.ref o2212), .val (.ref d), .val (.int (1 : Int32)), .val (.ref o2265), .val (.ref o2290), .val (.ref o2303), .val (.ref o2318), .val (.ref o2355), .val (.ref o2396), .val (.int u53), .val (.int (Int32.ofNat mm)), .val (.int (1 : Int32)), .val (.int e14), .val (.int e15), .val (.int (1 : Int32)), .unset, .unset, .unset, .unset] []) (fun _ kz => XS.istore X2479.here hx rfl (hb hby at_269) rfl (l' := #[.val (.int x0), .val (.int x1), .val (.ref o2212), .val (.ref d), .val (.int (1 : Int32)), .val (.ref o2265), .val (.ref o2290), .val (.ref o2303), .val (.ref o2318), .val (.ref o2355), .val (.ref o2396), .val (.int u53), .val (.int (Int32.ofNat mm)), .val (.int (1 : Int32)), .val (.int e14), .val (.int e15), .val (.int (1 : Int32)), .unset, .unset, .unset, .unset]) rfl kz) ?_
      refine own_g (mkF m 272 #[.val (.int x0), .val (.int x1), .val (.ref o2212), .val (.ref d), .val (.int (1 : Int32)), .val (.ref o2265), .val (.ref o2290), .val (.ref o2303), .val (.ref o2318), .val (.ref o2355), .val (.ref o2396), .val (.int u53), .val (.int (Int32.ofNat mm)), .val (.int (1 : Int32)), .val (.int e14), .val (.int e15), .val (.int (1 : Int32)), .unset, .unset, .unset, .unset] [(.ref d)]) (fun _ kz => XS.aloadN X2479.here hx rfl (hb hby at_271) rfl rfl kz) ?_
      refine own_g (mkF m 274 #[.val (.int x0), .val (.int x1), .val (.ref o2212), .val (.ref d), .val (.int (1 : Int32)), .val (.ref o2265), .val (.ref o2290), .val (.ref o2303), .val (.ref o2318), .val (.ref o2355), .val (.ref o2396), .val (.int u53), .val (.int (Int32.ofNat mm)), .val (.int (1 : Int32)), .val (.int e14), .val (.int e15), .val (.int (1 : Int32)), .unset, .unset, .unset, .unset] [(.ref o2265), (.ref d)]) (fun _ kz => XS.aload X2479.here hx rfl (hb hby at_272) rfl rfl kz) ?_
      refine own_g (mkF m 276 #[.val (.int x0), .val (.int x1), .val (.ref o2212), .val (.ref d), .val (.int (1 : Int32)), .val (.ref o2265), .val (.ref o2290), .val (.ref o2303), .val (.ref o2318), .val (.ref o2355), .val (.ref o2396), .val (.int u53), .val (.int (Int32.ofNat mm)), .val (.int (1 : Int32)), .val (.int e14), .val (.int e15), .val (.int (1 : Int32)), .unset, .unset, .unset, .unset] [(.int (1 : Int32)), (.ref o2265), (.ref d)]) (fun _ kz => XS.iload X2479.here hx rfl (hb hby at_274) rfl kz) ?_
      refine own_ildI X2479 hx hZ e2479 Ai4 (hb hby at_276) (by decide) (i := 1) rfl (by decide) (x := (1 : Int32)) rfl ?_
      show own_E p e below _ (T2479.setTop (mkF m 277 #[.val (.int x0), .val (.int x1), .val (.ref o2212), .val (.ref d), .val (.int (1 : Int32)), .val (.ref o2265), .val (.ref o2290), .val (.ref o2303), .val (.ref o2318), .val (.ref o2355), .val (.ref o2396), .val (.int u53), .val (.int (Int32.ofNat mm)), .val (.int (1 : Int32)), .val (.int e14), .val (.int e15), .val (.int (1 : Int32)), .unset, .unset, .unset, .unset] [(.int (1 : Int32)), (.ref d)]))
      refine own_callV (rest := []) (a := d) (as := [(.int (1 : Int32))]) X2479 hx hZ hown e2479 (own_c_chg1 l Z a0 hw lo d (bb 1) (bb 7) sb f2477' k2477' m2477' c2477' T2477.heap n0 zq2477 (by omega) D2477) D2477.1 (own_w hw 181 rfl) (own_w hw 182 rfl) (own_w hw 184 rfl) (own_w hw 183 rfl) (own_w hw 14 rfl) (own_w hw 185 rfl) (by decide) own_pd5 rfl (by rw [hml]; rfl) rfl (hb hby at_277) 0 (by show 2 * 0 + _ ≤ _; exact Nat.le_of_eq rfl) (by decide) (by decide) (by decide) (by decide) ?_
      rintro _ T2480 L2480 X2480 ⟨rfl, Nq2480, KL2480, f2480', k2480', m2480', c2480', eq2480, lc2480, D2480⟩
      have N2480 := Fr.app N2479 Nq2480
      have zq2480 : n0 ≤ T2480.heap.size := Nat.le_trans zq2477 KL2480.1
      have z2481 : T2220.heap.size ≤ T2480.heap.size := Nat.le_trans z2478 KL2480.1
      have Ai5 := own_IA.kl Ai4 KL2480 (by omega) (by omega)
      show own_E p e below _ (T2480.setTop (mkF m 280 #[.val (.int x0), .val (.int x1), .val (.ref o2212), .val (.ref d), .val (.int (1 : Int32)), .val (.ref o2265), .val (.ref o2290), .val (.ref o2303), .val (.ref o2318), .val (.ref o2355), .val (.ref o2396), .val (.int u53), .val (.int (Int32.ofNat mm)), .val (.int (1 : Int32)), .val (.int e14), .val (.int e15), .val (.int (1 : Int32)), .unset, .unset, .unset, .unset] []))
      simp only [← eq2480] at G5c G5 G6
      refine own_g (mkF m 281 #[.val (.int x0), .val (.int x1), .val (.ref o2212), .val (.ref d), .val (.int (1 : Int32)), .val (.ref o2265), .val (.ref o2290), .val (.ref o2303), .val (.ref o2318), .val (.ref o2355), .val (.ref o2396), .val (.int u53), .val (.int (Int32.ofNat mm)), .val (.int (1 : Int32)), .val (.int e14), .val (.int e15), .val (.int (1 : Int32)), .unset, .unset, .unset, .unset] [(.ref d)]) (fun _ kz => XS.aloadN X2480.here hx rfl (hb hby at_280) rfl rfl kz) ?_
      refine own_callV (rest := []) (a := d) (as := []) X2480 hx hZ hown rfl (own_c_chm l Z a0 hw lo d (bb 1) (bb 7) sb f2480' k2480' m2480' c2480' T2480.heap n0 zq2480 D2480) D2480.1 (own_w hw 210 rfl) (own_w hw 211 rfl) (own_w hw 213 rfl) (own_w hw 212 rfl) (own_w hw 14 rfl) (own_w hw 214 rfl) (by decide) own_pd11 rfl (by rw [hml]; rfl) rfl (hb hby at_281) 0 (by show 2 * 0 + _ ≤ _; exact Nat.le_of_eq rfl) (by decide) (by decide) (by decide) (by decide) ?_
      rintro _ T2482 L2482 X2482 ⟨rfl, rfl, e2482⟩
      have N2482 := Fr.app N2480 (Fr.nil n0)
      show own_E p e below _ (T2482.setTop (mkF m 284 #[.val (.int x0), .val (.int x1), .val (.ref o2212), .val (.ref d), .val (.int (1 : Int32)), .val (.ref o2265), .val (.ref o2290), .val (.ref o2303), .val (.ref o2318), .val (.ref o2355), .val (.ref o2396), .val (.int u53), .val (.int (Int32.ofNat mm)), .val (.int (1 : Int32)), .val (.int e14), .val (.int e15), .val (.int (1 : Int32)), .unset, .unset, .unset, .unset] [(.int (Int32.ofNat c2480'))]))
      refine own_g (mkF m 286 #[.val (.int x0), .val (.int x1), .val (.ref o2212), .val (.ref d), .val (.int (1 : Int32)), .val (.ref o2265), .val (.ref o2290), .val (.ref o2303), .val (.ref o2318), .val (.ref o2355), .val (.ref o2396), .val (.int u53), .val (.int (Int32.ofNat mm)), .val (.int (1 : Int32)), .val (.int e14), .val (.int e15), .val (.int (1 : Int32)), .val (.int (Int32.ofNat c2480')), .unset, .unset, .unset] []) (fun _ kz => XS.istore X2482.here hx rfl (hb hby at_284) rfl (l' := #[.val (.int x0), .val (.int x1), .val (.ref o2212), .val (.ref d), .val (.int (1 : Int32)), .val (.ref o2265), .val (.ref o2290), .val (.ref o2303), .val (.ref o2318), .val (.ref o2355), .val (.ref o2396), .val (.int u53), .val (.int (Int32.ofNat mm)), .val (.int (1 : Int32)), .val (.int e14), .val (.int e15), .val (.int (1 : Int32)), .val (.int (Int32.ofNat c2480')), .unset, .unset, .unset]) rfl kz) ?_
      refine own_g (mkF m 287 #[.val (.int x0), .val (.int x1), .val (.ref o2212), .val (.ref d), .val (.int (1 : Int32)), .val (.ref o2265), .val (.ref o2290), .val (.ref o2303), .val (.ref o2318), .val (.ref o2355), .val (.ref o2396), .val (.int u53), .val (.int (Int32.ofNat mm)), .val (.int (1 : Int32)), .val (.int e14), .val (.int e15), .val (.int (1 : Int32)), .val (.int (Int32.ofNat c2480')), .unset, .unset, .unset] [(.ref d)]) (fun _ kz => XS.aloadN X2482.here hx rfl (hb hby at_286) rfl rfl kz) ?_
      refine own_g (mkF m 289 #[.val (.int x0), .val (.int x1), .val (.ref o2212), .val (.ref d), .val (.int (1 : Int32)), .val (.ref o2265), .val (.ref o2290), .val (.ref o2303), .val (.ref o2318), .val (.ref o2355), .val (.ref o2396), .val (.int u53), .val (.int (Int32.ofNat mm)), .val (.int (1 : Int32)), .val (.int e14), .val (.int e15), .val (.int (1 : Int32)), .val (.int (Int32.ofNat c2480')), .unset, .unset, .unset] [(.ref o2265), (.ref d)]) (fun _ kz => XS.aload X2482.here hx rfl (hb hby at_287) rfl rfl kz) ?_
      refine own_g (mkF m 291 #[.val (.int x0), .val (.int x1), .val (.ref o2212), .val (.ref d), .val (.int (1 : Int32)), .val (.ref o2265), .val (.ref o2290), .val (.ref o2303), .val (.ref o2318), .val (.ref o2355), .val (.ref o2396), .val (.int u53), .val (.int (Int32.ofNat mm)), .val (.int (1 : Int32)), .val (.int e14), .val (.int e15), .val (.int (1 : Int32)), .val (.int (Int32.ofNat c2480')), .unset, .unset, .unset] [(.int (1 : Int32)), (.ref o2265), (.ref d)]) (fun _ kz => XS.iload X2482.here hx rfl (hb hby at_289) rfl kz) ?_
      refine own_ildI X2482 hx hZ e2482 Ai5 (hb hby at_291) (by decide) (i := 1) rfl (by decide) (x := (1 : Int32)) rfl ?_
      show own_E p e below _ (T2482.setTop (mkF m 292 #[.val (.int x0), .val (.int x1), .val (.ref o2212), .val (.ref d), .val (.int (1 : Int32)), .val (.ref o2265), .val (.ref o2290), .val (.ref o2303), .val (.ref o2318), .val (.ref o2355), .val (.ref o2396), .val (.int u53), .val (.int (Int32.ofNat mm)), .val (.int (1 : Int32)), .val (.int e14), .val (.int e15), .val (.int (1 : Int32)), .val (.int (Int32.ofNat c2480')), .unset, .unset, .unset] [(.int (1 : Int32)), (.ref d)]))
      refine own_callV (rest := []) (a := d) (as := [(.int (1 : Int32))]) X2482 hx hZ hown e2482 (own_c_ret1 l Z a0 hw lo d (bb 1) (bb 7) sb f2480' k2480' m2480' c2480' T2480.heap n0 zq2480 (by omega) D2480) D2480.1 (own_w hw 215 rfl) (own_w hw 216 rfl) (own_w hw 218 rfl) (own_w hw 217 rfl) (own_w hw 14 rfl) (own_w hw 219 rfl) (by decide) own_pd5 rfl (by rw [hml]; rfl) rfl (hb hby at_292) 0 (by show 2 * 0 + _ ≤ _; exact Nat.le_of_eq rfl) (by decide) (by decide) (by decide) (by decide) ?_
      rintro _ T2483 L2483 X2483 ⟨rfl, Nq2483, KL2483, f2483', k2483', m2483', c2483', eq2483, lc2483, D2483⟩
      have N2483 := Fr.app N2482 Nq2483
      have zq2483 : n0 ≤ T2483.heap.size := Nat.le_trans zq2480 KL2483.1
      have z2484 : T2220.heap.size ≤ T2483.heap.size := Nat.le_trans z2481 KL2483.1
      have Ai6 := own_IA.kl Ai5 KL2483 (by omega) (by omega)
      show own_E p e below _ (T2483.setTop (mkF m 295 #[.val (.int x0), .val (.int x1), .val (.ref o2212), .val (.ref d), .val (.int (1 : Int32)), .val (.ref o2265), .val (.ref o2290), .val (.ref o2303), .val (.ref o2318), .val (.ref o2355), .val (.ref o2396), .val (.int u53), .val (.int (Int32.ofNat mm)), .val (.int (1 : Int32)), .val (.int e14), .val (.int e15), .val (.int (1 : Int32)), .val (.int (Int32.ofNat c2480')), .unset, .unset, .unset] []))
      simp only [← eq2483] at G6
      refine own_g (mkF m 296 #[.val (.int x0), .val (.int x1), .val (.ref o2212), .val (.ref d), .val (.int (1 : Int32)), .val (.ref o2265), .val (.ref o2290), .val (.ref o2303), .val (.ref o2318), .val (.ref o2355), .val (.ref o2396), .val (.int u53), .val (.int (Int32.ofNat mm)), .val (.int (1 : Int32)), .val (.int e14), .val (.int e15), .val (.int (1 : Int32)), .val (.int (Int32.ofNat c2480')), .unset, .unset, .unset] [(.ref d)]) (fun _ kz => XS.aloadN X2483.here hx rfl (hb hby at_295) rfl rfl kz) ?_
      refine own_callV (rest := []) (a := d) (as := []) X2483 hx hZ hown rfl (own_c_chm l Z a0 hw lo d (bb 1) (bb 7) sb f2483' k2483' m2483' c2483' T2483.heap n0 zq2483 D2483) D2483.1 (own_w hw 210 rfl) (own_w hw 211 rfl) (own_w hw 213 rfl) (own_w hw 212 rfl) (own_w hw 14 rfl) (own_w hw 214 rfl) (by decide) own_pd11 rfl (by rw [hml]; rfl) rfl (hb hby at_296) 0 (by show 2 * 0 + _ ≤ _; exact Nat.le_of_eq rfl) (by decide) (by decide) (by decide) (by decide) ?_
      rintro _ T2485 L2485 X2485 ⟨rfl, rfl, e2485⟩
      have N2485 := Fr.app N2483 (Fr.nil n0)
      show own_E p e below _ (T2485.setTop (mkF m 299 #[.val (.int x0), .val (.int x1), .val (.ref o2212), .val (.ref d), .val (.int (1 : Int32)), .val (.ref o2265), .val (.ref o2290), .val (.ref o2303), .val (.ref o2318), .val (.ref o2355), .val (.ref o2396), .val (.int u53), .val (.int (Int32.ofNat mm)), .val (.int (1 : Int32)), .val (.int e14), .val (.int e15), .val (.int (1 : Int32)), .val (.int (Int32.ofNat c2480')), .unset, .unset, .unset] [(.int (Int32.ofNat c2483'))]))
      refine own_g (mkF m 301 #[.val (.int x0), .val (.int x1), .val (.ref o2212), .val (.ref d), .val (.int (1 : Int32)), .val (.ref o2265), .val (.ref o2290), .val (.ref o2303), .val (.ref o2318), .val (.ref o2355), .val (.ref o2396), .val (.int u53), .val (.int (Int32.ofNat mm)), .val (.int (1 : Int32)), .val (.int e14), .val (.int e15), .val (.int (1 : Int32)), .val (.int (Int32.ofNat c2480')), .val (.int (Int32.ofNat c2483')), .unset, .unset] []) (fun _ kz => XS.istore X2485.here hx rfl (hb hby at_299) rfl (l' := #[.val (.int x0), .val (.int x1), .val (.ref o2212), .val (.ref d), .val (.int (1 : Int32)), .val (.ref o2265), .val (.ref o2290), .val (.ref o2303), .val (.ref o2318), .val (.ref o2355), .val (.ref o2396), .val (.int u53), .val (.int (Int32.ofNat mm)), .val (.int (1 : Int32)), .val (.int e14), .val (.int e15), .val (.int (1 : Int32)), .val (.int (Int32.ofNat c2480')), .val (.int (Int32.ofNat c2483')), .unset, .unset]) rfl kz) ?_
      refine own_g (mkF m 303 #[.val (.int x0), .val (.int x1), .val (.ref o2212), .val (.ref d), .val (.int (1 : Int32)), .val (.ref o2265), .val (.ref o2290), .val (.ref o2303), .val (.ref o2318), .val (.ref o2355), .val (.ref o2396), .val (.int u53), .val (.int (Int32.ofNat mm)), .val (.int (1 : Int32)), .val (.int e14), .val (.int e15), .val (.int (1 : Int32)), .val (.int (Int32.ofNat c2480')), .val (.int (Int32.ofNat c2483')), .unset, .unset] [(.int (Int32.ofNat c2480'))]) (fun _ kz => XS.iload X2485.here hx rfl (hb hby at_301) rfl kz) ?_
      refine own_g (mkF m 305 #[.val (.int x0), .val (.int x1), .val (.ref o2212), .val (.ref d), .val (.int (1 : Int32)), .val (.ref o2265), .val (.ref o2290), .val (.ref o2303), .val (.ref o2318), .val (.ref o2355), .val (.ref o2396), .val (.int u53), .val (.int (Int32.ofNat mm)), .val (.int (1 : Int32)), .val (.int e14), .val (.int e15), .val (.int (1 : Int32)), .val (.int (Int32.ofNat c2480')), .val (.int (Int32.ofNat c2483')), .unset, .unset] [(.int (Int32.ofNat mm)), (.int (Int32.ofNat c2480'))]) (fun _ kz => XS.iload X2485.here hx rfl (hb hby at_303) rfl kz) ?_
      refine own_g (mkF m 307 #[.val (.int x0), .val (.int x1), .val (.ref o2212), .val (.ref d), .val (.int (1 : Int32)), .val (.ref o2265), .val (.ref o2290), .val (.ref o2303), .val (.ref o2318), .val (.ref o2355), .val (.ref o2396), .val (.int u53), .val (.int (Int32.ofNat mm)), .val (.int (1 : Int32)), .val (.int e14), .val (.int e15), .val (.int (1 : Int32)), .val (.int (Int32.ofNat c2480')), .val (.int (Int32.ofNat c2483')), .unset, .unset] [(.int e14), (.int (Int32.ofNat mm)), (.int (Int32.ofNat c2480'))]) (fun _ kz => XS.iload X2485.here hx rfl (hb hby at_305) rfl kz) ?_
      by_cases hc307_2486 : e14 = (0 : Int32)
      · refine own_g (mkF m 314 #[.val (.int x0), .val (.int x1), .val (.ref o2212), .val (.ref d), .val (.int (1 : Int32)), .val (.ref o2265), .val (.ref o2290), .val (.ref o2303), .val (.ref o2318), .val (.ref o2355), .val (.ref o2396), .val (.int u53), .val (.int (Int32.ofNat mm)), .val (.int (1 : Int32)), .val (.int e14), .val (.int e15), .val (.int (1 : Int32)), .val (.int (Int32.ofNat c2480')), .val (.int (Int32.ofNat c2483')), .unset, .unset] [(.int (Int32.ofNat mm)), (.int (Int32.ofNat c2480'))]) (fun _ kz => XS.ifYes X2485.here hx rfl (pc0 := 307) (pc' := 314) rfl (hb hby at_307) rfl ((if0 _ _).trans (teq hc307_2486).1) (by decide) (by decide) kz) ?_
        refine own_g (mkF m 315 #[.val (.int x0), .val (.int x1), .val (.ref o2212), .val (.ref d), .val (.int (1 : Int32)), .val (.ref o2265), .val (.ref o2290), .val (.ref o2303), .val (.ref o2318), .val (.ref o2355), .val (.ref o2396), .val (.int u53), .val (.int (Int32.ofNat mm)), .val (.int (1 : Int32)), .val (.int e14), .val (.int e15), .val (.int (1 : Int32)), .val (.int (Int32.ofNat c2480')), .val (.int (Int32.ofNat c2483')), .unset, .unset] [(.int (1 : Int32)), (.int (Int32.ofNat mm)), (.int (Int32.ofNat c2480'))]) (fun _ kz => XS.iconst X2485.here hx rfl (hb hby at_314) kz) ?_
        refine own_g (mkF m 316 #[.val (.int x0), .val (.int x1), .val (.ref o2212), .val (.ref d), .val (.int (1 : Int32)), .val (.ref o2265), .val (.ref o2290), .val (.ref o2303), .val (.ref o2318), .val (.ref o2355), .val (.ref o2396), .val (.int u53), .val (.int (Int32.ofNat mm)), .val (.int (1 : Int32)), .val (.int e14), .val (.int e15), .val (.int (1 : Int32)), .val (.int (Int32.ofNat c2480')), .val (.int (Int32.ofNat c2483')), .unset, .unset] [(.int ((Int32.ofNat mm) + (1 : Int32))), (.int (Int32.ofNat c2480'))]) (fun _ kz => XS.iadd X2485.here hx rfl (hb hby at_315) rfl kz) ?_
        refine own_g (mkF m 319 #[.val (.int x0), .val (.int x1), .val (.ref o2212), .val (.ref d), .val (.int (1 : Int32)), .val (.ref o2265), .val (.ref o2290), .val (.ref o2303), .val (.ref o2318), .val (.ref o2355), .val (.ref o2396), .val (.int u53), .val (.int (Int32.ofNat mm)), .val (.int (1 : Int32)), .val (.int e14), .val (.int e15), .val (.int (1 : Int32)), .val (.int (Int32.ofNat c2480')), .val (.int (Int32.ofNat c2483')), .unset, .unset] []) (fun _ kz => XS.icmpNo X2485.here hx rfl (hb hby at_316) rfl (teq (by (try rw [← em]); rw [← q14] at G5; simpa [hc307_2486] using G5)).2 kz) ?_
        refine own_g (mkF m 320 #[.val (.int x0), .val (.int x1), .val (.ref o2212), .val (.ref d), .val (.int (1 : Int32)), .val (.ref o2265), .val (.ref o2290), .val (.ref o2303), .val (.ref o2318), .val (.ref o2355), .val (.ref o2396), .val (.int u53), .val (.int (Int32.ofNat mm)), .val (.int (1 : Int32)), .val (.int e14), .val (.int e15), .val (.int (1 : Int32)), .val (.int (Int32.ofNat c2480')), .val (.int (Int32.ofNat c2483')), .unset, .unset] [(.int (1 : Int32))]) (fun _ kz => XS.iconst X2485.here hx rfl (hb hby at_319) kz) ?_
        refine own_g (mkF m 324 #[.val (.int x0), .val (.int x1), .val (.ref o2212), .val (.ref d), .val (.int (1 : Int32)), .val (.ref o2265), .val (.ref o2290), .val (.ref o2303), .val (.ref o2318), .val (.ref o2355), .val (.ref o2396), .val (.int u53), .val (.int (Int32.ofNat mm)), .val (.int (1 : Int32)), .val (.int e14), .val (.int e15), .val (.int (1 : Int32)), .val (.int (Int32.ofNat c2480')), .val (.int (Int32.ofNat c2483')), .unset, .unset] [(.int (1 : Int32))]) (fun _ kz => XS.goto X2485.here hx rfl (pc0 := 320) (pc' := 324) rfl (hb hby at_320) (by decide) (by decide) kz) ?_
        refine own_g (mkF m 326 #[.val (.int x0), .val (.int x1), .val (.ref o2212), .val (.ref d), .val (.int (1 : Int32)), .val (.ref o2265), .val (.ref o2290), .val (.ref o2303), .val (.ref o2318), .val (.ref o2355), .val (.ref o2396), .val (.int u53), .val (.int (Int32.ofNat mm)), .val (.int (1 : Int32)), .val (.int e14), .val (.int e15), .val (.int (1 : Int32)), .val (.int (Int32.ofNat c2480')), .val (.int (Int32.ofNat c2483')), .val (.int (1 : Int32)), .unset] []) (fun _ kz => XS.istore X2485.here hx rfl (hb hby at_324) rfl (l' := #[.val (.int x0), .val (.int x1), .val (.ref o2212), .val (.ref d), .val (.int (1 : Int32)), .val (.ref o2265), .val (.ref o2290), .val (.ref o2303), .val (.ref o2318), .val (.ref o2355), .val (.ref o2396), .val (.int u53), .val (.int (Int32.ofNat mm)), .val (.int (1 : Int32)), .val (.int e14), .val (.int e15), .val (.int (1 : Int32)), .val (.int (Int32.ofNat c2480')), .val (.int (Int32.ofNat c2483')), .val (.int (1 : Int32)), .unset]) rfl kz) ?_
        refine own_g (mkF m 328 #[.val (.int x0), .val (.int x1), .val (.ref o2212), .val (.ref d), .val (.int (1 : Int32)), .val (.ref o2265), .val (.ref o2290), .val (.ref o2303), .val (.ref o2318), .val (.ref o2355), .val (.ref o2396), .val (.int u53), .val (.int (Int32.ofNat mm)), .val (.int (1 : Int32)), .val (.int e14), .val (.int e15), .val (.int (1 : Int32)), .val (.int (Int32.ofNat c2480')), .val (.int (Int32.ofNat c2483')), .val (.int (1 : Int32)), .unset] [(.int (Int32.ofNat c2483'))]) (fun _ kz => XS.iload X2485.here hx rfl (hb hby at_326) rfl kz) ?_
        refine own_g (mkF m 330 #[.val (.int x0), .val (.int x1), .val (.ref o2212), .val (.ref d), .val (.int (1 : Int32)), .val (.ref o2265), .val (.ref o2290), .val (.ref o2303), .val (.ref o2318), .val (.ref o2355), .val (.ref o2396), .val (.int u53), .val (.int (Int32.ofNat mm)), .val (.int (1 : Int32)), .val (.int e14), .val (.int e15), .val (.int (1 : Int32)), .val (.int (Int32.ofNat c2480')), .val (.int (Int32.ofNat c2483')), .val (.int (1 : Int32)), .unset] [(.int (Int32.ofNat c2480')), (.int (Int32.ofNat c2483'))]) (fun _ kz => XS.iload X2485.here hx rfl (hb hby at_328) rfl kz) ?_
        refine own_g (mkF m 332 #[.val (.int x0), .val (.int x1), .val (.ref o2212), .val (.ref d), .val (.int (1 : Int32)), .val (.ref o2265), .val (.ref o2290), .val (.ref o2303), .val (.ref o2318), .val (.ref o2355), .val (.ref o2396), .val (.int u53), .val (.int (Int32.ofNat mm)), .val (.int (1 : Int32)), .val (.int e14), .val (.int e15), .val (.int (1 : Int32)), .val (.int (Int32.ofNat c2480')), .val (.int (Int32.ofNat c2483')), .val (.int (1 : Int32)), .unset] [(.int e15), (.int (Int32.ofNat c2480')), (.int (Int32.ofNat c2483'))]) (fun _ kz => XS.iload X2485.here hx rfl (hb hby at_330) rfl kz) ?_
        by_cases hc332_2487 : e15 = (0 : Int32)
        · refine own_g (mkF m 339 #[.val (.int x0), .val (.int x1), .val (.ref o2212), .val (.ref d), .val (.int (1 : Int32)), .val (.ref o2265), .val (.ref o2290), .val (.ref o2303), .val (.ref o2318), .val (.ref o2355), .val (.ref o2396), .val (.int u53), .val (.int (Int32.ofNat mm)), .val (.int (1 : Int32)), .val (.int e14), .val (.int e15), .val (.int (1 : Int32)), .val (.int (Int32.ofNat c2480')), .val (.int (Int32.ofNat c2483')), .val (.int (1 : Int32)), .unset] [(.int (Int32.ofNat c2480')), (.int (Int32.ofNat c2483'))]) (fun _ kz => XS.ifYes X2485.here hx rfl (pc0 := 332) (pc' := 339) rfl (hb hby at_332) rfl ((if0 _ _).trans (teq hc332_2487).1) (by decide) (by decide) kz) ?_
          refine own_g (mkF m 340 #[.val (.int x0), .val (.int x1), .val (.ref o2212), .val (.ref d), .val (.int (1 : Int32)), .val (.ref o2265), .val (.ref o2290), .val (.ref o2303), .val (.ref o2318), .val (.ref o2355), .val (.ref o2396), .val (.int u53), .val (.int (Int32.ofNat mm)), .val (.int (1 : Int32)), .val (.int e14), .val (.int e15), .val (.int (1 : Int32)), .val (.int (Int32.ofNat c2480')), .val (.int (Int32.ofNat c2483')), .val (.int (1 : Int32)), .unset] [(.int (1 : Int32)), (.int (Int32.ofNat c2480')), (.int (Int32.ofNat c2483'))]) (fun _ kz => XS.iconst X2485.here hx rfl (hb hby at_339) kz) ?_
          refine own_g (mkF m 341 #[.val (.int x0), .val (.int x1), .val (.ref o2212), .val (.ref d), .val (.int (1 : Int32)), .val (.ref o2265), .val (.ref o2290), .val (.ref o2303), .val (.ref o2318), .val (.ref o2355), .val (.ref o2396), .val (.int u53), .val (.int (Int32.ofNat mm)), .val (.int (1 : Int32)), .val (.int e14), .val (.int e15), .val (.int (1 : Int32)), .val (.int (Int32.ofNat c2480')), .val (.int (Int32.ofNat c2483')), .val (.int (1 : Int32)), .unset] [(.int ((Int32.ofNat c2480') + (1 : Int32))), (.int (Int32.ofNat c2483'))]) (fun _ kz => XS.iadd X2485.here hx rfl (hb hby at_340) rfl kz) ?_
          refine own_g (mkF m 344 #[.val (.int x0), .val (.int x1), .val (.ref o2212), .val (.ref d), .val (.int (1 : Int32)), .val (.ref o2265), .val (.ref o2290), .val (.ref o2303), .val (.ref o2318), .val (.ref o2355), .val (.ref o2396), .val (.int u53), .val (.int (Int32.ofNat mm)), .val (.int (1 : Int32)), .val (.int e14), .val (.int e15), .val (.int (1 : Int32)), .val (.int (Int32.ofNat c2480')), .val (.int (Int32.ofNat c2483')), .val (.int (1 : Int32)), .unset] []) (fun _ kz => XS.icmpNo X2485.here hx rfl (hb hby at_341) rfl (teq (by (try rw [← em]); rw [← q15] at G6; simpa [hc332_2487] using G6)).2 kz) ?_
          refine own_g (mkF m 345 #[.val (.int x0), .val (.int x1), .val (.ref o2212), .val (.ref d), .val (.int (1 : Int32)), .val (.ref o2265), .val (.ref o2290), .val (.ref o2303), .val (.ref o2318), .val (.ref o2355), .val (.ref o2396), .val (.int u53), .val (.int (Int32.ofNat mm)), .val (.int (1 : Int32)), .val (.int e14), .val (.int e15), .val (.int (1 : Int32)), .val (.int (Int32.ofNat c2480')), .val (.int (Int32.ofNat c2483')), .val (.int (1 : Int32)), .unset] [(.int (1 : Int32))]) (fun _ kz => XS.iconst X2485.here hx rfl (hb hby at_344) kz) ?_
          refine own_g (mkF m 349 #[.val (.int x0), .val (.int x1), .val (.ref o2212), .val (.ref d), .val (.int (1 : Int32)), .val (.ref o2265), .val (.ref o2290), .val (.ref o2303), .val (.ref o2318), .val (.ref o2355), .val (.ref o2396), .val (.int u53), .val (.int (Int32.ofNat mm)), .val (.int (1 : Int32)), .val (.int e14), .val (.int e15), .val (.int (1 : Int32)), .val (.int (Int32.ofNat c2480')), .val (.int (Int32.ofNat c2483')), .val (.int (1 : Int32)), .unset] [(.int (1 : Int32))]) (fun _ kz => XS.goto X2485.here hx rfl (pc0 := 345) (pc' := 349) rfl (hb hby at_345) (by decide) (by decide) kz) ?_
          refine own_g (mkF m 351 #[.val (.int x0), .val (.int x1), .val (.ref o2212), .val (.ref d), .val (.int (1 : Int32)), .val (.ref o2265), .val (.ref o2290), .val (.ref o2303), .val (.ref o2318), .val (.ref o2355), .val (.ref o2396), .val (.int u53), .val (.int (Int32.ofNat mm)), .val (.int (1 : Int32)), .val (.int e14), .val (.int e15), .val (.int (1 : Int32)), .val (.int (Int32.ofNat c2480')), .val (.int (Int32.ofNat c2483')), .val (.int (1 : Int32)), .val (.int (1 : Int32))] []) (fun _ kz => XS.istore X2485.here hx rfl (hb hby at_349) rfl (l' := #[.val (.int x0), .val (.int x1), .val (.ref o2212), .val (.ref d), .val (.int (1 : Int32)), .val (.ref o2265), .val (.ref o2290), .val (.ref o2303), .val (.ref o2318), .val (.ref o2355), .val (.ref o2396), .val (.int u53), .val (.int (Int32.ofNat mm)), .val (.int (1 : Int32)), .val (.int e14), .val (.int e15), .val (.int (1 : Int32)), .val (.int (Int32.ofNat c2480')), .val (.int (Int32.ofNat c2483')), .val (.int (1 : Int32)), .val (.int (1 : Int32))]) rfl kz) ?_
          refine own_g (mkF m 353 #[.val (.int x0), .val (.int x1), .val (.ref o2212), .val (.ref d), .val (.int (1 : Int32)), .val (.ref o2265), .val (.ref o2290), .val (.ref o2303), .val (.ref o2318), .val (.ref o2355), .val (.ref o2396), .val (.int u53), .val (.int (Int32.ofNat mm)), .val (.int (1 : Int32)), .val (.int e14), .val (.int e15), .val (.int (1 : Int32)), .val (.int (Int32.ofNat c2480')), .val (.int (Int32.ofNat c2483')), .val (.int (1 : Int32)), .val (.int (1 : Int32))] [(.int (1 : Int32))]) (fun _ kz => XS.iload X2485.here hx rfl (hb hby at_351) rfl kz) ?_
          refine own_g (mkF m 356 #[.val (.int x0), .val (.int x1), .val (.ref o2212), .val (.ref d), .val (.int (1 : Int32)), .val (.ref o2265), .val (.ref o2290), .val (.ref o2303), .val (.ref o2318), .val (.ref o2355), .val (.ref o2396), .val (.int u53), .val (.int (Int32.ofNat mm)), .val (.int (1 : Int32)), .val (.int e14), .val (.int e15), .val (.int (1 : Int32)), .val (.int (Int32.ofNat c2480')), .val (.int (Int32.ofNat c2483')), .val (.int (1 : Int32)), .val (.int (1 : Int32))] []) (fun _ kz => XS.ifNo X2485.here hx rfl (hb hby at_353) rfl ((if0 _ _).trans (feq (by decide)).1) kz) ?_
          refine own_g (mkF m 358 #[.val (.int x0), .val (.int x1), .val (.ref o2212), .val (.ref d), .val (.int (1 : Int32)), .val (.ref o2265), .val (.ref o2290), .val (.ref o2303), .val (.ref o2318), .val (.ref o2355), .val (.ref o2396), .val (.int u53), .val (.int (Int32.ofNat mm)), .val (.int (1 : Int32)), .val (.int e14), .val (.int e15), .val (.int (1 : Int32)), .val (.int (Int32.ofNat c2480')), .val (.int (Int32.ofNat c2483')), .val (.int (1 : Int32)), .val (.int (1 : Int32))] [(.int (1 : Int32))]) (fun _ kz => XS.iload X2485.here hx rfl (hb hby at_356) rfl kz) ?_
          refine own_g (mkF m 361 #[.val (.int x0), .val (.int x1), .val (.ref o2212), .val (.ref d), .val (.int (1 : Int32)), .val (.ref o2265), .val (.ref o2290), .val (.ref o2303), .val (.ref o2318), .val (.ref o2355), .val (.ref o2396), .val (.int u53), .val (.int (Int32.ofNat mm)), .val (.int (1 : Int32)), .val (.int e14), .val (.int e15), .val (.int (1 : Int32)), .val (.int (Int32.ofNat c2480')), .val (.int (Int32.ofNat c2483')), .val (.int (1 : Int32)), .val (.int (1 : Int32))] []) (fun _ kz => XS.ifNo X2485.here hx rfl (hb hby at_358) rfl ((if0 _ _).trans (feq (by decide)).1) kz) ?_
          refine own_g (mkF m 363 #[.val (.int x0), .val (.int x1), .val (.ref o2212), .val (.ref d), .val (.int (1 : Int32)), .val (.ref o2265), .val (.ref o2290), .val (.ref o2303), .val (.ref o2318), .val (.ref o2355), .val (.ref o2396), .val (.int u53), .val (.int (Int32.ofNat mm)), .val (.int (1 : Int32)), .val (.int e14), .val (.int e15), .val (.int (1 : Int32)), .val (.int (Int32.ofNat c2480')), .val (.int (Int32.ofNat c2483')), .val (.int (1 : Int32)), .val (.int (1 : Int32))] [(.int (1 : Int32))]) (fun _ kz => XS.iload X2485.here hx rfl (hb hby at_361) rfl kz) ?_
          refine own_g (mkF m 366 #[.val (.int x0), .val (.int x1), .val (.ref o2212), .val (.ref d), .val (.int (1 : Int32)), .val (.ref o2265), .val (.ref o2290), .val (.ref o2303), .val (.ref o2318), .val (.ref o2355), .val (.ref o2396), .val (.int u53), .val (.int (Int32.ofNat mm)), .val (.int (1 : Int32)), .val (.int e14), .val (.int e15), .val (.int (1 : Int32)), .val (.int (Int32.ofNat c2480')), .val (.int (Int32.ofNat c2483')), .val (.int (1 : Int32)), .val (.int (1 : Int32))] []) (fun _ kz => XS.ifNo X2485.here hx rfl (hb hby at_363) rfl ((if0 _ _).trans (feq (by decide)).1) kz) ?_
          refine own_g (mkF m 367 #[.val (.int x0), .val (.int x1), .val (.ref o2212), .val (.ref d), .val (.int (1 : Int32)), .val (.ref o2265), .val (.ref o2290), .val (.ref o2303), .val (.ref o2318), .val (.ref o2355), .val (.ref o2396), .val (.int u53), .val (.int (Int32.ofNat mm)), .val (.int (1 : Int32)), .val (.int e14), .val (.int e15), .val (.int (1 : Int32)), .val (.int (Int32.ofNat c2480')), .val (.int (Int32.ofNat c2483')), .val (.int (1 : Int32)), .val (.int (1 : Int32))] [(.int (1 : Int32))]) (fun _ kz => XS.iconst X2485.here hx rfl (hb hby at_366) kz) ?_
          refine own_g (mkF m 371 #[.val (.int x0), .val (.int x1), .val (.ref o2212), .val (.ref d), .val (.int (1 : Int32)), .val (.ref o2265), .val (.ref o2290), .val (.ref o2303), .val (.ref o2318), .val (.ref o2355), .val (.ref o2396), .val (.int u53), .val (.int (Int32.ofNat mm)), .val (.int (1 : Int32)), .val (.int e14), .val (.int e15), .val (.int (1 : Int32)), .val (.int (Int32.ofNat c2480')), .val (.int (Int32.ofNat c2483')), .val (.int (1 : Int32)), .val (.int (1 : Int32))] [(.int (1 : Int32))]) (fun _ kz => XS.goto X2485.here hx rfl (pc0 := 367) (pc' := 371) rfl (hb hby at_367) (by decide) (by decide) kz) ?_
          exact own_retZW X2485 hS2220 (by rw [e2485]; exact z2484) hx hret hlk (hb hby at_371) rfl (by decide) (by decide) (by first | exact ⟨rfl, N2485⟩ | (rw [e2485]; exact ⟨rfl, N2485⟩))
        · refine own_g (mkF m 335 #[.val (.int x0), .val (.int x1), .val (.ref o2212), .val (.ref d), .val (.int (1 : Int32)), .val (.ref o2265), .val (.ref o2290), .val (.ref o2303), .val (.ref o2318), .val (.ref o2355), .val (.ref o2396), .val (.int u53), .val (.int (Int32.ofNat mm)), .val (.int (1 : Int32)), .val (.int e14), .val (.int e15), .val (.int (1 : Int32)), .val (.int (Int32.ofNat c2480')), .val (.int (Int32.ofNat c2483')), .val (.int (1 : Int32)), .unset] [(.int (Int32.ofNat c2480')), (.int (Int32.ofNat c2483'))]) (fun _ kz => XS.ifNo X2485.here hx rfl (hb hby at_332) rfl ((if0 _ _).trans (feq hc332_2487).1) kz) ?_
          refine own_g (mkF m 336 #[.val (.int x0), .val (.int x1), .val (.ref o2212), .val (.ref d), .val (.int (1 : Int32)), .val (.ref o2265), .val (.ref o2290), .val (.ref o2303), .val (.ref o2318), .val (.ref o2355), .val (.ref o2396), .val (.int u53), .val (.int (Int32.ofNat mm)), .val (.int (1 : Int32)), .val (.int e14), .val (.int e15), .val (.int (1 : Int32)), .val (.int (Int32.ofNat c2480')), .val (.int (Int32.ofNat c2483')), .val (.int (1 : Int32)), .unset] [(.int (0 : Int32)), (.int (Int32.ofNat c2480')), (.int (Int32.ofNat c2483'))]) (fun _ kz => XS.iconst X2485.here hx rfl (hb hby at_335) kz) ?_
          refine own_g (mkF m 340 #[.val (.int x0), .val (.int x1), .val (.ref o2212), .val (.ref d), .val (.int (1 : Int32)), .val (.ref o2265), .val (.ref o2290), .val (.ref o2303), .val (.ref o2318), .val (.ref o2355), .val (.ref o2396), .val (.int u53), .val (.int (Int32.ofNat mm)), .val (.int (1 : Int32)), .val (.int e14), .val (.int e15), .val (.int (1 : Int32)), .val (.int (Int32.ofNat c2480')), .val (.int (Int32.ofNat c2483')), .val (.int (1 : Int32)), .unset] [(.int (0 : Int32)), (.int (Int32.ofNat c2480')), (.int (Int32.ofNat c2483'))]) (fun _ kz => XS.goto X2485.here hx rfl (pc0 := 336) (pc' := 340) rfl (hb hby at_336) (by decide) (by decide) kz) ?_
          refine own_g (mkF m 341 #[.val (.int x0), .val (.int x1), .val (.ref o2212), .val (.ref d), .val (.int (1 : Int32)), .val (.ref o2265), .val (.ref o2290), .val (.ref o2303), .val (.ref o2318), .val (.ref o2355), .val (.ref o2396), .val (.int u53), .val (.int (Int32.ofNat mm)), .val (.int (1 : Int32)), .val (.int e14), .val (.int e15), .val (.int (1 : Int32)), .val (.int (Int32.ofNat c2480')), .val (.int (Int32.ofNat c2483')), .val (.int (1 : Int32)), .unset] [(.int ((Int32.ofNat c2480') + (0 : Int32))), (.int (Int32.ofNat c2483'))]) (fun _ kz => XS.iadd X2485.here hx rfl (hb hby at_340) rfl kz) ?_
          refine own_g (mkF m 344 #[.val (.int x0), .val (.int x1), .val (.ref o2212), .val (.ref d), .val (.int (1 : Int32)), .val (.ref o2265), .val (.ref o2290), .val (.ref o2303), .val (.ref o2318), .val (.ref o2355), .val (.ref o2396), .val (.int u53), .val (.int (Int32.ofNat mm)), .val (.int (1 : Int32)), .val (.int e14), .val (.int e15), .val (.int (1 : Int32)), .val (.int (Int32.ofNat c2480')), .val (.int (Int32.ofNat c2483')), .val (.int (1 : Int32)), .unset] []) (fun _ kz => XS.icmpNo X2485.here hx rfl (hb hby at_341) rfl (teq (by (try rw [← em]); rw [← q15] at G6; simpa [hc332_2487] using G6)).2 kz) ?_
          refine own_g (mkF m 345 #[.val (.int x0), .val (.int x1), .val (.ref o2212), .val (.ref d), .val (.int (1 : Int32)), .val (.ref o2265), .val (.ref o2290), .val (.ref o2303), .val (.ref o2318), .val (.ref o2355), .val (.ref o2396), .val (.int u53), .val (.int (Int32.ofNat mm)), .val (.int (1 : Int32)), .val (.int e14), .val (.int e15), .val (.int (1 : Int32)), .val (.int (Int32.ofNat c2480')), .val (.int (Int32.ofNat c2483')), .val (.int (1 : Int32)), .unset] [(.int (1 : Int32))]) (fun _ kz => XS.iconst X2485.here hx rfl (hb hby at_344) kz) ?_
          refine own_g (mkF m 349 #[.val (.int x0), .val (.int x1), .val (.ref o2212), .val (.ref d), .val (.int (1 : Int32)), .val (.ref o2265), .val (.ref o2290), .val (.ref o2303), .val (.ref o2318), .val (.ref o2355), .val (.ref o2396), .val (.int u53), .val (.int (Int32.ofNat mm)), .val (.int (1 : Int32)), .val (.int e14), .val (.int e15), .val (.int (1 : Int32)), .val (.int (Int32.ofNat c2480')), .val (.int (Int32.ofNat c2483')), .val (.int (1 : Int32)), .unset] [(.int (1 : Int32))]) (fun _ kz => XS.goto X2485.here hx rfl (pc0 := 345) (pc' := 349) rfl (hb hby at_345) (by decide) (by decide) kz) ?_
          refine own_g (mkF m 351 #[.val (.int x0), .val (.int x1), .val (.ref o2212), .val (.ref d), .val (.int (1 : Int32)), .val (.ref o2265), .val (.ref o2290), .val (.ref o2303), .val (.ref o2318), .val (.ref o2355), .val (.ref o2396), .val (.int u53), .val (.int (Int32.ofNat mm)), .val (.int (1 : Int32)), .val (.int e14), .val (.int e15), .val (.int (1 : Int32)), .val (.int (Int32.ofNat c2480')), .val (.int (Int32.ofNat c2483')), .val (.int (1 : Int32)), .val (.int (1 : Int32))] []) (fun _ kz => XS.istore X2485.here hx rfl (hb hby at_349) rfl (l' := #[.val (.int x0), .val (.int x1), .val (.ref o2212), .val (.ref d), .val (.int (1 : Int32)), .val (.ref o2265), .val (.ref o2290), .val (.ref o2303), .val (.ref o2318), .val (.ref o2355), .val (.ref o2396), .val (.int u53), .val (.int (Int32.ofNat mm)), .val (.int (1 : Int32)), .val (.int e14), .val (.int e15), .val (.int (1 : Int32)), .val (.int (Int32.ofNat c2480')), .val (.int (Int32.ofNat c2483')), .val (.int (1 : Int32)), .val (.int (1 : Int32))]) rfl kz) ?_
          refine own_g (mkF m 353 #[.val (.int x0), .val (.int x1), .val (.ref o2212), .val (.ref d), .val (.int (1 : Int32)), .val (.ref o2265), .val (.ref o2290), .val (.ref o2303), .val (.ref o2318), .val (.ref o2355), .val (.ref o2396), .val (.int u53), .val (.int (Int32.ofNat mm)), .val (.int (1 : Int32)), .val (.int e14), .val (.int e15), .val (.int (1 : Int32)), .val (.int (Int32.ofNat c2480')), .val (.int (Int32.ofNat c2483')), .val (.int (1 : Int32)), .val (.int (1 : Int32))] [(.int (1 : Int32))]) (fun _ kz => XS.iload X2485.here hx rfl (hb hby at_351) rfl kz) ?_
          refine own_g (mkF m 356 #[.val (.int x0), .val (.int x1), .val (.ref o2212), .val (.ref d), .val (.int (1 : Int32)), .val (.ref o2265), .val (.ref o2290), .val (.ref o2303), .val (.ref o2318), .val (.ref o2355), .val (.ref o2396), .val (.int u53), .val (.int (Int32.ofNat mm)), .val (.int (1 : Int32)), .val (.int e14), .val (.int e15), .val (.int (1 : Int32)), .val (.int (Int32.ofNat c2480')), .val (.int (Int32.ofNat c2483')), .val (.int (1 : Int32)), .val (.int (1 : Int32))] []) (fun _ kz => XS.ifNo X2485.here hx rfl (hb hby at_353) rfl ((if0 _ _).trans (feq (by decide)).1) kz) ?_
          refine own_g (mkF m 358 #[.val (.int x0), .val (.int x1), .val (.ref o2212), .val (.ref d), .val (.int (1 : Int32)), .val (.ref o2265), .val (.ref o2290), .val (.ref o2303), .val (.ref o2318), .val (.ref o2355), .val (.ref o2396), .val (.int u53), .val (.int (Int32.ofNat mm)), .val (.int (1 : Int32)), .val (.int e14), .val (.int e15), .val (.int (1 : Int32)), .val (.int (Int32.ofNat c2480')), .val (.int (Int32.ofNat c2483')), .val (.int (1 : Int32)), .val (.int (1 : Int32))] [(.int (1 : Int32))]) (fun _ kz => XS.iload X2485.here hx rfl (hb hby at_356) rfl kz) ?_
          refine own_g (mkF m 361 #[.val (.int x0), .val (.int x1), .val (.ref o2212), .val (.ref d), .val (.int (1 : Int32)), .val (.ref o2265), .val (.ref o2290), .val (.ref o2303), .val (.ref o2318), .val (.ref o2355), .val (.ref o2396), .val (.int u53), .val (.int (Int32.ofNat mm)), .val (.int (1 : Int32)), .val (.int e14), .val (.int e15), .val (.int (1 : Int32)), .val (.int (Int32.ofNat c2480')), .val (.int (Int32.ofNat c2483')), .val (.int (1 : Int32)), .val (.int (1 : Int32))] []) (fun _ kz => XS.ifNo X2485.here hx rfl (hb hby at_358) rfl ((if0 _ _).trans (feq (by decide)).1) kz) ?_
          refine own_g (mkF m 363 #[.val (.int x0), .val (.int x1), .val (.ref o2212), .val (.ref d), .val (.int (1 : Int32)), .val (.ref o2265), .val (.ref o2290), .val (.ref o2303), .val (.ref o2318), .val (.ref o2355), .val (.ref o2396), .val (.int u53), .val (.int (Int32.ofNat mm)), .val (.int (1 : Int32)), .val (.int e14), .val (.int e15), .val (.int (1 : Int32)), .val (.int (Int32.ofNat c2480')), .val (.int (Int32.ofNat c2483')), .val (.int (1 : Int32)), .val (.int (1 : Int32))] [(.int (1 : Int32))]) (fun _ kz => XS.iload X2485.here hx rfl (hb hby at_361) rfl kz) ?_
          refine own_g (mkF m 366 #[.val (.int x0), .val (.int x1), .val (.ref o2212), .val (.ref d), .val (.int (1 : Int32)), .val (.ref o2265), .val (.ref o2290), .val (.ref o2303), .val (.ref o2318), .val (.ref o2355), .val (.ref o2396), .val (.int u53), .val (.int (Int32.ofNat mm)), .val (.int (1 : Int32)), .val (.int e14), .val (.int e15), .val (.int (1 : Int32)), .val (.int (Int32.ofNat c2480')), .val (.int (Int32.ofNat c2483')), .val (.int (1 : Int32)), .val (.int (1 : Int32))] []) (fun _ kz => XS.ifNo X2485.here hx rfl (hb hby at_363) rfl ((if0 _ _).trans (feq (by decide)).1) kz) ?_
          refine own_g (mkF m 367 #[.val (.int x0), .val (.int x1), .val (.ref o2212), .val (.ref d), .val (.int (1 : Int32)), .val (.ref o2265), .val (.ref o2290), .val (.ref o2303), .val (.ref o2318), .val (.ref o2355), .val (.ref o2396), .val (.int u53), .val (.int (Int32.ofNat mm)), .val (.int (1 : Int32)), .val (.int e14), .val (.int e15), .val (.int (1 : Int32)), .val (.int (Int32.ofNat c2480')), .val (.int (Int32.ofNat c2483')), .val (.int (1 : Int32)), .val (.int (1 : Int32))] [(.int (1 : Int32))]) (fun _ kz => XS.iconst X2485.here hx rfl (hb hby at_366) kz) ?_
          refine own_g (mkF m 371 #[.val (.int x0), .val (.int x1), .val (.ref o2212), .val (.ref d), .val (.int (1 : Int32)), .val (.ref o2265), .val (.ref o2290), .val (.ref o2303), .val (.ref o2318), .val (.ref o2355), .val (.ref o2396), .val (.int u53), .val (.int (Int32.ofNat mm)), .val (.int (1 : Int32)), .val (.int e14), .val (.int e15), .val (.int (1 : Int32)), .val (.int (Int32.ofNat c2480')), .val (.int (Int32.ofNat c2483')), .val (.int (1 : Int32)), .val (.int (1 : Int32))] [(.int (1 : Int32))]) (fun _ kz => XS.goto X2485.here hx rfl (pc0 := 367) (pc' := 371) rfl (hb hby at_367) (by decide) (by decide) kz) ?_
          exact own_retZW X2485 hS2220 (by rw [e2485]; exact z2484) hx hret hlk (hb hby at_371) rfl (by decide) (by decide) (by first | exact ⟨rfl, N2485⟩ | (rw [e2485]; exact ⟨rfl, N2485⟩))
      · refine own_g (mkF m 310 #[.val (.int x0), .val (.int x1), .val (.ref o2212), .val (.ref d), .val (.int (1 : Int32)), .val (.ref o2265), .val (.ref o2290), .val (.ref o2303), .val (.ref o2318), .val (.ref o2355), .val (.ref o2396), .val (.int u53), .val (.int (Int32.ofNat mm)), .val (.int (1 : Int32)), .val (.int e14), .val (.int e15), .val (.int (1 : Int32)), .val (.int (Int32.ofNat c2480')), .val (.int (Int32.ofNat c2483')), .unset, .unset] [(.int (Int32.ofNat mm)), (.int (Int32.ofNat c2480'))]) (fun _ kz => XS.ifNo X2485.here hx rfl (hb hby at_307) rfl ((if0 _ _).trans (feq hc307_2486).1) kz) ?_
        refine own_g (mkF m 311 #[.val (.int x0), .val (.int x1), .val (.ref o2212), .val (.ref d), .val (.int (1 : Int32)), .val (.ref o2265), .val (.ref o2290), .val (.ref o2303), .val (.ref o2318), .val (.ref o2355), .val (.ref o2396), .val (.int u53), .val (.int (Int32.ofNat mm)), .val (.int (1 : Int32)), .val (.int e14), .val (.int e15), .val (.int (1 : Int32)), .val (.int (Int32.ofNat c2480')), .val (.int (Int32.ofNat c2483')), .unset, .unset] [(.int (0 : Int32)), (.int (Int32.ofNat mm)), (.int (Int32.ofNat c2480'))]) (fun _ kz => XS.iconst X2485.here hx rfl (hb hby at_310) kz) ?_
        refine own_g (mkF m 315 #[.val (.int x0), .val (.int x1), .val (.ref o2212), .val (.ref d), .val (.int (1 : Int32)), .val (.ref o2265), .val (.ref o2290), .val (.ref o2303), .val (.ref o2318), .val (.ref o2355), .val (.ref o2396), .val (.int u53), .val (.int (Int32.ofNat mm)), .val (.int (1 : Int32)), .val (.int e14), .val (.int e15), .val (.int (1 : Int32)), .val (.int (Int32.ofNat c2480')), .val (.int (Int32.ofNat c2483')), .unset, .unset] [(.int (0 : Int32)), (.int (Int32.ofNat mm)), (.int (Int32.ofNat c2480'))]) (fun _ kz => XS.goto X2485.here hx rfl (pc0 := 311) (pc' := 315) rfl (hb hby at_311) (by decide) (by decide) kz) ?_
        refine own_g (mkF m 316 #[.val (.int x0), .val (.int x1), .val (.ref o2212), .val (.ref d), .val (.int (1 : Int32)), .val (.ref o2265), .val (.ref o2290), .val (.ref o2303), .val (.ref o2318), .val (.ref o2355), .val (.ref o2396), .val (.int u53), .val (.int (Int32.ofNat mm)), .val (.int (1 : Int32)), .val (.int e14), .val (.int e15), .val (.int (1 : Int32)), .val (.int (Int32.ofNat c2480')), .val (.int (Int32.ofNat c2483')), .unset, .unset] [(.int ((Int32.ofNat mm) + (0 : Int32))), (.int (Int32.ofNat c2480'))]) (fun _ kz => XS.iadd X2485.here hx rfl (hb hby at_315) rfl kz) ?_
        refine own_g (mkF m 319 #[.val (.int x0), .val (.int x1), .val (.ref o2212), .val (.ref d), .val (.int (1 : Int32)), .val (.ref o2265), .val (.ref o2290), .val (.ref o2303), .val (.ref o2318), .val (.ref o2355), .val (.ref o2396), .val (.int u53), .val (.int (Int32.ofNat mm)), .val (.int (1 : Int32)), .val (.int e14), .val (.int e15), .val (.int (1 : Int32)), .val (.int (Int32.ofNat c2480')), .val (.int (Int32.ofNat c2483')), .unset, .unset] []) (fun _ kz => XS.icmpNo X2485.here hx rfl (hb hby at_316) rfl (teq (by (try rw [← em]); rw [← q14] at G5; simpa [hc307_2486] using G5)).2 kz) ?_
        refine own_g (mkF m 320 #[.val (.int x0), .val (.int x1), .val (.ref o2212), .val (.ref d), .val (.int (1 : Int32)), .val (.ref o2265), .val (.ref o2290), .val (.ref o2303), .val (.ref o2318), .val (.ref o2355), .val (.ref o2396), .val (.int u53), .val (.int (Int32.ofNat mm)), .val (.int (1 : Int32)), .val (.int e14), .val (.int e15), .val (.int (1 : Int32)), .val (.int (Int32.ofNat c2480')), .val (.int (Int32.ofNat c2483')), .unset, .unset] [(.int (1 : Int32))]) (fun _ kz => XS.iconst X2485.here hx rfl (hb hby at_319) kz) ?_
        refine own_g (mkF m 324 #[.val (.int x0), .val (.int x1), .val (.ref o2212), .val (.ref d), .val (.int (1 : Int32)), .val (.ref o2265), .val (.ref o2290), .val (.ref o2303), .val (.ref o2318), .val (.ref o2355), .val (.ref o2396), .val (.int u53), .val (.int (Int32.ofNat mm)), .val (.int (1 : Int32)), .val (.int e14), .val (.int e15), .val (.int (1 : Int32)), .val (.int (Int32.ofNat c2480')), .val (.int (Int32.ofNat c2483')), .unset, .unset] [(.int (1 : Int32))]) (fun _ kz => XS.goto X2485.here hx rfl (pc0 := 320) (pc' := 324) rfl (hb hby at_320) (by decide) (by decide) kz) ?_
        refine own_g (mkF m 326 #[.val (.int x0), .val (.int x1), .val (.ref o2212), .val (.ref d), .val (.int (1 : Int32)), .val (.ref o2265), .val (.ref o2290), .val (.ref o2303), .val (.ref o2318), .val (.ref o2355), .val (.ref o2396), .val (.int u53), .val (.int (Int32.ofNat mm)), .val (.int (1 : Int32)), .val (.int e14), .val (.int e15), .val (.int (1 : Int32)), .val (.int (Int32.ofNat c2480')), .val (.int (Int32.ofNat c2483')), .val (.int (1 : Int32)), .unset] []) (fun _ kz => XS.istore X2485.here hx rfl (hb hby at_324) rfl (l' := #[.val (.int x0), .val (.int x1), .val (.ref o2212), .val (.ref d), .val (.int (1 : Int32)), .val (.ref o2265), .val (.ref o2290), .val (.ref o2303), .val (.ref o2318), .val (.ref o2355), .val (.ref o2396), .val (.int u53), .val (.int (Int32.ofNat mm)), .val (.int (1 : Int32)), .val (.int e14), .val (.int e15), .val (.int (1 : Int32)), .val (.int (Int32.ofNat c2480')), .val (.int (Int32.ofNat c2483')), .val (.int (1 : Int32)), .unset]) rfl kz) ?_
        refine own_g (mkF m 328 #[.val (.int x0), .val (.int x1), .val (.ref o2212), .val (.ref d), .val (.int (1 : Int32)), .val (.ref o2265), .val (.ref o2290), .val (.ref o2303), .val (.ref o2318), .val (.ref o2355), .val (.ref o2396), .val (.int u53), .val (.int (Int32.ofNat mm)), .val (.int (1 : Int32)), .val (.int e14), .val (.int e15), .val (.int (1 : Int32)), .val (.int (Int32.ofNat c2480')), .val (.int (Int32.ofNat c2483')), .val (.int (1 : Int32)), .unset] [(.int (Int32.ofNat c2483'))]) (fun _ kz => XS.iload X2485.here hx rfl (hb hby at_326) rfl kz) ?_
        refine own_g (mkF m 330 #[.val (.int x0), .val (.int x1), .val (.ref o2212), .val (.ref d), .val (.int (1 : Int32)), .val (.ref o2265), .val (.ref o2290), .val (.ref o2303), .val (.ref o2318), .val (.ref o2355), .val (.ref o2396), .val (.int u53), .val (.int (Int32.ofNat mm)), .val (.int (1 : Int32)), .val (.int e14), .val (.int e15), .val (.int (1 : Int32)), .val (.int (Int32.ofNat c2480')), .val (.int (Int32.ofNat c2483')), .val (.int (1 : Int32)), .unset] [(.int (Int32.ofNat c2480')), (.int (Int32.ofNat c2483'))]) (fun _ kz => XS.iload X2485.here hx rfl (hb hby at_328) rfl kz) ?_
        refine own_g (mkF m 332 #[.val (.int x0), .val (.int x1), .val (.ref o2212), .val (.ref d), .val (.int (1 : Int32)), .val (.ref o2265), .val (.ref o2290), .val (.ref o2303), .val (.ref o2318), .val (.ref o2355), .val (.ref o2396), .val (.int u53), .val (.int (Int32.ofNat mm)), .val (.int (1 : Int32)), .val (.int e14), .val (.int e15), .val (.int (1 : Int32)), .val (.int (Int32.ofNat c2480')), .val (.int (Int32.ofNat c2483')), .val (.int (1 : Int32)), .unset] [(.int e15), (.int (Int32.ofNat c2480')), (.int (Int32.ofNat c2483'))]) (fun _ kz => XS.iload X2485.here hx rfl (hb hby at_330) rfl kz) ?_
        by_cases hc332_2488 : e15 = (0 : Int32)
        · refine own_g (mkF m 339 #[.val (.int x0), .val (.int x1), .val (.ref o2212), .val (.ref d), .val (.int (1 : Int32)), .val (.ref o2265), .val (.ref o2290), .val (.ref o2303), .val (.ref o2318), .val (.ref o2355), .val (.ref o2396), .val (.int u53), .val (.int (Int32.ofNat mm)), .val (.int (1 : Int32)), .val (.int e14), .val (.int e15), .val (.int (1 : Int32)), .val (.int (Int32.ofNat c2480')), .val (.int (Int32.ofNat c2483')), .val (.int (1 : Int32)), .unset] [(.int (Int32.ofNat c2480')), (.int (Int32.ofNat c2483'))]) (fun _ kz => XS.ifYes X2485.here hx rfl (pc0 := 332) (pc' := 339) rfl (hb hby at_332) rfl ((if0 _ _).trans (teq hc332_2488).1) (by decide) (by decide) kz) ?_
          refine own_g (mkF m 340 #[.val (.int x0), .val (.int x1), .val (.ref o2212), .val (.ref d), .val (.int (1 : Int32)), .val (.ref o2265), .val (.ref o2290), .val (.ref o2303), .val (.ref o2318), .val (.ref o2355), .val (.ref o2396), .val (.int u53), .val (.int (Int32.ofNat mm)), .val (.int (1 : Int32)), .val (.int e14), .val (.int e15), .val (.int (1 : Int32)), .val (.int (Int32.ofNat c2480')), .val (.int (Int32.ofNat c2483')), .val (.int (1 : Int32)), .unset] [(.int (1 : Int32)), (.int (Int32.ofNat c2480')), (.int (Int32.ofNat c2483'))]) (fun _ kz => XS.iconst X2485.here hx rfl (hb hby at_339) kz) ?_
          refine own_g (mkF m 341 #[.val (.int x0), .val (.int x1), .val (.ref o2212), .val (.ref d), .val (.int (1 : Int32)), .val (.ref o2265), .val (.ref o2290), .val (.ref o2303), .val (.ref o2318), .val (.ref o2355), .val (.ref o2396), .val (.int u53), .val (.int (Int32.ofNat mm)), .val (.int (1 : Int32)), .val (.int e14), .val (.int e15), .val (.int (1 : Int32)), .val (.int (Int32.ofNat c2480')), .val (.int (Int32.ofNat c2483')), .val (.int (1 : Int32)), .unset] [(.int ((Int32.ofNat c2480') + (1 : Int32))), (.int (Int32.ofNat c2483'))]) (fun _ kz => XS.iadd X2485.here hx rfl (hb hby at_340) rfl kz) ?_
          refine own_g (mkF m 344 #[.val (.int x0), .val (.int x1), .val (.ref o2212), .val (.ref d), .val (.int (1 : Int32)), .val (.ref o2265), .val (.ref o2290), .val (.ref o2303), .val (.ref o2318), .val (.ref o2355), .val (.ref o2396), .val (.int u53), .val (.int (Int32.ofNat mm)), .val (.int (1 : Int32)), .val (.int e14), .val (.int e15), .val (.int (1 : Int32)), .val (.int (Int32.ofNat c2480')), .val (.int (Int32.ofNat c2483')), .val (.int (1 : Int32)), .unset] []) (fun _ kz => XS.icmpNo X2485.here hx rfl (hb hby at_341) rfl (teq (by (try rw [← em]); rw [← q15] at G6; simpa [hc332_2488] using G6)).2 kz) ?_
          refine own_g (mkF m 345 #[.val (.int x0), .val (.int x1), .val (.ref o2212), .val (.ref d), .val (.int (1 : Int32)), .val (.ref o2265), .val (.ref o2290), .val (.ref o2303), .val (.ref o2318), .val (.ref o2355), .val (.ref o2396), .val (.int u53), .val (.int (Int32.ofNat mm)), .val (.int (1 : Int32)), .val (.int e14), .val (.int e15), .val (.int (1 : Int32)), .val (.int (Int32.ofNat c2480')), .val (.int (Int32.ofNat c2483')), .val (.int (1 : Int32)), .unset] [(.int (1 : Int32))]) (fun _ kz => XS.iconst X2485.here hx rfl (hb hby at_344) kz) ?_
          refine own_g (mkF m 349 #[.val (.int x0), .val (.int x1), .val (.ref o2212), .val (.ref d), .val (.int (1 : Int32)), .val (.ref o2265), .val (.ref o2290), .val (.ref o2303), .val (.ref o2318), .val (.ref o2355), .val (.ref o2396), .val (.int u53), .val (.int (Int32.ofNat mm)), .val (.int (1 : Int32)), .val (.int e14), .val (.int e15), .val (.int (1 : Int32)), .val (.int (Int32.ofNat c2480')), .val (.int (Int32.ofNat c2483')), .val (.int (1 : Int32)), .unset] [(.int (1 : Int32))]) (fun _ kz => XS.goto X2485.here hx rfl (pc0 := 345) (pc' := 349) rfl (hb hby at_345) (by decide) (by decide) kz) ?_
          refine own_g (mkF m 351 #[.val (.int x0), .val (.int x1), .val (.ref o2212), .val (.ref d), .val (.int (1 : Int32)), .val (.ref o2265), .val (.ref o2290), .val (.ref o2303), .val (.ref o2318), .val (.ref o2355), .val (.ref o2396), .val (.int u53), .val (.int (Int32.ofNat mm)), .val (.int (1 : Int32)), .val (.int e14), .val (.int e15), .val (.int (1 : Int32)), .val (.int (Int32.ofNat c2480')), .val (.int (Int32.ofNat c2483')), .val (.int (1 : Int32)), .val (.int (1 : Int32))] []) (fun _ kz => XS.istore X2485.here hx rfl (hb hby at_349) rfl (l' := #[.val (.int x0), .val (.int x1), .val (.ref o2212), .val (.ref d), .val (.int (1 : Int32)), .val (.ref o2265), .val (.ref o2290), .val (.ref o2303), .val (.ref o2318), .val (.ref o2355), .val (.ref o2396), .val (.int u53), .val (.int (Int32.ofNat mm)), .val (.int (1 : Int32)), .val (.int e14), .val (.int e15), .val (.int (1 : Int32)), .val (.int (Int32.ofNat c2480')), .val (.int (Int32.ofNat c2483')), .val (.int (1 : Int32)), .val (.int (1 : Int32))]) rfl kz) ?_
          refine own_g (mkF m 353 #[.val (.int x0), .val (.int x1), .val (.ref o2212), .val (.ref d), .val (.int (1 : Int32)), .val (.ref o2265), .val (.ref o2290), .val (.ref o2303), .val (.ref o2318), .val (.ref o2355), .val (.ref o2396), .val (.int u53), .val (.int (Int32.ofNat mm)), .val (.int (1 : Int32)), .val (.int e14), .val (.int e15), .val (.int (1 : Int32)), .val (.int (Int32.ofNat c2480')), .val (.int (Int32.ofNat c2483')), .val (.int (1 : Int32)), .val (.int (1 : Int32))] [(.int (1 : Int32))]) (fun _ kz => XS.iload X2485.here hx rfl (hb hby at_351) rfl kz) ?_
          refine own_g (mkF m 356 #[.val (.int x0), .val (.int x1), .val (.ref o2212), .val (.ref d), .val (.int (1 : Int32)), .val (.ref o2265), .val (.ref o2290), .val (.ref o2303), .val (.ref o2318), .val (.ref o2355), .val (.ref o2396), .val (.int u53), .val (.int (Int32.ofNat mm)), .val (.int (1 : Int32)), .val (.int e14), .val (.int e15), .val (.int (1 : Int32)), .val (.int (Int32.ofNat c2480')), .val (.int (Int32.ofNat c2483')), .val (.int (1 : Int32)), .val (.int (1 : Int32))] []) (fun _ kz => XS.ifNo X2485.here hx rfl (hb hby at_353) rfl ((if0 _ _).trans (feq (by decide)).1) kz) ?_
          refine own_g (mkF m 358 #[.val (.int x0), .val (.int x1), .val (.ref o2212), .val (.ref d), .val (.int (1 : Int32)), .val (.ref o2265), .val (.ref o2290), .val (.ref o2303), .val (.ref o2318), .val (.ref o2355), .val (.ref o2396), .val (.int u53), .val (.int (Int32.ofNat mm)), .val (.int (1 : Int32)), .val (.int e14), .val (.int e15), .val (.int (1 : Int32)), .val (.int (Int32.ofNat c2480')), .val (.int (Int32.ofNat c2483')), .val (.int (1 : Int32)), .val (.int (1 : Int32))] [(.int (1 : Int32))]) (fun _ kz => XS.iload X2485.here hx rfl (hb hby at_356) rfl kz) ?_
          refine own_g (mkF m 361 #[.val (.int x0), .val (.int x1), .val (.ref o2212), .val (.ref d), .val (.int (1 : Int32)), .val (.ref o2265), .val (.ref o2290), .val (.ref o2303), .val (.ref o2318), .val (.ref o2355), .val (.ref o2396), .val (.int u53), .val (.int (Int32.ofNat mm)), .val (.int (1 : Int32)), .val (.int e14), .val (.int e15), .val (.int (1 : Int32)), .val (.int (Int32.ofNat c2480')), .val (.int (Int32.ofNat c2483')), .val (.int (1 : Int32)), .val (.int (1 : Int32))] []) (fun _ kz => XS.ifNo X2485.here hx rfl (hb hby at_358) rfl ((if0 _ _).trans (feq (by decide)).1) kz) ?_
          refine own_g (mkF m 363 #[.val (.int x0), .val (.int x1), .val (.ref o2212), .val (.ref d), .val (.int (1 : Int32)), .val (.ref o2265), .val (.ref o2290), .val (.ref o2303), .val (.ref o2318), .val (.ref o2355), .val (.ref o2396), .val (.int u53), .val (.int (Int32.ofNat mm)), .val (.int (1 : Int32)), .val (.int e14), .val (.int e15), .val (.int (1 : Int32)), .val (.int (Int32.ofNat c2480')), .val (.int (Int32.ofNat c2483')), .val (.int (1 : Int32)), .val (.int (1 : Int32))] [(.int (1 : Int32))]) (fun _ kz => XS.iload X2485.here hx rfl (hb hby at_361) rfl kz) ?_
          refine own_g (mkF m 366 #[.val (.int x0), .val (.int x1), .val (.ref o2212), .val (.ref d), .val (.int (1 : Int32)), .val (.ref o2265), .val (.ref o2290), .val (.ref o2303), .val (.ref o2318), .val (.ref o2355), .val (.ref o2396), .val (.int u53), .val (.int (Int32.ofNat mm)), .val (.int (1 : Int32)), .val (.int e14), .val (.int e15), .val (.int (1 : Int32)), .val (.int (Int32.ofNat c2480')), .val (.int (Int32.ofNat c2483')), .val (.int (1 : Int32)), .val (.int (1 : Int32))] []) (fun _ kz => XS.ifNo X2485.here hx rfl (hb hby at_363) rfl ((if0 _ _).trans (feq (by decide)).1) kz) ?_
          refine own_g (mkF m 367 #[.val (.int x0), .val (.int x1), .val (.ref o2212), .val (.ref d), .val (.int (1 : Int32)), .val (.ref o2265), .val (.ref o2290), .val (.ref o2303), .val (.ref o2318), .val (.ref o2355), .val (.ref o2396), .val (.int u53), .val (.int (Int32.ofNat mm)), .val (.int (1 : Int32)), .val (.int e14), .val (.int e15), .val (.int (1 : Int32)), .val (.int (Int32.ofNat c2480')), .val (.int (Int32.ofNat c2483')), .val (.int (1 : Int32)), .val (.int (1 : Int32))] [(.int (1 : Int32))]) (fun _ kz => XS.iconst X2485.here hx rfl (hb hby at_366) kz) ?_
          refine own_g (mkF m 371 #[.val (.int x0), .val (.int x1), .val (.ref o2212), .val (.ref d), .val (.int (1 : Int32)), .val (.ref o2265), .val (.ref o2290), .val (.ref o2303), .val (.ref o2318), .val (.ref o2355), .val (.ref o2396), .val (.int u53), .val (.int (Int32.ofNat mm)), .val (.int (1 : Int32)), .val (.int e14), .val (.int e15), .val (.int (1 : Int32)), .val (.int (Int32.ofNat c2480')), .val (.int (Int32.ofNat c2483')), .val (.int (1 : Int32)), .val (.int (1 : Int32))] [(.int (1 : Int32))]) (fun _ kz => XS.goto X2485.here hx rfl (pc0 := 367) (pc' := 371) rfl (hb hby at_367) (by decide) (by decide) kz) ?_
          exact own_retZW X2485 hS2220 (by rw [e2485]; exact z2484) hx hret hlk (hb hby at_371) rfl (by decide) (by decide) (by first | exact ⟨rfl, N2485⟩ | (rw [e2485]; exact ⟨rfl, N2485⟩))
        · refine own_g (mkF m 335 #[.val (.int x0), .val (.int x1), .val (.ref o2212), .val (.ref d), .val (.int (1 : Int32)), .val (.ref o2265), .val (.ref o2290), .val (.ref o2303), .val (.ref o2318), .val (.ref o2355), .val (.ref o2396), .val (.int u53), .val (.int (Int32.ofNat mm)), .val (.int (1 : Int32)), .val (.int e14), .val (.int e15), .val (.int (1 : Int32)), .val (.int (Int32.ofNat c2480')), .val (.int (Int32.ofNat c2483')), .val (.int (1 : Int32)), .unset] [(.int (Int32.ofNat c2480')), (.int (Int32.ofNat c2483'))]) (fun _ kz => XS.ifNo X2485.here hx rfl (hb hby at_332) rfl ((if0 _ _).trans (feq hc332_2488).1) kz) ?_
          refine own_g (mkF m 336 #[.val (.int x0), .val (.int x1), .val (.ref o2212), .val (.ref d), .val (.int (1 : Int32)), .val (.ref o2265), .val (.ref o2290), .val (.ref o2303), .val (.ref o2318), .val (.ref o2355), .val (.ref o2396), .val (.int u53), .val (.int (Int32.ofNat mm)), .val (.int (1 : Int32)), .val (.int e14), .val (.int e15), .val (.int (1 : Int32)), .val (.int (Int32.ofNat c2480')), .val (.int (Int32.ofNat c2483')), .val (.int (1 : Int32)), .unset] [(.int (0 : Int32)), (.int (Int32.ofNat c2480')), (.int (Int32.ofNat c2483'))]) (fun _ kz => XS.iconst X2485.here hx rfl (hb hby at_335) kz) ?_
          refine own_g (mkF m 340 #[.val (.int x0), .val (.int x1), .val (.ref o2212), .val (.ref d), .val (.int (1 : Int32)), .val (.ref o2265), .val (.ref o2290), .val (.ref o2303), .val (.ref o2318), .val (.ref o2355), .val (.ref o2396), .val (.int u53), .val (.int (Int32.ofNat mm)), .val (.int (1 : Int32)), .val (.int e14), .val (.int e15), .val (.int (1 : Int32)), .val (.int (Int32.ofNat c2480')), .val (.int (Int32.ofNat c2483')), .val (.int (1 : Int32)), .unset] [(.int (0 : Int32)), (.int (Int32.ofNat c2480')), (.int (Int32.ofNat c2483'))]) (fun _ kz => XS.goto X2485.here hx rfl (pc0 := 336) (pc' := 340) rfl (hb hby at_336) (by decide) (by decide) kz) ?_
          refine own_g (mkF m 341 #[.val (.int x0), .val (.int x1), .val (.ref o2212), .val (.ref d), .val (.int (1 : Int32)), .val (.ref o2265), .val (.ref o2290), .val (.ref o2303), .val (.ref o2318), .val (.ref o2355), .val (.ref o2396), .val (.int u53), .val (.int (Int32.ofNat mm)), .val (.int (1 : Int32)), .val (.int e14), .val (.int e15), .val (.int (1 : Int32)), .val (.int (Int32.ofNat c2480')), .val (.int (Int32.ofNat c2483')), .val (.int (1 : Int32)), .unset] [(.int ((Int32.ofNat c2480') + (0 : Int32))), (.int (Int32.ofNat c2483'))]) (fun _ kz => XS.iadd X2485.here hx rfl (hb hby at_340) rfl kz) ?_
          refine own_g (mkF m 344 #[.val (.int x0), .val (.int x1), .val (.ref o2212), .val (.ref d), .val (.int (1 : Int32)), .val (.ref o2265), .val (.ref o2290), .val (.ref o2303), .val (.ref o2318), .val (.ref o2355), .val (.ref o2396), .val (.int u53), .val (.int (Int32.ofNat mm)), .val (.int (1 : Int32)), .val (.int e14), .val (.int e15), .val (.int (1 : Int32)), .val (.int (Int32.ofNat c2480')), .val (.int (Int32.ofNat c2483')), .val (.int (1 : Int32)), .unset] []) (fun _ kz => XS.icmpNo X2485.here hx rfl (hb hby at_341) rfl (teq (by (try rw [← em]); rw [← q15] at G6; simpa [hc332_2488] using G6)).2 kz) ?_
          refine own_g (mkF m 345 #[.val (.int x0), .val (.int x1), .val (.ref o2212), .val (.ref d), .val (.int (1 : Int32)), .val (.ref o2265), .val (.ref o2290), .val (.ref o2303), .val (.ref o2318), .val (.ref o2355), .val (.ref o2396), .val (.int u53), .val (.int (Int32.ofNat mm)), .val (.int (1 : Int32)), .val (.int e14), .val (.int e15), .val (.int (1 : Int32)), .val (.int (Int32.ofNat c2480')), .val (.int (Int32.ofNat c2483')), .val (.int (1 : Int32)), .unset] [(.int (1 : Int32))]) (fun _ kz => XS.iconst X2485.here hx rfl (hb hby at_344) kz) ?_
          refine own_g (mkF m 349 #[.val (.int x0), .val (.int x1), .val (.ref o2212), .val (.ref d), .val (.int (1 : Int32)), .val (.ref o2265), .val (.ref o2290), .val (.ref o2303), .val (.ref o2318), .val (.ref o2355), .val (.ref o2396), .val (.int u53), .val (.int (Int32.ofNat mm)), .val (.int (1 : Int32)), .val (.int e14), .val (.int e15), .val (.int (1 : Int32)), .val (.int (Int32.ofNat c2480')), .val (.int (Int32.ofNat c2483')), .val (.int (1 : Int32)), .unset] [(.int (1 : Int32))]) (fun _ kz => XS.goto X2485.here hx rfl (pc0 := 345) (pc' := 349) rfl (hb hby at_345) (by decide) (by decide) kz) ?_
          refine own_g (mkF m 351 #[.val (.int x0), .val (.int x1), .val (.ref o2212), .val (.ref d), .val (.int (1 : Int32)), .val (.ref o2265), .val (.ref o2290), .val (.ref o2303), .val (.ref o2318), .val (.ref o2355), .val (.ref o2396), .val (.int u53), .val (.int (Int32.ofNat mm)), .val (.int (1 : Int32)), .val (.int e14), .val (.int e15), .val (.int (1 : Int32)), .val (.int (Int32.ofNat c2480')), .val (.int (Int32.ofNat c2483')), .val (.int (1 : Int32)), .val (.int (1 : Int32))] []) (fun _ kz => XS.istore X2485.here hx rfl (hb hby at_349) rfl (l' := #[.val (.int x0), .val (.int x1), .val (.ref o2212), .val (.ref d), .val (.int (1 : Int32)), .val (.ref o2265), .val (.ref o2290), .val (.ref o2303), .val (.ref o2318), .val (.ref o2355), .val (.ref o2396), .val (.int u53), .val (.int (Int32.ofNat mm)), .val (.int (1 : Int32)), .val (.int e14), .val (.int e15), .val (.int (1 : Int32)), .val (.int (Int32.ofNat c2480')), .val (.int (Int32.ofNat c2483')), .val (.int (1 : Int32)), .val (.int (1 : Int32))]) rfl kz) ?_
          refine own_g (mkF m 353 #[.val (.int x0), .val (.int x1), .val (.ref o2212), .val (.ref d), .val (.int (1 : Int32)), .val (.ref o2265), .val (.ref o2290), .val (.ref o2303), .val (.ref o2318), .val (.ref o2355), .val (.ref o2396), .val (.int u53), .val (.int (Int32.ofNat mm)), .val (.int (1 : Int32)), .val (.int e14), .val (.int e15), .val (.int (1 : Int32)), .val (.int (Int32.ofNat c2480')), .val (.int (Int32.ofNat c2483')), .val (.int (1 : Int32)), .val (.int (1 : Int32))] [(.int (1 : Int32))]) (fun _ kz => XS.iload X2485.here hx rfl (hb hby at_351) rfl kz) ?_
          refine own_g (mkF m 356 #[.val (.int x0), .val (.int x1), .val (.ref o2212), .val (.ref d), .val (.int (1 : Int32)), .val (.ref o2265), .val (.ref o2290), .val (.ref o2303), .val (.ref o2318), .val (.ref o2355), .val (.ref o2396), .val (.int u53), .val (.int (Int32.ofNat mm)), .val (.int (1 : Int32)), .val (.int e14), .val (.int e15), .val (.int (1 : Int32)), .val (.int (Int32.ofNat c2480')), .val (.int (Int32.ofNat c2483')), .val (.int (1 : Int32)), .val (.int (1 : Int32))] []) (fun _ kz => XS.ifNo X2485.here hx rfl (hb hby at_353) rfl ((if0 _ _).trans (feq (by decide)).1) kz) ?_
          refine own_g (mkF m 358 #[.val (.int x0), .val (.int x1), .val (.ref o2212), .val (.ref d), .val (.int (1 : Int32)), .val (.ref o2265), .val (.ref o2290), .val (.ref o2303), .val (.ref o2318), .val (.ref o2355), .val (.ref o2396), .val (.int u53), .val (.int (Int32.ofNat mm)), .val (.int (1 : Int32)), .val (.int e14), .val (.int e15), .val (.int (1 : Int32)), .val (.int (Int32.ofNat c2480')), .val (.int (Int32.ofNat c2483')), .val (.int (1 : Int32)), .val (.int (1 : Int32))] [(.int (1 : Int32))]) (fun _ kz => XS.iload X2485.here hx rfl (hb hby at_356) rfl kz) ?_
          refine own_g (mkF m 361 #[.val (.int x0), .val (.int x1), .val (.ref o2212), .val (.ref d), .val (.int (1 : Int32)), .val (.ref o2265), .val (.ref o2290), .val (.ref o2303), .val (.ref o2318), .val (.ref o2355), .val (.ref o2396), .val (.int u53), .val (.int (Int32.ofNat mm)), .val (.int (1 : Int32)), .val (.int e14), .val (.int e15), .val (.int (1 : Int32)), .val (.int (Int32.ofNat c2480')), .val (.int (Int32.ofNat c2483')), .val (.int (1 : Int32)), .val (.int (1 : Int32))] []) (fun _ kz => XS.ifNo X2485.here hx rfl (hb hby at_358) rfl ((if0 _ _).trans (feq (by decide)).1) kz) ?_
          refine own_g (mkF m 363 #[.val (.int x0), .val (.int x1), .val (.ref o2212), .val (.ref d), .val (.int (1 : Int32)), .val (.ref o2265), .val (.ref o2290), .val (.ref o2303), .val (.ref o2318), .val (.ref o2355), .val (.ref o2396), .val (.int u53), .val (.int (Int32.ofNat mm)), .val (.int (1 : Int32)), .val (.int e14), .val (.int e15), .val (.int (1 : Int32)), .val (.int (Int32.ofNat c2480')), .val (.int (Int32.ofNat c2483')), .val (.int (1 : Int32)), .val (.int (1 : Int32))] [(.int (1 : Int32))]) (fun _ kz => XS.iload X2485.here hx rfl (hb hby at_361) rfl kz) ?_
          refine own_g (mkF m 366 #[.val (.int x0), .val (.int x1), .val (.ref o2212), .val (.ref d), .val (.int (1 : Int32)), .val (.ref o2265), .val (.ref o2290), .val (.ref o2303), .val (.ref o2318), .val (.ref o2355), .val (.ref o2396), .val (.int u53), .val (.int (Int32.ofNat mm)), .val (.int (1 : Int32)), .val (.int e14), .val (.int e15), .val (.int (1 : Int32)), .val (.int (Int32.ofNat c2480')), .val (.int (Int32.ofNat c2483')), .val (.int (1 : Int32)), .val (.int (1 : Int32))] []) (fun _ kz => XS.ifNo X2485.here hx rfl (hb hby at_363) rfl ((if0 _ _).trans (feq (by decide)).1) kz) ?_
          refine own_g (mkF m 367 #[.val (.int x0), .val (.int x1), .val (.ref o2212), .val (.ref d), .val (.int (1 : Int32)), .val (.ref o2265), .val (.ref o2290), .val (.ref o2303), .val (.ref o2318), .val (.ref o2355), .val (.ref o2396), .val (.int u53), .val (.int (Int32.ofNat mm)), .val (.int (1 : Int32)), .val (.int e14), .val (.int e15), .val (.int (1 : Int32)), .val (.int (Int32.ofNat c2480')), .val (.int (Int32.ofNat c2483')), .val (.int (1 : Int32)), .val (.int (1 : Int32))] [(.int (1 : Int32))]) (fun _ kz => XS.iconst X2485.here hx rfl (hb hby at_366) kz) ?_
          refine own_g (mkF m 371 #[.val (.int x0), .val (.int x1), .val (.ref o2212), .val (.ref d), .val (.int (1 : Int32)), .val (.ref o2265), .val (.ref o2290), .val (.ref o2303), .val (.ref o2318), .val (.ref o2355), .val (.ref o2396), .val (.int u53), .val (.int (Int32.ofNat mm)), .val (.int (1 : Int32)), .val (.int e14), .val (.int e15), .val (.int (1 : Int32)), .val (.int (Int32.ofNat c2480')), .val (.int (Int32.ofNat c2483')), .val (.int (1 : Int32)), .val (.int (1 : Int32))] [(.int (1 : Int32))]) (fun _ kz => XS.goto X2485.here hx rfl (pc0 := 367) (pc' := 371) rfl (hb hby at_367) (by decide) (by decide) kz) ?_
          exact own_retZW X2485 hS2220 (by rw [e2485]; exact z2484) hx hret hlk (hb hby at_371) rfl (by decide) (by decide) (by first | exact ⟨rfl, N2485⟩ | (rw [e2485]; exact ⟨rfl, N2485⟩))
  have rest1 : ∀ e14 : Int32, e14 = own_ahead (u33 qq) mv → own_E p e below (own_PW (fun v h L => v = some (.int 1) ∧ Fr n0 L) s room_1.cells room_1.slots) (T2455.setTop (mkF m 224 #[.val (.int x0), .val (.int x1), .val (.ref o2212), .val (.ref d), .val (.int (1 : Int32)), .val (.ref o2265), .val (.ref o2290), .val (.ref o2303), .val (.ref o2318), .val (.ref o2355), .val (.ref o2396), .val (.int u53), .val (.int mv), .val (.int (Int32.ofNat qq)), .val (.int e14), .unset, .unset, .unset, .unset, .unset, .unset] [])) := by
    intro e14 q14
    refine own_g (mkF m 226 #[.val (.int x0), .val (.int x1), .val (.ref o2212), .val (.ref d), .val (.int (1 : Int32)), .val (.ref o2265), .val (.ref o2290), .val (.ref o2303), .val (.ref o2318), .val (.ref o2355), .val (.ref o2396), .val (.int u53), .val (.int mv), .val (.int (Int32.ofNat qq)), .val (.int e14), .unset, .unset, .unset, .unset, .unset, .unset] [(.ref o2355)]) (fun _ kz => XS.aload X2455.here hx rfl (hb hby at_224) rfl rfl kz) ?_
    refine own_g (mkF m 228 #[.val (.int x0), .val (.int x1), .val (.ref o2212), .val (.ref d), .val (.int (1 : Int32)), .val (.ref o2265), .val (.ref o2290), .val (.ref o2303), .val (.ref o2318), .val (.ref o2355), .val (.ref o2396), .val (.int u53), .val (.int mv), .val (.int (Int32.ofNat qq)), .val (.int e14), .unset, .unset, .unset, .unset, .unset, .unset] [(.int (Int32.ofNat qq)), (.ref o2355)]) (fun _ kz => XS.iload X2455.here hx rfl (hb hby at_226) rfl kz) ?_
    refine own_ildI X2455 hx hZ e2455 f2463 (hb hby at_228) (own_nn (by omega)).1 (i := qq) (own_nn (by omega)).2 (by omega) (x := (u43 qq)) rfl ?_
    show own_E p e below _ (T2455.setTop (mkF m 229 #[.val (.int x0), .val (.int x1), .val (.ref o2212), .val (.ref d), .val (.int (1 : Int32)), .val (.ref o2265), .val (.ref o2290), .val (.ref o2303), .val (.ref o2318), .val (.ref o2355), .val (.ref o2396), .val (.int u53), .val (.int mv), .val (.int (Int32.ofNat qq)), .val (.int e14), .unset, .unset, .unset, .unset, .unset, .unset] [(.int (u43 qq))]))
    by_cases hc229_2489 : (u43 qq) < (0 : Int32)
    · refine own_g (mkF m 246 #[.val (.int x0), .val (.int x1), .val (.ref o2212), .val (.ref d), .val (.int (1 : Int32)), .val (.ref o2265), .val (.ref o2290), .val (.ref o2303), .val (.ref o2318), .val (.ref o2355), .val (.ref o2396), .val (.int u53), .val (.int mv), .val (.int (Int32.ofNat qq)), .val (.int e14), .unset, .unset, .unset, .unset, .unset, .unset] []) (fun _ kz => XS.ifYes X2455.here hx rfl (pc0 := 229) (pc' := 246) rfl (hb hby at_229) rfl ((if0 _ _).trans (tlt hc229_2489).1) (by decide) (by decide) kz) ?_
      refine own_g (mkF m 247 #[.val (.int x0), .val (.int x1), .val (.ref o2212), .val (.ref d), .val (.int (1 : Int32)), .val (.ref o2265), .val (.ref o2290), .val (.ref o2303), .val (.ref o2318), .val (.ref o2355), .val (.ref o2396), .val (.int u53), .val (.int mv), .val (.int (Int32.ofNat qq)), .val (.int e14), .unset, .unset, .unset, .unset, .unset, .unset] [(.int (0 : Int32))]) (fun _ kz => XS.iconst X2455.here hx rfl (hb hby at_246) kz) ?_
      refine own_g (mkF m 249 #[.val (.int x0), .val (.int x1), .val (.ref o2212), .val (.ref d), .val (.int (1 : Int32)), .val (.ref o2265), .val (.ref o2290), .val (.ref o2303), .val (.ref o2318), .val (.ref o2355), .val (.ref o2396), .val (.int u53), .val (.int mv), .val (.int (Int32.ofNat qq)), .val (.int e14), .val (.int (0 : Int32)), .unset, .unset, .unset, .unset, .unset] []) (fun _ kz => XS.istore X2455.here hx rfl (hb hby at_247) rfl (l' := #[.val (.int x0), .val (.int x1), .val (.ref o2212), .val (.ref d), .val (.int (1 : Int32)), .val (.ref o2265), .val (.ref o2290), .val (.ref o2303), .val (.ref o2318), .val (.ref o2355), .val (.ref o2396), .val (.int u53), .val (.int mv), .val (.int (Int32.ofNat qq)), .val (.int e14), .val (.int (0 : Int32)), .unset, .unset, .unset, .unset, .unset]) rfl kz) ?_
      exact rest e14 _ q14 (by simp [own_ahead, hc229_2489])
    · refine own_g (mkF m 232 #[.val (.int x0), .val (.int x1), .val (.ref o2212), .val (.ref d), .val (.int (1 : Int32)), .val (.ref o2265), .val (.ref o2290), .val (.ref o2303), .val (.ref o2318), .val (.ref o2355), .val (.ref o2396), .val (.int u53), .val (.int mv), .val (.int (Int32.ofNat qq)), .val (.int e14), .unset, .unset, .unset, .unset, .unset, .unset] []) (fun _ kz => XS.ifNo X2455.here hx rfl (hb hby at_229) rfl ((if0 _ _).trans (flt hc229_2489).1) kz) ?_
      refine own_g (mkF m 234 #[.val (.int x0), .val (.int x1), .val (.ref o2212), .val (.ref d), .val (.int (1 : Int32)), .val (.ref o2265), .val (.ref o2290), .val (.ref o2303), .val (.ref o2318), .val (.ref o2355), .val (.ref o2396), .val (.int u53), .val (.int mv), .val (.int (Int32.ofNat qq)), .val (.int e14), .unset, .unset, .unset, .unset, .unset, .unset] [(.ref o2355)]) (fun _ kz => XS.aload X2455.here hx rfl (hb hby at_232) rfl rfl kz) ?_
      refine own_g (mkF m 236 #[.val (.int x0), .val (.int x1), .val (.ref o2212), .val (.ref d), .val (.int (1 : Int32)), .val (.ref o2265), .val (.ref o2290), .val (.ref o2303), .val (.ref o2318), .val (.ref o2355), .val (.ref o2396), .val (.int u53), .val (.int mv), .val (.int (Int32.ofNat qq)), .val (.int e14), .unset, .unset, .unset, .unset, .unset, .unset] [(.int (Int32.ofNat qq)), (.ref o2355)]) (fun _ kz => XS.iload X2455.here hx rfl (hb hby at_234) rfl kz) ?_
      refine own_ildI X2455 hx hZ e2455 f2463 (hb hby at_236) (own_nn (by omega)).1 (i := qq) (own_nn (by omega)).2 (by omega) (x := (u43 qq)) rfl ?_
      show own_E p e below _ (T2455.setTop (mkF m 237 #[.val (.int x0), .val (.int x1), .val (.ref o2212), .val (.ref d), .val (.int (1 : Int32)), .val (.ref o2265), .val (.ref o2290), .val (.ref o2303), .val (.ref o2318), .val (.ref o2355), .val (.ref o2396), .val (.int u53), .val (.int mv), .val (.int (Int32.ofNat qq)), .val (.int e14), .unset, .unset, .unset, .unset, .unset, .unset] [(.int (u43 qq))]))
      refine own_g (mkF m 239 #[.val (.int x0), .val (.int x1), .val (.ref o2212), .val (.ref d), .val (.int (1 : Int32)), .val (.ref o2265), .val (.ref o2290), .val (.ref o2303), .val (.ref o2318), .val (.ref o2355), .val (.ref o2396), .val (.int u53), .val (.int mv), .val (.int (Int32.ofNat qq)), .val (.int e14), .unset, .unset, .unset, .unset, .unset, .unset] [(.int mv), (.int (u43 qq))]) (fun _ kz => XS.iload X2455.here hx rfl (hb hby at_237) rfl kz) ?_
      by_cases hc239_2490 : (u43 qq) < mv
      · refine own_g (mkF m 242 #[.val (.int x0), .val (.int x1), .val (.ref o2212), .val (.ref d), .val (.int (1 : Int32)), .val (.ref o2265), .val (.ref o2290), .val (.ref o2303), .val (.ref o2318), .val (.ref o2355), .val (.ref o2396), .val (.int u53), .val (.int mv), .val (.int (Int32.ofNat qq)), .val (.int e14), .unset, .unset, .unset, .unset, .unset, .unset] []) (fun _ kz => XS.icmpNo X2455.here hx rfl (hb hby at_239) rfl (tlt hc239_2490).2.1 kz) ?_
        refine own_g (mkF m 243 #[.val (.int x0), .val (.int x1), .val (.ref o2212), .val (.ref d), .val (.int (1 : Int32)), .val (.ref o2265), .val (.ref o2290), .val (.ref o2303), .val (.ref o2318), .val (.ref o2355), .val (.ref o2396), .val (.int u53), .val (.int mv), .val (.int (Int32.ofNat qq)), .val (.int e14), .unset, .unset, .unset, .unset, .unset, .unset] [(.int (1 : Int32))]) (fun _ kz => XS.iconst X2455.here hx rfl (hb hby at_242) kz) ?_
        refine own_g (mkF m 247 #[.val (.int x0), .val (.int x1), .val (.ref o2212), .val (.ref d), .val (.int (1 : Int32)), .val (.ref o2265), .val (.ref o2290), .val (.ref o2303), .val (.ref o2318), .val (.ref o2355), .val (.ref o2396), .val (.int u53), .val (.int mv), .val (.int (Int32.ofNat qq)), .val (.int e14), .unset, .unset, .unset, .unset, .unset, .unset] [(.int (1 : Int32))]) (fun _ kz => XS.goto X2455.here hx rfl (pc0 := 243) (pc' := 247) rfl (hb hby at_243) (by decide) (by decide) kz) ?_
        refine own_g (mkF m 249 #[.val (.int x0), .val (.int x1), .val (.ref o2212), .val (.ref d), .val (.int (1 : Int32)), .val (.ref o2265), .val (.ref o2290), .val (.ref o2303), .val (.ref o2318), .val (.ref o2355), .val (.ref o2396), .val (.int u53), .val (.int mv), .val (.int (Int32.ofNat qq)), .val (.int e14), .val (.int (1 : Int32)), .unset, .unset, .unset, .unset, .unset] []) (fun _ kz => XS.istore X2455.here hx rfl (hb hby at_247) rfl (l' := #[.val (.int x0), .val (.int x1), .val (.ref o2212), .val (.ref d), .val (.int (1 : Int32)), .val (.ref o2265), .val (.ref o2290), .val (.ref o2303), .val (.ref o2318), .val (.ref o2355), .val (.ref o2396), .val (.int u53), .val (.int mv), .val (.int (Int32.ofNat qq)), .val (.int e14), .val (.int (1 : Int32)), .unset, .unset, .unset, .unset, .unset]) rfl kz) ?_
        exact rest e14 _ q14 (by simp [own_ahead, hc229_2489, hc239_2490])
      · refine own_g (mkF m 246 #[.val (.int x0), .val (.int x1), .val (.ref o2212), .val (.ref d), .val (.int (1 : Int32)), .val (.ref o2265), .val (.ref o2290), .val (.ref o2303), .val (.ref o2318), .val (.ref o2355), .val (.ref o2396), .val (.int u53), .val (.int mv), .val (.int (Int32.ofNat qq)), .val (.int e14), .unset, .unset, .unset, .unset, .unset, .unset] []) (fun _ kz => XS.icmpYes X2455.here hx rfl (pc0 := 239) (pc' := 246) rfl (hb hby at_239) rfl (flt hc239_2490).2.1 (by decide) (by decide) kz) ?_
        refine own_g (mkF m 247 #[.val (.int x0), .val (.int x1), .val (.ref o2212), .val (.ref d), .val (.int (1 : Int32)), .val (.ref o2265), .val (.ref o2290), .val (.ref o2303), .val (.ref o2318), .val (.ref o2355), .val (.ref o2396), .val (.int u53), .val (.int mv), .val (.int (Int32.ofNat qq)), .val (.int e14), .unset, .unset, .unset, .unset, .unset, .unset] [(.int (0 : Int32))]) (fun _ kz => XS.iconst X2455.here hx rfl (hb hby at_246) kz) ?_
        refine own_g (mkF m 249 #[.val (.int x0), .val (.int x1), .val (.ref o2212), .val (.ref d), .val (.int (1 : Int32)), .val (.ref o2265), .val (.ref o2290), .val (.ref o2303), .val (.ref o2318), .val (.ref o2355), .val (.ref o2396), .val (.int u53), .val (.int mv), .val (.int (Int32.ofNat qq)), .val (.int e14), .val (.int (0 : Int32)), .unset, .unset, .unset, .unset, .unset] []) (fun _ kz => XS.istore X2455.here hx rfl (hb hby at_247) rfl (l' := #[.val (.int x0), .val (.int x1), .val (.ref o2212), .val (.ref d), .val (.int (1 : Int32)), .val (.ref o2265), .val (.ref o2290), .val (.ref o2303), .val (.ref o2318), .val (.ref o2355), .val (.ref o2396), .val (.int u53), .val (.int mv), .val (.int (Int32.ofNat qq)), .val (.int e14), .val (.int (0 : Int32)), .unset, .unset, .unset, .unset, .unset]) rfl kz) ?_
        exact rest e14 _ q14 (by simp [own_ahead, hc229_2489, hc239_2490])
  by_cases hc204_2491 : (u33 qq) < (0 : Int32)
  · refine own_g (mkF m 221 #[.val (.int x0), .val (.int x1), .val (.ref o2212), .val (.ref d), .val (.int (1 : Int32)), .val (.ref o2265), .val (.ref o2290), .val (.ref o2303), .val (.ref o2318), .val (.ref o2355), .val (.ref o2396), .val (.int u53), .val (.int mv), .val (.int (Int32.ofNat qq)), .unset, .unset, .unset, .unset, .unset, .unset, .unset] []) (fun _ kz => XS.ifYes X2455.here hx rfl (pc0 := 204) (pc' := 221) rfl (hb hby at_204) rfl ((if0 _ _).trans (tlt hc204_2491).1) (by decide) (by decide) kz) ?_
    refine own_g (mkF m 222 #[.val (.int x0), .val (.int x1), .val (.ref o2212), .val (.ref d), .val (.int (1 : Int32)), .val (.ref o2265), .val (.ref o2290), .val (.ref o2303), .val (.ref o2318), .val (.ref o2355), .val (.ref o2396), .val (.int u53), .val (.int mv), .val (.int (Int32.ofNat qq)), .unset, .unset, .unset, .unset, .unset, .unset, .unset] [(.int (0 : Int32))]) (fun _ kz => XS.iconst X2455.here hx rfl (hb hby at_221) kz) ?_
    refine own_g (mkF m 224 #[.val (.int x0), .val (.int x1), .val (.ref o2212), .val (.ref d), .val (.int (1 : Int32)), .val (.ref o2265), .val (.ref o2290), .val (.ref o2303), .val (.ref o2318), .val (.ref o2355), .val (.ref o2396), .val (.int u53), .val (.int mv), .val (.int (Int32.ofNat qq)), .val (.int (0 : Int32)), .unset, .unset, .unset, .unset, .unset, .unset] []) (fun _ kz => XS.istore X2455.here hx rfl (hb hby at_222) rfl (l' := #[.val (.int x0), .val (.int x1), .val (.ref o2212), .val (.ref d), .val (.int (1 : Int32)), .val (.ref o2265), .val (.ref o2290), .val (.ref o2303), .val (.ref o2318), .val (.ref o2355), .val (.ref o2396), .val (.int u53), .val (.int mv), .val (.int (Int32.ofNat qq)), .val (.int (0 : Int32)), .unset, .unset, .unset, .unset, .unset, .unset]) rfl kz) ?_
    exact rest1 _ (by simp [own_ahead, hc204_2491])
  · refine own_g (mkF m 207 #[.val (.int x0), .val (.int x1), .val (.ref o2212), .val (.ref d), .val (.int (1 : Int32)), .val (.ref o2265), .val (.ref o2290), .val (.ref o2303), .val (.ref o2318), .val (.ref o2355), .val (.ref o2396), .val (.int u53), .val (.int mv), .val (.int (Int32.ofNat qq)), .unset, .unset, .unset, .unset, .unset, .unset, .unset] []) (fun _ kz => XS.ifNo X2455.here hx rfl (hb hby at_204) rfl ((if0 _ _).trans (flt hc204_2491).1) kz) ?_
    refine own_g (mkF m 209 #[.val (.int x0), .val (.int x1), .val (.ref o2212), .val (.ref d), .val (.int (1 : Int32)), .val (.ref o2265), .val (.ref o2290), .val (.ref o2303), .val (.ref o2318), .val (.ref o2355), .val (.ref o2396), .val (.int u53), .val (.int mv), .val (.int (Int32.ofNat qq)), .unset, .unset, .unset, .unset, .unset, .unset, .unset] [(.ref o2318)]) (fun _ kz => XS.aload X2455.here hx rfl (hb hby at_207) rfl rfl kz) ?_
    refine own_g (mkF m 211 #[.val (.int x0), .val (.int x1), .val (.ref o2212), .val (.ref d), .val (.int (1 : Int32)), .val (.ref o2265), .val (.ref o2290), .val (.ref o2303), .val (.ref o2318), .val (.ref o2355), .val (.ref o2396), .val (.int u53), .val (.int mv), .val (.int (Int32.ofNat qq)), .unset, .unset, .unset, .unset, .unset, .unset, .unset] [(.int (Int32.ofNat qq)), (.ref o2318)]) (fun _ kz => XS.iload X2455.here hx rfl (hb hby at_209) rfl kz) ?_
    refine own_ildI X2455 hx hZ e2455 f2462 (hb hby at_211) (own_nn (by omega)).1 (i := qq) (own_nn (by omega)).2 (by omega) (x := (u33 qq)) rfl ?_
    show own_E p e below _ (T2455.setTop (mkF m 212 #[.val (.int x0), .val (.int x1), .val (.ref o2212), .val (.ref d), .val (.int (1 : Int32)), .val (.ref o2265), .val (.ref o2290), .val (.ref o2303), .val (.ref o2318), .val (.ref o2355), .val (.ref o2396), .val (.int u53), .val (.int mv), .val (.int (Int32.ofNat qq)), .unset, .unset, .unset, .unset, .unset, .unset, .unset] [(.int (u33 qq))]))
    refine own_g (mkF m 214 #[.val (.int x0), .val (.int x1), .val (.ref o2212), .val (.ref d), .val (.int (1 : Int32)), .val (.ref o2265), .val (.ref o2290), .val (.ref o2303), .val (.ref o2318), .val (.ref o2355), .val (.ref o2396), .val (.int u53), .val (.int mv), .val (.int (Int32.ofNat qq)), .unset, .unset, .unset, .unset, .unset, .unset, .unset] [(.int mv), (.int (u33 qq))]) (fun _ kz => XS.iload X2455.here hx rfl (hb hby at_212) rfl kz) ?_
    by_cases hc214_2492 : (u33 qq) < mv
    · refine own_g (mkF m 217 #[.val (.int x0), .val (.int x1), .val (.ref o2212), .val (.ref d), .val (.int (1 : Int32)), .val (.ref o2265), .val (.ref o2290), .val (.ref o2303), .val (.ref o2318), .val (.ref o2355), .val (.ref o2396), .val (.int u53), .val (.int mv), .val (.int (Int32.ofNat qq)), .unset, .unset, .unset, .unset, .unset, .unset, .unset] []) (fun _ kz => XS.icmpNo X2455.here hx rfl (hb hby at_214) rfl (tlt hc214_2492).2.1 kz) ?_
      refine own_g (mkF m 218 #[.val (.int x0), .val (.int x1), .val (.ref o2212), .val (.ref d), .val (.int (1 : Int32)), .val (.ref o2265), .val (.ref o2290), .val (.ref o2303), .val (.ref o2318), .val (.ref o2355), .val (.ref o2396), .val (.int u53), .val (.int mv), .val (.int (Int32.ofNat qq)), .unset, .unset, .unset, .unset, .unset, .unset, .unset] [(.int (1 : Int32))]) (fun _ kz => XS.iconst X2455.here hx rfl (hb hby at_217) kz) ?_
      refine own_g (mkF m 222 #[.val (.int x0), .val (.int x1), .val (.ref o2212), .val (.ref d), .val (.int (1 : Int32)), .val (.ref o2265), .val (.ref o2290), .val (.ref o2303), .val (.ref o2318), .val (.ref o2355), .val (.ref o2396), .val (.int u53), .val (.int mv), .val (.int (Int32.ofNat qq)), .unset, .unset, .unset, .unset, .unset, .unset, .unset] [(.int (1 : Int32))]) (fun _ kz => XS.goto X2455.here hx rfl (pc0 := 218) (pc' := 222) rfl (hb hby at_218) (by decide) (by decide) kz) ?_
      refine own_g (mkF m 224 #[.val (.int x0), .val (.int x1), .val (.ref o2212), .val (.ref d), .val (.int (1 : Int32)), .val (.ref o2265), .val (.ref o2290), .val (.ref o2303), .val (.ref o2318), .val (.ref o2355), .val (.ref o2396), .val (.int u53), .val (.int mv), .val (.int (Int32.ofNat qq)), .val (.int (1 : Int32)), .unset, .unset, .unset, .unset, .unset, .unset] []) (fun _ kz => XS.istore X2455.here hx rfl (hb hby at_222) rfl (l' := #[.val (.int x0), .val (.int x1), .val (.ref o2212), .val (.ref d), .val (.int (1 : Int32)), .val (.ref o2265), .val (.ref o2290), .val (.ref o2303), .val (.ref o2318), .val (.ref o2355), .val (.ref o2396), .val (.int u53), .val (.int mv), .val (.int (Int32.ofNat qq)), .val (.int (1 : Int32)), .unset, .unset, .unset, .unset, .unset, .unset]) rfl kz) ?_
      exact rest1 _ (by simp [own_ahead, hc204_2491, hc214_2492])
    · refine own_g (mkF m 221 #[.val (.int x0), .val (.int x1), .val (.ref o2212), .val (.ref d), .val (.int (1 : Int32)), .val (.ref o2265), .val (.ref o2290), .val (.ref o2303), .val (.ref o2318), .val (.ref o2355), .val (.ref o2396), .val (.int u53), .val (.int mv), .val (.int (Int32.ofNat qq)), .unset, .unset, .unset, .unset, .unset, .unset, .unset] []) (fun _ kz => XS.icmpYes X2455.here hx rfl (pc0 := 214) (pc' := 221) rfl (hb hby at_214) rfl (flt hc214_2492).2.1 (by decide) (by decide) kz) ?_
      refine own_g (mkF m 222 #[.val (.int x0), .val (.int x1), .val (.ref o2212), .val (.ref d), .val (.int (1 : Int32)), .val (.ref o2265), .val (.ref o2290), .val (.ref o2303), .val (.ref o2318), .val (.ref o2355), .val (.ref o2396), .val (.int u53), .val (.int mv), .val (.int (Int32.ofNat qq)), .unset, .unset, .unset, .unset, .unset, .unset, .unset] [(.int (0 : Int32))]) (fun _ kz => XS.iconst X2455.here hx rfl (hb hby at_221) kz) ?_
      refine own_g (mkF m 224 #[.val (.int x0), .val (.int x1), .val (.ref o2212), .val (.ref d), .val (.int (1 : Int32)), .val (.ref o2265), .val (.ref o2290), .val (.ref o2303), .val (.ref o2318), .val (.ref o2355), .val (.ref o2396), .val (.int u53), .val (.int mv), .val (.int (Int32.ofNat qq)), .val (.int (0 : Int32)), .unset, .unset, .unset, .unset, .unset, .unset] []) (fun _ kz => XS.istore X2455.here hx rfl (hb hby at_222) rfl (l' := #[.val (.int x0), .val (.int x1), .val (.ref o2212), .val (.ref d), .val (.int (1 : Int32)), .val (.ref o2265), .val (.ref o2290), .val (.ref o2303), .val (.ref o2318), .val (.ref o2355), .val (.ref o2396), .val (.int u53), .val (.int mv), .val (.int (Int32.ofNat qq)), .val (.int (0 : Int32)), .unset, .unset, .unset, .unset, .unset, .unset]) rfl kz) ?_
      exact rest1 _ (by simp [own_ahead, hc204_2491, hc214_2492])
theorem own_two {args : Array Value} (hs : args.size = 2) : ∃ w0 w1 : Value, args = #[w0, w1] := by
  obtain ⟨L⟩ := args
  match L, hs with
  | [w0, w1], _ => exact ⟨w0, w1, rfl⟩
set_option maxRecDepth 65536 in
set_option maxHeartbeats 40000000 in
theorem own_comes {Post : Tables → Env → Array Value → State → Outcome → State → Prop} (hpost : ∀ tb e args s v u, (limb_1_1.after args s (.returned v) u = true ∧ limb_1_2.after args s (.returned v) u = true ∧ True) → ReturnedEndW s (.returned v) u (Jvm.fieldLocs frame_1_writes args s ++ Jvm.arrayLocs frame_1_arrays args s ++ Jvm.staticLocs frame_1_statics s) 80 7744 → Post tb e args s (.returned v) u) :
    ArmFor flags0 classFile x code maxLocals ret World_1 tables_1 room_1 Calls_1 rest_1 Pre_1 Post := by
  intro l hfl _ _ p e ha hc hk s m args below hf hA hF happ hP
  obtain ⟨hcalls, hrest, hpre⟩ := hP
  obtain ⟨-, -, -, hnamed, -, -, -, hat⟩ := (Spec.applies_iff hf).mp happ
  obtain ⟨hg, hn⟩ := and_e (Cond.before_iff.mp (show (Jvm.Cond.and given_1 narrow_1).before args s = true from hpre))
  obtain ⟨hcount, r0⟩ := and_e hg
  obtain ⟨q0, r1⟩ := and_e r0
  obtain ⟨w0, w1, rfl⟩ := own_two (args := args) (by simpa [Cond.value, given_1] using hcount)
  have hw := fun d (hd : d ∈ tables_1) => atoms_spec (ws := Jvm.Cond.code x code maxLocals ret :: tables_1) hat d (List.mem_cons_of_mem _ hd)
  obtain ⟨i0, e0⟩ := is_v q0
  obtain rfl : w0 = (.int i0) := Option.some.inj e0
  obtain ⟨i1, e1⟩ := is_v r1
  obtain rfl : w1 = (.int i1) := Option.some.inj e1
  obtain ⟨hsets, -⟩ := atoms_of _ (rest_1_c_eq ▸ (show rest_1_c.before _ s = true from hrest))
  obtain ⟨sv, ev⟩ := arr_v (Cond.before_iff.mp (hsets _ (List.mem_of_getElem? (i := 6) rfl)))
  have S1 : Sta s s.heap "java/util/ArrayList" "DEFAULTCAPACITY_EMPTY_ELEMENTDATA" "[Ljava/lang/Object;" (.ref sv) := Sta.start ev (Or.inr ⟨(own_w hw 113 rfl), hsets _ (List.mem_of_getElem? (i := 2) rfl)⟩)
  obtain ⟨n, o, h1, h2, h3, _, L, rfl, ⟨rfl, N⟩, hq⟩ := own_c_law l s _ hw i0 i1 sv s.heap s.heap.size (Nat.le_refl _) S1 p e ha hc hk s m _ below hf ((Spec.applies_iff_loose hf).mp happ).1 ⟨rfl, State.Warmed39.refl s, rfl⟩ trivial
  refine ⟨n, _, h1, h2, h3, hpost _ _ _ _ _ _ ⟨Cond.after_iff.mpr rfl, Cond.after_iff.mpr (eq_i res_at (Term.int_eval (1)) rfl), trivial⟩ ⟨hq.1, hq.2.1, hq.2.2.1, (hq.2.2.2.sift fun y hy => Or.inr (N y hy)).mono (by decide) (by decide)⟩⟩
theorem main_1_1 : Claimed_1_1 := own_comes fun _ _ _ _ _ _ h hF => ⟨h.1, hF⟩
theorem main_1_2 : Claimed_1_2 := own_comes fun _ _ _ _ _ _ h hF => ⟨h.2.1, hF⟩
end Jvm.Pilot.@@N@@
namespace Jvm.Pilot.@@N@@
open Jvm Jvm.ClassFile Sem Op Lib Jvm.Free Jvm.Stand Jvm.Pilot.@@N@@.Jvm.D
/-! MADE BY PROGRAM (witnessworld.py) out of the Statement's table words and the real class files: 43 classes; the members and pool entries that the words name. The judged class is class 1, her method 2. -/
namespace start1
open Jvm.ClassFile
def u (s : String) : CpInfo := .utf8 (stringToUtf16 s)
/-- a pool by its gaps: so many unusable entries, then the entry; so many at the end -/
def gap : Nat → List CpInfo → List CpInfo
  | 0, r => r
  | n + 1, r => .unusable :: gap n r
def poolList (es : List (Nat × CpInfo)) (last : Nat) : List CpInfo := es.foldr (fun e r => gap e.1 (e.2 :: r)) (gap last [])
def pool (es : List (Nat × CpInfo)) (last : Nat) : Array CpInfo := ⟨poolList es last⟩
def fileOf (pool : Array CpInfo) (this : Nat) (attrs : Array Attribute := #[]) (ms : Array MethodInfo := #[]) (fl : Nat := 33) (sup : Nat := 0) (ifs : Array Nat := #[]) (fds : Array FieldInfo := #[]) : ClassFile where
  minorVersion := 0
  majorVersion := 65
  constantPool := pool
  accessFlags := fl
  thisClass := this
  superClass := sup
  interfaces := ifs
  fields := fds
  methods := ms
  attributes := attrs
def plain (name : String) (sup : Option ClassId) : Class where
  name := name
  kind := .ordinary
  loader := none
  accessFlags := 33
  super := sup
  interfaces := #[]
  cf := none
  fields := #[]
  methods := #[]
  instanceTypes := #[]
  staticTypes := #[]
  resolved := #[]
  callSites := []
  init := .initialized
  statics := none
  mirror := none

def pool0 : Array CpInfo := pool [(5, u "<init>"), (0, u "()V"), (1, .class_ 10), (1, u "java/lang/Object")] 113

def k0c0 : Code := { maxStack := 0, maxLocals := 1, code := object_method_1_code, exceptionTable := #[], attributes := #[] }
def k0m0 : Method := { name := "<init>", desc := "()V", sig := { parameters := [], returnType := none }, accessFlags := 1, code := some k0c0 }
/-- java/lang/Object -/
def k0 : Class := { plain "java/lang/Object" none with
  accessFlags := 33
  interfaces := #[]
  cf := some (fileOf pool0 8 #[] #[{ accessFlags := 1, nameIndex := 5, descriptorIndex := 6, attributes := #[] }] 33 0 #[] #[])
  fields := #[]
  methods := #[k0m0]
  instanceTypes := #[]
  staticTypes := #[]
  resolved := Array.replicate 124 none
  statics := none }

def pool1 : Array CpInfo := pool [(2, .class_ 4), (1, u "java/lang/Object"), (0, u "<init>"), (0, u "()V"), (0, .methodref 8 9), (0, .class_ 10), (0, .nameAndType 11 12), (0, u "com/example/holdfast/holdfast/dom/CompactDocument"), (0, u "retagged"), (0, u "(I)V"), (0, .methodref 8 14), (0, .nameAndType 15 12), (0, u "changed"), (0, .class_ 17), (0, u "com/example/holdfast/holdfast/dom/CompactDocument$Builder"), (0, .methodref 16 19), (0, .nameAndType 5 20), (0, u "(Ljava/lang/String;I)V"), (0, .methodref 16 22), (0, .nameAndType 23 24), (0, u "keepSource"), (0, u "([BLcom/example/holdfast/holdfast/dom/CompactDocument$TextReader;)V"), (0, .methodref 16 26), (0, .nameAndType 27 28), (0, u "document"), (0, u "()Lcom/example/holdfast/holdfast/dom/CompactDocument;"), (0, .methodref 8 30), (0, .nameAndType 31 32), (0, u "add"), (0, u "(SI)I"), (0, .methodref 34 35), (0, .class_ 36), (0, .nameAndType 37 38), (0, u "com/example/holdfast/holdfast/dom/CompactDocumentUnmarkSincePinLaw"), (0, u "apply"), (0, u "(Lcom/example/holdfast/holdfast/dom/CompactDocument;[I[Z[Z[I[III)I"), (0, .integer 2147483647), (0, .methodref 8 41), (0, .nameAndType 42 12), (0, u "unmarkSince"), (0, .methodref 8 44), (0, .nameAndType 45 46), (0, u "changeMarks"), (0, u "()I"), (3, u "law"), (0, u "(II)Z")] 11

def k1m0 : Method := { name := "<init>", desc := "()V", sig := { parameters := [], returnType := none }, accessFlags := 1, code := none }
def k1c1 : Code := { maxStack := 3, maxLocals := 10, code := method_2_code, exceptionTable := #[], attributes := #[] }
def k1m1 : Method := { name := "apply", desc := "(Lcom/example/holdfast/holdfast/dom/CompactDocument;[I[Z[Z[I[III)I", sig := { parameters := [(.object "com/example/holdfast/holdfast/dom/CompactDocument"), (.array .int), (.array .boolean), (.array .boolean), (.array .int), (.array .int), .int, .int], returnType := some .int }, accessFlags := 10, code := some k1c1 }
def k1c2 : Code := { maxStack := 9, maxLocals := 21, code := code, exceptionTable := #[], attributes := #[] }
def k1m2 : Method := { name := "law", desc := "(II)Z", sig := { parameters := [.int, .int], returnType := some .boolean }, accessFlags := 9, code := some k1c2 }
/-- com/example/holdfast/holdfast/dom/CompactDocumentUnmarkSincePinLaw -/
def k1 : Class := { plain "com/example/holdfast/holdfast/dom/CompactDocumentUnmarkSincePinLaw" (some 0) with
  accessFlags := 49
  interfaces := #[]
  cf := some (fileOf pool1 34 #[] #[{ accessFlags := 1, nameIndex := 5, descriptorIndex := 6, attributes := #[] }, { accessFlags := 10, nameIndex := 37, descriptorIndex := 38, attributes := #[] }, { accessFlags := 9, nameIndex := 50, descriptorIndex := 51, attributes := #[] }] 49 2 #[] #[])
  fields := #[]
  methods := #[k1m0, k1m1, k1m2]
  instanceTypes := #[]
  staticTypes := #[]
  resolved := Array.replicate 63 none
  statics := none }

def pool2 : Array CpInfo := pool [(3, .class_ 4), (0, u "com/example/holdfast/holdfast/dom/CompactDocument"), (0, .methodref 6 7), (0, .class_ 8), (0, .nameAndType 9 10), (0, u "com/example/holdfast/holdfast/dom/CompactDocument$Builder"), (0, u "<init>"), (0, u "(Ljava/lang/String;II)V"), (0, .methodref 12 13), (0, .class_ 14), (0, .nameAndType 9 15), (0, u "java/lang/Object"), (0, u "()V"), (0, .methodref 3 13), (0, .fieldref 6 18), (0, .nameAndType 19 20), (0, u "document"), (0, u "Lcom/example/holdfast/holdfast/dom/CompactDocument;"), (0, .fieldref 6 22), (0, .nameAndType 23 24), (0, u "text"), (0, u "I"), (0, .class_ 26), (0, u "java/util/ArrayList"), (0, .methodref 25 13), (0, .fieldref 6 29), (0, .nameAndType 30 31), (0, u "declarations"), (0, u "Ljava/util/List;"), (0, .class_ 33), (0, u "com/example/holdfast/holdfast/dom/CompactDocument$Namespaces"), (0, .fieldref 6 35), (0, .nameAndType 36 37), (0, u "scopes"), (0, u "[Lcom/example/holdfast/holdfast/dom/CompactDocument$Namespaces;"), (0, .fieldref 3 39), (0, .nameAndType 40 41), (0, u "documentUri"), (0, u "Ljava/lang/String;"), (0, .fieldref 3 43), (0, .nameAndType 44 45), (0, u "types"), (0, u "[B"), (4, .methodref 51 52), (0, .class_ 53), (0, .nameAndType 54 55), (0, u "java/lang/Math"), (0, u "max"), (0, u "(II)I"), (0, .fieldref 3 57), (0, .nameAndType 58 59), (0, u "chars"), (0, u "[C"), (8, .fieldref 3 69), (0, .nameAndType 70 45), (0, u "source"), (0, .fieldref 3 72), (0, .nameAndType 73 74), (0, u "reader"), (0, u "Lcom/example/holdfast/holdfast/dom/CompactDocument$TextReader;"), (0, .fieldref 3 76), (0, .nameAndType 77 78), (0, u "sourceStarts"), (0, u "[I"), (0, .fieldref 3 80), (0, .nameAndType 81 78), (0, u "sourceEnds"), (2, u "inSource"), (0, .fieldref 3 86), (0, .nameAndType 87 24), (0, u "count"), (87, u "depth"), (23, u "current"), (29, u "inCdata"), (0, u "Z"), (50, .fieldref 3 282), (0, .nameAndType 283 24), (0, u "built"), (2, u "(Ljava/lang/String;I)V"), (5, u "keepSource"), (0, u "([BLcom/example/holdfast/holdfast/dom/CompactDocument$TextReader;)V"), (13, u "()Lcom/example/holdfast/holdfast/dom/CompactDocument;")] 21

def k2c0 : Code := { maxStack := 5, maxLocals := 3, code := prog_122_method_1_code, exceptionTable := #[], attributes := #[] }
def k2m0 : Method := { name := "<init>", desc := "(Ljava/lang/String;I)V", sig := { parameters := [(.object "java/lang/String"), .int], returnType := none }, accessFlags := 1, code := some k2c0 }
def k2c1 : Code := { maxStack := 4, maxLocals := 4, code := prog_122_method_2_code, exceptionTable := #[], attributes := #[] }
def k2m1 : Method := { name := "<init>", desc := "(Ljava/lang/String;II)V", sig := { parameters := [(.object "java/lang/String"), .int, .int], returnType := none }, accessFlags := 1, code := some k2c1 }
def k2c2 : Code := { maxStack := 2, maxLocals := 3, code := prog_122_method_4_code, exceptionTable := #[], attributes := #[] }
def k2m2 : Method := { name := "keepSource", desc := "([BLcom/example/holdfast/holdfast/dom/CompactDocument$TextReader;)V", sig := { parameters := [(.array .byte), (.object "com/example/holdfast/holdfast/dom/CompactDocument$TextReader")], returnType := none }, accessFlags := 1, code := some k2c2 }
def k2c3 : Code := { maxStack := 2, maxLocals := 1, code := prog_122_method_22_code, exceptionTable := #[], attributes := #[] }
def k2m3 : Method := { name := "document", desc := "()Lcom/example/holdfast/holdfast/dom/CompactDocument;", sig := { parameters := [], returnType := some (.object "com/example/holdfast/holdfast/dom/CompactDocument") }, accessFlags := 1, code := some k2c3 }
/-- com/example/holdfast/holdfast/dom/CompactDocument$Builder -/
def k2 : Class := { plain "com/example/holdfast/holdfast/dom/CompactDocument$Builder" (some 0) with
  accessFlags := 49
  interfaces := #[]
  cf := some (fileOf pool2 6 #[.nestHost 3] #[{ accessFlags := 1, nameIndex := 9, descriptorIndex := 286, attributes := #[] }, { accessFlags := 1, nameIndex := 9, descriptorIndex := 10, attributes := #[] }, { accessFlags := 1, nameIndex := 292, descriptorIndex := 293, attributes := #[] }, { accessFlags := 1, nameIndex := 19, descriptorIndex := 307, attributes := #[] }] 49 12 #[] #[{ accessFlags := 18, nameIndex := 19, descriptorIndex := 20, attributes := #[] }, { accessFlags := 2, nameIndex := 199, descriptorIndex := 24, attributes := #[] }, { accessFlags := 2, nameIndex := 23, descriptorIndex := 24, attributes := #[] }, { accessFlags := 2, nameIndex := 84, descriptorIndex := 24, attributes := #[] }, { accessFlags := 2, nameIndex := 229, descriptorIndex := 230, attributes := #[] }, { accessFlags := 18, nameIndex := 30, descriptorIndex := 31, attributes := #[] }, { accessFlags := 2, nameIndex := 36, descriptorIndex := 37, attributes := #[] }, { accessFlags := 2, nameIndex := 175, descriptorIndex := 24, attributes := #[] }])
  fields := #[{ name := "document", type := (.object "com/example/holdfast/holdfast/dom/CompactDocument"), accessFlags := 18, slot := 0, constantValue := 0 }, { name := "current", type := .int, accessFlags := 2, slot := 1, constantValue := 0 }, { name := "text", type := .int, accessFlags := 2, slot := 2, constantValue := 0 }, { name := "inSource", type := .int, accessFlags := 2, slot := 3, constantValue := 0 }, { name := "inCdata", type := .boolean, accessFlags := 2, slot := 4, constantValue := 0 }, { name := "declarations", type := (.object "java/util/List"), accessFlags := 18, slot := 5, constantValue := 0 }, { name := "scopes", type := (.array (.object "com/example/holdfast/holdfast/dom/CompactDocument$Namespaces")), accessFlags := 2, slot := 6, constantValue := 0 }, { name := "depth", type := .int, accessFlags := 2, slot := 7, constantValue := 0 }]
  methods := #[k2m0, k2m1, k2m2, k2m3]
  instanceTypes := #[(.object "com/example/holdfast/holdfast/dom/CompactDocument"), .int, .int, .int, .boolean, (.object "java/util/List"), (.array (.object "com/example/holdfast/holdfast/dom/CompactDocument$Namespaces")), .int]
  staticTypes := #[]
  resolved := Array.replicate 329 none
  statics := none }

def pool3 : Array CpInfo := pool [(1, u "org/w3c/dom/Node"), (0, .class_ 1), (0, u "java/lang/Object"), (0, .class_ 3)] 0

/-- org/w3c/dom/Node -/
def k3 : Class := { plain "org/w3c/dom/Node" (some 0) with
  accessFlags := 1537
  interfaces := #[]
  cf := some (fileOf pool3 2 #[] #[] 1537 4 #[] #[])
  fields := #[]
  methods := #[]
  instanceTypes := #[]
  staticTypes := #[]
  resolved := Array.replicate 5 none
  statics := none }

def pool4 : Array CpInfo := pool [(3, .methodref 4 5), (0, .class_ 6), (0, .nameAndType 7 8), (0, u "java/lang/Object"), (0, u "<init>"), (0, u "()V"), (0, .class_ 10), (0, u "com/example/holdfast/holdfast/dom/CompactDocument"), (0, .fieldref 12 13), (0, .class_ 14), (0, .nameAndType 15 16), (0, u "com/example/holdfast/holdfast/dom/CompactNode"), (0, u "document"), (0, u "Lcom/example/holdfast/holdfast/dom/CompactDocument;"), (0, .fieldref 12 18), (0, .nameAndType 19 20), (0, u "index"), (0, u "I"), (12, .class_ 34), (0, u "com/example/holdfast/holdfast/dom/CompactNode$ChildList"), (19, .class_ 55), (0, u "org/w3c/dom/Node"), (308, u "XMLNS"), (0, u "Ljava/lang/String;"), (1, u "(Lcom/example/holdfast/holdfast/dom/CompactDocument;I)V")] 60

def k4c0 : Code := { maxStack := 2, maxLocals := 3, code := prog_135_method_1_code, exceptionTable := #[], attributes := #[] }
def k4m0 : Method := { name := "<init>", desc := "(Lcom/example/holdfast/holdfast/dom/CompactDocument;I)V", sig := { parameters := [(.object "com/example/holdfast/holdfast/dom/CompactDocument"), .int], returnType := none }, accessFlags := 0, code := some k4c0 }
/-- com/example/holdfast/holdfast/dom/CompactNode -/
def k4 : Class := { plain "com/example/holdfast/holdfast/dom/CompactNode" (some 0) with
  accessFlags := 1056
  interfaces := #[3]
  cf := some (fileOf pool4 12 #[.nestMembers #[33]] #[{ accessFlags := 0, nameIndex := 7, descriptorIndex := 367, attributes := #[] }] 1056 4 #[54] #[{ accessFlags := 26, nameIndex := 364, descriptorIndex := 365, attributes := #[] }, { accessFlags := 16, nameIndex := 15, descriptorIndex := 16, attributes := #[] }, { accessFlags := 16, nameIndex := 19, descriptorIndex := 20, attributes := #[] }])
  fields := #[{ name := "XMLNS", type := (.object "java/lang/String"), accessFlags := 26, slot := 0, constantValue := 0 }, { name := "document", type := (.object "com/example/holdfast/holdfast/dom/CompactDocument"), accessFlags := 16, slot := 0, constantValue := 0 }, { name := "index", type := .int, accessFlags := 16, slot := 1, constantValue := 0 }]
  methods := #[k4m0]
  instanceTypes := #[(.object "com/example/holdfast/holdfast/dom/CompactDocument"), .int]
  staticTypes := #[(.object "java/lang/String")]
  resolved := Array.replicate 428 none
  statics := none }

def pool5 : Array CpInfo := pool [(1, u "org/w3c/dom/Document"), (0, .class_ 1), (0, u "java/lang/Object"), (0, .class_ 3)] 0

/-- org/w3c/dom/Document -/
def k5 : Class := { plain "org/w3c/dom/Document" (some 0) with
  accessFlags := 1537
  interfaces := #[]
  cf := some (fileOf pool5 2 #[] #[] 1537 4 #[] #[])
  fields := #[]
  methods := #[]
  instanceTypes := #[]
  staticTypes := #[]
  resolved := Array.replicate 5 none
  statics := none }

def pool6 : Array CpInfo := pool [(1, .class_ 2), (0, u "com/example/holdfast/holdfast/model/ChangeMarks"), (0, .class_ 4), (0, u "java/lang/Object")] 7

/-- com/example/holdfast/holdfast/model/ChangeMarks -/
def k6 : Class := { plain "com/example/holdfast/holdfast/model/ChangeMarks" (some 0) with
  accessFlags := 1537
  interfaces := #[]
  cf := some (fileOf pool6 1 #[] #[] 1537 3 #[] #[])
  fields := #[]
  methods := #[]
  instanceTypes := #[]
  staticTypes := #[]
  resolved := Array.replicate 12 none
  statics := none }

def pool7 : Array CpInfo := pool [(1, .class_ 2), (0, u "com/example/holdfast/holdfast/model/AttributeOrder"), (0, .class_ 4), (0, u "java/lang/Object")] 4

/-- com/example/holdfast/holdfast/model/AttributeOrder -/
def k7 : Class := { plain "com/example/holdfast/holdfast/model/AttributeOrder" (some 0) with
  accessFlags := 1537
  interfaces := #[]
  cf := some (fileOf pool7 1 #[] #[] 1537 3 #[] #[])
  fields := #[]
  methods := #[]
  instanceTypes := #[]
  staticTypes := #[]
  resolved := Array.replicate 9 none
  statics := none }

def pool8 : Array CpInfo := pool [(1, .methodref 2 3), (0, .class_ 4), (0, .nameAndType 5 6), (0, u "com/example/holdfast/holdfast/dom/CompactNode"), (0, u "<init>"), (0, u "(Lcom/example/holdfast/holdfast/dom/CompactDocument;I)V"), (0, .fieldref 8 9), (0, .class_ 10), (0, .nameAndType 11 12), (0, u "com/example/holdfast/holdfast/dom/CompactDocument"), (0, u "types"), (0, u "[B"), (0, .fieldref 8 14), (0, .nameAndType 15 16), (0, u "parents"), (0, u "[I"), (0, .fieldref 8 18), (0, .nameAndType 19 16), (0, u "firsts"), (0, .fieldref 8 21), (0, .nameAndType 22 16), (0, u "lasts"), (0, .fieldref 8 24), (0, .nameAndType 25 16), (0, u "nexts"), (0, .fieldref 8 27), (0, .nameAndType 28 16), (0, u "previouses"), (0, .fieldref 8 30), (0, .nameAndType 31 16), (0, u "names"), (0, .fieldref 8 33), (0, .nameAndType 34 12), (0, u "flags"), (0, .fieldref 8 36), (0, .nameAndType 37 16), (0, u "dataStarts"), (0, .fieldref 8 39), (0, .nameAndType 40 16), (0, u "dataLengths"), (0, .fieldref 8 42), (0, .nameAndType 43 44), (0, u "handles"), (0, u "[Lcom/example/holdfast/holdfast/dom/CompactNode;"), (0, .class_ 46), (0, u "java/lang/Object"), (0, .methodref 45 48), (0, .nameAndType 5 49), (0, u "()V"), (0, .fieldref 8 51), (0, .nameAndType 52 53), (0, u "making"), (0, u "Ljava/lang/Object;"), (0, .fieldref 8 55), (0, .nameAndType 56 57), (0, u "chars"), (0, u "[C"), (0, .fieldref 8 59), (0, .nameAndType 60 16), (0, u "attributeNames"), (0, .fieldref 8 62), (0, .nameAndType 63 16), (0, u "attributeValueStarts"), (0, .fieldref 8 65), (0, .nameAndType 66 16), (0, u "attributeValueLengths"), (0, .class_ 68), (0, u "com/example/holdfast/holdfast/dom/CompactDocument$Name"), (0, .fieldref 8 70), (0, .nameAndType 71 72), (0, u "nameTable"), (0, u "[Lcom/example/holdfast/holdfast/dom/CompactDocument$Name;"), (0, .class_ 74), (0, u "java/util/HashMap"), (0, .methodref 73 48), (0, .fieldref 8 77), (0, .nameAndType 78 79), (0, u "nameIndex"), (0, u "Ljava/util/Map;"), (0, .string 81), (0, u "1.0"), (0, .fieldref 8 83), (0, .nameAndType 84 85), (0, u "xmlVersion"), (0, u "Ljava/lang/String;"), (0, .fieldref 8 87), (0, .nameAndType 88 89), (0, u "strictErrorChecking"), (0, u "Z"), (0, .fieldref 8 91), (0, .nameAndType 92 93), (0, u "count"), (0, u "I"), (5, u "(I)V"), (0, .fieldref 8 101), (0, .nameAndType 102 16), (0, u "sourceStarts"), (15, u "values"), (0, u "[Ljava/lang/String;"), (3, u "attributeLists"), (0, u "[Ljava/lang/Object;"), (2, u "sourceEnds"), (2, u "contexts"), (0, u "[Lcom/example/holdfast/holdfast/dom/CompactDocument$Namespaces;"), (22, u "MADE_LIST"), (0, u "Ljava/lang/invoke/VarHandle;"), (12, u "nameCount"), (2, u "retagged"), (13, u "reader"), (0, u "Lcom/example/holdfast/holdfast/dom/CompactDocument$TextReader;"), (1, .class_ 190), (1, u "com/example/holdfast/holdfast/dom/CompactDocument$TextReader"), (4, u "lastInSource"), (3, u "()I"), (6, u "source"), (9, .methodref 8 217), (0, .nameAndType 218 99), (0, u "changed"), (2, u "lastInterned"), (0, u "Lcom/example/holdfast/holdfast/dom/CompactDocument$Name;"), (18, u "lastInternedAt"), (50, .fieldref 8 293), (0, .nameAndType 294 93), (0, u "modifications"), (0, .fieldref 8 296), (0, .nameAndType 297 93), (0, u "built"), (0, .fieldref 8 299), (0, .nameAndType 300 93), (0, u "readNodeChanges"), (0, .fieldref 8 302), (0, .nameAndType 303 93), (0, u "treeModifications"), (0, .methodref 8 305), (0, .nameAndType 306 307), (0, u "keepMarked"), (0, u "(IIB)V"), (0, .fieldref 8 309), (0, .nameAndType 310 16), (0, u "marked"), (0, .fieldref 8 312), (0, .nameAndType 313 93), (0, u "markedCount"), (0, .methodref 315 316), (0, .class_ 317), (0, .nameAndType 318 319), (0, u "java/lang/Math"), (0, u "max"), (0, u "(II)I"), (0, .fieldref 8 321), (0, .nameAndType 322 12), (0, u "markedFlags"), (23, u "add"), (9, u "ATTRIBUTE_LISTS"), (99, .class_ 457), (0, u "com/example/holdfast/holdfast/dom/CompactDocument$Tag"), (17, .class_ 476), (0, u "com/example/holdfast/holdfast/dom/CompactDocument$Source"), (4, .class_ 483), (1, u "com/example/holdfast/holdfast/dom/CompactDocument$Namespaces"), (8, u "userData"), (18, u "charCount"), (4, .class_ 518), (1, u "com/example/holdfast/holdfast/dom/CompactDocument$Implementation"), (25, u "(SI)I"), (69, u "inputEncoding"), (2, u "xmlEncoding"), (2, u "xmlStandalone"), (8, u "documentUri"), (238, .class_ 869), (0, u "org/w3c/dom/Document"), (0, .class_ 871), (0, u "com/example/holdfast/holdfast/model/ChangeMarks"), (0, .class_ 873), (0, u "com/example/holdfast/holdfast/model/AttributeOrder"), (0, u "CHANGED"), (0, u "B"), (2, u "DECLARED"), (1, u "IN_SOURCE"), (1, u "ENCODED"), (1, u "RETAGGED"), (1, u "COLON_INSIDE"), (1, u "attributeTotal"), (15, u "changeMarks"), (0, u "unmarkSince"), (80, .class_ 987), (0, u "com/example/holdfast/holdfast/dom/CompactDocument$Builder")] 34

def k8c0 : Code := { maxStack := 3, maxLocals := 1, code := prog_121_method_1_code, exceptionTable := #[], attributes := #[] }
def k8m0 : Method := { name := "<init>", desc := "()V", sig := { parameters := [], returnType := none }, accessFlags := 1, code := some k8c0 }
def k8c1 : Code := { maxStack := 4, maxLocals := 4, code := prog_121_method_2_code, exceptionTable := #[], attributes := #[] }
def k8m1 : Method := { name := "add", desc := "(SI)I", sig := { parameters := [.short, .int], returnType := some .int }, accessFlags := 0, code := some k8c1 }
def k8c2 : Code := { maxStack := 4, maxLocals := 5, code := prog_121_method_24_code, exceptionTable := #[], attributes := #[] }
def k8m2 : Method := { name := "changed", desc := "(I)V", sig := { parameters := [.int], returnType := none }, accessFlags := 0, code := some k8c2 }
def k8c3 : Code := { maxStack := 4, maxLocals := 3, code := prog_121_method_25_code, exceptionTable := #[], attributes := #[] }
def k8m3 : Method := { name := "retagged", desc := "(I)V", sig := { parameters := [.int], returnType := none }, accessFlags := 0, code := some k8c3 }
def k8c4 : Code := { maxStack := 4, maxLocals := 6, code := prog_121_method_26_code, exceptionTable := #[], attributes := #[] }
def k8m4 : Method := { name := "keepMarked", desc := "(IIB)V", sig := { parameters := [.int, .int, .byte], returnType := none }, accessFlags := 2, code := some k8c4 }
def k8c5 : Code := { maxStack := 1, maxLocals := 1, code := prog_121_method_27_code, exceptionTable := #[], attributes := #[] }
def k8m5 : Method := { name := "changeMarks", desc := "()I", sig := { parameters := [], returnType := some .int }, accessFlags := 1, code := some k8c5 }
def k8c6 : Code := { maxStack := 5, maxLocals := 2, code := prog_121_method_28_code, exceptionTable := #[], attributes := #[] }
def k8m6 : Method := { name := "unmarkSince", desc := "(I)V", sig := { parameters := [.int], returnType := none }, accessFlags := 1, code := some k8c6 }
/-- com/example/holdfast/holdfast/dom/CompactDocument -/
def k8 : Class := { plain "com/example/holdfast/holdfast/dom/CompactDocument" (some 4) with
  accessFlags := 49
  interfaces := #[5, 6, 7]
  cf := some (fileOf pool8 8 #[.nestMembers #[516, 986, 481, 456, 475, 67, 188]] #[{ accessFlags := 1, nameIndex := 5, descriptorIndex := 49, attributes := #[] }, { accessFlags := 0, nameIndex := 346, descriptorIndex := 544, attributes := #[] }, { accessFlags := 0, nameIndex := 218, descriptorIndex := 99, attributes := #[] }, { accessFlags := 0, nameIndex := 171, descriptorIndex := 99, attributes := #[] }, { accessFlags := 2, nameIndex := 306, descriptorIndex := 307, attributes := #[] }, { accessFlags := 1, nameIndex := 904, descriptorIndex := 199, attributes := #[] }, { accessFlags := 1, nameIndex := 905, descriptorIndex := 99, attributes := #[] }] 49 2 #[868, 870, 872] #[{ accessFlags := 26, nameIndex := 874, descriptorIndex := 875, attributes := #[] }, { accessFlags := 26, nameIndex := 878, descriptorIndex := 875, attributes := #[] }, { accessFlags := 26, nameIndex := 880, descriptorIndex := 875, attributes := #[] }, { accessFlags := 26, nameIndex := 882, descriptorIndex := 875, attributes := #[] }, { accessFlags := 26, nameIndex := 884, descriptorIndex := 875, attributes := #[] }, { accessFlags := 26, nameIndex := 886, descriptorIndex := 875, attributes := #[] }, { accessFlags := 2, nameIndex := 92, descriptorIndex := 93, attributes := #[] }, { accessFlags := 2, nameIndex := 11, descriptorIndex := 12, attributes := #[] }, { accessFlags := 2, nameIndex := 15, descriptorIndex := 16, attributes := #[] }, { accessFlags := 2, nameIndex := 19, descriptorIndex := 16, attributes := #[] }, { accessFlags := 2, nameIndex := 22, descriptorIndex := 16, attributes := #[] }, { accessFlags := 2, nameIndex := 25, descriptorIndex := 16, attributes := #[] }, { accessFlags := 2, nameIndex := 28, descriptorIndex := 16, attributes := #[] }, { accessFlags := 2, nameIndex := 31, descriptorIndex := 16, attributes := #[] }, { accessFlags := 2, nameIndex := 34, descriptorIndex := 12, attributes := #[] }, { accessFlags := 2, nameIndex := 37, descriptorIndex := 16, attributes := #[] }, { accessFlags := 2, nameIndex := 40, descriptorIndex := 16, attributes := #[] }, { accessFlags := 2, nameIndex := 118, descriptorIndex := 119, attributes := #[] }, { accessFlags := 2, nameIndex := 43, descriptorIndex := 44, attributes := #[] }, { accessFlags := 18, nameIndex := 52, descriptorIndex := 53, attributes := #[] }, { accessFlags := 2, nameIndex := 123, descriptorIndex := 124, attributes := #[] }, { accessFlags := 26, nameIndex := 154, descriptorIndex := 155, attributes := #[] }, { accessFlags := 26, nameIndex := 356, descriptorIndex := 155, attributes := #[] }, { accessFlags := 2, nameIndex := 56, descriptorIndex := 57, attributes := #[] }, { accessFlags := 2, nameIndex := 511, descriptorIndex := 93, attributes := #[] }, { accessFlags := 2, nameIndex := 297, descriptorIndex := 93, attributes := #[] }, { accessFlags := 2, nameIndex := 888, descriptorIndex := 93, attributes := #[] }, { accessFlags := 2, nameIndex := 60, descriptorIndex := 16, attributes := #[] }, { accessFlags := 2, nameIndex := 63, descriptorIndex := 16, attributes := #[] }, { accessFlags := 2, nameIndex := 66, descriptorIndex := 16, attributes := #[] }, { accessFlags := 2, nameIndex := 71, descriptorIndex := 72, attributes := #[] }, { accessFlags := 2, nameIndex := 168, descriptorIndex := 93, attributes := #[] }, { accessFlags := 18, nameIndex := 78, descriptorIndex := 79, attributes := #[] }, { accessFlags := 2, nameIndex := 221, descriptorIndex := 222, attributes := #[] }, { accessFlags := 2, nameIndex := 241, descriptorIndex := 93, attributes := #[] }, { accessFlags := 2, nameIndex := 195, descriptorIndex := 85, attributes := #[] }, { accessFlags := 2, nameIndex := 206, descriptorIndex := 12, attributes := #[] }, { accessFlags := 2, nameIndex := 185, descriptorIndex := 186, attributes := #[] }, { accessFlags := 2, nameIndex := 102, descriptorIndex := 16, attributes := #[] }, { accessFlags := 2, nameIndex := 127, descriptorIndex := 16, attributes := #[] }, { accessFlags := 2, nameIndex := 310, descriptorIndex := 16, attributes := #[] }, { accessFlags := 2, nameIndex := 322, descriptorIndex := 12, attributes := #[] }, { accessFlags := 2, nameIndex := 313, descriptorIndex := 93, attributes := #[] }, { accessFlags := 2, nameIndex := 300, descriptorIndex := 93, attributes := #[] }, { accessFlags := 2, nameIndex := 130, descriptorIndex := 131, attributes := #[] }, { accessFlags := 2, nameIndex := 629, descriptorIndex := 85, attributes := #[] }, { accessFlags := 2, nameIndex := 614, descriptorIndex := 85, attributes := #[] }, { accessFlags := 2, nameIndex := 617, descriptorIndex := 85, attributes := #[] }, { accessFlags := 2, nameIndex := 84, descriptorIndex := 85, attributes := #[] }, { accessFlags := 2, nameIndex := 620, descriptorIndex := 89, attributes := #[] }, { accessFlags := 2, nameIndex := 88, descriptorIndex := 89, attributes := #[] }, { accessFlags := 2, nameIndex := 294, descriptorIndex := 93, attributes := #[] }, { accessFlags := 2, nameIndex := 303, descriptorIndex := 93, attributes := #[] }, { accessFlags := 2, nameIndex := 492, descriptorIndex := 79, attributes := #[] }])
  fields := #[{ name := "CHANGED", type := .byte, accessFlags := 26, slot := 0, constantValue := 0 }, { name := "DECLARED", type := .byte, accessFlags := 26, slot := 1, constantValue := 0 }, { name := "IN_SOURCE", type := .byte, accessFlags := 26, slot := 2, constantValue := 0 }, { name := "ENCODED", type := .byte, accessFlags := 26, slot := 3, constantValue := 0 }, { name := "RETAGGED", type := .byte, accessFlags := 26, slot := 4, constantValue := 0 }, { name := "COLON_INSIDE", type := .byte, accessFlags := 26, slot := 5, constantValue := 0 }, { name := "count", type := .int, accessFlags := 2, slot := 2, constantValue := 0 }, { name := "types", type := (.array .byte), accessFlags := 2, slot := 3, constantValue := 0 }, { name := "parents", type := (.array .int), accessFlags := 2, slot := 4, constantValue := 0 }, { name := "firsts", type := (.array .int), accessFlags := 2, slot := 5, constantValue := 0 }, { name := "lasts", type := (.array .int), accessFlags := 2, slot := 6, constantValue := 0 }, { name := "nexts", type := (.array .int), accessFlags := 2, slot := 7, constantValue := 0 }, { name := "previouses", type := (.array .int), accessFlags := 2, slot := 8, constantValue := 0 }, { name := "names", type := (.array .int), accessFlags := 2, slot := 9, constantValue := 0 }, { name := "flags", type := (.array .byte), accessFlags := 2, slot := 10, constantValue := 0 }, { name := "dataStarts", type := (.array .int), accessFlags := 2, slot := 11, constantValue := 0 }, { name := "dataLengths", type := (.array .int), accessFlags := 2, slot := 12, constantValue := 0 }, { name := "values", type := (.array (.object "java/lang/String")), accessFlags := 2, slot := 13, constantValue := 0 }, { name := "handles", type := (.array (.object "com/example/holdfast/holdfast/dom/CompactNode")), accessFlags := 2, slot := 14, constantValue := 0 }, { name := "making", type := (.object "java/lang/Object"), accessFlags := 18, slot := 15, constantValue := 0 }, { name := "attributeLists", type := (.array (.object "java/lang/Object")), accessFlags := 2, slot := 16, constantValue := 0 }, { name := "MADE_LIST", type := (.object "java/lang/invoke/VarHandle"), accessFlags := 26, slot := 6, constantValue := 0 }, { name := "ATTRIBUTE_LISTS", type := (.object "java/lang/invoke/VarHandle"), accessFlags := 26, slot := 7, constantValue := 0 }, { name := "chars", type := (.array .char), accessFlags := 2, slot := 17, constantValue := 0 }, { name := "charCount", type := .int, accessFlags := 2, slot := 18, constantValue := 0 }, { name := "built", type := .int, accessFlags := 2, slot := 19, constantValue := 0 }, { name := "attributeTotal", type := .int, accessFlags := 2, slot := 20, constantValue := 0 }, { name := "attributeNames", type := (.array .int), accessFlags := 2, slot := 21, constantValue := 0 }, { name := "attributeValueStarts", type := (.array .int), accessFlags := 2, slot := 22, constantValue := 0 }, { name := "attributeValueLengths", type := (.array .int), accessFlags := 2, slot := 23, constantValue := 0 }, { name := "nameTable", type := (.array (.object "com/example/holdfast/holdfast/dom/CompactDocument$Name")), accessFlags := 2, slot := 24, constantValue := 0 }, { name := "nameCount", type := .int, accessFlags := 2, slot := 25, constantValue := 0 }, { name := "nameIndex", type := (.object "java/util/Map"), accessFlags := 18, slot := 26, constantValue := 0 }, { name := "lastInterned", type := (.object "com/example/holdfast/holdfast/dom/CompactDocument$Name"), accessFlags := 2, slot := 27, constantValue := 0 }, { name := "lastInternedAt", type := .int, accessFlags := 2, slot := 28, constantValue := 0 }, { name := "lastInSource", type := (.object "java/lang/String"), accessFlags := 2, slot := 29, constantValue := 0 }, { name := "source", type := (.array .byte), accessFlags := 2, slot := 30, constantValue := 0 }, { name := "reader", type := (.object "com/example/holdfast/holdfast/dom/CompactDocument$TextReader"), accessFlags := 2, slot := 31, constantValue := 0 }, { name := "sourceStarts", type := (.array .int), accessFlags := 2, slot := 32, constantValue := 0 }, { name := "sourceEnds", type := (.array .int), accessFlags := 2, slot := 33, constantValue := 0 }, { name := "marked", type := (.array .int), accessFlags := 2, slot := 34, constantValue := 0 }, { name := "markedFlags", type := (.array .byte), accessFlags := 2, slot := 35, constantValue := 0 }, { name := "markedCount", type := .int, accessFlags := 2, slot := 36, constantValue := 0 }, { name := "readNodeChanges", type := .int, accessFlags := 2, slot := 37, constantValue := 0 }, { name := "contexts", type := (.array (.object "com/example/holdfast/holdfast/dom/CompactDocument$Namespaces")), accessFlags := 2, slot := 38, constantValue := 0 }, { name := "documentUri", type := (.object "java/lang/String"), accessFlags := 2, slot := 39, constantValue := 0 }, { name := "inputEncoding", type := (.object "java/lang/String"), accessFlags := 2, slot := 40, constantValue := 0 }, { name := "xmlEncoding", type := (.object "java/lang/String"), accessFlags := 2, slot := 41, constantValue := 0 }, { name := "xmlVersion", type := (.object "java/lang/String"), accessFlags := 2, slot := 42, constantValue := 0 }, { name := "xmlStandalone", type := .boolean, accessFlags := 2, slot := 43, constantValue := 0 }, { name := "strictErrorChecking", type := .boolean, accessFlags := 2, slot := 44, constantValue := 0 }, { name := "modifications", type := .int, accessFlags := 2, slot := 45, constantValue := 0 }, { name := "treeModifications", type := .int, accessFlags := 2, slot := 46, constantValue := 0 }, { name := "userData", type := (.object "java/util/Map"), accessFlags := 2, slot := 47, constantValue := 0 }]
  methods := #[k8m0, k8m1, k8m2, k8m3, k8m4, k8m5, k8m6]
  instanceTypes := #[(.object "com/example/holdfast/holdfast/dom/CompactDocument"), .int, .int, (.array .byte), (.array .int), (.array .int), (.array .int), (.array .int), (.array .int), (.array .int), (.array .byte), (.array .int), (.array .int), (.array (.object "java/lang/String")), (.array (.object "com/example/holdfast/holdfast/dom/CompactNode")), (.object "java/lang/Object"), (.array (.object "java/lang/Object")), (.array .char), .int, .int, .int, (.array .int), (.array .int), (.array .int), (.array (.object "com/example/holdfast/holdfast/dom/CompactDocument$Name")), .int, (.object "java/util/Map"), (.object "com/example/holdfast/holdfast/dom/CompactDocument$Name"), .int, (.object "java/lang/String"), (.array .byte), (.object "com/example/holdfast/holdfast/dom/CompactDocument$TextReader"), (.array .int), (.array .int), (.array .int), (.array .byte), .int, .int, (.array (.object "com/example/holdfast/holdfast/dom/CompactDocument$Namespaces")), (.object "java/lang/String"), (.object "java/lang/String"), (.object "java/lang/String"), (.object "java/lang/String"), .boolean, .boolean, .int, .int, (.object "java/util/Map")]
  staticTypes := #[.byte, .byte, .byte, .byte, .byte, .byte, (.object "java/lang/invoke/VarHandle"), (.object "java/lang/invoke/VarHandle")]
  resolved := Array.replicate 1022 none
  statics := none }

def pool9 : Array CpInfo := pool [(2, .class_ 4), (1, u "java/lang/Object"), (0, u "<init>"), (0, u "()V"), (0, .class_ 8), (0, u "java/lang/Record")] 13

def k9m0 : Method := { name := "<init>", desc := "()V", sig := { parameters := [], returnType := none }, accessFlags := 4, code := none }
/-- java/lang/Record -/
def k9 : Class := { plain "java/lang/Record" (some 0) with
  accessFlags := 1057
  interfaces := #[]
  cf := some (fileOf pool9 7 #[] #[{ accessFlags := 4, nameIndex := 5, descriptorIndex := 6, attributes := #[] }] 1057 2 #[] #[])
  fields := #[]
  methods := #[k9m0]
  instanceTypes := #[]
  staticTypes := #[]
  resolved := Array.replicate 22 none
  statics := none }

def pool10 : Array CpInfo := pool [(2, .class_ 4), (1, u "java/lang/Record"), (3, .class_ 10), (1, u "com/example/holdfast/holdfast/dom/CompactDocument$Name"), (0, u "namespace"), (0, u "Ljava/lang/String;"), (2, u "qualified"), (2, u "prefix"), (2, u "local"), (2, u "expanded"), (22, .class_ 48), (0, u "com/example/holdfast/holdfast/dom/CompactDocument")] 23

/-- com/example/holdfast/holdfast/dom/CompactDocument$Name -/
def k10 : Class := { plain "com/example/holdfast/holdfast/dom/CompactDocument$Name" (some 9) with
  accessFlags := 48
  interfaces := #[]
  cf := some (fileOf pool10 8 #[.nestHost 47] #[] 48 2 #[] #[{ accessFlags := 18, nameIndex := 11, descriptorIndex := 12, attributes := #[] }, { accessFlags := 18, nameIndex := 15, descriptorIndex := 12, attributes := #[] }, { accessFlags := 18, nameIndex := 18, descriptorIndex := 12, attributes := #[] }, { accessFlags := 18, nameIndex := 21, descriptorIndex := 12, attributes := #[] }, { accessFlags := 18, nameIndex := 24, descriptorIndex := 12, attributes := #[] }])
  fields := #[{ name := "namespace", type := (.object "java/lang/String"), accessFlags := 18, slot := 0, constantValue := 0 }, { name := "qualified", type := (.object "java/lang/String"), accessFlags := 18, slot := 1, constantValue := 0 }, { name := "prefix", type := (.object "java/lang/String"), accessFlags := 18, slot := 2, constantValue := 0 }, { name := "local", type := (.object "java/lang/String"), accessFlags := 18, slot := 3, constantValue := 0 }, { name := "expanded", type := (.object "java/lang/String"), accessFlags := 18, slot := 4, constantValue := 0 }]
  methods := #[]
  instanceTypes := #[(.object "java/lang/String"), (.object "java/lang/String"), (.object "java/lang/String"), (.object "java/lang/String"), (.object "java/lang/String")]
  staticTypes := #[]
  resolved := Array.replicate 72 none
  statics := none }

def pool11 : Array CpInfo := pool [(2, .class_ 4), (1, u "java/util/Map"), (31, .class_ 37), (0, u "java/util/Map$Entry"), (55, .class_ 94), (0, u "java/lang/Object")] 168

/-- java/util/Map -/
def k11 : Class := { plain "java/util/Map" (some 0) with
  accessFlags := 1537
  interfaces := #[]
  cf := some (fileOf pool11 2 #[.nestMembers #[36]] #[] 1537 93 #[] #[])
  fields := #[]
  methods := #[]
  instanceTypes := #[]
  staticTypes := #[]
  resolved := Array.replicate 263 none
  statics := none }

def pool12 : Array CpInfo := pool [(1, .methodref 2 3), (0, .class_ 4), (0, .nameAndType 5 6), (0, u "java/lang/Object"), (0, u "<init>"), (0, u "()V"), (1, .class_ 10), (1, u "java/util/AbstractMap"), (42, .class_ 54), (0, u "java/util/Map"), (9, u "keySet"), (0, u "Ljava/util/Set;"), (0, .class_ 67), (0, u "java/util/AbstractMap$1"), (5, u "values"), (0, u "Ljava/util/Collection;"), (0, .class_ 76), (0, u "java/util/AbstractMap$2"), (104, .class_ 182), (0, u "java/util/AbstractMap$ViewCollection"), (0, .class_ 184), (0, u "java/util/AbstractMap$SimpleImmutableEntry"), (0, .class_ 186), (0, u "java/util/AbstractMap$SimpleEntry"), (0, .class_ 188), (0, u "java/util/AbstractMap$2$1"), (0, .class_ 190), (0, u "java/util/AbstractMap$1$1")] 5

def k12c0 : Code := { maxStack := 1, maxLocals := 1, code := jdk_71_method_1_code, exceptionTable := #[], attributes := #[] }
def k12m0 : Method := { name := "<init>", desc := "()V", sig := { parameters := [], returnType := none }, accessFlags := 4, code := some k12c0 }
/-- java/util/AbstractMap -/
def k12 : Class := { plain "java/util/AbstractMap" (some 0) with
  accessFlags := 1057
  interfaces := #[11]
  cf := some (fileOf pool12 8 #[.nestMembers #[181, 183, 185, 75, 187, 66, 189]] #[{ accessFlags := 4, nameIndex := 5, descriptorIndex := 6, attributes := #[] }] 1057 2 #[53] #[{ accessFlags := 128, nameIndex := 64, descriptorIndex := 65, attributes := #[] }, { accessFlags := 128, nameIndex := 73, descriptorIndex := 74, attributes := #[] }])
  fields := #[{ name := "keySet", type := (.object "java/util/Set"), accessFlags := 128, slot := 0, constantValue := 0 }, { name := "values", type := (.object "java/util/Collection"), accessFlags := 128, slot := 1, constantValue := 0 }]
  methods := #[k12m0]
  instanceTypes := #[(.object "java/util/Set"), (.object "java/util/Collection")]
  staticTypes := #[]
  resolved := Array.replicate 196 none
  statics := none }

def pool13 : Array CpInfo := pool [(1, .class_ 2), (0, u "java/lang/Cloneable"), (0, .class_ 4), (0, u "java/lang/Object")] 2

/-- java/lang/Cloneable -/
def k13 : Class := { plain "java/lang/Cloneable" (some 0) with
  accessFlags := 1537
  interfaces := #[]
  cf := some (fileOf pool13 1 #[] #[] 1537 3 #[] #[])
  fields := #[]
  methods := #[]
  instanceTypes := #[]
  staticTypes := #[]
  resolved := Array.replicate 7 none
  statics := none }

def pool14 : Array CpInfo := pool [(1, .class_ 2), (0, u "java/io/Serializable"), (0, .class_ 4), (0, u "java/lang/Object")] 2

/-- java/io/Serializable -/
def k14 : Class := { plain "java/io/Serializable" (some 0) with
  accessFlags := 1537
  interfaces := #[]
  cf := some (fileOf pool14 1 #[] #[] 1537 3 #[] #[])
  fields := #[]
  methods := #[]
  instanceTypes := #[]
  staticTypes := #[]
  resolved := Array.replicate 7 none
  statics := none }

def pool15 : Array CpInfo := pool [(40, .class_ 41), (0, u "java/util/HashMap"), (1, .methodref 44 45), (0, .class_ 46), (0, .nameAndType 47 48), (0, u "java/util/AbstractMap"), (0, u "<init>"), (0, u "()V"), (32, .fieldref 40 82), (0, .nameAndType 83 84), (0, u "loadFactor"), (0, u "F"), (5, u "threshold"), (0, u "I"), (0, .float 1061158912), (8, .class_ 103), (1, u "java/util/Map"), (0, u "size"), (2, u "table"), (0, u "[Ljava/util/HashMap$Node;"), (14, u "entrySet"), (39, .class_ 165), (1, u "java/util/HashMap$Node"), (14, .class_ 181), (0, u "java/util/HashMap$TreeNode"), (22, u "modCount"), (37, u "Ljava/util/Set;"), (0, .class_ 244), (0, u "java/util/HashMap$KeySet"), (18, .class_ 264), (0, u "java/util/HashMap$Values"), (3, .class_ 269), (0, u "java/util/HashMap$EntrySet"), (76, .class_ 348), (1, u "java/util/HashMap$UnsafeHolder"), (43, .class_ 393), (0, u "java/lang/Cloneable"), (0, .class_ 395), (0, u "java/io/Serializable"), (0, u "serialVersionUID"), (0, u "J"), (3, u "DEFAULT_INITIAL_CAPACITY"), (1, u "MAXIMUM_CAPACITY"), (0, u "DEFAULT_LOAD_FACTOR"), (0, u "TREEIFY_THRESHOLD"), (1, u "UNTREEIFY_THRESHOLD"), (1, u "MIN_TREEIFY_CAPACITY"), (186, .class_ 597), (0, u "java/util/HashMap$EntrySpliterator"), (0, .class_ 599), (0, u "java/util/HashMap$ValueSpliterator"), (0, .class_ 601), (0, u "java/util/HashMap$KeySpliterator"), (0, .class_ 603), (0, u "java/util/HashMap$HashMapSpliterator"), (0, .class_ 605), (0, u "java/util/HashMap$EntryIterator"), (0, .class_ 607), (0, u "java/util/HashMap$ValueIterator"), (0, .class_ 609), (0, u "java/util/HashMap$KeyIterator"), (0, .class_ 611), (0, u "java/util/HashMap$HashIterator")] 17

def k15c0 : Code := { maxStack := 2, maxLocals := 1, code := jdk_69_method_7_code, exceptionTable := #[], attributes := #[] }
def k15m0 : Method := { name := "<init>", desc := "()V", sig := { parameters := [], returnType := none }, accessFlags := 1, code := some k15c0 }
/-- java/util/HashMap -/
def k15 : Class := { plain "java/util/HashMap" (some 12) with
  accessFlags := 33
  interfaces := #[11, 13, 14]
  cf := some (fileOf pool15 40 #[.nestMembers #[180, 596, 598, 600, 602, 604, 606, 608, 610, 346, 268, 263, 243, 163]] #[{ accessFlags := 1, nameIndex := 47, descriptorIndex := 48, attributes := #[] }] 33 44 #[101, 392, 394] #[{ accessFlags := 26, nameIndex := 396, descriptorIndex := 397, attributes := #[] }, { accessFlags := 24, nameIndex := 401, descriptorIndex := 91, attributes := #[] }, { accessFlags := 24, nameIndex := 403, descriptorIndex := 91, attributes := #[] }, { accessFlags := 24, nameIndex := 404, descriptorIndex := 84, attributes := #[] }, { accessFlags := 24, nameIndex := 405, descriptorIndex := 91, attributes := #[] }, { accessFlags := 24, nameIndex := 407, descriptorIndex := 91, attributes := #[] }, { accessFlags := 24, nameIndex := 409, descriptorIndex := 91, attributes := #[] }, { accessFlags := 128, nameIndex := 107, descriptorIndex := 108, attributes := #[] }, { accessFlags := 128, nameIndex := 123, descriptorIndex := 242, attributes := #[] }, { accessFlags := 128, nameIndex := 104, descriptorIndex := 91, attributes := #[] }, { accessFlags := 128, nameIndex := 204, descriptorIndex := 91, attributes := #[] }, { accessFlags := 0, nameIndex := 90, descriptorIndex := 91, attributes := #[] }, { accessFlags := 16, nameIndex := 83, descriptorIndex := 84, attributes := #[] }])
  fields := #[{ name := "serialVersionUID", type := .long, accessFlags := 26, slot := 0, constantValue := 0 }, { name := "DEFAULT_INITIAL_CAPACITY", type := .int, accessFlags := 24, slot := 1, constantValue := 0 }, { name := "MAXIMUM_CAPACITY", type := .int, accessFlags := 24, slot := 2, constantValue := 0 }, { name := "DEFAULT_LOAD_FACTOR", type := .float, accessFlags := 24, slot := 3, constantValue := 0 }, { name := "TREEIFY_THRESHOLD", type := .int, accessFlags := 24, slot := 4, constantValue := 0 }, { name := "UNTREEIFY_THRESHOLD", type := .int, accessFlags := 24, slot := 5, constantValue := 0 }, { name := "MIN_TREEIFY_CAPACITY", type := .int, accessFlags := 24, slot := 6, constantValue := 0 }, { name := "table", type := (.array (.object "java/util/HashMap$Node")), accessFlags := 128, slot := 2, constantValue := 0 }, { name := "entrySet", type := (.object "java/util/Set"), accessFlags := 128, slot := 3, constantValue := 0 }, { name := "size", type := .int, accessFlags := 128, slot := 4, constantValue := 0 }, { name := "modCount", type := .int, accessFlags := 128, slot := 5, constantValue := 0 }, { name := "threshold", type := .int, accessFlags := 0, slot := 6, constantValue := 0 }, { name := "loadFactor", type := .float, accessFlags := 16, slot := 7, constantValue := 0 }]
  methods := #[k15m0]
  instanceTypes := #[(.object "java/util/Set"), (.object "java/util/Collection"), (.array (.object "java/util/HashMap$Node")), (.object "java/util/Set"), .int, .int, .int, .float]
  staticTypes := #[.long, .int, .int, .float, .int, .int, .int]
  resolved := Array.replicate 629 none
  statics := none }

def pool16 : Array CpInfo := pool [(1, .class_ 2), (0, u "java/lang/Comparable"), (0, .class_ 4), (0, u "java/lang/Object")] 7

/-- java/lang/Comparable -/
def k16 : Class := { plain "java/lang/Comparable" (some 0) with
  accessFlags := 1537
  interfaces := #[]
  cf := some (fileOf pool16 1 #[] #[] 1537 3 #[] #[])
  fields := #[]
  methods := #[]
  instanceTypes := #[]
  staticTypes := #[]
  resolved := Array.replicate 12 none
  statics := none }

def pool17 : Array CpInfo := pool [(2, .class_ 4), (1, u "java/lang/CharSequence"), (42, .class_ 48), (0, u "java/lang/CharSequence$1CodePointIterator"), (10, .class_ 60), (0, u "java/lang/CharSequence$1CharIterator"), (5, .class_ 67), (0, u "java/lang/Object")] 63

/-- java/lang/CharSequence -/
def k17 : Class := { plain "java/lang/CharSequence" (some 0) with
  accessFlags := 1537
  interfaces := #[]
  cf := some (fileOf pool17 2 #[.nestMembers #[47, 59]] #[] 1537 66 #[] #[])
  fields := #[]
  methods := #[]
  instanceTypes := #[]
  staticTypes := #[]
  resolved := Array.replicate 131 none
  statics := none }

def pool18 : Array CpInfo := pool [(1, .class_ 2), (0, u "java/lang/constant/Constable"), (0, .class_ 4), (0, u "java/lang/Object")] 6

/-- java/lang/constant/Constable -/
def k18 : Class := { plain "java/lang/constant/Constable" (some 0) with
  accessFlags := 1537
  interfaces := #[]
  cf := some (fileOf pool18 1 #[] #[] 1537 3 #[] #[])
  fields := #[]
  methods := #[]
  instanceTypes := #[]
  staticTypes := #[]
  resolved := Array.replicate 11 none
  statics := none }

def pool19 : Array CpInfo := pool [(1, .class_ 2), (0, u "java/lang/constant/ConstantDesc"), (0, .class_ 4), (0, u "java/lang/Object")] 32

/-- java/lang/constant/ConstantDesc -/
def k19 : Class := { plain "java/lang/constant/ConstantDesc" (some 0) with
  accessFlags := 1537
  interfaces := #[]
  cf := some (fileOf pool19 1 #[] #[] 1537 3 #[] #[])
  fields := #[]
  methods := #[]
  instanceTypes := #[]
  staticTypes := #[]
  resolved := Array.replicate 37 none
  statics := none }

def pool20 : Array CpInfo := pool [(2, .class_ 4), (1, u "java/lang/Object"), (0, u "<init>"), (0, u "()V"), (3, .class_ 12), (1, u "java/lang/String"), (0, u "value"), (0, u "[B"), (2, u "coder"), (0, u "B"), (2, u "hash"), (0, u "I"), (2, u "hashIsZero"), (0, u "Z"), (13, u "COMPACT_STRINGS"), (534, .class_ 576), (0, u "java/lang/CharSequence"), (22, u "CASE_INSENSITIVE_ORDER"), (0, u "Ljava/util/Comparator;"), (500, u "serialPersistentFields"), (0, u "[Ljava/io/ObjectStreamField;"), (0, .class_ 1104), (0, u "java/lang/String$CaseInsensitiveComparator"), (1, .class_ 1107), (0, u "java/io/Serializable"), (0, .class_ 1109), (0, u "java/lang/Comparable"), (0, .class_ 1111), (0, u "java/lang/constant/Constable"), (0, .class_ 1113), (0, u "java/lang/constant/ConstantDesc"), (2, u "serialVersionUID"), (0, u "J"), (3, u "REPL"), (0, u "C"), (2, u "LATIN1"), (1, u "UTF16")] 323

def k20m0 : Method := { name := "<init>", desc := "()V", sig := { parameters := [], returnType := none }, accessFlags := 1, code := none }
/-- java/lang/String -/
def k20 : Class := { plain "java/lang/String" (some 0) with
  accessFlags := 49
  interfaces := #[14, 16, 17, 18, 19]
  cf := some (fileOf pool20 10 #[.nestMembers #[1103]] #[{ accessFlags := 1, nameIndex := 5, descriptorIndex := 6, attributes := #[] }] 49 2 #[1106, 1108, 575, 1110, 1112] #[{ accessFlags := 18, nameIndex := 13, descriptorIndex := 14, attributes := #[] }, { accessFlags := 18, nameIndex := 17, descriptorIndex := 18, attributes := #[] }, { accessFlags := 2, nameIndex := 21, descriptorIndex := 22, attributes := #[] }, { accessFlags := 2, nameIndex := 25, descriptorIndex := 26, attributes := #[] }, { accessFlags := 26, nameIndex := 1116, descriptorIndex := 1117, attributes := #[] }, { accessFlags := 24, nameIndex := 40, descriptorIndex := 26, attributes := #[] }, { accessFlags := 26, nameIndex := 1101, descriptorIndex := 1102, attributes := #[] }, { accessFlags := 26, nameIndex := 1121, descriptorIndex := 1122, attributes := #[] }, { accessFlags := 25, nameIndex := 599, descriptorIndex := 600, attributes := #[] }, { accessFlags := 24, nameIndex := 1125, descriptorIndex := 18, attributes := #[] }, { accessFlags := 24, nameIndex := 1127, descriptorIndex := 18, attributes := #[] }])
  fields := #[{ name := "value", type := (.array .byte), accessFlags := 18, slot := 0, constantValue := 0 }, { name := "coder", type := .byte, accessFlags := 18, slot := 1, constantValue := 0 }, { name := "hash", type := .int, accessFlags := 2, slot := 2, constantValue := 0 }, { name := "hashIsZero", type := .boolean, accessFlags := 2, slot := 3, constantValue := 0 }, { name := "serialVersionUID", type := .long, accessFlags := 26, slot := 0, constantValue := 0 }, { name := "COMPACT_STRINGS", type := .boolean, accessFlags := 24, slot := 1, constantValue := 0 }, { name := "serialPersistentFields", type := (.array (.object "java/io/ObjectStreamField")), accessFlags := 26, slot := 2, constantValue := 0 }, { name := "REPL", type := .char, accessFlags := 26, slot := 3, constantValue := 0 }, { name := "CASE_INSENSITIVE_ORDER", type := (.object "java/util/Comparator"), accessFlags := 25, slot := 4, constantValue := 0 }, { name := "LATIN1", type := .byte, accessFlags := 24, slot := 5, constantValue := 0 }, { name := "UTF16", type := .byte, accessFlags := 24, slot := 6, constantValue := 0 }]
  methods := #[k20m0]
  instanceTypes := #[(.array .byte), .byte, .int, .boolean]
  staticTypes := #[.long, .boolean, (.array (.object "java/io/ObjectStreamField")), .char, (.object "java/util/Comparator"), .byte, .byte]
  resolved := Array.replicate 1451 none
  statics := none }

def pool21 : Array CpInfo := pool [(8, .class_ 10), (1, u "java/lang/Iterable"), (24, .class_ 36), (0, u "java/lang/Object")] 25

/-- java/lang/Iterable -/
def k21 : Class := { plain "java/lang/Iterable" (some 0) with
  accessFlags := 1537
  interfaces := #[]
  cf := some (fileOf pool21 8 #[] #[] 1537 35 #[] #[])
  fields := #[]
  methods := #[]
  instanceTypes := #[]
  staticTypes := #[]
  resolved := Array.replicate 62 none
  statics := none }

def pool22 : Array CpInfo := pool [(10, .class_ 12), (1, u "java/util/Collection"), (47, .class_ 61), (0, u "java/lang/Object"), (0, .class_ 63), (0, u "java/lang/Iterable")] 51

/-- java/util/Collection -/
def k22 : Class := { plain "java/util/Collection" (some 0) with
  accessFlags := 1537
  interfaces := #[21]
  cf := some (fileOf pool22 10 #[] #[] 1537 60 #[62] #[])
  fields := #[]
  methods := #[]
  instanceTypes := #[]
  staticTypes := #[]
  resolved := Array.replicate 115 none
  statics := none }

def pool23 : Array CpInfo := pool [(1, .methodref 2 3), (0, .class_ 4), (0, .nameAndType 5 6), (0, u "java/lang/Object"), (0, u "<init>"), (0, u "()V"), (1, .class_ 10), (1, u "java/util/AbstractCollection"), (66, .class_ 78), (0, u "java/util/Collection")] 81

def k23c0 : Code := { maxStack := 1, maxLocals := 1, code := jdk_22_method_1_code, exceptionTable := #[], attributes := #[] }
def k23m0 : Method := { name := "<init>", desc := "()V", sig := { parameters := [], returnType := none }, accessFlags := 4, code := some k23c0 }
/-- java/util/AbstractCollection -/
def k23 : Class := { plain "java/util/AbstractCollection" (some 0) with
  accessFlags := 1057
  interfaces := #[22]
  cf := some (fileOf pool23 8 #[] #[{ accessFlags := 4, nameIndex := 5, descriptorIndex := 6, attributes := #[] }] 1057 2 #[77] #[])
  fields := #[]
  methods := #[k23m0]
  instanceTypes := #[]
  staticTypes := #[]
  resolved := Array.replicate 160 none
  statics := none }

def pool24 : Array CpInfo := pool [(8, .class_ 10), (1, u "java/util/SequencedCollection"), (15, .class_ 27), (0, u "java/lang/Object"), (0, .class_ 29), (0, u "java/util/Collection")] 27

/-- java/util/SequencedCollection -/
def k24 : Class := { plain "java/util/SequencedCollection" (some 0) with
  accessFlags := 1537
  interfaces := #[22]
  cf := some (fileOf pool24 8 #[] #[] 1537 26 #[28] #[])
  fields := #[]
  methods := #[]
  instanceTypes := #[]
  staticTypes := #[]
  resolved := Array.replicate 57 none
  statics := none }

def pool25 : Array CpInfo := pool [(8, .class_ 10), (1, u "java/util/List"), (92, .class_ 104), (0, u "java/lang/Object"), (15, .class_ 121), (0, u "java/util/SequencedCollection")] 129

/-- java/util/List -/
def k25 : Class := { plain "java/util/List" (some 0) with
  accessFlags := 1537
  interfaces := #[24]
  cf := some (fileOf pool25 8 #[] #[] 1537 103 #[120] #[])
  fields := #[]
  methods := #[]
  instanceTypes := #[]
  staticTypes := #[]
  resolved := Array.replicate 251 none
  statics := none }

def pool26 : Array CpInfo := pool [(1, .methodref 2 3), (0, .class_ 4), (0, .nameAndType 5 6), (0, u "java/util/AbstractCollection"), (0, u "<init>"), (0, u "()V"), (0, .fieldref 8 9), (0, .class_ 10), (0, .nameAndType 11 12), (0, u "java/util/AbstractList"), (0, u "modCount"), (0, u "I"), (64, .class_ 78), (0, u "java/util/AbstractList$Itr"), (3, .class_ 83), (0, u "java/util/AbstractList$ListItr"), (9, .class_ 94), (0, u "java/util/AbstractList$RandomAccessSubList"), (3, .class_ 99), (0, u "java/util/AbstractList$SubList"), (33, .class_ 134), (0, u "java/util/List"), (73, .class_ 209), (0, u "java/util/AbstractList$SubList$1"), (0, .class_ 211), (0, u "java/util/AbstractList$RandomAccessSpliterator")] 6

def k26c0 : Code := { maxStack := 2, maxLocals := 1, code := jdk_39_method_1_code, exceptionTable := #[], attributes := #[] }
def k26m0 : Method := { name := "<init>", desc := "()V", sig := { parameters := [], returnType := none }, accessFlags := 4, code := some k26c0 }
/-- java/util/AbstractList -/
def k26 : Class := { plain "java/util/AbstractList" (some 23) with
  accessFlags := 1057
  interfaces := #[25]
  cf := some (fileOf pool26 8 #[.nestMembers #[93, 98, 208, 210, 82, 77]] #[{ accessFlags := 4, nameIndex := 5, descriptorIndex := 6, attributes := #[] }] 1057 2 #[133] #[{ accessFlags := 132, nameIndex := 11, descriptorIndex := 12, attributes := #[] }])
  fields := #[{ name := "modCount", type := .int, accessFlags := 132, slot := 0, constantValue := 0 }]
  methods := #[k26m0]
  instanceTypes := #[.int]
  staticTypes := #[]
  resolved := Array.replicate 218 none
  statics := none }

def pool27 : Array CpInfo := pool [(1, .class_ 2), (0, u "java/util/RandomAccess"), (0, .class_ 4), (0, u "java/lang/Object")] 2

/-- java/util/RandomAccess -/
def k27 : Class := { plain "java/util/RandomAccess" (some 0) with
  accessFlags := 1537
  interfaces := #[]
  cf := some (fileOf pool27 1 #[] #[] 1537 3 #[] #[])
  fields := #[]
  methods := #[]
  instanceTypes := #[]
  staticTypes := #[]
  resolved := Array.replicate 7 none
  statics := none }

def pool28 : Array CpInfo := pool [(1, .methodref 2 3), (0, .class_ 4), (0, .nameAndType 5 6), (0, u "java/util/AbstractList"), (0, u "<init>"), (0, u "()V"), (2, .fieldref 10 11), (0, .class_ 12), (0, .nameAndType 13 14), (0, u "java/util/ArrayList"), (0, u "elementData"), (0, u "[Ljava/lang/Object;"), (2, u "EMPTY_ELEMENTDATA"), (21, .fieldref 10 40), (0, .nameAndType 41 14), (0, u "DEFAULTCAPACITY_EMPTY_ELEMENTDATA"), (8, u "size"), (0, u "I"), (96, .class_ 149), (0, u "java/util/List"), (112, .class_ 263), (0, u "java/util/ArrayList$ListItr"), (3, .class_ 268), (0, u "java/util/ArrayList$Itr"), (7, .class_ 277), (0, u "java/util/ArrayList$SubList"), (12, .class_ 291), (0, u "java/util/ArrayList$ArrayListSpliterator"), (37, .class_ 330), (0, u "java/util/RandomAccess"), (0, .class_ 332), (0, u "java/lang/Cloneable"), (0, .class_ 334), (0, u "java/io/Serializable"), (0, u "serialVersionUID"), (0, u "J"), (3, u "DEFAULT_CAPACITY"), (159, .class_ 501), (0, u "java/util/ArrayList$SubList$2"), (0, .class_ 503), (0, u "java/util/ArrayList$SubList$1")] 5

def k28c0 : Code := { maxStack := 2, maxLocals := 1, code := jdk_38_method_2_code, exceptionTable := #[], attributes := #[] }
def k28m0 : Method := { name := "<init>", desc := "()V", sig := { parameters := [], returnType := none }, accessFlags := 1, code := some k28c0 }
/-- java/util/ArrayList -/
def k28 : Class := { plain "java/util/ArrayList" (some 26) with
  accessFlags := 33
  interfaces := #[25, 27, 13, 14]
  cf := some (fileOf pool28 10 #[.nestMembers #[290, 276, 500, 502, 262, 267]] #[{ accessFlags := 1, nameIndex := 5, descriptorIndex := 6, attributes := #[] }] 33 2 #[148, 329, 331, 333] #[{ accessFlags := 26, nameIndex := 335, descriptorIndex := 336, attributes := #[] }, { accessFlags := 26, nameIndex := 340, descriptorIndex := 51, attributes := #[] }, { accessFlags := 26, nameIndex := 17, descriptorIndex := 14, attributes := #[] }, { accessFlags := 26, nameIndex := 41, descriptorIndex := 14, attributes := #[] }, { accessFlags := 128, nameIndex := 13, descriptorIndex := 14, attributes := #[] }, { accessFlags := 2, nameIndex := 50, descriptorIndex := 51, attributes := #[] }])
  fields := #[{ name := "serialVersionUID", type := .long, accessFlags := 26, slot := 0, constantValue := 0 }, { name := "DEFAULT_CAPACITY", type := .int, accessFlags := 26, slot := 1, constantValue := 0 }, { name := "EMPTY_ELEMENTDATA", type := (.array (.object "java/lang/Object")), accessFlags := 26, slot := 2, constantValue := 0 }, { name := "DEFAULTCAPACITY_EMPTY_ELEMENTDATA", type := (.array (.object "java/lang/Object")), accessFlags := 26, slot := 3, constantValue := 0 }, { name := "elementData", type := (.array (.object "java/lang/Object")), accessFlags := 128, slot := 1, constantValue := 0 }, { name := "size", type := .int, accessFlags := 2, slot := 2, constantValue := 0 }]
  methods := #[k28m0]
  instanceTypes := #[.int, (.array (.object "java/lang/Object")), .int]
  staticTypes := #[.long, .int, (.array (.object "java/lang/Object")), (.array (.object "java/lang/Object"))]
  resolved := Array.replicate 509 none
  statics := some 0 }

def pool29 : Array CpInfo := pool [(2, .class_ 4), (1, u "java/lang/Object"), (3, .class_ 10), (1, u "com/example/holdfast/holdfast/dom/CompactDocument$Namespaces"), (0, u "outer"), (0, u "Lcom/example/holdfast/holdfast/dom/CompactDocument$Namespaces;"), (2, u "declarations"), (0, u "Ljava/util/List;"), (45, u "TOP"), (15, .class_ 79), (0, u "com/example/holdfast/holdfast/dom/CompactDocument")] 2

/-- com/example/holdfast/holdfast/dom/CompactDocument$Namespaces -/
def k29 : Class := { plain "com/example/holdfast/holdfast/dom/CompactDocument$Namespaces" (some 0) with
  accessFlags := 49
  interfaces := #[]
  cf := some (fileOf pool29 8 #[.nestHost 78] #[] 49 2 #[] #[{ accessFlags := 24, nameIndex := 62, descriptorIndex := 12, attributes := #[] }, { accessFlags := 18, nameIndex := 11, descriptorIndex := 12, attributes := #[] }, { accessFlags := 18, nameIndex := 15, descriptorIndex := 16, attributes := #[] }])
  fields := #[{ name := "TOP", type := (.object "com/example/holdfast/holdfast/dom/CompactDocument$Namespaces"), accessFlags := 24, slot := 0, constantValue := 0 }, { name := "outer", type := (.object "com/example/holdfast/holdfast/dom/CompactDocument$Namespaces"), accessFlags := 18, slot := 0, constantValue := 0 }, { name := "declarations", type := (.object "java/util/List"), accessFlags := 18, slot := 1, constantValue := 0 }]
  methods := #[]
  instanceTypes := #[(.object "com/example/holdfast/holdfast/dom/CompactDocument$Namespaces"), (.object "java/util/List")]
  staticTypes := #[(.object "com/example/holdfast/holdfast/dom/CompactDocument$Namespaces")]
  resolved := Array.replicate 82 none
  statics := none }

def pool30 : Array CpInfo := pool [(1, .class_ 2), (0, u "java/lang/Math"), (1, .class_ 6), (1, u "java/lang/Object"), (0, u "<init>"), (0, u "()V"), (89, .class_ 100), (1, u "java/lang/Math$RandomNumberGeneratorHolder"), (71, u "negativeZeroFloatBits"), (0, u "J"), (2, u "negativeZeroDoubleBits"), (21, u "max"), (46, u "$assertionsDisabled"), (0, u "Z"), (88, u "(II)I"), (2, u "twoToTheDoubleScaleDown"), (0, u "D"), (4, u "twoToTheDoubleScaleUp"), (9, u "E"), (3, u "PI"), (2, u "TAU"), (2, u "DEGREES_TO_RADIANS"), (0, u "RADIANS_TO_DEGREES")] 94

def k30m0 : Method := { name := "<init>", desc := "()V", sig := { parameters := [], returnType := none }, accessFlags := 2, code := none }
def k30c1 : Code := { maxStack := 2, maxLocals := 2, code := jdk_29_method_65_code, exceptionTable := #[], attributes := #[] }
def k30m1 : Method := { name := "max", desc := "(II)I", sig := { parameters := [.int, .int], returnType := some .int }, accessFlags := 9, code := some k30c1 }
/-- java/lang/Math -/
def k30 : Class := { plain "java/lang/Math" (some 0) with
  accessFlags := 49
  interfaces := #[]
  cf := some (fileOf pool30 1 #[.nestMembers #[98]] #[{ accessFlags := 2, nameIndex := 7, descriptorIndex := 8, attributes := #[] }, { accessFlags := 9, nameIndex := 198, descriptorIndex := 335, attributes := #[] }] 49 4 #[] #[{ accessFlags := 25, nameIndex := 354, descriptorIndex := 339, attributes := #[] }, { accessFlags := 25, nameIndex := 358, descriptorIndex := 339, attributes := #[] }, { accessFlags := 25, nameIndex := 361, descriptorIndex := 339, attributes := #[] }, { accessFlags := 26, nameIndex := 364, descriptorIndex := 339, attributes := #[] }, { accessFlags := 26, nameIndex := 365, descriptorIndex := 339, attributes := #[] }, { accessFlags := 26, nameIndex := 172, descriptorIndex := 173, attributes := #[] }, { accessFlags := 26, nameIndex := 176, descriptorIndex := 173, attributes := #[] }, { accessFlags := 8, nameIndex := 344, descriptorIndex := 339, attributes := #[] }, { accessFlags := 8, nameIndex := 338, descriptorIndex := 339, attributes := #[] }, { accessFlags := 4120, nameIndex := 245, descriptorIndex := 246, attributes := #[] }])
  fields := #[{ name := "E", type := .double, accessFlags := 25, slot := 0, constantValue := 0 }, { name := "PI", type := .double, accessFlags := 25, slot := 1, constantValue := 0 }, { name := "TAU", type := .double, accessFlags := 25, slot := 2, constantValue := 0 }, { name := "DEGREES_TO_RADIANS", type := .double, accessFlags := 26, slot := 3, constantValue := 0 }, { name := "RADIANS_TO_DEGREES", type := .double, accessFlags := 26, slot := 4, constantValue := 0 }, { name := "negativeZeroFloatBits", type := .long, accessFlags := 26, slot := 5, constantValue := 0 }, { name := "negativeZeroDoubleBits", type := .long, accessFlags := 26, slot := 6, constantValue := 0 }, { name := "twoToTheDoubleScaleUp", type := .double, accessFlags := 8, slot := 7, constantValue := 0 }, { name := "twoToTheDoubleScaleDown", type := .double, accessFlags := 8, slot := 8, constantValue := 0 }, { name := "$assertionsDisabled", type := .boolean, accessFlags := 4120, slot := 9, constantValue := 0 }]
  methods := #[k30m0, k30m1]
  instanceTypes := #[]
  staticTypes := #[.double, .double, .double, .double, .double, .long, .long, .double, .double, .boolean]
  resolved := Array.replicate 460 none
  statics := none }

/-- the primitive boolean -/
def k31 : Class := { plain "boolean" none with kind := .primitive 'Z', accessFlags := 0x411 }
/-- [Z -/
def k32 : Class := { plain "[Z" (some 0) with kind := .array 31 .boolean, interfaces := #[13, 14], accessFlags := 1041 }

/-- the primitive byte -/
def k33 : Class := { plain "byte" none with kind := .primitive 'B', accessFlags := 0x411 }
/-- [B -/
def k34 : Class := { plain "[B" (some 0) with kind := .array 33 .byte, interfaces := #[13, 14], accessFlags := 1041 }

/-- the primitive char -/
def k35 : Class := { plain "char" none with kind := .primitive 'C', accessFlags := 0x411 }
/-- [C -/
def k36 : Class := { plain "[C" (some 0) with kind := .array 35 .char, interfaces := #[13, 14], accessFlags := 1041 }

/-- the primitive int -/
def k37 : Class := { plain "int" none with kind := .primitive 'I', accessFlags := 0x411 }
/-- [I -/
def k38 : Class := { plain "[I" (some 0) with kind := .array 37 .int, interfaces := #[13, 14], accessFlags := 1041 }

/-- [Lcom/example/holdfast/holdfast/dom/CompactDocument$Name; -/
def k39 : Class := { plain "[Lcom/example/holdfast/holdfast/dom/CompactDocument$Name;" (some 0) with kind := .array 10 (.object "com/example/holdfast/holdfast/dom/CompactDocument$Name"), interfaces := #[13, 14], accessFlags := 1041 }

/-- [Lcom/example/holdfast/holdfast/dom/CompactDocument$Namespaces; -/
def k40 : Class := { plain "[Lcom/example/holdfast/holdfast/dom/CompactDocument$Namespaces;" (some 0) with kind := .array 29 (.object "com/example/holdfast/holdfast/dom/CompactDocument$Namespaces"), interfaces := #[13, 14], accessFlags := 1041 }

/-- [Lcom/example/holdfast/holdfast/dom/CompactNode; -/
def k41 : Class := { plain "[Lcom/example/holdfast/holdfast/dom/CompactNode;" (some 0) with kind := .array 4 (.object "com/example/holdfast/holdfast/dom/CompactNode"), interfaces := #[13, 14], accessFlags := 1041 }

/-- [Ljava/lang/Object; -/
def k42 : Class := { plain "[Ljava/lang/Object;" (some 0) with kind := .array 0 (.object "java/lang/Object"), interfaces := #[13, 14], accessFlags := 1041 }

def heap : Heap := #[{ cls := 28, slots := #[.long 0, .int 0, .ref 1, .ref 2], vm := .statics 28 },
  { cls := 42, slots := #[], vm := .none },
  { cls := 42, slots := #[], vm := .none }]
def classes : Array Class := #[k0, k1, k2, k3, k4, k5, k6, k7, k8, k9, k10, k11, k12, k13, k14, k15, k16, k17, k18, k19, k20, k21, k22, k23, k24, k25, k26, k27, k28, k29, k30, k31, k32, k33, k34, k35, k36, k37, k38, k39, k40, k41, k42]
def interned : List (Array UInt16 × Addr) := []
def slotsUsed : Nat := 4
def theMethod : MethodId := ⟨1, 2⟩
def args0 : Array Value := #[.int 5, .int 7]
def aboutOver (below : List Frame) : State where
  vm := { classes := classes, interned := interned.toArray }
  heap := heap
  slotsUsed := slotsUsed
  threads := #[{ frames := .invoking theMethod args0 :: below }]
def below0 : List Frame := [.native { method := ⟨0, 0⟩, args := #[] }]
def about1 : State := aboutOver below0
def p0 : Program := .bare "" "" ""
def e0 : Env := launch0.env 0 0 0
theorem w_frames : about1.frames = Frame.invoking theMethod args0 :: below0 := rfl
set_option maxRecDepth 65536 in
theorem w_args : argsFit about1.vm theMethod args0 = true := by decide +kernel
set_option maxRecDepth 65536 in
theorem w_heap : heapFits about1 = true := by decide +kernel
set_option maxRecDepth 65536 in
theorem w_runnable : about1.curStatus? = some .runnable := by decide +kernel
set_option maxRecDepth 65536 in
theorem w_alone : about1.alone = true := by decide +kernel
set_option maxRecDepth 65536 in
theorem w_named : about1.methodNamed? x = some theMethod := by decide +kernel
set_option maxRecDepth 65536 in
theorem w_hears : about1.hears theMethod below0 = true := by decide +kernel
set_option maxRecDepth 65536 in
theorem w_ripe : about1.ripe theMethod args0 below0 = true := by decide +kernel
theorem w_running : about1.status = .running := rfl
set_option maxRecDepth 65536 in
theorem w_room : about1.hasRoom e0.platform room_1 = true :=
  launch0.hasRoom_least _ room_1 (by decide +kernel) (by decide +kernel) (by decide +kernel) (by decide +kernel) (by decide +kernel) (by decide +kernel)
theorem allAtoms_all (ts : List Jvm.Cond) (a : Array Jvm.Value) (st : Jvm.State) : (allAtoms ts).before a st = ts.all (fun c => c.before a st) := by
  induction ts with
  | nil => rfl
  | cons c t ih =>
    show (Jvm.Cond.and c (allAtoms t)).before a st = _
    rw [Jvm.Cond.before_and, ih, List.all_cons]
def words1 : List Jvm.Cond := Jvm.Cond.code x code maxLocals ret :: tables_1
/-- a 'code' word, met by the world's own term for the bytes: nothing is compared byte by byte -/
theorem code_word {y : MethodName} {bytes : ByteArray} {mx : Nat} {rt : Option FieldType} {a : Array Value} {s : State} {m : MethodId} {meth : Method} {c : Code} (h1 : s.methodNamed? y = some m) (h2 : s.vm.method? m = some meth) (h3 : meth.code = some c) (h4 : c.code = bytes)
    (h5 : (c.maxLocals == mx && c.exceptionTable.isEmpty && decide (c.maxStack ≤ mostOperands) && decide (meth.sig.returnType = rt) && !meth.locks && decide (parseMethodDescriptor y.desc = some meth.sig)) = true) : (Jvm.Cond.code y bytes mx rt).before a s = true := by
  simp only [Bool.and_eq_true, beq_iff_eq, Bool.not_eq_true', decide_eq_true_eq] at h5
  obtain ⟨⟨⟨⟨⟨g1, g2⟩, g3⟩, g4⟩, g5⟩, g6⟩ := h5
  simp [Cond.before, Cond.holds, Cond.value, h1, h2, h3, h4, g1, g2, g3, g4, g5, g6]
def isCode : Jvm.Cond → Bool
  | .code _ _ _ _ => true
  | _ => false
theorem all_split {L : List Jvm.Cond} {P : Jvm.Cond → Bool} (h1 : L.all (fun c => isCode c || P c) = true) (h2 : ∀ c ∈ L.filter isCode, P c = true) : L.all P = true := by
  refine List.all_eq_true.mpr fun c hc => ?_
  have h := List.all_eq_true.mp h1 c hc
  rcases Bool.eq_false_or_eq_true (isCode c) with hi | hi
  · exact h2 c (List.mem_filter.mpr ⟨hc, hi⟩)
  · simpa [hi] using h
set_option maxRecDepth 65536 in
theorem w_c0 : (Jvm.Cond.code x code maxLocals ret).before args0 about1 = true := code_word (m := ⟨1, 2⟩) (meth := k1m2) (c := k1c2) (by decide +kernel) rfl rfl rfl (by decide +kernel)
set_option maxRecDepth 65536 in
theorem w_c1 : (Jvm.Cond.code ({ cls := "com/example/holdfast/holdfast/dom/CompactDocument$Builder", name := "<init>", desc := "(Ljava/lang/String;I)V" } : Jvm.MethodName) prog_122_method_1_code (3 : Nat) (Option.none : Option Jvm.ClassFile.FieldType)).before args0 about1 = true := code_word (m := ⟨2, 0⟩) (meth := k2m0) (c := k2c0) (by decide +kernel) rfl rfl rfl (by decide +kernel)
set_option maxRecDepth 65536 in
theorem w_c2 : (Jvm.Cond.code ({ cls := "com/example/holdfast/holdfast/dom/CompactDocument$Builder", name := "<init>", desc := "(Ljava/lang/String;II)V" } : Jvm.MethodName) prog_122_method_2_code (4 : Nat) (Option.none : Option Jvm.ClassFile.FieldType)).before args0 about1 = true := code_word (m := ⟨2, 1⟩) (meth := k2m1) (c := k2c1) (by decide +kernel) rfl rfl rfl (by decide +kernel)
set_option maxRecDepth 65536 in
theorem w_c3 : (Jvm.Cond.code ({ cls := "java/lang/Object", name := "<init>", desc := "()V" } : Jvm.MethodName) object_method_1_code (1 : Nat) (Option.none : Option Jvm.ClassFile.FieldType)).before args0 about1 = true := code_word (m := ⟨0, 0⟩) (meth := k0m0) (c := k0c0) (by decide +kernel) rfl rfl rfl (by decide +kernel)
set_option maxRecDepth 65536 in
theorem w_c4 : (Jvm.Cond.code ({ cls := "com/example/holdfast/holdfast/dom/CompactDocument", name := "<init>", desc := "()V" } : Jvm.MethodName) prog_121_method_1_code (1 : Nat) (Option.none : Option Jvm.ClassFile.FieldType)).before args0 about1 = true := code_word (m := ⟨8, 0⟩) (meth := k8m0) (c := k8c0) (by decide +kernel) rfl rfl rfl (by decide +kernel)
set_option maxRecDepth 65536 in
theorem w_c5 : (Jvm.Cond.code ({ cls := "com/example/holdfast/holdfast/dom/CompactNode", name := "<init>", desc := "(Lcom/example/holdfast/holdfast/dom/CompactDocument;I)V" } : Jvm.MethodName) prog_135_method_1_code (3 : Nat) (Option.none : Option Jvm.ClassFile.FieldType)).before args0 about1 = true := code_word (m := ⟨4, 0⟩) (meth := k4m0) (c := k4c0) (by decide +kernel) rfl rfl rfl (by decide +kernel)
set_option maxRecDepth 65536 in
theorem w_c6 : (Jvm.Cond.code ({ cls := "java/util/HashMap", name := "<init>", desc := "()V" } : Jvm.MethodName) jdk_69_method_7_code (1 : Nat) (Option.none : Option Jvm.ClassFile.FieldType)).before args0 about1 = true := code_word (m := ⟨15, 0⟩) (meth := k15m0) (c := k15c0) (by decide +kernel) rfl rfl rfl (by decide +kernel)
set_option maxRecDepth 65536 in
theorem w_c7 : (Jvm.Cond.code ({ cls := "java/util/AbstractMap", name := "<init>", desc := "()V" } : Jvm.MethodName) jdk_71_method_1_code (1 : Nat) (Option.none : Option Jvm.ClassFile.FieldType)).before args0 about1 = true := code_word (m := ⟨12, 0⟩) (meth := k12m0) (c := k12c0) (by decide +kernel) rfl rfl rfl (by decide +kernel)
set_option maxRecDepth 65536 in
theorem w_c8 : (Jvm.Cond.code ({ cls := "java/util/ArrayList", name := "<init>", desc := "()V" } : Jvm.MethodName) jdk_38_method_2_code (1 : Nat) (Option.none : Option Jvm.ClassFile.FieldType)).before args0 about1 = true := code_word (m := ⟨28, 0⟩) (meth := k28m0) (c := k28c0) (by decide +kernel) rfl rfl rfl (by decide +kernel)
set_option maxRecDepth 65536 in
theorem w_c9 : (Jvm.Cond.code ({ cls := "java/util/AbstractList", name := "<init>", desc := "()V" } : Jvm.MethodName) jdk_39_method_1_code (1 : Nat) (Option.none : Option Jvm.ClassFile.FieldType)).before args0 about1 = true := code_word (m := ⟨26, 0⟩) (meth := k26m0) (c := k26c0) (by decide +kernel) rfl rfl rfl (by decide +kernel)
set_option maxRecDepth 65536 in
theorem w_c10 : (Jvm.Cond.code ({ cls := "java/util/AbstractCollection", name := "<init>", desc := "()V" } : Jvm.MethodName) jdk_22_method_1_code (1 : Nat) (Option.none : Option Jvm.ClassFile.FieldType)).before args0 about1 = true := code_word (m := ⟨23, 0⟩) (meth := k23m0) (c := k23c0) (by decide +kernel) rfl rfl rfl (by decide +kernel)
set_option maxRecDepth 65536 in
theorem w_c11 : (Jvm.Cond.code ({ cls := "java/lang/Math", name := "max", desc := "(II)I" } : Jvm.MethodName) jdk_29_method_65_code (2 : Nat) (Option.some Jvm.ClassFile.FieldType.int)).before args0 about1 = true := code_word (m := ⟨30, 1⟩) (meth := k30m1) (c := k30c1) (by decide +kernel) rfl rfl rfl (by decide +kernel)
set_option maxRecDepth 65536 in
theorem w_c12 : (Jvm.Cond.code ({ cls := "com/example/holdfast/holdfast/dom/CompactDocument$Builder", name := "keepSource", desc := "([BLcom/example/holdfast/holdfast/dom/CompactDocument$TextReader;)V" } : Jvm.MethodName) prog_122_method_4_code (3 : Nat) (Option.none : Option Jvm.ClassFile.FieldType)).before args0 about1 = true := code_word (m := ⟨2, 2⟩) (meth := k2m2) (c := k2c2) (by decide +kernel) rfl rfl rfl (by decide +kernel)
set_option maxRecDepth 65536 in
theorem w_c13 : (Jvm.Cond.code ({ cls := "com/example/holdfast/holdfast/dom/CompactDocument$Builder", name := "document", desc := "()Lcom/example/holdfast/holdfast/dom/CompactDocument;" } : Jvm.MethodName) prog_122_method_22_code (1 : Nat) (Option.some (Jvm.ClassFile.FieldType.object "com/example/holdfast/holdfast/dom/CompactDocument"))).before args0 about1 = true := code_word (m := ⟨2, 3⟩) (meth := k2m3) (c := k2c3) (by decide +kernel) rfl rfl rfl (by decide +kernel)
set_option maxRecDepth 65536 in
theorem w_c14 : (Jvm.Cond.code ({ cls := "com/example/holdfast/holdfast/dom/CompactDocument", name := "add", desc := "(SI)I" } : Jvm.MethodName) prog_121_method_2_code (4 : Nat) (Option.some Jvm.ClassFile.FieldType.int)).before args0 about1 = true := code_word (m := ⟨8, 1⟩) (meth := k8m1) (c := k8c1) (by decide +kernel) rfl rfl rfl (by decide +kernel)
set_option maxRecDepth 65536 in
theorem w_c15 : (Jvm.Cond.code ({ cls := "com/example/holdfast/holdfast/dom/CompactDocumentUnmarkSincePinLaw", name := "apply", desc := "(Lcom/example/holdfast/holdfast/dom/CompactDocument;[I[Z[Z[I[III)I" } : Jvm.MethodName) method_2_code (10 : Nat) (Option.some Jvm.ClassFile.FieldType.int)).before args0 about1 = true := code_word (m := ⟨1, 1⟩) (meth := k1m1) (c := k1c1) (by decide +kernel) rfl rfl rfl (by decide +kernel)
set_option maxRecDepth 65536 in
theorem w_c16 : (Jvm.Cond.code ({ cls := "com/example/holdfast/holdfast/dom/CompactDocument", name := "changed", desc := "(I)V" } : Jvm.MethodName) prog_121_method_24_code (5 : Nat) (Option.none : Option Jvm.ClassFile.FieldType)).before args0 about1 = true := code_word (m := ⟨8, 2⟩) (meth := k8m2) (c := k8c2) (by decide +kernel) rfl rfl rfl (by decide +kernel)
set_option maxRecDepth 65536 in
theorem w_c17 : (Jvm.Cond.code ({ cls := "com/example/holdfast/holdfast/dom/CompactDocument", name := "keepMarked", desc := "(IIB)V" } : Jvm.MethodName) prog_121_method_26_code (6 : Nat) (Option.none : Option Jvm.ClassFile.FieldType)).before args0 about1 = true := code_word (m := ⟨8, 4⟩) (meth := k8m4) (c := k8c4) (by decide +kernel) rfl rfl rfl (by decide +kernel)
set_option maxRecDepth 65536 in
theorem w_c18 : (Jvm.Cond.code ({ cls := "com/example/holdfast/holdfast/dom/CompactDocument", name := "unmarkSince", desc := "(I)V" } : Jvm.MethodName) prog_121_method_28_code (2 : Nat) (Option.none : Option Jvm.ClassFile.FieldType)).before args0 about1 = true := code_word (m := ⟨8, 6⟩) (meth := k8m6) (c := k8c6) (by decide +kernel) rfl rfl rfl (by decide +kernel)
set_option maxRecDepth 65536 in
theorem w_c19 : (Jvm.Cond.code ({ cls := "com/example/holdfast/holdfast/dom/CompactDocument", name := "changeMarks", desc := "()I" } : Jvm.MethodName) prog_121_method_27_code (1 : Nat) (Option.some Jvm.ClassFile.FieldType.int)).before args0 about1 = true := code_word (m := ⟨8, 5⟩) (meth := k8m5) (c := k8c5) (by decide +kernel) rfl rfl rfl (by decide +kernel)
set_option maxRecDepth 65536 in
theorem w_c20 : (Jvm.Cond.code ({ cls := "com/example/holdfast/holdfast/dom/CompactDocument", name := "retagged", desc := "(I)V" } : Jvm.MethodName) prog_121_method_25_code (3 : Nat) (Option.none : Option Jvm.ClassFile.FieldType)).before args0 about1 = true := code_word (m := ⟨8, 3⟩) (meth := k8m3) (c := k8c3) (by decide +kernel) rfl rfl rfl (by decide +kernel)
def codes1 : List Jvm.Cond := [Jvm.Cond.code x code maxLocals ret, Jvm.Cond.code ({ cls := "com/example/holdfast/holdfast/dom/CompactDocument$Builder", name := "<init>", desc := "(Ljava/lang/String;I)V" } : Jvm.MethodName) prog_122_method_1_code (3 : Nat) (Option.none : Option Jvm.ClassFile.FieldType), Jvm.Cond.code ({ cls := "com/example/holdfast/holdfast/dom/CompactDocument$Builder", name := "<init>", desc := "(Ljava/lang/String;II)V" } : Jvm.MethodName) prog_122_method_2_code (4 : Nat) (Option.none : Option Jvm.ClassFile.FieldType), Jvm.Cond.code ({ cls := "java/lang/Object", name := "<init>", desc := "()V" } : Jvm.MethodName) object_method_1_code (1 : Nat) (Option.none : Option Jvm.ClassFile.FieldType), Jvm.Cond.code ({ cls := "com/example/holdfast/holdfast/dom/CompactDocument", name := "<init>", desc := "()V" } : Jvm.MethodName) prog_121_method_1_code (1 : Nat) (Option.none : Option Jvm.ClassFile.FieldType), Jvm.Cond.code ({ cls := "com/example/holdfast/holdfast/dom/CompactNode", name := "<init>", desc := "(Lcom/example/holdfast/holdfast/dom/CompactDocument;I)V" } : Jvm.MethodName) prog_135_method_1_code (3 : Nat) (Option.none : Option Jvm.ClassFile.FieldType), Jvm.Cond.code ({ cls := "java/util/HashMap", name := "<init>", desc := "()V" } : Jvm.MethodName) jdk_69_method_7_code (1 : Nat) (Option.none : Option Jvm.ClassFile.FieldType), Jvm.Cond.code ({ cls := "java/util/AbstractMap", name := "<init>", desc := "()V" } : Jvm.MethodName) jdk_71_method_1_code (1 : Nat) (Option.none : Option Jvm.ClassFile.FieldType), Jvm.Cond.code ({ cls := "java/util/ArrayList", name := "<init>", desc := "()V" } : Jvm.MethodName) jdk_38_method_2_code (1 : Nat) (Option.none : Option Jvm.ClassFile.FieldType), Jvm.Cond.code ({ cls := "java/util/AbstractList", name := "<init>", desc := "()V" } : Jvm.MethodName) jdk_39_method_1_code (1 : Nat) (Option.none : Option Jvm.ClassFile.FieldType), Jvm.Cond.code ({ cls := "java/util/AbstractCollection", name := "<init>", desc := "()V" } : Jvm.MethodName) jdk_22_method_1_code (1 : Nat) (Option.none : Option Jvm.ClassFile.FieldType), Jvm.Cond.code ({ cls := "java/lang/Math", name := "max", desc := "(II)I" } : Jvm.MethodName) jdk_29_method_65_code (2 : Nat) (Option.some Jvm.ClassFile.FieldType.int), Jvm.Cond.code ({ cls := "com/example/holdfast/holdfast/dom/CompactDocument$Builder", name := "keepSource", desc := "([BLcom/example/holdfast/holdfast/dom/CompactDocument$TextReader;)V" } : Jvm.MethodName) prog_122_method_4_code (3 : Nat) (Option.none : Option Jvm.ClassFile.FieldType), Jvm.Cond.code ({ cls := "com/example/holdfast/holdfast/dom/CompactDocument$Builder", name := "document", desc := "()Lcom/example/holdfast/holdfast/dom/CompactDocument;" } : Jvm.MethodName) prog_122_method_22_code (1 : Nat) (Option.some (Jvm.ClassFile.FieldType.object "com/example/holdfast/holdfast/dom/CompactDocument")), Jvm.Cond.code ({ cls := "com/example/holdfast/holdfast/dom/CompactDocument", name := "add", desc := "(SI)I" } : Jvm.MethodName) prog_121_method_2_code (4 : Nat) (Option.some Jvm.ClassFile.FieldType.int), Jvm.Cond.code ({ cls := "com/example/holdfast/holdfast/dom/CompactDocumentUnmarkSincePinLaw", name := "apply", desc := "(Lcom/example/holdfast/holdfast/dom/CompactDocument;[I[Z[Z[I[III)I" } : Jvm.MethodName) method_2_code (10 : Nat) (Option.some Jvm.ClassFile.FieldType.int), Jvm.Cond.code ({ cls := "com/example/holdfast/holdfast/dom/CompactDocument", name := "changed", desc := "(I)V" } : Jvm.MethodName) prog_121_method_24_code (5 : Nat) (Option.none : Option Jvm.ClassFile.FieldType), Jvm.Cond.code ({ cls := "com/example/holdfast/holdfast/dom/CompactDocument", name := "keepMarked", desc := "(IIB)V" } : Jvm.MethodName) prog_121_method_26_code (6 : Nat) (Option.none : Option Jvm.ClassFile.FieldType), Jvm.Cond.code ({ cls := "com/example/holdfast/holdfast/dom/CompactDocument", name := "unmarkSince", desc := "(I)V" } : Jvm.MethodName) prog_121_method_28_code (2 : Nat) (Option.none : Option Jvm.ClassFile.FieldType), Jvm.Cond.code ({ cls := "com/example/holdfast/holdfast/dom/CompactDocument", name := "changeMarks", desc := "()I" } : Jvm.MethodName) prog_121_method_27_code (1 : Nat) (Option.some Jvm.ClassFile.FieldType.int), Jvm.Cond.code ({ cls := "com/example/holdfast/holdfast/dom/CompactDocument", name := "retagged", desc := "(I)V" } : Jvm.MethodName) prog_121_method_25_code (3 : Nat) (Option.none : Option Jvm.ClassFile.FieldType)]
set_option maxRecDepth 65536 in
theorem codes_eq : words1.filter isCode = codes1 := rfl
theorem w_codes : ∀ c ∈ words1.filter isCode, c.before args0 about1 = true := by
  rw [codes_eq]
  intro c hc
  simp only [codes1, List.mem_cons, List.not_mem_nil, or_false] at hc
  rcases hc with rfl | rfl | rfl | rfl | rfl | rfl | rfl | rfl | rfl | rfl | rfl | rfl | rfl | rfl | rfl | rfl | rfl | rfl | rfl | rfl | rfl
  · exact w_c0
  · exact w_c1
  · exact w_c2
  · exact w_c3
  · exact w_c4
  · exact w_c5
  · exact w_c6
  · exact w_c7
  · exact w_c8
  · exact w_c9
  · exact w_c10
  · exact w_c11
  · exact w_c12
  · exact w_c13
  · exact w_c14
  · exact w_c15
  · exact w_c16
  · exact w_c17
  · exact w_c18
  · exact w_c19
  · exact w_c20
set_option maxRecDepth 65536 in
theorem w_t1 : (words1.take 24).all (fun c => isCode c || c.before args0 about1) = true := by decide +kernel
set_option maxRecDepth 65536 in
theorem w_t2 : ((words1.drop 24).take 24).all (fun c => isCode c || c.before args0 about1) = true := by decide +kernel
set_option maxRecDepth 65536 in
theorem w_t3 : (((words1.drop 24).drop 24).take 24).all (fun c => isCode c || c.before args0 about1) = true := by decide +kernel
set_option maxRecDepth 65536 in
theorem w_t4 : ((((words1.drop 24).drop 24).drop 24).take 24).all (fun c => isCode c || c.before args0 about1) = true := by decide +kernel
set_option maxRecDepth 65536 in
theorem w_t5 : (((((words1.drop 24).drop 24).drop 24).drop 24).take 24).all (fun c => isCode c || c.before args0 about1) = true := by decide +kernel
set_option maxRecDepth 65536 in
theorem w_t6 : ((((((words1.drop 24).drop 24).drop 24).drop 24).drop 24).take 24).all (fun c => isCode c || c.before args0 about1) = true := by decide +kernel
set_option maxRecDepth 65536 in
theorem w_t7 : (((((((words1.drop 24).drop 24).drop 24).drop 24).drop 24).drop 24).take 24).all (fun c => isCode c || c.before args0 about1) = true := by decide +kernel
set_option maxRecDepth 65536 in
theorem w_t8 : ((((((((words1.drop 24).drop 24).drop 24).drop 24).drop 24).drop 24).drop 24).take 24).all (fun c => isCode c || c.before args0 about1) = true := by decide +kernel
set_option maxRecDepth 65536 in
theorem w_t9 : (((((((((words1.drop 24).drop 24).drop 24).drop 24).drop 24).drop 24).drop 24).drop 24).take 24).all (fun c => isCode c || c.before args0 about1) = true := by decide +kernel
set_option maxRecDepth 65536 in
theorem w_t10 : (((((((((words1.drop 24).drop 24).drop 24).drop 24).drop 24).drop 24).drop 24).drop 24).drop 24).all (fun c => isCode c || c.before args0 about1) = true := by decide +kernel
theorem w_tables : (allAtoms (Jvm.Cond.code x code maxLocals ret :: tables_1)).before args0 about1 = true := by
  rw [allAtoms_all]
  show words1.all (fun c => c.before args0 about1) = true
  refine all_split ?_ w_codes
  rw [← List.take_append_drop 24 words1, List.all_append, w_t1, ← List.take_append_drop 24 (words1.drop 24), List.all_append, w_t2, ← List.take_append_drop 24 ((words1.drop 24).drop 24), List.all_append, w_t3, ← List.take_append_drop 24 (((words1.drop 24).drop 24).drop 24), List.all_append, w_t4, ← List.take_append_drop 24 ((((words1.drop 24).drop 24).drop 24).drop 24), List.all_append, w_t5, ← List.take_append_drop 24 (((((words1.drop 24).drop 24).drop 24).drop 24).drop 24), List.all_append, w_t6, ← List.take_append_drop 24 ((((((words1.drop 24).drop 24).drop 24).drop 24).drop 24).drop 24), List.all_append, w_t7, ← List.take_append_drop 24 (((((((words1.drop 24).drop 24).drop 24).drop 24).drop 24).drop 24).drop 24), List.all_append, w_t8, ← List.take_append_drop 24 ((((((((words1.drop 24).drop 24).drop 24).drop 24).drop 24).drop 24).drop 24).drop 24), List.all_append, w_t9, w_t10]
  rfl
set_option maxRecDepth 65536 in
theorem w_rest : rest_1_c.before args0 about1 = true := by decide +kernel
set_option maxRecDepth 65536 in
theorem w_case : (Jvm.Cond.and given_1 narrow_1).before args0 about1 = true := by decide +kernel
theorem w_applies : (headSpec (Jvm.Cond.code x code maxLocals ret :: tables_1) room_1).applies x e0.platform about1 = true :=
  (Spec.applies_iff w_frames).mpr ⟨w_running, w_runnable, w_alone, w_named, w_hears, w_ripe, w_room, w_tables⟩
theorem atStart : AtStart classFile x code maxLocals ret World_1 tables_1 room_1 Calls_1 rest_1 Pre_1 launch0 p0 e0 about1 theMethod args0 below0 :=
  ⟨lists_1, trivial, launch0.admits_env _ _ _, launch0.least_env, fairChoices_fair.cas, fairChoices_fair.clock, w_frames, w_args, w_heap, w_applies, trivial, w_rest, w_case⟩
end start1
theorem witness_1 : WitnessClaimed_1 := ⟨start1.p0, start1.e0, start1.about1, start1.theMethod, start1.args0, start1.below0, start1.atStart⟩
end Jvm.Pilot.@@N@@
