import JvmDerived
import JvmDerived.Pilot.@@N@@Statement
import JvmDerived.Pilot.@@N@@Code
set_option linter.unusedVariables false
set_option linter.unusedSimpArgs false
namespace Jvm.Pilot.@@N@@
open Jvm Jvm.ClassFile Sem Op Lib Jvm.Free Jvm.Stand Jvm.LawKit Jvm.RoadKit Bundle Jvm.Pilot.@@N@@.Jvm.D
/-! ### own kit: a walk as one chain, from a place of the run to the method's end -/
/-- from A the run comes to an end of which P holds -/
def own_E (p : Program) (e : Env) (below : List Frame) (P : Outcome → State → Prop) (A : State) : Prop :=
  ∃ s₂ o, Steps p.tables e below A s₂ ∧ s₂.status = .running ∧ Ended s₂ below o ∧ P o s₂
/-- what a contract says at the end -/
def own_P (Q : Option Value → Heap → List Loc → Prop) (s : State) (C S : Nat) : Outcome → State → Prop :=
  fun o U => ∃ v L, o = .returned v ∧ Q v U.heap L ∧ FrameEnd s o U L C S
/-- a contract: called with these arguments over the heap h, the body returns, and Q tells what and what is written -/
def own_Con (l : Launch) (Z : State) (y : MethodName) (bytes : ByteArray) (maxL : Nat) (ret : Option FieldType) (ws : List Jvm.Cond) (rm : Room) (as : Array Value) (h : Heap) (Q : Option Value → Heap → List Loc → Prop) : Prop :=
  MetFree l y (head1 (Jvm.Cond.code y bytes maxL ret :: ws) rm) (fun a U => a = as ∧ Z.Warmed39 U.vm ∧ U.heap = h) (fun _ _ _ _ _ => True) (fun _ U o U' => ∃ v L, o = .returned v ∧ Q v U'.heap L ∧ FrameEnd U o U' L rm.cells rm.slots)
theorem own_w {Z : State} {a0 : Array Value} (hw : ∀ d ∈ tables_1, d.before a0 Z = true) (i : Nat) {d : Jvm.Cond} (q : tables_1[i]? = some d) : d.before a0 Z = true := hw d (List.mem_of_getElem? q)
section Own
variable {p : Program} {l : Launch} {e : Env} {R : Room} {s : State} {m : MethodId} {args : Array Value} {below : List Frame} {meth : Method} {c : Code} {T : State} {locs : List Loc} {cells slots : Nat} {Z : State} {a0 : Array Value} {h h' : Heap} {P : Outcome → State → Prop} {A B : State} {Q : Option Value → Heap → List Loc → Prop}
theorem own_s (st : ∀ t, Steps p.tables e below B t → Steps p.tables e below A t) (k : own_E p e below P B) : own_E p e below P A := by
  obtain ⟨s2, o, h1, h2⟩ := k; exact ⟨s2, o, st _ h1, h2⟩
theorem own_g {g : JFrame} (g' : JFrame) (st : ∀ t, Steps p.tables e below (T.setTop g') t → Steps p.tables e below (T.setTop g) t) (k : own_E p e below P (T.setTop g')) : own_E p e below P (T.setTop g) := own_s st k
theorem own_t (st : Steps p.tables e below A B) (k : own_E p e below P B) : own_E p e below P A := by
  obtain ⟨s2, o, h1, h2⟩ := k; exact ⟨s2, o, st.trans h1, h2⟩
theorem own_enter {y : MethodName} {bytes : ByteArray} {maxL : Nat} {ret : Option FieldType} {ws : List Jvm.Cond} {rm : Room} {as : Array Value} (hpl : plainFor y = true)
    (body : ∀ (p : Program) (e : Env) (s : State) (m : MethodId) (below : List Frame) (meth : Method) (c : Code) (s₁ : State), Stand p l e rm s m as below meth c s₁ [] 0 0 → s₁.heap = h → p.tables.exec = Jvm.exec → Z.Warmed39 s.vm → c.code = bytes → c.maxLocals = maxL → s.vm.findClass y.cls = some m.cls → meth.name = y.name → meth.sig.returnType = ret → meth.locks = false →
      own_E p e below (own_P Q s rm.cells rm.slots) (s₁.setTop (entryFrame m as maxL))) : own_Con l Z y bytes maxL ret ws rm as h Q := by
  refine MetFree.of_bodySF hpl hisR ?_
  intro p e s m args below meth c s₁ Bd hml hP hK
  obtain ⟨rfl, hZ, hh⟩ := hP
  have X0 : Stand p l e rm s m args below meth c s₁ [] 0 0 := Stand.of_body Bd
  have e0 : s₁.heap = h := by rw [← hh, Bd.state]; rfl
  exact body p e s m below meth c s₁ X0 e0 Bd.exec hZ Bd.bytes hml (findClass_of_methodNamed Bd.named) (name_of_methodNamed Bd.named Bd.method).1 Bd.returns Bd.notSynchronized
theorem own_cast {g g' : JFrame} (q : g = g') (k : own_E p e below P (T.setTop g')) : own_E p e below P (T.setTop g) := q ▸ k
/-! returns -/
theorem own_retZ (X : Stand p l e R s m args below meth c T locs cells slots) (hx : p.tables.exec = Jvm.exec) (hret : meth.sig.returnType = some .boolean) (hlk : meth.locks = false) {pc : Nat} {Ls : Array Slot} {z : Int32} {C S : Nat} {rest : List Value} (hd : decode c.code pc = .ok (.ireturn, 1)) (hz : nar .boolean z = z) (hc : cells ≤ C) (hs : slots ≤ S) (hQ : Q (some (.int z)) T.heap locs) :
    own_E p e below (own_P Q s C S) (T.setTop (mkF m pc Ls (.int z :: rest))) := by
  obtain ⟨fs, hr, hrun, hended, hW, hsame⟩ := X.leave (v := some (.int z)) (fun q => by rw [hret] at q; cases q) hlk
  exact ⟨_, _, retN X hx (t := .boolean) hret (by simp) hd (by rw [hz]; exact hr), hrun, hended, _, _, rfl, hQ, ⟨_, rfl⟩, hW, hsame.mono hc hs⟩
theorem own_retI (X : Stand p l e R s m args below meth c T locs cells slots) (hx : p.tables.exec = Jvm.exec) (hret : meth.sig.returnType = some .int) (hlk : meth.locks = false) {pc : Nat} {Ls : Array Slot} {z : Int32} {C S : Nat} (hd : decode c.code pc = .ok (.ireturn, 1)) (hc : cells ≤ C) (hs : slots ≤ S) (hQ : Q (some (.int z)) T.heap locs) :
    own_E p e below (own_P Q s C S) (T.setTop (mkF m pc Ls [.int z])) := by
  obtain ⟨fs, hr, hrun, hended, hW, hsame⟩ := X.leave (v := some (.int z)) (fun q => by rw [hret] at q; cases q) hlk
  exact ⟨_, _, X.ireturnOut hx hret rfl (Or.inl rfl) hd hr, hrun, hended, _, _, rfl, hQ, ⟨_, rfl⟩, hW, hsame.mono hc hs⟩
theorem own_retJ (X : Stand p l e R s m args below meth c T locs cells slots) (hx : p.tables.exec = Jvm.exec) (hret : meth.sig.returnType = some .long) (hlk : meth.locks = false) {pc : Nat} {Ls : Array Slot} {z : Int64} {C S : Nat} (hd : decode c.code pc = .ok (.lreturn, 1)) (hc : cells ≤ C) (hs : slots ≤ S) (hQ : Q (some (.long z)) T.heap locs) :
    own_E p e below (own_P Q s C S) (T.setTop (mkF m pc Ls [.long z])) := by
  obtain ⟨fs, hr, hrun, hended, hW, hsame⟩ := X.leave (v := some (.long z)) (fun q => by rw [hret] at q; cases q) hlk
  exact ⟨_, _, X.lreturnOut hx hret hd hr, hrun, hended, _, _, rfl, hQ, ⟨_, rfl⟩, hW, hsame.mono hc hs⟩
theorem own_retA (X : Stand p l e R s m args below meth c T locs cells slots) (hx : p.tables.exec = Jvm.exec) {t : FieldType} (ht : t.isReference = true) (hret : meth.sig.returnType = some t) (hlk : meth.locks = false) {pc : Nat} {Ls : Array Slot} {a : Addr} {C S : Nat} (hd : decode c.code pc = .ok (.areturn, 1)) (hc : cells ≤ C) (hs : slots ≤ S) (hQ : Q (some (.ref a)) T.heap locs) :
    own_E p e below (own_P Q s C S) (T.setTop (mkF m pc Ls [.ref a])) := by
  obtain ⟨fs, hr, hrun, hended, hW, hsame⟩ := X.leave (v := some (.ref a)) (fun q => by rw [hret] at q; cases q) hlk
  exact ⟨_, _, X.areturnOut hx (w := .ref a) rfl hret ht hd hr, hrun, hended, _, _, rfl, hQ, ⟨_, rfl⟩, hW, hsame.mono hc hs⟩
theorem own_retV (X : Stand p l e R s m args below meth c T locs cells slots) (hx : p.tables.exec = Jvm.exec) (hret : meth.sig.returnType = none) (hlk : meth.locks = false) {pc : Nat} {Ls : Array Slot} {C S : Nat} (hd : decode c.code pc = .ok (.return_, 1)) (hc : cells ≤ C) (hs : slots ≤ S) (hQ : Q none T.heap locs) :
    own_E p e below (own_P Q s C S) (T.setTop (mkF m pc Ls [])) := by
  obtain ⟨fs, hr, hrun, hended, hW, hsame⟩ := X.leave (v := none) (fun _ => rfl) hlk
  exact ⟨_, _, X.returnOut hx hret hd hr, hrun, hended, _, _, rfl, hQ, ⟨_, rfl⟩, hW, hsame.mono hc hs⟩
/-! calls by a contract -/
theorem own_callS {y : MethodName} {bytes : ByteArray} {maxL : Nat} {ret : Option FieldType} {rm : Room} {own : String} {index : Nat} {as : List Value} (X : Stand p l e R s m args below meth c T locs cells slots) (hx : p.tables.exec = Jvm.exec) (hZ : Z.Warmed39 s.vm) (hown : s.vm.findClass own = some m.cls) (hT : T.heap = h) (hM : own_Con l Z y bytes maxL ret [] rm as.toArray h Q)
    (w1 : (Jvm.Cond.methodLink own index y).before a0 Z = true) (w2 : (Jvm.Cond.static y).before a0 Z = true) (w3 : (Jvm.Cond.initialized y.cls).before a0 Z = true) (w4 : (Jvm.Cond.code y bytes maxL ret).before a0 Z = true) (hy : y.cls ≠ "java/lang/invoke/MethodHandle" ∧ y.cls ≠ "java/lang/invoke/VarHandle") {ps : List FieldType} {r : Option FieldType} (hpd : parseMethodDescriptor y.desc = some ⟨ps, r⟩) (hlen : as.length = ps.length)
    {pc : Nat} {Ls : Array Slot} {st rest : List Value} (hml : Ls.size = c.maxLocals) (hst : st = as.reverse ++ rest) (hd : decode c.code pc = .ok (.invokestatic index, 3)) (W : Nat) (hW : 2 * 0 + (rest.map fun v => v.category).sum ≤ W) (hf : rm.frames + 1 ≤ R.frames) (hl : W + (maxL + 11) + rm.locals ≤ R.locals) (hc : cells + rm.cells ≤ R.cells) (hs : slots + rm.slots ≤ R.slots)
    (k : ∀ (v : Option Value) (T' : State) (L : List Loc), Stand p l e R s m args below meth c T' (locs ++ L) (cells + rm.cells) (slots + rm.slots) → Q v T'.heap L → own_E p e below P (T'.setTop (mkF m (pc + 3) Ls (v.toList ++ rest)))) :
    own_E p e below P (T.setTop (mkF m pc Ls st)) := by
  obtain ⟨v, _, ⟨T', L', k', n'⟩, -, X', ⟨L, hQ, h1, h2, h3⟩, stp⟩ := Jvm.LawKit.callS X hx hown (mvT hZ w1) (mvT hZ w2) (mvT hZ w3) (mvT hZ w4) hy (backOf (W := W) hM hZ w4 w3 hf hl) (g := mkF m pc Ls st) rfl hml (argsL := as) (rest := rest) (lenOf hpd hlen) hst hW hd (fun _ _ => ⟨rfl, hT, hc, hs⟩)
  dsimp only [Pt.U, Pt.locs, Pt.cells, Pt.slots] at X' h1 h2 h3 stp hQ
  subst h1 h2 h3
  exact own_s stp (k v T' L X' hQ)
theorem own_callI {y : MethodName} {bytes : ByteArray} {maxL : Nat} {rm : Room} {own : String} {index : Nat} {a : Addr} {as : List Value} (X : Stand p l e R s m args below meth c T locs cells slots) (hx : p.tables.exec = Jvm.exec) (hZ : Z.Warmed39 s.vm) (hown : s.vm.findClass own = some m.cls) (hT : T.heap = h) (hM : own_Con l Z y bytes maxL none [] rm (.ref a :: as).toArray h Q) (hy1 : y.name = "<init>")
    (w1 : (Jvm.Cond.methodLink own index y).before a0 Z = true) (w2 : (Jvm.Cond.instanceMethod y).before a0 Z = true) (w3 : (Jvm.Cond.initialized y.cls).before a0 Z = true) (w4 : (Jvm.Cond.code y bytes maxL none).before a0 Z = true) (hy : y.cls ≠ "java/lang/invoke/MethodHandle" ∧ y.cls ≠ "java/lang/invoke/VarHandle") {ps : List FieldType} {r : Option FieldType} (hpd : parseMethodDescriptor y.desc = some ⟨ps, r⟩) (hlen : as.length = ps.length)
    {pc : Nat} {Ls : Array Slot} {st rest : List Value} (hml : Ls.size = c.maxLocals) (hst : st = as.reverse ++ .ref a :: rest) (hd : decode c.code pc = .ok (.invokespecial index, 3)) (W : Nat) (hW : 2 * 0 + (rest.map fun v => v.category).sum ≤ W) (hf : rm.frames + 1 ≤ R.frames) (hl : W + (maxL + 11) + rm.locals ≤ R.locals) (hc : cells + rm.cells ≤ R.cells) (hs : slots + rm.slots ≤ R.slots)
    (k : ∀ (v : Option Value) (T' : State) (L : List Loc), Stand p l e R s m args below meth c T' (locs ++ L) (cells + rm.cells) (slots + rm.slots) → Q v T'.heap L → own_E p e below P (T'.setTop (mkF m (pc + 3) Ls (v.toList ++ rest)))) :
    own_E p e below P (T.setTop (mkF m pc Ls st)) := by
  obtain ⟨v, _, ⟨T', L', k', n'⟩, -, X', ⟨L, hQ, h1, h2, h3⟩, stp⟩ := X.specialBack hx hy1 hown (mvT hZ w1) (mvT hZ w2) (mvT hZ w4) hy (backOf (W := W) hM hZ w4 w3 hf hl) (g := mkF m pc Ls st) rfl hml (Steps.refl _) (a := a) (argsL := as) (rest := rest) (lenOf hpd hlen) hst hW hd (fun _ _ => ⟨rfl, hT, hc, hs⟩)
  dsimp only [Pt.U, Pt.locs, Pt.cells, Pt.slots] at X' h1 h2 h3 stp hQ
  subst h1 h2 h3
  exact own_t stp (k v T' L X' hQ)
theorem own_callV {y : MethodName} {bytes : ByteArray} {maxL : Nat} {ret : Option FieldType} {rm : Room} {own : String} {index : Nat} {a : Addr} {as : List Value} (X : Stand p l e R s m args below meth c T locs cells slots) (hx : p.tables.exec = Jvm.exec) (hZ : Z.Warmed39 s.vm) (hown : s.vm.findClass own = some m.cls) (hT : T.heap = h) (hM : own_Con l Z y bytes maxL ret [] rm (.ref a :: as).toArray h Q) (hE : Exa Z h a y.cls)
    (w1 : (Jvm.Cond.methodLink own index y).before a0 Z = true) (w2 : (Jvm.Cond.declares y).before a0 Z = true) (w5 : (Jvm.Cond.selects y.cls y y).before a0 Z = true) (w6 : (Jvm.Cond.instanceMethod y).before a0 Z = true) (w3 : (Jvm.Cond.initialized y.cls).before a0 Z = true) (w4 : (Jvm.Cond.code y bytes maxL ret).before a0 Z = true) (hy : y.cls ≠ "java/lang/invoke/MethodHandle" ∧ y.cls ≠ "java/lang/invoke/VarHandle") {ps : List FieldType} {r : Option FieldType} (hpd : parseMethodDescriptor y.desc = some ⟨ps, r⟩) (hlen : as.length = ps.length)
    {pc : Nat} {Ls : Array Slot} {st rest : List Value} (hml : Ls.size = c.maxLocals) (hst : st = as.reverse ++ .ref a :: rest) (hd : decode c.code pc = .ok (.invokevirtual index, 3)) (W : Nat) (hW : 2 * 0 + (rest.map fun v => v.category).sum ≤ W) (hf : rm.frames + 1 ≤ R.frames) (hl : W + (maxL + 11) + rm.locals ≤ R.locals) (hc : cells + rm.cells ≤ R.cells) (hs : slots + rm.slots ≤ R.slots)
    (k : ∀ (v : Option Value) (T' : State) (L : List Loc), Stand p l e R s m args below meth c T' (locs ++ L) (cells + rm.cells) (slots + rm.slots) → Q v T'.heap L → own_E p e below P (T'.setTop (mkF m (pc + 3) Ls (v.toList ++ rest)))) :
    own_E p e below P (T.setTop (mkF m pc Ls st)) := by
  obtain ⟨cq, kq, qa, qb, qc⟩ := isOf hZ hT hE
  obtain ⟨v, _, ⟨T', L', k', n'⟩, -, X', ⟨L, hQ, h1, h2, h3⟩, stp⟩ := X.virtualBack hx hown (mvT hZ w1) (mvT hZ w2) (notFace_of_selects (args := #[]) (mvT hZ w5)) (mvT hZ w5) (mvT hZ w6) hy (backOf (W := W) hM hZ w4 w3 hf hl) qa qc (g := mkF m pc Ls st) rfl hml (Steps.refl _) (argsL := as) (rest := rest) (lenOf hpd hlen) hst hW hd (fun _ _ => ⟨rfl, hT, hc, hs⟩)
  dsimp only [Pt.U, Pt.locs, Pt.cells, Pt.slots] at X' h1 h2 h3 stp hQ
  subst h1 h2 h3
  exact own_t stp (k v T' L X' hQ)
theorem own_callP {y : MethodName} {bytes : ByteArray} {maxL : Nat} {ret : Option FieldType} {rm : Room} {own : String} {index kn : Nat} {a : Addr} {as : List Value} (X : Stand p l e R s m args below meth c T locs cells slots) (hx : p.tables.exec = Jvm.exec) (hZ : Z.Warmed39 s.vm) (hown : s.vm.findClass own = some m.cls) (hT : T.heap = h) (hM : own_Con l Z y bytes maxL ret [] rm (.ref a :: as).toArray h Q) (hE : Exa Z h a y.cls)
    (w1 : (Jvm.Cond.methodLink own index y).before a0 Z = true) (w2 : (Jvm.Cond.instantiable y.cls kn).before a0 Z = true) (w5 : (Jvm.Cond.privateMethod y).before a0 Z = true) (w6 : (Jvm.Cond.instanceMethod y).before a0 Z = true) (w3 : (Jvm.Cond.initialized y.cls).before a0 Z = true) (w4 : (Jvm.Cond.code y bytes maxL ret).before a0 Z = true) (hy : y.cls ≠ "java/lang/invoke/MethodHandle" ∧ y.cls ≠ "java/lang/invoke/VarHandle") {ps : List FieldType} {r : Option FieldType} (hpd : parseMethodDescriptor y.desc = some ⟨ps, r⟩) (hlen : as.length = ps.length)
    {pc : Nat} {Ls : Array Slot} {st rest : List Value} (hml : Ls.size = c.maxLocals) (hst : st = as.reverse ++ .ref a :: rest) (hd : decode c.code pc = .ok (.invokevirtual index, 3)) (W : Nat) (hW : 2 * 0 + (rest.map fun v => v.category).sum ≤ W) (hf : rm.frames + 1 ≤ R.frames) (hl : W + (maxL + 11) + rm.locals ≤ R.locals) (hc : cells + rm.cells ≤ R.cells) (hs : slots + rm.slots ≤ R.slots)
    (k : ∀ (v : Option Value) (T' : State) (L : List Loc), Stand p l e R s m args below meth c T' (locs ++ L) (cells + rm.cells) (slots + rm.slots) → Q v T'.heap L → own_E p e below P (T'.setTop (mkF m (pc + 3) Ls (v.toList ++ rest)))) :
    own_E p e below P (T.setTop (mkF m pc Ls st)) := by
  obtain ⟨cq, hq, hq'⟩ := hE.cell
  have hi : (Jvm.Cond.instantiable y.cls kn).before args s = true := mvT hZ w2
  obtain ⟨ck, kk, hck, hkk, -, hniab, -, -⟩ := Cond.instantiable_spec hi
  have hpriv : s.PrivateAt y := Cond.privateMethod_at (mvP hZ w5 (args := #[]))
  have hins : (Jvm.Cond.instanceMethod y).before args s = true := mvT hZ w6
  have hsel : (Jvm.Cond.selects y.cls y y).before args s = true := selects_self_of_private hck hkk (Bool.or_eq_false_iff.mp hniab).1 hpriv hins hy
  obtain ⟨v, _, ⟨T', L', k', n'⟩, -, X', ⟨L, hQ, h1, h2, h3⟩, stp⟩ := X.privateBack hx hown (mvT hZ w1) hins hsel hpriv (mvT hZ w4) hy (backOf (W := W) hM hZ w4 w3 hf hl) (g := mkF m pc Ls st) rfl hml (Steps.refl _) (a := a) (cell := cq) (by rw [hT]; exact hq) hq' (argsL := as) (rest := rest) (lenOf hpd hlen) hst hW hd (fun _ _ => ⟨rfl, hT, hc, hs⟩)
  dsimp only [Pt.U, Pt.locs, Pt.cells, Pt.slots] at X' h1 h2 h3 stp hQ
  subst h1 h2 h3
  exact own_t stp (k v T' L X' hQ)
/-! arrays: a length and a function from places to values -/
def own_IA (Z : State) (h : Heap) (a : Addr) (ty : FieldType) (n : Nat) (f : Nat → Int32) : Prop := ∃ cl : Cell, Arr Z h a cl ty ∧ cl.slots.size = n ∧ ∀ i, i < n → cl.slots[i]? = some (.int (f i))
def own_JA (Z : State) (h : Heap) (a : Addr) (n : Nat) (f : Nat → Int64) : Prop := ∃ cl : Cell, Arr Z h a cl .long ∧ cl.slots.size = n ∧ ∀ i, i < n → cl.slots[i]? = some (.long (f i))
def own_set {α : Type} (f : Nat → α) (i : Nat) (v : α) : Nat → α := fun q => if q = i then v else f q
theorem own_set_same {α : Type} (f : Nat → α) (i : Nat) (v : α) : own_set f i v i = v := by simp [own_set]
theorem own_set_other {α : Type} (f : Nat → α) {i q : Nat} (v : α) (hq : q ≠ i) : own_set f i v q = f q := by simp [own_set, hq]
variable {a b : Addr} {ty : FieldType} {n : Nat} {f : Nat → Int32} {fJ : Nat → Int64} {ws : List Addr} {sl : Nat} {v : Value}
theorem own_IA.lt (F : own_IA Z h a ty n f) : a < h.size := by obtain ⟨cl, A, -⟩ := F; exact A.lt
theorem own_JA.lt (F : own_JA Z h a n fJ) : a < h.size := by obtain ⟨cl, A, -⟩ := F; exact A.lt
theorem own_IA.ext (F : own_IA Z h a ty n f) (E : Ext h h') : own_IA Z h' a ty n f := by obtain ⟨cl, A, r⟩ := F; exact ⟨cl, A.ext E, r⟩
theorem own_JA.ext (F : own_JA Z h a n fJ) (E : Ext h h') : own_JA Z h' a n fJ := by obtain ⟨cl, A, r⟩ := F; exact ⟨cl, A.ext E, r⟩
theorem own_IA.other (F : own_IA Z h b ty n f) (W : Wr h h' a sl v) (q : b ≠ a) : own_IA Z h' b ty n f := by obtain ⟨cl, A, r⟩ := F; exact ⟨cl, A.other W q, r⟩
theorem own_JA.other (F : own_JA Z h b n fJ) (W : Wr h h' a sl v) (q : b ≠ a) : own_JA Z h' b n fJ := by obtain ⟨cl, A, r⟩ := F; exact ⟨cl, A.other W q, r⟩
theorem own_IA.keep (F : own_IA Z h a ty n f) (K : Keep h h' ws) (q : a ∉ ws) : own_IA Z h' a ty n f := by obtain ⟨cl, A, r⟩ := F; exact ⟨cl, ⟨K.2.1 a cl A.1 q, A.2⟩, r⟩
theorem own_JA.keep (F : own_JA Z h a n fJ) (K : Keep h h' ws) (q : a ∉ ws) : own_JA Z h' a n fJ := by obtain ⟨cl, A, r⟩ := F; exact ⟨cl, ⟨K.2.1 a cl A.1 q, A.2⟩, r⟩
theorem own_IA.congr {f' : Nat → Int32} (F : own_IA Z h a ty n f) (q : ∀ i, i < n → f i = f' i) : own_IA Z h a ty n f' := by obtain ⟨cl, A, S, H⟩ := F; exact ⟨cl, A, S, fun i hi => by rw [← q i hi]; exact H i hi⟩
theorem own_JA.congr {f' : Nat → Int64} (F : own_JA Z h a n fJ) (q : ∀ i, i < n → fJ i = f' i) : own_JA Z h a n f' := by obtain ⟨cl, A, S, H⟩ := F; exact ⟨cl, A, S, fun i hi => by rw [← q i hi]; exact H i hi⟩
theorem own_ins {cl : Cell} {j : Int32} {i : Nat} (S : cl.slots.size = n) (hj : ¬ j < 0) (hi : j.toNatClampNeg = i) (hin : i < n) : ¬ (j < 0 ∨ cl.slots.size ≤ j.toNatClampNeg) := by
  rintro (q | q)
  · exact hj q
  · rw [S, hi] at q; omega
theorem own_setI {cl : Cell} {i : Nat} {x : Int32} (W : Wr h h' a i (.int x)) (A : Arr Z h a cl ty) (S : cl.slots.size = n) (H : ∀ q, q < n → cl.slots[q]? = some (.int (f q))) : own_IA Z h' a ty n (own_set f i x) := by
  refine ⟨_, A.same W, by rw [sz_set]; exact S, fun q hq => ?_⟩
  by_cases u : q = i
  · subst u; simp [Cell.setSlot, own_set, S, hq]
  · rw [own_set_other _ _ u, ← H q hq]; exact Array.getElem?_setIfInBounds_ne (Ne.symm u)
theorem own_setJ {cl : Cell} {i : Nat} {x : Int64} (W : Wr h h' a i (.long x)) (A : Arr Z h a cl .long) (S : cl.slots.size = n) (H : ∀ q, q < n → cl.slots[q]? = some (.long (fJ q))) : own_JA Z h' a n (own_set fJ i x) := by
  refine ⟨_, A.same W, by rw [sz_set]; exact S, fun q hq => ?_⟩
  by_cases u : q = i
  · subst u; simp [Cell.setSlot, own_set, S, hq]
  · rw [own_set_other _ _ u, ← H q hq]; exact Array.getElem?_setIfInBounds_ne (Ne.symm u)
theorem own_newI (X : Stand p l e R s m args below meth c T locs cells slots) (hx : p.tables.exec = Jvm.exec) (hZ : Z.Warmed39 s.vm) (hT : T.heap = h) {aty : ArrayType} (w : (Jvm.Cond.arrayClass (newarray.typeOf aty)).before a0 Z = true) (hdv : defaultValue (newarray.typeOf aty) = .int 0) {pc : Nat} {Ls : Array Slot} {rest : List Value} {z : Int32} (hd : decode c.code pc = .ok (.newarray aty, 2)) (hz : ¬ z < 0) (hzn : z.toNatClampNeg = n) (cap : Nat) (hcap : n ≤ cap) (hb : cap * 8 ≤ 536870912) (hc : cells + 1 ≤ R.cells) (hl : slots + cap ≤ R.slots)
    (k : ∀ (T' : State) (h' : Heap) (a : Addr), a = h.size → Stand p l e R s m args below meth c T' locs (cells + 1) (slots + cap) → T'.heap = h' → Ext h h' → own_IA Z h' a (newarray.typeOf aty) n (fun _ => 0) → own_E p e below P (T'.setTop (mkF m (pc + 2) Ls (.ref a :: rest)))) :
    own_E p e below P (T.setTop (mkF m pc Ls (.int z :: rest))) := by
  obtain ⟨T', h', cA, X', e', E, A, st⟩ := newP X hx hZ w hT (g := mkF m pc Ls (.int z :: rest)) rfl hd rfl hz (cap := cap) (by rw [hzn]; exact hcap) hb hc hl
  refine own_s st (k T' h' _ rfl X' e' E ⟨_, A, by rw [sz_new, hzn], fun i hi => ?_⟩)
  simp [newA, hzn, hi, hdv]
theorem own_newJ (X : Stand p l e R s m args below meth c T locs cells slots) (hx : p.tables.exec = Jvm.exec) (hZ : Z.Warmed39 s.vm) (hT : T.heap = h) (w : (Jvm.Cond.arrayClass .long).before a0 Z = true) {pc : Nat} {Ls : Array Slot} {rest : List Value} {z : Int32} (hd : decode c.code pc = .ok (.newarray .long, 2)) (hz : ¬ z < 0) (hzn : z.toNatClampNeg = n) (cap : Nat) (hcap : n ≤ cap) (hb : cap * 8 ≤ 536870912) (hc : cells + 1 ≤ R.cells) (hl : slots + cap ≤ R.slots)
    (k : ∀ (T' : State) (h' : Heap) (a : Addr), a = h.size → Stand p l e R s m args below meth c T' locs (cells + 1) (slots + cap) → T'.heap = h' → Ext h h' → own_JA Z h' a n (fun _ => 0) → own_E p e below P (T'.setTop (mkF m (pc + 2) Ls (.ref a :: rest)))) :
    own_E p e below P (T.setTop (mkF m pc Ls (.int z :: rest))) := by
  obtain ⟨T', h', cA, X', e', E, A, st⟩ := newP X hx hZ (aty := .long) w hT (g := mkF m pc Ls (.int z :: rest)) rfl hd rfl hz (cap := cap) (by rw [hzn]; exact hcap) hb hc hl
  refine own_s st (k T' h' _ rfl X' e' E ⟨_, A, by rw [sz_new, hzn], fun i hi => ?_⟩)
  simp [newA, hzn, hi, newarray.typeOf, defaultValue]
theorem own_lenI (X : Stand p l e R s m args below meth c T locs cells slots) (hx : p.tables.exec = Jvm.exec) (hZ : Z.Warmed39 s.vm) (hT : T.heap = h) (F : own_IA Z h a ty n f) {pc : Nat} {Ls : Array Slot} {rest : List Value} (hd : decode c.code pc = .ok (.arraylength, 1)) {z : Int32} (hz : n.toInt32 = z) (k : own_E p e below P (T.setTop (mkF m (pc + 1) Ls (.int z :: rest)))) :
    own_E p e below P (T.setTop (mkF m pc Ls (.ref a :: rest))) := by
  obtain ⟨cl, A, S, H⟩ := F
  exact own_s (X.arraylength hx (cell := cl) (by rw [hT]; exact A.1) (State.isArrayOf_alike hZ.alike A.2.1) (g := mkF m pc Ls (.ref a :: rest)) rfl (rest := rest) rfl hd) (by rw [S, hz]; exact k)
theorem own_lenJ (X : Stand p l e R s m args below meth c T locs cells slots) (hx : p.tables.exec = Jvm.exec) (hZ : Z.Warmed39 s.vm) (hT : T.heap = h) (F : own_JA Z h a n fJ) {pc : Nat} {Ls : Array Slot} {rest : List Value} (hd : decode c.code pc = .ok (.arraylength, 1)) {z : Int32} (hz : n.toInt32 = z) (k : own_E p e below P (T.setTop (mkF m (pc + 1) Ls (.int z :: rest)))) :
    own_E p e below P (T.setTop (mkF m pc Ls (.ref a :: rest))) := by
  obtain ⟨cl, A, S, H⟩ := F
  exact own_s (X.arraylength hx (cell := cl) (by rw [hT]; exact A.1) (State.isArrayOf_alike hZ.alike A.2.1) (g := mkF m pc Ls (.ref a :: rest)) rfl (rest := rest) rfl hd) (by rw [S, hz]; exact k)
theorem own_ildI (X : Stand p l e R s m args below meth c T locs cells slots) (hx : p.tables.exec = Jvm.exec) (hZ : Z.Warmed39 s.vm) (hT : T.heap = h) (F : own_IA Z h a .int n f) {pc i : Nat} {Ls : Array Slot} {rest : List Value} {j x : Int32} (hd : decode c.code pc = .ok (.iaload, 1)) (hj : ¬ j < 0) (hi : j.toNatClampNeg = i) (hin : i < n) (hv : f i = x) (k : own_E p e below P (T.setTop (mkF m (pc + 1) Ls (.int x :: rest)))) :
    own_E p e below P (T.setTop (mkF m pc Ls (.int j :: .ref a :: rest))) := by
  obtain ⟨cl, A, S, H⟩ := F
  subst hv
  exact own_s (X.iaload hx (j := j) (v := .int (f i)) (by rw [hT]; exact A.1) (State.isArrayOf_alike hZ.alike A.2.1) A.2.2 (own_ins S hj hi hin) (by rw [hi]; exact H i hin) (g := mkF m pc Ls (.int j :: .ref a :: rest)) rfl rfl hd) k
theorem own_ildB (X : Stand p l e R s m args below meth c T locs cells slots) (hx : p.tables.exec = Jvm.exec) (hZ : Z.Warmed39 s.vm) (hT : T.heap = h) (F : own_IA Z h a .byte n f) {pc i : Nat} {Ls : Array Slot} {rest : List Value} {j x : Int32} (hd : decode c.code pc = .ok (.baload, 1)) (hj : ¬ j < 0) (hi : j.toNatClampNeg = i) (hin : i < n) (hv : f i = x) (k : own_E p e below P (T.setTop (mkF m (pc + 1) Ls (.int x :: rest)))) :
    own_E p e below P (T.setTop (mkF m pc Ls (.int j :: .ref a :: rest))) := by
  obtain ⟨cl, A, S, H⟩ := F
  subst hv
  exact own_s (X.baloadBytes hx (j := j) (v := .int (f i)) (by rw [hT]; exact A.1) (State.isArrayOf_alike hZ.alike A.2.1) A.2.2 (own_ins S hj hi hin) (by rw [hi]; exact H i hin) (g := mkF m pc Ls (.int j :: .ref a :: rest)) rfl rfl hd) k
theorem own_ildZ (X : Stand p l e R s m args below meth c T locs cells slots) (hx : p.tables.exec = Jvm.exec) (hZ : Z.Warmed39 s.vm) (hT : T.heap = h) (F : own_IA Z h a .boolean n f) {pc i : Nat} {Ls : Array Slot} {rest : List Value} {j x : Int32} (hd : decode c.code pc = .ok (.baload, 1)) (hj : ¬ j < 0) (hi : j.toNatClampNeg = i) (hin : i < n) (hv : f i = x) (k : own_E p e below P (T.setTop (mkF m (pc + 1) Ls (.int x :: rest)))) :
    own_E p e below P (T.setTop (mkF m pc Ls (.int j :: .ref a :: rest))) := by
  obtain ⟨cl, A, S, H⟩ := F
  subst hv
  exact own_s (X.baloadBooleans hx (j := j) (v := .int (f i)) (by rw [hT]; exact A.1) (State.isArrayOf_alike hZ.alike A.2.1) A.2.2 (own_ins S hj hi hin) (by rw [hi]; exact H i hin) (g := mkF m pc Ls (.int j :: .ref a :: rest)) rfl rfl hd) k
theorem own_ildJ (X : Stand p l e R s m args below meth c T locs cells slots) (hx : p.tables.exec = Jvm.exec) (hZ : Z.Warmed39 s.vm) (hT : T.heap = h) (F : own_JA Z h a n fJ) {pc i : Nat} {Ls : Array Slot} {rest : List Value} {j : Int32} {x : Int64} (hd : decode c.code pc = .ok (.laload, 1)) (hj : ¬ j < 0) (hi : j.toNatClampNeg = i) (hin : i < n) (hv : fJ i = x) (k : own_E p e below P (T.setTop (mkF m (pc + 1) Ls (.long x :: rest)))) :
    own_E p e below P (T.setTop (mkF m pc Ls (.int j :: .ref a :: rest))) := by
  obtain ⟨cl, A, S, H⟩ := F
  subst hv
  exact own_s (X.laload hx (j := j) (v := .long (fJ i)) (by rw [hT]; exact A.1) (State.isArrayOf_alike hZ.alike A.2.1) A.2.2 (own_ins S hj hi hin) (by rw [hi]; exact H i hin) (g := mkF m pc Ls (.int j :: .ref a :: rest)) rfl rfl hd) k
theorem own_stI (X : Stand p l e R s m args below meth c T locs cells slots) (hx : p.tables.exec = Jvm.exec) (hZ : Z.Warmed39 s.vm) (hT : T.heap = h) (F : own_IA Z h a .int n f) {pc i : Nat} {Ls : Array Slot} {rest : List Value} {j x : Int32} (hd : decode c.code pc = .ok (.iastore, 1)) (hj : ¬ j < 0) (hi : j.toNatClampNeg = i) (hin : i < n)
    (k : ∀ (T' : State) (h' : Heap), Stand p l e R s m args below meth c T' (locs ++ [⟨a, i⟩]) cells slots → T'.heap = h' → Wr h h' a i (.int x) → own_IA Z h' a .int n (own_set f i x) → own_E p e below P (T'.setTop (mkF m (pc + 1) Ls rest))) :
    own_E p e below P (T.setTop (mkF m pc Ls (.int x :: .int j :: .ref a :: rest))) := by
  obtain ⟨cl, A, S, H⟩ := F
  obtain ⟨T', h', X', e', W, st⟩ := stI X hx hZ hT A (j := j) (own_ins S hj hi hin) (g := mkF m pc Ls (.int x :: .int j :: .ref a :: rest)) rfl rfl hd
  subst hi
  exact own_s st (k T' h' X' e' W (own_setI W A S H))
theorem own_stB (X : Stand p l e R s m args below meth c T locs cells slots) (hx : p.tables.exec = Jvm.exec) (hZ : Z.Warmed39 s.vm) (hT : T.heap = h) (F : own_IA Z h a .byte n f) {pc i : Nat} {Ls : Array Slot} {rest : List Value} {j x : Int32} (hd : decode c.code pc = .ok (.bastore, 1)) (hj : ¬ j < 0) (hi : j.toNatClampNeg = i) (hin : i < n)
    (k : ∀ (T' : State) (h' : Heap), Stand p l e R s m args below meth c T' (locs ++ [⟨a, i⟩]) cells slots → T'.heap = h' → Wr h h' a i (.int (nar .byte x)) → own_IA Z h' a .byte n (own_set f i (nar .byte x)) → own_E p e below P (T'.setTop (mkF m (pc + 1) Ls rest))) :
    own_E p e below P (T.setTop (mkF m pc Ls (.int x :: .int j :: .ref a :: rest))) := by
  obtain ⟨cl, A, S, H⟩ := F
  obtain ⟨T', h', X', e', W, st⟩ := stB X hx hZ hT A (j := j) (own_ins S hj hi hin) (g := mkF m pc Ls (.int x :: .int j :: .ref a :: rest)) rfl rfl hd
  subst hi
  exact own_s st (k T' h' X' e' W (own_setI W A S H))
theorem own_stZ (X : Stand p l e R s m args below meth c T locs cells slots) (hx : p.tables.exec = Jvm.exec) (hZ : Z.Warmed39 s.vm) (hT : T.heap = h) (F : own_IA Z h a .boolean n f) {pc i : Nat} {Ls : Array Slot} {rest : List Value} {j x : Int32} (hd : decode c.code pc = .ok (.bastore, 1)) (hj : ¬ j < 0) (hi : j.toNatClampNeg = i) (hin : i < n)
    (k : ∀ (T' : State) (h' : Heap), Stand p l e R s m args below meth c T' (locs ++ [⟨a, i⟩]) cells slots → T'.heap = h' → Wr h h' a i (.int (nar .boolean x)) → own_IA Z h' a .boolean n (own_set f i (nar .boolean x)) → own_E p e below P (T'.setTop (mkF m (pc + 1) Ls rest))) :
    own_E p e below P (T.setTop (mkF m pc Ls (.int x :: .int j :: .ref a :: rest))) := by
  obtain ⟨cl, A, S, H⟩ := F
  obtain ⟨T', h', X', e', W, st⟩ := stZ X hx hZ hT A (j := j) (own_ins S hj hi hin) (g := mkF m pc Ls (.int x :: .int j :: .ref a :: rest)) rfl rfl hd
  subst hi
  exact own_s st (k T' h' X' e' W (own_setI W A S H))
theorem own_stJ (X : Stand p l e R s m args below meth c T locs cells slots) (hx : p.tables.exec = Jvm.exec) (hZ : Z.Warmed39 s.vm) (hT : T.heap = h) (F : own_JA Z h a n fJ) {pc i : Nat} {Ls : Array Slot} {rest : List Value} {j : Int32} {x : Int64} (hd : decode c.code pc = .ok (.lastore, 1)) (hj : ¬ j < 0) (hi : j.toNatClampNeg = i) (hin : i < n)
    (k : ∀ (T' : State) (h' : Heap), Stand p l e R s m args below meth c T' (locs ++ [⟨a, i⟩]) cells slots → T'.heap = h' → Wr h h' a i (.long x) → own_JA Z h' a n (own_set fJ i x) → own_E p e below P (T'.setTop (mkF m (pc + 1) Ls rest))) :
    own_E p e below P (T.setTop (mkF m pc Ls (.long x :: .int j :: .ref a :: rest))) := by
  obtain ⟨cl, A, S, H⟩ := F
  obtain ⟨T', h', X', e', W, st⟩ := stJ X hx hZ hT A (j := j) (own_ins S hj hi hin) (g := mkF m pc Ls (.long x :: .int j :: .ref a :: rest)) rfl rfl hd
  subst hi
  exact own_s st (k T' h' X' e' W (own_setJ W A S H))
theorem own_fr {k : Nat} {L : List Loc} {i : Nat} (N : Fr k L) (g : k ≤ a) : Fr k (L ++ [⟨a, i⟩]) := N.app fun y hy => by cases List.mem_singleton.mp hy; exact g
/-! longs compared -/
theorem own_lcT {x y : Int64} (q : x = y) : lcmpW x y = 0 := (lw_eq x y).mpr q
theorem own_lcF {x y : Int64} (q : ¬ x = y) : ¬ lcmpW x y = 0 := fun r => q ((lw_eq x y).mp r)
theorem own_llT {x y : Int64} (q : x < y) : lcmpW x y < 0 := (lw_lt x y).mpr q
theorem own_llF {x y : Int64} (q : ¬ x < y) : ¬ lcmpW x y < 0 := fun r => q ((lw_lt x y).mp r)
theorem own_lgT {x y : Int64} (q : y < x) : 0 < lcmpW x y := (lw_gt x y).mpr q
theorem own_lgF {x y : Int64} (q : ¬ y < x) : ¬ 0 < lcmpW x y := fun r => q ((lw_gt x y).mp r)
end Own
/-! ### small numbers -/
theorem own_mask (x : Int32) (M : Nat) (hM : M < 2 ^ 31) : ∃ n : Nat, n ≤ M ∧ (x &&& Int32.ofNat M) = Int32.ofNat n := by
  refine ⟨(x &&& Int32.ofNat M).toBitVec.toNat, ?_, ?_⟩
  · rw [Int32.toBitVec_and, BitVec.toNat_and, show (Int32.ofNat M).toBitVec = BitVec.ofNat 32 M from rfl, BitVec.toNat_ofNat, Nat.mod_eq_of_lt (by omega)]
    exact Nat.and_le_right
  · apply Int32.toBitVec_inj.mp
    show _ = BitVec.ofNat 32 _
    rw [BitVec.ofNat_toNat]; simp
theorem own_mod {n k : Nat} (hn : n < 2 ^ 31) (hk : k < 2 ^ 31) : Int32.ofNat n % Int32.ofNat k = Int32.ofNat (n % k) := by
  apply Int32.toInt_inj.mp
  have h1 : n % k ≤ n := Nat.mod_le _ _
  rw [Int32.toInt_mod, Int32.toInt_ofNat_of_lt (by omega), Int32.toInt_ofNat_of_lt (by omega), Int32.toInt_ofNat_of_lt (by omega)]
  exact (Int.ofNat_tmod n k).symm
theorem own_ushr (x : Int32) (s : UInt32) (hs : 0 < s.toNat % 32) : ∃ n : Nat, n < 2 ^ 31 ∧ (x.toUInt32 >>> s).toInt32 = Int32.ofNat n := by
  refine ⟨(x.toUInt32 >>> s).toNat, ?_, ?_⟩
  · rw [UInt32.toNat_shiftRight, Nat.shiftRight_eq_div_pow]
    have := x.toUInt32.toNat_lt
    have h2 : 2 ^ 1 ≤ 2 ^ (s.toNat % 32) := Nat.pow_le_pow_right (by decide) hs
    exact Nat.div_lt_of_lt_mul (by have := Nat.mul_le_mul_right (2 ^ 31) h2; omega)
  · apply Int32.toBitVec_inj.mp
    show (x.toUInt32 >>> s).toBitVec = BitVec.ofNat 32 _
    rw [show (x.toUInt32 >>> s).toNat = (x.toUInt32 >>> s).toBitVec.toNat from rfl, BitVec.ofNat_toNat]; simp
theorem own_nat32 {i : Nat} (h : i < 2 ^ 31) : ¬ Int32.ofNat i < 0 ∧ (Int32.ofNat i).toNatClampNeg = i := by
  rw [Int32.lt_iff_toInt_lt, Int32.toNatClampNeg, Int32.toInt_ofNat_of_lt (by omega)]
  refine ⟨?_, rfl⟩
  show ¬ ((i : Nat) : Int) < 0
  omega
theorem own_offN (x : Int32) (N : Nat) (h0 : 0 < N) (hN : N < 2 ^ 31) : ∃ i : Nat, i < N ∧ ((x &&& (2147483647 : Int32)) % Int32.ofNat N) = Int32.ofNat i := by
  obtain ⟨n, hn, e⟩ := own_mask x 2147483647 (by decide)
  refine ⟨n % N, Nat.mod_lt _ h0, ?_⟩
  rw [show (2147483647 : Int32) = Int32.ofNat 2147483647 from rfl, e, own_mod (by omega) hN]

theorem own_nn {i : Nat} (h : i < 1000) : ¬ Int32.ofNat i < 0 ∧ (Int32.ofNat i).toNatClampNeg = i := by
  rw [Int32.lt_iff_toInt_lt, Int32.toNatClampNeg, Int32.toInt_ofNat_of_lt (by omega)]
  refine ⟨?_, rfl⟩
  show ¬ ((i : Nat) : Int) < 0
  omega
theorem own_lt {i n : Nat} (h : i < n) (hn : n ≤ 255) : Int32.ofNat i < Int32.ofNat n := by
  rw [Int32.lt_iff_toInt_lt, Int32.toInt_ofNat_of_lt (by omega), Int32.toInt_ofNat_of_lt (by omega)]
  omega
theorem own_one (i : Nat) : Int32.ofNat i + (1 : Int32) = Int32.ofNat (i + 1) := (Int32.ofNat_add i 1).symm
def own_max (a b : Int32) : Int32 := if a < b then b else a
/-- a player: none, or one of three -/
def own_dom (z : Int32) : Prop := z = -1 ∨ z = 0 ∨ z = 1 ∨ z = 2
theorem own_domN {z : Int32} (h : own_dom z) (hn : ¬ z < 0) : z.toNatClampNeg < 3 := by
  rcases h with rfl | rfl | rfl | rfl
  · exact absurd (by decide) hn
  all_goals decide
/-- who wins of two -/
def own_mt (fo fc : Nat → Int32) (l r : Int32) : Int32 :=
  if r < 0 then l else if ¬ fo r.toNatClampNeg = 0 then l else if l < 0 then r else if ¬ fo l.toNatClampNeg = 0 then r else if fc r.toNatClampNeg < fc l.toNatClampNeg then r else l
theorem own_mt_or (fo fc : Nat → Int32) (l r : Int32) : own_mt fo fc l r = l ∨ own_mt fo fc l r = r := by
  unfold own_mt; repeat' split
  all_goals first | exact Or.inl rfl | exact Or.inr rfl
theorem own_mt_dom {fo fc : Nat → Int32} {l r : Int32} (hl : own_dom l) (hr : own_dom r) : own_dom (own_mt fo fc l r) := by
  rcases own_mt_or fo fc l r with q | q <;> rw [q] <;> assumption
/-- what the winners' table says -/
def own_W (fo fc fw : Nat → Int32) : Prop := fw 4 = 0 ∧ fw 5 = 1 ∧ fw 6 = 2 ∧ fw 7 = -1 ∧ fw 3 = 2 ∧ fw 2 = own_mt fo fc 0 1 ∧ fw 1 = own_mt fo fc (own_mt fo fc 0 1) 2
theorem own_mt01 {fo fc fo' fc' : Nat → Int32} (h0 : fo 0 = fo' 0) (h1 : fo 1 = fo' 1) (h2 : fc 0 = fc' 0) (h3 : fc 1 = fc' 1) : own_mt fo fc 0 1 = own_mt fo' fc' 0 1 := by
  have e0 : (0 : Int32).toNatClampNeg = 0 := rfl
  have e1 : (1 : Int32).toNatClampNeg = 1 := rfl
  simp only [own_mt, e0, e1, h0, h1, h2, h3]
def own_ls (fo fw : Nat → Int32) : Int32 := if fw 1 < 0 then -1 else if fo (fw 1).toNatClampNeg = 0 then fw 1 else -1
/-- the object and its three arrays -/
def own_S (Z : State) (h : Heap) (n0 : Nat) (a cb zb wb : Addr) (fc fo fw : Nat → Int32) : Prop := Exa Z h a "com/example/horncast/horncast/query/LeastCount" ∧ Fld Z h a "com/example/horncast/horncast/query/LeastCount" "firstLeaf" "I" (.int (4 : Int32)) ∧ Fld Z h a "com/example/horncast/horncast/query/LeastCount" "count" "[I" (.ref cb) ∧ Fld Z h a "com/example/horncast/horncast/query/LeastCount" "out" "[Z" (.ref zb) ∧ Fld Z h a "com/example/horncast/horncast/query/LeastCount" "winner" "[I" (.ref wb) ∧ own_IA Z h cb .int 3 fc ∧ own_IA Z h zb .boolean 3 fo ∧ own_IA Z h wb .int 8 fw ∧ n0 ≤ cb ∧ n0 ≤ zb ∧ n0 ≤ wb ∧ a ≠ cb ∧ a ≠ zb ∧ a ≠ wb ∧ cb ≠ zb ∧ cb ≠ wb ∧ zb ≠ wb
theorem own_b01 {b : Int32} (h : b = 0 ∨ b = 1) : nar .boolean b = b := by rcases h with rfl | rfl <;> decide
theorem own_three (x : Int32) : ((x.toUInt32 >>> ((4 : Int32) &&& 31).toUInt32).toInt32 % (3 : Int32)) = 0 ∨ ((x.toUInt32 >>> ((4 : Int32) &&& 31).toUInt32).toInt32 % (3 : Int32)) = 1 ∨ ((x.toUInt32 >>> ((4 : Int32) &&& 31).toUInt32).toInt32 % (3 : Int32)) = 2 := by
  obtain ⟨n, hn, e⟩ := own_ushr x ((4 : Int32) &&& 31).toUInt32 (by decide)
  rw [e, show (3 : Int32) = Int32.ofNat 3 from rfl, own_mod hn (by decide)]
  have : n % 3 = 0 ∨ n % 3 = 1 ∨ n % 3 = 2 := by omega
  rcases this with q | q | q <;> rw [q] <;> decide
theorem od_j29_65_0 : decode jdk_29_method_65_code 0 = .ok (.iload_n 0, 1) := by decide +kernel
theorem od_j29_65_1 : decode jdk_29_method_65_code 1 = .ok (.iload_n 1, 1) := by decide +kernel
theorem od_j29_65_2 : decode jdk_29_method_65_code 2 = .ok (.if_icmp .lt 7, 3) := by decide +kernel
theorem od_j29_65_9 : decode jdk_29_method_65_code 9 = .ok (.iload_n 1, 1) := by decide +kernel
theorem od_j29_65_10 : decode jdk_29_method_65_code 10 = .ok (.ireturn, 1) := by decide +kernel
theorem od_j29_65_5 : decode jdk_29_method_65_code 5 = .ok (.iload_n 0, 1) := by decide +kernel
theorem od_j29_65_6 : decode jdk_29_method_65_code 6 = .ok (.goto 4, 3) := by decide +kernel
set_option maxRecDepth 65536 in
set_option maxHeartbeats 40000000 in
theorem own_c_max (l : Launch) (Z : State) (a0 : Array Value) (hw : ∀ d ∈ tables_1, d.before a0 Z = true) (x0 : Int32) (x1 : Int32) (h0 : Heap) :
    own_Con l Z (⟨"java/lang/Math", "max", "(II)I"⟩ : MethodName) jdk_29_method_65_code 2 (some .int) [] ({ frames := 0, cells := 0, slots := 0, locals := 0 } : Room) #[(.int x0), (.int x1)] h0 (fun v h L => v = some (.int (own_max x0 x1)) ∧ L = [] ∧ h = h0) := by
  refine own_enter (Jvm.Free.JP.mathPlain rfl (by decide +kernel)) ?_
  intro p e s m below meth c s₁ X0 e0 hx hZ hby hml hown hnm hret hlk
  refine own_cast (g' := (mkF m 0 #[.val (.int x0), .val (.int x1)] [])) (by first | (simp [entryFrame, mkF, argsToLocals, Value.category]; done) | rfl) ?_
  refine own_g (mkF m 1 #[.val (.int x0), .val (.int x1)] [(.int x0)]) (fun _ kz => XS.iloadN X0.here hx rfl (hb hby od_j29_65_0) rfl kz) ?_
  refine own_g (mkF m 2 #[.val (.int x0), .val (.int x1)] [(.int x1), (.int x0)]) (fun _ kz => XS.iloadN X0.here hx rfl (hb hby od_j29_65_1) rfl kz) ?_
  by_cases hc2_1 : x0 < x1
  · refine own_g (mkF m 9 #[.val (.int x0), .val (.int x1)] []) (fun _ kz => XS.icmpYes X0.here hx rfl (pc0 := 2) (pc' := 9) rfl (hb hby od_j29_65_2) rfl (tlt hc2_1).1 (by decide) (by decide) kz) ?_
    refine own_g (mkF m 10 #[.val (.int x0), .val (.int x1)] [(.int x1)]) (fun _ kz => XS.iloadN X0.here hx rfl (hb hby od_j29_65_9) rfl kz) ?_
    exact own_retI X0 hx hret hlk (hb hby od_j29_65_10) (by decide) (by decide) (by first | exact ⟨by simp [own_max, hc2_1], rfl, rfl⟩ | (rw [e0]; exact ⟨by simp [own_max, hc2_1], rfl, rfl⟩))
  · refine own_g (mkF m 5 #[.val (.int x0), .val (.int x1)] []) (fun _ kz => XS.icmpNo X0.here hx rfl (hb hby od_j29_65_2) rfl (flt hc2_1).1 kz) ?_
    refine own_g (mkF m 6 #[.val (.int x0), .val (.int x1)] [(.int x0)]) (fun _ kz => XS.iloadN X0.here hx rfl (hb hby od_j29_65_5) rfl kz) ?_
    refine own_g (mkF m 10 #[.val (.int x0), .val (.int x1)] [(.int x0)]) (fun _ kz => XS.goto X0.here hx rfl (pc0 := 6) (pc' := 10) rfl (hb hby od_j29_65_6) (by decide) (by decide) kz) ?_
    exact own_retI X0 hx hret hlk (hb hby od_j29_65_10) (by decide) (by decide) (by first | exact ⟨by simp [own_max, hc2_1], rfl, rfl⟩ | (rw [e0]; exact ⟨by simp [own_max, hc2_1], rfl, rfl⟩))
theorem own_pn0 : plainName "java/lang/Integer" = true := by first | (simp [plainName, overriddenIn]; done) | decide +kernel
theorem od_j33_47_0 : decode jdk_33_method_47_code 0 = .ok (.iload_n 0, 1) := by decide +kernel
theorem od_j33_47_1 : decode jdk_33_method_47_code 1 = .ok (.ifCond .gt 14, 3) := by decide +kernel
theorem od_j33_47_15 : decode jdk_33_method_47_code 15 = .ok (.bipush 31, 2) := by decide +kernel
theorem od_j33_47_17 : decode jdk_33_method_47_code 17 = .ok (.istore_n 1, 1) := by decide +kernel
theorem od_j33_47_18 : decode jdk_33_method_47_code 18 = .ok (.iload_n 0, 1) := by decide +kernel
theorem od_j33_47_19 : decode jdk_33_method_47_code 19 = .ok (.ldc_w 264, 3) := by decide +kernel
theorem od_j33_47_22 : decode jdk_33_method_47_code 22 = .ok (.if_icmp .lt 11, 3) := by decide +kernel
theorem od_j33_47_33 : decode jdk_33_method_47_code 33 = .ok (.iload_n 0, 1) := by decide +kernel
theorem od_j33_47_34 : decode jdk_33_method_47_code 34 = .ok (.sipush 256, 3) := by decide +kernel
theorem od_j33_47_37 : decode jdk_33_method_47_code 37 = .ok (.if_icmp .lt 11, 3) := by decide +kernel
theorem od_j33_47_48 : decode jdk_33_method_47_code 48 = .ok (.iload_n 0, 1) := by decide +kernel
theorem od_j33_47_49 : decode jdk_33_method_47_code 49 = .ok (.bipush 16, 2) := by decide +kernel
theorem od_j33_47_51 : decode jdk_33_method_47_code 51 = .ok (.if_icmp .lt 10, 3) := by decide +kernel
theorem od_j33_47_61 : decode jdk_33_method_47_code 61 = .ok (.iload_n 0, 1) := by decide +kernel
theorem od_j33_47_62 : decode jdk_33_method_47_code 62 = .ok (.iconst 4, 1) := by decide +kernel
theorem od_j33_47_63 : decode jdk_33_method_47_code 63 = .ok (.if_icmp .lt 10, 3) := by decide +kernel
theorem od_j33_47_73 : decode jdk_33_method_47_code 73 = .ok (.iload_n 1, 1) := by decide +kernel
theorem od_j33_47_74 : decode jdk_33_method_47_code 74 = .ok (.iload_n 0, 1) := by decide +kernel
theorem od_j33_47_75 : decode jdk_33_method_47_code 75 = .ok (.iconst 1, 1) := by decide +kernel
theorem od_j33_47_76 : decode jdk_33_method_47_code 76 = .ok (.iushr, 1) := by decide +kernel
theorem od_j33_47_77 : decode jdk_33_method_47_code 77 = .ok (.isub, 1) := by decide +kernel
theorem od_j33_47_78 : decode jdk_33_method_47_code 78 = .ok (.ireturn, 1) := by decide +kernel
set_option maxRecDepth 65536 in
set_option maxHeartbeats 40000000 in
theorem own_c_nlz (l : Launch) (Z : State) (a0 : Array Value) (hw : ∀ d ∈ tables_1, d.before a0 Z = true) (h0 : Heap) :
    own_Con l Z (⟨"java/lang/Integer", "numberOfLeadingZeros", "(I)I"⟩ : MethodName) jdk_33_method_47_code 2 (some .int) [] ({ frames := 0, cells := 0, slots := 0, locals := 0 } : Room) #[(.int (2 : Int32))] h0 (fun v h L => v = some (.int (30 : Int32)) ∧ L = [] ∧ h = h0) := by
  refine own_enter (plainFor_of_name own_pn0) ?_
  intro p e s m below meth c s₁ X0 e0 hx hZ hby hml hown hnm hret hlk
  refine own_cast (g' := (mkF m 0 #[.val (.int (2 : Int32)), .unset] [])) (by first | (simp [entryFrame, mkF, argsToLocals, Value.category]; done) | rfl) ?_
  refine own_g (mkF m 1 #[.val (.int (2 : Int32)), .unset] [(.int (2 : Int32))]) (fun _ kz => XS.iloadN X0.here hx rfl (hb hby od_j33_47_0) rfl kz) ?_
  refine own_g (mkF m 15 #[.val (.int (2 : Int32)), .unset] []) (fun _ kz => XS.ifYes X0.here hx rfl (pc0 := 1) (pc' := 15) rfl (hb hby od_j33_47_1) rfl ((if0 _ _).trans (tlt (by decide)).2.2.1) (by decide) (by decide) kz) ?_
  refine own_g (mkF m 17 #[.val (.int (2 : Int32)), .unset] [(.int (31 : Int32))]) (fun _ kz => XS.bipush X0.here hx rfl (hb hby od_j33_47_15) kz) ?_
  refine own_g (mkF m 18 #[.val (.int (2 : Int32)), .val (.int (31 : Int32))] []) (fun _ kz => XS.istoreN X0.here hx rfl (hb hby od_j33_47_17) rfl (l' := #[.val (.int (2 : Int32)), .val (.int (31 : Int32))]) rfl kz) ?_
  refine own_g (mkF m 19 #[.val (.int (2 : Int32)), .val (.int (31 : Int32))] [(.int (2 : Int32))]) (fun _ kz => XS.iloadN X0.here hx rfl (hb hby od_j33_47_18) rfl kz) ?_
  refine own_g (mkF m 22 #[.val (.int (2 : Int32)), .val (.int (31 : Int32))] [(.int (65536 : Int32)), (.int (2 : Int32))]) (fun _ kz => X0.ldcwInt hx hown (mvT hZ (own_w hw 22 rfl)) (g := (mkF m 19 #[.val (.int (2 : Int32)), .val (.int (31 : Int32))] [(.int (2 : Int32))])) rfl (hb hby od_j33_47_19) _ kz) ?_
  refine own_g (mkF m 33 #[.val (.int (2 : Int32)), .val (.int (31 : Int32))] []) (fun _ kz => XS.icmpYes X0.here hx rfl (pc0 := 22) (pc' := 33) rfl (hb hby od_j33_47_22) rfl (tlt (by decide)).1 (by decide) (by decide) kz) ?_
  refine own_g (mkF m 34 #[.val (.int (2 : Int32)), .val (.int (31 : Int32))] [(.int (2 : Int32))]) (fun _ kz => XS.iloadN X0.here hx rfl (hb hby od_j33_47_33) rfl kz) ?_
  refine own_g (mkF m 37 #[.val (.int (2 : Int32)), .val (.int (31 : Int32))] [(.int (256 : Int32)), (.int (2 : Int32))]) (fun _ kz => XS.sipush X0.here hx rfl (hb hby od_j33_47_34) kz) ?_
  refine own_g (mkF m 48 #[.val (.int (2 : Int32)), .val (.int (31 : Int32))] []) (fun _ kz => XS.icmpYes X0.here hx rfl (pc0 := 37) (pc' := 48) rfl (hb hby od_j33_47_37) rfl (tlt (by decide)).1 (by decide) (by decide) kz) ?_
  refine own_g (mkF m 49 #[.val (.int (2 : Int32)), .val (.int (31 : Int32))] [(.int (2 : Int32))]) (fun _ kz => XS.iloadN X0.here hx rfl (hb hby od_j33_47_48) rfl kz) ?_
  refine own_g (mkF m 51 #[.val (.int (2 : Int32)), .val (.int (31 : Int32))] [(.int (16 : Int32)), (.int (2 : Int32))]) (fun _ kz => XS.bipush X0.here hx rfl (hb hby od_j33_47_49) kz) ?_
  refine own_g (mkF m 61 #[.val (.int (2 : Int32)), .val (.int (31 : Int32))] []) (fun _ kz => XS.icmpYes X0.here hx rfl (pc0 := 51) (pc' := 61) rfl (hb hby od_j33_47_51) rfl (tlt (by decide)).1 (by decide) (by decide) kz) ?_
  refine own_g (mkF m 62 #[.val (.int (2 : Int32)), .val (.int (31 : Int32))] [(.int (2 : Int32))]) (fun _ kz => XS.iloadN X0.here hx rfl (hb hby od_j33_47_61) rfl kz) ?_
  refine own_g (mkF m 63 #[.val (.int (2 : Int32)), .val (.int (31 : Int32))] [(.int (4 : Int32)), (.int (2 : Int32))]) (fun _ kz => XS.iconst X0.here hx rfl (hb hby od_j33_47_62) kz) ?_
  refine own_g (mkF m 73 #[.val (.int (2 : Int32)), .val (.int (31 : Int32))] []) (fun _ kz => XS.icmpYes X0.here hx rfl (pc0 := 63) (pc' := 73) rfl (hb hby od_j33_47_63) rfl (tlt (by decide)).1 (by decide) (by decide) kz) ?_
  refine own_g (mkF m 74 #[.val (.int (2 : Int32)), .val (.int (31 : Int32))] [(.int (31 : Int32))]) (fun _ kz => XS.iloadN X0.here hx rfl (hb hby od_j33_47_73) rfl kz) ?_
  refine own_g (mkF m 75 #[.val (.int (2 : Int32)), .val (.int (31 : Int32))] [(.int (2 : Int32)), (.int (31 : Int32))]) (fun _ kz => XS.iloadN X0.here hx rfl (hb hby od_j33_47_74) rfl kz) ?_
  refine own_g (mkF m 76 #[.val (.int (2 : Int32)), .val (.int (31 : Int32))] [(.int (1 : Int32)), (.int (2 : Int32)), (.int (31 : Int32))]) (fun _ kz => XS.iconst X0.here hx rfl (hb hby od_j33_47_75) kz) ?_
  refine own_g (mkF m 77 #[.val (.int (2 : Int32)), .val (.int (31 : Int32))] [(.int (((2 : Int32).toUInt32 >>> ((1 : Int32) &&& 31).toUInt32).toInt32)), (.int (31 : Int32))]) (fun _ kz => XS.iushr X0.here hx rfl (hb hby od_j33_47_76) rfl kz) ?_
  rw [show (((2 : Int32).toUInt32 >>> ((1 : Int32) &&& 31).toUInt32).toInt32) = (1 : Int32) from by decide]
  show own_E p e below _ (s₁.setTop (mkF m 77 #[.val (.int (2 : Int32)), .val (.int (31 : Int32))] [(.int (1 : Int32)), (.int (31 : Int32))]))
  refine own_g (mkF m 78 #[.val (.int (2 : Int32)), .val (.int (31 : Int32))] [(.int ((31 : Int32) - (1 : Int32)))]) (fun _ kz => XS.isub X0.here hx rfl (hb hby od_j33_47_77) rfl kz) ?_
  rw [show ((31 : Int32) - (1 : Int32)) = (30 : Int32) from by decide]
  show own_E p e below _ (s₁.setTop (mkF m 78 #[.val (.int (2 : Int32)), .val (.int (31 : Int32))] [(.int (30 : Int32))]))
  exact own_retI X0 hx hret hlk (hb hby od_j33_47_78) (by decide) (by decide) (by first | exact ⟨rfl, rfl, rfl⟩ | (rw [e0]; exact ⟨rfl, rfl, rfl⟩))
theorem od_j33_45_0 : decode jdk_33_method_45_code 0 = .ok (.iload_n 0, 1) := by decide +kernel
theorem od_j33_45_1 : decode jdk_33_method_45_code 1 = .ok (.ldc 127, 2) := by decide +kernel
theorem od_j33_45_3 : decode jdk_33_method_45_code 3 = .ok (.iload_n 0, 1) := by decide +kernel
theorem own_pd0 : parseMethodDescriptor "(I)I" = some ⟨[.int], some .int⟩ := by decide +kernel
theorem od_j33_45_4 : decode jdk_33_method_45_code 4 = .ok (.invokestatic 51, 3) := by decide +kernel
theorem od_j33_45_7 : decode jdk_33_method_45_code 7 = .ok (.iushr, 1) := by decide +kernel
theorem od_j33_45_8 : decode jdk_33_method_45_code 8 = .ok (.iand, 1) := by decide +kernel
theorem od_j33_45_9 : decode jdk_33_method_45_code 9 = .ok (.ireturn, 1) := by decide +kernel
set_option maxRecDepth 65536 in
set_option maxHeartbeats 40000000 in
theorem own_c_hob (l : Launch) (Z : State) (a0 : Array Value) (hw : ∀ d ∈ tables_1, d.before a0 Z = true) (h0 : Heap) :
    own_Con l Z (⟨"java/lang/Integer", "highestOneBit", "(I)I"⟩ : MethodName) jdk_33_method_45_code 1 (some .int) [] ({ frames := 1, cells := 0, slots := 0, locals := 15 } : Room) #[(.int (2 : Int32))] h0 (fun v h L => v = some (.int (2 : Int32)) ∧ L = [] ∧ h = h0) := by
  refine own_enter (plainFor_of_name own_pn0) ?_
  intro p e s m below meth c s₁ X0 e0 hx hZ hby hml hown hnm hret hlk
  refine own_cast (g' := (mkF m 0 #[.val (.int (2 : Int32))] [])) (by first | (simp [entryFrame, mkF, argsToLocals, Value.category]; done) | rfl) ?_
  refine own_g (mkF m 1 #[.val (.int (2 : Int32))] [(.int (2 : Int32))]) (fun _ kz => XS.iloadN X0.here hx rfl (hb hby od_j33_45_0) rfl kz) ?_
  refine own_g (mkF m 3 #[.val (.int (2 : Int32))] [(.int (-2147483648 : Int32)), (.int (2 : Int32))]) (fun _ kz => X0.ldcInt hx hown (mvT hZ (own_w hw 18 rfl)) (g := (mkF m 1 #[.val (.int (2 : Int32))] [(.int (2 : Int32))])) rfl (hb hby od_j33_45_1) _ kz) ?_
  refine own_g (mkF m 4 #[.val (.int (2 : Int32))] [(.int (2 : Int32)), (.int (-2147483648 : Int32)), (.int (2 : Int32))]) (fun _ kz => XS.iloadN X0.here hx rfl (hb hby od_j33_45_3) rfl kz) ?_
  refine own_callS (rest := [(.int (-2147483648 : Int32)), (.int (2 : Int32))]) (as := [(.int (2 : Int32))]) X0 hx hZ hown e0 (own_c_nlz l Z a0 hw h0) (own_w hw 19 rfl) (own_w hw 20 rfl) (own_w hw 16 rfl) (own_w hw 21 rfl) (by decide) own_pd0 rfl (by rw [hml]; rfl) rfl (hb hby od_j33_45_4) 2 (by show 2 * 0 + _ ≤ _; exact Nat.le_of_eq rfl) (by decide) (by decide) (by decide) (by decide) ?_
  rintro _ T2 L2 X2 ⟨rfl, rfl, e2⟩
  show own_E p e below _ (T2.setTop (mkF m 7 #[.val (.int (2 : Int32))] [(.int (30 : Int32)), (.int (-2147483648 : Int32)), (.int (2 : Int32))]))
  refine own_g (mkF m 8 #[.val (.int (2 : Int32))] [(.int (((-2147483648 : Int32).toUInt32 >>> ((30 : Int32) &&& 31).toUInt32).toInt32)), (.int (2 : Int32))]) (fun _ kz => XS.iushr X2.here hx rfl (hb hby od_j33_45_7) rfl kz) ?_
  rw [show (((-2147483648 : Int32).toUInt32 >>> ((30 : Int32) &&& 31).toUInt32).toInt32) = (2 : Int32) from by decide]
  show own_E p e below _ (T2.setTop (mkF m 8 #[.val (.int (2 : Int32))] [(.int (2 : Int32)), (.int (2 : Int32))]))
  refine own_g (mkF m 9 #[.val (.int (2 : Int32))] [(.int ((2 : Int32) &&& (2 : Int32)))]) (fun _ kz => XS.iand X2.here hx rfl (hb hby od_j33_45_8) rfl kz) ?_
  rw [show ((2 : Int32) &&& (2 : Int32)) = (2 : Int32) from by decide]
  show own_E p e below _ (T2.setTop (mkF m 9 #[.val (.int (2 : Int32))] [(.int (2 : Int32))]))
  exact own_retI X2 hx hret hlk (hb hby od_j33_45_9) (by decide) (by decide) (by first | exact ⟨rfl, rfl, rfl⟩ | (rw [e2]; exact ⟨rfl, rfl, rfl⟩))
theorem own_pn1 : plainName "java/util/Arrays" = true := by first | (simp [plainName, overriddenIn]; done) | decide +kernel
theorem od_j65_103_5 : decode jdk_65_method_103_code 5 = .ok (.iload_n 2, 1) := by decide +kernel
theorem od_j65_103_6 : decode jdk_65_method_103_code 6 = .ok (.iload_n 3, 1) := by decide +kernel
theorem od_j65_103_7 : decode jdk_65_method_103_code 7 = .ok (.if_icmp .ge 13, 3) := by decide +kernel
theorem od_j65_103_20 : decode jdk_65_method_103_code 20 = .ok (.return_, 1) := by decide +kernel
theorem od_j65_103_10 : decode jdk_65_method_103_code 10 = .ok (.aload_n 0, 1) := by decide +kernel
theorem od_j65_103_11 : decode jdk_65_method_103_code 11 = .ok (.iload_n 2, 1) := by decide +kernel
theorem od_j65_103_12 : decode jdk_65_method_103_code 12 = .ok (.iload_n 1, 1) := by decide +kernel
theorem od_j65_103_13 : decode jdk_65_method_103_code 13 = .ok (.iastore, 1) := by decide +kernel
theorem od_j65_103_14 : decode jdk_65_method_103_code 14 = .ok (.iinc 2 1, 3) := by decide +kernel
theorem od_j65_103_17 : decode jdk_65_method_103_code 17 = .ok (.goto (-12), 3) := by decide +kernel
theorem od_j65_103_0 : decode jdk_65_method_103_code 0 = .ok (.iconst 0, 1) := by decide +kernel
theorem od_j65_103_1 : decode jdk_65_method_103_code 1 = .ok (.istore_n 2, 1) := by decide +kernel
theorem od_j65_103_2 : decode jdk_65_method_103_code 2 = .ok (.aload_n 0, 1) := by decide +kernel
theorem od_j65_103_3 : decode jdk_65_method_103_code 3 = .ok (.arraylength, 1) := by decide +kernel
theorem od_j65_103_4 : decode jdk_65_method_103_code 4 = .ok (.istore_n 3, 1) := by decide +kernel
set_option maxRecDepth 65536 in
set_option maxHeartbeats 40000000 in
theorem own_c_fill (l : Launch) (Z : State) (a0 : Array Value) (hw : ∀ d ∈ tables_1, d.before a0 Z = true) (a1 : Addr) (n : Nat) (f : Nat → Int32) (x1 : Int32) (h0 : Heap) (n0 : Nat) (Z0 : n0 ≤ h0.size) (hn : n ≤ 64) (g1 : n0 ≤ a1) (A1 : own_IA Z h0 a1 .int n f) :
    own_Con l Z (⟨"java/util/Arrays", "fill", "([II)V"⟩ : MethodName) jdk_65_method_103_code 4 none [] ({ frames := 0, cells := 0, slots := 0, locals := 0 } : Room) #[(.ref a1), (.int x1)] h0 (fun v h L => v = none ∧ Fr n0 L ∧ Keep h0 h [a1] ∧ own_IA Z h a1 .int n (fun _ => x1)) := by
  refine own_enter (plainFor_of_name own_pn1) ?_
  intro p e s m below meth c s₁ X0 e0 hx hZ hby hml hown hnm hret hlk
  refine own_cast (g' := (mkF m 0 #[.val (.ref a1), .val (.int x1), .unset, .unset] [])) (by first | (simp [entryFrame, mkF, argsToLocals, Value.category]; done) | rfl) ?_
  have N0 := Fr.nil n0
  have loop : ∀ (k i : Nat) (T : State) (h : Heap) (L : List Loc), i + k = n → Stand p l e ({ frames := 0, cells := 0, slots := 0, locals := 0 } : Room) s m #[(.ref a1), (.int x1)] below meth c T L 0 0 → T.heap = h → n0 ≤ h.size → Fr n0 L → Keep h0 h [a1] → own_IA Z h a1 .int n (fun q => if q < i then x1 else f q) → own_E p e below (own_P (fun v h L => v = none ∧ Fr n0 L ∧ Keep h0 h [a1] ∧ own_IA Z h a1 .int n (fun _ => x1)) s 0 0) (T.setTop (mkF m 5 #[.val (.ref a1), .val (.int x1), .val (.int (Int32.ofNat i)), .val (.int (Int32.ofNat n))] [])) := by
    intro k
    induction k with
    | zero =>
      intro i T h L hi X eT z N K A
      obtain rfl : i = n := by omega
      show own_E p e below _ (T.setTop (mkF m 5 #[.val (.ref a1), .val (.int x1), .val (.int (Int32.ofNat i)), .val (.int (Int32.ofNat i))] []))
      refine own_g (mkF m 6 #[.val (.ref a1), .val (.int x1), .val (.int (Int32.ofNat i)), .val (.int (Int32.ofNat i))] [(.int (Int32.ofNat i))]) (fun _ kz => XS.iloadN X.here hx rfl (hb hby od_j65_103_5) rfl kz) ?_
      refine own_g (mkF m 7 #[.val (.ref a1), .val (.int x1), .val (.int (Int32.ofNat i)), .val (.int (Int32.ofNat i))] [(.int (Int32.ofNat i)), (.int (Int32.ofNat i))]) (fun _ kz => XS.iloadN X.here hx rfl (hb hby od_j65_103_6) rfl kz) ?_
      refine own_g (mkF m 20 #[.val (.ref a1), .val (.int x1), .val (.int (Int32.ofNat i)), .val (.int (Int32.ofNat i))] []) (fun _ kz => XS.icmpYes X.here hx rfl (pc0 := 7) (pc' := 20) rfl (hb hby od_j65_103_7) rfl (flt (Int32.lt_irrefl)).2.1 (by decide) (by decide) kz) ?_
      exact own_retV X hx hret hlk (hb hby od_j65_103_20) (by decide) (by decide) (by first | exact ⟨rfl, N, K, A.congr fun q hq => by simp [hq]⟩ | (rw [eT]; exact ⟨rfl, N, K, A.congr fun q hq => by simp [hq]⟩))
    | succ k ih =>
      intro i T h L hi X eT z N K A
      show own_E p e below _ (T.setTop (mkF m 5 #[.val (.ref a1), .val (.int x1), .val (.int (Int32.ofNat i)), .val (.int (Int32.ofNat n))] []))
      refine own_g (mkF m 6 #[.val (.ref a1), .val (.int x1), .val (.int (Int32.ofNat i)), .val (.int (Int32.ofNat n))] [(.int (Int32.ofNat i))]) (fun _ kz => XS.iloadN X.here hx rfl (hb hby od_j65_103_5) rfl kz) ?_
      refine own_g (mkF m 7 #[.val (.ref a1), .val (.int x1), .val (.int (Int32.ofNat i)), .val (.int (Int32.ofNat n))] [(.int (Int32.ofNat n)), (.int (Int32.ofNat i))]) (fun _ kz => XS.iloadN X.here hx rfl (hb hby od_j65_103_6) rfl kz) ?_
      refine own_g (mkF m 10 #[.val (.ref a1), .val (.int x1), .val (.int (Int32.ofNat i)), .val (.int (Int32.ofNat n))] []) (fun _ kz => XS.icmpNo X.here hx rfl (hb hby od_j65_103_7) rfl (tlt (own_lt (show i < n by omega) (by omega))).2.1 kz) ?_
      refine own_g (mkF m 11 #[.val (.ref a1), .val (.int x1), .val (.int (Int32.ofNat i)), .val (.int (Int32.ofNat n))] [(.ref a1)]) (fun _ kz => XS.aloadN X.here hx rfl (hb hby od_j65_103_10) rfl rfl kz) ?_
      refine own_g (mkF m 12 #[.val (.ref a1), .val (.int x1), .val (.int (Int32.ofNat i)), .val (.int (Int32.ofNat n))] [(.int (Int32.ofNat i)), (.ref a1)]) (fun _ kz => XS.iloadN X.here hx rfl (hb hby od_j65_103_11) rfl kz) ?_
      refine own_g (mkF m 13 #[.val (.ref a1), .val (.int x1), .val (.int (Int32.ofNat i)), .val (.int (Int32.ofNat n))] [(.int x1), (.int (Int32.ofNat i)), (.ref a1)]) (fun _ kz => XS.iloadN X.here hx rfl (hb hby od_j65_103_12) rfl kz) ?_
      refine own_stI X hx hZ eT A (hb hby od_j65_103_13) (own_nn (by omega)).1 (i := i) (own_nn (by omega)).2 (by omega) ?_
      intro T3 h3 X3 e3 W3 A3
      have N3 := Fr.snoc X3 N g1
      have s4 : n0 ≤ h3.size := Nat.le_trans z (Keep.of_wr W3).1
      have K5 := K.wr W3 (Or.inl (by simp))
      show own_E p e below _ (T3.setTop (mkF m 14 #[.val (.ref a1), .val (.int x1), .val (.int (Int32.ofNat i)), .val (.int (Int32.ofNat n))] []))
      refine own_g (mkF m 17 #[.val (.ref a1), .val (.int x1), .val (.int ((Int32.ofNat i) + (1 : Int32))), .val (.int (Int32.ofNat n))] []) (fun _ kz => XS.iinc X3.here hx rfl (hb hby od_j65_103_14) rfl (l' := #[.val (.ref a1), .val (.int x1), .val (.int ((Int32.ofNat i) + (1 : Int32))), .val (.int (Int32.ofNat n))]) rfl kz) ?_
      refine own_g (mkF m 5 #[.val (.ref a1), .val (.int x1), .val (.int ((Int32.ofNat i) + (1 : Int32))), .val (.int (Int32.ofNat n))] []) (fun _ kz => XS.goto X3.here hx rfl (pc0 := 17) (pc' := 5) rfl (hb hby od_j65_103_17) (by decide) (by decide) kz) ?_
      rw [own_one]
      show own_E p e below _ (T3.setTop (mkF m 5 #[.val (.ref a1), .val (.int x1), .val (.int (Int32.ofNat (i + 1))), .val (.int (Int32.ofNat n))] []))
      exact ih (i + 1) _ _ _ (by omega) X3 e3 s4 N3 K5 (A3.congr fun q hq => by
        by_cases u : q = i
        · subst u; simp [own_set]
        · simp [own_set, u, show (q < i + 1) = (q < i) from by simp; omega])
  refine own_g (mkF m 1 #[.val (.ref a1), .val (.int x1), .unset, .unset] [(.int (0 : Int32))]) (fun _ kz => XS.iconst X0.here hx rfl (hb hby od_j65_103_0) kz) ?_
  refine own_g (mkF m 2 #[.val (.ref a1), .val (.int x1), .val (.int (0 : Int32)), .unset] []) (fun _ kz => XS.istoreN X0.here hx rfl (hb hby od_j65_103_1) rfl (l' := #[.val (.ref a1), .val (.int x1), .val (.int (0 : Int32)), .unset]) rfl kz) ?_
  refine own_g (mkF m 3 #[.val (.ref a1), .val (.int x1), .val (.int (0 : Int32)), .unset] [(.ref a1)]) (fun _ kz => XS.aloadN X0.here hx rfl (hb hby od_j65_103_2) rfl rfl kz) ?_
  refine own_lenI X0 hx hZ e0 A1 (hb hby od_j65_103_3) (z := (Int32.ofNat n)) rfl ?_
  show own_E p e below _ (s₁.setTop (mkF m 4 #[.val (.ref a1), .val (.int x1), .val (.int (0 : Int32)), .unset] [(.int (Int32.ofNat n))]))
  refine own_g (mkF m 5 #[.val (.ref a1), .val (.int x1), .val (.int (0 : Int32)), .val (.int (Int32.ofNat n))] []) (fun _ kz => XS.istoreN X0.here hx rfl (hb hby od_j65_103_4) rfl (l' := #[.val (.ref a1), .val (.int x1), .val (.int (0 : Int32)), .val (.int (Int32.ofNat n))]) rfl kz) ?_
  exact loop n 0 _ _ _ (by omega) X0 e0 Z0 N0 (Keep.refl _ _) (A1.congr fun q hq => by simp)
theorem own_pn2 : plainName "com/example/horncast/horncast/query/LeastCount" = true := by first | (simp [plainName, overriddenIn]; done) | decide +kernel
theorem od_29_6_0 : decode prog_29_method_6_code 0 = .ok (.iload_n 2, 1) := by decide +kernel
theorem od_29_6_1 : decode prog_29_method_6_code 1 = .ok (.ifCond .lt 12, 3) := by decide +kernel
theorem od_29_6_13 : decode prog_29_method_6_code 13 = .ok (.iload_n 1, 1) := by decide +kernel
theorem od_29_6_14 : decode prog_29_method_6_code 14 = .ok (.istore_n 3, 1) := by decide +kernel
theorem od_29_6_15 : decode prog_29_method_6_code 15 = .ok (.goto 42, 3) := by decide +kernel
theorem od_29_6_57 : decode prog_29_method_6_code 57 = .ok (.iload_n 3, 1) := by decide +kernel
theorem od_29_6_58 : decode prog_29_method_6_code 58 = .ok (.ireturn, 1) := by decide +kernel
theorem od_29_6_4 : decode prog_29_method_6_code 4 = .ok (.aload_n 0, 1) := by decide +kernel
theorem od_29_6_5 : decode prog_29_method_6_code 5 = .ok (.getfield 29, 3) := by decide +kernel
theorem od_29_6_8 : decode prog_29_method_6_code 8 = .ok (.iload_n 2, 1) := by decide +kernel
theorem od_29_6_9 : decode prog_29_method_6_code 9 = .ok (.baload, 1) := by decide +kernel
theorem od_29_6_10 : decode prog_29_method_6_code 10 = .ok (.ifCond .eq 8, 3) := by decide +kernel
theorem od_29_6_18 : decode prog_29_method_6_code 18 = .ok (.iload_n 1, 1) := by decide +kernel
theorem od_29_6_19 : decode prog_29_method_6_code 19 = .ok (.ifCond .lt 12, 3) := by decide +kernel
theorem od_29_6_31 : decode prog_29_method_6_code 31 = .ok (.iload_n 2, 1) := by decide +kernel
theorem od_29_6_32 : decode prog_29_method_6_code 32 = .ok (.istore_n 3, 1) := by decide +kernel
theorem od_29_6_33 : decode prog_29_method_6_code 33 = .ok (.goto 24, 3) := by decide +kernel
theorem od_29_6_22 : decode prog_29_method_6_code 22 = .ok (.aload_n 0, 1) := by decide +kernel
theorem od_29_6_23 : decode prog_29_method_6_code 23 = .ok (.getfield 29, 3) := by decide +kernel
theorem od_29_6_26 : decode prog_29_method_6_code 26 = .ok (.iload_n 1, 1) := by decide +kernel
theorem od_29_6_27 : decode prog_29_method_6_code 27 = .ok (.baload, 1) := by decide +kernel
theorem od_29_6_28 : decode prog_29_method_6_code 28 = .ok (.ifCond .eq 8, 3) := by decide +kernel
theorem od_29_6_36 : decode prog_29_method_6_code 36 = .ok (.aload_n 0, 1) := by decide +kernel
theorem od_29_6_37 : decode prog_29_method_6_code 37 = .ok (.getfield 25, 3) := by decide +kernel
theorem od_29_6_40 : decode prog_29_method_6_code 40 = .ok (.iload_n 2, 1) := by decide +kernel
theorem od_29_6_41 : decode prog_29_method_6_code 41 = .ok (.iaload, 1) := by decide +kernel
theorem od_29_6_42 : decode prog_29_method_6_code 42 = .ok (.aload_n 0, 1) := by decide +kernel
theorem od_29_6_43 : decode prog_29_method_6_code 43 = .ok (.getfield 25, 3) := by decide +kernel
theorem od_29_6_46 : decode prog_29_method_6_code 46 = .ok (.iload_n 1, 1) := by decide +kernel
theorem od_29_6_47 : decode prog_29_method_6_code 47 = .ok (.iaload, 1) := by decide +kernel
theorem od_29_6_48 : decode prog_29_method_6_code 48 = .ok (.if_icmp .ge 7, 3) := by decide +kernel
theorem od_29_6_51 : decode prog_29_method_6_code 51 = .ok (.iload_n 2, 1) := by decide +kernel
theorem od_29_6_52 : decode prog_29_method_6_code 52 = .ok (.goto 4, 3) := by decide +kernel
theorem od_29_6_56 : decode prog_29_method_6_code 56 = .ok (.istore_n 3, 1) := by decide +kernel
theorem od_29_6_55 : decode prog_29_method_6_code 55 = .ok (.iload_n 1, 1) := by decide +kernel
set_option maxRecDepth 65536 in
set_option maxHeartbeats 40000000 in
theorem own_c_mat (l : Launch) (Z : State) (a0 : Array Value) (hw : ∀ d ∈ tables_1, d.before a0 Z = true) (a1 : Addr) (cb : Addr) (zb : Addr) (wb : Addr) (fc : Nat → Int32) (fo : Nat → Int32) (fw : Nat → Int32) (x1 : Int32) (x2 : Int32) (h0 : Heap) (n0 : Nat) (Z0 : n0 ≤ h0.size) (hl : own_dom x1) (hr : own_dom x2) (S0 : own_S Z h0 n0 a1 cb zb wb fc fo fw) :
    own_Con l Z (⟨"com/example/horncast/horncast/query/LeastCount", "match", "(II)I"⟩ : MethodName) prog_29_method_6_code 4 (some .int) [] ({ frames := 0, cells := 0, slots := 0, locals := 0 } : Room) #[(.ref a1), (.int x1), (.int x2)] h0 (fun v h L => v = some (.int (own_mt fo fc x1 x2)) ∧ L = [] ∧ h = h0) := by
  refine own_enter (plainFor_of_name own_pn2) ?_
  intro p e s m below meth c s₁ X0 e0 hx hZ hby hml hown hnm hret hlk
  refine own_cast (g' := (mkF m 0 #[.val (.ref a1), .val (.int x1), .val (.int x2), .unset] [])) (by first | (simp [entryFrame, mkF, argsToLocals, Value.category]; done) | rfl) ?_
  have N0 := Fr.nil n0
  obtain ⟨E0, Fl0, Fc0, Fo0, Fw0, Ac0, Ao0, Aw0, gc0, gz0, gw0, nac0, naz0, naw0, ncz0, ncw0, nzw0⟩ := S0
  refine own_g (mkF m 1 #[.val (.ref a1), .val (.int x1), .val (.int x2), .unset] [(.int x2)]) (fun _ kz => XS.iloadN X0.here hx rfl (hb hby od_29_6_0) rfl kz) ?_
  by_cases hc1_6 : x2 < (0 : Int32)
  · refine own_g (mkF m 13 #[.val (.ref a1), .val (.int x1), .val (.int x2), .unset] []) (fun _ kz => XS.ifYes X0.here hx rfl (pc0 := 1) (pc' := 13) rfl (hb hby od_29_6_1) rfl ((if0 _ _).trans (tlt hc1_6).1) (by decide) (by decide) kz) ?_
    refine own_g (mkF m 14 #[.val (.ref a1), .val (.int x1), .val (.int x2), .unset] [(.int x1)]) (fun _ kz => XS.iloadN X0.here hx rfl (hb hby od_29_6_13) rfl kz) ?_
    refine own_g (mkF m 15 #[.val (.ref a1), .val (.int x1), .val (.int x2), .val (.int x1)] []) (fun _ kz => XS.istoreN X0.here hx rfl (hb hby od_29_6_14) rfl (l' := #[.val (.ref a1), .val (.int x1), .val (.int x2), .val (.int x1)]) rfl kz) ?_
    refine own_g (mkF m 57 #[.val (.ref a1), .val (.int x1), .val (.int x2), .val (.int x1)] []) (fun _ kz => XS.goto X0.here hx rfl (pc0 := 15) (pc' := 57) rfl (hb hby od_29_6_15) (by decide) (by decide) kz) ?_
    refine own_g (mkF m 58 #[.val (.ref a1), .val (.int x1), .val (.int x2), .val (.int x1)] [(.int x1)]) (fun _ kz => XS.iloadN X0.here hx rfl (hb hby od_29_6_57) rfl kz) ?_
    exact own_retI X0 hx hret hlk (hb hby od_29_6_58) (by decide) (by decide) (by first | exact ⟨by simp [own_mt, hc1_6], rfl, rfl⟩ | (rw [e0]; exact ⟨by simp [own_mt, hc1_6], rfl, rfl⟩))
  · refine own_g (mkF m 4 #[.val (.ref a1), .val (.int x1), .val (.int x2), .unset] []) (fun _ kz => XS.ifNo X0.here hx rfl (hb hby od_29_6_1) rfl ((if0 _ _).trans (flt hc1_6).1) kz) ?_
    refine own_g (mkF m 5 #[.val (.ref a1), .val (.int x1), .val (.int x2), .unset] [(.ref a1)]) (fun _ kz => XS.aloadN X0.here hx rfl (hb hby od_29_6_4) rfl rfl kz) ?_
    obtain ⟨T7, X7, e7, st7⟩ := getF X0 hx hZ hown (host := "") (Or.inl (own_w hw 28 rfl)) Via.refl e0 Fo0 (g := (mkF m 5 #[.val (.ref a1), .val (.int x1), .val (.int x2), .unset] [(.ref a1)])) rfl rfl (hb hby od_29_6_5)
    refine own_s st7 ?_
    show own_E p e below _ (T7.setTop (mkF m 8 #[.val (.ref a1), .val (.int x1), .val (.int x2), .unset] [(.ref zb)]))
    refine own_g (mkF m 9 #[.val (.ref a1), .val (.int x1), .val (.int x2), .unset] [(.int x2), (.ref zb)]) (fun _ kz => XS.iloadN X7.here hx rfl (hb hby od_29_6_8) rfl kz) ?_
    refine own_ildZ X7 hx hZ e7 Ao0 (hb hby od_29_6_9) hc1_6 (i := x2.toNatClampNeg) rfl (own_domN hr hc1_6) (x := (fo x2.toNatClampNeg)) rfl ?_
    show own_E p e below _ (T7.setTop (mkF m 10 #[.val (.ref a1), .val (.int x1), .val (.int x2), .unset] [(.int (fo x2.toNatClampNeg))]))
    by_cases hc10_8 : (fo x2.toNatClampNeg) = (0 : Int32)
    · refine own_g (mkF m 18 #[.val (.ref a1), .val (.int x1), .val (.int x2), .unset] []) (fun _ kz => XS.ifYes X7.here hx rfl (pc0 := 10) (pc' := 18) rfl (hb hby od_29_6_10) rfl ((if0 _ _).trans (teq hc10_8).1) (by decide) (by decide) kz) ?_
      refine own_g (mkF m 19 #[.val (.ref a1), .val (.int x1), .val (.int x2), .unset] [(.int x1)]) (fun _ kz => XS.iloadN X7.here hx rfl (hb hby od_29_6_18) rfl kz) ?_
      by_cases hc19_9 : x1 < (0 : Int32)
      · refine own_g (mkF m 31 #[.val (.ref a1), .val (.int x1), .val (.int x2), .unset] []) (fun _ kz => XS.ifYes X7.here hx rfl (pc0 := 19) (pc' := 31) rfl (hb hby od_29_6_19) rfl ((if0 _ _).trans (tlt hc19_9).1) (by decide) (by decide) kz) ?_
        refine own_g (mkF m 32 #[.val (.ref a1), .val (.int x1), .val (.int x2), .unset] [(.int x2)]) (fun _ kz => XS.iloadN X7.here hx rfl (hb hby od_29_6_31) rfl kz) ?_
        refine own_g (mkF m 33 #[.val (.ref a1), .val (.int x1), .val (.int x2), .val (.int x2)] []) (fun _ kz => XS.istoreN X7.here hx rfl (hb hby od_29_6_32) rfl (l' := #[.val (.ref a1), .val (.int x1), .val (.int x2), .val (.int x2)]) rfl kz) ?_
        refine own_g (mkF m 57 #[.val (.ref a1), .val (.int x1), .val (.int x2), .val (.int x2)] []) (fun _ kz => XS.goto X7.here hx rfl (pc0 := 33) (pc' := 57) rfl (hb hby od_29_6_33) (by decide) (by decide) kz) ?_
        refine own_g (mkF m 58 #[.val (.ref a1), .val (.int x1), .val (.int x2), .val (.int x2)] [(.int x2)]) (fun _ kz => XS.iloadN X7.here hx rfl (hb hby od_29_6_57) rfl kz) ?_
        exact own_retI X7 hx hret hlk (hb hby od_29_6_58) (by decide) (by decide) (by first | exact ⟨by simp [own_mt, hc1_6, hc10_8, hc19_9], rfl, rfl⟩ | (rw [e7]; exact ⟨by simp [own_mt, hc1_6, hc10_8, hc19_9], rfl, rfl⟩))
      · refine own_g (mkF m 22 #[.val (.ref a1), .val (.int x1), .val (.int x2), .unset] []) (fun _ kz => XS.ifNo X7.here hx rfl (hb hby od_29_6_19) rfl ((if0 _ _).trans (flt hc19_9).1) kz) ?_
        refine own_g (mkF m 23 #[.val (.ref a1), .val (.int x1), .val (.int x2), .unset] [(.ref a1)]) (fun _ kz => XS.aloadN X7.here hx rfl (hb hby od_29_6_22) rfl rfl kz) ?_
        obtain ⟨T10, X10, e10, st10⟩ := getF X7 hx hZ hown (host := "") (Or.inl (own_w hw 28 rfl)) Via.refl e7 Fo0 (g := (mkF m 23 #[.val (.ref a1), .val (.int x1), .val (.int x2), .unset] [(.ref a1)])) rfl rfl (hb hby od_29_6_23)
        refine own_s st10 ?_
        show own_E p e below _ (T10.setTop (mkF m 26 #[.val (.ref a1), .val (.int x1), .val (.int x2), .unset] [(.ref zb)]))
        refine own_g (mkF m 27 #[.val (.ref a1), .val (.int x1), .val (.int x2), .unset] [(.int x1), (.ref zb)]) (fun _ kz => XS.iloadN X10.here hx rfl (hb hby od_29_6_26) rfl kz) ?_
        refine own_ildZ X10 hx hZ e10 Ao0 (hb hby od_29_6_27) hc19_9 (i := x1.toNatClampNeg) rfl (own_domN hl hc19_9) (x := (fo x1.toNatClampNeg)) rfl ?_
        show own_E p e below _ (T10.setTop (mkF m 28 #[.val (.ref a1), .val (.int x1), .val (.int x2), .unset] [(.int (fo x1.toNatClampNeg))]))
        by_cases hc28_11 : (fo x1.toNatClampNeg) = (0 : Int32)
        · refine own_g (mkF m 36 #[.val (.ref a1), .val (.int x1), .val (.int x2), .unset] []) (fun _ kz => XS.ifYes X10.here hx rfl (pc0 := 28) (pc' := 36) rfl (hb hby od_29_6_28) rfl ((if0 _ _).trans (teq hc28_11).1) (by decide) (by decide) kz) ?_
          refine own_g (mkF m 37 #[.val (.ref a1), .val (.int x1), .val (.int x2), .unset] [(.ref a1)]) (fun _ kz => XS.aloadN X10.here hx rfl (hb hby od_29_6_36) rfl rfl kz) ?_
          obtain ⟨T12, X12, e12, st12⟩ := getF X10 hx hZ hown (host := "") (Or.inl (own_w hw 25 rfl)) Via.refl e10 Fc0 (g := (mkF m 37 #[.val (.ref a1), .val (.int x1), .val (.int x2), .unset] [(.ref a1)])) rfl rfl (hb hby od_29_6_37)
          refine own_s st12 ?_
          show own_E p e below _ (T12.setTop (mkF m 40 #[.val (.ref a1), .val (.int x1), .val (.int x2), .unset] [(.ref cb)]))
          refine own_g (mkF m 41 #[.val (.ref a1), .val (.int x1), .val (.int x2), .unset] [(.int x2), (.ref cb)]) (fun _ kz => XS.iloadN X12.here hx rfl (hb hby od_29_6_40) rfl kz) ?_
          refine own_ildI X12 hx hZ e12 Ac0 (hb hby od_29_6_41) hc1_6 (i := x2.toNatClampNeg) rfl (own_domN hr hc1_6) (x := (fc x2.toNatClampNeg)) rfl ?_
          show own_E p e below _ (T12.setTop (mkF m 42 #[.val (.ref a1), .val (.int x1), .val (.int x2), .unset] [(.int (fc x2.toNatClampNeg))]))
          refine own_g (mkF m 43 #[.val (.ref a1), .val (.int x1), .val (.int x2), .unset] [(.ref a1), (.int (fc x2.toNatClampNeg))]) (fun _ kz => XS.aloadN X12.here hx rfl (hb hby od_29_6_42) rfl rfl kz) ?_
          obtain ⟨T13, X13, e13, st13⟩ := getF X12 hx hZ hown (host := "") (Or.inl (own_w hw 25 rfl)) Via.refl e12 Fc0 (g := (mkF m 43 #[.val (.ref a1), .val (.int x1), .val (.int x2), .unset] [(.ref a1), (.int (fc x2.toNatClampNeg))])) rfl rfl (hb hby od_29_6_43)
          refine own_s st13 ?_
          show own_E p e below _ (T13.setTop (mkF m 46 #[.val (.ref a1), .val (.int x1), .val (.int x2), .unset] [(.ref cb), (.int (fc x2.toNatClampNeg))]))
          refine own_g (mkF m 47 #[.val (.ref a1), .val (.int x1), .val (.int x2), .unset] [(.int x1), (.ref cb), (.int (fc x2.toNatClampNeg))]) (fun _ kz => XS.iloadN X13.here hx rfl (hb hby od_29_6_46) rfl kz) ?_
          refine own_ildI X13 hx hZ e13 Ac0 (hb hby od_29_6_47) hc19_9 (i := x1.toNatClampNeg) rfl (own_domN hl hc19_9) (x := (fc x1.toNatClampNeg)) rfl ?_
          show own_E p e below _ (T13.setTop (mkF m 48 #[.val (.ref a1), .val (.int x1), .val (.int x2), .unset] [(.int (fc x1.toNatClampNeg)), (.int (fc x2.toNatClampNeg))]))
          by_cases hc48_14 : (fc x2.toNatClampNeg) < (fc x1.toNatClampNeg)
          · refine own_g (mkF m 51 #[.val (.ref a1), .val (.int x1), .val (.int x2), .unset] []) (fun _ kz => XS.icmpNo X13.here hx rfl (hb hby od_29_6_48) rfl (tlt hc48_14).2.1 kz) ?_
            refine own_g (mkF m 52 #[.val (.ref a1), .val (.int x1), .val (.int x2), .unset] [(.int x2)]) (fun _ kz => XS.iloadN X13.here hx rfl (hb hby od_29_6_51) rfl kz) ?_
            refine own_g (mkF m 56 #[.val (.ref a1), .val (.int x1), .val (.int x2), .unset] [(.int x2)]) (fun _ kz => XS.goto X13.here hx rfl (pc0 := 52) (pc' := 56) rfl (hb hby od_29_6_52) (by decide) (by decide) kz) ?_
            refine own_g (mkF m 57 #[.val (.ref a1), .val (.int x1), .val (.int x2), .val (.int x2)] []) (fun _ kz => XS.istoreN X13.here hx rfl (hb hby od_29_6_56) rfl (l' := #[.val (.ref a1), .val (.int x1), .val (.int x2), .val (.int x2)]) rfl kz) ?_
            refine own_g (mkF m 58 #[.val (.ref a1), .val (.int x1), .val (.int x2), .val (.int x2)] [(.int x2)]) (fun _ kz => XS.iloadN X13.here hx rfl (hb hby od_29_6_57) rfl kz) ?_
            exact own_retI X13 hx hret hlk (hb hby od_29_6_58) (by decide) (by decide) (by first | exact ⟨by simp [own_mt, hc1_6, hc10_8, hc19_9, hc28_11, hc48_14], rfl, rfl⟩ | (rw [e13]; exact ⟨by simp [own_mt, hc1_6, hc10_8, hc19_9, hc28_11, hc48_14], rfl, rfl⟩))
          · refine own_g (mkF m 55 #[.val (.ref a1), .val (.int x1), .val (.int x2), .unset] []) (fun _ kz => XS.icmpYes X13.here hx rfl (pc0 := 48) (pc' := 55) rfl (hb hby od_29_6_48) rfl (flt hc48_14).2.1 (by decide) (by decide) kz) ?_
            refine own_g (mkF m 56 #[.val (.ref a1), .val (.int x1), .val (.int x2), .unset] [(.int x1)]) (fun _ kz => XS.iloadN X13.here hx rfl (hb hby od_29_6_55) rfl kz) ?_
            refine own_g (mkF m 57 #[.val (.ref a1), .val (.int x1), .val (.int x2), .val (.int x1)] []) (fun _ kz => XS.istoreN X13.here hx rfl (hb hby od_29_6_56) rfl (l' := #[.val (.ref a1), .val (.int x1), .val (.int x2), .val (.int x1)]) rfl kz) ?_
            refine own_g (mkF m 58 #[.val (.ref a1), .val (.int x1), .val (.int x2), .val (.int x1)] [(.int x1)]) (fun _ kz => XS.iloadN X13.here hx rfl (hb hby od_29_6_57) rfl kz) ?_
            exact own_retI X13 hx hret hlk (hb hby od_29_6_58) (by decide) (by decide) (by first | exact ⟨by simp [own_mt, hc1_6, hc10_8, hc19_9, hc28_11, hc48_14], rfl, rfl⟩ | (rw [e13]; exact ⟨by simp [own_mt, hc1_6, hc10_8, hc19_9, hc28_11, hc48_14], rfl, rfl⟩))
        · refine own_g (mkF m 31 #[.val (.ref a1), .val (.int x1), .val (.int x2), .unset] []) (fun _ kz => XS.ifNo X10.here hx rfl (hb hby od_29_6_28) rfl ((if0 _ _).trans (feq hc28_11).1) kz) ?_
          refine own_g (mkF m 32 #[.val (.ref a1), .val (.int x1), .val (.int x2), .unset] [(.int x2)]) (fun _ kz => XS.iloadN X10.here hx rfl (hb hby od_29_6_31) rfl kz) ?_
          refine own_g (mkF m 33 #[.val (.ref a1), .val (.int x1), .val (.int x2), .val (.int x2)] []) (fun _ kz => XS.istoreN X10.here hx rfl (hb hby od_29_6_32) rfl (l' := #[.val (.ref a1), .val (.int x1), .val (.int x2), .val (.int x2)]) rfl kz) ?_
          refine own_g (mkF m 57 #[.val (.ref a1), .val (.int x1), .val (.int x2), .val (.int x2)] []) (fun _ kz => XS.goto X10.here hx rfl (pc0 := 33) (pc' := 57) rfl (hb hby od_29_6_33) (by decide) (by decide) kz) ?_
          refine own_g (mkF m 58 #[.val (.ref a1), .val (.int x1), .val (.int x2), .val (.int x2)] [(.int x2)]) (fun _ kz => XS.iloadN X10.here hx rfl (hb hby od_29_6_57) rfl kz) ?_
          exact own_retI X10 hx hret hlk (hb hby od_29_6_58) (by decide) (by decide) (by first | exact ⟨by simp [own_mt, hc1_6, hc10_8, hc19_9, hc28_11], rfl, rfl⟩ | (rw [e10]; exact ⟨by simp [own_mt, hc1_6, hc10_8, hc19_9, hc28_11], rfl, rfl⟩))
    · refine own_g (mkF m 13 #[.val (.ref a1), .val (.int x1), .val (.int x2), .unset] []) (fun _ kz => XS.ifNo X7.here hx rfl (hb hby od_29_6_10) rfl ((if0 _ _).trans (feq hc10_8).1) kz) ?_
      refine own_g (mkF m 14 #[.val (.ref a1), .val (.int x1), .val (.int x2), .unset] [(.int x1)]) (fun _ kz => XS.iloadN X7.here hx rfl (hb hby od_29_6_13) rfl kz) ?_
      refine own_g (mkF m 15 #[.val (.ref a1), .val (.int x1), .val (.int x2), .val (.int x1)] []) (fun _ kz => XS.istoreN X7.here hx rfl (hb hby od_29_6_14) rfl (l' := #[.val (.ref a1), .val (.int x1), .val (.int x2), .val (.int x1)]) rfl kz) ?_
      refine own_g (mkF m 57 #[.val (.ref a1), .val (.int x1), .val (.int x2), .val (.int x1)] []) (fun _ kz => XS.goto X7.here hx rfl (pc0 := 15) (pc' := 57) rfl (hb hby od_29_6_15) (by decide) (by decide) kz) ?_
      refine own_g (mkF m 58 #[.val (.ref a1), .val (.int x1), .val (.int x2), .val (.int x1)] [(.int x1)]) (fun _ kz => XS.iloadN X7.here hx rfl (hb hby od_29_6_57) rfl kz) ?_
      exact own_retI X7 hx hret hlk (hb hby od_29_6_58) (by decide) (by decide) (by first | exact ⟨by simp [own_mt, hc1_6, hc10_8], rfl, rfl⟩ | (rw [e7]; exact ⟨by simp [own_mt, hc1_6, hc10_8], rfl, rfl⟩))
theorem od_29_5_0 : decode prog_29_method_5_code 0 = .ok (.aload_n 0, 1) := by decide +kernel
theorem od_29_5_1 : decode prog_29_method_5_code 1 = .ok (.getfield 19, 3) := by decide +kernel
theorem od_29_5_4 : decode prog_29_method_5_code 4 = .ok (.iload_n 1, 1) := by decide +kernel
theorem od_29_5_5 : decode prog_29_method_5_code 5 = .ok (.iadd, 1) := by decide +kernel
theorem od_29_5_6 : decode prog_29_method_5_code 6 = .ok (.iconst 2, 1) := by decide +kernel
theorem od_29_5_7 : decode prog_29_method_5_code 7 = .ok (.idiv, 1) := by decide +kernel
theorem od_29_5_8 : decode prog_29_method_5_code 8 = .ok (.istore_n 2, 1) := by decide +kernel
theorem od_29_5_9 : decode prog_29_method_5_code 9 = .ok (.iload_n 2, 1) := by decide +kernel
theorem od_29_5_10 : decode prog_29_method_5_code 10 = .ok (.iconst 1, 1) := by decide +kernel
theorem od_29_5_11 : decode prog_29_method_5_code 11 = .ok (.if_icmp .lt 38, 3) := by decide +kernel
theorem od_29_5_14 : decode prog_29_method_5_code 14 = .ok (.aload_n 0, 1) := by decide +kernel
theorem od_29_5_15 : decode prog_29_method_5_code 15 = .ok (.getfield 33, 3) := by decide +kernel
theorem od_29_5_18 : decode prog_29_method_5_code 18 = .ok (.iload_n 2, 1) := by decide +kernel
theorem od_29_5_19 : decode prog_29_method_5_code 19 = .ok (.aload_n 0, 1) := by decide +kernel
theorem od_29_5_20 : decode prog_29_method_5_code 20 = .ok (.aload_n 0, 1) := by decide +kernel
theorem od_29_5_21 : decode prog_29_method_5_code 21 = .ok (.getfield 33, 3) := by decide +kernel
theorem od_29_5_24 : decode prog_29_method_5_code 24 = .ok (.iconst 2, 1) := by decide +kernel
theorem od_29_5_25 : decode prog_29_method_5_code 25 = .ok (.iload_n 2, 1) := by decide +kernel
theorem od_29_5_26 : decode prog_29_method_5_code 26 = .ok (.imul, 1) := by decide +kernel
theorem od_29_5_27 : decode prog_29_method_5_code 27 = .ok (.iaload, 1) := by decide +kernel
theorem od_29_5_28 : decode prog_29_method_5_code 28 = .ok (.aload_n 0, 1) := by decide +kernel
theorem od_29_5_29 : decode prog_29_method_5_code 29 = .ok (.getfield 33, 3) := by decide +kernel
theorem od_29_5_32 : decode prog_29_method_5_code 32 = .ok (.iconst 2, 1) := by decide +kernel
theorem od_29_5_33 : decode prog_29_method_5_code 33 = .ok (.iload_n 2, 1) := by decide +kernel
theorem od_29_5_34 : decode prog_29_method_5_code 34 = .ok (.imul, 1) := by decide +kernel
theorem od_29_5_35 : decode prog_29_method_5_code 35 = .ok (.iconst 1, 1) := by decide +kernel
theorem od_29_5_36 : decode prog_29_method_5_code 36 = .ok (.iadd, 1) := by decide +kernel
theorem od_29_5_37 : decode prog_29_method_5_code 37 = .ok (.iaload, 1) := by decide +kernel
theorem own_pd1 : parseMethodDescriptor "(II)I" = some ⟨[.int, .int], some .int⟩ := by decide +kernel
theorem od_29_5_38 : decode prog_29_method_5_code 38 = .ok (.invokevirtual 42, 3) := by decide +kernel
theorem od_29_5_41 : decode prog_29_method_5_code 41 = .ok (.iastore, 1) := by decide +kernel
theorem od_29_5_42 : decode prog_29_method_5_code 42 = .ok (.iload_n 2, 1) := by decide +kernel
theorem od_29_5_43 : decode prog_29_method_5_code 43 = .ok (.iconst 2, 1) := by decide +kernel
theorem od_29_5_44 : decode prog_29_method_5_code 44 = .ok (.idiv, 1) := by decide +kernel
theorem od_29_5_45 : decode prog_29_method_5_code 45 = .ok (.istore_n 2, 1) := by decide +kernel
theorem od_29_5_46 : decode prog_29_method_5_code 46 = .ok (.goto (-37), 3) := by decide +kernel
theorem od_29_5_49 : decode prog_29_method_5_code 49 = .ok (.return_, 1) := by decide +kernel
set_option maxRecDepth 65536 in
set_option maxHeartbeats 40000000 in
theorem own_c_rep0 (l : Launch) (Z : State) (a0 : Array Value) (hw : ∀ d ∈ tables_1, d.before a0 Z = true) (a1 : Addr) (cb : Addr) (zb : Addr) (wb : Addr) (fc : Nat → Int32) (fo : Nat → Int32) (fw : Nat → Int32) (h0 : Heap) (n0 : Nat) (Z0 : n0 ≤ h0.size) (hW : fw 4 = 0 ∧ fw 5 = 1 ∧ fw 6 = 2 ∧ fw 7 = -1 ∧ fw 3 = 2) (S0 : own_S Z h0 n0 a1 cb zb wb fc fo fw) :
    own_Con l Z (⟨"com/example/horncast/horncast/query/LeastCount", "replay", "(I)V"⟩ : MethodName) prog_29_method_5_code 3 none [] ({ frames := 1, cells := 0, slots := 0, locals := 18 } : Room) #[(.ref a1), (.int (0 : Int32))] h0 (fun v h L => v = none ∧ Fr n0 L ∧ n0 ≤ h.size ∧ ∃ fw', own_W fo fc fw' ∧ own_S Z h n0 a1 cb zb wb fc fo fw') := by
  refine own_enter (plainFor_of_name own_pn2) ?_
  intro p e s m below meth c s₁ X0 e0 hx hZ hby hml hown hnm hret hlk
  refine own_cast (g' := (mkF m 0 #[.val (.ref a1), .val (.int (0 : Int32)), .unset] [])) (by first | (simp [entryFrame, mkF, argsToLocals, Value.category]; done) | rfl) ?_
  have N0 := Fr.nil n0
  obtain ⟨E0, Fl0, Fc0, Fo0, Fw0, Ac0, Ao0, Aw0, gc0, gz0, gw0, nac0, naz0, naw0, ncz0, ncw0, nzw0⟩ := S0
  obtain ⟨h4, h5, h6, h7, h3⟩ := hW
  refine own_g (mkF m 1 #[.val (.ref a1), .val (.int (0 : Int32)), .unset] [(.ref a1)]) (fun _ kz => XS.aloadN X0.here hx rfl (hb hby od_29_5_0) rfl rfl kz) ?_
  obtain ⟨T15, X15, e15, st15⟩ := getF X0 hx hZ hown (host := "") (Or.inl (own_w hw 23 rfl)) Via.refl e0 Fl0 (g := (mkF m 1 #[.val (.ref a1), .val (.int (0 : Int32)), .unset] [(.ref a1)])) rfl rfl (hb hby od_29_5_1)
  refine own_s st15 ?_
  show own_E p e below _ (T15.setTop (mkF m 4 #[.val (.ref a1), .val (.int (0 : Int32)), .unset] [(.int (4 : Int32))]))
  refine own_g (mkF m 5 #[.val (.ref a1), .val (.int (0 : Int32)), .unset] [(.int (0 : Int32)), (.int (4 : Int32))]) (fun _ kz => XS.iloadN X15.here hx rfl (hb hby od_29_5_4) rfl kz) ?_
  refine own_g (mkF m 6 #[.val (.ref a1), .val (.int (0 : Int32)), .unset] [(.int ((4 : Int32) + (0 : Int32)))]) (fun _ kz => XS.iadd X15.here hx rfl (hb hby od_29_5_5) rfl kz) ?_
  rw [show ((4 : Int32) + (0 : Int32)) = (4 : Int32) from by decide]
  show own_E p e below _ (T15.setTop (mkF m 6 #[.val (.ref a1), .val (.int (0 : Int32)), .unset] [(.int (4 : Int32))]))
  refine own_g (mkF m 7 #[.val (.ref a1), .val (.int (0 : Int32)), .unset] [(.int (2 : Int32)), (.int (4 : Int32))]) (fun _ kz => XS.iconst X15.here hx rfl (hb hby od_29_5_6) kz) ?_
  refine own_g (mkF m 8 #[.val (.ref a1), .val (.int (0 : Int32)), .unset] [(.int ((4 : Int32) / (2 : Int32)))]) (fun _ kz => XS.idiv X15.here hx rfl (hb hby od_29_5_7) rfl (by decide) kz) ?_
  rw [show ((4 : Int32) / (2 : Int32)) = (2 : Int32) from by decide]
  show own_E p e below _ (T15.setTop (mkF m 8 #[.val (.ref a1), .val (.int (0 : Int32)), .unset] [(.int (2 : Int32))]))
  refine own_g (mkF m 9 #[.val (.ref a1), .val (.int (0 : Int32)), .val (.int (2 : Int32))] []) (fun _ kz => XS.istoreN X15.here hx rfl (hb hby od_29_5_8) rfl (l' := #[.val (.ref a1), .val (.int (0 : Int32)), .val (.int (2 : Int32))]) rfl kz) ?_
  refine own_g (mkF m 10 #[.val (.ref a1), .val (.int (0 : Int32)), .val (.int (2 : Int32))] [(.int (2 : Int32))]) (fun _ kz => XS.iloadN X15.here hx rfl (hb hby od_29_5_9) rfl kz) ?_
  refine own_g (mkF m 11 #[.val (.ref a1), .val (.int (0 : Int32)), .val (.int (2 : Int32))] [(.int (1 : Int32)), (.int (2 : Int32))]) (fun _ kz => XS.iconst X15.here hx rfl (hb hby od_29_5_10) kz) ?_
  refine own_g (mkF m 14 #[.val (.ref a1), .val (.int (0 : Int32)), .val (.int (2 : Int32))] []) (fun _ kz => XS.icmpNo X15.here hx rfl (hb hby od_29_5_11) rfl (flt (by decide)).1 kz) ?_
  refine own_g (mkF m 15 #[.val (.ref a1), .val (.int (0 : Int32)), .val (.int (2 : Int32))] [(.ref a1)]) (fun _ kz => XS.aloadN X15.here hx rfl (hb hby od_29_5_14) rfl rfl kz) ?_
  obtain ⟨T16, X16, e16, st16⟩ := getF X15 hx hZ hown (host := "") (Or.inl (own_w hw 30 rfl)) Via.refl e15 Fw0 (g := (mkF m 15 #[.val (.ref a1), .val (.int (0 : Int32)), .val (.int (2 : Int32))] [(.ref a1)])) rfl rfl (hb hby od_29_5_15)
  refine own_s st16 ?_
  show own_E p e below _ (T16.setTop (mkF m 18 #[.val (.ref a1), .val (.int (0 : Int32)), .val (.int (2 : Int32))] [(.ref wb)]))
  refine own_g (mkF m 19 #[.val (.ref a1), .val (.int (0 : Int32)), .val (.int (2 : Int32))] [(.int (2 : Int32)), (.ref wb)]) (fun _ kz => XS.iloadN X16.here hx rfl (hb hby od_29_5_18) rfl kz) ?_
  refine own_g (mkF m 20 #[.val (.ref a1), .val (.int (0 : Int32)), .val (.int (2 : Int32))] [(.ref a1), (.int (2 : Int32)), (.ref wb)]) (fun _ kz => XS.aloadN X16.here hx rfl (hb hby od_29_5_19) rfl rfl kz) ?_
  refine own_g (mkF m 21 #[.val (.ref a1), .val (.int (0 : Int32)), .val (.int (2 : Int32))] [(.ref a1), (.ref a1), (.int (2 : Int32)), (.ref wb)]) (fun _ kz => XS.aloadN X16.here hx rfl (hb hby od_29_5_20) rfl rfl kz) ?_
  obtain ⟨T17, X17, e17, st17⟩ := getF X16 hx hZ hown (host := "") (Or.inl (own_w hw 30 rfl)) Via.refl e16 Fw0 (g := (mkF m 21 #[.val (.ref a1), .val (.int (0 : Int32)), .val (.int (2 : Int32))] [(.ref a1), (.ref a1), (.int (2 : Int32)), (.ref wb)])) rfl rfl (hb hby od_29_5_21)
  refine own_s st17 ?_
  show own_E p e below _ (T17.setTop (mkF m 24 #[.val (.ref a1), .val (.int (0 : Int32)), .val (.int (2 : Int32))] [(.ref wb), (.ref a1), (.int (2 : Int32)), (.ref wb)]))
  refine own_g (mkF m 25 #[.val (.ref a1), .val (.int (0 : Int32)), .val (.int (2 : Int32))] [(.int (2 : Int32)), (.ref wb), (.ref a1), (.int (2 : Int32)), (.ref wb)]) (fun _ kz => XS.iconst X17.here hx rfl (hb hby od_29_5_24) kz) ?_
  refine own_g (mkF m 26 #[.val (.ref a1), .val (.int (0 : Int32)), .val (.int (2 : Int32))] [(.int (2 : Int32)), (.int (2 : Int32)), (.ref wb), (.ref a1), (.int (2 : Int32)), (.ref wb)]) (fun _ kz => XS.iloadN X17.here hx rfl (hb hby od_29_5_25) rfl kz) ?_
  refine own_g (mkF m 27 #[.val (.ref a1), .val (.int (0 : Int32)), .val (.int (2 : Int32))] [(.int ((2 : Int32) * (2 : Int32))), (.ref wb), (.ref a1), (.int (2 : Int32)), (.ref wb)]) (fun _ kz => XS.imul X17.here hx rfl (hb hby od_29_5_26) rfl kz) ?_
  rw [show ((2 : Int32) * (2 : Int32)) = (4 : Int32) from by decide]
  show own_E p e below _ (T17.setTop (mkF m 27 #[.val (.ref a1), .val (.int (0 : Int32)), .val (.int (2 : Int32))] [(.int (4 : Int32)), (.ref wb), (.ref a1), (.int (2 : Int32)), (.ref wb)]))
  refine own_ildI X17 hx hZ e17 Aw0 (hb hby od_29_5_27) (by decide) (i := 4) rfl (by decide) (x := (0 : Int32)) h4 ?_
  show own_E p e below _ (T17.setTop (mkF m 28 #[.val (.ref a1), .val (.int (0 : Int32)), .val (.int (2 : Int32))] [(.int (0 : Int32)), (.ref a1), (.int (2 : Int32)), (.ref wb)]))
  refine own_g (mkF m 29 #[.val (.ref a1), .val (.int (0 : Int32)), .val (.int (2 : Int32))] [(.ref a1), (.int (0 : Int32)), (.ref a1), (.int (2 : Int32)), (.ref wb)]) (fun _ kz => XS.aloadN X17.here hx rfl (hb hby od_29_5_28) rfl rfl kz) ?_
  obtain ⟨T18, X18, e18, st18⟩ := getF X17 hx hZ hown (host := "") (Or.inl (own_w hw 30 rfl)) Via.refl e17 Fw0 (g := (mkF m 29 #[.val (.ref a1), .val (.int (0 : Int32)), .val (.int (2 : Int32))] [(.ref a1), (.int (0 : Int32)), (.ref a1), (.int (2 : Int32)), (.ref wb)])) rfl rfl (hb hby od_29_5_29)
  refine own_s st18 ?_
  show own_E p e below _ (T18.setTop (mkF m 32 #[.val (.ref a1), .val (.int (0 : Int32)), .val (.int (2 : Int32))] [(.ref wb), (.int (0 : Int32)), (.ref a1), (.int (2 : Int32)), (.ref wb)]))
  refine own_g (mkF m 33 #[.val (.ref a1), .val (.int (0 : Int32)), .val (.int (2 : Int32))] [(.int (2 : Int32)), (.ref wb), (.int (0 : Int32)), (.ref a1), (.int (2 : Int32)), (.ref wb)]) (fun _ kz => XS.iconst X18.here hx rfl (hb hby od_29_5_32) kz) ?_
  refine own_g (mkF m 34 #[.val (.ref a1), .val (.int (0 : Int32)), .val (.int (2 : Int32))] [(.int (2 : Int32)), (.int (2 : Int32)), (.ref wb), (.int (0 : Int32)), (.ref a1), (.int (2 : Int32)), (.ref wb)]) (fun _ kz => XS.iloadN X18.here hx rfl (hb hby od_29_5_33) rfl kz) ?_
  refine own_g (mkF m 35 #[.val (.ref a1), .val (.int (0 : Int32)), .val (.int (2 : Int32))] [(.int ((2 : Int32) * (2 : Int32))), (.ref wb), (.int (0 : Int32)), (.ref a1), (.int (2 : Int32)), (.ref wb)]) (fun _ kz => XS.imul X18.here hx rfl (hb hby od_29_5_34) rfl kz) ?_
  rw [show ((2 : Int32) * (2 : Int32)) = (4 : Int32) from by decide]
  show own_E p e below _ (T18.setTop (mkF m 35 #[.val (.ref a1), .val (.int (0 : Int32)), .val (.int (2 : Int32))] [(.int (4 : Int32)), (.ref wb), (.int (0 : Int32)), (.ref a1), (.int (2 : Int32)), (.ref wb)]))
  refine own_g (mkF m 36 #[.val (.ref a1), .val (.int (0 : Int32)), .val (.int (2 : Int32))] [(.int (1 : Int32)), (.int (4 : Int32)), (.ref wb), (.int (0 : Int32)), (.ref a1), (.int (2 : Int32)), (.ref wb)]) (fun _ kz => XS.iconst X18.here hx rfl (hb hby od_29_5_35) kz) ?_
  refine own_g (mkF m 37 #[.val (.ref a1), .val (.int (0 : Int32)), .val (.int (2 : Int32))] [(.int ((4 : Int32) + (1 : Int32))), (.ref wb), (.int (0 : Int32)), (.ref a1), (.int (2 : Int32)), (.ref wb)]) (fun _ kz => XS.iadd X18.here hx rfl (hb hby od_29_5_36) rfl kz) ?_
  rw [show ((4 : Int32) + (1 : Int32)) = (5 : Int32) from by decide]
  show own_E p e below _ (T18.setTop (mkF m 37 #[.val (.ref a1), .val (.int (0 : Int32)), .val (.int (2 : Int32))] [(.int (5 : Int32)), (.ref wb), (.int (0 : Int32)), (.ref a1), (.int (2 : Int32)), (.ref wb)]))
  refine own_ildI X18 hx hZ e18 Aw0 (hb hby od_29_5_37) (by decide) (i := 5) rfl (by decide) (x := (1 : Int32)) h5 ?_
  show own_E p e below _ (T18.setTop (mkF m 38 #[.val (.ref a1), .val (.int (0 : Int32)), .val (.int (2 : Int32))] [(.int (1 : Int32)), (.int (0 : Int32)), (.ref a1), (.int (2 : Int32)), (.ref wb)]))
  refine own_callP (rest := [(.int (2 : Int32)), (.ref wb)]) (a := a1) (as := [(.int (0 : Int32)), (.int (1 : Int32))]) X18 hx hZ hown e18 (own_c_mat l Z a0 hw a1 cb zb wb fc fo fw (0 : Int32) (1 : Int32) h0 n0 Z0 (Or.inr (Or.inl rfl)) (Or.inr (Or.inr (Or.inl rfl))) ⟨E0, Fl0, Fc0, Fo0, Fw0, Ac0, Ao0, Aw0, gc0, gz0, gw0, nac0, naz0, naw0, ncz0, ncw0, nzw0⟩) E0 (own_w hw 36 rfl) (own_w hw 2 rfl) (own_w hw 38 rfl) (own_w hw 37 rfl) (own_w hw 3 rfl) (own_w hw 39 rfl) (by decide) own_pd1 rfl (by rw [hml]; rfl) rfl (hb hby od_29_5_38) 2 (by show 2 * 0 + _ ≤ _; exact Nat.le_of_eq rfl) (by decide) (by decide) (by decide) (by decide) ?_
  rintro _ T19 L19 X19 ⟨rfl, rfl, e19⟩
  have N19 := Fr.app N0 (Fr.nil n0)
  show own_E p e below _ (T19.setTop (mkF m 41 #[.val (.ref a1), .val (.int (0 : Int32)), .val (.int (2 : Int32))] [(.int (own_mt fo fc (0 : Int32) (1 : Int32))), (.int (2 : Int32)), (.ref wb)]))
  refine own_stI X19 hx hZ e19 Aw0 (hb hby od_29_5_41) (by decide) (i := 2) rfl (by decide) ?_
  intro T20 h20 X20 e20 W20 A20
  have N20 := Fr.snoc X20 N19 gw0
  have s21 : n0 ≤ h20.size := Nat.le_trans Z0 (Keep.of_wr W20).1
  have f22 := Exa.wr W20 E0
  have f23 := Fld.other W20 Fl0 (Or.inl naw0)
  have f24 := Fld.other W20 Fc0 (Or.inl naw0)
  have f25 := Fld.other W20 Fo0 (Or.inl naw0)
  have f26 := Fld.other W20 Fw0 (Or.inl naw0)
  have f27 := Ac0.other W20 ncw0
  have f28 := Ao0.other W20 nzw0
  show own_E p e below _ (T20.setTop (mkF m 42 #[.val (.ref a1), .val (.int (0 : Int32)), .val (.int (2 : Int32))] []))
  obtain ⟨fw1, efw1, Afw1x⟩ : ∃ F, F = (own_set fw 2 (own_mt fo fc (0 : Int32) (1 : Int32))) ∧ own_IA Z h20 wb .int 8 F := ⟨_, rfl, A20⟩
  have hv29 : fw1 4 = (0 : Int32) := by rw [efw1, own_set_other _ _ (by decide)]; exact h4
  have hv30 : fw1 5 = (1 : Int32) := by rw [efw1, own_set_other _ _ (by decide)]; exact h5
  have hv31 : fw1 6 = (2 : Int32) := by rw [efw1, own_set_other _ _ (by decide)]; exact h6
  have hv32 : fw1 7 = (-1 : Int32) := by rw [efw1, own_set_other _ _ (by decide)]; exact h7
  have hv33 : fw1 3 = (2 : Int32) := by rw [efw1, own_set_other _ _ (by decide)]; exact h3
  have hv34 : fw1 2 = (own_mt fo fc (0 : Int32) (1 : Int32)) := by rw [efw1, own_set_same]
  refine own_g (mkF m 43 #[.val (.ref a1), .val (.int (0 : Int32)), .val (.int (2 : Int32))] [(.int (2 : Int32))]) (fun _ kz => XS.iloadN X20.here hx rfl (hb hby od_29_5_42) rfl kz) ?_
  refine own_g (mkF m 44 #[.val (.ref a1), .val (.int (0 : Int32)), .val (.int (2 : Int32))] [(.int (2 : Int32)), (.int (2 : Int32))]) (fun _ kz => XS.iconst X20.here hx rfl (hb hby od_29_5_43) kz) ?_
  refine own_g (mkF m 45 #[.val (.ref a1), .val (.int (0 : Int32)), .val (.int (2 : Int32))] [(.int ((2 : Int32) / (2 : Int32)))]) (fun _ kz => XS.idiv X20.here hx rfl (hb hby od_29_5_44) rfl (by decide) kz) ?_
  rw [show ((2 : Int32) / (2 : Int32)) = (1 : Int32) from by decide]
  show own_E p e below _ (T20.setTop (mkF m 45 #[.val (.ref a1), .val (.int (0 : Int32)), .val (.int (2 : Int32))] [(.int (1 : Int32))]))
  refine own_g (mkF m 46 #[.val (.ref a1), .val (.int (0 : Int32)), .val (.int (1 : Int32))] []) (fun _ kz => XS.istoreN X20.here hx rfl (hb hby od_29_5_45) rfl (l' := #[.val (.ref a1), .val (.int (0 : Int32)), .val (.int (1 : Int32))]) rfl kz) ?_
  refine own_g (mkF m 9 #[.val (.ref a1), .val (.int (0 : Int32)), .val (.int (1 : Int32))] []) (fun _ kz => XS.goto X20.here hx rfl (pc0 := 46) (pc' := 9) rfl (hb hby od_29_5_46) (by decide) (by decide) kz) ?_
  refine own_g (mkF m 10 #[.val (.ref a1), .val (.int (0 : Int32)), .val (.int (1 : Int32))] [(.int (1 : Int32))]) (fun _ kz => XS.iloadN X20.here hx rfl (hb hby od_29_5_9) rfl kz) ?_
  refine own_g (mkF m 11 #[.val (.ref a1), .val (.int (0 : Int32)), .val (.int (1 : Int32))] [(.int (1 : Int32)), (.int (1 : Int32))]) (fun _ kz => XS.iconst X20.here hx rfl (hb hby od_29_5_10) kz) ?_
  refine own_g (mkF m 14 #[.val (.ref a1), .val (.int (0 : Int32)), .val (.int (1 : Int32))] []) (fun _ kz => XS.icmpNo X20.here hx rfl (hb hby od_29_5_11) rfl (flt (by decide)).1 kz) ?_
  refine own_g (mkF m 15 #[.val (.ref a1), .val (.int (0 : Int32)), .val (.int (1 : Int32))] [(.ref a1)]) (fun _ kz => XS.aloadN X20.here hx rfl (hb hby od_29_5_14) rfl rfl kz) ?_
  obtain ⟨T35, X35, e35, st35⟩ := getF X20 hx hZ hown (host := "") (Or.inl (own_w hw 30 rfl)) Via.refl e20 f26 (g := (mkF m 15 #[.val (.ref a1), .val (.int (0 : Int32)), .val (.int (1 : Int32))] [(.ref a1)])) rfl rfl (hb hby od_29_5_15)
  refine own_s st35 ?_
  show own_E p e below _ (T35.setTop (mkF m 18 #[.val (.ref a1), .val (.int (0 : Int32)), .val (.int (1 : Int32))] [(.ref wb)]))
  refine own_g (mkF m 19 #[.val (.ref a1), .val (.int (0 : Int32)), .val (.int (1 : Int32))] [(.int (1 : Int32)), (.ref wb)]) (fun _ kz => XS.iloadN X35.here hx rfl (hb hby od_29_5_18) rfl kz) ?_
  refine own_g (mkF m 20 #[.val (.ref a1), .val (.int (0 : Int32)), .val (.int (1 : Int32))] [(.ref a1), (.int (1 : Int32)), (.ref wb)]) (fun _ kz => XS.aloadN X35.here hx rfl (hb hby od_29_5_19) rfl rfl kz) ?_
  refine own_g (mkF m 21 #[.val (.ref a1), .val (.int (0 : Int32)), .val (.int (1 : Int32))] [(.ref a1), (.ref a1), (.int (1 : Int32)), (.ref wb)]) (fun _ kz => XS.aloadN X35.here hx rfl (hb hby od_29_5_20) rfl rfl kz) ?_
  obtain ⟨T36, X36, e36, st36⟩ := getF X35 hx hZ hown (host := "") (Or.inl (own_w hw 30 rfl)) Via.refl e35 f26 (g := (mkF m 21 #[.val (.ref a1), .val (.int (0 : Int32)), .val (.int (1 : Int32))] [(.ref a1), (.ref a1), (.int (1 : Int32)), (.ref wb)])) rfl rfl (hb hby od_29_5_21)
  refine own_s st36 ?_
  show own_E p e below _ (T36.setTop (mkF m 24 #[.val (.ref a1), .val (.int (0 : Int32)), .val (.int (1 : Int32))] [(.ref wb), (.ref a1), (.int (1 : Int32)), (.ref wb)]))
  refine own_g (mkF m 25 #[.val (.ref a1), .val (.int (0 : Int32)), .val (.int (1 : Int32))] [(.int (2 : Int32)), (.ref wb), (.ref a1), (.int (1 : Int32)), (.ref wb)]) (fun _ kz => XS.iconst X36.here hx rfl (hb hby od_29_5_24) kz) ?_
  refine own_g (mkF m 26 #[.val (.ref a1), .val (.int (0 : Int32)), .val (.int (1 : Int32))] [(.int (1 : Int32)), (.int (2 : Int32)), (.ref wb), (.ref a1), (.int (1 : Int32)), (.ref wb)]) (fun _ kz => XS.iloadN X36.here hx rfl (hb hby od_29_5_25) rfl kz) ?_
  refine own_g (mkF m 27 #[.val (.ref a1), .val (.int (0 : Int32)), .val (.int (1 : Int32))] [(.int ((2 : Int32) * (1 : Int32))), (.ref wb), (.ref a1), (.int (1 : Int32)), (.ref wb)]) (fun _ kz => XS.imul X36.here hx rfl (hb hby od_29_5_26) rfl kz) ?_
  rw [show ((2 : Int32) * (1 : Int32)) = (2 : Int32) from by decide]
  show own_E p e below _ (T36.setTop (mkF m 27 #[.val (.ref a1), .val (.int (0 : Int32)), .val (.int (1 : Int32))] [(.int (2 : Int32)), (.ref wb), (.ref a1), (.int (1 : Int32)), (.ref wb)]))
  refine own_ildI X36 hx hZ e36 Afw1x (hb hby od_29_5_27) (by decide) (i := 2) rfl (by decide) (x := (own_mt fo fc (0 : Int32) (1 : Int32))) hv34 ?_
  show own_E p e below _ (T36.setTop (mkF m 28 #[.val (.ref a1), .val (.int (0 : Int32)), .val (.int (1 : Int32))] [(.int (own_mt fo fc (0 : Int32) (1 : Int32))), (.ref a1), (.int (1 : Int32)), (.ref wb)]))
  refine own_g (mkF m 29 #[.val (.ref a1), .val (.int (0 : Int32)), .val (.int (1 : Int32))] [(.ref a1), (.int (own_mt fo fc (0 : Int32) (1 : Int32))), (.ref a1), (.int (1 : Int32)), (.ref wb)]) (fun _ kz => XS.aloadN X36.here hx rfl (hb hby od_29_5_28) rfl rfl kz) ?_
  obtain ⟨T37, X37, e37, st37⟩ := getF X36 hx hZ hown (host := "") (Or.inl (own_w hw 30 rfl)) Via.refl e36 f26 (g := (mkF m 29 #[.val (.ref a1), .val (.int (0 : Int32)), .val (.int (1 : Int32))] [(.ref a1), (.int (own_mt fo fc (0 : Int32) (1 : Int32))), (.ref a1), (.int (1 : Int32)), (.ref wb)])) rfl rfl (hb hby od_29_5_29)
  refine own_s st37 ?_
  show own_E p e below _ (T37.setTop (mkF m 32 #[.val (.ref a1), .val (.int (0 : Int32)), .val (.int (1 : Int32))] [(.ref wb), (.int (own_mt fo fc (0 : Int32) (1 : Int32))), (.ref a1), (.int (1 : Int32)), (.ref wb)]))
  refine own_g (mkF m 33 #[.val (.ref a1), .val (.int (0 : Int32)), .val (.int (1 : Int32))] [(.int (2 : Int32)), (.ref wb), (.int (own_mt fo fc (0 : Int32) (1 : Int32))), (.ref a1), (.int (1 : Int32)), (.ref wb)]) (fun _ kz => XS.iconst X37.here hx rfl (hb hby od_29_5_32) kz) ?_
  refine own_g (mkF m 34 #[.val (.ref a1), .val (.int (0 : Int32)), .val (.int (1 : Int32))] [(.int (1 : Int32)), (.int (2 : Int32)), (.ref wb), (.int (own_mt fo fc (0 : Int32) (1 : Int32))), (.ref a1), (.int (1 : Int32)), (.ref wb)]) (fun _ kz => XS.iloadN X37.here hx rfl (hb hby od_29_5_33) rfl kz) ?_
  refine own_g (mkF m 35 #[.val (.ref a1), .val (.int (0 : Int32)), .val (.int (1 : Int32))] [(.int ((2 : Int32) * (1 : Int32))), (.ref wb), (.int (own_mt fo fc (0 : Int32) (1 : Int32))), (.ref a1), (.int (1 : Int32)), (.ref wb)]) (fun _ kz => XS.imul X37.here hx rfl (hb hby od_29_5_34) rfl kz) ?_
  rw [show ((2 : Int32) * (1 : Int32)) = (2 : Int32) from by decide]
  show own_E p e below _ (T37.setTop (mkF m 35 #[.val (.ref a1), .val (.int (0 : Int32)), .val (.int (1 : Int32))] [(.int (2 : Int32)), (.ref wb), (.int (own_mt fo fc (0 : Int32) (1 : Int32))), (.ref a1), (.int (1 : Int32)), (.ref wb)]))
  refine own_g (mkF m 36 #[.val (.ref a1), .val (.int (0 : Int32)), .val (.int (1 : Int32))] [(.int (1 : Int32)), (.int (2 : Int32)), (.ref wb), (.int (own_mt fo fc (0 : Int32) (1 : Int32))), (.ref a1), (.int (1 : Int32)), (.ref wb)]) (fun _ kz => XS.iconst X37.here hx rfl (hb hby od_29_5_35) kz) ?_
  refine own_g (mkF m 37 #[.val (.ref a1), .val (.int (0 : Int32)), .val (.int (1 : Int32))] [(.int ((2 : Int32) + (1 : Int32))), (.ref wb), (.int (own_mt fo fc (0 : Int32) (1 : Int32))), (.ref a1), (.int (1 : Int32)), (.ref wb)]) (fun _ kz => XS.iadd X37.here hx rfl (hb hby od_29_5_36) rfl kz) ?_
  rw [show ((2 : Int32) + (1 : Int32)) = (3 : Int32) from by decide]
  show own_E p e below _ (T37.setTop (mkF m 37 #[.val (.ref a1), .val (.int (0 : Int32)), .val (.int (1 : Int32))] [(.int (3 : Int32)), (.ref wb), (.int (own_mt fo fc (0 : Int32) (1 : Int32))), (.ref a1), (.int (1 : Int32)), (.ref wb)]))
  refine own_ildI X37 hx hZ e37 Afw1x (hb hby od_29_5_37) (by decide) (i := 3) rfl (by decide) (x := (2 : Int32)) hv33 ?_
  show own_E p e below _ (T37.setTop (mkF m 38 #[.val (.ref a1), .val (.int (0 : Int32)), .val (.int (1 : Int32))] [(.int (2 : Int32)), (.int (own_mt fo fc (0 : Int32) (1 : Int32))), (.ref a1), (.int (1 : Int32)), (.ref wb)]))
  refine own_callP (rest := [(.int (1 : Int32)), (.ref wb)]) (a := a1) (as := [(.int (own_mt fo fc (0 : Int32) (1 : Int32))), (.int (2 : Int32))]) X37 hx hZ hown e37 (own_c_mat l Z a0 hw a1 cb zb wb fc fo fw1 (own_mt fo fc (0 : Int32) (1 : Int32)) (2 : Int32) h20 n0 s21 (own_mt_dom (Or.inr (Or.inl rfl)) (Or.inr (Or.inr (Or.inl rfl)))) (Or.inr (Or.inr (Or.inr rfl))) ⟨f22, f23, f24, f25, f26, f27, f28, Afw1x, gc0, gz0, gw0, nac0, naz0, naw0, ncz0, ncw0, nzw0⟩) f22 (own_w hw 36 rfl) (own_w hw 2 rfl) (own_w hw 38 rfl) (own_w hw 37 rfl) (own_w hw 3 rfl) (own_w hw 39 rfl) (by decide) own_pd1 rfl (by rw [hml]; rfl) rfl (hb hby od_29_5_38) 2 (by show 2 * 0 + _ ≤ _; exact Nat.le_of_eq rfl) (by decide) (by decide) (by decide) (by decide) ?_
  rintro _ T38 L38 X38 ⟨rfl, rfl, e38⟩
  have N38 := Fr.app N20 (Fr.nil n0)
  show own_E p e below _ (T38.setTop (mkF m 41 #[.val (.ref a1), .val (.int (0 : Int32)), .val (.int (1 : Int32))] [(.int (own_mt fo fc (own_mt fo fc (0 : Int32) (1 : Int32)) (2 : Int32))), (.int (1 : Int32)), (.ref wb)]))
  refine own_stI X38 hx hZ e38 Afw1x (hb hby od_29_5_41) (by decide) (i := 1) rfl (by decide) ?_
  intro T39 h39 X39 e39 W39 A39
  have N39 := Fr.snoc X39 N38 gw0
  have s40 : n0 ≤ h39.size := Nat.le_trans s21 (Keep.of_wr W39).1
  have f41 := Exa.wr W39 f22
  have f42 := Fld.other W39 f23 (Or.inl naw0)
  have f43 := Fld.other W39 f24 (Or.inl naw0)
  have f44 := Fld.other W39 f25 (Or.inl naw0)
  have f45 := Fld.other W39 f26 (Or.inl naw0)
  have f46 := f27.other W39 ncw0
  have f47 := f28.other W39 nzw0
  show own_E p e below _ (T39.setTop (mkF m 42 #[.val (.ref a1), .val (.int (0 : Int32)), .val (.int (1 : Int32))] []))
  obtain ⟨fw2, efw2, Afw2x⟩ : ∃ F, F = (own_set fw1 1 (own_mt fo fc (own_mt fo fc (0 : Int32) (1 : Int32)) (2 : Int32))) ∧ own_IA Z h39 wb .int 8 F := ⟨_, rfl, A39⟩
  have hv48 : fw2 4 = (0 : Int32) := by rw [efw2, own_set_other _ _ (by decide)]; exact hv29
  have hv49 : fw2 5 = (1 : Int32) := by rw [efw2, own_set_other _ _ (by decide)]; exact hv30
  have hv50 : fw2 6 = (2 : Int32) := by rw [efw2, own_set_other _ _ (by decide)]; exact hv31
  have hv51 : fw2 7 = (-1 : Int32) := by rw [efw2, own_set_other _ _ (by decide)]; exact hv32
  have hv52 : fw2 3 = (2 : Int32) := by rw [efw2, own_set_other _ _ (by decide)]; exact hv33
  have hv53 : fw2 2 = (own_mt fo fc (0 : Int32) (1 : Int32)) := by rw [efw2, own_set_other _ _ (by decide)]; exact hv34
  have hv54 : fw2 1 = (own_mt fo fc (own_mt fo fc (0 : Int32) (1 : Int32)) (2 : Int32)) := by rw [efw2, own_set_same]
  refine own_g (mkF m 43 #[.val (.ref a1), .val (.int (0 : Int32)), .val (.int (1 : Int32))] [(.int (1 : Int32))]) (fun _ kz => XS.iloadN X39.here hx rfl (hb hby od_29_5_42) rfl kz) ?_
  refine own_g (mkF m 44 #[.val (.ref a1), .val (.int (0 : Int32)), .val (.int (1 : Int32))] [(.int (2 : Int32)), (.int (1 : Int32))]) (fun _ kz => XS.iconst X39.here hx rfl (hb hby od_29_5_43) kz) ?_
  refine own_g (mkF m 45 #[.val (.ref a1), .val (.int (0 : Int32)), .val (.int (1 : Int32))] [(.int ((1 : Int32) / (2 : Int32)))]) (fun _ kz => XS.idiv X39.here hx rfl (hb hby od_29_5_44) rfl (by decide) kz) ?_
  rw [show ((1 : Int32) / (2 : Int32)) = (0 : Int32) from by decide]
  show own_E p e below _ (T39.setTop (mkF m 45 #[.val (.ref a1), .val (.int (0 : Int32)), .val (.int (1 : Int32))] [(.int (0 : Int32))]))
  refine own_g (mkF m 46 #[.val (.ref a1), .val (.int (0 : Int32)), .val (.int (0 : Int32))] []) (fun _ kz => XS.istoreN X39.here hx rfl (hb hby od_29_5_45) rfl (l' := #[.val (.ref a1), .val (.int (0 : Int32)), .val (.int (0 : Int32))]) rfl kz) ?_
  refine own_g (mkF m 9 #[.val (.ref a1), .val (.int (0 : Int32)), .val (.int (0 : Int32))] []) (fun _ kz => XS.goto X39.here hx rfl (pc0 := 46) (pc' := 9) rfl (hb hby od_29_5_46) (by decide) (by decide) kz) ?_
  refine own_g (mkF m 10 #[.val (.ref a1), .val (.int (0 : Int32)), .val (.int (0 : Int32))] [(.int (0 : Int32))]) (fun _ kz => XS.iloadN X39.here hx rfl (hb hby od_29_5_9) rfl kz) ?_
  refine own_g (mkF m 11 #[.val (.ref a1), .val (.int (0 : Int32)), .val (.int (0 : Int32))] [(.int (1 : Int32)), (.int (0 : Int32))]) (fun _ kz => XS.iconst X39.here hx rfl (hb hby od_29_5_10) kz) ?_
  refine own_g (mkF m 49 #[.val (.ref a1), .val (.int (0 : Int32)), .val (.int (0 : Int32))] []) (fun _ kz => XS.icmpYes X39.here hx rfl (pc0 := 11) (pc' := 49) rfl (hb hby od_29_5_11) rfl (tlt (by decide)).1 (by decide) (by decide) kz) ?_
  exact own_retV X39 hx hret hlk (hb hby od_29_5_49) (by decide) (by decide) (by first | exact ⟨rfl, N39, s40, fw2, ⟨hv48, hv49, hv50, hv51, hv52, hv53, hv54⟩, ⟨f41, f42, f43, f44, f45, f46, f47, Afw2x, gc0, gz0, gw0, nac0, naz0, naw0, ncz0, ncw0, nzw0⟩⟩ | (rw [e39]; exact ⟨rfl, N39, s40, fw2, ⟨hv48, hv49, hv50, hv51, hv52, hv53, hv54⟩, ⟨f41, f42, f43, f44, f45, f46, f47, Afw2x, gc0, gz0, gw0, nac0, naz0, naw0, ncz0, ncw0, nzw0⟩⟩))
set_option maxRecDepth 65536 in
set_option maxHeartbeats 40000000 in
theorem own_c_rep1 (l : Launch) (Z : State) (a0 : Array Value) (hw : ∀ d ∈ tables_1, d.before a0 Z = true) (a1 : Addr) (cb : Addr) (zb : Addr) (wb : Addr) (fc : Nat → Int32) (fo : Nat → Int32) (fw : Nat → Int32) (h0 : Heap) (n0 : Nat) (Z0 : n0 ≤ h0.size) (hW : fw 4 = 0 ∧ fw 5 = 1 ∧ fw 6 = 2 ∧ fw 7 = -1 ∧ fw 3 = 2) (S0 : own_S Z h0 n0 a1 cb zb wb fc fo fw) :
    own_Con l Z (⟨"com/example/horncast/horncast/query/LeastCount", "replay", "(I)V"⟩ : MethodName) prog_29_method_5_code 3 none [] ({ frames := 1, cells := 0, slots := 0, locals := 18 } : Room) #[(.ref a1), (.int (1 : Int32))] h0 (fun v h L => v = none ∧ Fr n0 L ∧ n0 ≤ h.size ∧ ∃ fw', own_W fo fc fw' ∧ own_S Z h n0 a1 cb zb wb fc fo fw') := by
  refine own_enter (plainFor_of_name own_pn2) ?_
  intro p e s m below meth c s₁ X0 e0 hx hZ hby hml hown hnm hret hlk
  refine own_cast (g' := (mkF m 0 #[.val (.ref a1), .val (.int (1 : Int32)), .unset] [])) (by first | (simp [entryFrame, mkF, argsToLocals, Value.category]; done) | rfl) ?_
  have N0 := Fr.nil n0
  obtain ⟨E0, Fl0, Fc0, Fo0, Fw0, Ac0, Ao0, Aw0, gc0, gz0, gw0, nac0, naz0, naw0, ncz0, ncw0, nzw0⟩ := S0
  obtain ⟨h4, h5, h6, h7, h3⟩ := hW
  refine own_g (mkF m 1 #[.val (.ref a1), .val (.int (1 : Int32)), .unset] [(.ref a1)]) (fun _ kz => XS.aloadN X0.here hx rfl (hb hby od_29_5_0) rfl rfl kz) ?_
  obtain ⟨T55, X55, e55, st55⟩ := getF X0 hx hZ hown (host := "") (Or.inl (own_w hw 23 rfl)) Via.refl e0 Fl0 (g := (mkF m 1 #[.val (.ref a1), .val (.int (1 : Int32)), .unset] [(.ref a1)])) rfl rfl (hb hby od_29_5_1)
  refine own_s st55 ?_
  show own_E p e below _ (T55.setTop (mkF m 4 #[.val (.ref a1), .val (.int (1 : Int32)), .unset] [(.int (4 : Int32))]))
  refine own_g (mkF m 5 #[.val (.ref a1), .val (.int (1 : Int32)), .unset] [(.int (1 : Int32)), (.int (4 : Int32))]) (fun _ kz => XS.iloadN X55.here hx rfl (hb hby od_29_5_4) rfl kz) ?_
  refine own_g (mkF m 6 #[.val (.ref a1), .val (.int (1 : Int32)), .unset] [(.int ((4 : Int32) + (1 : Int32)))]) (fun _ kz => XS.iadd X55.here hx rfl (hb hby od_29_5_5) rfl kz) ?_
  rw [show ((4 : Int32) + (1 : Int32)) = (5 : Int32) from by decide]
  show own_E p e below _ (T55.setTop (mkF m 6 #[.val (.ref a1), .val (.int (1 : Int32)), .unset] [(.int (5 : Int32))]))
  refine own_g (mkF m 7 #[.val (.ref a1), .val (.int (1 : Int32)), .unset] [(.int (2 : Int32)), (.int (5 : Int32))]) (fun _ kz => XS.iconst X55.here hx rfl (hb hby od_29_5_6) kz) ?_
  refine own_g (mkF m 8 #[.val (.ref a1), .val (.int (1 : Int32)), .unset] [(.int ((5 : Int32) / (2 : Int32)))]) (fun _ kz => XS.idiv X55.here hx rfl (hb hby od_29_5_7) rfl (by decide) kz) ?_
  rw [show ((5 : Int32) / (2 : Int32)) = (2 : Int32) from by decide]
  show own_E p e below _ (T55.setTop (mkF m 8 #[.val (.ref a1), .val (.int (1 : Int32)), .unset] [(.int (2 : Int32))]))
  refine own_g (mkF m 9 #[.val (.ref a1), .val (.int (1 : Int32)), .val (.int (2 : Int32))] []) (fun _ kz => XS.istoreN X55.here hx rfl (hb hby od_29_5_8) rfl (l' := #[.val (.ref a1), .val (.int (1 : Int32)), .val (.int (2 : Int32))]) rfl kz) ?_
  refine own_g (mkF m 10 #[.val (.ref a1), .val (.int (1 : Int32)), .val (.int (2 : Int32))] [(.int (2 : Int32))]) (fun _ kz => XS.iloadN X55.here hx rfl (hb hby od_29_5_9) rfl kz) ?_
  refine own_g (mkF m 11 #[.val (.ref a1), .val (.int (1 : Int32)), .val (.int (2 : Int32))] [(.int (1 : Int32)), (.int (2 : Int32))]) (fun _ kz => XS.iconst X55.here hx rfl (hb hby od_29_5_10) kz) ?_
  refine own_g (mkF m 14 #[.val (.ref a1), .val (.int (1 : Int32)), .val (.int (2 : Int32))] []) (fun _ kz => XS.icmpNo X55.here hx rfl (hb hby od_29_5_11) rfl (flt (by decide)).1 kz) ?_
  refine own_g (mkF m 15 #[.val (.ref a1), .val (.int (1 : Int32)), .val (.int (2 : Int32))] [(.ref a1)]) (fun _ kz => XS.aloadN X55.here hx rfl (hb hby od_29_5_14) rfl rfl kz) ?_
  obtain ⟨T56, X56, e56, st56⟩ := getF X55 hx hZ hown (host := "") (Or.inl (own_w hw 30 rfl)) Via.refl e55 Fw0 (g := (mkF m 15 #[.val (.ref a1), .val (.int (1 : Int32)), .val (.int (2 : Int32))] [(.ref a1)])) rfl rfl (hb hby od_29_5_15)
  refine own_s st56 ?_
  show own_E p e below _ (T56.setTop (mkF m 18 #[.val (.ref a1), .val (.int (1 : Int32)), .val (.int (2 : Int32))] [(.ref wb)]))
  refine own_g (mkF m 19 #[.val (.ref a1), .val (.int (1 : Int32)), .val (.int (2 : Int32))] [(.int (2 : Int32)), (.ref wb)]) (fun _ kz => XS.iloadN X56.here hx rfl (hb hby od_29_5_18) rfl kz) ?_
  refine own_g (mkF m 20 #[.val (.ref a1), .val (.int (1 : Int32)), .val (.int (2 : Int32))] [(.ref a1), (.int (2 : Int32)), (.ref wb)]) (fun _ kz => XS.aloadN X56.here hx rfl (hb hby od_29_5_19) rfl rfl kz) ?_
  refine own_g (mkF m 21 #[.val (.ref a1), .val (.int (1 : Int32)), .val (.int (2 : Int32))] [(.ref a1), (.ref a1), (.int (2 : Int32)), (.ref wb)]) (fun _ kz => XS.aloadN X56.here hx rfl (hb hby od_29_5_20) rfl rfl kz) ?_
  obtain ⟨T57, X57, e57, st57⟩ := getF X56 hx hZ hown (host := "") (Or.inl (own_w hw 30 rfl)) Via.refl e56 Fw0 (g := (mkF m 21 #[.val (.ref a1), .val (.int (1 : Int32)), .val (.int (2 : Int32))] [(.ref a1), (.ref a1), (.int (2 : Int32)), (.ref wb)])) rfl rfl (hb hby od_29_5_21)
  refine own_s st57 ?_
  show own_E p e below _ (T57.setTop (mkF m 24 #[.val (.ref a1), .val (.int (1 : Int32)), .val (.int (2 : Int32))] [(.ref wb), (.ref a1), (.int (2 : Int32)), (.ref wb)]))
  refine own_g (mkF m 25 #[.val (.ref a1), .val (.int (1 : Int32)), .val (.int (2 : Int32))] [(.int (2 : Int32)), (.ref wb), (.ref a1), (.int (2 : Int32)), (.ref wb)]) (fun _ kz => XS.iconst X57.here hx rfl (hb hby od_29_5_24) kz) ?_
  refine own_g (mkF m 26 #[.val (.ref a1), .val (.int (1 : Int32)), .val (.int (2 : Int32))] [(.int (2 : Int32)), (.int (2 : Int32)), (.ref wb), (.ref a1), (.int (2 : Int32)), (.ref wb)]) (fun _ kz => XS.iloadN X57.here hx rfl (hb hby od_29_5_25) rfl kz) ?_
  refine own_g (mkF m 27 #[.val (.ref a1), .val (.int (1 : Int32)), .val (.int (2 : Int32))] [(.int ((2 : Int32) * (2 : Int32))), (.ref wb), (.ref a1), (.int (2 : Int32)), (.ref wb)]) (fun _ kz => XS.imul X57.here hx rfl (hb hby od_29_5_26) rfl kz) ?_
  rw [show ((2 : Int32) * (2 : Int32)) = (4 : Int32) from by decide]
  show own_E p e below _ (T57.setTop (mkF m 27 #[.val (.ref a1), .val (.int (1 : Int32)), .val (.int (2 : Int32))] [(.int (4 : Int32)), (.ref wb), (.ref a1), (.int (2 : Int32)), (.ref wb)]))
  refine own_ildI X57 hx hZ e57 Aw0 (hb hby od_29_5_27) (by decide) (i := 4) rfl (by decide) (x := (0 : Int32)) h4 ?_
  show own_E p e below _ (T57.setTop (mkF m 28 #[.val (.ref a1), .val (.int (1 : Int32)), .val (.int (2 : Int32))] [(.int (0 : Int32)), (.ref a1), (.int (2 : Int32)), (.ref wb)]))
  refine own_g (mkF m 29 #[.val (.ref a1), .val (.int (1 : Int32)), .val (.int (2 : Int32))] [(.ref a1), (.int (0 : Int32)), (.ref a1), (.int (2 : Int32)), (.ref wb)]) (fun _ kz => XS.aloadN X57.here hx rfl (hb hby od_29_5_28) rfl rfl kz) ?_
  obtain ⟨T58, X58, e58, st58⟩ := getF X57 hx hZ hown (host := "") (Or.inl (own_w hw 30 rfl)) Via.refl e57 Fw0 (g := (mkF m 29 #[.val (.ref a1), .val (.int (1 : Int32)), .val (.int (2 : Int32))] [(.ref a1), (.int (0 : Int32)), (.ref a1), (.int (2 : Int32)), (.ref wb)])) rfl rfl (hb hby od_29_5_29)
  refine own_s st58 ?_
  show own_E p e below _ (T58.setTop (mkF m 32 #[.val (.ref a1), .val (.int (1 : Int32)), .val (.int (2 : Int32))] [(.ref wb), (.int (0 : Int32)), (.ref a1), (.int (2 : Int32)), (.ref wb)]))
  refine own_g (mkF m 33 #[.val (.ref a1), .val (.int (1 : Int32)), .val (.int (2 : Int32))] [(.int (2 : Int32)), (.ref wb), (.int (0 : Int32)), (.ref a1), (.int (2 : Int32)), (.ref wb)]) (fun _ kz => XS.iconst X58.here hx rfl (hb hby od_29_5_32) kz) ?_
  refine own_g (mkF m 34 #[.val (.ref a1), .val (.int (1 : Int32)), .val (.int (2 : Int32))] [(.int (2 : Int32)), (.int (2 : Int32)), (.ref wb), (.int (0 : Int32)), (.ref a1), (.int (2 : Int32)), (.ref wb)]) (fun _ kz => XS.iloadN X58.here hx rfl (hb hby od_29_5_33) rfl kz) ?_
  refine own_g (mkF m 35 #[.val (.ref a1), .val (.int (1 : Int32)), .val (.int (2 : Int32))] [(.int ((2 : Int32) * (2 : Int32))), (.ref wb), (.int (0 : Int32)), (.ref a1), (.int (2 : Int32)), (.ref wb)]) (fun _ kz => XS.imul X58.here hx rfl (hb hby od_29_5_34) rfl kz) ?_
  rw [show ((2 : Int32) * (2 : Int32)) = (4 : Int32) from by decide]
  show own_E p e below _ (T58.setTop (mkF m 35 #[.val (.ref a1), .val (.int (1 : Int32)), .val (.int (2 : Int32))] [(.int (4 : Int32)), (.ref wb), (.int (0 : Int32)), (.ref a1), (.int (2 : Int32)), (.ref wb)]))
  refine own_g (mkF m 36 #[.val (.ref a1), .val (.int (1 : Int32)), .val (.int (2 : Int32))] [(.int (1 : Int32)), (.int (4 : Int32)), (.ref wb), (.int (0 : Int32)), (.ref a1), (.int (2 : Int32)), (.ref wb)]) (fun _ kz => XS.iconst X58.here hx rfl (hb hby od_29_5_35) kz) ?_
  refine own_g (mkF m 37 #[.val (.ref a1), .val (.int (1 : Int32)), .val (.int (2 : Int32))] [(.int ((4 : Int32) + (1 : Int32))), (.ref wb), (.int (0 : Int32)), (.ref a1), (.int (2 : Int32)), (.ref wb)]) (fun _ kz => XS.iadd X58.here hx rfl (hb hby od_29_5_36) rfl kz) ?_
  rw [show ((4 : Int32) + (1 : Int32)) = (5 : Int32) from by decide]
  show own_E p e below _ (T58.setTop (mkF m 37 #[.val (.ref a1), .val (.int (1 : Int32)), .val (.int (2 : Int32))] [(.int (5 : Int32)), (.ref wb), (.int (0 : Int32)), (.ref a1), (.int (2 : Int32)), (.ref wb)]))
  refine own_ildI X58 hx hZ e58 Aw0 (hb hby od_29_5_37) (by decide) (i := 5) rfl (by decide) (x := (1 : Int32)) h5 ?_
  show own_E p e below _ (T58.setTop (mkF m 38 #[.val (.ref a1), .val (.int (1 : Int32)), .val (.int (2 : Int32))] [(.int (1 : Int32)), (.int (0 : Int32)), (.ref a1), (.int (2 : Int32)), (.ref wb)]))
  refine own_callP (rest := [(.int (2 : Int32)), (.ref wb)]) (a := a1) (as := [(.int (0 : Int32)), (.int (1 : Int32))]) X58 hx hZ hown e58 (own_c_mat l Z a0 hw a1 cb zb wb fc fo fw (0 : Int32) (1 : Int32) h0 n0 Z0 (Or.inr (Or.inl rfl)) (Or.inr (Or.inr (Or.inl rfl))) ⟨E0, Fl0, Fc0, Fo0, Fw0, Ac0, Ao0, Aw0, gc0, gz0, gw0, nac0, naz0, naw0, ncz0, ncw0, nzw0⟩) E0 (own_w hw 36 rfl) (own_w hw 2 rfl) (own_w hw 38 rfl) (own_w hw 37 rfl) (own_w hw 3 rfl) (own_w hw 39 rfl) (by decide) own_pd1 rfl (by rw [hml]; rfl) rfl (hb hby od_29_5_38) 2 (by show 2 * 0 + _ ≤ _; exact Nat.le_of_eq rfl) (by decide) (by decide) (by decide) (by decide) ?_
  rintro _ T59 L59 X59 ⟨rfl, rfl, e59⟩
  have N59 := Fr.app N0 (Fr.nil n0)
  show own_E p e below _ (T59.setTop (mkF m 41 #[.val (.ref a1), .val (.int (1 : Int32)), .val (.int (2 : Int32))] [(.int (own_mt fo fc (0 : Int32) (1 : Int32))), (.int (2 : Int32)), (.ref wb)]))
  refine own_stI X59 hx hZ e59 Aw0 (hb hby od_29_5_41) (by decide) (i := 2) rfl (by decide) ?_
  intro T60 h60 X60 e60 W60 A60
  have N60 := Fr.snoc X60 N59 gw0
  have s61 : n0 ≤ h60.size := Nat.le_trans Z0 (Keep.of_wr W60).1
  have f62 := Exa.wr W60 E0
  have f63 := Fld.other W60 Fl0 (Or.inl naw0)
  have f64 := Fld.other W60 Fc0 (Or.inl naw0)
  have f65 := Fld.other W60 Fo0 (Or.inl naw0)
  have f66 := Fld.other W60 Fw0 (Or.inl naw0)
  have f67 := Ac0.other W60 ncw0
  have f68 := Ao0.other W60 nzw0
  show own_E p e below _ (T60.setTop (mkF m 42 #[.val (.ref a1), .val (.int (1 : Int32)), .val (.int (2 : Int32))] []))
  obtain ⟨fw1, efw1, Afw1x⟩ : ∃ F, F = (own_set fw 2 (own_mt fo fc (0 : Int32) (1 : Int32))) ∧ own_IA Z h60 wb .int 8 F := ⟨_, rfl, A60⟩
  have hv69 : fw1 4 = (0 : Int32) := by rw [efw1, own_set_other _ _ (by decide)]; exact h4
  have hv70 : fw1 5 = (1 : Int32) := by rw [efw1, own_set_other _ _ (by decide)]; exact h5
  have hv71 : fw1 6 = (2 : Int32) := by rw [efw1, own_set_other _ _ (by decide)]; exact h6
  have hv72 : fw1 7 = (-1 : Int32) := by rw [efw1, own_set_other _ _ (by decide)]; exact h7
  have hv73 : fw1 3 = (2 : Int32) := by rw [efw1, own_set_other _ _ (by decide)]; exact h3
  have hv74 : fw1 2 = (own_mt fo fc (0 : Int32) (1 : Int32)) := by rw [efw1, own_set_same]
  refine own_g (mkF m 43 #[.val (.ref a1), .val (.int (1 : Int32)), .val (.int (2 : Int32))] [(.int (2 : Int32))]) (fun _ kz => XS.iloadN X60.here hx rfl (hb hby od_29_5_42) rfl kz) ?_
  refine own_g (mkF m 44 #[.val (.ref a1), .val (.int (1 : Int32)), .val (.int (2 : Int32))] [(.int (2 : Int32)), (.int (2 : Int32))]) (fun _ kz => XS.iconst X60.here hx rfl (hb hby od_29_5_43) kz) ?_
  refine own_g (mkF m 45 #[.val (.ref a1), .val (.int (1 : Int32)), .val (.int (2 : Int32))] [(.int ((2 : Int32) / (2 : Int32)))]) (fun _ kz => XS.idiv X60.here hx rfl (hb hby od_29_5_44) rfl (by decide) kz) ?_
  rw [show ((2 : Int32) / (2 : Int32)) = (1 : Int32) from by decide]
  show own_E p e below _ (T60.setTop (mkF m 45 #[.val (.ref a1), .val (.int (1 : Int32)), .val (.int (2 : Int32))] [(.int (1 : Int32))]))
  refine own_g (mkF m 46 #[.val (.ref a1), .val (.int (1 : Int32)), .val (.int (1 : Int32))] []) (fun _ kz => XS.istoreN X60.here hx rfl (hb hby od_29_5_45) rfl (l' := #[.val (.ref a1), .val (.int (1 : Int32)), .val (.int (1 : Int32))]) rfl kz) ?_
  refine own_g (mkF m 9 #[.val (.ref a1), .val (.int (1 : Int32)), .val (.int (1 : Int32))] []) (fun _ kz => XS.goto X60.here hx rfl (pc0 := 46) (pc' := 9) rfl (hb hby od_29_5_46) (by decide) (by decide) kz) ?_
  refine own_g (mkF m 10 #[.val (.ref a1), .val (.int (1 : Int32)), .val (.int (1 : Int32))] [(.int (1 : Int32))]) (fun _ kz => XS.iloadN X60.here hx rfl (hb hby od_29_5_9) rfl kz) ?_
  refine own_g (mkF m 11 #[.val (.ref a1), .val (.int (1 : Int32)), .val (.int (1 : Int32))] [(.int (1 : Int32)), (.int (1 : Int32))]) (fun _ kz => XS.iconst X60.here hx rfl (hb hby od_29_5_10) kz) ?_
  refine own_g (mkF m 14 #[.val (.ref a1), .val (.int (1 : Int32)), .val (.int (1 : Int32))] []) (fun _ kz => XS.icmpNo X60.here hx rfl (hb hby od_29_5_11) rfl (flt (by decide)).1 kz) ?_
  refine own_g (mkF m 15 #[.val (.ref a1), .val (.int (1 : Int32)), .val (.int (1 : Int32))] [(.ref a1)]) (fun _ kz => XS.aloadN X60.here hx rfl (hb hby od_29_5_14) rfl rfl kz) ?_
  obtain ⟨T75, X75, e75, st75⟩ := getF X60 hx hZ hown (host := "") (Or.inl (own_w hw 30 rfl)) Via.refl e60 f66 (g := (mkF m 15 #[.val (.ref a1), .val (.int (1 : Int32)), .val (.int (1 : Int32))] [(.ref a1)])) rfl rfl (hb hby od_29_5_15)
  refine own_s st75 ?_
  show own_E p e below _ (T75.setTop (mkF m 18 #[.val (.ref a1), .val (.int (1 : Int32)), .val (.int (1 : Int32))] [(.ref wb)]))
  refine own_g (mkF m 19 #[.val (.ref a1), .val (.int (1 : Int32)), .val (.int (1 : Int32))] [(.int (1 : Int32)), (.ref wb)]) (fun _ kz => XS.iloadN X75.here hx rfl (hb hby od_29_5_18) rfl kz) ?_
  refine own_g (mkF m 20 #[.val (.ref a1), .val (.int (1 : Int32)), .val (.int (1 : Int32))] [(.ref a1), (.int (1 : Int32)), (.ref wb)]) (fun _ kz => XS.aloadN X75.here hx rfl (hb hby od_29_5_19) rfl rfl kz) ?_
  refine own_g (mkF m 21 #[.val (.ref a1), .val (.int (1 : Int32)), .val (.int (1 : Int32))] [(.ref a1), (.ref a1), (.int (1 : Int32)), (.ref wb)]) (fun _ kz => XS.aloadN X75.here hx rfl (hb hby od_29_5_20) rfl rfl kz) ?_
  obtain ⟨T76, X76, e76, st76⟩ := getF X75 hx hZ hown (host := "") (Or.inl (own_w hw 30 rfl)) Via.refl e75 f66 (g := (mkF m 21 #[.val (.ref a1), .val (.int (1 : Int32)), .val (.int (1 : Int32))] [(.ref a1), (.ref a1), (.int (1 : Int32)), (.ref wb)])) rfl rfl (hb hby od_29_5_21)
  refine own_s st76 ?_
  show own_E p e below _ (T76.setTop (mkF m 24 #[.val (.ref a1), .val (.int (1 : Int32)), .val (.int (1 : Int32))] [(.ref wb), (.ref a1), (.int (1 : Int32)), (.ref wb)]))
  refine own_g (mkF m 25 #[.val (.ref a1), .val (.int (1 : Int32)), .val (.int (1 : Int32))] [(.int (2 : Int32)), (.ref wb), (.ref a1), (.int (1 : Int32)), (.ref wb)]) (fun _ kz => XS.iconst X76.here hx rfl (hb hby od_29_5_24) kz) ?_
  refine own_g (mkF m 26 #[.val (.ref a1), .val (.int (1 : Int32)), .val (.int (1 : Int32))] [(.int (1 : Int32)), (.int (2 : Int32)), (.ref wb), (.ref a1), (.int (1 : Int32)), (.ref wb)]) (fun _ kz => XS.iloadN X76.here hx rfl (hb hby od_29_5_25) rfl kz) ?_
  refine own_g (mkF m 27 #[.val (.ref a1), .val (.int (1 : Int32)), .val (.int (1 : Int32))] [(.int ((2 : Int32) * (1 : Int32))), (.ref wb), (.ref a1), (.int (1 : Int32)), (.ref wb)]) (fun _ kz => XS.imul X76.here hx rfl (hb hby od_29_5_26) rfl kz) ?_
  rw [show ((2 : Int32) * (1 : Int32)) = (2 : Int32) from by decide]
  show own_E p e below _ (T76.setTop (mkF m 27 #[.val (.ref a1), .val (.int (1 : Int32)), .val (.int (1 : Int32))] [(.int (2 : Int32)), (.ref wb), (.ref a1), (.int (1 : Int32)), (.ref wb)]))
  refine own_ildI X76 hx hZ e76 Afw1x (hb hby od_29_5_27) (by decide) (i := 2) rfl (by decide) (x := (own_mt fo fc (0 : Int32) (1 : Int32))) hv74 ?_
  show own_E p e below _ (T76.setTop (mkF m 28 #[.val (.ref a1), .val (.int (1 : Int32)), .val (.int (1 : Int32))] [(.int (own_mt fo fc (0 : Int32) (1 : Int32))), (.ref a1), (.int (1 : Int32)), (.ref wb)]))
  refine own_g (mkF m 29 #[.val (.ref a1), .val (.int (1 : Int32)), .val (.int (1 : Int32))] [(.ref a1), (.int (own_mt fo fc (0 : Int32) (1 : Int32))), (.ref a1), (.int (1 : Int32)), (.ref wb)]) (fun _ kz => XS.aloadN X76.here hx rfl (hb hby od_29_5_28) rfl rfl kz) ?_
  obtain ⟨T77, X77, e77, st77⟩ := getF X76 hx hZ hown (host := "") (Or.inl (own_w hw 30 rfl)) Via.refl e76 f66 (g := (mkF m 29 #[.val (.ref a1), .val (.int (1 : Int32)), .val (.int (1 : Int32))] [(.ref a1), (.int (own_mt fo fc (0 : Int32) (1 : Int32))), (.ref a1), (.int (1 : Int32)), (.ref wb)])) rfl rfl (hb hby od_29_5_29)
  refine own_s st77 ?_
  show own_E p e below _ (T77.setTop (mkF m 32 #[.val (.ref a1), .val (.int (1 : Int32)), .val (.int (1 : Int32))] [(.ref wb), (.int (own_mt fo fc (0 : Int32) (1 : Int32))), (.ref a1), (.int (1 : Int32)), (.ref wb)]))
  refine own_g (mkF m 33 #[.val (.ref a1), .val (.int (1 : Int32)), .val (.int (1 : Int32))] [(.int (2 : Int32)), (.ref wb), (.int (own_mt fo fc (0 : Int32) (1 : Int32))), (.ref a1), (.int (1 : Int32)), (.ref wb)]) (fun _ kz => XS.iconst X77.here hx rfl (hb hby od_29_5_32) kz) ?_
  refine own_g (mkF m 34 #[.val (.ref a1), .val (.int (1 : Int32)), .val (.int (1 : Int32))] [(.int (1 : Int32)), (.int (2 : Int32)), (.ref wb), (.int (own_mt fo fc (0 : Int32) (1 : Int32))), (.ref a1), (.int (1 : Int32)), (.ref wb)]) (fun _ kz => XS.iloadN X77.here hx rfl (hb hby od_29_5_33) rfl kz) ?_
  refine own_g (mkF m 35 #[.val (.ref a1), .val (.int (1 : Int32)), .val (.int (1 : Int32))] [(.int ((2 : Int32) * (1 : Int32))), (.ref wb), (.int (own_mt fo fc (0 : Int32) (1 : Int32))), (.ref a1), (.int (1 : Int32)), (.ref wb)]) (fun _ kz => XS.imul X77.here hx rfl (hb hby od_29_5_34) rfl kz) ?_
  rw [show ((2 : Int32) * (1 : Int32)) = (2 : Int32) from by decide]
  show own_E p e below _ (T77.setTop (mkF m 35 #[.val (.ref a1), .val (.int (1 : Int32)), .val (.int (1 : Int32))] [(.int (2 : Int32)), (.ref wb), (.int (own_mt fo fc (0 : Int32) (1 : Int32))), (.ref a1), (.int (1 : Int32)), (.ref wb)]))
  refine own_g (mkF m 36 #[.val (.ref a1), .val (.int (1 : Int32)), .val (.int (1 : Int32))] [(.int (1 : Int32)), (.int (2 : Int32)), (.ref wb), (.int (own_mt fo fc (0 : Int32) (1 : Int32))), (.ref a1), (.int (1 : Int32)), (.ref wb)]) (fun _ kz => XS.iconst X77.here hx rfl (hb hby od_29_5_35) kz) ?_
  refine own_g (mkF m 37 #[.val (.ref a1), .val (.int (1 : Int32)), .val (.int (1 : Int32))] [(.int ((2 : Int32) + (1 : Int32))), (.ref wb), (.int (own_mt fo fc (0 : Int32) (1 : Int32))), (.ref a1), (.int (1 : Int32)), (.ref wb)]) (fun _ kz => XS.iadd X77.here hx rfl (hb hby od_29_5_36) rfl kz) ?_
  rw [show ((2 : Int32) + (1 : Int32)) = (3 : Int32) from by decide]
  show own_E p e below _ (T77.setTop (mkF m 37 #[.val (.ref a1), .val (.int (1 : Int32)), .val (.int (1 : Int32))] [(.int (3 : Int32)), (.ref wb), (.int (own_mt fo fc (0 : Int32) (1 : Int32))), (.ref a1), (.int (1 : Int32)), (.ref wb)]))
  refine own_ildI X77 hx hZ e77 Afw1x (hb hby od_29_5_37) (by decide) (i := 3) rfl (by decide) (x := (2 : Int32)) hv73 ?_
  show own_E p e below _ (T77.setTop (mkF m 38 #[.val (.ref a1), .val (.int (1 : Int32)), .val (.int (1 : Int32))] [(.int (2 : Int32)), (.int (own_mt fo fc (0 : Int32) (1 : Int32))), (.ref a1), (.int (1 : Int32)), (.ref wb)]))
  refine own_callP (rest := [(.int (1 : Int32)), (.ref wb)]) (a := a1) (as := [(.int (own_mt fo fc (0 : Int32) (1 : Int32))), (.int (2 : Int32))]) X77 hx hZ hown e77 (own_c_mat l Z a0 hw a1 cb zb wb fc fo fw1 (own_mt fo fc (0 : Int32) (1 : Int32)) (2 : Int32) h60 n0 s61 (own_mt_dom (Or.inr (Or.inl rfl)) (Or.inr (Or.inr (Or.inl rfl)))) (Or.inr (Or.inr (Or.inr rfl))) ⟨f62, f63, f64, f65, f66, f67, f68, Afw1x, gc0, gz0, gw0, nac0, naz0, naw0, ncz0, ncw0, nzw0⟩) f62 (own_w hw 36 rfl) (own_w hw 2 rfl) (own_w hw 38 rfl) (own_w hw 37 rfl) (own_w hw 3 rfl) (own_w hw 39 rfl) (by decide) own_pd1 rfl (by rw [hml]; rfl) rfl (hb hby od_29_5_38) 2 (by show 2 * 0 + _ ≤ _; exact Nat.le_of_eq rfl) (by decide) (by decide) (by decide) (by decide) ?_
  rintro _ T78 L78 X78 ⟨rfl, rfl, e78⟩
  have N78 := Fr.app N60 (Fr.nil n0)
  show own_E p e below _ (T78.setTop (mkF m 41 #[.val (.ref a1), .val (.int (1 : Int32)), .val (.int (1 : Int32))] [(.int (own_mt fo fc (own_mt fo fc (0 : Int32) (1 : Int32)) (2 : Int32))), (.int (1 : Int32)), (.ref wb)]))
  refine own_stI X78 hx hZ e78 Afw1x (hb hby od_29_5_41) (by decide) (i := 1) rfl (by decide) ?_
  intro T79 h79 X79 e79 W79 A79
  have N79 := Fr.snoc X79 N78 gw0
  have s80 : n0 ≤ h79.size := Nat.le_trans s61 (Keep.of_wr W79).1
  have f81 := Exa.wr W79 f62
  have f82 := Fld.other W79 f63 (Or.inl naw0)
  have f83 := Fld.other W79 f64 (Or.inl naw0)
  have f84 := Fld.other W79 f65 (Or.inl naw0)
  have f85 := Fld.other W79 f66 (Or.inl naw0)
  have f86 := f67.other W79 ncw0
  have f87 := f68.other W79 nzw0
  show own_E p e below _ (T79.setTop (mkF m 42 #[.val (.ref a1), .val (.int (1 : Int32)), .val (.int (1 : Int32))] []))
  obtain ⟨fw2, efw2, Afw2x⟩ : ∃ F, F = (own_set fw1 1 (own_mt fo fc (own_mt fo fc (0 : Int32) (1 : Int32)) (2 : Int32))) ∧ own_IA Z h79 wb .int 8 F := ⟨_, rfl, A79⟩
  have hv88 : fw2 4 = (0 : Int32) := by rw [efw2, own_set_other _ _ (by decide)]; exact hv69
  have hv89 : fw2 5 = (1 : Int32) := by rw [efw2, own_set_other _ _ (by decide)]; exact hv70
  have hv90 : fw2 6 = (2 : Int32) := by rw [efw2, own_set_other _ _ (by decide)]; exact hv71
  have hv91 : fw2 7 = (-1 : Int32) := by rw [efw2, own_set_other _ _ (by decide)]; exact hv72
  have hv92 : fw2 3 = (2 : Int32) := by rw [efw2, own_set_other _ _ (by decide)]; exact hv73
  have hv93 : fw2 2 = (own_mt fo fc (0 : Int32) (1 : Int32)) := by rw [efw2, own_set_other _ _ (by decide)]; exact hv74
  have hv94 : fw2 1 = (own_mt fo fc (own_mt fo fc (0 : Int32) (1 : Int32)) (2 : Int32)) := by rw [efw2, own_set_same]
  refine own_g (mkF m 43 #[.val (.ref a1), .val (.int (1 : Int32)), .val (.int (1 : Int32))] [(.int (1 : Int32))]) (fun _ kz => XS.iloadN X79.here hx rfl (hb hby od_29_5_42) rfl kz) ?_
  refine own_g (mkF m 44 #[.val (.ref a1), .val (.int (1 : Int32)), .val (.int (1 : Int32))] [(.int (2 : Int32)), (.int (1 : Int32))]) (fun _ kz => XS.iconst X79.here hx rfl (hb hby od_29_5_43) kz) ?_
  refine own_g (mkF m 45 #[.val (.ref a1), .val (.int (1 : Int32)), .val (.int (1 : Int32))] [(.int ((1 : Int32) / (2 : Int32)))]) (fun _ kz => XS.idiv X79.here hx rfl (hb hby od_29_5_44) rfl (by decide) kz) ?_
  rw [show ((1 : Int32) / (2 : Int32)) = (0 : Int32) from by decide]
  show own_E p e below _ (T79.setTop (mkF m 45 #[.val (.ref a1), .val (.int (1 : Int32)), .val (.int (1 : Int32))] [(.int (0 : Int32))]))
  refine own_g (mkF m 46 #[.val (.ref a1), .val (.int (1 : Int32)), .val (.int (0 : Int32))] []) (fun _ kz => XS.istoreN X79.here hx rfl (hb hby od_29_5_45) rfl (l' := #[.val (.ref a1), .val (.int (1 : Int32)), .val (.int (0 : Int32))]) rfl kz) ?_
  refine own_g (mkF m 9 #[.val (.ref a1), .val (.int (1 : Int32)), .val (.int (0 : Int32))] []) (fun _ kz => XS.goto X79.here hx rfl (pc0 := 46) (pc' := 9) rfl (hb hby od_29_5_46) (by decide) (by decide) kz) ?_
  refine own_g (mkF m 10 #[.val (.ref a1), .val (.int (1 : Int32)), .val (.int (0 : Int32))] [(.int (0 : Int32))]) (fun _ kz => XS.iloadN X79.here hx rfl (hb hby od_29_5_9) rfl kz) ?_
  refine own_g (mkF m 11 #[.val (.ref a1), .val (.int (1 : Int32)), .val (.int (0 : Int32))] [(.int (1 : Int32)), (.int (0 : Int32))]) (fun _ kz => XS.iconst X79.here hx rfl (hb hby od_29_5_10) kz) ?_
  refine own_g (mkF m 49 #[.val (.ref a1), .val (.int (1 : Int32)), .val (.int (0 : Int32))] []) (fun _ kz => XS.icmpYes X79.here hx rfl (pc0 := 11) (pc' := 49) rfl (hb hby od_29_5_11) rfl (tlt (by decide)).1 (by decide) (by decide) kz) ?_
  exact own_retV X79 hx hret hlk (hb hby od_29_5_49) (by decide) (by decide) (by first | exact ⟨rfl, N79, s80, fw2, ⟨hv88, hv89, hv90, hv91, hv92, hv93, hv94⟩, ⟨f81, f82, f83, f84, f85, f86, f87, Afw2x, gc0, gz0, gw0, nac0, naz0, naw0, ncz0, ncw0, nzw0⟩⟩ | (rw [e79]; exact ⟨rfl, N79, s80, fw2, ⟨hv88, hv89, hv90, hv91, hv92, hv93, hv94⟩, ⟨f81, f82, f83, f84, f85, f86, f87, Afw2x, gc0, gz0, gw0, nac0, naz0, naw0, ncz0, ncw0, nzw0⟩⟩))
set_option maxRecDepth 65536 in
set_option maxHeartbeats 40000000 in
theorem own_c_rep2 (l : Launch) (Z : State) (a0 : Array Value) (hw : ∀ d ∈ tables_1, d.before a0 Z = true) (a1 : Addr) (cb : Addr) (zb : Addr) (wb : Addr) (fc : Nat → Int32) (fo : Nat → Int32) (fw : Nat → Int32) (h0 : Heap) (n0 : Nat) (Z0 : n0 ≤ h0.size) (hW : fw 4 = 0 ∧ fw 5 = 1 ∧ fw 6 = 2 ∧ fw 7 = -1 ∧ fw 3 = 2 ∧ fw 2 = own_mt fo fc 0 1) (S0 : own_S Z h0 n0 a1 cb zb wb fc fo fw) :
    own_Con l Z (⟨"com/example/horncast/horncast/query/LeastCount", "replay", "(I)V"⟩ : MethodName) prog_29_method_5_code 3 none [] ({ frames := 1, cells := 0, slots := 0, locals := 18 } : Room) #[(.ref a1), (.int (2 : Int32))] h0 (fun v h L => v = none ∧ Fr n0 L ∧ n0 ≤ h.size ∧ ∃ fw', own_W fo fc fw' ∧ own_S Z h n0 a1 cb zb wb fc fo fw') := by
  refine own_enter (plainFor_of_name own_pn2) ?_
  intro p e s m below meth c s₁ X0 e0 hx hZ hby hml hown hnm hret hlk
  refine own_cast (g' := (mkF m 0 #[.val (.ref a1), .val (.int (2 : Int32)), .unset] [])) (by first | (simp [entryFrame, mkF, argsToLocals, Value.category]; done) | rfl) ?_
  have N0 := Fr.nil n0
  obtain ⟨E0, Fl0, Fc0, Fo0, Fw0, Ac0, Ao0, Aw0, gc0, gz0, gw0, nac0, naz0, naw0, ncz0, ncw0, nzw0⟩ := S0
  obtain ⟨h4, h5, h6, h7, h3, h2⟩ := hW
  refine own_g (mkF m 1 #[.val (.ref a1), .val (.int (2 : Int32)), .unset] [(.ref a1)]) (fun _ kz => XS.aloadN X0.here hx rfl (hb hby od_29_5_0) rfl rfl kz) ?_
  obtain ⟨T95, X95, e95, st95⟩ := getF X0 hx hZ hown (host := "") (Or.inl (own_w hw 23 rfl)) Via.refl e0 Fl0 (g := (mkF m 1 #[.val (.ref a1), .val (.int (2 : Int32)), .unset] [(.ref a1)])) rfl rfl (hb hby od_29_5_1)
  refine own_s st95 ?_
  show own_E p e below _ (T95.setTop (mkF m 4 #[.val (.ref a1), .val (.int (2 : Int32)), .unset] [(.int (4 : Int32))]))
  refine own_g (mkF m 5 #[.val (.ref a1), .val (.int (2 : Int32)), .unset] [(.int (2 : Int32)), (.int (4 : Int32))]) (fun _ kz => XS.iloadN X95.here hx rfl (hb hby od_29_5_4) rfl kz) ?_
  refine own_g (mkF m 6 #[.val (.ref a1), .val (.int (2 : Int32)), .unset] [(.int ((4 : Int32) + (2 : Int32)))]) (fun _ kz => XS.iadd X95.here hx rfl (hb hby od_29_5_5) rfl kz) ?_
  rw [show ((4 : Int32) + (2 : Int32)) = (6 : Int32) from by decide]
  show own_E p e below _ (T95.setTop (mkF m 6 #[.val (.ref a1), .val (.int (2 : Int32)), .unset] [(.int (6 : Int32))]))
  refine own_g (mkF m 7 #[.val (.ref a1), .val (.int (2 : Int32)), .unset] [(.int (2 : Int32)), (.int (6 : Int32))]) (fun _ kz => XS.iconst X95.here hx rfl (hb hby od_29_5_6) kz) ?_
  refine own_g (mkF m 8 #[.val (.ref a1), .val (.int (2 : Int32)), .unset] [(.int ((6 : Int32) / (2 : Int32)))]) (fun _ kz => XS.idiv X95.here hx rfl (hb hby od_29_5_7) rfl (by decide) kz) ?_
  rw [show ((6 : Int32) / (2 : Int32)) = (3 : Int32) from by decide]
  show own_E p e below _ (T95.setTop (mkF m 8 #[.val (.ref a1), .val (.int (2 : Int32)), .unset] [(.int (3 : Int32))]))
  refine own_g (mkF m 9 #[.val (.ref a1), .val (.int (2 : Int32)), .val (.int (3 : Int32))] []) (fun _ kz => XS.istoreN X95.here hx rfl (hb hby od_29_5_8) rfl (l' := #[.val (.ref a1), .val (.int (2 : Int32)), .val (.int (3 : Int32))]) rfl kz) ?_
  refine own_g (mkF m 10 #[.val (.ref a1), .val (.int (2 : Int32)), .val (.int (3 : Int32))] [(.int (3 : Int32))]) (fun _ kz => XS.iloadN X95.here hx rfl (hb hby od_29_5_9) rfl kz) ?_
  refine own_g (mkF m 11 #[.val (.ref a1), .val (.int (2 : Int32)), .val (.int (3 : Int32))] [(.int (1 : Int32)), (.int (3 : Int32))]) (fun _ kz => XS.iconst X95.here hx rfl (hb hby od_29_5_10) kz) ?_
  refine own_g (mkF m 14 #[.val (.ref a1), .val (.int (2 : Int32)), .val (.int (3 : Int32))] []) (fun _ kz => XS.icmpNo X95.here hx rfl (hb hby od_29_5_11) rfl (flt (by decide)).1 kz) ?_
  refine own_g (mkF m 15 #[.val (.ref a1), .val (.int (2 : Int32)), .val (.int (3 : Int32))] [(.ref a1)]) (fun _ kz => XS.aloadN X95.here hx rfl (hb hby od_29_5_14) rfl rfl kz) ?_
  obtain ⟨T96, X96, e96, st96⟩ := getF X95 hx hZ hown (host := "") (Or.inl (own_w hw 30 rfl)) Via.refl e95 Fw0 (g := (mkF m 15 #[.val (.ref a1), .val (.int (2 : Int32)), .val (.int (3 : Int32))] [(.ref a1)])) rfl rfl (hb hby od_29_5_15)
  refine own_s st96 ?_
  show own_E p e below _ (T96.setTop (mkF m 18 #[.val (.ref a1), .val (.int (2 : Int32)), .val (.int (3 : Int32))] [(.ref wb)]))
  refine own_g (mkF m 19 #[.val (.ref a1), .val (.int (2 : Int32)), .val (.int (3 : Int32))] [(.int (3 : Int32)), (.ref wb)]) (fun _ kz => XS.iloadN X96.here hx rfl (hb hby od_29_5_18) rfl kz) ?_
  refine own_g (mkF m 20 #[.val (.ref a1), .val (.int (2 : Int32)), .val (.int (3 : Int32))] [(.ref a1), (.int (3 : Int32)), (.ref wb)]) (fun _ kz => XS.aloadN X96.here hx rfl (hb hby od_29_5_19) rfl rfl kz) ?_
  refine own_g (mkF m 21 #[.val (.ref a1), .val (.int (2 : Int32)), .val (.int (3 : Int32))] [(.ref a1), (.ref a1), (.int (3 : Int32)), (.ref wb)]) (fun _ kz => XS.aloadN X96.here hx rfl (hb hby od_29_5_20) rfl rfl kz) ?_
  obtain ⟨T97, X97, e97, st97⟩ := getF X96 hx hZ hown (host := "") (Or.inl (own_w hw 30 rfl)) Via.refl e96 Fw0 (g := (mkF m 21 #[.val (.ref a1), .val (.int (2 : Int32)), .val (.int (3 : Int32))] [(.ref a1), (.ref a1), (.int (3 : Int32)), (.ref wb)])) rfl rfl (hb hby od_29_5_21)
  refine own_s st97 ?_
  show own_E p e below _ (T97.setTop (mkF m 24 #[.val (.ref a1), .val (.int (2 : Int32)), .val (.int (3 : Int32))] [(.ref wb), (.ref a1), (.int (3 : Int32)), (.ref wb)]))
  refine own_g (mkF m 25 #[.val (.ref a1), .val (.int (2 : Int32)), .val (.int (3 : Int32))] [(.int (2 : Int32)), (.ref wb), (.ref a1), (.int (3 : Int32)), (.ref wb)]) (fun _ kz => XS.iconst X97.here hx rfl (hb hby od_29_5_24) kz) ?_
  refine own_g (mkF m 26 #[.val (.ref a1), .val (.int (2 : Int32)), .val (.int (3 : Int32))] [(.int (3 : Int32)), (.int (2 : Int32)), (.ref wb), (.ref a1), (.int (3 : Int32)), (.ref wb)]) (fun _ kz => XS.iloadN X97.here hx rfl (hb hby od_29_5_25) rfl kz) ?_
  refine own_g (mkF m 27 #[.val (.ref a1), .val (.int (2 : Int32)), .val (.int (3 : Int32))] [(.int ((2 : Int32) * (3 : Int32))), (.ref wb), (.ref a1), (.int (3 : Int32)), (.ref wb)]) (fun _ kz => XS.imul X97.here hx rfl (hb hby od_29_5_26) rfl kz) ?_
  rw [show ((2 : Int32) * (3 : Int32)) = (6 : Int32) from by decide]
  show own_E p e below _ (T97.setTop (mkF m 27 #[.val (.ref a1), .val (.int (2 : Int32)), .val (.int (3 : Int32))] [(.int (6 : Int32)), (.ref wb), (.ref a1), (.int (3 : Int32)), (.ref wb)]))
  refine own_ildI X97 hx hZ e97 Aw0 (hb hby od_29_5_27) (by decide) (i := 6) rfl (by decide) (x := (2 : Int32)) h6 ?_
  show own_E p e below _ (T97.setTop (mkF m 28 #[.val (.ref a1), .val (.int (2 : Int32)), .val (.int (3 : Int32))] [(.int (2 : Int32)), (.ref a1), (.int (3 : Int32)), (.ref wb)]))
  refine own_g (mkF m 29 #[.val (.ref a1), .val (.int (2 : Int32)), .val (.int (3 : Int32))] [(.ref a1), (.int (2 : Int32)), (.ref a1), (.int (3 : Int32)), (.ref wb)]) (fun _ kz => XS.aloadN X97.here hx rfl (hb hby od_29_5_28) rfl rfl kz) ?_
  obtain ⟨T98, X98, e98, st98⟩ := getF X97 hx hZ hown (host := "") (Or.inl (own_w hw 30 rfl)) Via.refl e97 Fw0 (g := (mkF m 29 #[.val (.ref a1), .val (.int (2 : Int32)), .val (.int (3 : Int32))] [(.ref a1), (.int (2 : Int32)), (.ref a1), (.int (3 : Int32)), (.ref wb)])) rfl rfl (hb hby od_29_5_29)
  refine own_s st98 ?_
  show own_E p e below _ (T98.setTop (mkF m 32 #[.val (.ref a1), .val (.int (2 : Int32)), .val (.int (3 : Int32))] [(.ref wb), (.int (2 : Int32)), (.ref a1), (.int (3 : Int32)), (.ref wb)]))
  refine own_g (mkF m 33 #[.val (.ref a1), .val (.int (2 : Int32)), .val (.int (3 : Int32))] [(.int (2 : Int32)), (.ref wb), (.int (2 : Int32)), (.ref a1), (.int (3 : Int32)), (.ref wb)]) (fun _ kz => XS.iconst X98.here hx rfl (hb hby od_29_5_32) kz) ?_
  refine own_g (mkF m 34 #[.val (.ref a1), .val (.int (2 : Int32)), .val (.int (3 : Int32))] [(.int (3 : Int32)), (.int (2 : Int32)), (.ref wb), (.int (2 : Int32)), (.ref a1), (.int (3 : Int32)), (.ref wb)]) (fun _ kz => XS.iloadN X98.here hx rfl (hb hby od_29_5_33) rfl kz) ?_
  refine own_g (mkF m 35 #[.val (.ref a1), .val (.int (2 : Int32)), .val (.int (3 : Int32))] [(.int ((2 : Int32) * (3 : Int32))), (.ref wb), (.int (2 : Int32)), (.ref a1), (.int (3 : Int32)), (.ref wb)]) (fun _ kz => XS.imul X98.here hx rfl (hb hby od_29_5_34) rfl kz) ?_
  rw [show ((2 : Int32) * (3 : Int32)) = (6 : Int32) from by decide]
  show own_E p e below _ (T98.setTop (mkF m 35 #[.val (.ref a1), .val (.int (2 : Int32)), .val (.int (3 : Int32))] [(.int (6 : Int32)), (.ref wb), (.int (2 : Int32)), (.ref a1), (.int (3 : Int32)), (.ref wb)]))
  refine own_g (mkF m 36 #[.val (.ref a1), .val (.int (2 : Int32)), .val (.int (3 : Int32))] [(.int (1 : Int32)), (.int (6 : Int32)), (.ref wb), (.int (2 : Int32)), (.ref a1), (.int (3 : Int32)), (.ref wb)]) (fun _ kz => XS.iconst X98.here hx rfl (hb hby od_29_5_35) kz) ?_
  refine own_g (mkF m 37 #[.val (.ref a1), .val (.int (2 : Int32)), .val (.int (3 : Int32))] [(.int ((6 : Int32) + (1 : Int32))), (.ref wb), (.int (2 : Int32)), (.ref a1), (.int (3 : Int32)), (.ref wb)]) (fun _ kz => XS.iadd X98.here hx rfl (hb hby od_29_5_36) rfl kz) ?_
  rw [show ((6 : Int32) + (1 : Int32)) = (7 : Int32) from by decide]
  show own_E p e below _ (T98.setTop (mkF m 37 #[.val (.ref a1), .val (.int (2 : Int32)), .val (.int (3 : Int32))] [(.int (7 : Int32)), (.ref wb), (.int (2 : Int32)), (.ref a1), (.int (3 : Int32)), (.ref wb)]))
  refine own_ildI X98 hx hZ e98 Aw0 (hb hby od_29_5_37) (by decide) (i := 7) rfl (by decide) (x := (-1 : Int32)) h7 ?_
  show own_E p e below _ (T98.setTop (mkF m 38 #[.val (.ref a1), .val (.int (2 : Int32)), .val (.int (3 : Int32))] [(.int (-1 : Int32)), (.int (2 : Int32)), (.ref a1), (.int (3 : Int32)), (.ref wb)]))
  refine own_callP (rest := [(.int (3 : Int32)), (.ref wb)]) (a := a1) (as := [(.int (2 : Int32)), (.int (-1 : Int32))]) X98 hx hZ hown e98 (own_c_mat l Z a0 hw a1 cb zb wb fc fo fw (2 : Int32) (-1 : Int32) h0 n0 Z0 (Or.inr (Or.inr (Or.inr rfl))) (Or.inl rfl) ⟨E0, Fl0, Fc0, Fo0, Fw0, Ac0, Ao0, Aw0, gc0, gz0, gw0, nac0, naz0, naw0, ncz0, ncw0, nzw0⟩) E0 (own_w hw 36 rfl) (own_w hw 2 rfl) (own_w hw 38 rfl) (own_w hw 37 rfl) (own_w hw 3 rfl) (own_w hw 39 rfl) (by decide) own_pd1 rfl (by rw [hml]; rfl) rfl (hb hby od_29_5_38) 2 (by show 2 * 0 + _ ≤ _; exact Nat.le_of_eq rfl) (by decide) (by decide) (by decide) (by decide) ?_
  rintro _ T99 L99 X99 ⟨rfl, rfl, e99⟩
  have N99 := Fr.app N0 (Fr.nil n0)
  show own_E p e below _ (T99.setTop (mkF m 41 #[.val (.ref a1), .val (.int (2 : Int32)), .val (.int (3 : Int32))] [(.int (own_mt fo fc (2 : Int32) (-1 : Int32))), (.int (3 : Int32)), (.ref wb)]))
  refine own_stI X99 hx hZ e99 Aw0 (hb hby od_29_5_41) (by decide) (i := 3) rfl (by decide) ?_
  intro T100 h100 X100 e100 W100 A100
  have N100 := Fr.snoc X100 N99 gw0
  have s101 : n0 ≤ h100.size := Nat.le_trans Z0 (Keep.of_wr W100).1
  have f102 := Exa.wr W100 E0
  have f103 := Fld.other W100 Fl0 (Or.inl naw0)
  have f104 := Fld.other W100 Fc0 (Or.inl naw0)
  have f105 := Fld.other W100 Fo0 (Or.inl naw0)
  have f106 := Fld.other W100 Fw0 (Or.inl naw0)
  have f107 := Ac0.other W100 ncw0
  have f108 := Ao0.other W100 nzw0
  show own_E p e below _ (T100.setTop (mkF m 42 #[.val (.ref a1), .val (.int (2 : Int32)), .val (.int (3 : Int32))] []))
  obtain ⟨fw1, efw1, Afw1x⟩ : ∃ F, F = (own_set fw 3 (own_mt fo fc (2 : Int32) (-1 : Int32))) ∧ own_IA Z h100 wb .int 8 F := ⟨_, rfl, A100⟩
  have hv109 : fw1 4 = (0 : Int32) := by rw [efw1, own_set_other _ _ (by decide)]; exact h4
  have hv110 : fw1 5 = (1 : Int32) := by rw [efw1, own_set_other _ _ (by decide)]; exact h5
  have hv111 : fw1 6 = (2 : Int32) := by rw [efw1, own_set_other _ _ (by decide)]; exact h6
  have hv112 : fw1 7 = (-1 : Int32) := by rw [efw1, own_set_other _ _ (by decide)]; exact h7
  have hv113 : fw1 2 = (own_mt fo fc 0 1) := by rw [efw1, own_set_other _ _ (by decide)]; exact h2
  have hv114 : fw1 3 = (2 : Int32) := by rw [efw1, own_set_same]; rfl
  refine own_g (mkF m 43 #[.val (.ref a1), .val (.int (2 : Int32)), .val (.int (3 : Int32))] [(.int (3 : Int32))]) (fun _ kz => XS.iloadN X100.here hx rfl (hb hby od_29_5_42) rfl kz) ?_
  refine own_g (mkF m 44 #[.val (.ref a1), .val (.int (2 : Int32)), .val (.int (3 : Int32))] [(.int (2 : Int32)), (.int (3 : Int32))]) (fun _ kz => XS.iconst X100.here hx rfl (hb hby od_29_5_43) kz) ?_
  refine own_g (mkF m 45 #[.val (.ref a1), .val (.int (2 : Int32)), .val (.int (3 : Int32))] [(.int ((3 : Int32) / (2 : Int32)))]) (fun _ kz => XS.idiv X100.here hx rfl (hb hby od_29_5_44) rfl (by decide) kz) ?_
  rw [show ((3 : Int32) / (2 : Int32)) = (1 : Int32) from by decide]
  show own_E p e below _ (T100.setTop (mkF m 45 #[.val (.ref a1), .val (.int (2 : Int32)), .val (.int (3 : Int32))] [(.int (1 : Int32))]))
  refine own_g (mkF m 46 #[.val (.ref a1), .val (.int (2 : Int32)), .val (.int (1 : Int32))] []) (fun _ kz => XS.istoreN X100.here hx rfl (hb hby od_29_5_45) rfl (l' := #[.val (.ref a1), .val (.int (2 : Int32)), .val (.int (1 : Int32))]) rfl kz) ?_
  refine own_g (mkF m 9 #[.val (.ref a1), .val (.int (2 : Int32)), .val (.int (1 : Int32))] []) (fun _ kz => XS.goto X100.here hx rfl (pc0 := 46) (pc' := 9) rfl (hb hby od_29_5_46) (by decide) (by decide) kz) ?_
  refine own_g (mkF m 10 #[.val (.ref a1), .val (.int (2 : Int32)), .val (.int (1 : Int32))] [(.int (1 : Int32))]) (fun _ kz => XS.iloadN X100.here hx rfl (hb hby od_29_5_9) rfl kz) ?_
  refine own_g (mkF m 11 #[.val (.ref a1), .val (.int (2 : Int32)), .val (.int (1 : Int32))] [(.int (1 : Int32)), (.int (1 : Int32))]) (fun _ kz => XS.iconst X100.here hx rfl (hb hby od_29_5_10) kz) ?_
  refine own_g (mkF m 14 #[.val (.ref a1), .val (.int (2 : Int32)), .val (.int (1 : Int32))] []) (fun _ kz => XS.icmpNo X100.here hx rfl (hb hby od_29_5_11) rfl (flt (by decide)).1 kz) ?_
  refine own_g (mkF m 15 #[.val (.ref a1), .val (.int (2 : Int32)), .val (.int (1 : Int32))] [(.ref a1)]) (fun _ kz => XS.aloadN X100.here hx rfl (hb hby od_29_5_14) rfl rfl kz) ?_
  obtain ⟨T115, X115, e115, st115⟩ := getF X100 hx hZ hown (host := "") (Or.inl (own_w hw 30 rfl)) Via.refl e100 f106 (g := (mkF m 15 #[.val (.ref a1), .val (.int (2 : Int32)), .val (.int (1 : Int32))] [(.ref a1)])) rfl rfl (hb hby od_29_5_15)
  refine own_s st115 ?_
  show own_E p e below _ (T115.setTop (mkF m 18 #[.val (.ref a1), .val (.int (2 : Int32)), .val (.int (1 : Int32))] [(.ref wb)]))
  refine own_g (mkF m 19 #[.val (.ref a1), .val (.int (2 : Int32)), .val (.int (1 : Int32))] [(.int (1 : Int32)), (.ref wb)]) (fun _ kz => XS.iloadN X115.here hx rfl (hb hby od_29_5_18) rfl kz) ?_
  refine own_g (mkF m 20 #[.val (.ref a1), .val (.int (2 : Int32)), .val (.int (1 : Int32))] [(.ref a1), (.int (1 : Int32)), (.ref wb)]) (fun _ kz => XS.aloadN X115.here hx rfl (hb hby od_29_5_19) rfl rfl kz) ?_
  refine own_g (mkF m 21 #[.val (.ref a1), .val (.int (2 : Int32)), .val (.int (1 : Int32))] [(.ref a1), (.ref a1), (.int (1 : Int32)), (.ref wb)]) (fun _ kz => XS.aloadN X115.here hx rfl (hb hby od_29_5_20) rfl rfl kz) ?_
  obtain ⟨T116, X116, e116, st116⟩ := getF X115 hx hZ hown (host := "") (Or.inl (own_w hw 30 rfl)) Via.refl e115 f106 (g := (mkF m 21 #[.val (.ref a1), .val (.int (2 : Int32)), .val (.int (1 : Int32))] [(.ref a1), (.ref a1), (.int (1 : Int32)), (.ref wb)])) rfl rfl (hb hby od_29_5_21)
  refine own_s st116 ?_
  show own_E p e below _ (T116.setTop (mkF m 24 #[.val (.ref a1), .val (.int (2 : Int32)), .val (.int (1 : Int32))] [(.ref wb), (.ref a1), (.int (1 : Int32)), (.ref wb)]))
  refine own_g (mkF m 25 #[.val (.ref a1), .val (.int (2 : Int32)), .val (.int (1 : Int32))] [(.int (2 : Int32)), (.ref wb), (.ref a1), (.int (1 : Int32)), (.ref wb)]) (fun _ kz => XS.iconst X116.here hx rfl (hb hby od_29_5_24) kz) ?_
  refine own_g (mkF m 26 #[.val (.ref a1), .val (.int (2 : Int32)), .val (.int (1 : Int32))] [(.int (1 : Int32)), (.int (2 : Int32)), (.ref wb), (.ref a1), (.int (1 : Int32)), (.ref wb)]) (fun _ kz => XS.iloadN X116.here hx rfl (hb hby od_29_5_25) rfl kz) ?_
  refine own_g (mkF m 27 #[.val (.ref a1), .val (.int (2 : Int32)), .val (.int (1 : Int32))] [(.int ((2 : Int32) * (1 : Int32))), (.ref wb), (.ref a1), (.int (1 : Int32)), (.ref wb)]) (fun _ kz => XS.imul X116.here hx rfl (hb hby od_29_5_26) rfl kz) ?_
  rw [show ((2 : Int32) * (1 : Int32)) = (2 : Int32) from by decide]
  show own_E p e below _ (T116.setTop (mkF m 27 #[.val (.ref a1), .val (.int (2 : Int32)), .val (.int (1 : Int32))] [(.int (2 : Int32)), (.ref wb), (.ref a1), (.int (1 : Int32)), (.ref wb)]))
  refine own_ildI X116 hx hZ e116 Afw1x (hb hby od_29_5_27) (by decide) (i := 2) rfl (by decide) (x := (own_mt fo fc 0 1)) hv113 ?_
  show own_E p e below _ (T116.setTop (mkF m 28 #[.val (.ref a1), .val (.int (2 : Int32)), .val (.int (1 : Int32))] [(.int (own_mt fo fc 0 1)), (.ref a1), (.int (1 : Int32)), (.ref wb)]))
  refine own_g (mkF m 29 #[.val (.ref a1), .val (.int (2 : Int32)), .val (.int (1 : Int32))] [(.ref a1), (.int (own_mt fo fc 0 1)), (.ref a1), (.int (1 : Int32)), (.ref wb)]) (fun _ kz => XS.aloadN X116.here hx rfl (hb hby od_29_5_28) rfl rfl kz) ?_
  obtain ⟨T117, X117, e117, st117⟩ := getF X116 hx hZ hown (host := "") (Or.inl (own_w hw 30 rfl)) Via.refl e116 f106 (g := (mkF m 29 #[.val (.ref a1), .val (.int (2 : Int32)), .val (.int (1 : Int32))] [(.ref a1), (.int (own_mt fo fc 0 1)), (.ref a1), (.int (1 : Int32)), (.ref wb)])) rfl rfl (hb hby od_29_5_29)
  refine own_s st117 ?_
  show own_E p e below _ (T117.setTop (mkF m 32 #[.val (.ref a1), .val (.int (2 : Int32)), .val (.int (1 : Int32))] [(.ref wb), (.int (own_mt fo fc 0 1)), (.ref a1), (.int (1 : Int32)), (.ref wb)]))
  refine own_g (mkF m 33 #[.val (.ref a1), .val (.int (2 : Int32)), .val (.int (1 : Int32))] [(.int (2 : Int32)), (.ref wb), (.int (own_mt fo fc 0 1)), (.ref a1), (.int (1 : Int32)), (.ref wb)]) (fun _ kz => XS.iconst X117.here hx rfl (hb hby od_29_5_32) kz) ?_
  refine own_g (mkF m 34 #[.val (.ref a1), .val (.int (2 : Int32)), .val (.int (1 : Int32))] [(.int (1 : Int32)), (.int (2 : Int32)), (.ref wb), (.int (own_mt fo fc 0 1)), (.ref a1), (.int (1 : Int32)), (.ref wb)]) (fun _ kz => XS.iloadN X117.here hx rfl (hb hby od_29_5_33) rfl kz) ?_
  refine own_g (mkF m 35 #[.val (.ref a1), .val (.int (2 : Int32)), .val (.int (1 : Int32))] [(.int ((2 : Int32) * (1 : Int32))), (.ref wb), (.int (own_mt fo fc 0 1)), (.ref a1), (.int (1 : Int32)), (.ref wb)]) (fun _ kz => XS.imul X117.here hx rfl (hb hby od_29_5_34) rfl kz) ?_
  rw [show ((2 : Int32) * (1 : Int32)) = (2 : Int32) from by decide]
  show own_E p e below _ (T117.setTop (mkF m 35 #[.val (.ref a1), .val (.int (2 : Int32)), .val (.int (1 : Int32))] [(.int (2 : Int32)), (.ref wb), (.int (own_mt fo fc 0 1)), (.ref a1), (.int (1 : Int32)), (.ref wb)]))
  refine own_g (mkF m 36 #[.val (.ref a1), .val (.int (2 : Int32)), .val (.int (1 : Int32))] [(.int (1 : Int32)), (.int (2 : Int32)), (.ref wb), (.int (own_mt fo fc 0 1)), (.ref a1), (.int (1 : Int32)), (.ref wb)]) (fun _ kz => XS.iconst X117.here hx rfl (hb hby od_29_5_35) kz) ?_
  refine own_g (mkF m 37 #[.val (.ref a1), .val (.int (2 : Int32)), .val (.int (1 : Int32))] [(.int ((2 : Int32) + (1 : Int32))), (.ref wb), (.int (own_mt fo fc 0 1)), (.ref a1), (.int (1 : Int32)), (.ref wb)]) (fun _ kz => XS.iadd X117.here hx rfl (hb hby od_29_5_36) rfl kz) ?_
  rw [show ((2 : Int32) + (1 : Int32)) = (3 : Int32) from by decide]
  show own_E p e below _ (T117.setTop (mkF m 37 #[.val (.ref a1), .val (.int (2 : Int32)), .val (.int (1 : Int32))] [(.int (3 : Int32)), (.ref wb), (.int (own_mt fo fc 0 1)), (.ref a1), (.int (1 : Int32)), (.ref wb)]))
  refine own_ildI X117 hx hZ e117 Afw1x (hb hby od_29_5_37) (by decide) (i := 3) rfl (by decide) (x := (2 : Int32)) hv114 ?_
  show own_E p e below _ (T117.setTop (mkF m 38 #[.val (.ref a1), .val (.int (2 : Int32)), .val (.int (1 : Int32))] [(.int (2 : Int32)), (.int (own_mt fo fc 0 1)), (.ref a1), (.int (1 : Int32)), (.ref wb)]))
  refine own_callP (rest := [(.int (1 : Int32)), (.ref wb)]) (a := a1) (as := [(.int (own_mt fo fc 0 1)), (.int (2 : Int32))]) X117 hx hZ hown e117 (own_c_mat l Z a0 hw a1 cb zb wb fc fo fw1 (own_mt fo fc 0 1) (2 : Int32) h100 n0 s101 (own_mt_dom (Or.inr (Or.inl rfl)) (Or.inr (Or.inr (Or.inl rfl)))) (Or.inr (Or.inr (Or.inr rfl))) ⟨f102, f103, f104, f105, f106, f107, f108, Afw1x, gc0, gz0, gw0, nac0, naz0, naw0, ncz0, ncw0, nzw0⟩) f102 (own_w hw 36 rfl) (own_w hw 2 rfl) (own_w hw 38 rfl) (own_w hw 37 rfl) (own_w hw 3 rfl) (own_w hw 39 rfl) (by decide) own_pd1 rfl (by rw [hml]; rfl) rfl (hb hby od_29_5_38) 2 (by show 2 * 0 + _ ≤ _; exact Nat.le_of_eq rfl) (by decide) (by decide) (by decide) (by decide) ?_
  rintro _ T118 L118 X118 ⟨rfl, rfl, e118⟩
  have N118 := Fr.app N100 (Fr.nil n0)
  show own_E p e below _ (T118.setTop (mkF m 41 #[.val (.ref a1), .val (.int (2 : Int32)), .val (.int (1 : Int32))] [(.int (own_mt fo fc (own_mt fo fc 0 1) (2 : Int32))), (.int (1 : Int32)), (.ref wb)]))
  refine own_stI X118 hx hZ e118 Afw1x (hb hby od_29_5_41) (by decide) (i := 1) rfl (by decide) ?_
  intro T119 h119 X119 e119 W119 A119
  have N119 := Fr.snoc X119 N118 gw0
  have s120 : n0 ≤ h119.size := Nat.le_trans s101 (Keep.of_wr W119).1
  have f121 := Exa.wr W119 f102
  have f122 := Fld.other W119 f103 (Or.inl naw0)
  have f123 := Fld.other W119 f104 (Or.inl naw0)
  have f124 := Fld.other W119 f105 (Or.inl naw0)
  have f125 := Fld.other W119 f106 (Or.inl naw0)
  have f126 := f107.other W119 ncw0
  have f127 := f108.other W119 nzw0
  show own_E p e below _ (T119.setTop (mkF m 42 #[.val (.ref a1), .val (.int (2 : Int32)), .val (.int (1 : Int32))] []))
  obtain ⟨fw2, efw2, Afw2x⟩ : ∃ F, F = (own_set fw1 1 (own_mt fo fc (own_mt fo fc 0 1) (2 : Int32))) ∧ own_IA Z h119 wb .int 8 F := ⟨_, rfl, A119⟩
  have hv128 : fw2 4 = (0 : Int32) := by rw [efw2, own_set_other _ _ (by decide)]; exact hv109
  have hv129 : fw2 5 = (1 : Int32) := by rw [efw2, own_set_other _ _ (by decide)]; exact hv110
  have hv130 : fw2 6 = (2 : Int32) := by rw [efw2, own_set_other _ _ (by decide)]; exact hv111
  have hv131 : fw2 7 = (-1 : Int32) := by rw [efw2, own_set_other _ _ (by decide)]; exact hv112
  have hv132 : fw2 2 = (own_mt fo fc 0 1) := by rw [efw2, own_set_other _ _ (by decide)]; exact hv113
  have hv133 : fw2 3 = (2 : Int32) := by rw [efw2, own_set_other _ _ (by decide)]; exact hv114
  have hv134 : fw2 1 = (own_mt fo fc (own_mt fo fc 0 1) (2 : Int32)) := by rw [efw2, own_set_same]
  refine own_g (mkF m 43 #[.val (.ref a1), .val (.int (2 : Int32)), .val (.int (1 : Int32))] [(.int (1 : Int32))]) (fun _ kz => XS.iloadN X119.here hx rfl (hb hby od_29_5_42) rfl kz) ?_
  refine own_g (mkF m 44 #[.val (.ref a1), .val (.int (2 : Int32)), .val (.int (1 : Int32))] [(.int (2 : Int32)), (.int (1 : Int32))]) (fun _ kz => XS.iconst X119.here hx rfl (hb hby od_29_5_43) kz) ?_
  refine own_g (mkF m 45 #[.val (.ref a1), .val (.int (2 : Int32)), .val (.int (1 : Int32))] [(.int ((1 : Int32) / (2 : Int32)))]) (fun _ kz => XS.idiv X119.here hx rfl (hb hby od_29_5_44) rfl (by decide) kz) ?_
  rw [show ((1 : Int32) / (2 : Int32)) = (0 : Int32) from by decide]
  show own_E p e below _ (T119.setTop (mkF m 45 #[.val (.ref a1), .val (.int (2 : Int32)), .val (.int (1 : Int32))] [(.int (0 : Int32))]))
  refine own_g (mkF m 46 #[.val (.ref a1), .val (.int (2 : Int32)), .val (.int (0 : Int32))] []) (fun _ kz => XS.istoreN X119.here hx rfl (hb hby od_29_5_45) rfl (l' := #[.val (.ref a1), .val (.int (2 : Int32)), .val (.int (0 : Int32))]) rfl kz) ?_
  refine own_g (mkF m 9 #[.val (.ref a1), .val (.int (2 : Int32)), .val (.int (0 : Int32))] []) (fun _ kz => XS.goto X119.here hx rfl (pc0 := 46) (pc' := 9) rfl (hb hby od_29_5_46) (by decide) (by decide) kz) ?_
  refine own_g (mkF m 10 #[.val (.ref a1), .val (.int (2 : Int32)), .val (.int (0 : Int32))] [(.int (0 : Int32))]) (fun _ kz => XS.iloadN X119.here hx rfl (hb hby od_29_5_9) rfl kz) ?_
  refine own_g (mkF m 11 #[.val (.ref a1), .val (.int (2 : Int32)), .val (.int (0 : Int32))] [(.int (1 : Int32)), (.int (0 : Int32))]) (fun _ kz => XS.iconst X119.here hx rfl (hb hby od_29_5_10) kz) ?_
  refine own_g (mkF m 49 #[.val (.ref a1), .val (.int (2 : Int32)), .val (.int (0 : Int32))] []) (fun _ kz => XS.icmpYes X119.here hx rfl (pc0 := 11) (pc' := 49) rfl (hb hby od_29_5_11) rfl (tlt (by decide)).1 (by decide) (by decide) kz) ?_
  exact own_retV X119 hx hret hlk (hb hby od_29_5_49) (by decide) (by decide) (by first | exact ⟨rfl, N119, s120, fw2, ⟨hv128, hv129, hv130, hv131, hv133, hv132, hv134⟩, ⟨f121, f122, f123, f124, f125, f126, f127, Afw2x, gc0, gz0, gw0, nac0, naz0, naw0, ncz0, ncw0, nzw0⟩⟩ | (rw [e119]; exact ⟨rfl, N119, s120, fw2, ⟨hv128, hv129, hv130, hv131, hv133, hv132, hv134⟩, ⟨f121, f122, f123, f124, f125, f126, f127, Afw2x, gc0, gz0, gw0, nac0, naz0, naw0, ncz0, ncw0, nzw0⟩⟩))
theorem od_29_3_0 : decode prog_29_method_3_code 0 = .ok (.aload_n 0, 1) := by decide +kernel
theorem od_29_3_1 : decode prog_29_method_3_code 1 = .ok (.getfield 29, 3) := by decide +kernel
theorem od_29_3_4 : decode prog_29_method_3_code 4 = .ok (.iload_n 1, 1) := by decide +kernel
theorem od_29_3_5 : decode prog_29_method_3_code 5 = .ok (.iload_n 2, 1) := by decide +kernel
theorem od_29_3_6 : decode prog_29_method_3_code 6 = .ok (.bastore, 1) := by decide +kernel
theorem od_29_3_7 : decode prog_29_method_3_code 7 = .ok (.aload_n 0, 1) := by decide +kernel
theorem od_29_3_8 : decode prog_29_method_3_code 8 = .ok (.iload_n 1, 1) := by decide +kernel
theorem own_pd2 : parseMethodDescriptor "(I)V" = some ⟨[.int], none⟩ := by decide +kernel
theorem od_29_3_9 : decode prog_29_method_3_code 9 = .ok (.invokevirtual 45, 3) := by decide +kernel
theorem od_29_3_12 : decode prog_29_method_3_code 12 = .ok (.return_, 1) := by decide +kernel
set_option maxRecDepth 65536 in
set_option maxHeartbeats 40000000 in
theorem own_c_tak0 (l : Launch) (Z : State) (a0 : Array Value) (hw : ∀ d ∈ tables_1, d.before a0 Z = true) (a1 : Addr) (cb : Addr) (zb : Addr) (wb : Addr) (fc : Nat → Int32) (fo : Nat → Int32) (fw : Nat → Int32) (x2 : Int32) (h0 : Heap) (n0 : Nat) (Z0 : n0 ≤ h0.size) (hbb : x2 = 0 ∨ x2 = 1) (hW : own_W fo fc fw) (S0 : own_S Z h0 n0 a1 cb zb wb fc fo fw) :
    own_Con l Z (⟨"com/example/horncast/horncast/query/LeastCount", "takeOut", "(IZ)V"⟩ : MethodName) prog_29_method_3_code 3 none [] ({ frames := 2, cells := 0, slots := 0, locals := 32 } : Room) #[(.ref a1), (.int (0 : Int32)), (.int x2)] h0 (fun v h L => v = none ∧ Fr n0 L ∧ n0 ≤ h.size ∧ ∃ fw', own_W (own_set fo 0 x2) fc fw' ∧ own_S Z h n0 a1 cb zb wb fc (own_set fo 0 x2) fw') := by
  refine own_enter (plainFor_of_name own_pn2) ?_
  intro p e s m below meth c s₁ X0 e0 hx hZ hby hml hown hnm hret hlk
  refine own_cast (g' := (mkF m 0 #[.val (.ref a1), .val (.int (0 : Int32)), .val (.int x2)] [])) (by first | (simp [entryFrame, mkF, argsToLocals, Value.category]; done) | rfl) ?_
  have N0 := Fr.nil n0
  obtain ⟨E0, Fl0, Fc0, Fo0, Fw0, Ac0, Ao0, Aw0, gc0, gz0, gw0, nac0, naz0, naw0, ncz0, ncw0, nzw0⟩ := S0
  obtain ⟨h4, h5, h6, h7, h3, h2, h1⟩ := hW
  refine own_g (mkF m 1 #[.val (.ref a1), .val (.int (0 : Int32)), .val (.int x2)] [(.ref a1)]) (fun _ kz => XS.aloadN X0.here hx rfl (hb hby od_29_3_0) rfl rfl kz) ?_
  obtain ⟨T135, X135, e135, st135⟩ := getF X0 hx hZ hown (host := "") (Or.inl (own_w hw 28 rfl)) Via.refl e0 Fo0 (g := (mkF m 1 #[.val (.ref a1), .val (.int (0 : Int32)), .val (.int x2)] [(.ref a1)])) rfl rfl (hb hby od_29_3_1)
  refine own_s st135 ?_
  show own_E p e below _ (T135.setTop (mkF m 4 #[.val (.ref a1), .val (.int (0 : Int32)), .val (.int x2)] [(.ref zb)]))
  refine own_g (mkF m 5 #[.val (.ref a1), .val (.int (0 : Int32)), .val (.int x2)] [(.int (0 : Int32)), (.ref zb)]) (fun _ kz => XS.iloadN X135.here hx rfl (hb hby od_29_3_4) rfl kz) ?_
  refine own_g (mkF m 6 #[.val (.ref a1), .val (.int (0 : Int32)), .val (.int x2)] [(.int x2), (.int (0 : Int32)), (.ref zb)]) (fun _ kz => XS.iloadN X135.here hx rfl (hb hby od_29_3_5) rfl kz) ?_
  refine own_stZ X135 hx hZ e135 Ao0 (hb hby od_29_3_6) (by decide) (i := 0) rfl (by decide) ?_
  intro T136 h136 X136 e136 W136 A136
  have N136 := Fr.snoc X136 N0 gz0
  have s137 : n0 ≤ h136.size := Nat.le_trans Z0 (Keep.of_wr W136).1
  have f138 := Exa.wr W136 E0
  have f139 := Fld.other W136 Fl0 (Or.inl naz0)
  have f140 := Fld.other W136 Fc0 (Or.inl naz0)
  have f141 := Fld.other W136 Fo0 (Or.inl naz0)
  have f142 := Fld.other W136 Fw0 (Or.inl naz0)
  have f143 := Ac0.other W136 ncz0
  have f144 := Aw0.other W136 (Ne.symm nzw0)
  show own_E p e below _ (T136.setTop (mkF m 7 #[.val (.ref a1), .val (.int (0 : Int32)), .val (.int x2)] []))
  refine own_g (mkF m 8 #[.val (.ref a1), .val (.int (0 : Int32)), .val (.int x2)] [(.ref a1)]) (fun _ kz => XS.aloadN X136.here hx rfl (hb hby od_29_3_7) rfl rfl kz) ?_
  refine own_g (mkF m 9 #[.val (.ref a1), .val (.int (0 : Int32)), .val (.int x2)] [(.int (0 : Int32)), (.ref a1)]) (fun _ kz => XS.iloadN X136.here hx rfl (hb hby od_29_3_8) rfl kz) ?_
  rw [own_b01 hbb] at A136
  refine own_callP (rest := []) (a := a1) (as := [(.int (0 : Int32))]) X136 hx hZ hown e136 (own_c_rep0 l Z a0 hw a1 cb zb wb fc (own_set fo 0 x2) fw h136 n0 s137 ⟨h4, h5, h6, h7, h3⟩ ⟨f138, f139, f140, f141, f142, f143, A136, f144, gc0, gz0, gw0, nac0, naz0, naw0, ncz0, ncw0, nzw0⟩) f138 (own_w hw 45 rfl) (own_w hw 2 rfl) (own_w hw 47 rfl) (own_w hw 46 rfl) (own_w hw 3 rfl) (own_w hw 48 rfl) (by decide) own_pd2 rfl (by rw [hml]; rfl) rfl (hb hby od_29_3_9) 0 (by show 2 * 0 + _ ≤ _; exact Nat.le_of_eq rfl) (by decide) (by decide) (by decide) (by decide) ?_
  rintro _ T145 L145 X145 ⟨rfl, Nq145, zz145, fw', W145, S145⟩
  have N145 := Fr.app N136 Nq145
  show own_E p e below _ (T145.setTop (mkF m 12 #[.val (.ref a1), .val (.int (0 : Int32)), .val (.int x2)] []))
  exact own_retV X145 hx hret hlk (hb hby od_29_3_12) (by decide) (by decide) ((⟨rfl, N145, zz145, fw', W145, S145⟩))
theorem od_29_2_0 : decode prog_29_method_2_code 0 = .ok (.aload_n 0, 1) := by decide +kernel
theorem od_29_2_1 : decode prog_29_method_2_code 1 = .ok (.getfield 25, 3) := by decide +kernel
theorem od_29_2_4 : decode prog_29_method_2_code 4 = .ok (.iload_n 1, 1) := by decide +kernel
theorem od_29_2_5 : decode prog_29_method_2_code 5 = .ok (.iload_n 2, 1) := by decide +kernel
theorem od_29_2_6 : decode prog_29_method_2_code 6 = .ok (.iastore, 1) := by decide +kernel
theorem od_29_2_7 : decode prog_29_method_2_code 7 = .ok (.aload_n 0, 1) := by decide +kernel
theorem od_29_2_8 : decode prog_29_method_2_code 8 = .ok (.iload_n 1, 1) := by decide +kernel
theorem od_29_2_9 : decode prog_29_method_2_code 9 = .ok (.invokevirtual 45, 3) := by decide +kernel
theorem od_29_2_12 : decode prog_29_method_2_code 12 = .ok (.return_, 1) := by decide +kernel
set_option maxRecDepth 65536 in
set_option maxHeartbeats 40000000 in
theorem own_c_set0 (l : Launch) (Z : State) (a0 : Array Value) (hw : ∀ d ∈ tables_1, d.before a0 Z = true) (a1 : Addr) (cb : Addr) (zb : Addr) (wb : Addr) (fc : Nat → Int32) (fo : Nat → Int32) (fw : Nat → Int32) (x2 : Int32) (h0 : Heap) (n0 : Nat) (Z0 : n0 ≤ h0.size) (hW : own_W fo fc fw) (S0 : own_S Z h0 n0 a1 cb zb wb fc fo fw) :
    own_Con l Z (⟨"com/example/horncast/horncast/query/LeastCount", "set", "(II)V"⟩ : MethodName) prog_29_method_2_code 3 none [] ({ frames := 2, cells := 0, slots := 0, locals := 32 } : Room) #[(.ref a1), (.int (0 : Int32)), (.int x2)] h0 (fun v h L => v = none ∧ Fr n0 L ∧ n0 ≤ h.size ∧ ∃ fw', own_W fo (own_set fc 0 x2) fw' ∧ own_S Z h n0 a1 cb zb wb (own_set fc 0 x2) fo fw') := by
  refine own_enter (plainFor_of_name own_pn2) ?_
  intro p e s m below meth c s₁ X0 e0 hx hZ hby hml hown hnm hret hlk
  refine own_cast (g' := (mkF m 0 #[.val (.ref a1), .val (.int (0 : Int32)), .val (.int x2)] [])) (by first | (simp [entryFrame, mkF, argsToLocals, Value.category]; done) | rfl) ?_
  have N0 := Fr.nil n0
  obtain ⟨E0, Fl0, Fc0, Fo0, Fw0, Ac0, Ao0, Aw0, gc0, gz0, gw0, nac0, naz0, naw0, ncz0, ncw0, nzw0⟩ := S0
  obtain ⟨h4, h5, h6, h7, h3, h2, h1⟩ := hW
  refine own_g (mkF m 1 #[.val (.ref a1), .val (.int (0 : Int32)), .val (.int x2)] [(.ref a1)]) (fun _ kz => XS.aloadN X0.here hx rfl (hb hby od_29_2_0) rfl rfl kz) ?_
  obtain ⟨T146, X146, e146, st146⟩ := getF X0 hx hZ hown (host := "") (Or.inl (own_w hw 25 rfl)) Via.refl e0 Fc0 (g := (mkF m 1 #[.val (.ref a1), .val (.int (0 : Int32)), .val (.int x2)] [(.ref a1)])) rfl rfl (hb hby od_29_2_1)
  refine own_s st146 ?_
  show own_E p e below _ (T146.setTop (mkF m 4 #[.val (.ref a1), .val (.int (0 : Int32)), .val (.int x2)] [(.ref cb)]))
  refine own_g (mkF m 5 #[.val (.ref a1), .val (.int (0 : Int32)), .val (.int x2)] [(.int (0 : Int32)), (.ref cb)]) (fun _ kz => XS.iloadN X146.here hx rfl (hb hby od_29_2_4) rfl kz) ?_
  refine own_g (mkF m 6 #[.val (.ref a1), .val (.int (0 : Int32)), .val (.int x2)] [(.int x2), (.int (0 : Int32)), (.ref cb)]) (fun _ kz => XS.iloadN X146.here hx rfl (hb hby od_29_2_5) rfl kz) ?_
  refine own_stI X146 hx hZ e146 Ac0 (hb hby od_29_2_6) (by decide) (i := 0) rfl (by decide) ?_
  intro T147 h147 X147 e147 W147 A147
  have N147 := Fr.snoc X147 N0 gc0
  have s148 : n0 ≤ h147.size := Nat.le_trans Z0 (Keep.of_wr W147).1
  have f149 := Exa.wr W147 E0
  have f150 := Fld.other W147 Fl0 (Or.inl nac0)
  have f151 := Fld.other W147 Fc0 (Or.inl nac0)
  have f152 := Fld.other W147 Fo0 (Or.inl nac0)
  have f153 := Fld.other W147 Fw0 (Or.inl nac0)
  have f154 := Ao0.other W147 (Ne.symm ncz0)
  have f155 := Aw0.other W147 (Ne.symm ncw0)
  show own_E p e below _ (T147.setTop (mkF m 7 #[.val (.ref a1), .val (.int (0 : Int32)), .val (.int x2)] []))
  refine own_g (mkF m 8 #[.val (.ref a1), .val (.int (0 : Int32)), .val (.int x2)] [(.ref a1)]) (fun _ kz => XS.aloadN X147.here hx rfl (hb hby od_29_2_7) rfl rfl kz) ?_
  refine own_g (mkF m 9 #[.val (.ref a1), .val (.int (0 : Int32)), .val (.int x2)] [(.int (0 : Int32)), (.ref a1)]) (fun _ kz => XS.iloadN X147.here hx rfl (hb hby od_29_2_8) rfl kz) ?_
  refine own_callP (rest := []) (a := a1) (as := [(.int (0 : Int32))]) X147 hx hZ hown e147 (own_c_rep0 l Z a0 hw a1 cb zb wb (own_set fc 0 x2) fo fw h147 n0 s148 ⟨h4, h5, h6, h7, h3⟩ ⟨f149, f150, f151, f152, f153, A147, f154, f155, gc0, gz0, gw0, nac0, naz0, naw0, ncz0, ncw0, nzw0⟩) f149 (own_w hw 45 rfl) (own_w hw 2 rfl) (own_w hw 47 rfl) (own_w hw 46 rfl) (own_w hw 3 rfl) (own_w hw 48 rfl) (by decide) own_pd2 rfl (by rw [hml]; rfl) rfl (hb hby od_29_2_9) 0 (by show 2 * 0 + _ ≤ _; exact Nat.le_of_eq rfl) (by decide) (by decide) (by decide) (by decide) ?_
  rintro _ T156 L156 X156 ⟨rfl, Nq156, zz156, fw', W156, S156⟩
  have N156 := Fr.app N147 Nq156
  show own_E p e below _ (T156.setTop (mkF m 12 #[.val (.ref a1), .val (.int (0 : Int32)), .val (.int x2)] []))
  exact own_retV X156 hx hret hlk (hb hby od_29_2_12) (by decide) (by decide) ((⟨rfl, N156, zz156, fw', W156, S156⟩))
set_option maxRecDepth 65536 in
set_option maxHeartbeats 40000000 in
theorem own_c_tak1 (l : Launch) (Z : State) (a0 : Array Value) (hw : ∀ d ∈ tables_1, d.before a0 Z = true) (a1 : Addr) (cb : Addr) (zb : Addr) (wb : Addr) (fc : Nat → Int32) (fo : Nat → Int32) (fw : Nat → Int32) (x2 : Int32) (h0 : Heap) (n0 : Nat) (Z0 : n0 ≤ h0.size) (hbb : x2 = 0 ∨ x2 = 1) (hW : own_W fo fc fw) (S0 : own_S Z h0 n0 a1 cb zb wb fc fo fw) :
    own_Con l Z (⟨"com/example/horncast/horncast/query/LeastCount", "takeOut", "(IZ)V"⟩ : MethodName) prog_29_method_3_code 3 none [] ({ frames := 2, cells := 0, slots := 0, locals := 32 } : Room) #[(.ref a1), (.int (1 : Int32)), (.int x2)] h0 (fun v h L => v = none ∧ Fr n0 L ∧ n0 ≤ h.size ∧ ∃ fw', own_W (own_set fo 1 x2) fc fw' ∧ own_S Z h n0 a1 cb zb wb fc (own_set fo 1 x2) fw') := by
  refine own_enter (plainFor_of_name own_pn2) ?_
  intro p e s m below meth c s₁ X0 e0 hx hZ hby hml hown hnm hret hlk
  refine own_cast (g' := (mkF m 0 #[.val (.ref a1), .val (.int (1 : Int32)), .val (.int x2)] [])) (by first | (simp [entryFrame, mkF, argsToLocals, Value.category]; done) | rfl) ?_
  have N0 := Fr.nil n0
  obtain ⟨E0, Fl0, Fc0, Fo0, Fw0, Ac0, Ao0, Aw0, gc0, gz0, gw0, nac0, naz0, naw0, ncz0, ncw0, nzw0⟩ := S0
  obtain ⟨h4, h5, h6, h7, h3, h2, h1⟩ := hW
  refine own_g (mkF m 1 #[.val (.ref a1), .val (.int (1 : Int32)), .val (.int x2)] [(.ref a1)]) (fun _ kz => XS.aloadN X0.here hx rfl (hb hby od_29_3_0) rfl rfl kz) ?_
  obtain ⟨T157, X157, e157, st157⟩ := getF X0 hx hZ hown (host := "") (Or.inl (own_w hw 28 rfl)) Via.refl e0 Fo0 (g := (mkF m 1 #[.val (.ref a1), .val (.int (1 : Int32)), .val (.int x2)] [(.ref a1)])) rfl rfl (hb hby od_29_3_1)
  refine own_s st157 ?_
  show own_E p e below _ (T157.setTop (mkF m 4 #[.val (.ref a1), .val (.int (1 : Int32)), .val (.int x2)] [(.ref zb)]))
  refine own_g (mkF m 5 #[.val (.ref a1), .val (.int (1 : Int32)), .val (.int x2)] [(.int (1 : Int32)), (.ref zb)]) (fun _ kz => XS.iloadN X157.here hx rfl (hb hby od_29_3_4) rfl kz) ?_
  refine own_g (mkF m 6 #[.val (.ref a1), .val (.int (1 : Int32)), .val (.int x2)] [(.int x2), (.int (1 : Int32)), (.ref zb)]) (fun _ kz => XS.iloadN X157.here hx rfl (hb hby od_29_3_5) rfl kz) ?_
  refine own_stZ X157 hx hZ e157 Ao0 (hb hby od_29_3_6) (by decide) (i := 1) rfl (by decide) ?_
  intro T158 h158 X158 e158 W158 A158
  have N158 := Fr.snoc X158 N0 gz0
  have s159 : n0 ≤ h158.size := Nat.le_trans Z0 (Keep.of_wr W158).1
  have f160 := Exa.wr W158 E0
  have f161 := Fld.other W158 Fl0 (Or.inl naz0)
  have f162 := Fld.other W158 Fc0 (Or.inl naz0)
  have f163 := Fld.other W158 Fo0 (Or.inl naz0)
  have f164 := Fld.other W158 Fw0 (Or.inl naz0)
  have f165 := Ac0.other W158 ncz0
  have f166 := Aw0.other W158 (Ne.symm nzw0)
  show own_E p e below _ (T158.setTop (mkF m 7 #[.val (.ref a1), .val (.int (1 : Int32)), .val (.int x2)] []))
  refine own_g (mkF m 8 #[.val (.ref a1), .val (.int (1 : Int32)), .val (.int x2)] [(.ref a1)]) (fun _ kz => XS.aloadN X158.here hx rfl (hb hby od_29_3_7) rfl rfl kz) ?_
  refine own_g (mkF m 9 #[.val (.ref a1), .val (.int (1 : Int32)), .val (.int x2)] [(.int (1 : Int32)), (.ref a1)]) (fun _ kz => XS.iloadN X158.here hx rfl (hb hby od_29_3_8) rfl kz) ?_
  rw [own_b01 hbb] at A158
  refine own_callP (rest := []) (a := a1) (as := [(.int (1 : Int32))]) X158 hx hZ hown e158 (own_c_rep1 l Z a0 hw a1 cb zb wb fc (own_set fo 1 x2) fw h158 n0 s159 ⟨h4, h5, h6, h7, h3⟩ ⟨f160, f161, f162, f163, f164, f165, A158, f166, gc0, gz0, gw0, nac0, naz0, naw0, ncz0, ncw0, nzw0⟩) f160 (own_w hw 45 rfl) (own_w hw 2 rfl) (own_w hw 47 rfl) (own_w hw 46 rfl) (own_w hw 3 rfl) (own_w hw 48 rfl) (by decide) own_pd2 rfl (by rw [hml]; rfl) rfl (hb hby od_29_3_9) 0 (by show 2 * 0 + _ ≤ _; exact Nat.le_of_eq rfl) (by decide) (by decide) (by decide) (by decide) ?_
  rintro _ T167 L167 X167 ⟨rfl, Nq167, zz167, fw', W167, S167⟩
  have N167 := Fr.app N158 Nq167
  show own_E p e below _ (T167.setTop (mkF m 12 #[.val (.ref a1), .val (.int (1 : Int32)), .val (.int x2)] []))
  exact own_retV X167 hx hret hlk (hb hby od_29_3_12) (by decide) (by decide) ((⟨rfl, N167, zz167, fw', W167, S167⟩))
set_option maxRecDepth 65536 in
set_option maxHeartbeats 40000000 in
theorem own_c_set1 (l : Launch) (Z : State) (a0 : Array Value) (hw : ∀ d ∈ tables_1, d.before a0 Z = true) (a1 : Addr) (cb : Addr) (zb : Addr) (wb : Addr) (fc : Nat → Int32) (fo : Nat → Int32) (fw : Nat → Int32) (x2 : Int32) (h0 : Heap) (n0 : Nat) (Z0 : n0 ≤ h0.size) (hW : own_W fo fc fw) (S0 : own_S Z h0 n0 a1 cb zb wb fc fo fw) :
    own_Con l Z (⟨"com/example/horncast/horncast/query/LeastCount", "set", "(II)V"⟩ : MethodName) prog_29_method_2_code 3 none [] ({ frames := 2, cells := 0, slots := 0, locals := 32 } : Room) #[(.ref a1), (.int (1 : Int32)), (.int x2)] h0 (fun v h L => v = none ∧ Fr n0 L ∧ n0 ≤ h.size ∧ ∃ fw', own_W fo (own_set fc 1 x2) fw' ∧ own_S Z h n0 a1 cb zb wb (own_set fc 1 x2) fo fw') := by
  refine own_enter (plainFor_of_name own_pn2) ?_
  intro p e s m below meth c s₁ X0 e0 hx hZ hby hml hown hnm hret hlk
  refine own_cast (g' := (mkF m 0 #[.val (.ref a1), .val (.int (1 : Int32)), .val (.int x2)] [])) (by first | (simp [entryFrame, mkF, argsToLocals, Value.category]; done) | rfl) ?_
  have N0 := Fr.nil n0
  obtain ⟨E0, Fl0, Fc0, Fo0, Fw0, Ac0, Ao0, Aw0, gc0, gz0, gw0, nac0, naz0, naw0, ncz0, ncw0, nzw0⟩ := S0
  obtain ⟨h4, h5, h6, h7, h3, h2, h1⟩ := hW
  refine own_g (mkF m 1 #[.val (.ref a1), .val (.int (1 : Int32)), .val (.int x2)] [(.ref a1)]) (fun _ kz => XS.aloadN X0.here hx rfl (hb hby od_29_2_0) rfl rfl kz) ?_
  obtain ⟨T168, X168, e168, st168⟩ := getF X0 hx hZ hown (host := "") (Or.inl (own_w hw 25 rfl)) Via.refl e0 Fc0 (g := (mkF m 1 #[.val (.ref a1), .val (.int (1 : Int32)), .val (.int x2)] [(.ref a1)])) rfl rfl (hb hby od_29_2_1)
  refine own_s st168 ?_
  show own_E p e below _ (T168.setTop (mkF m 4 #[.val (.ref a1), .val (.int (1 : Int32)), .val (.int x2)] [(.ref cb)]))
  refine own_g (mkF m 5 #[.val (.ref a1), .val (.int (1 : Int32)), .val (.int x2)] [(.int (1 : Int32)), (.ref cb)]) (fun _ kz => XS.iloadN X168.here hx rfl (hb hby od_29_2_4) rfl kz) ?_
  refine own_g (mkF m 6 #[.val (.ref a1), .val (.int (1 : Int32)), .val (.int x2)] [(.int x2), (.int (1 : Int32)), (.ref cb)]) (fun _ kz => XS.iloadN X168.here hx rfl (hb hby od_29_2_5) rfl kz) ?_
  refine own_stI X168 hx hZ e168 Ac0 (hb hby od_29_2_6) (by decide) (i := 1) rfl (by decide) ?_
  intro T169 h169 X169 e169 W169 A169
  have N169 := Fr.snoc X169 N0 gc0
  have s170 : n0 ≤ h169.size := Nat.le_trans Z0 (Keep.of_wr W169).1
  have f171 := Exa.wr W169 E0
  have f172 := Fld.other W169 Fl0 (Or.inl nac0)
  have f173 := Fld.other W169 Fc0 (Or.inl nac0)
  have f174 := Fld.other W169 Fo0 (Or.inl nac0)
  have f175 := Fld.other W169 Fw0 (Or.inl nac0)
  have f176 := Ao0.other W169 (Ne.symm ncz0)
  have f177 := Aw0.other W169 (Ne.symm ncw0)
  show own_E p e below _ (T169.setTop (mkF m 7 #[.val (.ref a1), .val (.int (1 : Int32)), .val (.int x2)] []))
  refine own_g (mkF m 8 #[.val (.ref a1), .val (.int (1 : Int32)), .val (.int x2)] [(.ref a1)]) (fun _ kz => XS.aloadN X169.here hx rfl (hb hby od_29_2_7) rfl rfl kz) ?_
  refine own_g (mkF m 9 #[.val (.ref a1), .val (.int (1 : Int32)), .val (.int x2)] [(.int (1 : Int32)), (.ref a1)]) (fun _ kz => XS.iloadN X169.here hx rfl (hb hby od_29_2_8) rfl kz) ?_
  refine own_callP (rest := []) (a := a1) (as := [(.int (1 : Int32))]) X169 hx hZ hown e169 (own_c_rep1 l Z a0 hw a1 cb zb wb (own_set fc 1 x2) fo fw h169 n0 s170 ⟨h4, h5, h6, h7, h3⟩ ⟨f171, f172, f173, f174, f175, A169, f176, f177, gc0, gz0, gw0, nac0, naz0, naw0, ncz0, ncw0, nzw0⟩) f171 (own_w hw 45 rfl) (own_w hw 2 rfl) (own_w hw 47 rfl) (own_w hw 46 rfl) (own_w hw 3 rfl) (own_w hw 48 rfl) (by decide) own_pd2 rfl (by rw [hml]; rfl) rfl (hb hby od_29_2_9) 0 (by show 2 * 0 + _ ≤ _; exact Nat.le_of_eq rfl) (by decide) (by decide) (by decide) (by decide) ?_
  rintro _ T178 L178 X178 ⟨rfl, Nq178, zz178, fw', W178, S178⟩
  have N178 := Fr.app N169 Nq178
  show own_E p e below _ (T178.setTop (mkF m 12 #[.val (.ref a1), .val (.int (1 : Int32)), .val (.int x2)] []))
  exact own_retV X178 hx hret hlk (hb hby od_29_2_12) (by decide) (by decide) ((⟨rfl, N178, zz178, fw', W178, S178⟩))
set_option maxRecDepth 65536 in
set_option maxHeartbeats 40000000 in
theorem own_c_tak2 (l : Launch) (Z : State) (a0 : Array Value) (hw : ∀ d ∈ tables_1, d.before a0 Z = true) (a1 : Addr) (cb : Addr) (zb : Addr) (wb : Addr) (fc : Nat → Int32) (fo : Nat → Int32) (fw : Nat → Int32) (x2 : Int32) (h0 : Heap) (n0 : Nat) (Z0 : n0 ≤ h0.size) (hbb : x2 = 0 ∨ x2 = 1) (hW : own_W fo fc fw) (S0 : own_S Z h0 n0 a1 cb zb wb fc fo fw) :
    own_Con l Z (⟨"com/example/horncast/horncast/query/LeastCount", "takeOut", "(IZ)V"⟩ : MethodName) prog_29_method_3_code 3 none [] ({ frames := 2, cells := 0, slots := 0, locals := 32 } : Room) #[(.ref a1), (.int (2 : Int32)), (.int x2)] h0 (fun v h L => v = none ∧ Fr n0 L ∧ n0 ≤ h.size ∧ ∃ fw', own_W (own_set fo 2 x2) fc fw' ∧ own_S Z h n0 a1 cb zb wb fc (own_set fo 2 x2) fw') := by
  refine own_enter (plainFor_of_name own_pn2) ?_
  intro p e s m below meth c s₁ X0 e0 hx hZ hby hml hown hnm hret hlk
  refine own_cast (g' := (mkF m 0 #[.val (.ref a1), .val (.int (2 : Int32)), .val (.int x2)] [])) (by first | (simp [entryFrame, mkF, argsToLocals, Value.category]; done) | rfl) ?_
  have N0 := Fr.nil n0
  obtain ⟨E0, Fl0, Fc0, Fo0, Fw0, Ac0, Ao0, Aw0, gc0, gz0, gw0, nac0, naz0, naw0, ncz0, ncw0, nzw0⟩ := S0
  obtain ⟨h4, h5, h6, h7, h3, h2, h1⟩ := hW
  refine own_g (mkF m 1 #[.val (.ref a1), .val (.int (2 : Int32)), .val (.int x2)] [(.ref a1)]) (fun _ kz => XS.aloadN X0.here hx rfl (hb hby od_29_3_0) rfl rfl kz) ?_
  obtain ⟨T179, X179, e179, st179⟩ := getF X0 hx hZ hown (host := "") (Or.inl (own_w hw 28 rfl)) Via.refl e0 Fo0 (g := (mkF m 1 #[.val (.ref a1), .val (.int (2 : Int32)), .val (.int x2)] [(.ref a1)])) rfl rfl (hb hby od_29_3_1)
  refine own_s st179 ?_
  show own_E p e below _ (T179.setTop (mkF m 4 #[.val (.ref a1), .val (.int (2 : Int32)), .val (.int x2)] [(.ref zb)]))
  refine own_g (mkF m 5 #[.val (.ref a1), .val (.int (2 : Int32)), .val (.int x2)] [(.int (2 : Int32)), (.ref zb)]) (fun _ kz => XS.iloadN X179.here hx rfl (hb hby od_29_3_4) rfl kz) ?_
  refine own_g (mkF m 6 #[.val (.ref a1), .val (.int (2 : Int32)), .val (.int x2)] [(.int x2), (.int (2 : Int32)), (.ref zb)]) (fun _ kz => XS.iloadN X179.here hx rfl (hb hby od_29_3_5) rfl kz) ?_
  refine own_stZ X179 hx hZ e179 Ao0 (hb hby od_29_3_6) (by decide) (i := 2) rfl (by decide) ?_
  intro T180 h180 X180 e180 W180 A180
  have N180 := Fr.snoc X180 N0 gz0
  have s181 : n0 ≤ h180.size := Nat.le_trans Z0 (Keep.of_wr W180).1
  have f182 := Exa.wr W180 E0
  have f183 := Fld.other W180 Fl0 (Or.inl naz0)
  have f184 := Fld.other W180 Fc0 (Or.inl naz0)
  have f185 := Fld.other W180 Fo0 (Or.inl naz0)
  have f186 := Fld.other W180 Fw0 (Or.inl naz0)
  have f187 := Ac0.other W180 ncz0
  have f188 := Aw0.other W180 (Ne.symm nzw0)
  show own_E p e below _ (T180.setTop (mkF m 7 #[.val (.ref a1), .val (.int (2 : Int32)), .val (.int x2)] []))
  refine own_g (mkF m 8 #[.val (.ref a1), .val (.int (2 : Int32)), .val (.int x2)] [(.ref a1)]) (fun _ kz => XS.aloadN X180.here hx rfl (hb hby od_29_3_7) rfl rfl kz) ?_
  refine own_g (mkF m 9 #[.val (.ref a1), .val (.int (2 : Int32)), .val (.int x2)] [(.int (2 : Int32)), (.ref a1)]) (fun _ kz => XS.iloadN X180.here hx rfl (hb hby od_29_3_8) rfl kz) ?_
  rw [own_b01 hbb] at A180
  refine own_callP (rest := []) (a := a1) (as := [(.int (2 : Int32))]) X180 hx hZ hown e180 (own_c_rep2 l Z a0 hw a1 cb zb wb fc (own_set fo 2 x2) fw h180 n0 s181 ⟨h4, h5, h6, h7, h3, h2.trans (own_mt01 (own_set_other _ _ (by decide)).symm (own_set_other _ _ (by decide)).symm rfl rfl)⟩ ⟨f182, f183, f184, f185, f186, f187, A180, f188, gc0, gz0, gw0, nac0, naz0, naw0, ncz0, ncw0, nzw0⟩) f182 (own_w hw 45 rfl) (own_w hw 2 rfl) (own_w hw 47 rfl) (own_w hw 46 rfl) (own_w hw 3 rfl) (own_w hw 48 rfl) (by decide) own_pd2 rfl (by rw [hml]; rfl) rfl (hb hby od_29_3_9) 0 (by show 2 * 0 + _ ≤ _; exact Nat.le_of_eq rfl) (by decide) (by decide) (by decide) (by decide) ?_
  rintro _ T189 L189 X189 ⟨rfl, Nq189, zz189, fw', W189, S189⟩
  have N189 := Fr.app N180 Nq189
  show own_E p e below _ (T189.setTop (mkF m 12 #[.val (.ref a1), .val (.int (2 : Int32)), .val (.int x2)] []))
  exact own_retV X189 hx hret hlk (hb hby od_29_3_12) (by decide) (by decide) ((⟨rfl, N189, zz189, fw', W189, S189⟩))
set_option maxRecDepth 65536 in
set_option maxHeartbeats 40000000 in
theorem own_c_set2 (l : Launch) (Z : State) (a0 : Array Value) (hw : ∀ d ∈ tables_1, d.before a0 Z = true) (a1 : Addr) (cb : Addr) (zb : Addr) (wb : Addr) (fc : Nat → Int32) (fo : Nat → Int32) (fw : Nat → Int32) (x2 : Int32) (h0 : Heap) (n0 : Nat) (Z0 : n0 ≤ h0.size) (hW : own_W fo fc fw) (S0 : own_S Z h0 n0 a1 cb zb wb fc fo fw) :
    own_Con l Z (⟨"com/example/horncast/horncast/query/LeastCount", "set", "(II)V"⟩ : MethodName) prog_29_method_2_code 3 none [] ({ frames := 2, cells := 0, slots := 0, locals := 32 } : Room) #[(.ref a1), (.int (2 : Int32)), (.int x2)] h0 (fun v h L => v = none ∧ Fr n0 L ∧ n0 ≤ h.size ∧ ∃ fw', own_W fo (own_set fc 2 x2) fw' ∧ own_S Z h n0 a1 cb zb wb (own_set fc 2 x2) fo fw') := by
  refine own_enter (plainFor_of_name own_pn2) ?_
  intro p e s m below meth c s₁ X0 e0 hx hZ hby hml hown hnm hret hlk
  refine own_cast (g' := (mkF m 0 #[.val (.ref a1), .val (.int (2 : Int32)), .val (.int x2)] [])) (by first | (simp [entryFrame, mkF, argsToLocals, Value.category]; done) | rfl) ?_
  have N0 := Fr.nil n0
  obtain ⟨E0, Fl0, Fc0, Fo0, Fw0, Ac0, Ao0, Aw0, gc0, gz0, gw0, nac0, naz0, naw0, ncz0, ncw0, nzw0⟩ := S0
  obtain ⟨h4, h5, h6, h7, h3, h2, h1⟩ := hW
  refine own_g (mkF m 1 #[.val (.ref a1), .val (.int (2 : Int32)), .val (.int x2)] [(.ref a1)]) (fun _ kz => XS.aloadN X0.here hx rfl (hb hby od_29_2_0) rfl rfl kz) ?_
  obtain ⟨T190, X190, e190, st190⟩ := getF X0 hx hZ hown (host := "") (Or.inl (own_w hw 25 rfl)) Via.refl e0 Fc0 (g := (mkF m 1 #[.val (.ref a1), .val (.int (2 : Int32)), .val (.int x2)] [(.ref a1)])) rfl rfl (hb hby od_29_2_1)
  refine own_s st190 ?_
  show own_E p e below _ (T190.setTop (mkF m 4 #[.val (.ref a1), .val (.int (2 : Int32)), .val (.int x2)] [(.ref cb)]))
  refine own_g (mkF m 5 #[.val (.ref a1), .val (.int (2 : Int32)), .val (.int x2)] [(.int (2 : Int32)), (.ref cb)]) (fun _ kz => XS.iloadN X190.here hx rfl (hb hby od_29_2_4) rfl kz) ?_
  refine own_g (mkF m 6 #[.val (.ref a1), .val (.int (2 : Int32)), .val (.int x2)] [(.int x2), (.int (2 : Int32)), (.ref cb)]) (fun _ kz => XS.iloadN X190.here hx rfl (hb hby od_29_2_5) rfl kz) ?_
  refine own_stI X190 hx hZ e190 Ac0 (hb hby od_29_2_6) (by decide) (i := 2) rfl (by decide) ?_
  intro T191 h191 X191 e191 W191 A191
  have N191 := Fr.snoc X191 N0 gc0
  have s192 : n0 ≤ h191.size := Nat.le_trans Z0 (Keep.of_wr W191).1
  have f193 := Exa.wr W191 E0
  have f194 := Fld.other W191 Fl0 (Or.inl nac0)
  have f195 := Fld.other W191 Fc0 (Or.inl nac0)
  have f196 := Fld.other W191 Fo0 (Or.inl nac0)
  have f197 := Fld.other W191 Fw0 (Or.inl nac0)
  have f198 := Ao0.other W191 (Ne.symm ncz0)
  have f199 := Aw0.other W191 (Ne.symm ncw0)
  show own_E p e below _ (T191.setTop (mkF m 7 #[.val (.ref a1), .val (.int (2 : Int32)), .val (.int x2)] []))
  refine own_g (mkF m 8 #[.val (.ref a1), .val (.int (2 : Int32)), .val (.int x2)] [(.ref a1)]) (fun _ kz => XS.aloadN X191.here hx rfl (hb hby od_29_2_7) rfl rfl kz) ?_
  refine own_g (mkF m 9 #[.val (.ref a1), .val (.int (2 : Int32)), .val (.int x2)] [(.int (2 : Int32)), (.ref a1)]) (fun _ kz => XS.iloadN X191.here hx rfl (hb hby od_29_2_8) rfl kz) ?_
  refine own_callP (rest := []) (a := a1) (as := [(.int (2 : Int32))]) X191 hx hZ hown e191 (own_c_rep2 l Z a0 hw a1 cb zb wb (own_set fc 2 x2) fo fw h191 n0 s192 ⟨h4, h5, h6, h7, h3, h2.trans (own_mt01 rfl rfl (own_set_other _ _ (by decide)).symm (own_set_other _ _ (by decide)).symm)⟩ ⟨f193, f194, f195, f196, f197, A191, f198, f199, gc0, gz0, gw0, nac0, naz0, naw0, ncz0, ncw0, nzw0⟩) f193 (own_w hw 45 rfl) (own_w hw 2 rfl) (own_w hw 47 rfl) (own_w hw 46 rfl) (own_w hw 3 rfl) (own_w hw 48 rfl) (by decide) own_pd2 rfl (by rw [hml]; rfl) rfl (hb hby od_29_2_9) 0 (by show 2 * 0 + _ ≤ _; exact Nat.le_of_eq rfl) (by decide) (by decide) (by decide) (by decide) ?_
  rintro _ T200 L200 X200 ⟨rfl, Nq200, zz200, fw', W200, S200⟩
  have N200 := Fr.app N191 Nq200
  show own_E p e below _ (T200.setTop (mkF m 12 #[.val (.ref a1), .val (.int (2 : Int32)), .val (.int x2)] []))
  exact own_retV X200 hx hret hlk (hb hby od_29_2_12) (by decide) (by decide) ((⟨rfl, N200, zz200, fw', W200, S200⟩))
theorem od_29_4_0 : decode prog_29_method_4_code 0 = .ok (.aload_n 0, 1) := by decide +kernel
theorem od_29_4_1 : decode prog_29_method_4_code 1 = .ok (.getfield 33, 3) := by decide +kernel
theorem od_29_4_4 : decode prog_29_method_4_code 4 = .ok (.iconst 1, 1) := by decide +kernel
theorem od_29_4_5 : decode prog_29_method_4_code 5 = .ok (.iaload, 1) := by decide +kernel
theorem od_29_4_6 : decode prog_29_method_4_code 6 = .ok (.istore_n 1, 1) := by decide +kernel
theorem od_29_4_7 : decode prog_29_method_4_code 7 = .ok (.iload_n 1, 1) := by decide +kernel
theorem od_29_4_8 : decode prog_29_method_4_code 8 = .ok (.ifCond .lt 16, 3) := by decide +kernel
theorem od_29_4_24 : decode prog_29_method_4_code 24 = .ok (.iconst (-1), 1) := by decide +kernel
theorem od_29_4_25 : decode prog_29_method_4_code 25 = .ok (.ireturn, 1) := by decide +kernel
theorem od_29_4_11 : decode prog_29_method_4_code 11 = .ok (.aload_n 0, 1) := by decide +kernel
theorem od_29_4_12 : decode prog_29_method_4_code 12 = .ok (.getfield 29, 3) := by decide +kernel
theorem od_29_4_15 : decode prog_29_method_4_code 15 = .ok (.iload_n 1, 1) := by decide +kernel
theorem od_29_4_16 : decode prog_29_method_4_code 16 = .ok (.baload, 1) := by decide +kernel
theorem od_29_4_17 : decode prog_29_method_4_code 17 = .ok (.ifCond .ne 7, 3) := by decide +kernel
theorem od_29_4_20 : decode prog_29_method_4_code 20 = .ok (.iload_n 1, 1) := by decide +kernel
theorem od_29_4_21 : decode prog_29_method_4_code 21 = .ok (.goto 4, 3) := by decide +kernel
set_option maxRecDepth 65536 in
set_option maxHeartbeats 40000000 in
theorem own_c_lea (l : Launch) (Z : State) (a0 : Array Value) (hw : ∀ d ∈ tables_1, d.before a0 Z = true) (a1 : Addr) (cb : Addr) (zb : Addr) (wb : Addr) (fc : Nat → Int32) (fo : Nat → Int32) (fw : Nat → Int32) (h0 : Heap) (n0 : Nat) (Z0 : n0 ≤ h0.size) (hd : own_dom (fw 1)) (S0 : own_S Z h0 n0 a1 cb zb wb fc fo fw) :
    own_Con l Z (⟨"com/example/horncast/horncast/query/LeastCount", "least", "()I"⟩ : MethodName) prog_29_method_4_code 2 (some .int) [] ({ frames := 0, cells := 0, slots := 0, locals := 0 } : Room) #[(.ref a1)] h0 (fun v h L => v = some (.int (own_ls fo fw)) ∧ L = [] ∧ h = h0) := by
  refine own_enter (plainFor_of_name own_pn2) ?_
  intro p e s m below meth c s₁ X0 e0 hx hZ hby hml hown hnm hret hlk
  refine own_cast (g' := (mkF m 0 #[.val (.ref a1), .unset] [])) (by first | (simp [entryFrame, mkF, argsToLocals, Value.category]; done) | rfl) ?_
  have N0 := Fr.nil n0
  obtain ⟨E0, Fl0, Fc0, Fo0, Fw0, Ac0, Ao0, Aw0, gc0, gz0, gw0, nac0, naz0, naw0, ncz0, ncw0, nzw0⟩ := S0
  refine own_g (mkF m 1 #[.val (.ref a1), .unset] [(.ref a1)]) (fun _ kz => XS.aloadN X0.here hx rfl (hb hby od_29_4_0) rfl rfl kz) ?_
  obtain ⟨T201, X201, e201, st201⟩ := getF X0 hx hZ hown (host := "") (Or.inl (own_w hw 30 rfl)) Via.refl e0 Fw0 (g := (mkF m 1 #[.val (.ref a1), .unset] [(.ref a1)])) rfl rfl (hb hby od_29_4_1)
  refine own_s st201 ?_
  show own_E p e below _ (T201.setTop (mkF m 4 #[.val (.ref a1), .unset] [(.ref wb)]))
  refine own_g (mkF m 5 #[.val (.ref a1), .unset] [(.int (1 : Int32)), (.ref wb)]) (fun _ kz => XS.iconst X201.here hx rfl (hb hby od_29_4_4) kz) ?_
  refine own_ildI X201 hx hZ e201 Aw0 (hb hby od_29_4_5) (by decide) (i := 1) rfl (by decide) (x := (fw 1)) rfl ?_
  show own_E p e below _ (T201.setTop (mkF m 6 #[.val (.ref a1), .unset] [(.int (fw 1))]))
  refine own_g (mkF m 7 #[.val (.ref a1), .val (.int (fw 1))] []) (fun _ kz => XS.istoreN X201.here hx rfl (hb hby od_29_4_6) rfl (l' := #[.val (.ref a1), .val (.int (fw 1))]) rfl kz) ?_
  refine own_g (mkF m 8 #[.val (.ref a1), .val (.int (fw 1))] [(.int (fw 1))]) (fun _ kz => XS.iloadN X201.here hx rfl (hb hby od_29_4_7) rfl kz) ?_
  by_cases hc8_202 : (fw 1) < (0 : Int32)
  · refine own_g (mkF m 24 #[.val (.ref a1), .val (.int (fw 1))] []) (fun _ kz => XS.ifYes X201.here hx rfl (pc0 := 8) (pc' := 24) rfl (hb hby od_29_4_8) rfl ((if0 _ _).trans (tlt hc8_202).1) (by decide) (by decide) kz) ?_
    refine own_g (mkF m 25 #[.val (.ref a1), .val (.int (fw 1))] [(.int (-1 : Int32))]) (fun _ kz => XS.iconst X201.here hx rfl (hb hby od_29_4_24) kz) ?_
    exact own_retI X201 hx hret hlk (hb hby od_29_4_25) (by decide) (by decide) (by first | exact ⟨by simp [own_ls, hc8_202], rfl, rfl⟩ | (rw [e201]; exact ⟨by simp [own_ls, hc8_202], rfl, rfl⟩))
  · refine own_g (mkF m 11 #[.val (.ref a1), .val (.int (fw 1))] []) (fun _ kz => XS.ifNo X201.here hx rfl (hb hby od_29_4_8) rfl ((if0 _ _).trans (flt hc8_202).1) kz) ?_
    refine own_g (mkF m 12 #[.val (.ref a1), .val (.int (fw 1))] [(.ref a1)]) (fun _ kz => XS.aloadN X201.here hx rfl (hb hby od_29_4_11) rfl rfl kz) ?_
    obtain ⟨T203, X203, e203, st203⟩ := getF X201 hx hZ hown (host := "") (Or.inl (own_w hw 28 rfl)) Via.refl e201 Fo0 (g := (mkF m 12 #[.val (.ref a1), .val (.int (fw 1))] [(.ref a1)])) rfl rfl (hb hby od_29_4_12)
    refine own_s st203 ?_
    show own_E p e below _ (T203.setTop (mkF m 15 #[.val (.ref a1), .val (.int (fw 1))] [(.ref zb)]))
    refine own_g (mkF m 16 #[.val (.ref a1), .val (.int (fw 1))] [(.int (fw 1)), (.ref zb)]) (fun _ kz => XS.iloadN X203.here hx rfl (hb hby od_29_4_15) rfl kz) ?_
    refine own_ildZ X203 hx hZ e203 Ao0 (hb hby od_29_4_16) hc8_202 (i := (fw 1).toNatClampNeg) rfl (own_domN hd hc8_202) (x := (fo (fw 1).toNatClampNeg)) rfl ?_
    show own_E p e below _ (T203.setTop (mkF m 17 #[.val (.ref a1), .val (.int (fw 1))] [(.int (fo (fw 1).toNatClampNeg))]))
    by_cases hc17_204 : (fo (fw 1).toNatClampNeg) = (0 : Int32)
    · refine own_g (mkF m 20 #[.val (.ref a1), .val (.int (fw 1))] []) (fun _ kz => XS.ifNo X203.here hx rfl (hb hby od_29_4_17) rfl ((if0 _ _).trans (teq hc17_204).2) kz) ?_
      refine own_g (mkF m 21 #[.val (.ref a1), .val (.int (fw 1))] [(.int (fw 1))]) (fun _ kz => XS.iloadN X203.here hx rfl (hb hby od_29_4_20) rfl kz) ?_
      refine own_g (mkF m 25 #[.val (.ref a1), .val (.int (fw 1))] [(.int (fw 1))]) (fun _ kz => XS.goto X203.here hx rfl (pc0 := 21) (pc' := 25) rfl (hb hby od_29_4_21) (by decide) (by decide) kz) ?_
      exact own_retI X203 hx hret hlk (hb hby od_29_4_25) (by decide) (by decide) (by first | exact ⟨by simp [own_ls, hc8_202, hc17_204], rfl, rfl⟩ | (rw [e203]; exact ⟨by simp [own_ls, hc8_202, hc17_204], rfl, rfl⟩))
    · refine own_g (mkF m 24 #[.val (.ref a1), .val (.int (fw 1))] []) (fun _ kz => XS.ifYes X203.here hx rfl (pc0 := 17) (pc' := 24) rfl (hb hby od_29_4_17) rfl ((if0 _ _).trans (feq hc17_204).2) (by decide) (by decide) kz) ?_
      refine own_g (mkF m 25 #[.val (.ref a1), .val (.int (fw 1))] [(.int (-1 : Int32))]) (fun _ kz => XS.iconst X203.here hx rfl (hb hby od_29_4_24) kz) ?_
      exact own_retI X203 hx hret hlk (hb hby od_29_4_25) (by decide) (by decide) (by first | exact ⟨by simp [own_ls, hc8_202, hc17_204], rfl, rfl⟩ | (rw [e203]; exact ⟨by simp [own_ls, hc8_202, hc17_204], rfl, rfl⟩))
theorem od_29_1_0 : decode prog_29_method_1_code 0 = .ok (.aload_n 0, 1) := by decide +kernel
theorem od_29_1_1 : decode prog_29_method_1_code 1 = .ok (.invokespecial 1, 3) := by decide +kernel
theorem od_29_1_4 : decode prog_29_method_1_code 4 = .ok (.aload_n 0, 1) := by decide +kernel
theorem od_29_1_5 : decode prog_29_method_1_code 5 = .ok (.iconst 1, 1) := by decide +kernel
theorem od_29_1_6 : decode prog_29_method_1_code 6 = .ok (.aload_n 1, 1) := by decide +kernel
theorem od_29_1_7 : decode prog_29_method_1_code 7 = .ok (.arraylength, 1) := by decide +kernel
theorem od_29_1_8 : decode prog_29_method_1_code 8 = .ok (.iconst 1, 1) := by decide +kernel
theorem od_29_1_9 : decode prog_29_method_1_code 9 = .ok (.isub, 1) := by decide +kernel
theorem od_29_1_10 : decode prog_29_method_1_code 10 = .ok (.invokestatic 7, 3) := by decide +kernel
theorem od_29_1_13 : decode prog_29_method_1_code 13 = .ok (.invokestatic 13, 3) := by decide +kernel
theorem od_29_1_16 : decode prog_29_method_1_code 16 = .ok (.iconst 1, 1) := by decide +kernel
theorem od_29_1_17 : decode prog_29_method_1_code 17 = .ok (.ishl, 1) := by decide +kernel
theorem od_29_1_18 : decode prog_29_method_1_code 18 = .ok (.putfield 19, 3) := by decide +kernel
theorem od_29_1_21 : decode prog_29_method_1_code 21 = .ok (.aload_n 0, 1) := by decide +kernel
theorem od_29_1_22 : decode prog_29_method_1_code 22 = .ok (.aload_n 1, 1) := by decide +kernel
theorem od_29_1_23 : decode prog_29_method_1_code 23 = .ok (.putfield 25, 3) := by decide +kernel
theorem od_29_1_26 : decode prog_29_method_1_code 26 = .ok (.aload_n 0, 1) := by decide +kernel
theorem od_29_1_27 : decode prog_29_method_1_code 27 = .ok (.aload_n 1, 1) := by decide +kernel
theorem od_29_1_28 : decode prog_29_method_1_code 28 = .ok (.arraylength, 1) := by decide +kernel
theorem od_29_1_29 : decode prog_29_method_1_code 29 = .ok (.newarray .boolean, 2) := by decide +kernel
theorem od_29_1_31 : decode prog_29_method_1_code 31 = .ok (.putfield 29, 3) := by decide +kernel
theorem od_29_1_34 : decode prog_29_method_1_code 34 = .ok (.aload_n 0, 1) := by decide +kernel
theorem od_29_1_35 : decode prog_29_method_1_code 35 = .ok (.iconst 2, 1) := by decide +kernel
theorem od_29_1_36 : decode prog_29_method_1_code 36 = .ok (.aload_n 0, 1) := by decide +kernel
theorem od_29_1_37 : decode prog_29_method_1_code 37 = .ok (.getfield 19, 3) := by decide +kernel
theorem od_29_1_40 : decode prog_29_method_1_code 40 = .ok (.imul, 1) := by decide +kernel
theorem od_29_1_41 : decode prog_29_method_1_code 41 = .ok (.newarray .int, 2) := by decide +kernel
theorem od_29_1_43 : decode prog_29_method_1_code 43 = .ok (.putfield 33, 3) := by decide +kernel
theorem od_29_1_46 : decode prog_29_method_1_code 46 = .ok (.aload_n 0, 1) := by decide +kernel
theorem od_29_1_47 : decode prog_29_method_1_code 47 = .ok (.getfield 33, 3) := by decide +kernel
theorem od_29_1_50 : decode prog_29_method_1_code 50 = .ok (.iconst (-1), 1) := by decide +kernel
theorem own_pd3 : parseMethodDescriptor "([II)V" = some ⟨[(.array .int), .int], none⟩ := by decide +kernel
theorem od_29_1_51 : decode prog_29_method_1_code 51 = .ok (.invokestatic 36, 3) := by decide +kernel
theorem od_29_1_54 : decode prog_29_method_1_code 54 = .ok (.iconst 0, 1) := by decide +kernel
theorem od_29_1_55 : decode prog_29_method_1_code 55 = .ok (.istore_n 2, 1) := by decide +kernel
theorem od_29_1_56 : decode prog_29_method_1_code 56 = .ok (.iload_n 2, 1) := by decide +kernel
theorem od_29_1_57 : decode prog_29_method_1_code 57 = .ok (.aload_n 1, 1) := by decide +kernel
theorem od_29_1_58 : decode prog_29_method_1_code 58 = .ok (.arraylength, 1) := by decide +kernel
theorem od_29_1_59 : decode prog_29_method_1_code 59 = .ok (.if_icmp .ge 21, 3) := by decide +kernel
theorem od_29_1_62 : decode prog_29_method_1_code 62 = .ok (.aload_n 0, 1) := by decide +kernel
theorem od_29_1_63 : decode prog_29_method_1_code 63 = .ok (.getfield 33, 3) := by decide +kernel
theorem od_29_1_66 : decode prog_29_method_1_code 66 = .ok (.aload_n 0, 1) := by decide +kernel
theorem od_29_1_67 : decode prog_29_method_1_code 67 = .ok (.getfield 19, 3) := by decide +kernel
theorem od_29_1_70 : decode prog_29_method_1_code 70 = .ok (.iload_n 2, 1) := by decide +kernel
theorem od_29_1_71 : decode prog_29_method_1_code 71 = .ok (.iadd, 1) := by decide +kernel
theorem od_29_1_72 : decode prog_29_method_1_code 72 = .ok (.iload_n 2, 1) := by decide +kernel
theorem od_29_1_73 : decode prog_29_method_1_code 73 = .ok (.iastore, 1) := by decide +kernel
theorem od_29_1_74 : decode prog_29_method_1_code 74 = .ok (.iinc 2 1, 3) := by decide +kernel
theorem od_29_1_77 : decode prog_29_method_1_code 77 = .ok (.goto (-21), 3) := by decide +kernel
theorem od_29_1_80 : decode prog_29_method_1_code 80 = .ok (.aload_n 0, 1) := by decide +kernel
theorem od_29_1_81 : decode prog_29_method_1_code 81 = .ok (.getfield 19, 3) := by decide +kernel
theorem od_29_1_84 : decode prog_29_method_1_code 84 = .ok (.iconst 1, 1) := by decide +kernel
theorem od_29_1_85 : decode prog_29_method_1_code 85 = .ok (.isub, 1) := by decide +kernel
theorem od_29_1_86 : decode prog_29_method_1_code 86 = .ok (.istore_n 2, 1) := by decide +kernel
theorem od_29_1_87 : decode prog_29_method_1_code 87 = .ok (.iload_n 2, 1) := by decide +kernel
theorem od_29_1_88 : decode prog_29_method_1_code 88 = .ok (.iconst 1, 1) := by decide +kernel
theorem od_29_1_89 : decode prog_29_method_1_code 89 = .ok (.if_icmp .lt 37, 3) := by decide +kernel
theorem od_29_1_92 : decode prog_29_method_1_code 92 = .ok (.aload_n 0, 1) := by decide +kernel
theorem od_29_1_93 : decode prog_29_method_1_code 93 = .ok (.getfield 33, 3) := by decide +kernel
theorem od_29_1_96 : decode prog_29_method_1_code 96 = .ok (.iload_n 2, 1) := by decide +kernel
theorem od_29_1_97 : decode prog_29_method_1_code 97 = .ok (.aload_n 0, 1) := by decide +kernel
theorem od_29_1_98 : decode prog_29_method_1_code 98 = .ok (.aload_n 0, 1) := by decide +kernel
theorem od_29_1_99 : decode prog_29_method_1_code 99 = .ok (.getfield 33, 3) := by decide +kernel
theorem od_29_1_102 : decode prog_29_method_1_code 102 = .ok (.iconst 2, 1) := by decide +kernel
theorem od_29_1_103 : decode prog_29_method_1_code 103 = .ok (.iload_n 2, 1) := by decide +kernel
theorem od_29_1_104 : decode prog_29_method_1_code 104 = .ok (.imul, 1) := by decide +kernel
theorem od_29_1_105 : decode prog_29_method_1_code 105 = .ok (.iaload, 1) := by decide +kernel
theorem od_29_1_106 : decode prog_29_method_1_code 106 = .ok (.aload_n 0, 1) := by decide +kernel
theorem od_29_1_107 : decode prog_29_method_1_code 107 = .ok (.getfield 33, 3) := by decide +kernel
theorem od_29_1_110 : decode prog_29_method_1_code 110 = .ok (.iconst 2, 1) := by decide +kernel
theorem od_29_1_111 : decode prog_29_method_1_code 111 = .ok (.iload_n 2, 1) := by decide +kernel
theorem od_29_1_112 : decode prog_29_method_1_code 112 = .ok (.imul, 1) := by decide +kernel
theorem od_29_1_113 : decode prog_29_method_1_code 113 = .ok (.iconst 1, 1) := by decide +kernel
theorem od_29_1_114 : decode prog_29_method_1_code 114 = .ok (.iadd, 1) := by decide +kernel
theorem od_29_1_115 : decode prog_29_method_1_code 115 = .ok (.iaload, 1) := by decide +kernel
theorem od_29_1_116 : decode prog_29_method_1_code 116 = .ok (.invokevirtual 42, 3) := by decide +kernel
theorem od_29_1_119 : decode prog_29_method_1_code 119 = .ok (.iastore, 1) := by decide +kernel
theorem od_29_1_120 : decode prog_29_method_1_code 120 = .ok (.iinc 2 (-1), 3) := by decide +kernel
theorem od_29_1_123 : decode prog_29_method_1_code 123 = .ok (.goto (-36), 3) := by decide +kernel
theorem od_29_1_126 : decode prog_29_method_1_code 126 = .ok (.return_, 1) := by decide +kernel
set_option maxRecDepth 65536 in
set_option maxHeartbeats 40000000 in
theorem own_c_ini (l : Launch) (Z : State) (a0 : Array Value) (hw : ∀ d ∈ tables_1, d.before a0 Z = true) (a1 : Addr) (cb : Addr) (fc : Nat → Int32) (h0 : Heap) (n0 : Nat) (Z0 : n0 ≤ h0.size) (g1 : n0 ≤ a1) (gc : n0 ≤ cb) (nac : a1 ≠ cb) (E1 : Exa Z h0 a1 "com/example/horncast/horncast/query/LeastCount") (Ff : Fld Z h0 a1 "com/example/horncast/horncast/query/LeastCount" "firstLeaf" "I" (.int (0 : Int32))) (Fc : Fld Z h0 a1 "com/example/horncast/horncast/query/LeastCount" "count" "[I" .null) (Fo : Fld Z h0 a1 "com/example/horncast/horncast/query/LeastCount" "out" "[Z" .null) (Fw : Fld Z h0 a1 "com/example/horncast/horncast/query/LeastCount" "winner" "[I" .null) (Ac : own_IA Z h0 cb .int 3 fc) :
    own_Con l Z (⟨"com/example/horncast/horncast/query/LeastCount", "<init>", "([I)V"⟩ : MethodName) prog_29_method_1_code 3 none [] ({ frames := 2, cells := 2, slots := 11, locals := 32 } : Room) #[(.ref a1), (.ref cb)] h0 (fun v h L => v = none ∧ Fr n0 L ∧ n0 ≤ h.size ∧ ∃ zb wb fw, own_W (fun _ => 0) fc fw ∧ own_S Z h n0 a1 cb zb wb fc (fun _ => 0) fw) := by
  refine own_enter (plainFor_of_name own_pn2) ?_
  intro p e s m below meth c s₁ X0 e0 hx hZ hby hml hown hnm hret hlk
  refine own_cast (g' := (mkF m 0 #[.val (.ref a1), .val (.ref cb), .unset] [])) (by first | (simp [entryFrame, mkF, argsToLocals, Value.category]; done) | rfl) ?_
  have N0 := Fr.nil n0
  refine own_g (mkF m 1 #[.val (.ref a1), .val (.ref cb), .unset] [(.ref a1)]) (fun _ kz => XS.aloadN X0.here hx rfl (hb hby od_29_1_0) rfl rfl kz) ?_
  obtain ⟨T205, X205, e205, st205⟩ := initO X0 hx hZ hown (own_w hw 7 rfl) (own_w hw 8 rfl) (own_w hw 9 rfl) e0 (g := (mkF m 1 #[.val (.ref a1), .val (.ref cb), .unset] [(.ref a1)])) rfl (by rw [hml]; rfl) rfl (hb hby od_29_1_1) (by decide) (W := 0) (by show 2 * 0 + _ ≤ _; exact Nat.le_of_eq rfl) (by decide)
  refine own_s st205 ?_
  show own_E p e below _ (T205.setTop (mkF m 4 #[.val (.ref a1), .val (.ref cb), .unset] []))
  refine own_g (mkF m 5 #[.val (.ref a1), .val (.ref cb), .unset] [(.ref a1)]) (fun _ kz => XS.aloadN X205.here hx rfl (hb hby od_29_1_4) rfl rfl kz) ?_
  refine own_g (mkF m 6 #[.val (.ref a1), .val (.ref cb), .unset] [(.int (1 : Int32)), (.ref a1)]) (fun _ kz => XS.iconst X205.here hx rfl (hb hby od_29_1_5) kz) ?_
  refine own_g (mkF m 7 #[.val (.ref a1), .val (.ref cb), .unset] [(.ref cb), (.int (1 : Int32)), (.ref a1)]) (fun _ kz => XS.aloadN X205.here hx rfl (hb hby od_29_1_6) rfl rfl kz) ?_
  refine own_lenI X205 hx hZ e205 Ac (hb hby od_29_1_7) (z := (3 : Int32)) rfl ?_
  show own_E p e below _ (T205.setTop (mkF m 8 #[.val (.ref a1), .val (.ref cb), .unset] [(.int (3 : Int32)), (.int (1 : Int32)), (.ref a1)]))
  refine own_g (mkF m 9 #[.val (.ref a1), .val (.ref cb), .unset] [(.int (1 : Int32)), (.int (3 : Int32)), (.int (1 : Int32)), (.ref a1)]) (fun _ kz => XS.iconst X205.here hx rfl (hb hby od_29_1_8) kz) ?_
  refine own_g (mkF m 10 #[.val (.ref a1), .val (.ref cb), .unset] [(.int ((3 : Int32) - (1 : Int32))), (.int (1 : Int32)), (.ref a1)]) (fun _ kz => XS.isub X205.here hx rfl (hb hby od_29_1_9) rfl kz) ?_
  rw [show ((3 : Int32) - (1 : Int32)) = (2 : Int32) from by decide]
  show own_E p e below _ (T205.setTop (mkF m 10 #[.val (.ref a1), .val (.ref cb), .unset] [(.int (2 : Int32)), (.int (1 : Int32)), (.ref a1)]))
  refine own_callS (rest := [(.ref a1)]) (as := [(.int (1 : Int32)), (.int (2 : Int32))]) X205 hx hZ hown e205 (own_c_max l Z a0 hw 1 2 h0) (own_w hw 10 rfl) (own_w hw 11 rfl) (own_w hw 12 rfl) (own_w hw 13 rfl) (by decide) own_pd1 rfl (by rw [hml]; rfl) rfl (hb hby od_29_1_10) 1 (by show 2 * 0 + _ ≤ _; exact Nat.le_of_eq rfl) (by decide) (by decide) (by decide) (by decide) ?_
  rintro _ T206 L206 X206 ⟨rfl, rfl, e206⟩
  have N206 := Fr.app N0 (Fr.nil n0)
  show own_E p e below _ (T206.setTop (mkF m 13 #[.val (.ref a1), .val (.ref cb), .unset] [(.int (own_max 1 2)), (.ref a1)]))
  rw [show own_max 1 2 = 2 from by decide]
  show own_E p e below _ (T206.setTop (mkF m 13 #[.val (.ref a1), .val (.ref cb), .unset] [(.int (2 : Int32)), (.ref a1)]))
  refine own_callS (rest := [(.ref a1)]) (as := [(.int (2 : Int32))]) X206 hx hZ hown e206 (own_c_hob l Z a0 hw h0) (own_w hw 14 rfl) (own_w hw 15 rfl) (own_w hw 16 rfl) (own_w hw 17 rfl) (by decide) own_pd0 rfl (by rw [hml]; rfl) rfl (hb hby od_29_1_13) 1 (by show 2 * 0 + _ ≤ _; exact Nat.le_of_eq rfl) (by decide) (by decide) (by decide) (by decide) ?_
  rintro _ T207 L207 X207 ⟨rfl, rfl, e207⟩
  have N207 := Fr.app N206 (Fr.nil n0)
  show own_E p e below _ (T207.setTop (mkF m 16 #[.val (.ref a1), .val (.ref cb), .unset] [(.int (2 : Int32)), (.ref a1)]))
  refine own_g (mkF m 17 #[.val (.ref a1), .val (.ref cb), .unset] [(.int (1 : Int32)), (.int (2 : Int32)), (.ref a1)]) (fun _ kz => XS.iconst X207.here hx rfl (hb hby od_29_1_16) kz) ?_
  refine own_g (mkF m 18 #[.val (.ref a1), .val (.ref cb), .unset] [(.int ((2 : Int32) <<< ((1 : Int32) &&& 31))), (.ref a1)]) (fun _ kz => XS.ishl X207.here hx rfl (hb hby od_29_1_17) rfl kz) ?_
  rw [show ((2 : Int32) <<< ((1 : Int32) &&& 31)) = (4 : Int32) from by decide]
  show own_E p e below _ (T207.setTop (mkF m 18 #[.val (.ref a1), .val (.ref cb), .unset] [(.int (4 : Int32)), (.ref a1)]))
  obtain ⟨T208, h208, X208, e208, W208, st208⟩ := putF X207 hx hZ hown (host := "") (Or.inl (own_w hw 23 rfl)) Via.refl e207 Ff E1 (Or.inr ⟨(own_w hw 24 rfl), rfl, hnm⟩) (own_w hw 2 rfl) (ty := .int) (by decide) rfl rfl (g := (mkF m 18 #[.val (.ref a1), .val (.ref cb), .unset] [(.int (4 : Int32)), (.ref a1)])) rfl rfl (hb hby od_29_1_18)
  have N208 := Fr.snoc X208 N207 g1
  have s209 : n0 ≤ h208.size := Nat.le_trans Z0 (Keep.of_wr W208).1
  have f210 := Exa.wr W208 E1
  have f211 := Fld.other W208 Fc (Or.inr (slot_ne (Or.inr (own_w hw 26 rfl)) (Or.inr (own_w hw 24 rfl)) (by decide) (t := (.array .int)) (t' := .int) (by decide) (by decide)))
  have f212 := Fld.other W208 Fo (Or.inr (slot_ne (Or.inr (own_w hw 29 rfl)) (Or.inr (own_w hw 24 rfl)) (by decide) (t := (.array .boolean)) (t' := .int) (by decide) (by decide)))
  have f213 := Fld.other W208 Fw (Or.inr (slot_ne (Or.inr (own_w hw 31 rfl)) (Or.inr (own_w hw 24 rfl)) (by decide) (t := (.array .int)) (t' := .int) (by decide) (by decide)))
  have f214 := Ac.other W208 (Ne.symm nac)
  have f215 := Fld.same W208 Ff
  refine own_s st208 ?_
  show own_E p e below _ (T208.setTop (mkF m 21 #[.val (.ref a1), .val (.ref cb), .unset] []))
  refine own_g (mkF m 22 #[.val (.ref a1), .val (.ref cb), .unset] [(.ref a1)]) (fun _ kz => XS.aloadN X208.here hx rfl (hb hby od_29_1_21) rfl rfl kz) ?_
  refine own_g (mkF m 23 #[.val (.ref a1), .val (.ref cb), .unset] [(.ref cb), (.ref a1)]) (fun _ kz => XS.aloadN X208.here hx rfl (hb hby od_29_1_22) rfl rfl kz) ?_
  obtain ⟨T216, h216, X216, e216, W216, st216⟩ := putF X208 hx hZ hown (host := "") (Or.inl (own_w hw 25 rfl)) Via.refl e208 f211 f210 (Or.inr ⟨(own_w hw 26 rfl), rfl, hnm⟩) (own_w hw 2 rfl) (ty := (.array .int)) (by decide) rfl rfl (g := (mkF m 23 #[.val (.ref a1), .val (.ref cb), .unset] [(.ref cb), (.ref a1)])) rfl rfl (hb hby od_29_1_23)
  have N216 := Fr.snoc X216 N208 g1
  have s217 : n0 ≤ h216.size := Nat.le_trans s209 (Keep.of_wr W216).1
  have f218 := Exa.wr W216 f210
  have f219 := Fld.other W216 f215 (Or.inr (slot_ne (Or.inr (own_w hw 24 rfl)) (Or.inr (own_w hw 26 rfl)) (by decide) (t := .int) (t' := (.array .int)) (by decide) (by decide)))
  have f220 := Fld.other W216 f212 (Or.inr (slot_ne (Or.inr (own_w hw 29 rfl)) (Or.inr (own_w hw 26 rfl)) (by decide) (t := (.array .boolean)) (t' := (.array .int)) (by decide) (by decide)))
  have f221 := Fld.other W216 f213 (Or.inr (slot_ne (Or.inr (own_w hw 31 rfl)) (Or.inr (own_w hw 26 rfl)) (by decide) (t := (.array .int)) (t' := (.array .int)) (by decide) (by decide)))
  have f222 := f214.other W216 (Ne.symm nac)
  have f223 := Fld.same W216 f211
  refine own_s st216 ?_
  show own_E p e below _ (T216.setTop (mkF m 26 #[.val (.ref a1), .val (.ref cb), .unset] []))
  refine own_g (mkF m 27 #[.val (.ref a1), .val (.ref cb), .unset] [(.ref a1)]) (fun _ kz => XS.aloadN X216.here hx rfl (hb hby od_29_1_26) rfl rfl kz) ?_
  refine own_g (mkF m 28 #[.val (.ref a1), .val (.ref cb), .unset] [(.ref cb), (.ref a1)]) (fun _ kz => XS.aloadN X216.here hx rfl (hb hby od_29_1_27) rfl rfl kz) ?_
  refine own_lenI X216 hx hZ e216 f222 (hb hby od_29_1_28) (z := (3 : Int32)) rfl ?_
  show own_E p e below _ (T216.setTop (mkF m 29 #[.val (.ref a1), .val (.ref cb), .unset] [(.int (3 : Int32)), (.ref a1)]))
  refine own_newI X216 hx hZ e216 (own_w hw 27 rfl) rfl (hb hby od_29_1_29) (by decide) (n := 3) rfl 3 (by decide) (by decide) (by decide) (by decide) ?_
  intro T224 h224 o224 g224 X224 e224 E224 A224
  have lt225 : a1 < o224 := Nat.lt_of_lt_of_le f218.lt (Nat.le_of_eq g224.symm)
  have lt226 : cb < o224 := Nat.lt_of_lt_of_le f222.lt (Nat.le_of_eq g224.symm)
  have b227 : n0 ≤ o224 := Nat.le_trans s217 (Nat.le_of_eq g224.symm)
  have f228 := Exa.ext E224 f218
  have f229 := Fld.ext E224 f219
  have f230 := Fld.ext E224 f223
  have f231 := Fld.ext E224 f220
  have f232 := Fld.ext E224 f221
  have f233 := f222.ext E224
  have s234 : n0 ≤ h224.size := Nat.le_trans s217 E224.1
  show own_E p e below _ (T224.setTop (mkF m 31 #[.val (.ref a1), .val (.ref cb), .unset] [(.ref o224), (.ref a1)]))
  obtain ⟨T235, h235, X235, e235, W235, st235⟩ := putF X224 hx hZ hown (host := "") (Or.inl (own_w hw 28 rfl)) Via.refl e224 f231 f228 (Or.inr ⟨(own_w hw 29 rfl), rfl, hnm⟩) (own_w hw 2 rfl) (ty := (.array .boolean)) (by decide) rfl rfl (g := (mkF m 31 #[.val (.ref a1), .val (.ref cb), .unset] [(.ref o224), (.ref a1)])) rfl rfl (hb hby od_29_1_31)
  have N235 := Fr.snoc X235 N216 g1
  have s236 : n0 ≤ h235.size := Nat.le_trans s234 (Keep.of_wr W235).1
  have f237 := Exa.wr W235 f228
  have f238 := Fld.other W235 f229 (Or.inr (slot_ne (Or.inr (own_w hw 24 rfl)) (Or.inr (own_w hw 29 rfl)) (by decide) (t := .int) (t' := (.array .boolean)) (by decide) (by decide)))
  have f239 := Fld.other W235 f230 (Or.inr (slot_ne (Or.inr (own_w hw 26 rfl)) (Or.inr (own_w hw 29 rfl)) (by decide) (t := (.array .int)) (t' := (.array .boolean)) (by decide) (by decide)))
  have f240 := Fld.other W235 f232 (Or.inr (slot_ne (Or.inr (own_w hw 31 rfl)) (Or.inr (own_w hw 29 rfl)) (by decide) (t := (.array .int)) (t' := (.array .boolean)) (by decide) (by decide)))
  have f241 := f233.other W235 (Ne.symm nac)
  have f242 := A224.other W235 (Ne.symm (Nat.ne_of_lt lt225))
  have f243 := Fld.same W235 f231
  refine own_s st235 ?_
  show own_E p e below _ (T235.setTop (mkF m 34 #[.val (.ref a1), .val (.ref cb), .unset] []))
  refine own_g (mkF m 35 #[.val (.ref a1), .val (.ref cb), .unset] [(.ref a1)]) (fun _ kz => XS.aloadN X235.here hx rfl (hb hby od_29_1_34) rfl rfl kz) ?_
  refine own_g (mkF m 36 #[.val (.ref a1), .val (.ref cb), .unset] [(.int (2 : Int32)), (.ref a1)]) (fun _ kz => XS.iconst X235.here hx rfl (hb hby od_29_1_35) kz) ?_
  refine own_g (mkF m 37 #[.val (.ref a1), .val (.ref cb), .unset] [(.ref a1), (.int (2 : Int32)), (.ref a1)]) (fun _ kz => XS.aloadN X235.here hx rfl (hb hby od_29_1_36) rfl rfl kz) ?_
  obtain ⟨T244, X244, e244, st244⟩ := getF X235 hx hZ hown (host := "") (Or.inl (own_w hw 23 rfl)) Via.refl e235 f238 (g := (mkF m 37 #[.val (.ref a1), .val (.ref cb), .unset] [(.ref a1), (.int (2 : Int32)), (.ref a1)])) rfl rfl (hb hby od_29_1_37)
  refine own_s st244 ?_
  show own_E p e below _ (T244.setTop (mkF m 40 #[.val (.ref a1), .val (.ref cb), .unset] [(.int (4 : Int32)), (.int (2 : Int32)), (.ref a1)]))
  refine own_g (mkF m 41 #[.val (.ref a1), .val (.ref cb), .unset] [(.int ((2 : Int32) * (4 : Int32))), (.ref a1)]) (fun _ kz => XS.imul X244.here hx rfl (hb hby od_29_1_40) rfl kz) ?_
  rw [show ((2 : Int32) * (4 : Int32)) = (8 : Int32) from by decide]
  show own_E p e below _ (T244.setTop (mkF m 41 #[.val (.ref a1), .val (.ref cb), .unset] [(.int (8 : Int32)), (.ref a1)]))
  refine own_newI X244 hx hZ e244 (own_w hw 0 rfl) rfl (hb hby od_29_1_41) (by decide) (n := 8) rfl 8 (by decide) (by decide) (by decide) (by decide) ?_
  intro T245 h245 o245 g245 X245 e245 E245 A245
  have lt246 : a1 < o245 := Nat.lt_of_lt_of_le f237.lt (Nat.le_of_eq g245.symm)
  have lt247 : cb < o245 := Nat.lt_of_lt_of_le f241.lt (Nat.le_of_eq g245.symm)
  have lt248 : o224 < o245 := Nat.lt_of_lt_of_le f242.lt (Nat.le_of_eq g245.symm)
  have b249 : n0 ≤ o245 := Nat.le_trans s236 (Nat.le_of_eq g245.symm)
  have f250 := Exa.ext E245 f237
  have f251 := Fld.ext E245 f238
  have f252 := Fld.ext E245 f239
  have f253 := Fld.ext E245 f243
  have f254 := Fld.ext E245 f240
  have f255 := f241.ext E245
  have f256 := f242.ext E245
  have s257 : n0 ≤ h245.size := Nat.le_trans s236 E245.1
  show own_E p e below _ (T245.setTop (mkF m 43 #[.val (.ref a1), .val (.ref cb), .unset] [(.ref o245), (.ref a1)]))
  obtain ⟨T258, h258, X258, e258, W258, st258⟩ := putF X245 hx hZ hown (host := "") (Or.inl (own_w hw 30 rfl)) Via.refl e245 f254 f250 (Or.inr ⟨(own_w hw 31 rfl), rfl, hnm⟩) (own_w hw 2 rfl) (ty := (.array .int)) (by decide) rfl rfl (g := (mkF m 43 #[.val (.ref a1), .val (.ref cb), .unset] [(.ref o245), (.ref a1)])) rfl rfl (hb hby od_29_1_43)
  have N258 := Fr.snoc X258 N235 g1
  have s259 : n0 ≤ h258.size := Nat.le_trans s257 (Keep.of_wr W258).1
  have f260 := Exa.wr W258 f250
  have f261 := Fld.other W258 f251 (Or.inr (slot_ne (Or.inr (own_w hw 24 rfl)) (Or.inr (own_w hw 31 rfl)) (by decide) (t := .int) (t' := (.array .int)) (by decide) (by decide)))
  have f262 := Fld.other W258 f252 (Or.inr (slot_ne (Or.inr (own_w hw 26 rfl)) (Or.inr (own_w hw 31 rfl)) (by decide) (t := (.array .int)) (t' := (.array .int)) (by decide) (by decide)))
  have f263 := Fld.other W258 f253 (Or.inr (slot_ne (Or.inr (own_w hw 29 rfl)) (Or.inr (own_w hw 31 rfl)) (by decide) (t := (.array .boolean)) (t' := (.array .int)) (by decide) (by decide)))
  have f264 := f255.other W258 (Ne.symm nac)
  have f265 := f256.other W258 (Ne.symm (Nat.ne_of_lt lt225))
  have f266 := A245.other W258 (Ne.symm (Nat.ne_of_lt lt246))
  have f267 := Fld.same W258 f254
  refine own_s st258 ?_
  show own_E p e below _ (T258.setTop (mkF m 46 #[.val (.ref a1), .val (.ref cb), .unset] []))
  refine own_g (mkF m 47 #[.val (.ref a1), .val (.ref cb), .unset] [(.ref a1)]) (fun _ kz => XS.aloadN X258.here hx rfl (hb hby od_29_1_46) rfl rfl kz) ?_
  obtain ⟨T268, X268, e268, st268⟩ := getF X258 hx hZ hown (host := "") (Or.inl (own_w hw 30 rfl)) Via.refl e258 f267 (g := (mkF m 47 #[.val (.ref a1), .val (.ref cb), .unset] [(.ref a1)])) rfl rfl (hb hby od_29_1_47)
  refine own_s st268 ?_
  show own_E p e below _ (T268.setTop (mkF m 50 #[.val (.ref a1), .val (.ref cb), .unset] [(.ref o245)]))
  refine own_g (mkF m 51 #[.val (.ref a1), .val (.ref cb), .unset] [(.int (-1 : Int32)), (.ref o245)]) (fun _ kz => XS.iconst X268.here hx rfl (hb hby od_29_1_50) kz) ?_
  refine own_callS (rest := []) (as := [(.ref o245), (.int (-1 : Int32))]) X268 hx hZ hown e268 (own_c_fill l Z a0 hw o245 8 (fun _ => (0 : Int32)) (-1) h258 n0 s259 (by decide) b249 f266) (own_w hw 32 rfl) (own_w hw 33 rfl) (own_w hw 34 rfl) (own_w hw 35 rfl) (by decide) own_pd3 rfl (by rw [hml]; rfl) rfl (hb hby od_29_1_51) 0 (by show 2 * 0 + _ ≤ _; exact Nat.le_of_eq rfl) (by decide) (by decide) (by decide) (by decide) ?_
  rintro _ T269 L269 X269 ⟨rfl, Nq269, K269, A269⟩
  have N269 := Fr.app N258 Nq269
  have f270 := Exa.keep f260 K269
  have f271 := Fld.keep f261 K269 (ninS (Nat.ne_of_lt lt246) nin0)
  have f272 := Fld.keep f262 K269 (ninS (Nat.ne_of_lt lt246) nin0)
  have f273 := Fld.keep f263 K269 (ninS (Nat.ne_of_lt lt246) nin0)
  have f274 := Fld.keep f267 K269 (ninS (Nat.ne_of_lt lt246) nin0)
  have f275 := own_IA.keep f264 K269 (ninS (Nat.ne_of_lt lt247) nin0)
  have f276 := own_IA.keep f265 K269 (ninS (Nat.ne_of_lt lt248) nin0)
  have s278 : n0 ≤ T269.heap.size := Nat.le_trans s259 K269.1
  show own_E p e below _ (T269.setTop (mkF m 54 #[.val (.ref a1), .val (.ref cb), .unset] []))
  refine own_g (mkF m 55 #[.val (.ref a1), .val (.ref cb), .unset] [(.int (0 : Int32))]) (fun _ kz => XS.iconst X269.here hx rfl (hb hby od_29_1_54) kz) ?_
  refine own_g (mkF m 56 #[.val (.ref a1), .val (.ref cb), .val (.int (0 : Int32))] []) (fun _ kz => XS.istoreN X269.here hx rfl (hb hby od_29_1_55) rfl (l' := #[.val (.ref a1), .val (.ref cb), .val (.int (0 : Int32))]) rfl kz) ?_
  refine own_g (mkF m 57 #[.val (.ref a1), .val (.ref cb), .val (.int (0 : Int32))] [(.int (0 : Int32))]) (fun _ kz => XS.iloadN X269.here hx rfl (hb hby od_29_1_56) rfl kz) ?_
  refine own_g (mkF m 58 #[.val (.ref a1), .val (.ref cb), .val (.int (0 : Int32))] [(.ref cb), (.int (0 : Int32))]) (fun _ kz => XS.aloadN X269.here hx rfl (hb hby od_29_1_57) rfl rfl kz) ?_
  refine own_lenI X269 hx hZ rfl f275 (hb hby od_29_1_58) (z := (3 : Int32)) rfl ?_
  show own_E p e below _ (T269.setTop (mkF m 59 #[.val (.ref a1), .val (.ref cb), .val (.int (0 : Int32))] [(.int (3 : Int32)), (.int (0 : Int32))]))
  refine own_g (mkF m 62 #[.val (.ref a1), .val (.ref cb), .val (.int (0 : Int32))] []) (fun _ kz => XS.icmpNo X269.here hx rfl (hb hby od_29_1_59) rfl (tlt (by decide)).2.1 kz) ?_
  refine own_g (mkF m 63 #[.val (.ref a1), .val (.ref cb), .val (.int (0 : Int32))] [(.ref a1)]) (fun _ kz => XS.aloadN X269.here hx rfl (hb hby od_29_1_62) rfl rfl kz) ?_
  obtain ⟨T279, X279, e279, st279⟩ := getF X269 hx hZ hown (host := "") (Or.inl (own_w hw 30 rfl)) Via.refl rfl f274 (g := (mkF m 63 #[.val (.ref a1), .val (.ref cb), .val (.int (0 : Int32))] [(.ref a1)])) rfl rfl (hb hby od_29_1_63)
  refine own_s st279 ?_
  show own_E p e below _ (T279.setTop (mkF m 66 #[.val (.ref a1), .val (.ref cb), .val (.int (0 : Int32))] [(.ref o245)]))
  refine own_g (mkF m 67 #[.val (.ref a1), .val (.ref cb), .val (.int (0 : Int32))] [(.ref a1), (.ref o245)]) (fun _ kz => XS.aloadN X279.here hx rfl (hb hby od_29_1_66) rfl rfl kz) ?_
  obtain ⟨T280, X280, e280, st280⟩ := getF X279 hx hZ hown (host := "") (Or.inl (own_w hw 23 rfl)) Via.refl e279 f271 (g := (mkF m 67 #[.val (.ref a1), .val (.ref cb), .val (.int (0 : Int32))] [(.ref a1), (.ref o245)])) rfl rfl (hb hby od_29_1_67)
  refine own_s st280 ?_
  show own_E p e below _ (T280.setTop (mkF m 70 #[.val (.ref a1), .val (.ref cb), .val (.int (0 : Int32))] [(.int (4 : Int32)), (.ref o245)]))
  refine own_g (mkF m 71 #[.val (.ref a1), .val (.ref cb), .val (.int (0 : Int32))] [(.int (0 : Int32)), (.int (4 : Int32)), (.ref o245)]) (fun _ kz => XS.iloadN X280.here hx rfl (hb hby od_29_1_70) rfl kz) ?_
  refine own_g (mkF m 72 #[.val (.ref a1), .val (.ref cb), .val (.int (0 : Int32))] [(.int ((4 : Int32) + (0 : Int32))), (.ref o245)]) (fun _ kz => XS.iadd X280.here hx rfl (hb hby od_29_1_71) rfl kz) ?_
  rw [show ((4 : Int32) + (0 : Int32)) = (4 : Int32) from by decide]
  show own_E p e below _ (T280.setTop (mkF m 72 #[.val (.ref a1), .val (.ref cb), .val (.int (0 : Int32))] [(.int (4 : Int32)), (.ref o245)]))
  refine own_g (mkF m 73 #[.val (.ref a1), .val (.ref cb), .val (.int (0 : Int32))] [(.int (0 : Int32)), (.int (4 : Int32)), (.ref o245)]) (fun _ kz => XS.iloadN X280.here hx rfl (hb hby od_29_1_72) rfl kz) ?_
  refine own_stI X280 hx hZ e280 A269 (hb hby od_29_1_73) (by decide) (i := 4) rfl (by decide) ?_
  intro T281 h281 X281 e281 W281 A281
  have N281 := Fr.snoc X281 N269 b249
  have s282 : n0 ≤ h281.size := Nat.le_trans s278 (Keep.of_wr W281).1
  have f283 := Exa.wr W281 f270
  have f284 := Fld.other W281 f271 (Or.inl (Nat.ne_of_lt lt246))
  have f285 := Fld.other W281 f272 (Or.inl (Nat.ne_of_lt lt246))
  have f286 := Fld.other W281 f273 (Or.inl (Nat.ne_of_lt lt246))
  have f287 := Fld.other W281 f274 (Or.inl (Nat.ne_of_lt lt246))
  have f288 := f275.other W281 (Nat.ne_of_lt lt247)
  have f289 := f276.other W281 (Nat.ne_of_lt lt248)
  show own_E p e below _ (T281.setTop (mkF m 74 #[.val (.ref a1), .val (.ref cb), .val (.int (0 : Int32))] []))
  obtain ⟨fw1, efw1, Afw1x⟩ : ∃ F, F = (own_set (fun _ => (-1 : Int32)) 4 (0 : Int32)) ∧ own_IA Z h281 o245 .int 8 F := ⟨_, rfl, A281⟩
  have hv290 : fw1 1 = (-1 : Int32) := by rw [efw1, own_set_other _ _ (by decide)]
  have hv291 : fw1 2 = (-1 : Int32) := by rw [efw1, own_set_other _ _ (by decide)]
  have hv292 : fw1 3 = (-1 : Int32) := by rw [efw1, own_set_other _ _ (by decide)]
  have hv293 : fw1 5 = (-1 : Int32) := by rw [efw1, own_set_other _ _ (by decide)]
  have hv294 : fw1 6 = (-1 : Int32) := by rw [efw1, own_set_other _ _ (by decide)]
  have hv295 : fw1 7 = (-1 : Int32) := by rw [efw1, own_set_other _ _ (by decide)]
  have hv296 : fw1 4 = (0 : Int32) := by rw [efw1, own_set_same]
  refine own_g (mkF m 77 #[.val (.ref a1), .val (.ref cb), .val (.int ((0 : Int32) + (1 : Int32)))] []) (fun _ kz => XS.iinc X281.here hx rfl (hb hby od_29_1_74) rfl (l' := #[.val (.ref a1), .val (.ref cb), .val (.int ((0 : Int32) + (1 : Int32)))]) rfl kz) ?_
  rw [show ((0 : Int32) + (1 : Int32)) = (1 : Int32) from by decide]
  show own_E p e below _ (T281.setTop (mkF m 77 #[.val (.ref a1), .val (.ref cb), .val (.int (1 : Int32))] []))
  refine own_g (mkF m 56 #[.val (.ref a1), .val (.ref cb), .val (.int (1 : Int32))] []) (fun _ kz => XS.goto X281.here hx rfl (pc0 := 77) (pc' := 56) rfl (hb hby od_29_1_77) (by decide) (by decide) kz) ?_
  refine own_g (mkF m 57 #[.val (.ref a1), .val (.ref cb), .val (.int (1 : Int32))] [(.int (1 : Int32))]) (fun _ kz => XS.iloadN X281.here hx rfl (hb hby od_29_1_56) rfl kz) ?_
  refine own_g (mkF m 58 #[.val (.ref a1), .val (.ref cb), .val (.int (1 : Int32))] [(.ref cb), (.int (1 : Int32))]) (fun _ kz => XS.aloadN X281.here hx rfl (hb hby od_29_1_57) rfl rfl kz) ?_
  refine own_lenI X281 hx hZ e281 f288 (hb hby od_29_1_58) (z := (3 : Int32)) rfl ?_
  show own_E p e below _ (T281.setTop (mkF m 59 #[.val (.ref a1), .val (.ref cb), .val (.int (1 : Int32))] [(.int (3 : Int32)), (.int (1 : Int32))]))
  refine own_g (mkF m 62 #[.val (.ref a1), .val (.ref cb), .val (.int (1 : Int32))] []) (fun _ kz => XS.icmpNo X281.here hx rfl (hb hby od_29_1_59) rfl (tlt (by decide)).2.1 kz) ?_
  refine own_g (mkF m 63 #[.val (.ref a1), .val (.ref cb), .val (.int (1 : Int32))] [(.ref a1)]) (fun _ kz => XS.aloadN X281.here hx rfl (hb hby od_29_1_62) rfl rfl kz) ?_
  obtain ⟨T297, X297, e297, st297⟩ := getF X281 hx hZ hown (host := "") (Or.inl (own_w hw 30 rfl)) Via.refl e281 f287 (g := (mkF m 63 #[.val (.ref a1), .val (.ref cb), .val (.int (1 : Int32))] [(.ref a1)])) rfl rfl (hb hby od_29_1_63)
  refine own_s st297 ?_
  show own_E p e below _ (T297.setTop (mkF m 66 #[.val (.ref a1), .val (.ref cb), .val (.int (1 : Int32))] [(.ref o245)]))
  refine own_g (mkF m 67 #[.val (.ref a1), .val (.ref cb), .val (.int (1 : Int32))] [(.ref a1), (.ref o245)]) (fun _ kz => XS.aloadN X297.here hx rfl (hb hby od_29_1_66) rfl rfl kz) ?_
  obtain ⟨T298, X298, e298, st298⟩ := getF X297 hx hZ hown (host := "") (Or.inl (own_w hw 23 rfl)) Via.refl e297 f284 (g := (mkF m 67 #[.val (.ref a1), .val (.ref cb), .val (.int (1 : Int32))] [(.ref a1), (.ref o245)])) rfl rfl (hb hby od_29_1_67)
  refine own_s st298 ?_
  show own_E p e below _ (T298.setTop (mkF m 70 #[.val (.ref a1), .val (.ref cb), .val (.int (1 : Int32))] [(.int (4 : Int32)), (.ref o245)]))
  refine own_g (mkF m 71 #[.val (.ref a1), .val (.ref cb), .val (.int (1 : Int32))] [(.int (1 : Int32)), (.int (4 : Int32)), (.ref o245)]) (fun _ kz => XS.iloadN X298.here hx rfl (hb hby od_29_1_70) rfl kz) ?_
  refine own_g (mkF m 72 #[.val (.ref a1), .val (.ref cb), .val (.int (1 : Int32))] [(.int ((4 : Int32) + (1 : Int32))), (.ref o245)]) (fun _ kz => XS.iadd X298.here hx rfl (hb hby od_29_1_71) rfl kz) ?_
  rw [show ((4 : Int32) + (1 : Int32)) = (5 : Int32) from by decide]
  show own_E p e below _ (T298.setTop (mkF m 72 #[.val (.ref a1), .val (.ref cb), .val (.int (1 : Int32))] [(.int (5 : Int32)), (.ref o245)]))
  refine own_g (mkF m 73 #[.val (.ref a1), .val (.ref cb), .val (.int (1 : Int32))] [(.int (1 : Int32)), (.int (5 : Int32)), (.ref o245)]) (fun _ kz => XS.iloadN X298.here hx rfl (hb hby od_29_1_72) rfl kz) ?_
  refine own_stI X298 hx hZ e298 Afw1x (hb hby od_29_1_73) (by decide) (i := 5) rfl (by decide) ?_
  intro T299 h299 X299 e299 W299 A299
  have N299 := Fr.snoc X299 N281 b249
  have s300 : n0 ≤ h299.size := Nat.le_trans s282 (Keep.of_wr W299).1
  have f301 := Exa.wr W299 f283
  have f302 := Fld.other W299 f284 (Or.inl (Nat.ne_of_lt lt246))
  have f303 := Fld.other W299 f285 (Or.inl (Nat.ne_of_lt lt246))
  have f304 := Fld.other W299 f286 (Or.inl (Nat.ne_of_lt lt246))
  have f305 := Fld.other W299 f287 (Or.inl (Nat.ne_of_lt lt246))
  have f306 := f288.other W299 (Nat.ne_of_lt lt247)
  have f307 := f289.other W299 (Nat.ne_of_lt lt248)
  show own_E p e below _ (T299.setTop (mkF m 74 #[.val (.ref a1), .val (.ref cb), .val (.int (1 : Int32))] []))
  obtain ⟨fw2, efw2, Afw2x⟩ : ∃ F, F = (own_set fw1 5 (1 : Int32)) ∧ own_IA Z h299 o245 .int 8 F := ⟨_, rfl, A299⟩
  have hv308 : fw2 1 = (-1 : Int32) := by rw [efw2, own_set_other _ _ (by decide)]; exact hv290
  have hv309 : fw2 2 = (-1 : Int32) := by rw [efw2, own_set_other _ _ (by decide)]; exact hv291
  have hv310 : fw2 3 = (-1 : Int32) := by rw [efw2, own_set_other _ _ (by decide)]; exact hv292
  have hv311 : fw2 6 = (-1 : Int32) := by rw [efw2, own_set_other _ _ (by decide)]; exact hv294
  have hv312 : fw2 7 = (-1 : Int32) := by rw [efw2, own_set_other _ _ (by decide)]; exact hv295
  have hv313 : fw2 4 = (0 : Int32) := by rw [efw2, own_set_other _ _ (by decide)]; exact hv296
  have hv314 : fw2 5 = (1 : Int32) := by rw [efw2, own_set_same]
  refine own_g (mkF m 77 #[.val (.ref a1), .val (.ref cb), .val (.int ((1 : Int32) + (1 : Int32)))] []) (fun _ kz => XS.iinc X299.here hx rfl (hb hby od_29_1_74) rfl (l' := #[.val (.ref a1), .val (.ref cb), .val (.int ((1 : Int32) + (1 : Int32)))]) rfl kz) ?_
  rw [show ((1 : Int32) + (1 : Int32)) = (2 : Int32) from by decide]
  show own_E p e below _ (T299.setTop (mkF m 77 #[.val (.ref a1), .val (.ref cb), .val (.int (2 : Int32))] []))
  refine own_g (mkF m 56 #[.val (.ref a1), .val (.ref cb), .val (.int (2 : Int32))] []) (fun _ kz => XS.goto X299.here hx rfl (pc0 := 77) (pc' := 56) rfl (hb hby od_29_1_77) (by decide) (by decide) kz) ?_
  refine own_g (mkF m 57 #[.val (.ref a1), .val (.ref cb), .val (.int (2 : Int32))] [(.int (2 : Int32))]) (fun _ kz => XS.iloadN X299.here hx rfl (hb hby od_29_1_56) rfl kz) ?_
  refine own_g (mkF m 58 #[.val (.ref a1), .val (.ref cb), .val (.int (2 : Int32))] [(.ref cb), (.int (2 : Int32))]) (fun _ kz => XS.aloadN X299.here hx rfl (hb hby od_29_1_57) rfl rfl kz) ?_
  refine own_lenI X299 hx hZ e299 f306 (hb hby od_29_1_58) (z := (3 : Int32)) rfl ?_
  show own_E p e below _ (T299.setTop (mkF m 59 #[.val (.ref a1), .val (.ref cb), .val (.int (2 : Int32))] [(.int (3 : Int32)), (.int (2 : Int32))]))
  refine own_g (mkF m 62 #[.val (.ref a1), .val (.ref cb), .val (.int (2 : Int32))] []) (fun _ kz => XS.icmpNo X299.here hx rfl (hb hby od_29_1_59) rfl (tlt (by decide)).2.1 kz) ?_
  refine own_g (mkF m 63 #[.val (.ref a1), .val (.ref cb), .val (.int (2 : Int32))] [(.ref a1)]) (fun _ kz => XS.aloadN X299.here hx rfl (hb hby od_29_1_62) rfl rfl kz) ?_
  obtain ⟨T315, X315, e315, st315⟩ := getF X299 hx hZ hown (host := "") (Or.inl (own_w hw 30 rfl)) Via.refl e299 f305 (g := (mkF m 63 #[.val (.ref a1), .val (.ref cb), .val (.int (2 : Int32))] [(.ref a1)])) rfl rfl (hb hby od_29_1_63)
  refine own_s st315 ?_
  show own_E p e below _ (T315.setTop (mkF m 66 #[.val (.ref a1), .val (.ref cb), .val (.int (2 : Int32))] [(.ref o245)]))
  refine own_g (mkF m 67 #[.val (.ref a1), .val (.ref cb), .val (.int (2 : Int32))] [(.ref a1), (.ref o245)]) (fun _ kz => XS.aloadN X315.here hx rfl (hb hby od_29_1_66) rfl rfl kz) ?_
  obtain ⟨T316, X316, e316, st316⟩ := getF X315 hx hZ hown (host := "") (Or.inl (own_w hw 23 rfl)) Via.refl e315 f302 (g := (mkF m 67 #[.val (.ref a1), .val (.ref cb), .val (.int (2 : Int32))] [(.ref a1), (.ref o245)])) rfl rfl (hb hby od_29_1_67)
  refine own_s st316 ?_
  show own_E p e below _ (T316.setTop (mkF m 70 #[.val (.ref a1), .val (.ref cb), .val (.int (2 : Int32))] [(.int (4 : Int32)), (.ref o245)]))
  refine own_g (mkF m 71 #[.val (.ref a1), .val (.ref cb), .val (.int (2 : Int32))] [(.int (2 : Int32)), (.int (4 : Int32)), (.ref o245)]) (fun _ kz => XS.iloadN X316.here hx rfl (hb hby od_29_1_70) rfl kz) ?_
  refine own_g (mkF m 72 #[.val (.ref a1), .val (.ref cb), .val (.int (2 : Int32))] [(.int ((4 : Int32) + (2 : Int32))), (.ref o245)]) (fun _ kz => XS.iadd X316.here hx rfl (hb hby od_29_1_71) rfl kz) ?_
  rw [show ((4 : Int32) + (2 : Int32)) = (6 : Int32) from by decide]
  show own_E p e below _ (T316.setTop (mkF m 72 #[.val (.ref a1), .val (.ref cb), .val (.int (2 : Int32))] [(.int (6 : Int32)), (.ref o245)]))
  refine own_g (mkF m 73 #[.val (.ref a1), .val (.ref cb), .val (.int (2 : Int32))] [(.int (2 : Int32)), (.int (6 : Int32)), (.ref o245)]) (fun _ kz => XS.iloadN X316.here hx rfl (hb hby od_29_1_72) rfl kz) ?_
  refine own_stI X316 hx hZ e316 Afw2x (hb hby od_29_1_73) (by decide) (i := 6) rfl (by decide) ?_
  intro T317 h317 X317 e317 W317 A317
  have N317 := Fr.snoc X317 N299 b249
  have s318 : n0 ≤ h317.size := Nat.le_trans s300 (Keep.of_wr W317).1
  have f319 := Exa.wr W317 f301
  have f320 := Fld.other W317 f302 (Or.inl (Nat.ne_of_lt lt246))
  have f321 := Fld.other W317 f303 (Or.inl (Nat.ne_of_lt lt246))
  have f322 := Fld.other W317 f304 (Or.inl (Nat.ne_of_lt lt246))
  have f323 := Fld.other W317 f305 (Or.inl (Nat.ne_of_lt lt246))
  have f324 := f306.other W317 (Nat.ne_of_lt lt247)
  have f325 := f307.other W317 (Nat.ne_of_lt lt248)
  show own_E p e below _ (T317.setTop (mkF m 74 #[.val (.ref a1), .val (.ref cb), .val (.int (2 : Int32))] []))
  obtain ⟨fw3, efw3, Afw3x⟩ : ∃ F, F = (own_set fw2 6 (2 : Int32)) ∧ own_IA Z h317 o245 .int 8 F := ⟨_, rfl, A317⟩
  have hv326 : fw3 1 = (-1 : Int32) := by rw [efw3, own_set_other _ _ (by decide)]; exact hv308
  have hv327 : fw3 2 = (-1 : Int32) := by rw [efw3, own_set_other _ _ (by decide)]; exact hv309
  have hv328 : fw3 3 = (-1 : Int32) := by rw [efw3, own_set_other _ _ (by decide)]; exact hv310
  have hv329 : fw3 7 = (-1 : Int32) := by rw [efw3, own_set_other _ _ (by decide)]; exact hv312
  have hv330 : fw3 4 = (0 : Int32) := by rw [efw3, own_set_other _ _ (by decide)]; exact hv313
  have hv331 : fw3 5 = (1 : Int32) := by rw [efw3, own_set_other _ _ (by decide)]; exact hv314
  have hv332 : fw3 6 = (2 : Int32) := by rw [efw3, own_set_same]
  refine own_g (mkF m 77 #[.val (.ref a1), .val (.ref cb), .val (.int ((2 : Int32) + (1 : Int32)))] []) (fun _ kz => XS.iinc X317.here hx rfl (hb hby od_29_1_74) rfl (l' := #[.val (.ref a1), .val (.ref cb), .val (.int ((2 : Int32) + (1 : Int32)))]) rfl kz) ?_
  rw [show ((2 : Int32) + (1 : Int32)) = (3 : Int32) from by decide]
  show own_E p e below _ (T317.setTop (mkF m 77 #[.val (.ref a1), .val (.ref cb), .val (.int (3 : Int32))] []))
  refine own_g (mkF m 56 #[.val (.ref a1), .val (.ref cb), .val (.int (3 : Int32))] []) (fun _ kz => XS.goto X317.here hx rfl (pc0 := 77) (pc' := 56) rfl (hb hby od_29_1_77) (by decide) (by decide) kz) ?_
  refine own_g (mkF m 57 #[.val (.ref a1), .val (.ref cb), .val (.int (3 : Int32))] [(.int (3 : Int32))]) (fun _ kz => XS.iloadN X317.here hx rfl (hb hby od_29_1_56) rfl kz) ?_
  refine own_g (mkF m 58 #[.val (.ref a1), .val (.ref cb), .val (.int (3 : Int32))] [(.ref cb), (.int (3 : Int32))]) (fun _ kz => XS.aloadN X317.here hx rfl (hb hby od_29_1_57) rfl rfl kz) ?_
  refine own_lenI X317 hx hZ e317 f324 (hb hby od_29_1_58) (z := (3 : Int32)) rfl ?_
  show own_E p e below _ (T317.setTop (mkF m 59 #[.val (.ref a1), .val (.ref cb), .val (.int (3 : Int32))] [(.int (3 : Int32)), (.int (3 : Int32))]))
  refine own_g (mkF m 80 #[.val (.ref a1), .val (.ref cb), .val (.int (3 : Int32))] []) (fun _ kz => XS.icmpYes X317.here hx rfl (pc0 := 59) (pc' := 80) rfl (hb hby od_29_1_59) rfl (flt (by decide)).2.1 (by decide) (by decide) kz) ?_
  refine own_g (mkF m 81 #[.val (.ref a1), .val (.ref cb), .val (.int (3 : Int32))] [(.ref a1)]) (fun _ kz => XS.aloadN X317.here hx rfl (hb hby od_29_1_80) rfl rfl kz) ?_
  obtain ⟨T333, X333, e333, st333⟩ := getF X317 hx hZ hown (host := "") (Or.inl (own_w hw 23 rfl)) Via.refl e317 f320 (g := (mkF m 81 #[.val (.ref a1), .val (.ref cb), .val (.int (3 : Int32))] [(.ref a1)])) rfl rfl (hb hby od_29_1_81)
  refine own_s st333 ?_
  show own_E p e below _ (T333.setTop (mkF m 84 #[.val (.ref a1), .val (.ref cb), .val (.int (3 : Int32))] [(.int (4 : Int32))]))
  refine own_g (mkF m 85 #[.val (.ref a1), .val (.ref cb), .val (.int (3 : Int32))] [(.int (1 : Int32)), (.int (4 : Int32))]) (fun _ kz => XS.iconst X333.here hx rfl (hb hby od_29_1_84) kz) ?_
  refine own_g (mkF m 86 #[.val (.ref a1), .val (.ref cb), .val (.int (3 : Int32))] [(.int ((4 : Int32) - (1 : Int32)))]) (fun _ kz => XS.isub X333.here hx rfl (hb hby od_29_1_85) rfl kz) ?_
  rw [show ((4 : Int32) - (1 : Int32)) = (3 : Int32) from by decide]
  show own_E p e below _ (T333.setTop (mkF m 86 #[.val (.ref a1), .val (.ref cb), .val (.int (3 : Int32))] [(.int (3 : Int32))]))
  refine own_g (mkF m 87 #[.val (.ref a1), .val (.ref cb), .val (.int (3 : Int32))] []) (fun _ kz => XS.istoreN X333.here hx rfl (hb hby od_29_1_86) rfl (l' := #[.val (.ref a1), .val (.ref cb), .val (.int (3 : Int32))]) rfl kz) ?_
  refine own_g (mkF m 88 #[.val (.ref a1), .val (.ref cb), .val (.int (3 : Int32))] [(.int (3 : Int32))]) (fun _ kz => XS.iloadN X333.here hx rfl (hb hby od_29_1_87) rfl kz) ?_
  refine own_g (mkF m 89 #[.val (.ref a1), .val (.ref cb), .val (.int (3 : Int32))] [(.int (1 : Int32)), (.int (3 : Int32))]) (fun _ kz => XS.iconst X333.here hx rfl (hb hby od_29_1_88) kz) ?_
  refine own_g (mkF m 92 #[.val (.ref a1), .val (.ref cb), .val (.int (3 : Int32))] []) (fun _ kz => XS.icmpNo X333.here hx rfl (hb hby od_29_1_89) rfl (flt (by decide)).1 kz) ?_
  refine own_g (mkF m 93 #[.val (.ref a1), .val (.ref cb), .val (.int (3 : Int32))] [(.ref a1)]) (fun _ kz => XS.aloadN X333.here hx rfl (hb hby od_29_1_92) rfl rfl kz) ?_
  obtain ⟨T334, X334, e334, st334⟩ := getF X333 hx hZ hown (host := "") (Or.inl (own_w hw 30 rfl)) Via.refl e333 f323 (g := (mkF m 93 #[.val (.ref a1), .val (.ref cb), .val (.int (3 : Int32))] [(.ref a1)])) rfl rfl (hb hby od_29_1_93)
  refine own_s st334 ?_
  show own_E p e below _ (T334.setTop (mkF m 96 #[.val (.ref a1), .val (.ref cb), .val (.int (3 : Int32))] [(.ref o245)]))
  refine own_g (mkF m 97 #[.val (.ref a1), .val (.ref cb), .val (.int (3 : Int32))] [(.int (3 : Int32)), (.ref o245)]) (fun _ kz => XS.iloadN X334.here hx rfl (hb hby od_29_1_96) rfl kz) ?_
  refine own_g (mkF m 98 #[.val (.ref a1), .val (.ref cb), .val (.int (3 : Int32))] [(.ref a1), (.int (3 : Int32)), (.ref o245)]) (fun _ kz => XS.aloadN X334.here hx rfl (hb hby od_29_1_97) rfl rfl kz) ?_
  refine own_g (mkF m 99 #[.val (.ref a1), .val (.ref cb), .val (.int (3 : Int32))] [(.ref a1), (.ref a1), (.int (3 : Int32)), (.ref o245)]) (fun _ kz => XS.aloadN X334.here hx rfl (hb hby od_29_1_98) rfl rfl kz) ?_
  obtain ⟨T335, X335, e335, st335⟩ := getF X334 hx hZ hown (host := "") (Or.inl (own_w hw 30 rfl)) Via.refl e334 f323 (g := (mkF m 99 #[.val (.ref a1), .val (.ref cb), .val (.int (3 : Int32))] [(.ref a1), (.ref a1), (.int (3 : Int32)), (.ref o245)])) rfl rfl (hb hby od_29_1_99)
  refine own_s st335 ?_
  show own_E p e below _ (T335.setTop (mkF m 102 #[.val (.ref a1), .val (.ref cb), .val (.int (3 : Int32))] [(.ref o245), (.ref a1), (.int (3 : Int32)), (.ref o245)]))
  refine own_g (mkF m 103 #[.val (.ref a1), .val (.ref cb), .val (.int (3 : Int32))] [(.int (2 : Int32)), (.ref o245), (.ref a1), (.int (3 : Int32)), (.ref o245)]) (fun _ kz => XS.iconst X335.here hx rfl (hb hby od_29_1_102) kz) ?_
  refine own_g (mkF m 104 #[.val (.ref a1), .val (.ref cb), .val (.int (3 : Int32))] [(.int (3 : Int32)), (.int (2 : Int32)), (.ref o245), (.ref a1), (.int (3 : Int32)), (.ref o245)]) (fun _ kz => XS.iloadN X335.here hx rfl (hb hby od_29_1_103) rfl kz) ?_
  refine own_g (mkF m 105 #[.val (.ref a1), .val (.ref cb), .val (.int (3 : Int32))] [(.int ((2 : Int32) * (3 : Int32))), (.ref o245), (.ref a1), (.int (3 : Int32)), (.ref o245)]) (fun _ kz => XS.imul X335.here hx rfl (hb hby od_29_1_104) rfl kz) ?_
  rw [show ((2 : Int32) * (3 : Int32)) = (6 : Int32) from by decide]
  show own_E p e below _ (T335.setTop (mkF m 105 #[.val (.ref a1), .val (.ref cb), .val (.int (3 : Int32))] [(.int (6 : Int32)), (.ref o245), (.ref a1), (.int (3 : Int32)), (.ref o245)]))
  refine own_ildI X335 hx hZ e335 Afw3x (hb hby od_29_1_105) (by decide) (i := 6) rfl (by decide) (x := (2 : Int32)) hv332 ?_
  show own_E p e below _ (T335.setTop (mkF m 106 #[.val (.ref a1), .val (.ref cb), .val (.int (3 : Int32))] [(.int (2 : Int32)), (.ref a1), (.int (3 : Int32)), (.ref o245)]))
  refine own_g (mkF m 107 #[.val (.ref a1), .val (.ref cb), .val (.int (3 : Int32))] [(.ref a1), (.int (2 : Int32)), (.ref a1), (.int (3 : Int32)), (.ref o245)]) (fun _ kz => XS.aloadN X335.here hx rfl (hb hby od_29_1_106) rfl rfl kz) ?_
  obtain ⟨T336, X336, e336, st336⟩ := getF X335 hx hZ hown (host := "") (Or.inl (own_w hw 30 rfl)) Via.refl e335 f323 (g := (mkF m 107 #[.val (.ref a1), .val (.ref cb), .val (.int (3 : Int32))] [(.ref a1), (.int (2 : Int32)), (.ref a1), (.int (3 : Int32)), (.ref o245)])) rfl rfl (hb hby od_29_1_107)
  refine own_s st336 ?_
  show own_E p e below _ (T336.setTop (mkF m 110 #[.val (.ref a1), .val (.ref cb), .val (.int (3 : Int32))] [(.ref o245), (.int (2 : Int32)), (.ref a1), (.int (3 : Int32)), (.ref o245)]))
  refine own_g (mkF m 111 #[.val (.ref a1), .val (.ref cb), .val (.int (3 : Int32))] [(.int (2 : Int32)), (.ref o245), (.int (2 : Int32)), (.ref a1), (.int (3 : Int32)), (.ref o245)]) (fun _ kz => XS.iconst X336.here hx rfl (hb hby od_29_1_110) kz) ?_
  refine own_g (mkF m 112 #[.val (.ref a1), .val (.ref cb), .val (.int (3 : Int32))] [(.int (3 : Int32)), (.int (2 : Int32)), (.ref o245), (.int (2 : Int32)), (.ref a1), (.int (3 : Int32)), (.ref o245)]) (fun _ kz => XS.iloadN X336.here hx rfl (hb hby od_29_1_111) rfl kz) ?_
  refine own_g (mkF m 113 #[.val (.ref a1), .val (.ref cb), .val (.int (3 : Int32))] [(.int ((2 : Int32) * (3 : Int32))), (.ref o245), (.int (2 : Int32)), (.ref a1), (.int (3 : Int32)), (.ref o245)]) (fun _ kz => XS.imul X336.here hx rfl (hb hby od_29_1_112) rfl kz) ?_
  rw [show ((2 : Int32) * (3 : Int32)) = (6 : Int32) from by decide]
  show own_E p e below _ (T336.setTop (mkF m 113 #[.val (.ref a1), .val (.ref cb), .val (.int (3 : Int32))] [(.int (6 : Int32)), (.ref o245), (.int (2 : Int32)), (.ref a1), (.int (3 : Int32)), (.ref o245)]))
  refine own_g (mkF m 114 #[.val (.ref a1), .val (.ref cb), .val (.int (3 : Int32))] [(.int (1 : Int32)), (.int (6 : Int32)), (.ref o245), (.int (2 : Int32)), (.ref a1), (.int (3 : Int32)), (.ref o245)]) (fun _ kz => XS.iconst X336.here hx rfl (hb hby od_29_1_113) kz) ?_
  refine own_g (mkF m 115 #[.val (.ref a1), .val (.ref cb), .val (.int (3 : Int32))] [(.int ((6 : Int32) + (1 : Int32))), (.ref o245), (.int (2 : Int32)), (.ref a1), (.int (3 : Int32)), (.ref o245)]) (fun _ kz => XS.iadd X336.here hx rfl (hb hby od_29_1_114) rfl kz) ?_
  rw [show ((6 : Int32) + (1 : Int32)) = (7 : Int32) from by decide]
  show own_E p e below _ (T336.setTop (mkF m 115 #[.val (.ref a1), .val (.ref cb), .val (.int (3 : Int32))] [(.int (7 : Int32)), (.ref o245), (.int (2 : Int32)), (.ref a1), (.int (3 : Int32)), (.ref o245)]))
  refine own_ildI X336 hx hZ e336 Afw3x (hb hby od_29_1_115) (by decide) (i := 7) rfl (by decide) (x := (-1 : Int32)) hv329 ?_
  show own_E p e below _ (T336.setTop (mkF m 116 #[.val (.ref a1), .val (.ref cb), .val (.int (3 : Int32))] [(.int (-1 : Int32)), (.int (2 : Int32)), (.ref a1), (.int (3 : Int32)), (.ref o245)]))
  refine own_callP (rest := [(.int (3 : Int32)), (.ref o245)]) (a := a1) (as := [(.int (2 : Int32)), (.int (-1 : Int32))]) X336 hx hZ hown e336 (own_c_mat l Z a0 hw a1 cb o224 o245 fc (fun _ => 0) fw3 (2 : Int32) (-1 : Int32) h317 n0 s318 (Or.inr (Or.inr (Or.inr rfl))) (Or.inl rfl) ⟨f319, f320, f321, f322, f323, f324, f325, Afw3x, gc, b227, b249, nac, (Nat.ne_of_lt lt225), (Nat.ne_of_lt lt246), (Nat.ne_of_lt lt226), (Nat.ne_of_lt lt247), (Nat.ne_of_lt lt248)⟩) f319 (own_w hw 36 rfl) (own_w hw 2 rfl) (own_w hw 38 rfl) (own_w hw 37 rfl) (own_w hw 3 rfl) (own_w hw 39 rfl) (by decide) own_pd1 rfl (by rw [hml]; rfl) rfl (hb hby od_29_1_116) 2 (by show 2 * 0 + _ ≤ _; exact Nat.le_of_eq rfl) (by decide) (by decide) (by decide) (by decide) ?_
  rintro _ T337 L337 X337 ⟨rfl, rfl, e337⟩
  have N337 := Fr.app N317 (Fr.nil n0)
  show own_E p e below _ (T337.setTop (mkF m 119 #[.val (.ref a1), .val (.ref cb), .val (.int (3 : Int32))] [(.int (own_mt (fun _ => 0) fc (2 : Int32) (-1 : Int32))), (.int (3 : Int32)), (.ref o245)]))
  refine own_stI X337 hx hZ e337 Afw3x (hb hby od_29_1_119) (by decide) (i := 3) rfl (by decide) ?_
  intro T338 h338 X338 e338 W338 A338
  have N338 := Fr.snoc X338 N337 b249
  have s339 : n0 ≤ h338.size := Nat.le_trans s318 (Keep.of_wr W338).1
  have f340 := Exa.wr W338 f319
  have f341 := Fld.other W338 f320 (Or.inl (Nat.ne_of_lt lt246))
  have f342 := Fld.other W338 f321 (Or.inl (Nat.ne_of_lt lt246))
  have f343 := Fld.other W338 f322 (Or.inl (Nat.ne_of_lt lt246))
  have f344 := Fld.other W338 f323 (Or.inl (Nat.ne_of_lt lt246))
  have f345 := f324.other W338 (Nat.ne_of_lt lt247)
  have f346 := f325.other W338 (Nat.ne_of_lt lt248)
  show own_E p e below _ (T338.setTop (mkF m 120 #[.val (.ref a1), .val (.ref cb), .val (.int (3 : Int32))] []))
  obtain ⟨fw4, efw4, Afw4x⟩ : ∃ F, F = (own_set fw3 3 (own_mt (fun _ => 0) fc (2 : Int32) (-1 : Int32))) ∧ own_IA Z h338 o245 .int 8 F := ⟨_, rfl, A338⟩
  have hv347 : fw4 1 = (-1 : Int32) := by rw [efw4, own_set_other _ _ (by decide)]; exact hv326
  have hv348 : fw4 2 = (-1 : Int32) := by rw [efw4, own_set_other _ _ (by decide)]; exact hv327
  have hv349 : fw4 7 = (-1 : Int32) := by rw [efw4, own_set_other _ _ (by decide)]; exact hv329
  have hv350 : fw4 4 = (0 : Int32) := by rw [efw4, own_set_other _ _ (by decide)]; exact hv330
  have hv351 : fw4 5 = (1 : Int32) := by rw [efw4, own_set_other _ _ (by decide)]; exact hv331
  have hv352 : fw4 6 = (2 : Int32) := by rw [efw4, own_set_other _ _ (by decide)]; exact hv332
  have hv353 : fw4 3 = (2 : Int32) := by rw [efw4, own_set_same]; rfl
  refine own_g (mkF m 123 #[.val (.ref a1), .val (.ref cb), .val (.int ((3 : Int32) + (-1 : Int32)))] []) (fun _ kz => XS.iinc X338.here hx rfl (hb hby od_29_1_120) rfl (l' := #[.val (.ref a1), .val (.ref cb), .val (.int ((3 : Int32) + (-1 : Int32)))]) rfl kz) ?_
  rw [show ((3 : Int32) + (-1 : Int32)) = (2 : Int32) from by decide]
  show own_E p e below _ (T338.setTop (mkF m 123 #[.val (.ref a1), .val (.ref cb), .val (.int (2 : Int32))] []))
  refine own_g (mkF m 87 #[.val (.ref a1), .val (.ref cb), .val (.int (2 : Int32))] []) (fun _ kz => XS.goto X338.here hx rfl (pc0 := 123) (pc' := 87) rfl (hb hby od_29_1_123) (by decide) (by decide) kz) ?_
  refine own_g (mkF m 88 #[.val (.ref a1), .val (.ref cb), .val (.int (2 : Int32))] [(.int (2 : Int32))]) (fun _ kz => XS.iloadN X338.here hx rfl (hb hby od_29_1_87) rfl kz) ?_
  refine own_g (mkF m 89 #[.val (.ref a1), .val (.ref cb), .val (.int (2 : Int32))] [(.int (1 : Int32)), (.int (2 : Int32))]) (fun _ kz => XS.iconst X338.here hx rfl (hb hby od_29_1_88) kz) ?_
  refine own_g (mkF m 92 #[.val (.ref a1), .val (.ref cb), .val (.int (2 : Int32))] []) (fun _ kz => XS.icmpNo X338.here hx rfl (hb hby od_29_1_89) rfl (flt (by decide)).1 kz) ?_
  refine own_g (mkF m 93 #[.val (.ref a1), .val (.ref cb), .val (.int (2 : Int32))] [(.ref a1)]) (fun _ kz => XS.aloadN X338.here hx rfl (hb hby od_29_1_92) rfl rfl kz) ?_
  obtain ⟨T354, X354, e354, st354⟩ := getF X338 hx hZ hown (host := "") (Or.inl (own_w hw 30 rfl)) Via.refl e338 f344 (g := (mkF m 93 #[.val (.ref a1), .val (.ref cb), .val (.int (2 : Int32))] [(.ref a1)])) rfl rfl (hb hby od_29_1_93)
  refine own_s st354 ?_
  show own_E p e below _ (T354.setTop (mkF m 96 #[.val (.ref a1), .val (.ref cb), .val (.int (2 : Int32))] [(.ref o245)]))
  refine own_g (mkF m 97 #[.val (.ref a1), .val (.ref cb), .val (.int (2 : Int32))] [(.int (2 : Int32)), (.ref o245)]) (fun _ kz => XS.iloadN X354.here hx rfl (hb hby od_29_1_96) rfl kz) ?_
  refine own_g (mkF m 98 #[.val (.ref a1), .val (.ref cb), .val (.int (2 : Int32))] [(.ref a1), (.int (2 : Int32)), (.ref o245)]) (fun _ kz => XS.aloadN X354.here hx rfl (hb hby od_29_1_97) rfl rfl kz) ?_
  refine own_g (mkF m 99 #[.val (.ref a1), .val (.ref cb), .val (.int (2 : Int32))] [(.ref a1), (.ref a1), (.int (2 : Int32)), (.ref o245)]) (fun _ kz => XS.aloadN X354.here hx rfl (hb hby od_29_1_98) rfl rfl kz) ?_
  obtain ⟨T355, X355, e355, st355⟩ := getF X354 hx hZ hown (host := "") (Or.inl (own_w hw 30 rfl)) Via.refl e354 f344 (g := (mkF m 99 #[.val (.ref a1), .val (.ref cb), .val (.int (2 : Int32))] [(.ref a1), (.ref a1), (.int (2 : Int32)), (.ref o245)])) rfl rfl (hb hby od_29_1_99)
  refine own_s st355 ?_
  show own_E p e below _ (T355.setTop (mkF m 102 #[.val (.ref a1), .val (.ref cb), .val (.int (2 : Int32))] [(.ref o245), (.ref a1), (.int (2 : Int32)), (.ref o245)]))
  refine own_g (mkF m 103 #[.val (.ref a1), .val (.ref cb), .val (.int (2 : Int32))] [(.int (2 : Int32)), (.ref o245), (.ref a1), (.int (2 : Int32)), (.ref o245)]) (fun _ kz => XS.iconst X355.here hx rfl (hb hby od_29_1_102) kz) ?_
  refine own_g (mkF m 104 #[.val (.ref a1), .val (.ref cb), .val (.int (2 : Int32))] [(.int (2 : Int32)), (.int (2 : Int32)), (.ref o245), (.ref a1), (.int (2 : Int32)), (.ref o245)]) (fun _ kz => XS.iloadN X355.here hx rfl (hb hby od_29_1_103) rfl kz) ?_
  refine own_g (mkF m 105 #[.val (.ref a1), .val (.ref cb), .val (.int (2 : Int32))] [(.int ((2 : Int32) * (2 : Int32))), (.ref o245), (.ref a1), (.int (2 : Int32)), (.ref o245)]) (fun _ kz => XS.imul X355.here hx rfl (hb hby od_29_1_104) rfl kz) ?_
  rw [show ((2 : Int32) * (2 : Int32)) = (4 : Int32) from by decide]
  show own_E p e below _ (T355.setTop (mkF m 105 #[.val (.ref a1), .val (.ref cb), .val (.int (2 : Int32))] [(.int (4 : Int32)), (.ref o245), (.ref a1), (.int (2 : Int32)), (.ref o245)]))
  refine own_ildI X355 hx hZ e355 Afw4x (hb hby od_29_1_105) (by decide) (i := 4) rfl (by decide) (x := (0 : Int32)) hv350 ?_
  show own_E p e below _ (T355.setTop (mkF m 106 #[.val (.ref a1), .val (.ref cb), .val (.int (2 : Int32))] [(.int (0 : Int32)), (.ref a1), (.int (2 : Int32)), (.ref o245)]))
  refine own_g (mkF m 107 #[.val (.ref a1), .val (.ref cb), .val (.int (2 : Int32))] [(.ref a1), (.int (0 : Int32)), (.ref a1), (.int (2 : Int32)), (.ref o245)]) (fun _ kz => XS.aloadN X355.here hx rfl (hb hby od_29_1_106) rfl rfl kz) ?_
  obtain ⟨T356, X356, e356, st356⟩ := getF X355 hx hZ hown (host := "") (Or.inl (own_w hw 30 rfl)) Via.refl e355 f344 (g := (mkF m 107 #[.val (.ref a1), .val (.ref cb), .val (.int (2 : Int32))] [(.ref a1), (.int (0 : Int32)), (.ref a1), (.int (2 : Int32)), (.ref o245)])) rfl rfl (hb hby od_29_1_107)
  refine own_s st356 ?_
  show own_E p e below _ (T356.setTop (mkF m 110 #[.val (.ref a1), .val (.ref cb), .val (.int (2 : Int32))] [(.ref o245), (.int (0 : Int32)), (.ref a1), (.int (2 : Int32)), (.ref o245)]))
  refine own_g (mkF m 111 #[.val (.ref a1), .val (.ref cb), .val (.int (2 : Int32))] [(.int (2 : Int32)), (.ref o245), (.int (0 : Int32)), (.ref a1), (.int (2 : Int32)), (.ref o245)]) (fun _ kz => XS.iconst X356.here hx rfl (hb hby od_29_1_110) kz) ?_
  refine own_g (mkF m 112 #[.val (.ref a1), .val (.ref cb), .val (.int (2 : Int32))] [(.int (2 : Int32)), (.int (2 : Int32)), (.ref o245), (.int (0 : Int32)), (.ref a1), (.int (2 : Int32)), (.ref o245)]) (fun _ kz => XS.iloadN X356.here hx rfl (hb hby od_29_1_111) rfl kz) ?_
  refine own_g (mkF m 113 #[.val (.ref a1), .val (.ref cb), .val (.int (2 : Int32))] [(.int ((2 : Int32) * (2 : Int32))), (.ref o245), (.int (0 : Int32)), (.ref a1), (.int (2 : Int32)), (.ref o245)]) (fun _ kz => XS.imul X356.here hx rfl (hb hby od_29_1_112) rfl kz) ?_
  rw [show ((2 : Int32) * (2 : Int32)) = (4 : Int32) from by decide]
  show own_E p e below _ (T356.setTop (mkF m 113 #[.val (.ref a1), .val (.ref cb), .val (.int (2 : Int32))] [(.int (4 : Int32)), (.ref o245), (.int (0 : Int32)), (.ref a1), (.int (2 : Int32)), (.ref o245)]))
  refine own_g (mkF m 114 #[.val (.ref a1), .val (.ref cb), .val (.int (2 : Int32))] [(.int (1 : Int32)), (.int (4 : Int32)), (.ref o245), (.int (0 : Int32)), (.ref a1), (.int (2 : Int32)), (.ref o245)]) (fun _ kz => XS.iconst X356.here hx rfl (hb hby od_29_1_113) kz) ?_
  refine own_g (mkF m 115 #[.val (.ref a1), .val (.ref cb), .val (.int (2 : Int32))] [(.int ((4 : Int32) + (1 : Int32))), (.ref o245), (.int (0 : Int32)), (.ref a1), (.int (2 : Int32)), (.ref o245)]) (fun _ kz => XS.iadd X356.here hx rfl (hb hby od_29_1_114) rfl kz) ?_
  rw [show ((4 : Int32) + (1 : Int32)) = (5 : Int32) from by decide]
  show own_E p e below _ (T356.setTop (mkF m 115 #[.val (.ref a1), .val (.ref cb), .val (.int (2 : Int32))] [(.int (5 : Int32)), (.ref o245), (.int (0 : Int32)), (.ref a1), (.int (2 : Int32)), (.ref o245)]))
  refine own_ildI X356 hx hZ e356 Afw4x (hb hby od_29_1_115) (by decide) (i := 5) rfl (by decide) (x := (1 : Int32)) hv351 ?_
  show own_E p e below _ (T356.setTop (mkF m 116 #[.val (.ref a1), .val (.ref cb), .val (.int (2 : Int32))] [(.int (1 : Int32)), (.int (0 : Int32)), (.ref a1), (.int (2 : Int32)), (.ref o245)]))
  refine own_callP (rest := [(.int (2 : Int32)), (.ref o245)]) (a := a1) (as := [(.int (0 : Int32)), (.int (1 : Int32))]) X356 hx hZ hown e356 (own_c_mat l Z a0 hw a1 cb o224 o245 fc (fun _ => 0) fw4 (0 : Int32) (1 : Int32) h338 n0 s339 (Or.inr (Or.inl rfl)) (Or.inr (Or.inr (Or.inl rfl))) ⟨f340, f341, f342, f343, f344, f345, f346, Afw4x, gc, b227, b249, nac, (Nat.ne_of_lt lt225), (Nat.ne_of_lt lt246), (Nat.ne_of_lt lt226), (Nat.ne_of_lt lt247), (Nat.ne_of_lt lt248)⟩) f340 (own_w hw 36 rfl) (own_w hw 2 rfl) (own_w hw 38 rfl) (own_w hw 37 rfl) (own_w hw 3 rfl) (own_w hw 39 rfl) (by decide) own_pd1 rfl (by rw [hml]; rfl) rfl (hb hby od_29_1_116) 2 (by show 2 * 0 + _ ≤ _; exact Nat.le_of_eq rfl) (by decide) (by decide) (by decide) (by decide) ?_
  rintro _ T357 L357 X357 ⟨rfl, rfl, e357⟩
  have N357 := Fr.app N338 (Fr.nil n0)
  show own_E p e below _ (T357.setTop (mkF m 119 #[.val (.ref a1), .val (.ref cb), .val (.int (2 : Int32))] [(.int (own_mt (fun _ => 0) fc (0 : Int32) (1 : Int32))), (.int (2 : Int32)), (.ref o245)]))
  refine own_stI X357 hx hZ e357 Afw4x (hb hby od_29_1_119) (by decide) (i := 2) rfl (by decide) ?_
  intro T358 h358 X358 e358 W358 A358
  have N358 := Fr.snoc X358 N357 b249
  have s359 : n0 ≤ h358.size := Nat.le_trans s339 (Keep.of_wr W358).1
  have f360 := Exa.wr W358 f340
  have f361 := Fld.other W358 f341 (Or.inl (Nat.ne_of_lt lt246))
  have f362 := Fld.other W358 f342 (Or.inl (Nat.ne_of_lt lt246))
  have f363 := Fld.other W358 f343 (Or.inl (Nat.ne_of_lt lt246))
  have f364 := Fld.other W358 f344 (Or.inl (Nat.ne_of_lt lt246))
  have f365 := f345.other W358 (Nat.ne_of_lt lt247)
  have f366 := f346.other W358 (Nat.ne_of_lt lt248)
  show own_E p e below _ (T358.setTop (mkF m 120 #[.val (.ref a1), .val (.ref cb), .val (.int (2 : Int32))] []))
  obtain ⟨fw5, efw5, Afw5x⟩ : ∃ F, F = (own_set fw4 2 (own_mt (fun _ => 0) fc (0 : Int32) (1 : Int32))) ∧ own_IA Z h358 o245 .int 8 F := ⟨_, rfl, A358⟩
  have hv367 : fw5 1 = (-1 : Int32) := by rw [efw5, own_set_other _ _ (by decide)]; exact hv347
  have hv368 : fw5 7 = (-1 : Int32) := by rw [efw5, own_set_other _ _ (by decide)]; exact hv349
  have hv369 : fw5 4 = (0 : Int32) := by rw [efw5, own_set_other _ _ (by decide)]; exact hv350
  have hv370 : fw5 5 = (1 : Int32) := by rw [efw5, own_set_other _ _ (by decide)]; exact hv351
  have hv371 : fw5 6 = (2 : Int32) := by rw [efw5, own_set_other _ _ (by decide)]; exact hv352
  have hv372 : fw5 3 = (2 : Int32) := by rw [efw5, own_set_other _ _ (by decide)]; exact hv353
  have hv373 : fw5 2 = (own_mt (fun _ => 0) fc (0 : Int32) (1 : Int32)) := by rw [efw5, own_set_same]
  refine own_g (mkF m 123 #[.val (.ref a1), .val (.ref cb), .val (.int ((2 : Int32) + (-1 : Int32)))] []) (fun _ kz => XS.iinc X358.here hx rfl (hb hby od_29_1_120) rfl (l' := #[.val (.ref a1), .val (.ref cb), .val (.int ((2 : Int32) + (-1 : Int32)))]) rfl kz) ?_
  rw [show ((2 : Int32) + (-1 : Int32)) = (1 : Int32) from by decide]
  show own_E p e below _ (T358.setTop (mkF m 123 #[.val (.ref a1), .val (.ref cb), .val (.int (1 : Int32))] []))
  refine own_g (mkF m 87 #[.val (.ref a1), .val (.ref cb), .val (.int (1 : Int32))] []) (fun _ kz => XS.goto X358.here hx rfl (pc0 := 123) (pc' := 87) rfl (hb hby od_29_1_123) (by decide) (by decide) kz) ?_
  refine own_g (mkF m 88 #[.val (.ref a1), .val (.ref cb), .val (.int (1 : Int32))] [(.int (1 : Int32))]) (fun _ kz => XS.iloadN X358.here hx rfl (hb hby od_29_1_87) rfl kz) ?_
  refine own_g (mkF m 89 #[.val (.ref a1), .val (.ref cb), .val (.int (1 : Int32))] [(.int (1 : Int32)), (.int (1 : Int32))]) (fun _ kz => XS.iconst X358.here hx rfl (hb hby od_29_1_88) kz) ?_
  refine own_g (mkF m 92 #[.val (.ref a1), .val (.ref cb), .val (.int (1 : Int32))] []) (fun _ kz => XS.icmpNo X358.here hx rfl (hb hby od_29_1_89) rfl (flt (by decide)).1 kz) ?_
  refine own_g (mkF m 93 #[.val (.ref a1), .val (.ref cb), .val (.int (1 : Int32))] [(.ref a1)]) (fun _ kz => XS.aloadN X358.here hx rfl (hb hby od_29_1_92) rfl rfl kz) ?_
  obtain ⟨T374, X374, e374, st374⟩ := getF X358 hx hZ hown (host := "") (Or.inl (own_w hw 30 rfl)) Via.refl e358 f364 (g := (mkF m 93 #[.val (.ref a1), .val (.ref cb), .val (.int (1 : Int32))] [(.ref a1)])) rfl rfl (hb hby od_29_1_93)
  refine own_s st374 ?_
  show own_E p e below _ (T374.setTop (mkF m 96 #[.val (.ref a1), .val (.ref cb), .val (.int (1 : Int32))] [(.ref o245)]))
  refine own_g (mkF m 97 #[.val (.ref a1), .val (.ref cb), .val (.int (1 : Int32))] [(.int (1 : Int32)), (.ref o245)]) (fun _ kz => XS.iloadN X374.here hx rfl (hb hby od_29_1_96) rfl kz) ?_
  refine own_g (mkF m 98 #[.val (.ref a1), .val (.ref cb), .val (.int (1 : Int32))] [(.ref a1), (.int (1 : Int32)), (.ref o245)]) (fun _ kz => XS.aloadN X374.here hx rfl (hb hby od_29_1_97) rfl rfl kz) ?_
  refine own_g (mkF m 99 #[.val (.ref a1), .val (.ref cb), .val (.int (1 : Int32))] [(.ref a1), (.ref a1), (.int (1 : Int32)), (.ref o245)]) (fun _ kz => XS.aloadN X374.here hx rfl (hb hby od_29_1_98) rfl rfl kz) ?_
  obtain ⟨T375, X375, e375, st375⟩ := getF X374 hx hZ hown (host := "") (Or.inl (own_w hw 30 rfl)) Via.refl e374 f364 (g := (mkF m 99 #[.val (.ref a1), .val (.ref cb), .val (.int (1 : Int32))] [(.ref a1), (.ref a1), (.int (1 : Int32)), (.ref o245)])) rfl rfl (hb hby od_29_1_99)
  refine own_s st375 ?_
  show own_E p e below _ (T375.setTop (mkF m 102 #[.val (.ref a1), .val (.ref cb), .val (.int (1 : Int32))] [(.ref o245), (.ref a1), (.int (1 : Int32)), (.ref o245)]))
  refine own_g (mkF m 103 #[.val (.ref a1), .val (.ref cb), .val (.int (1 : Int32))] [(.int (2 : Int32)), (.ref o245), (.ref a1), (.int (1 : Int32)), (.ref o245)]) (fun _ kz => XS.iconst X375.here hx rfl (hb hby od_29_1_102) kz) ?_
  refine own_g (mkF m 104 #[.val (.ref a1), .val (.ref cb), .val (.int (1 : Int32))] [(.int (1 : Int32)), (.int (2 : Int32)), (.ref o245), (.ref a1), (.int (1 : Int32)), (.ref o245)]) (fun _ kz => XS.iloadN X375.here hx rfl (hb hby od_29_1_103) rfl kz) ?_
  refine own_g (mkF m 105 #[.val (.ref a1), .val (.ref cb), .val (.int (1 : Int32))] [(.int ((2 : Int32) * (1 : Int32))), (.ref o245), (.ref a1), (.int (1 : Int32)), (.ref o245)]) (fun _ kz => XS.imul X375.here hx rfl (hb hby od_29_1_104) rfl kz) ?_
  rw [show ((2 : Int32) * (1 : Int32)) = (2 : Int32) from by decide]
  show own_E p e below _ (T375.setTop (mkF m 105 #[.val (.ref a1), .val (.ref cb), .val (.int (1 : Int32))] [(.int (2 : Int32)), (.ref o245), (.ref a1), (.int (1 : Int32)), (.ref o245)]))
  refine own_ildI X375 hx hZ e375 Afw5x (hb hby od_29_1_105) (by decide) (i := 2) rfl (by decide) (x := (own_mt (fun _ => 0) fc (0 : Int32) (1 : Int32))) hv373 ?_
  show own_E p e below _ (T375.setTop (mkF m 106 #[.val (.ref a1), .val (.ref cb), .val (.int (1 : Int32))] [(.int (own_mt (fun _ => 0) fc (0 : Int32) (1 : Int32))), (.ref a1), (.int (1 : Int32)), (.ref o245)]))
  refine own_g (mkF m 107 #[.val (.ref a1), .val (.ref cb), .val (.int (1 : Int32))] [(.ref a1), (.int (own_mt (fun _ => 0) fc (0 : Int32) (1 : Int32))), (.ref a1), (.int (1 : Int32)), (.ref o245)]) (fun _ kz => XS.aloadN X375.here hx rfl (hb hby od_29_1_106) rfl rfl kz) ?_
  obtain ⟨T376, X376, e376, st376⟩ := getF X375 hx hZ hown (host := "") (Or.inl (own_w hw 30 rfl)) Via.refl e375 f364 (g := (mkF m 107 #[.val (.ref a1), .val (.ref cb), .val (.int (1 : Int32))] [(.ref a1), (.int (own_mt (fun _ => 0) fc (0 : Int32) (1 : Int32))), (.ref a1), (.int (1 : Int32)), (.ref o245)])) rfl rfl (hb hby od_29_1_107)
  refine own_s st376 ?_
  show own_E p e below _ (T376.setTop (mkF m 110 #[.val (.ref a1), .val (.ref cb), .val (.int (1 : Int32))] [(.ref o245), (.int (own_mt (fun _ => 0) fc (0 : Int32) (1 : Int32))), (.ref a1), (.int (1 : Int32)), (.ref o245)]))
  refine own_g (mkF m 111 #[.val (.ref a1), .val (.ref cb), .val (.int (1 : Int32))] [(.int (2 : Int32)), (.ref o245), (.int (own_mt (fun _ => 0) fc (0 : Int32) (1 : Int32))), (.ref a1), (.int (1 : Int32)), (.ref o245)]) (fun _ kz => XS.iconst X376.here hx rfl (hb hby od_29_1_110) kz) ?_
  refine own_g (mkF m 112 #[.val (.ref a1), .val (.ref cb), .val (.int (1 : Int32))] [(.int (1 : Int32)), (.int (2 : Int32)), (.ref o245), (.int (own_mt (fun _ => 0) fc (0 : Int32) (1 : Int32))), (.ref a1), (.int (1 : Int32)), (.ref o245)]) (fun _ kz => XS.iloadN X376.here hx rfl (hb hby od_29_1_111) rfl kz) ?_
  refine own_g (mkF m 113 #[.val (.ref a1), .val (.ref cb), .val (.int (1 : Int32))] [(.int ((2 : Int32) * (1 : Int32))), (.ref o245), (.int (own_mt (fun _ => 0) fc (0 : Int32) (1 : Int32))), (.ref a1), (.int (1 : Int32)), (.ref o245)]) (fun _ kz => XS.imul X376.here hx rfl (hb hby od_29_1_112) rfl kz) ?_
  rw [show ((2 : Int32) * (1 : Int32)) = (2 : Int32) from by decide]
  show own_E p e below _ (T376.setTop (mkF m 113 #[.val (.ref a1), .val (.ref cb), .val (.int (1 : Int32))] [(.int (2 : Int32)), (.ref o245), (.int (own_mt (fun _ => 0) fc (0 : Int32) (1 : Int32))), (.ref a1), (.int (1 : Int32)), (.ref o245)]))
  refine own_g (mkF m 114 #[.val (.ref a1), .val (.ref cb), .val (.int (1 : Int32))] [(.int (1 : Int32)), (.int (2 : Int32)), (.ref o245), (.int (own_mt (fun _ => 0) fc (0 : Int32) (1 : Int32))), (.ref a1), (.int (1 : Int32)), (.ref o245)]) (fun _ kz => XS.iconst X376.here hx rfl (hb hby od_29_1_113) kz) ?_
  refine own_g (mkF m 115 #[.val (.ref a1), .val (.ref cb), .val (.int (1 : Int32))] [(.int ((2 : Int32) + (1 : Int32))), (.ref o245), (.int (own_mt (fun _ => 0) fc (0 : Int32) (1 : Int32))), (.ref a1), (.int (1 : Int32)), (.ref o245)]) (fun _ kz => XS.iadd X376.here hx rfl (hb hby od_29_1_114) rfl kz) ?_
  rw [show ((2 : Int32) + (1 : Int32)) = (3 : Int32) from by decide]
  show own_E p e below _ (T376.setTop (mkF m 115 #[.val (.ref a1), .val (.ref cb), .val (.int (1 : Int32))] [(.int (3 : Int32)), (.ref o245), (.int (own_mt (fun _ => 0) fc (0 : Int32) (1 : Int32))), (.ref a1), (.int (1 : Int32)), (.ref o245)]))
  refine own_ildI X376 hx hZ e376 Afw5x (hb hby od_29_1_115) (by decide) (i := 3) rfl (by decide) (x := (2 : Int32)) hv372 ?_
  show own_E p e below _ (T376.setTop (mkF m 116 #[.val (.ref a1), .val (.ref cb), .val (.int (1 : Int32))] [(.int (2 : Int32)), (.int (own_mt (fun _ => 0) fc (0 : Int32) (1 : Int32))), (.ref a1), (.int (1 : Int32)), (.ref o245)]))
  refine own_callP (rest := [(.int (1 : Int32)), (.ref o245)]) (a := a1) (as := [(.int (own_mt (fun _ => 0) fc (0 : Int32) (1 : Int32))), (.int (2 : Int32))]) X376 hx hZ hown e376 (own_c_mat l Z a0 hw a1 cb o224 o245 fc (fun _ => 0) fw5 (own_mt (fun _ => 0) fc (0 : Int32) (1 : Int32)) (2 : Int32) h358 n0 s359 (own_mt_dom (Or.inr (Or.inl rfl)) (Or.inr (Or.inr (Or.inl rfl)))) (Or.inr (Or.inr (Or.inr rfl))) ⟨f360, f361, f362, f363, f364, f365, f366, Afw5x, gc, b227, b249, nac, (Nat.ne_of_lt lt225), (Nat.ne_of_lt lt246), (Nat.ne_of_lt lt226), (Nat.ne_of_lt lt247), (Nat.ne_of_lt lt248)⟩) f360 (own_w hw 36 rfl) (own_w hw 2 rfl) (own_w hw 38 rfl) (own_w hw 37 rfl) (own_w hw 3 rfl) (own_w hw 39 rfl) (by decide) own_pd1 rfl (by rw [hml]; rfl) rfl (hb hby od_29_1_116) 2 (by show 2 * 0 + _ ≤ _; exact Nat.le_of_eq rfl) (by decide) (by decide) (by decide) (by decide) ?_
  rintro _ T377 L377 X377 ⟨rfl, rfl, e377⟩
  have N377 := Fr.app N358 (Fr.nil n0)
  show own_E p e below _ (T377.setTop (mkF m 119 #[.val (.ref a1), .val (.ref cb), .val (.int (1 : Int32))] [(.int (own_mt (fun _ => 0) fc (own_mt (fun _ => 0) fc (0 : Int32) (1 : Int32)) (2 : Int32))), (.int (1 : Int32)), (.ref o245)]))
  refine own_stI X377 hx hZ e377 Afw5x (hb hby od_29_1_119) (by decide) (i := 1) rfl (by decide) ?_
  intro T378 h378 X378 e378 W378 A378
  have N378 := Fr.snoc X378 N377 b249
  have s379 : n0 ≤ h378.size := Nat.le_trans s359 (Keep.of_wr W378).1
  have f380 := Exa.wr W378 f360
  have f381 := Fld.other W378 f361 (Or.inl (Nat.ne_of_lt lt246))
  have f382 := Fld.other W378 f362 (Or.inl (Nat.ne_of_lt lt246))
  have f383 := Fld.other W378 f363 (Or.inl (Nat.ne_of_lt lt246))
  have f384 := Fld.other W378 f364 (Or.inl (Nat.ne_of_lt lt246))
  have f385 := f365.other W378 (Nat.ne_of_lt lt247)
  have f386 := f366.other W378 (Nat.ne_of_lt lt248)
  show own_E p e below _ (T378.setTop (mkF m 120 #[.val (.ref a1), .val (.ref cb), .val (.int (1 : Int32))] []))
  obtain ⟨fw6, efw6, Afw6x⟩ : ∃ F, F = (own_set fw5 1 (own_mt (fun _ => 0) fc (own_mt (fun _ => 0) fc (0 : Int32) (1 : Int32)) (2 : Int32))) ∧ own_IA Z h378 o245 .int 8 F := ⟨_, rfl, A378⟩
  have hv387 : fw6 7 = (-1 : Int32) := by rw [efw6, own_set_other _ _ (by decide)]; exact hv368
  have hv388 : fw6 4 = (0 : Int32) := by rw [efw6, own_set_other _ _ (by decide)]; exact hv369
  have hv389 : fw6 5 = (1 : Int32) := by rw [efw6, own_set_other _ _ (by decide)]; exact hv370
  have hv390 : fw6 6 = (2 : Int32) := by rw [efw6, own_set_other _ _ (by decide)]; exact hv371
  have hv391 : fw6 3 = (2 : Int32) := by rw [efw6, own_set_other _ _ (by decide)]; exact hv372
  have hv392 : fw6 2 = (own_mt (fun _ => 0) fc (0 : Int32) (1 : Int32)) := by rw [efw6, own_set_other _ _ (by decide)]; exact hv373
  have hv393 : fw6 1 = (own_mt (fun _ => 0) fc (own_mt (fun _ => 0) fc (0 : Int32) (1 : Int32)) (2 : Int32)) := by rw [efw6, own_set_same]
  refine own_g (mkF m 123 #[.val (.ref a1), .val (.ref cb), .val (.int ((1 : Int32) + (-1 : Int32)))] []) (fun _ kz => XS.iinc X378.here hx rfl (hb hby od_29_1_120) rfl (l' := #[.val (.ref a1), .val (.ref cb), .val (.int ((1 : Int32) + (-1 : Int32)))]) rfl kz) ?_
  rw [show ((1 : Int32) + (-1 : Int32)) = (0 : Int32) from by decide]
  show own_E p e below _ (T378.setTop (mkF m 123 #[.val (.ref a1), .val (.ref cb), .val (.int (0 : Int32))] []))
  refine own_g (mkF m 87 #[.val (.ref a1), .val (.ref cb), .val (.int (0 : Int32))] []) (fun _ kz => XS.goto X378.here hx rfl (pc0 := 123) (pc' := 87) rfl (hb hby od_29_1_123) (by decide) (by decide) kz) ?_
  refine own_g (mkF m 88 #[.val (.ref a1), .val (.ref cb), .val (.int (0 : Int32))] [(.int (0 : Int32))]) (fun _ kz => XS.iloadN X378.here hx rfl (hb hby od_29_1_87) rfl kz) ?_
  refine own_g (mkF m 89 #[.val (.ref a1), .val (.ref cb), .val (.int (0 : Int32))] [(.int (1 : Int32)), (.int (0 : Int32))]) (fun _ kz => XS.iconst X378.here hx rfl (hb hby od_29_1_88) kz) ?_
  refine own_g (mkF m 126 #[.val (.ref a1), .val (.ref cb), .val (.int (0 : Int32))] []) (fun _ kz => XS.icmpYes X378.here hx rfl (pc0 := 89) (pc' := 126) rfl (hb hby od_29_1_89) rfl (tlt (by decide)).1 (by decide) (by decide) kz) ?_
  exact own_retV X378 hx hret hlk (hb hby od_29_1_126) (by decide) (by decide) (by first | exact ⟨rfl, N378, s379, o224, o245, fw6, ⟨hv388, hv389, hv390, hv387, hv391, hv392, hv393⟩, ⟨f380, f381, f382, f383, f384, f385, f386, Afw6x, gc, b227, b249, nac, (Nat.ne_of_lt lt225), (Nat.ne_of_lt lt246), (Nat.ne_of_lt lt226), (Nat.ne_of_lt lt247), (Nat.ne_of_lt lt248)⟩⟩ | (rw [e378]; exact ⟨rfl, N378, s379, o224, o245, fw6, ⟨hv388, hv389, hv390, hv387, hv391, hv392, hv393⟩, ⟨f380, f381, f382, f383, f384, f385, f386, Afw6x, gc, b227, b249, nac, (Nat.ne_of_lt lt225), (Nat.ne_of_lt lt246), (Nat.ne_of_lt lt226), (Nat.ne_of_lt lt247), (Nat.ne_of_lt lt248)⟩⟩))
theorem own_pn3 : plainName "com/example/horncast/horncast/query/LeastCountLeastPinLaw" = true := by first | (simp [plainName, overriddenIn]; done) | decide +kernel
theorem own_pd4 : parseMethodDescriptor "([I)V" = some ⟨[(.array .int)], none⟩ := by decide +kernel
theorem own_pd5 : parseMethodDescriptor "(IZ)V" = some ⟨[.int, .boolean], none⟩ := by decide +kernel
theorem own_pd6 : parseMethodDescriptor "()I" = some ⟨[], some .int⟩ := by decide +kernel
theorem own_pd7 : parseMethodDescriptor "(II)V" = some ⟨[.int, .int], none⟩ := by decide +kernel
set_option maxRecDepth 65536 in
set_option maxHeartbeats 40000000 in
theorem own_c_law (l : Launch) (Z : State) (a0 : Array Value) (hw : ∀ d ∈ tables_1, d.before a0 Z = true) (x0 : Int32) (x1 : Int32) (x2 : Int32) (x3 : Int32) (x4 : Int32) (h0 : Heap) (n0 : Nat) (Z0 : n0 ≤ h0.size) :
    own_Con l Z x code maxLocals ret tables_1 room_1 #[(.int x0), (.int x1), (.int x2), (.int x3), (.int x4)] h0 (fun v h L => v = some (.int 1) ∧ Fr n0 L) := by
  refine own_enter (plainFor_of_name own_pn3) ?_
  intro p e s m below meth c s₁ X0 e0 hx hZ hby hml hown hnm hret hlk
  refine own_cast (g' := (mkF m 0 #[.val (.int x0), .val (.int x1), .val (.int x2), .val (.int x3), .val (.int x4), .unset, .unset, .unset, .unset, .unset, .unset, .unset, .unset, .unset, .unset, .unset, .unset] [])) (by first | (simp [entryFrame, mkF, argsToLocals, Value.category, maxLocals]; done) | rfl) ?_
  have N0 := Fr.nil n0
  refine own_g (mkF m 1 #[.val (.int x0), .val (.int x1), .val (.int x2), .val (.int x3), .val (.int x4), .unset, .unset, .unset, .unset, .unset, .unset, .unset, .unset, .unset, .unset, .unset, .unset] [(.int (3 : Int32))]) (fun _ kz => XS.iconst X0.here hx rfl (hb hby at_0) kz) ?_
  refine own_newI X0 hx hZ e0 (own_w hw 0 rfl) rfl (hb hby at_1) (by decide) (n := 3) rfl 3 (by decide) (by decide) (by decide) (by decide) ?_
  intro T394 h394 o394 g394 X394 e394 E394 A394
  have b395 : n0 ≤ o394 := Nat.le_trans Z0 (Nat.le_of_eq g394.symm)
  have s396 : n0 ≤ h394.size := Nat.le_trans Z0 E394.1
  show own_E p e below _ (T394.setTop (mkF m 3 #[.val (.int x0), .val (.int x1), .val (.int x2), .val (.int x3), .val (.int x4), .unset, .unset, .unset, .unset, .unset, .unset, .unset, .unset, .unset, .unset, .unset, .unset] [(.ref o394)]))
  refine own_g (mkF m 5 #[.val (.int x0), .val (.int x1), .val (.int x2), .val (.int x3), .val (.int x4), .val (.ref o394), .unset, .unset, .unset, .unset, .unset, .unset, .unset, .unset, .unset, .unset, .unset] []) (fun _ kz => XS.astore X394.here hx rfl (hb hby at_3) rfl rfl (l' := #[.val (.int x0), .val (.int x1), .val (.int x2), .val (.int x3), .val (.int x4), .val (.ref o394), .unset, .unset, .unset, .unset, .unset, .unset, .unset, .unset, .unset, .unset, .unset]) rfl kz) ?_
  refine own_g (mkF m 7 #[.val (.int x0), .val (.int x1), .val (.int x2), .val (.int x3), .val (.int x4), .val (.ref o394), .unset, .unset, .unset, .unset, .unset, .unset, .unset, .unset, .unset, .unset, .unset] [(.ref o394)]) (fun _ kz => XS.aload X394.here hx rfl (hb hby at_5) rfl rfl kz) ?_
  refine own_g (mkF m 8 #[.val (.int x0), .val (.int x1), .val (.int x2), .val (.int x3), .val (.int x4), .val (.ref o394), .unset, .unset, .unset, .unset, .unset, .unset, .unset, .unset, .unset, .unset, .unset] [(.int (0 : Int32)), (.ref o394)]) (fun _ kz => XS.iconst X394.here hx rfl (hb hby at_7) kz) ?_
  refine own_g (mkF m 9 #[.val (.int x0), .val (.int x1), .val (.int x2), .val (.int x3), .val (.int x4), .val (.ref o394), .unset, .unset, .unset, .unset, .unset, .unset, .unset, .unset, .unset, .unset, .unset] [(.int x0), (.int (0 : Int32)), (.ref o394)]) (fun _ kz => XS.iloadN X394.here hx rfl (hb hby at_8) rfl kz) ?_
  refine own_stI X394 hx hZ e394 A394 (hb hby at_9) (by decide) (i := 0) rfl (by decide) ?_
  intro T397 h397 X397 e397 W397 A397
  have N397 := Fr.snoc X397 N0 b395
  have s398 : n0 ≤ h397.size := Nat.le_trans s396 (Keep.of_wr W397).1
  show own_E p e below _ (T397.setTop (mkF m 10 #[.val (.int x0), .val (.int x1), .val (.int x2), .val (.int x3), .val (.int x4), .val (.ref o394), .unset, .unset, .unset, .unset, .unset, .unset, .unset, .unset, .unset, .unset, .unset] []))
  refine own_g (mkF m 12 #[.val (.int x0), .val (.int x1), .val (.int x2), .val (.int x3), .val (.int x4), .val (.ref o394), .unset, .unset, .unset, .unset, .unset, .unset, .unset, .unset, .unset, .unset, .unset] [(.ref o394)]) (fun _ kz => XS.aload X397.here hx rfl (hb hby at_10) rfl rfl kz) ?_
  refine own_g (mkF m 13 #[.val (.int x0), .val (.int x1), .val (.int x2), .val (.int x3), .val (.int x4), .val (.ref o394), .unset, .unset, .unset, .unset, .unset, .unset, .unset, .unset, .unset, .unset, .unset] [(.int (1 : Int32)), (.ref o394)]) (fun _ kz => XS.iconst X397.here hx rfl (hb hby at_12) kz) ?_
  refine own_g (mkF m 14 #[.val (.int x0), .val (.int x1), .val (.int x2), .val (.int x3), .val (.int x4), .val (.ref o394), .unset, .unset, .unset, .unset, .unset, .unset, .unset, .unset, .unset, .unset, .unset] [(.int x1), (.int (1 : Int32)), (.ref o394)]) (fun _ kz => XS.iloadN X397.here hx rfl (hb hby at_13) rfl kz) ?_
  refine own_stI X397 hx hZ e397 A397 (hb hby at_14) (by decide) (i := 1) rfl (by decide) ?_
  intro T399 h399 X399 e399 W399 A399
  have N399 := Fr.snoc X399 N397 b395
  have s400 : n0 ≤ h399.size := Nat.le_trans s398 (Keep.of_wr W399).1
  show own_E p e below _ (T399.setTop (mkF m 15 #[.val (.int x0), .val (.int x1), .val (.int x2), .val (.int x3), .val (.int x4), .val (.ref o394), .unset, .unset, .unset, .unset, .unset, .unset, .unset, .unset, .unset, .unset, .unset] []))
  refine own_g (mkF m 17 #[.val (.int x0), .val (.int x1), .val (.int x2), .val (.int x3), .val (.int x4), .val (.ref o394), .unset, .unset, .unset, .unset, .unset, .unset, .unset, .unset, .unset, .unset, .unset] [(.ref o394)]) (fun _ kz => XS.aload X399.here hx rfl (hb hby at_15) rfl rfl kz) ?_
  refine own_g (mkF m 18 #[.val (.int x0), .val (.int x1), .val (.int x2), .val (.int x3), .val (.int x4), .val (.ref o394), .unset, .unset, .unset, .unset, .unset, .unset, .unset, .unset, .unset, .unset, .unset] [(.int (2 : Int32)), (.ref o394)]) (fun _ kz => XS.iconst X399.here hx rfl (hb hby at_17) kz) ?_
  refine own_g (mkF m 19 #[.val (.int x0), .val (.int x1), .val (.int x2), .val (.int x3), .val (.int x4), .val (.ref o394), .unset, .unset, .unset, .unset, .unset, .unset, .unset, .unset, .unset, .unset, .unset] [(.int x2), (.int (2 : Int32)), (.ref o394)]) (fun _ kz => XS.iloadN X399.here hx rfl (hb hby at_18) rfl kz) ?_
  refine own_stI X399 hx hZ e399 A399 (hb hby at_19) (by decide) (i := 2) rfl (by decide) ?_
  intro T401 h401 X401 e401 W401 A401
  have N401 := Fr.snoc X401 N399 b395
  have s402 : n0 ≤ h401.size := Nat.le_trans s400 (Keep.of_wr W401).1
  show own_E p e below _ (T401.setTop (mkF m 20 #[.val (.int x0), .val (.int x1), .val (.int x2), .val (.int x3), .val (.int x4), .val (.ref o394), .unset, .unset, .unset, .unset, .unset, .unset, .unset, .unset, .unset, .unset, .unset] []))
  obtain ⟨T403, h403, X403, e403, E403, A403, D403, -, st403⟩ := newO X401 hx hZ hown (own_w hw 1 rfl) (own_w hw 2 rfl) (own_w hw 3 rfl) e401 (g := (mkF m 20 #[.val (.int x0), .val (.int x1), .val (.int x2), .val (.int x3), .val (.int x4), .val (.ref o394), .unset, .unset, .unset, .unset, .unset, .unset, .unset, .unset, .unset, .unset, .unset] [])) rfl (hb hby at_20) (by decide) (by decide)
  obtain ⟨o403, g403⟩ : ∃ z, z = h401.size := ⟨_, rfl⟩
  rw [← g403] at A403 D403 st403
  have lt404 : o394 < o403 := Nat.lt_of_lt_of_le A401.lt (Nat.le_of_eq g403.symm)
  have b405 : n0 ≤ o403 := Nat.le_trans s402 (Nat.le_of_eq g403.symm)
  have f406 := A401.ext E403
  have s407 : n0 ≤ h403.size := Nat.le_trans s402 E403.1
  have f408 : Fld Z h403 o403 "com/example/horncast/horncast/query/LeastCount" "firstLeaf" "I" (.int (0 : Int32)) := D403 (Or.inr (own_w hw 24 rfl)) (ty := .int) (by decide)
  have f409 : Fld Z h403 o403 "com/example/horncast/horncast/query/LeastCount" "count" "[I" .null := D403 (Or.inr (own_w hw 26 rfl)) (ty := (.array .int)) (by decide)
  have f410 : Fld Z h403 o403 "com/example/horncast/horncast/query/LeastCount" "out" "[Z" .null := D403 (Or.inr (own_w hw 29 rfl)) (ty := (.array .boolean)) (by decide)
  have f411 : Fld Z h403 o403 "com/example/horncast/horncast/query/LeastCount" "winner" "[I" .null := D403 (Or.inr (own_w hw 31 rfl)) (ty := (.array .int)) (by decide)
  refine own_s st403 ?_
  show own_E p e below _ (T403.setTop (mkF m 23 #[.val (.int x0), .val (.int x1), .val (.int x2), .val (.int x3), .val (.int x4), .val (.ref o394), .unset, .unset, .unset, .unset, .unset, .unset, .unset, .unset, .unset, .unset, .unset] [(.ref o403)]))
  refine own_g (mkF m 24 #[.val (.int x0), .val (.int x1), .val (.int x2), .val (.int x3), .val (.int x4), .val (.ref o394), .unset, .unset, .unset, .unset, .unset, .unset, .unset, .unset, .unset, .unset, .unset] [(.ref o403), (.ref o403)]) (fun _ kz => XS.dup X403.here hx rfl (hb hby at_23) rfl rfl kz) ?_
  refine own_g (mkF m 26 #[.val (.int x0), .val (.int x1), .val (.int x2), .val (.int x3), .val (.int x4), .val (.ref o394), .unset, .unset, .unset, .unset, .unset, .unset, .unset, .unset, .unset, .unset, .unset] [(.ref o394), (.ref o403), (.ref o403)]) (fun _ kz => XS.aload X403.here hx rfl (hb hby at_24) rfl rfl kz) ?_
  obtain ⟨fc0, hfc, Acx⟩ : ∃ F, F = (own_set (own_set (own_set (fun _ => (0 : Int32)) 0 x0) 1 x1) 2 x2) ∧ own_IA Z h403 o394 .int 3 F := ⟨_, rfl, f406⟩
  have hc0 : fc0 0 = x0 := by rw [hfc]; simp [own_set]
  have hc1 : fc0 1 = x1 := by rw [hfc]; simp [own_set]
  have hc2 : fc0 2 = x2 := by rw [hfc]; simp [own_set]
  refine own_callI (rest := [(.ref o403)]) (a := o403) (as := [(.ref o394)]) X403 hx hZ hown e403 (own_c_ini l Z a0 hw o403 o394 fc0 h403 n0 s407 b405 b395 (Ne.symm (Nat.ne_of_lt lt404)) A403 f408 f409 f410 f411 Acx) rfl (own_w hw 4 rfl) (own_w hw 5 rfl) (own_w hw 3 rfl) (own_w hw 6 rfl) (by decide) own_pd4 rfl (by rw [hml]; rfl) rfl (hb hby at_26) 1 (by show 2 * 0 + _ ≤ _; exact Nat.le_of_eq rfl) (by decide) (by decide) (by decide) (by decide) ?_
  rintro _ T412 L412 X412 ⟨rfl, Nq412, zz412, zb, wb, fw0, W0, S0⟩
  have N412 := Fr.app N401 Nq412
  show own_E p e below _ (T412.setTop (mkF m 29 #[.val (.int x0), .val (.int x1), .val (.int x2), .val (.int x3), .val (.int x4), .val (.ref o394), .unset, .unset, .unset, .unset, .unset, .unset, .unset, .unset, .unset, .unset, .unset] [(.ref o403)]))
  refine own_g (mkF m 31 #[.val (.int x0), .val (.int x1), .val (.int x2), .val (.int x3), .val (.int x4), .val (.ref o394), .val (.ref o403), .unset, .unset, .unset, .unset, .unset, .unset, .unset, .unset, .unset, .unset] []) (fun _ kz => XS.astore X412.here hx rfl (hb hby at_29) rfl rfl (l' := #[.val (.int x0), .val (.int x1), .val (.int x2), .val (.int x3), .val (.int x4), .val (.ref o394), .val (.ref o403), .unset, .unset, .unset, .unset, .unset, .unset, .unset, .unset, .unset, .unset]) rfl kz) ?_
  have rest : ∀ y0 y1 y2 : Int32, (y0 = 0 ∨ y0 = 1) → (y1 = 0 ∨ y1 = 1) → (y2 = 0 ∨ y2 = 1) → own_E p e below (own_P (fun v h L => v = some (.int 1) ∧ Fr n0 L) s room_1.cells room_1.slots) (T412.setTop (mkF m 73 #[.val (.int x0), .val (.int x1), .val (.int x2), .val (.int x3), .val (.int x4), .val (.ref o394), .val (.ref o403), .val (.int y0), .val (.int y1), .val (.int y2), .unset, .unset, .unset, .unset, .unset, .unset, .unset] [])) := by
    intro y0 y1 y2 b0 b1 b2
    show own_E p e below _ (T412.setTop (mkF m 73 #[.val (.int x0), .val (.int x1), .val (.int x2), .val (.int x3), .val (.int x4), .val (.ref o394), .val (.ref o403), .val (.int y0), .val (.int y1), .val (.int y2), .unset, .unset, .unset, .unset, .unset, .unset, .unset] []))
    refine own_g (mkF m 75 #[.val (.int x0), .val (.int x1), .val (.int x2), .val (.int x3), .val (.int x4), .val (.ref o394), .val (.ref o403), .val (.int y0), .val (.int y1), .val (.int y2), .unset, .unset, .unset, .unset, .unset, .unset, .unset] [(.ref o403)]) (fun _ kz => XS.aload X412.here hx rfl (hb hby at_73) rfl rfl kz) ?_
    refine own_g (mkF m 76 #[.val (.int x0), .val (.int x1), .val (.int x2), .val (.int x3), .val (.int x4), .val (.ref o394), .val (.ref o403), .val (.int y0), .val (.int y1), .val (.int y2), .unset, .unset, .unset, .unset, .unset, .unset, .unset] [(.int (0 : Int32)), (.ref o403)]) (fun _ kz => XS.iconst X412.here hx rfl (hb hby at_75) kz) ?_
    refine own_g (mkF m 78 #[.val (.int x0), .val (.int x1), .val (.int x2), .val (.int x3), .val (.int x4), .val (.ref o394), .val (.ref o403), .val (.int y0), .val (.int y1), .val (.int y2), .unset, .unset, .unset, .unset, .unset, .unset, .unset] [(.int y0), (.int (0 : Int32)), (.ref o403)]) (fun _ kz => XS.iload X412.here hx rfl (hb hby at_76) rfl kz) ?_
    refine own_callV (rest := []) (a := o403) (as := [(.int (0 : Int32)), (.int y0)]) X412 hx hZ hown rfl (own_c_tak0 l Z a0 hw o403 o394 zb wb fc0 (fun _ => 0) fw0 y0 T412.heap n0 zz412 b0 W0 S0) S0.1 (own_w hw 40 rfl) (own_w hw 41 rfl) (own_w hw 43 rfl) (own_w hw 42 rfl) (own_w hw 3 rfl) (own_w hw 44 rfl) (by decide) own_pd5 rfl (by rw [hml]; rfl) rfl (hb hby at_78) 0 (by show 2 * 0 + _ ≤ _; exact Nat.le_of_eq rfl) (by decide) (by decide) (by decide) (by decide) ?_
    rintro _ T413 L413 X413 ⟨rfl, Nq413, zz413, fw1, W1, S1⟩
    have N413 := Fr.app N412 Nq413
    show own_E p e below _ (T413.setTop (mkF m 81 #[.val (.int x0), .val (.int x1), .val (.int x2), .val (.int x3), .val (.int x4), .val (.ref o394), .val (.ref o403), .val (.int y0), .val (.int y1), .val (.int y2), .unset, .unset, .unset, .unset, .unset, .unset, .unset] []))
    refine own_g (mkF m 83 #[.val (.int x0), .val (.int x1), .val (.int x2), .val (.int x3), .val (.int x4), .val (.ref o394), .val (.ref o403), .val (.int y0), .val (.int y1), .val (.int y2), .unset, .unset, .unset, .unset, .unset, .unset, .unset] [(.ref o403)]) (fun _ kz => XS.aload X413.here hx rfl (hb hby at_81) rfl rfl kz) ?_
    refine own_g (mkF m 84 #[.val (.int x0), .val (.int x1), .val (.int x2), .val (.int x3), .val (.int x4), .val (.ref o394), .val (.ref o403), .val (.int y0), .val (.int y1), .val (.int y2), .unset, .unset, .unset, .unset, .unset, .unset, .unset] [(.int (1 : Int32)), (.ref o403)]) (fun _ kz => XS.iconst X413.here hx rfl (hb hby at_83) kz) ?_
    refine own_g (mkF m 86 #[.val (.int x0), .val (.int x1), .val (.int x2), .val (.int x3), .val (.int x4), .val (.ref o394), .val (.ref o403), .val (.int y0), .val (.int y1), .val (.int y2), .unset, .unset, .unset, .unset, .unset, .unset, .unset] [(.int y1), (.int (1 : Int32)), (.ref o403)]) (fun _ kz => XS.iload X413.here hx rfl (hb hby at_84) rfl kz) ?_
    refine own_callV (rest := []) (a := o403) (as := [(.int (1 : Int32)), (.int y1)]) X413 hx hZ hown rfl (own_c_tak1 l Z a0 hw o403 o394 zb wb fc0 (own_set (fun _ => 0) 0 y0) fw1 y1 T413.heap n0 zz413 b1 W1 S1) S1.1 (own_w hw 40 rfl) (own_w hw 41 rfl) (own_w hw 43 rfl) (own_w hw 42 rfl) (own_w hw 3 rfl) (own_w hw 44 rfl) (by decide) own_pd5 rfl (by rw [hml]; rfl) rfl (hb hby at_86) 0 (by show 2 * 0 + _ ≤ _; exact Nat.le_of_eq rfl) (by decide) (by decide) (by decide) (by decide) ?_
    rintro _ T414 L414 X414 ⟨rfl, Nq414, zz414, fw2, W2, S2⟩
    have N414 := Fr.app N413 Nq414
    show own_E p e below _ (T414.setTop (mkF m 89 #[.val (.int x0), .val (.int x1), .val (.int x2), .val (.int x3), .val (.int x4), .val (.ref o394), .val (.ref o403), .val (.int y0), .val (.int y1), .val (.int y2), .unset, .unset, .unset, .unset, .unset, .unset, .unset] []))
    refine own_g (mkF m 91 #[.val (.int x0), .val (.int x1), .val (.int x2), .val (.int x3), .val (.int x4), .val (.ref o394), .val (.ref o403), .val (.int y0), .val (.int y1), .val (.int y2), .unset, .unset, .unset, .unset, .unset, .unset, .unset] [(.ref o403)]) (fun _ kz => XS.aload X414.here hx rfl (hb hby at_89) rfl rfl kz) ?_
    refine own_g (mkF m 92 #[.val (.int x0), .val (.int x1), .val (.int x2), .val (.int x3), .val (.int x4), .val (.ref o394), .val (.ref o403), .val (.int y0), .val (.int y1), .val (.int y2), .unset, .unset, .unset, .unset, .unset, .unset, .unset] [(.int (2 : Int32)), (.ref o403)]) (fun _ kz => XS.iconst X414.here hx rfl (hb hby at_91) kz) ?_
    refine own_g (mkF m 94 #[.val (.int x0), .val (.int x1), .val (.int x2), .val (.int x3), .val (.int x4), .val (.ref o394), .val (.ref o403), .val (.int y0), .val (.int y1), .val (.int y2), .unset, .unset, .unset, .unset, .unset, .unset, .unset] [(.int y2), (.int (2 : Int32)), (.ref o403)]) (fun _ kz => XS.iload X414.here hx rfl (hb hby at_92) rfl kz) ?_
    refine own_callV (rest := []) (a := o403) (as := [(.int (2 : Int32)), (.int y2)]) X414 hx hZ hown rfl (own_c_tak2 l Z a0 hw o403 o394 zb wb fc0 (own_set (own_set (fun _ => 0) 0 y0) 1 y1) fw2 y2 T414.heap n0 zz414 b2 W2 S2) S2.1 (own_w hw 40 rfl) (own_w hw 41 rfl) (own_w hw 43 rfl) (own_w hw 42 rfl) (own_w hw 3 rfl) (own_w hw 44 rfl) (by decide) own_pd5 rfl (by rw [hml]; rfl) rfl (hb hby at_94) 0 (by show 2 * 0 + _ ≤ _; exact Nat.le_of_eq rfl) (by decide) (by decide) (by decide) (by decide) ?_
    rintro _ T415 L415 X415 ⟨rfl, Nq415, zz415, fw3, W3, S3⟩
    have N415 := Fr.app N414 Nq415
    show own_E p e below _ (T415.setTop (mkF m 97 #[.val (.int x0), .val (.int x1), .val (.int x2), .val (.int x3), .val (.int x4), .val (.ref o394), .val (.ref o403), .val (.int y0), .val (.int y1), .val (.int y2), .unset, .unset, .unset, .unset, .unset, .unset, .unset] []))
    obtain ⟨fo, hfo, W3x, S3x⟩ : ∃ F, F = (own_set (own_set (own_set (fun _ => 0) 0 y0) 1 y1) 2 y2) ∧ own_W F fc0 fw3 ∧ own_S Z T415.heap n0 o403 o394 zb wb fc0 F fw3 := ⟨_, rfl, W3, S3⟩
    have ho0 : fo 0 = y0 := by rw [hfo]; simp [own_set]
    have ho1 : fo 1 = y1 := by rw [hfo]; simp [own_set]
    have ho2 : fo 2 = y2 := by rw [hfo]; simp [own_set]
    refine own_g (mkF m 98 #[.val (.int x0), .val (.int x1), .val (.int x2), .val (.int x3), .val (.int x4), .val (.ref o394), .val (.ref o403), .val (.int y0), .val (.int y1), .val (.int y2), .unset, .unset, .unset, .unset, .unset, .unset, .unset] [(.int x0)]) (fun _ kz => XS.iloadN X415.here hx rfl (hb hby at_97) rfl kz) ?_
    refine own_g (mkF m 100 #[.val (.int x0), .val (.int x1), .val (.int x2), .val (.int x3), .val (.int x4), .val (.ref o394), .val (.ref o403), .val (.int y0), .val (.int y1), .val (.int y2), .val (.int x0), .unset, .unset, .unset, .unset, .unset, .unset] []) (fun _ kz => XS.istore X415.here hx rfl (hb hby at_98) rfl (l' := #[.val (.int x0), .val (.int x1), .val (.int x2), .val (.int x3), .val (.int x4), .val (.ref o394), .val (.ref o403), .val (.int y0), .val (.int y1), .val (.int y2), .val (.int x0), .unset, .unset, .unset, .unset, .unset, .unset]) rfl kz) ?_
    refine own_g (mkF m 101 #[.val (.int x0), .val (.int x1), .val (.int x2), .val (.int x3), .val (.int x4), .val (.ref o394), .val (.ref o403), .val (.int y0), .val (.int y1), .val (.int y2), .val (.int x0), .unset, .unset, .unset, .unset, .unset, .unset] [(.int x1)]) (fun _ kz => XS.iloadN X415.here hx rfl (hb hby at_100) rfl kz) ?_
    refine own_g (mkF m 103 #[.val (.int x0), .val (.int x1), .val (.int x2), .val (.int x3), .val (.int x4), .val (.ref o394), .val (.ref o403), .val (.int y0), .val (.int y1), .val (.int y2), .val (.int x0), .val (.int x1), .unset, .unset, .unset, .unset, .unset] []) (fun _ kz => XS.istore X415.here hx rfl (hb hby at_101) rfl (l' := #[.val (.int x0), .val (.int x1), .val (.int x2), .val (.int x3), .val (.int x4), .val (.ref o394), .val (.ref o403), .val (.int y0), .val (.int y1), .val (.int y2), .val (.int x0), .val (.int x1), .unset, .unset, .unset, .unset, .unset]) rfl kz) ?_
    refine own_g (mkF m 104 #[.val (.int x0), .val (.int x1), .val (.int x2), .val (.int x3), .val (.int x4), .val (.ref o394), .val (.ref o403), .val (.int y0), .val (.int y1), .val (.int y2), .val (.int x0), .val (.int x1), .unset, .unset, .unset, .unset, .unset] [(.int x2)]) (fun _ kz => XS.iloadN X415.here hx rfl (hb hby at_103) rfl kz) ?_
    refine own_g (mkF m 106 #[.val (.int x0), .val (.int x1), .val (.int x2), .val (.int x3), .val (.int x4), .val (.ref o394), .val (.ref o403), .val (.int y0), .val (.int y1), .val (.int y2), .val (.int x0), .val (.int x1), .val (.int x2), .unset, .unset, .unset, .unset] []) (fun _ kz => XS.istore X415.here hx rfl (hb hby at_104) rfl (l' := #[.val (.int x0), .val (.int x1), .val (.int x2), .val (.int x3), .val (.int x4), .val (.ref o394), .val (.ref o403), .val (.int y0), .val (.int y1), .val (.int y2), .val (.int x0), .val (.int x1), .val (.int x2), .unset, .unset, .unset, .unset]) rfl kz) ?_
    have fin : ∀ (d0 d1 d2 z13 z14 : Int32) (fc fw : Nat → Int32) (T : State) (L : List Loc), fc 0 = d0 → fc 1 = d1 → fc 2 = d2 → own_W fo fc fw → own_S Z T.heap n0 o403 o394 zb wb fc fo fw → n0 ≤ T.heap.size → Fr n0 L → Stand p l e room_1 s m #[(.int x0), (.int x1), (.int x2), (.int x3), (.int x4)] below meth c T L 4 18 → own_E p e below (own_P (fun v h L => v = some (.int 1) ∧ Fr n0 L) s room_1.cells room_1.slots) (T.setTop (mkF m 168 #[.val (.int x0), .val (.int x1), .val (.int x2), .val (.int x3), .val (.int x4), .val (.ref o394), .val (.ref o403), .val (.int y0), .val (.int y1), .val (.int y2), .val (.int d0), .val (.int d1), .val (.int d2), .val (.int z13), .val (.int z14), .unset, .unset] [])) := by
      intro d0 d1 d2 z13 z14 fc fw T L k0 k1 k2 W S zz N X
      show own_E p e below _ (T.setTop (mkF m 168 #[.val (.int x0), .val (.int x1), .val (.int x2), .val (.int x3), .val (.int x4), .val (.ref o394), .val (.ref o403), .val (.int y0), .val (.int y1), .val (.int y2), .val (.int d0), .val (.int d1), .val (.int d2), .val (.int z13), .val (.int z14), .unset, .unset] []))
      have hd : own_dom (fw 1) := by rw [W.2.2.2.2.2.2]; exact own_mt_dom (own_mt_dom (Or.inr (Or.inl rfl)) (Or.inr (Or.inr (Or.inl rfl)))) (Or.inr (Or.inr (Or.inr rfl)))
      refine own_g (mkF m 169 #[.val (.int x0), .val (.int x1), .val (.int x2), .val (.int x3), .val (.int x4), .val (.ref o394), .val (.ref o403), .val (.int y0), .val (.int y1), .val (.int y2), .val (.int d0), .val (.int d1), .val (.int d2), .val (.int z13), .val (.int z14), .unset, .unset] [(.int (-1 : Int32))]) (fun _ kz => XS.iconst X.here hx rfl (hb hby at_168) kz) ?_
      refine own_g (mkF m 171 #[.val (.int x0), .val (.int x1), .val (.int x2), .val (.int x3), .val (.int x4), .val (.ref o394), .val (.ref o403), .val (.int y0), .val (.int y1), .val (.int y2), .val (.int d0), .val (.int d1), .val (.int d2), .val (.int z13), .val (.int z14), .val (.int (-1 : Int32)), .unset] []) (fun _ kz => XS.istore X.here hx rfl (hb hby at_169) rfl (l' := #[.val (.int x0), .val (.int x1), .val (.int x2), .val (.int x3), .val (.int x4), .val (.ref o394), .val (.ref o403), .val (.int y0), .val (.int y1), .val (.int y2), .val (.int d0), .val (.int d1), .val (.int d2), .val (.int z13), .val (.int z14), .val (.int (-1 : Int32)), .unset]) rfl kz) ?_
      refine own_g (mkF m 172 #[.val (.int x0), .val (.int x1), .val (.int x2), .val (.int x3), .val (.int x4), .val (.ref o394), .val (.ref o403), .val (.int y0), .val (.int y1), .val (.int y2), .val (.int d0), .val (.int d1), .val (.int d2), .val (.int z13), .val (.int z14), .val (.int (-1 : Int32)), .unset] [(.int (0 : Int32))]) (fun _ kz => XS.iconst X.here hx rfl (hb hby at_171) kz) ?_
      refine own_g (mkF m 174 #[.val (.int x0), .val (.int x1), .val (.int x2), .val (.int x3), .val (.int x4), .val (.ref o394), .val (.ref o403), .val (.int y0), .val (.int y1), .val (.int y2), .val (.int d0), .val (.int d1), .val (.int d2), .val (.int z13), .val (.int z14), .val (.int (-1 : Int32)), .val (.int (0 : Int32))] []) (fun _ kz => XS.istore X.here hx rfl (hb hby at_172) rfl (l' := #[.val (.int x0), .val (.int x1), .val (.int x2), .val (.int x3), .val (.int x4), .val (.ref o394), .val (.ref o403), .val (.int y0), .val (.int y1), .val (.int y2), .val (.int d0), .val (.int d1), .val (.int d2), .val (.int z13), .val (.int z14), .val (.int (-1 : Int32)), .val (.int (0 : Int32))]) rfl kz) ?_
      refine own_g (mkF m 176 #[.val (.int x0), .val (.int x1), .val (.int x2), .val (.int x3), .val (.int x4), .val (.ref o394), .val (.ref o403), .val (.int y0), .val (.int y1), .val (.int y2), .val (.int d0), .val (.int d1), .val (.int d2), .val (.int z13), .val (.int z14), .val (.int (-1 : Int32)), .val (.int (0 : Int32))] [(.int y0)]) (fun _ kz => XS.iload X.here hx rfl (hb hby at_174) rfl kz) ?_
      by_cases hc176_416 : y0 = (0 : Int32)
      · refine own_g (mkF m 179 #[.val (.int x0), .val (.int x1), .val (.int x2), .val (.int x3), .val (.int x4), .val (.ref o394), .val (.ref o403), .val (.int y0), .val (.int y1), .val (.int y2), .val (.int d0), .val (.int d1), .val (.int d2), .val (.int z13), .val (.int z14), .val (.int (-1 : Int32)), .val (.int (0 : Int32))] []) (fun _ kz => XS.ifNo X.here hx rfl (hb hby at_176) rfl ((if0 _ _).trans (teq hc176_416).2) kz) ?_
        refine own_g (mkF m 180 #[.val (.int x0), .val (.int x1), .val (.int x2), .val (.int x3), .val (.int x4), .val (.ref o394), .val (.ref o403), .val (.int y0), .val (.int y1), .val (.int y2), .val (.int d0), .val (.int d1), .val (.int d2), .val (.int z13), .val (.int z14), .val (.int (-1 : Int32)), .val (.int (0 : Int32))] [(.int (0 : Int32))]) (fun _ kz => XS.iconst X.here hx rfl (hb hby at_179) kz) ?_
        refine own_g (mkF m 182 #[.val (.int x0), .val (.int x1), .val (.int x2), .val (.int x3), .val (.int x4), .val (.ref o394), .val (.ref o403), .val (.int y0), .val (.int y1), .val (.int y2), .val (.int d0), .val (.int d1), .val (.int d2), .val (.int z13), .val (.int z14), .val (.int (0 : Int32)), .val (.int (0 : Int32))] []) (fun _ kz => XS.istore X.here hx rfl (hb hby at_180) rfl (l' := #[.val (.int x0), .val (.int x1), .val (.int x2), .val (.int x3), .val (.int x4), .val (.ref o394), .val (.ref o403), .val (.int y0), .val (.int y1), .val (.int y2), .val (.int d0), .val (.int d1), .val (.int d2), .val (.int z13), .val (.int z14), .val (.int (0 : Int32)), .val (.int (0 : Int32))]) rfl kz) ?_
        refine own_g (mkF m 184 #[.val (.int x0), .val (.int x1), .val (.int x2), .val (.int x3), .val (.int x4), .val (.ref o394), .val (.ref o403), .val (.int y0), .val (.int y1), .val (.int y2), .val (.int d0), .val (.int d1), .val (.int d2), .val (.int z13), .val (.int z14), .val (.int (0 : Int32)), .val (.int (0 : Int32))] [(.int d0)]) (fun _ kz => XS.iload X.here hx rfl (hb hby at_182) rfl kz) ?_
        refine own_g (mkF m 186 #[.val (.int x0), .val (.int x1), .val (.int x2), .val (.int x3), .val (.int x4), .val (.ref o394), .val (.ref o403), .val (.int y0), .val (.int y1), .val (.int y2), .val (.int d0), .val (.int d1), .val (.int d2), .val (.int z13), .val (.int z14), .val (.int (0 : Int32)), .val (.int d0)] []) (fun _ kz => XS.istore X.here hx rfl (hb hby at_184) rfl (l' := #[.val (.int x0), .val (.int x1), .val (.int x2), .val (.int x3), .val (.int x4), .val (.ref o394), .val (.ref o403), .val (.int y0), .val (.int y1), .val (.int y2), .val (.int d0), .val (.int d1), .val (.int d2), .val (.int z13), .val (.int z14), .val (.int (0 : Int32)), .val (.int d0)]) rfl kz) ?_
        refine own_g (mkF m 188 #[.val (.int x0), .val (.int x1), .val (.int x2), .val (.int x3), .val (.int x4), .val (.ref o394), .val (.ref o403), .val (.int y0), .val (.int y1), .val (.int y2), .val (.int d0), .val (.int d1), .val (.int d2), .val (.int z13), .val (.int z14), .val (.int (0 : Int32)), .val (.int d0)] [(.int y1)]) (fun _ kz => XS.iload X.here hx rfl (hb hby at_186) rfl kz) ?_
        by_cases hc188_417 : y1 = (0 : Int32)
        · refine own_g (mkF m 191 #[.val (.int x0), .val (.int x1), .val (.int x2), .val (.int x3), .val (.int x4), .val (.ref o394), .val (.ref o403), .val (.int y0), .val (.int y1), .val (.int y2), .val (.int d0), .val (.int d1), .val (.int d2), .val (.int z13), .val (.int z14), .val (.int (0 : Int32)), .val (.int d0)] []) (fun _ kz => XS.ifNo X.here hx rfl (hb hby at_188) rfl ((if0 _ _).trans (teq hc188_417).2) kz) ?_
          refine own_g (mkF m 193 #[.val (.int x0), .val (.int x1), .val (.int x2), .val (.int x3), .val (.int x4), .val (.ref o394), .val (.ref o403), .val (.int y0), .val (.int y1), .val (.int y2), .val (.int d0), .val (.int d1), .val (.int d2), .val (.int z13), .val (.int z14), .val (.int (0 : Int32)), .val (.int d0)] [(.int (0 : Int32))]) (fun _ kz => XS.iload X.here hx rfl (hb hby at_191) rfl kz) ?_
          refine own_g (mkF m 196 #[.val (.int x0), .val (.int x1), .val (.int x2), .val (.int x3), .val (.int x4), .val (.ref o394), .val (.ref o403), .val (.int y0), .val (.int y1), .val (.int y2), .val (.int d0), .val (.int d1), .val (.int d2), .val (.int z13), .val (.int z14), .val (.int (0 : Int32)), .val (.int d0)] []) (fun _ kz => XS.ifNo X.here hx rfl (hb hby at_193) rfl ((if0 _ _).trans (flt (by decide)).1) kz) ?_
          refine own_g (mkF m 198 #[.val (.int x0), .val (.int x1), .val (.int x2), .val (.int x3), .val (.int x4), .val (.ref o394), .val (.ref o403), .val (.int y0), .val (.int y1), .val (.int y2), .val (.int d0), .val (.int d1), .val (.int d2), .val (.int z13), .val (.int z14), .val (.int (0 : Int32)), .val (.int d0)] [(.int d1)]) (fun _ kz => XS.iload X.here hx rfl (hb hby at_196) rfl kz) ?_
          refine own_g (mkF m 200 #[.val (.int x0), .val (.int x1), .val (.int x2), .val (.int x3), .val (.int x4), .val (.ref o394), .val (.ref o403), .val (.int y0), .val (.int y1), .val (.int y2), .val (.int d0), .val (.int d1), .val (.int d2), .val (.int z13), .val (.int z14), .val (.int (0 : Int32)), .val (.int d0)] [(.int d0), (.int d1)]) (fun _ kz => XS.iload X.here hx rfl (hb hby at_198) rfl kz) ?_
          by_cases hc200_418 : d1 < d0
          · refine own_g (mkF m 203 #[.val (.int x0), .val (.int x1), .val (.int x2), .val (.int x3), .val (.int x4), .val (.ref o394), .val (.ref o403), .val (.int y0), .val (.int y1), .val (.int y2), .val (.int d0), .val (.int d1), .val (.int d2), .val (.int z13), .val (.int z14), .val (.int (0 : Int32)), .val (.int d0)] []) (fun _ kz => XS.icmpNo X.here hx rfl (hb hby at_200) rfl (tlt hc200_418).2.1 kz) ?_
            refine own_g (mkF m 204 #[.val (.int x0), .val (.int x1), .val (.int x2), .val (.int x3), .val (.int x4), .val (.ref o394), .val (.ref o403), .val (.int y0), .val (.int y1), .val (.int y2), .val (.int d0), .val (.int d1), .val (.int d2), .val (.int z13), .val (.int z14), .val (.int (0 : Int32)), .val (.int d0)] [(.int (1 : Int32))]) (fun _ kz => XS.iconst X.here hx rfl (hb hby at_203) kz) ?_
            refine own_g (mkF m 206 #[.val (.int x0), .val (.int x1), .val (.int x2), .val (.int x3), .val (.int x4), .val (.ref o394), .val (.ref o403), .val (.int y0), .val (.int y1), .val (.int y2), .val (.int d0), .val (.int d1), .val (.int d2), .val (.int z13), .val (.int z14), .val (.int (1 : Int32)), .val (.int d0)] []) (fun _ kz => XS.istore X.here hx rfl (hb hby at_204) rfl (l' := #[.val (.int x0), .val (.int x1), .val (.int x2), .val (.int x3), .val (.int x4), .val (.ref o394), .val (.ref o403), .val (.int y0), .val (.int y1), .val (.int y2), .val (.int d0), .val (.int d1), .val (.int d2), .val (.int z13), .val (.int z14), .val (.int (1 : Int32)), .val (.int d0)]) rfl kz) ?_
            refine own_g (mkF m 208 #[.val (.int x0), .val (.int x1), .val (.int x2), .val (.int x3), .val (.int x4), .val (.ref o394), .val (.ref o403), .val (.int y0), .val (.int y1), .val (.int y2), .val (.int d0), .val (.int d1), .val (.int d2), .val (.int z13), .val (.int z14), .val (.int (1 : Int32)), .val (.int d0)] [(.int d1)]) (fun _ kz => XS.iload X.here hx rfl (hb hby at_206) rfl kz) ?_
            refine own_g (mkF m 210 #[.val (.int x0), .val (.int x1), .val (.int x2), .val (.int x3), .val (.int x4), .val (.ref o394), .val (.ref o403), .val (.int y0), .val (.int y1), .val (.int y2), .val (.int d0), .val (.int d1), .val (.int d2), .val (.int z13), .val (.int z14), .val (.int (1 : Int32)), .val (.int d1)] []) (fun _ kz => XS.istore X.here hx rfl (hb hby at_208) rfl (l' := #[.val (.int x0), .val (.int x1), .val (.int x2), .val (.int x3), .val (.int x4), .val (.ref o394), .val (.ref o403), .val (.int y0), .val (.int y1), .val (.int y2), .val (.int d0), .val (.int d1), .val (.int d2), .val (.int z13), .val (.int z14), .val (.int (1 : Int32)), .val (.int d1)]) rfl kz) ?_
            refine own_g (mkF m 212 #[.val (.int x0), .val (.int x1), .val (.int x2), .val (.int x3), .val (.int x4), .val (.ref o394), .val (.ref o403), .val (.int y0), .val (.int y1), .val (.int y2), .val (.int d0), .val (.int d1), .val (.int d2), .val (.int z13), .val (.int z14), .val (.int (1 : Int32)), .val (.int d1)] [(.int y2)]) (fun _ kz => XS.iload X.here hx rfl (hb hby at_210) rfl kz) ?_
            by_cases hc212_419 : y2 = (0 : Int32)
            · refine own_g (mkF m 215 #[.val (.int x0), .val (.int x1), .val (.int x2), .val (.int x3), .val (.int x4), .val (.ref o394), .val (.ref o403), .val (.int y0), .val (.int y1), .val (.int y2), .val (.int d0), .val (.int d1), .val (.int d2), .val (.int z13), .val (.int z14), .val (.int (1 : Int32)), .val (.int d1)] []) (fun _ kz => XS.ifNo X.here hx rfl (hb hby at_212) rfl ((if0 _ _).trans (teq hc212_419).2) kz) ?_
              refine own_g (mkF m 217 #[.val (.int x0), .val (.int x1), .val (.int x2), .val (.int x3), .val (.int x4), .val (.ref o394), .val (.ref o403), .val (.int y0), .val (.int y1), .val (.int y2), .val (.int d0), .val (.int d1), .val (.int d2), .val (.int z13), .val (.int z14), .val (.int (1 : Int32)), .val (.int d1)] [(.int (1 : Int32))]) (fun _ kz => XS.iload X.here hx rfl (hb hby at_215) rfl kz) ?_
              refine own_g (mkF m 220 #[.val (.int x0), .val (.int x1), .val (.int x2), .val (.int x3), .val (.int x4), .val (.ref o394), .val (.ref o403), .val (.int y0), .val (.int y1), .val (.int y2), .val (.int d0), .val (.int d1), .val (.int d2), .val (.int z13), .val (.int z14), .val (.int (1 : Int32)), .val (.int d1)] []) (fun _ kz => XS.ifNo X.here hx rfl (hb hby at_217) rfl ((if0 _ _).trans (flt (by decide)).1) kz) ?_
              refine own_g (mkF m 222 #[.val (.int x0), .val (.int x1), .val (.int x2), .val (.int x3), .val (.int x4), .val (.ref o394), .val (.ref o403), .val (.int y0), .val (.int y1), .val (.int y2), .val (.int d0), .val (.int d1), .val (.int d2), .val (.int z13), .val (.int z14), .val (.int (1 : Int32)), .val (.int d1)] [(.int d2)]) (fun _ kz => XS.iload X.here hx rfl (hb hby at_220) rfl kz) ?_
              refine own_g (mkF m 224 #[.val (.int x0), .val (.int x1), .val (.int x2), .val (.int x3), .val (.int x4), .val (.ref o394), .val (.ref o403), .val (.int y0), .val (.int y1), .val (.int y2), .val (.int d0), .val (.int d1), .val (.int d2), .val (.int z13), .val (.int z14), .val (.int (1 : Int32)), .val (.int d1)] [(.int d1), (.int d2)]) (fun _ kz => XS.iload X.here hx rfl (hb hby at_222) rfl kz) ?_
              by_cases hc224_420 : d2 < d1
              · refine own_g (mkF m 227 #[.val (.int x0), .val (.int x1), .val (.int x2), .val (.int x3), .val (.int x4), .val (.ref o394), .val (.ref o403), .val (.int y0), .val (.int y1), .val (.int y2), .val (.int d0), .val (.int d1), .val (.int d2), .val (.int z13), .val (.int z14), .val (.int (1 : Int32)), .val (.int d1)] []) (fun _ kz => XS.icmpNo X.here hx rfl (hb hby at_224) rfl (tlt hc224_420).2.1 kz) ?_
                refine own_g (mkF m 228 #[.val (.int x0), .val (.int x1), .val (.int x2), .val (.int x3), .val (.int x4), .val (.ref o394), .val (.ref o403), .val (.int y0), .val (.int y1), .val (.int y2), .val (.int d0), .val (.int d1), .val (.int d2), .val (.int z13), .val (.int z14), .val (.int (1 : Int32)), .val (.int d1)] [(.int (2 : Int32))]) (fun _ kz => XS.iconst X.here hx rfl (hb hby at_227) kz) ?_
                refine own_g (mkF m 230 #[.val (.int x0), .val (.int x1), .val (.int x2), .val (.int x3), .val (.int x4), .val (.ref o394), .val (.ref o403), .val (.int y0), .val (.int y1), .val (.int y2), .val (.int d0), .val (.int d1), .val (.int d2), .val (.int z13), .val (.int z14), .val (.int (2 : Int32)), .val (.int d1)] []) (fun _ kz => XS.istore X.here hx rfl (hb hby at_228) rfl (l' := #[.val (.int x0), .val (.int x1), .val (.int x2), .val (.int x3), .val (.int x4), .val (.ref o394), .val (.ref o403), .val (.int y0), .val (.int y1), .val (.int y2), .val (.int d0), .val (.int d1), .val (.int d2), .val (.int z13), .val (.int z14), .val (.int (2 : Int32)), .val (.int d1)]) rfl kz) ?_
                refine own_g (mkF m 232 #[.val (.int x0), .val (.int x1), .val (.int x2), .val (.int x3), .val (.int x4), .val (.ref o394), .val (.ref o403), .val (.int y0), .val (.int y1), .val (.int y2), .val (.int d0), .val (.int d1), .val (.int d2), .val (.int z13), .val (.int z14), .val (.int (2 : Int32)), .val (.int d1)] [(.int d2)]) (fun _ kz => XS.iload X.here hx rfl (hb hby at_230) rfl kz) ?_
                refine own_g (mkF m 234 #[.val (.int x0), .val (.int x1), .val (.int x2), .val (.int x3), .val (.int x4), .val (.ref o394), .val (.ref o403), .val (.int y0), .val (.int y1), .val (.int y2), .val (.int d0), .val (.int d1), .val (.int d2), .val (.int z13), .val (.int z14), .val (.int (2 : Int32)), .val (.int d2)] []) (fun _ kz => XS.istore X.here hx rfl (hb hby at_232) rfl (l' := #[.val (.int x0), .val (.int x1), .val (.int x2), .val (.int x3), .val (.int x4), .val (.ref o394), .val (.ref o403), .val (.int y0), .val (.int y1), .val (.int y2), .val (.int d0), .val (.int d1), .val (.int d2), .val (.int z13), .val (.int z14), .val (.int (2 : Int32)), .val (.int d2)]) rfl kz) ?_
                refine own_g (mkF m 236 #[.val (.int x0), .val (.int x1), .val (.int x2), .val (.int x3), .val (.int x4), .val (.ref o394), .val (.ref o403), .val (.int y0), .val (.int y1), .val (.int y2), .val (.int d0), .val (.int d1), .val (.int d2), .val (.int z13), .val (.int z14), .val (.int (2 : Int32)), .val (.int d2)] [(.ref o403)]) (fun _ kz => XS.aload X.here hx rfl (hb hby at_234) rfl rfl kz) ?_
                refine own_callV (rest := []) (a := o403) (as := []) X hx hZ hown rfl (own_c_lea l Z a0 hw o403 o394 zb wb fc fo fw T.heap n0 zz hd S) S.1 (own_w hw 49 rfl) (own_w hw 50 rfl) (own_w hw 52 rfl) (own_w hw 51 rfl) (own_w hw 3 rfl) (own_w hw 53 rfl) (by decide) own_pd6 rfl (by rw [hml]; rfl) rfl (hb hby at_236) 0 (by show 2 * 0 + _ ≤ _; exact Nat.le_of_eq rfl) (by decide) (by decide) (by decide) (by decide) ?_
                rintro _ T421 L421 X421 ⟨rfl, rfl, e421⟩
                have N421 := Fr.app N (Fr.nil n0)
                show own_E p e below _ (T421.setTop (mkF m 239 #[.val (.int x0), .val (.int x1), .val (.int x2), .val (.int x3), .val (.int x4), .val (.ref o394), .val (.ref o403), .val (.int y0), .val (.int y1), .val (.int y2), .val (.int d0), .val (.int d1), .val (.int d2), .val (.int z13), .val (.int z14), .val (.int (2 : Int32)), .val (.int d2)] [(.int (own_ls fo fw))]))
                refine own_g (mkF m 241 #[.val (.int x0), .val (.int x1), .val (.int x2), .val (.int x3), .val (.int x4), .val (.ref o394), .val (.ref o403), .val (.int y0), .val (.int y1), .val (.int y2), .val (.int d0), .val (.int d1), .val (.int d2), .val (.int z13), .val (.int z14), .val (.int (2 : Int32)), .val (.int d2)] [(.int (2 : Int32)), (.int (own_ls fo fw))]) (fun _ kz => XS.iload X421.here hx rfl (hb hby at_239) rfl kz) ?_
                refine own_g (mkF m 244 #[.val (.int x0), .val (.int x1), .val (.int x2), .val (.int x3), .val (.int x4), .val (.ref o394), .val (.ref o403), .val (.int y0), .val (.int y1), .val (.int y2), .val (.int d0), .val (.int d1), .val (.int d2), .val (.int z13), .val (.int z14), .val (.int (2 : Int32)), .val (.int d2)] []) (fun _ kz => XS.icmpNo X421.here hx rfl (hb hby at_241) rfl (teq (by
                  have t1 := W.2.2.2.2.2.2
                  have i0 : (0 : Int32).toNatClampNeg = 0 := rfl
                  have i1 : (1 : Int32).toNatClampNeg = 1 := rfl
                  have i2 : (2 : Int32).toNatClampNeg = 2 := rfl
                  simp [own_ls, t1, own_mt, i0, i1, i2, ho0, ho1, ho2, k0, k1, k2, hc176_416, hc188_417, hc200_418, hc212_419, hc224_420])).2 kz) ?_
                refine own_g (mkF m 245 #[.val (.int x0), .val (.int x1), .val (.int x2), .val (.int x3), .val (.int x4), .val (.ref o394), .val (.ref o403), .val (.int y0), .val (.int y1), .val (.int y2), .val (.int d0), .val (.int d1), .val (.int d2), .val (.int z13), .val (.int z14), .val (.int (2 : Int32)), .val (.int d2)] [(.int (1 : Int32))]) (fun _ kz => XS.iconst X421.here hx rfl (hb hby at_244) kz) ?_
                refine own_g (mkF m 249 #[.val (.int x0), .val (.int x1), .val (.int x2), .val (.int x3), .val (.int x4), .val (.ref o394), .val (.ref o403), .val (.int y0), .val (.int y1), .val (.int y2), .val (.int d0), .val (.int d1), .val (.int d2), .val (.int z13), .val (.int z14), .val (.int (2 : Int32)), .val (.int d2)] [(.int (1 : Int32))]) (fun _ kz => XS.goto X421.here hx rfl (pc0 := 245) (pc' := 249) rfl (hb hby at_245) (by decide) (by decide) kz) ?_
                exact own_retZ X421 hx hret hlk (hb hby at_249) rfl (by decide) (by decide) (by first | exact ⟨rfl, N421⟩ | (rw [e421]; exact ⟨rfl, N421⟩))
              · refine own_g (mkF m 234 #[.val (.int x0), .val (.int x1), .val (.int x2), .val (.int x3), .val (.int x4), .val (.ref o394), .val (.ref o403), .val (.int y0), .val (.int y1), .val (.int y2), .val (.int d0), .val (.int d1), .val (.int d2), .val (.int z13), .val (.int z14), .val (.int (1 : Int32)), .val (.int d1)] []) (fun _ kz => XS.icmpYes X.here hx rfl (pc0 := 224) (pc' := 234) rfl (hb hby at_224) rfl (flt hc224_420).2.1 (by decide) (by decide) kz) ?_
                refine own_g (mkF m 236 #[.val (.int x0), .val (.int x1), .val (.int x2), .val (.int x3), .val (.int x4), .val (.ref o394), .val (.ref o403), .val (.int y0), .val (.int y1), .val (.int y2), .val (.int d0), .val (.int d1), .val (.int d2), .val (.int z13), .val (.int z14), .val (.int (1 : Int32)), .val (.int d1)] [(.ref o403)]) (fun _ kz => XS.aload X.here hx rfl (hb hby at_234) rfl rfl kz) ?_
                refine own_callV (rest := []) (a := o403) (as := []) X hx hZ hown rfl (own_c_lea l Z a0 hw o403 o394 zb wb fc fo fw T.heap n0 zz hd S) S.1 (own_w hw 49 rfl) (own_w hw 50 rfl) (own_w hw 52 rfl) (own_w hw 51 rfl) (own_w hw 3 rfl) (own_w hw 53 rfl) (by decide) own_pd6 rfl (by rw [hml]; rfl) rfl (hb hby at_236) 0 (by show 2 * 0 + _ ≤ _; exact Nat.le_of_eq rfl) (by decide) (by decide) (by decide) (by decide) ?_
                rintro _ T422 L422 X422 ⟨rfl, rfl, e422⟩
                have N422 := Fr.app N (Fr.nil n0)
                show own_E p e below _ (T422.setTop (mkF m 239 #[.val (.int x0), .val (.int x1), .val (.int x2), .val (.int x3), .val (.int x4), .val (.ref o394), .val (.ref o403), .val (.int y0), .val (.int y1), .val (.int y2), .val (.int d0), .val (.int d1), .val (.int d2), .val (.int z13), .val (.int z14), .val (.int (1 : Int32)), .val (.int d1)] [(.int (own_ls fo fw))]))
                refine own_g (mkF m 241 #[.val (.int x0), .val (.int x1), .val (.int x2), .val (.int x3), .val (.int x4), .val (.ref o394), .val (.ref o403), .val (.int y0), .val (.int y1), .val (.int y2), .val (.int d0), .val (.int d1), .val (.int d2), .val (.int z13), .val (.int z14), .val (.int (1 : Int32)), .val (.int d1)] [(.int (1 : Int32)), (.int (own_ls fo fw))]) (fun _ kz => XS.iload X422.here hx rfl (hb hby at_239) rfl kz) ?_
                refine own_g (mkF m 244 #[.val (.int x0), .val (.int x1), .val (.int x2), .val (.int x3), .val (.int x4), .val (.ref o394), .val (.ref o403), .val (.int y0), .val (.int y1), .val (.int y2), .val (.int d0), .val (.int d1), .val (.int d2), .val (.int z13), .val (.int z14), .val (.int (1 : Int32)), .val (.int d1)] []) (fun _ kz => XS.icmpNo X422.here hx rfl (hb hby at_241) rfl (teq (by
                  have t1 := W.2.2.2.2.2.2
                  have i0 : (0 : Int32).toNatClampNeg = 0 := rfl
                  have i1 : (1 : Int32).toNatClampNeg = 1 := rfl
                  have i2 : (2 : Int32).toNatClampNeg = 2 := rfl
                  simp [own_ls, t1, own_mt, i0, i1, i2, ho0, ho1, ho2, k0, k1, k2, hc176_416, hc188_417, hc200_418, hc212_419, hc224_420])).2 kz) ?_
                refine own_g (mkF m 245 #[.val (.int x0), .val (.int x1), .val (.int x2), .val (.int x3), .val (.int x4), .val (.ref o394), .val (.ref o403), .val (.int y0), .val (.int y1), .val (.int y2), .val (.int d0), .val (.int d1), .val (.int d2), .val (.int z13), .val (.int z14), .val (.int (1 : Int32)), .val (.int d1)] [(.int (1 : Int32))]) (fun _ kz => XS.iconst X422.here hx rfl (hb hby at_244) kz) ?_
                refine own_g (mkF m 249 #[.val (.int x0), .val (.int x1), .val (.int x2), .val (.int x3), .val (.int x4), .val (.ref o394), .val (.ref o403), .val (.int y0), .val (.int y1), .val (.int y2), .val (.int d0), .val (.int d1), .val (.int d2), .val (.int z13), .val (.int z14), .val (.int (1 : Int32)), .val (.int d1)] [(.int (1 : Int32))]) (fun _ kz => XS.goto X422.here hx rfl (pc0 := 245) (pc' := 249) rfl (hb hby at_245) (by decide) (by decide) kz) ?_
                exact own_retZ X422 hx hret hlk (hb hby at_249) rfl (by decide) (by decide) (by first | exact ⟨rfl, N422⟩ | (rw [e422]; exact ⟨rfl, N422⟩))
            · refine own_g (mkF m 234 #[.val (.int x0), .val (.int x1), .val (.int x2), .val (.int x3), .val (.int x4), .val (.ref o394), .val (.ref o403), .val (.int y0), .val (.int y1), .val (.int y2), .val (.int d0), .val (.int d1), .val (.int d2), .val (.int z13), .val (.int z14), .val (.int (1 : Int32)), .val (.int d1)] []) (fun _ kz => XS.ifYes X.here hx rfl (pc0 := 212) (pc' := 234) rfl (hb hby at_212) rfl ((if0 _ _).trans (feq hc212_419).2) (by decide) (by decide) kz) ?_
              refine own_g (mkF m 236 #[.val (.int x0), .val (.int x1), .val (.int x2), .val (.int x3), .val (.int x4), .val (.ref o394), .val (.ref o403), .val (.int y0), .val (.int y1), .val (.int y2), .val (.int d0), .val (.int d1), .val (.int d2), .val (.int z13), .val (.int z14), .val (.int (1 : Int32)), .val (.int d1)] [(.ref o403)]) (fun _ kz => XS.aload X.here hx rfl (hb hby at_234) rfl rfl kz) ?_
              refine own_callV (rest := []) (a := o403) (as := []) X hx hZ hown rfl (own_c_lea l Z a0 hw o403 o394 zb wb fc fo fw T.heap n0 zz hd S) S.1 (own_w hw 49 rfl) (own_w hw 50 rfl) (own_w hw 52 rfl) (own_w hw 51 rfl) (own_w hw 3 rfl) (own_w hw 53 rfl) (by decide) own_pd6 rfl (by rw [hml]; rfl) rfl (hb hby at_236) 0 (by show 2 * 0 + _ ≤ _; exact Nat.le_of_eq rfl) (by decide) (by decide) (by decide) (by decide) ?_
              rintro _ T423 L423 X423 ⟨rfl, rfl, e423⟩
              have N423 := Fr.app N (Fr.nil n0)
              show own_E p e below _ (T423.setTop (mkF m 239 #[.val (.int x0), .val (.int x1), .val (.int x2), .val (.int x3), .val (.int x4), .val (.ref o394), .val (.ref o403), .val (.int y0), .val (.int y1), .val (.int y2), .val (.int d0), .val (.int d1), .val (.int d2), .val (.int z13), .val (.int z14), .val (.int (1 : Int32)), .val (.int d1)] [(.int (own_ls fo fw))]))
              refine own_g (mkF m 241 #[.val (.int x0), .val (.int x1), .val (.int x2), .val (.int x3), .val (.int x4), .val (.ref o394), .val (.ref o403), .val (.int y0), .val (.int y1), .val (.int y2), .val (.int d0), .val (.int d1), .val (.int d2), .val (.int z13), .val (.int z14), .val (.int (1 : Int32)), .val (.int d1)] [(.int (1 : Int32)), (.int (own_ls fo fw))]) (fun _ kz => XS.iload X423.here hx rfl (hb hby at_239) rfl kz) ?_
              refine own_g (mkF m 244 #[.val (.int x0), .val (.int x1), .val (.int x2), .val (.int x3), .val (.int x4), .val (.ref o394), .val (.ref o403), .val (.int y0), .val (.int y1), .val (.int y2), .val (.int d0), .val (.int d1), .val (.int d2), .val (.int z13), .val (.int z14), .val (.int (1 : Int32)), .val (.int d1)] []) (fun _ kz => XS.icmpNo X423.here hx rfl (hb hby at_241) rfl (teq (by
                have t1 := W.2.2.2.2.2.2
                have i0 : (0 : Int32).toNatClampNeg = 0 := rfl
                have i1 : (1 : Int32).toNatClampNeg = 1 := rfl
                have i2 : (2 : Int32).toNatClampNeg = 2 := rfl
                simp [own_ls, t1, own_mt, i0, i1, i2, ho0, ho1, ho2, k0, k1, k2, hc176_416, hc188_417, hc200_418, hc212_419])).2 kz) ?_
              refine own_g (mkF m 245 #[.val (.int x0), .val (.int x1), .val (.int x2), .val (.int x3), .val (.int x4), .val (.ref o394), .val (.ref o403), .val (.int y0), .val (.int y1), .val (.int y2), .val (.int d0), .val (.int d1), .val (.int d2), .val (.int z13), .val (.int z14), .val (.int (1 : Int32)), .val (.int d1)] [(.int (1 : Int32))]) (fun _ kz => XS.iconst X423.here hx rfl (hb hby at_244) kz) ?_
              refine own_g (mkF m 249 #[.val (.int x0), .val (.int x1), .val (.int x2), .val (.int x3), .val (.int x4), .val (.ref o394), .val (.ref o403), .val (.int y0), .val (.int y1), .val (.int y2), .val (.int d0), .val (.int d1), .val (.int d2), .val (.int z13), .val (.int z14), .val (.int (1 : Int32)), .val (.int d1)] [(.int (1 : Int32))]) (fun _ kz => XS.goto X423.here hx rfl (pc0 := 245) (pc' := 249) rfl (hb hby at_245) (by decide) (by decide) kz) ?_
              exact own_retZ X423 hx hret hlk (hb hby at_249) rfl (by decide) (by decide) (by first | exact ⟨rfl, N423⟩ | (rw [e423]; exact ⟨rfl, N423⟩))
          · refine own_g (mkF m 210 #[.val (.int x0), .val (.int x1), .val (.int x2), .val (.int x3), .val (.int x4), .val (.ref o394), .val (.ref o403), .val (.int y0), .val (.int y1), .val (.int y2), .val (.int d0), .val (.int d1), .val (.int d2), .val (.int z13), .val (.int z14), .val (.int (0 : Int32)), .val (.int d0)] []) (fun _ kz => XS.icmpYes X.here hx rfl (pc0 := 200) (pc' := 210) rfl (hb hby at_200) rfl (flt hc200_418).2.1 (by decide) (by decide) kz) ?_
            refine own_g (mkF m 212 #[.val (.int x0), .val (.int x1), .val (.int x2), .val (.int x3), .val (.int x4), .val (.ref o394), .val (.ref o403), .val (.int y0), .val (.int y1), .val (.int y2), .val (.int d0), .val (.int d1), .val (.int d2), .val (.int z13), .val (.int z14), .val (.int (0 : Int32)), .val (.int d0)] [(.int y2)]) (fun _ kz => XS.iload X.here hx rfl (hb hby at_210) rfl kz) ?_
            by_cases hc212_424 : y2 = (0 : Int32)
            · refine own_g (mkF m 215 #[.val (.int x0), .val (.int x1), .val (.int x2), .val (.int x3), .val (.int x4), .val (.ref o394), .val (.ref o403), .val (.int y0), .val (.int y1), .val (.int y2), .val (.int d0), .val (.int d1), .val (.int d2), .val (.int z13), .val (.int z14), .val (.int (0 : Int32)), .val (.int d0)] []) (fun _ kz => XS.ifNo X.here hx rfl (hb hby at_212) rfl ((if0 _ _).trans (teq hc212_424).2) kz) ?_
              refine own_g (mkF m 217 #[.val (.int x0), .val (.int x1), .val (.int x2), .val (.int x3), .val (.int x4), .val (.ref o394), .val (.ref o403), .val (.int y0), .val (.int y1), .val (.int y2), .val (.int d0), .val (.int d1), .val (.int d2), .val (.int z13), .val (.int z14), .val (.int (0 : Int32)), .val (.int d0)] [(.int (0 : Int32))]) (fun _ kz => XS.iload X.here hx rfl (hb hby at_215) rfl kz) ?_
              refine own_g (mkF m 220 #[.val (.int x0), .val (.int x1), .val (.int x2), .val (.int x3), .val (.int x4), .val (.ref o394), .val (.ref o403), .val (.int y0), .val (.int y1), .val (.int y2), .val (.int d0), .val (.int d1), .val (.int d2), .val (.int z13), .val (.int z14), .val (.int (0 : Int32)), .val (.int d0)] []) (fun _ kz => XS.ifNo X.here hx rfl (hb hby at_217) rfl ((if0 _ _).trans (flt (by decide)).1) kz) ?_
              refine own_g (mkF m 222 #[.val (.int x0), .val (.int x1), .val (.int x2), .val (.int x3), .val (.int x4), .val (.ref o394), .val (.ref o403), .val (.int y0), .val (.int y1), .val (.int y2), .val (.int d0), .val (.int d1), .val (.int d2), .val (.int z13), .val (.int z14), .val (.int (0 : Int32)), .val (.int d0)] [(.int d2)]) (fun _ kz => XS.iload X.here hx rfl (hb hby at_220) rfl kz) ?_
              refine own_g (mkF m 224 #[.val (.int x0), .val (.int x1), .val (.int x2), .val (.int x3), .val (.int x4), .val (.ref o394), .val (.ref o403), .val (.int y0), .val (.int y1), .val (.int y2), .val (.int d0), .val (.int d1), .val (.int d2), .val (.int z13), .val (.int z14), .val (.int (0 : Int32)), .val (.int d0)] [(.int d0), (.int d2)]) (fun _ kz => XS.iload X.here hx rfl (hb hby at_222) rfl kz) ?_
              by_cases hc224_425 : d2 < d0
              · refine own_g (mkF m 227 #[.val (.int x0), .val (.int x1), .val (.int x2), .val (.int x3), .val (.int x4), .val (.ref o394), .val (.ref o403), .val (.int y0), .val (.int y1), .val (.int y2), .val (.int d0), .val (.int d1), .val (.int d2), .val (.int z13), .val (.int z14), .val (.int (0 : Int32)), .val (.int d0)] []) (fun _ kz => XS.icmpNo X.here hx rfl (hb hby at_224) rfl (tlt hc224_425).2.1 kz) ?_
                refine own_g (mkF m 228 #[.val (.int x0), .val (.int x1), .val (.int x2), .val (.int x3), .val (.int x4), .val (.ref o394), .val (.ref o403), .val (.int y0), .val (.int y1), .val (.int y2), .val (.int d0), .val (.int d1), .val (.int d2), .val (.int z13), .val (.int z14), .val (.int (0 : Int32)), .val (.int d0)] [(.int (2 : Int32))]) (fun _ kz => XS.iconst X.here hx rfl (hb hby at_227) kz) ?_
                refine own_g (mkF m 230 #[.val (.int x0), .val (.int x1), .val (.int x2), .val (.int x3), .val (.int x4), .val (.ref o394), .val (.ref o403), .val (.int y0), .val (.int y1), .val (.int y2), .val (.int d0), .val (.int d1), .val (.int d2), .val (.int z13), .val (.int z14), .val (.int (2 : Int32)), .val (.int d0)] []) (fun _ kz => XS.istore X.here hx rfl (hb hby at_228) rfl (l' := #[.val (.int x0), .val (.int x1), .val (.int x2), .val (.int x3), .val (.int x4), .val (.ref o394), .val (.ref o403), .val (.int y0), .val (.int y1), .val (.int y2), .val (.int d0), .val (.int d1), .val (.int d2), .val (.int z13), .val (.int z14), .val (.int (2 : Int32)), .val (.int d0)]) rfl kz) ?_
                refine own_g (mkF m 232 #[.val (.int x0), .val (.int x1), .val (.int x2), .val (.int x3), .val (.int x4), .val (.ref o394), .val (.ref o403), .val (.int y0), .val (.int y1), .val (.int y2), .val (.int d0), .val (.int d1), .val (.int d2), .val (.int z13), .val (.int z14), .val (.int (2 : Int32)), .val (.int d0)] [(.int d2)]) (fun _ kz => XS.iload X.here hx rfl (hb hby at_230) rfl kz) ?_
                refine own_g (mkF m 234 #[.val (.int x0), .val (.int x1), .val (.int x2), .val (.int x3), .val (.int x4), .val (.ref o394), .val (.ref o403), .val (.int y0), .val (.int y1), .val (.int y2), .val (.int d0), .val (.int d1), .val (.int d2), .val (.int z13), .val (.int z14), .val (.int (2 : Int32)), .val (.int d2)] []) (fun _ kz => XS.istore X.here hx rfl (hb hby at_232) rfl (l' := #[.val (.int x0), .val (.int x1), .val (.int x2), .val (.int x3), .val (.int x4), .val (.ref o394), .val (.ref o403), .val (.int y0), .val (.int y1), .val (.int y2), .val (.int d0), .val (.int d1), .val (.int d2), .val (.int z13), .val (.int z14), .val (.int (2 : Int32)), .val (.int d2)]) rfl kz) ?_
                refine own_g (mkF m 236 #[.val (.int x0), .val (.int x1), .val (.int x2), .val (.int x3), .val (.int x4), .val (.ref o394), .val (.ref o403), .val (.int y0), .val (.int y1), .val (.int y2), .val (.int d0), .val (.int d1), .val (.int d2), .val (.int z13), .val (.int z14), .val (.int (2 : Int32)), .val (.int d2)] [(.ref o403)]) (fun _ kz => XS.aload X.here hx rfl (hb hby at_234) rfl rfl kz) ?_
                refine own_callV (rest := []) (a := o403) (as := []) X hx hZ hown rfl (own_c_lea l Z a0 hw o403 o394 zb wb fc fo fw T.heap n0 zz hd S) S.1 (own_w hw 49 rfl) (own_w hw 50 rfl) (own_w hw 52 rfl) (own_w hw 51 rfl) (own_w hw 3 rfl) (own_w hw 53 rfl) (by decide) own_pd6 rfl (by rw [hml]; rfl) rfl (hb hby at_236) 0 (by show 2 * 0 + _ ≤ _; exact Nat.le_of_eq rfl) (by decide) (by decide) (by decide) (by decide) ?_
                rintro _ T426 L426 X426 ⟨rfl, rfl, e426⟩
                have N426 := Fr.app N (Fr.nil n0)
                show own_E p e below _ (T426.setTop (mkF m 239 #[.val (.int x0), .val (.int x1), .val (.int x2), .val (.int x3), .val (.int x4), .val (.ref o394), .val (.ref o403), .val (.int y0), .val (.int y1), .val (.int y2), .val (.int d0), .val (.int d1), .val (.int d2), .val (.int z13), .val (.int z14), .val (.int (2 : Int32)), .val (.int d2)] [(.int (own_ls fo fw))]))
                refine own_g (mkF m 241 #[.val (.int x0), .val (.int x1), .val (.int x2), .val (.int x3), .val (.int x4), .val (.ref o394), .val (.ref o403), .val (.int y0), .val (.int y1), .val (.int y2), .val (.int d0), .val (.int d1), .val (.int d2), .val (.int z13), .val (.int z14), .val (.int (2 : Int32)), .val (.int d2)] [(.int (2 : Int32)), (.int (own_ls fo fw))]) (fun _ kz => XS.iload X426.here hx rfl (hb hby at_239) rfl kz) ?_
                refine own_g (mkF m 244 #[.val (.int x0), .val (.int x1), .val (.int x2), .val (.int x3), .val (.int x4), .val (.ref o394), .val (.ref o403), .val (.int y0), .val (.int y1), .val (.int y2), .val (.int d0), .val (.int d1), .val (.int d2), .val (.int z13), .val (.int z14), .val (.int (2 : Int32)), .val (.int d2)] []) (fun _ kz => XS.icmpNo X426.here hx rfl (hb hby at_241) rfl (teq (by
                  have t1 := W.2.2.2.2.2.2
                  have i0 : (0 : Int32).toNatClampNeg = 0 := rfl
                  have i1 : (1 : Int32).toNatClampNeg = 1 := rfl
                  have i2 : (2 : Int32).toNatClampNeg = 2 := rfl
                  simp [own_ls, t1, own_mt, i0, i1, i2, ho0, ho1, ho2, k0, k1, k2, hc176_416, hc188_417, hc200_418, hc212_424, hc224_425])).2 kz) ?_
                refine own_g (mkF m 245 #[.val (.int x0), .val (.int x1), .val (.int x2), .val (.int x3), .val (.int x4), .val (.ref o394), .val (.ref o403), .val (.int y0), .val (.int y1), .val (.int y2), .val (.int d0), .val (.int d1), .val (.int d2), .val (.int z13), .val (.int z14), .val (.int (2 : Int32)), .val (.int d2)] [(.int (1 : Int32))]) (fun _ kz => XS.iconst X426.here hx rfl (hb hby at_244) kz) ?_
                refine own_g (mkF m 249 #[.val (.int x0), .val (.int x1), .val (.int x2), .val (.int x3), .val (.int x4), .val (.ref o394), .val (.ref o403), .val (.int y0), .val (.int y1), .val (.int y2), .val (.int d0), .val (.int d1), .val (.int d2), .val (.int z13), .val (.int z14), .val (.int (2 : Int32)), .val (.int d2)] [(.int (1 : Int32))]) (fun _ kz => XS.goto X426.here hx rfl (pc0 := 245) (pc' := 249) rfl (hb hby at_245) (by decide) (by decide) kz) ?_
                exact own_retZ X426 hx hret hlk (hb hby at_249) rfl (by decide) (by decide) (by first | exact ⟨rfl, N426⟩ | (rw [e426]; exact ⟨rfl, N426⟩))
              · refine own_g (mkF m 234 #[.val (.int x0), .val (.int x1), .val (.int x2), .val (.int x3), .val (.int x4), .val (.ref o394), .val (.ref o403), .val (.int y0), .val (.int y1), .val (.int y2), .val (.int d0), .val (.int d1), .val (.int d2), .val (.int z13), .val (.int z14), .val (.int (0 : Int32)), .val (.int d0)] []) (fun _ kz => XS.icmpYes X.here hx rfl (pc0 := 224) (pc' := 234) rfl (hb hby at_224) rfl (flt hc224_425).2.1 (by decide) (by decide) kz) ?_
                refine own_g (mkF m 236 #[.val (.int x0), .val (.int x1), .val (.int x2), .val (.int x3), .val (.int x4), .val (.ref o394), .val (.ref o403), .val (.int y0), .val (.int y1), .val (.int y2), .val (.int d0), .val (.int d1), .val (.int d2), .val (.int z13), .val (.int z14), .val (.int (0 : Int32)), .val (.int d0)] [(.ref o403)]) (fun _ kz => XS.aload X.here hx rfl (hb hby at_234) rfl rfl kz) ?_
                refine own_callV (rest := []) (a := o403) (as := []) X hx hZ hown rfl (own_c_lea l Z a0 hw o403 o394 zb wb fc fo fw T.heap n0 zz hd S) S.1 (own_w hw 49 rfl) (own_w hw 50 rfl) (own_w hw 52 rfl) (own_w hw 51 rfl) (own_w hw 3 rfl) (own_w hw 53 rfl) (by decide) own_pd6 rfl (by rw [hml]; rfl) rfl (hb hby at_236) 0 (by show 2 * 0 + _ ≤ _; exact Nat.le_of_eq rfl) (by decide) (by decide) (by decide) (by decide) ?_
                rintro _ T427 L427 X427 ⟨rfl, rfl, e427⟩
                have N427 := Fr.app N (Fr.nil n0)
                show own_E p e below _ (T427.setTop (mkF m 239 #[.val (.int x0), .val (.int x1), .val (.int x2), .val (.int x3), .val (.int x4), .val (.ref o394), .val (.ref o403), .val (.int y0), .val (.int y1), .val (.int y2), .val (.int d0), .val (.int d1), .val (.int d2), .val (.int z13), .val (.int z14), .val (.int (0 : Int32)), .val (.int d0)] [(.int (own_ls fo fw))]))
                refine own_g (mkF m 241 #[.val (.int x0), .val (.int x1), .val (.int x2), .val (.int x3), .val (.int x4), .val (.ref o394), .val (.ref o403), .val (.int y0), .val (.int y1), .val (.int y2), .val (.int d0), .val (.int d1), .val (.int d2), .val (.int z13), .val (.int z14), .val (.int (0 : Int32)), .val (.int d0)] [(.int (0 : Int32)), (.int (own_ls fo fw))]) (fun _ kz => XS.iload X427.here hx rfl (hb hby at_239) rfl kz) ?_
                refine own_g (mkF m 244 #[.val (.int x0), .val (.int x1), .val (.int x2), .val (.int x3), .val (.int x4), .val (.ref o394), .val (.ref o403), .val (.int y0), .val (.int y1), .val (.int y2), .val (.int d0), .val (.int d1), .val (.int d2), .val (.int z13), .val (.int z14), .val (.int (0 : Int32)), .val (.int d0)] []) (fun _ kz => XS.icmpNo X427.here hx rfl (hb hby at_241) rfl (teq (by
                  have t1 := W.2.2.2.2.2.2
                  have i0 : (0 : Int32).toNatClampNeg = 0 := rfl
                  have i1 : (1 : Int32).toNatClampNeg = 1 := rfl
                  have i2 : (2 : Int32).toNatClampNeg = 2 := rfl
                  simp [own_ls, t1, own_mt, i0, i1, i2, ho0, ho1, ho2, k0, k1, k2, hc176_416, hc188_417, hc200_418, hc212_424, hc224_425])).2 kz) ?_
                refine own_g (mkF m 245 #[.val (.int x0), .val (.int x1), .val (.int x2), .val (.int x3), .val (.int x4), .val (.ref o394), .val (.ref o403), .val (.int y0), .val (.int y1), .val (.int y2), .val (.int d0), .val (.int d1), .val (.int d2), .val (.int z13), .val (.int z14), .val (.int (0 : Int32)), .val (.int d0)] [(.int (1 : Int32))]) (fun _ kz => XS.iconst X427.here hx rfl (hb hby at_244) kz) ?_
                refine own_g (mkF m 249 #[.val (.int x0), .val (.int x1), .val (.int x2), .val (.int x3), .val (.int x4), .val (.ref o394), .val (.ref o403), .val (.int y0), .val (.int y1), .val (.int y2), .val (.int d0), .val (.int d1), .val (.int d2), .val (.int z13), .val (.int z14), .val (.int (0 : Int32)), .val (.int d0)] [(.int (1 : Int32))]) (fun _ kz => XS.goto X427.here hx rfl (pc0 := 245) (pc' := 249) rfl (hb hby at_245) (by decide) (by decide) kz) ?_
                exact own_retZ X427 hx hret hlk (hb hby at_249) rfl (by decide) (by decide) (by first | exact ⟨rfl, N427⟩ | (rw [e427]; exact ⟨rfl, N427⟩))
            · refine own_g (mkF m 234 #[.val (.int x0), .val (.int x1), .val (.int x2), .val (.int x3), .val (.int x4), .val (.ref o394), .val (.ref o403), .val (.int y0), .val (.int y1), .val (.int y2), .val (.int d0), .val (.int d1), .val (.int d2), .val (.int z13), .val (.int z14), .val (.int (0 : Int32)), .val (.int d0)] []) (fun _ kz => XS.ifYes X.here hx rfl (pc0 := 212) (pc' := 234) rfl (hb hby at_212) rfl ((if0 _ _).trans (feq hc212_424).2) (by decide) (by decide) kz) ?_
              refine own_g (mkF m 236 #[.val (.int x0), .val (.int x1), .val (.int x2), .val (.int x3), .val (.int x4), .val (.ref o394), .val (.ref o403), .val (.int y0), .val (.int y1), .val (.int y2), .val (.int d0), .val (.int d1), .val (.int d2), .val (.int z13), .val (.int z14), .val (.int (0 : Int32)), .val (.int d0)] [(.ref o403)]) (fun _ kz => XS.aload X.here hx rfl (hb hby at_234) rfl rfl kz) ?_
              refine own_callV (rest := []) (a := o403) (as := []) X hx hZ hown rfl (own_c_lea l Z a0 hw o403 o394 zb wb fc fo fw T.heap n0 zz hd S) S.1 (own_w hw 49 rfl) (own_w hw 50 rfl) (own_w hw 52 rfl) (own_w hw 51 rfl) (own_w hw 3 rfl) (own_w hw 53 rfl) (by decide) own_pd6 rfl (by rw [hml]; rfl) rfl (hb hby at_236) 0 (by show 2 * 0 + _ ≤ _; exact Nat.le_of_eq rfl) (by decide) (by decide) (by decide) (by decide) ?_
              rintro _ T428 L428 X428 ⟨rfl, rfl, e428⟩
              have N428 := Fr.app N (Fr.nil n0)
              show own_E p e below _ (T428.setTop (mkF m 239 #[.val (.int x0), .val (.int x1), .val (.int x2), .val (.int x3), .val (.int x4), .val (.ref o394), .val (.ref o403), .val (.int y0), .val (.int y1), .val (.int y2), .val (.int d0), .val (.int d1), .val (.int d2), .val (.int z13), .val (.int z14), .val (.int (0 : Int32)), .val (.int d0)] [(.int (own_ls fo fw))]))
              refine own_g (mkF m 241 #[.val (.int x0), .val (.int x1), .val (.int x2), .val (.int x3), .val (.int x4), .val (.ref o394), .val (.ref o403), .val (.int y0), .val (.int y1), .val (.int y2), .val (.int d0), .val (.int d1), .val (.int d2), .val (.int z13), .val (.int z14), .val (.int (0 : Int32)), .val (.int d0)] [(.int (0 : Int32)), (.int (own_ls fo fw))]) (fun _ kz => XS.iload X428.here hx rfl (hb hby at_239) rfl kz) ?_
              refine own_g (mkF m 244 #[.val (.int x0), .val (.int x1), .val (.int x2), .val (.int x3), .val (.int x4), .val (.ref o394), .val (.ref o403), .val (.int y0), .val (.int y1), .val (.int y2), .val (.int d0), .val (.int d1), .val (.int d2), .val (.int z13), .val (.int z14), .val (.int (0 : Int32)), .val (.int d0)] []) (fun _ kz => XS.icmpNo X428.here hx rfl (hb hby at_241) rfl (teq (by
                have t1 := W.2.2.2.2.2.2
                have i0 : (0 : Int32).toNatClampNeg = 0 := rfl
                have i1 : (1 : Int32).toNatClampNeg = 1 := rfl
                have i2 : (2 : Int32).toNatClampNeg = 2 := rfl
                simp [own_ls, t1, own_mt, i0, i1, i2, ho0, ho1, ho2, k0, k1, k2, hc176_416, hc188_417, hc200_418, hc212_424])).2 kz) ?_
              refine own_g (mkF m 245 #[.val (.int x0), .val (.int x1), .val (.int x2), .val (.int x3), .val (.int x4), .val (.ref o394), .val (.ref o403), .val (.int y0), .val (.int y1), .val (.int y2), .val (.int d0), .val (.int d1), .val (.int d2), .val (.int z13), .val (.int z14), .val (.int (0 : Int32)), .val (.int d0)] [(.int (1 : Int32))]) (fun _ kz => XS.iconst X428.here hx rfl (hb hby at_244) kz) ?_
              refine own_g (mkF m 249 #[.val (.int x0), .val (.int x1), .val (.int x2), .val (.int x3), .val (.int x4), .val (.ref o394), .val (.ref o403), .val (.int y0), .val (.int y1), .val (.int y2), .val (.int d0), .val (.int d1), .val (.int d2), .val (.int z13), .val (.int z14), .val (.int (0 : Int32)), .val (.int d0)] [(.int (1 : Int32))]) (fun _ kz => XS.goto X428.here hx rfl (pc0 := 245) (pc' := 249) rfl (hb hby at_245) (by decide) (by decide) kz) ?_
              exact own_retZ X428 hx hret hlk (hb hby at_249) rfl (by decide) (by decide) (by first | exact ⟨rfl, N428⟩ | (rw [e428]; exact ⟨rfl, N428⟩))
        · refine own_g (mkF m 210 #[.val (.int x0), .val (.int x1), .val (.int x2), .val (.int x3), .val (.int x4), .val (.ref o394), .val (.ref o403), .val (.int y0), .val (.int y1), .val (.int y2), .val (.int d0), .val (.int d1), .val (.int d2), .val (.int z13), .val (.int z14), .val (.int (0 : Int32)), .val (.int d0)] []) (fun _ kz => XS.ifYes X.here hx rfl (pc0 := 188) (pc' := 210) rfl (hb hby at_188) rfl ((if0 _ _).trans (feq hc188_417).2) (by decide) (by decide) kz) ?_
          refine own_g (mkF m 212 #[.val (.int x0), .val (.int x1), .val (.int x2), .val (.int x3), .val (.int x4), .val (.ref o394), .val (.ref o403), .val (.int y0), .val (.int y1), .val (.int y2), .val (.int d0), .val (.int d1), .val (.int d2), .val (.int z13), .val (.int z14), .val (.int (0 : Int32)), .val (.int d0)] [(.int y2)]) (fun _ kz => XS.iload X.here hx rfl (hb hby at_210) rfl kz) ?_
          by_cases hc212_429 : y2 = (0 : Int32)
          · refine own_g (mkF m 215 #[.val (.int x0), .val (.int x1), .val (.int x2), .val (.int x3), .val (.int x4), .val (.ref o394), .val (.ref o403), .val (.int y0), .val (.int y1), .val (.int y2), .val (.int d0), .val (.int d1), .val (.int d2), .val (.int z13), .val (.int z14), .val (.int (0 : Int32)), .val (.int d0)] []) (fun _ kz => XS.ifNo X.here hx rfl (hb hby at_212) rfl ((if0 _ _).trans (teq hc212_429).2) kz) ?_
            refine own_g (mkF m 217 #[.val (.int x0), .val (.int x1), .val (.int x2), .val (.int x3), .val (.int x4), .val (.ref o394), .val (.ref o403), .val (.int y0), .val (.int y1), .val (.int y2), .val (.int d0), .val (.int d1), .val (.int d2), .val (.int z13), .val (.int z14), .val (.int (0 : Int32)), .val (.int d0)] [(.int (0 : Int32))]) (fun _ kz => XS.iload X.here hx rfl (hb hby at_215) rfl kz) ?_
            refine own_g (mkF m 220 #[.val (.int x0), .val (.int x1), .val (.int x2), .val (.int x3), .val (.int x4), .val (.ref o394), .val (.ref o403), .val (.int y0), .val (.int y1), .val (.int y2), .val (.int d0), .val (.int d1), .val (.int d2), .val (.int z13), .val (.int z14), .val (.int (0 : Int32)), .val (.int d0)] []) (fun _ kz => XS.ifNo X.here hx rfl (hb hby at_217) rfl ((if0 _ _).trans (flt (by decide)).1) kz) ?_
            refine own_g (mkF m 222 #[.val (.int x0), .val (.int x1), .val (.int x2), .val (.int x3), .val (.int x4), .val (.ref o394), .val (.ref o403), .val (.int y0), .val (.int y1), .val (.int y2), .val (.int d0), .val (.int d1), .val (.int d2), .val (.int z13), .val (.int z14), .val (.int (0 : Int32)), .val (.int d0)] [(.int d2)]) (fun _ kz => XS.iload X.here hx rfl (hb hby at_220) rfl kz) ?_
            refine own_g (mkF m 224 #[.val (.int x0), .val (.int x1), .val (.int x2), .val (.int x3), .val (.int x4), .val (.ref o394), .val (.ref o403), .val (.int y0), .val (.int y1), .val (.int y2), .val (.int d0), .val (.int d1), .val (.int d2), .val (.int z13), .val (.int z14), .val (.int (0 : Int32)), .val (.int d0)] [(.int d0), (.int d2)]) (fun _ kz => XS.iload X.here hx rfl (hb hby at_222) rfl kz) ?_
            by_cases hc224_430 : d2 < d0
            · refine own_g (mkF m 227 #[.val (.int x0), .val (.int x1), .val (.int x2), .val (.int x3), .val (.int x4), .val (.ref o394), .val (.ref o403), .val (.int y0), .val (.int y1), .val (.int y2), .val (.int d0), .val (.int d1), .val (.int d2), .val (.int z13), .val (.int z14), .val (.int (0 : Int32)), .val (.int d0)] []) (fun _ kz => XS.icmpNo X.here hx rfl (hb hby at_224) rfl (tlt hc224_430).2.1 kz) ?_
              refine own_g (mkF m 228 #[.val (.int x0), .val (.int x1), .val (.int x2), .val (.int x3), .val (.int x4), .val (.ref o394), .val (.ref o403), .val (.int y0), .val (.int y1), .val (.int y2), .val (.int d0), .val (.int d1), .val (.int d2), .val (.int z13), .val (.int z14), .val (.int (0 : Int32)), .val (.int d0)] [(.int (2 : Int32))]) (fun _ kz => XS.iconst X.here hx rfl (hb hby at_227) kz) ?_
              refine own_g (mkF m 230 #[.val (.int x0), .val (.int x1), .val (.int x2), .val (.int x3), .val (.int x4), .val (.ref o394), .val (.ref o403), .val (.int y0), .val (.int y1), .val (.int y2), .val (.int d0), .val (.int d1), .val (.int d2), .val (.int z13), .val (.int z14), .val (.int (2 : Int32)), .val (.int d0)] []) (fun _ kz => XS.istore X.here hx rfl (hb hby at_228) rfl (l' := #[.val (.int x0), .val (.int x1), .val (.int x2), .val (.int x3), .val (.int x4), .val (.ref o394), .val (.ref o403), .val (.int y0), .val (.int y1), .val (.int y2), .val (.int d0), .val (.int d1), .val (.int d2), .val (.int z13), .val (.int z14), .val (.int (2 : Int32)), .val (.int d0)]) rfl kz) ?_
              refine own_g (mkF m 232 #[.val (.int x0), .val (.int x1), .val (.int x2), .val (.int x3), .val (.int x4), .val (.ref o394), .val (.ref o403), .val (.int y0), .val (.int y1), .val (.int y2), .val (.int d0), .val (.int d1), .val (.int d2), .val (.int z13), .val (.int z14), .val (.int (2 : Int32)), .val (.int d0)] [(.int d2)]) (fun _ kz => XS.iload X.here hx rfl (hb hby at_230) rfl kz) ?_
              refine own_g (mkF m 234 #[.val (.int x0), .val (.int x1), .val (.int x2), .val (.int x3), .val (.int x4), .val (.ref o394), .val (.ref o403), .val (.int y0), .val (.int y1), .val (.int y2), .val (.int d0), .val (.int d1), .val (.int d2), .val (.int z13), .val (.int z14), .val (.int (2 : Int32)), .val (.int d2)] []) (fun _ kz => XS.istore X.here hx rfl (hb hby at_232) rfl (l' := #[.val (.int x0), .val (.int x1), .val (.int x2), .val (.int x3), .val (.int x4), .val (.ref o394), .val (.ref o403), .val (.int y0), .val (.int y1), .val (.int y2), .val (.int d0), .val (.int d1), .val (.int d2), .val (.int z13), .val (.int z14), .val (.int (2 : Int32)), .val (.int d2)]) rfl kz) ?_
              refine own_g (mkF m 236 #[.val (.int x0), .val (.int x1), .val (.int x2), .val (.int x3), .val (.int x4), .val (.ref o394), .val (.ref o403), .val (.int y0), .val (.int y1), .val (.int y2), .val (.int d0), .val (.int d1), .val (.int d2), .val (.int z13), .val (.int z14), .val (.int (2 : Int32)), .val (.int d2)] [(.ref o403)]) (fun _ kz => XS.aload X.here hx rfl (hb hby at_234) rfl rfl kz) ?_
              refine own_callV (rest := []) (a := o403) (as := []) X hx hZ hown rfl (own_c_lea l Z a0 hw o403 o394 zb wb fc fo fw T.heap n0 zz hd S) S.1 (own_w hw 49 rfl) (own_w hw 50 rfl) (own_w hw 52 rfl) (own_w hw 51 rfl) (own_w hw 3 rfl) (own_w hw 53 rfl) (by decide) own_pd6 rfl (by rw [hml]; rfl) rfl (hb hby at_236) 0 (by show 2 * 0 + _ ≤ _; exact Nat.le_of_eq rfl) (by decide) (by decide) (by decide) (by decide) ?_
              rintro _ T431 L431 X431 ⟨rfl, rfl, e431⟩
              have N431 := Fr.app N (Fr.nil n0)
              show own_E p e below _ (T431.setTop (mkF m 239 #[.val (.int x0), .val (.int x1), .val (.int x2), .val (.int x3), .val (.int x4), .val (.ref o394), .val (.ref o403), .val (.int y0), .val (.int y1), .val (.int y2), .val (.int d0), .val (.int d1), .val (.int d2), .val (.int z13), .val (.int z14), .val (.int (2 : Int32)), .val (.int d2)] [(.int (own_ls fo fw))]))
              refine own_g (mkF m 241 #[.val (.int x0), .val (.int x1), .val (.int x2), .val (.int x3), .val (.int x4), .val (.ref o394), .val (.ref o403), .val (.int y0), .val (.int y1), .val (.int y2), .val (.int d0), .val (.int d1), .val (.int d2), .val (.int z13), .val (.int z14), .val (.int (2 : Int32)), .val (.int d2)] [(.int (2 : Int32)), (.int (own_ls fo fw))]) (fun _ kz => XS.iload X431.here hx rfl (hb hby at_239) rfl kz) ?_
              refine own_g (mkF m 244 #[.val (.int x0), .val (.int x1), .val (.int x2), .val (.int x3), .val (.int x4), .val (.ref o394), .val (.ref o403), .val (.int y0), .val (.int y1), .val (.int y2), .val (.int d0), .val (.int d1), .val (.int d2), .val (.int z13), .val (.int z14), .val (.int (2 : Int32)), .val (.int d2)] []) (fun _ kz => XS.icmpNo X431.here hx rfl (hb hby at_241) rfl (teq (by
                have t1 := W.2.2.2.2.2.2
                have i0 : (0 : Int32).toNatClampNeg = 0 := rfl
                have i1 : (1 : Int32).toNatClampNeg = 1 := rfl
                have i2 : (2 : Int32).toNatClampNeg = 2 := rfl
                simp [own_ls, t1, own_mt, i0, i1, i2, ho0, ho1, ho2, k0, k1, k2, hc176_416, hc188_417, hc212_429, hc224_430])).2 kz) ?_
              refine own_g (mkF m 245 #[.val (.int x0), .val (.int x1), .val (.int x2), .val (.int x3), .val (.int x4), .val (.ref o394), .val (.ref o403), .val (.int y0), .val (.int y1), .val (.int y2), .val (.int d0), .val (.int d1), .val (.int d2), .val (.int z13), .val (.int z14), .val (.int (2 : Int32)), .val (.int d2)] [(.int (1 : Int32))]) (fun _ kz => XS.iconst X431.here hx rfl (hb hby at_244) kz) ?_
              refine own_g (mkF m 249 #[.val (.int x0), .val (.int x1), .val (.int x2), .val (.int x3), .val (.int x4), .val (.ref o394), .val (.ref o403), .val (.int y0), .val (.int y1), .val (.int y2), .val (.int d0), .val (.int d1), .val (.int d2), .val (.int z13), .val (.int z14), .val (.int (2 : Int32)), .val (.int d2)] [(.int (1 : Int32))]) (fun _ kz => XS.goto X431.here hx rfl (pc0 := 245) (pc' := 249) rfl (hb hby at_245) (by decide) (by decide) kz) ?_
              exact own_retZ X431 hx hret hlk (hb hby at_249) rfl (by decide) (by decide) (by first | exact ⟨rfl, N431⟩ | (rw [e431]; exact ⟨rfl, N431⟩))
            · refine own_g (mkF m 234 #[.val (.int x0), .val (.int x1), .val (.int x2), .val (.int x3), .val (.int x4), .val (.ref o394), .val (.ref o403), .val (.int y0), .val (.int y1), .val (.int y2), .val (.int d0), .val (.int d1), .val (.int d2), .val (.int z13), .val (.int z14), .val (.int (0 : Int32)), .val (.int d0)] []) (fun _ kz => XS.icmpYes X.here hx rfl (pc0 := 224) (pc' := 234) rfl (hb hby at_224) rfl (flt hc224_430).2.1 (by decide) (by decide) kz) ?_
              refine own_g (mkF m 236 #[.val (.int x0), .val (.int x1), .val (.int x2), .val (.int x3), .val (.int x4), .val (.ref o394), .val (.ref o403), .val (.int y0), .val (.int y1), .val (.int y2), .val (.int d0), .val (.int d1), .val (.int d2), .val (.int z13), .val (.int z14), .val (.int (0 : Int32)), .val (.int d0)] [(.ref o403)]) (fun _ kz => XS.aload X.here hx rfl (hb hby at_234) rfl rfl kz) ?_
              refine own_callV (rest := []) (a := o403) (as := []) X hx hZ hown rfl (own_c_lea l Z a0 hw o403 o394 zb wb fc fo fw T.heap n0 zz hd S) S.1 (own_w hw 49 rfl) (own_w hw 50 rfl) (own_w hw 52 rfl) (own_w hw 51 rfl) (own_w hw 3 rfl) (own_w hw 53 rfl) (by decide) own_pd6 rfl (by rw [hml]; rfl) rfl (hb hby at_236) 0 (by show 2 * 0 + _ ≤ _; exact Nat.le_of_eq rfl) (by decide) (by decide) (by decide) (by decide) ?_
              rintro _ T432 L432 X432 ⟨rfl, rfl, e432⟩
              have N432 := Fr.app N (Fr.nil n0)
              show own_E p e below _ (T432.setTop (mkF m 239 #[.val (.int x0), .val (.int x1), .val (.int x2), .val (.int x3), .val (.int x4), .val (.ref o394), .val (.ref o403), .val (.int y0), .val (.int y1), .val (.int y2), .val (.int d0), .val (.int d1), .val (.int d2), .val (.int z13), .val (.int z14), .val (.int (0 : Int32)), .val (.int d0)] [(.int (own_ls fo fw))]))
              refine own_g (mkF m 241 #[.val (.int x0), .val (.int x1), .val (.int x2), .val (.int x3), .val (.int x4), .val (.ref o394), .val (.ref o403), .val (.int y0), .val (.int y1), .val (.int y2), .val (.int d0), .val (.int d1), .val (.int d2), .val (.int z13), .val (.int z14), .val (.int (0 : Int32)), .val (.int d0)] [(.int (0 : Int32)), (.int (own_ls fo fw))]) (fun _ kz => XS.iload X432.here hx rfl (hb hby at_239) rfl kz) ?_
              refine own_g (mkF m 244 #[.val (.int x0), .val (.int x1), .val (.int x2), .val (.int x3), .val (.int x4), .val (.ref o394), .val (.ref o403), .val (.int y0), .val (.int y1), .val (.int y2), .val (.int d0), .val (.int d1), .val (.int d2), .val (.int z13), .val (.int z14), .val (.int (0 : Int32)), .val (.int d0)] []) (fun _ kz => XS.icmpNo X432.here hx rfl (hb hby at_241) rfl (teq (by
                have t1 := W.2.2.2.2.2.2
                have i0 : (0 : Int32).toNatClampNeg = 0 := rfl
                have i1 : (1 : Int32).toNatClampNeg = 1 := rfl
                have i2 : (2 : Int32).toNatClampNeg = 2 := rfl
                simp [own_ls, t1, own_mt, i0, i1, i2, ho0, ho1, ho2, k0, k1, k2, hc176_416, hc188_417, hc212_429, hc224_430])).2 kz) ?_
              refine own_g (mkF m 245 #[.val (.int x0), .val (.int x1), .val (.int x2), .val (.int x3), .val (.int x4), .val (.ref o394), .val (.ref o403), .val (.int y0), .val (.int y1), .val (.int y2), .val (.int d0), .val (.int d1), .val (.int d2), .val (.int z13), .val (.int z14), .val (.int (0 : Int32)), .val (.int d0)] [(.int (1 : Int32))]) (fun _ kz => XS.iconst X432.here hx rfl (hb hby at_244) kz) ?_
              refine own_g (mkF m 249 #[.val (.int x0), .val (.int x1), .val (.int x2), .val (.int x3), .val (.int x4), .val (.ref o394), .val (.ref o403), .val (.int y0), .val (.int y1), .val (.int y2), .val (.int d0), .val (.int d1), .val (.int d2), .val (.int z13), .val (.int z14), .val (.int (0 : Int32)), .val (.int d0)] [(.int (1 : Int32))]) (fun _ kz => XS.goto X432.here hx rfl (pc0 := 245) (pc' := 249) rfl (hb hby at_245) (by decide) (by decide) kz) ?_
              exact own_retZ X432 hx hret hlk (hb hby at_249) rfl (by decide) (by decide) (by first | exact ⟨rfl, N432⟩ | (rw [e432]; exact ⟨rfl, N432⟩))
          · refine own_g (mkF m 234 #[.val (.int x0), .val (.int x1), .val (.int x2), .val (.int x3), .val (.int x4), .val (.ref o394), .val (.ref o403), .val (.int y0), .val (.int y1), .val (.int y2), .val (.int d0), .val (.int d1), .val (.int d2), .val (.int z13), .val (.int z14), .val (.int (0 : Int32)), .val (.int d0)] []) (fun _ kz => XS.ifYes X.here hx rfl (pc0 := 212) (pc' := 234) rfl (hb hby at_212) rfl ((if0 _ _).trans (feq hc212_429).2) (by decide) (by decide) kz) ?_
            refine own_g (mkF m 236 #[.val (.int x0), .val (.int x1), .val (.int x2), .val (.int x3), .val (.int x4), .val (.ref o394), .val (.ref o403), .val (.int y0), .val (.int y1), .val (.int y2), .val (.int d0), .val (.int d1), .val (.int d2), .val (.int z13), .val (.int z14), .val (.int (0 : Int32)), .val (.int d0)] [(.ref o403)]) (fun _ kz => XS.aload X.here hx rfl (hb hby at_234) rfl rfl kz) ?_
            refine own_callV (rest := []) (a := o403) (as := []) X hx hZ hown rfl (own_c_lea l Z a0 hw o403 o394 zb wb fc fo fw T.heap n0 zz hd S) S.1 (own_w hw 49 rfl) (own_w hw 50 rfl) (own_w hw 52 rfl) (own_w hw 51 rfl) (own_w hw 3 rfl) (own_w hw 53 rfl) (by decide) own_pd6 rfl (by rw [hml]; rfl) rfl (hb hby at_236) 0 (by show 2 * 0 + _ ≤ _; exact Nat.le_of_eq rfl) (by decide) (by decide) (by decide) (by decide) ?_
            rintro _ T433 L433 X433 ⟨rfl, rfl, e433⟩
            have N433 := Fr.app N (Fr.nil n0)
            show own_E p e below _ (T433.setTop (mkF m 239 #[.val (.int x0), .val (.int x1), .val (.int x2), .val (.int x3), .val (.int x4), .val (.ref o394), .val (.ref o403), .val (.int y0), .val (.int y1), .val (.int y2), .val (.int d0), .val (.int d1), .val (.int d2), .val (.int z13), .val (.int z14), .val (.int (0 : Int32)), .val (.int d0)] [(.int (own_ls fo fw))]))
            refine own_g (mkF m 241 #[.val (.int x0), .val (.int x1), .val (.int x2), .val (.int x3), .val (.int x4), .val (.ref o394), .val (.ref o403), .val (.int y0), .val (.int y1), .val (.int y2), .val (.int d0), .val (.int d1), .val (.int d2), .val (.int z13), .val (.int z14), .val (.int (0 : Int32)), .val (.int d0)] [(.int (0 : Int32)), (.int (own_ls fo fw))]) (fun _ kz => XS.iload X433.here hx rfl (hb hby at_239) rfl kz) ?_
            refine own_g (mkF m 244 #[.val (.int x0), .val (.int x1), .val (.int x2), .val (.int x3), .val (.int x4), .val (.ref o394), .val (.ref o403), .val (.int y0), .val (.int y1), .val (.int y2), .val (.int d0), .val (.int d1), .val (.int d2), .val (.int z13), .val (.int z14), .val (.int (0 : Int32)), .val (.int d0)] []) (fun _ kz => XS.icmpNo X433.here hx rfl (hb hby at_241) rfl (teq (by
              have t1 := W.2.2.2.2.2.2
              have i0 : (0 : Int32).toNatClampNeg = 0 := rfl
              have i1 : (1 : Int32).toNatClampNeg = 1 := rfl
              have i2 : (2 : Int32).toNatClampNeg = 2 := rfl
              simp [own_ls, t1, own_mt, i0, i1, i2, ho0, ho1, ho2, k0, k1, k2, hc176_416, hc188_417, hc212_429])).2 kz) ?_
            refine own_g (mkF m 245 #[.val (.int x0), .val (.int x1), .val (.int x2), .val (.int x3), .val (.int x4), .val (.ref o394), .val (.ref o403), .val (.int y0), .val (.int y1), .val (.int y2), .val (.int d0), .val (.int d1), .val (.int d2), .val (.int z13), .val (.int z14), .val (.int (0 : Int32)), .val (.int d0)] [(.int (1 : Int32))]) (fun _ kz => XS.iconst X433.here hx rfl (hb hby at_244) kz) ?_
            refine own_g (mkF m 249 #[.val (.int x0), .val (.int x1), .val (.int x2), .val (.int x3), .val (.int x4), .val (.ref o394), .val (.ref o403), .val (.int y0), .val (.int y1), .val (.int y2), .val (.int d0), .val (.int d1), .val (.int d2), .val (.int z13), .val (.int z14), .val (.int (0 : Int32)), .val (.int d0)] [(.int (1 : Int32))]) (fun _ kz => XS.goto X433.here hx rfl (pc0 := 245) (pc' := 249) rfl (hb hby at_245) (by decide) (by decide) kz) ?_
            exact own_retZ X433 hx hret hlk (hb hby at_249) rfl (by decide) (by decide) (by first | exact ⟨rfl, N433⟩ | (rw [e433]; exact ⟨rfl, N433⟩))
      · refine own_g (mkF m 186 #[.val (.int x0), .val (.int x1), .val (.int x2), .val (.int x3), .val (.int x4), .val (.ref o394), .val (.ref o403), .val (.int y0), .val (.int y1), .val (.int y2), .val (.int d0), .val (.int d1), .val (.int d2), .val (.int z13), .val (.int z14), .val (.int (-1 : Int32)), .val (.int (0 : Int32))] []) (fun _ kz => XS.ifYes X.here hx rfl (pc0 := 176) (pc' := 186) rfl (hb hby at_176) rfl ((if0 _ _).trans (feq hc176_416).2) (by decide) (by decide) kz) ?_
        refine own_g (mkF m 188 #[.val (.int x0), .val (.int x1), .val (.int x2), .val (.int x3), .val (.int x4), .val (.ref o394), .val (.ref o403), .val (.int y0), .val (.int y1), .val (.int y2), .val (.int d0), .val (.int d1), .val (.int d2), .val (.int z13), .val (.int z14), .val (.int (-1 : Int32)), .val (.int (0 : Int32))] [(.int y1)]) (fun _ kz => XS.iload X.here hx rfl (hb hby at_186) rfl kz) ?_
        by_cases hc188_434 : y1 = (0 : Int32)
        · refine own_g (mkF m 191 #[.val (.int x0), .val (.int x1), .val (.int x2), .val (.int x3), .val (.int x4), .val (.ref o394), .val (.ref o403), .val (.int y0), .val (.int y1), .val (.int y2), .val (.int d0), .val (.int d1), .val (.int d2), .val (.int z13), .val (.int z14), .val (.int (-1 : Int32)), .val (.int (0 : Int32))] []) (fun _ kz => XS.ifNo X.here hx rfl (hb hby at_188) rfl ((if0 _ _).trans (teq hc188_434).2) kz) ?_
          refine own_g (mkF m 193 #[.val (.int x0), .val (.int x1), .val (.int x2), .val (.int x3), .val (.int x4), .val (.ref o394), .val (.ref o403), .val (.int y0), .val (.int y1), .val (.int y2), .val (.int d0), .val (.int d1), .val (.int d2), .val (.int z13), .val (.int z14), .val (.int (-1 : Int32)), .val (.int (0 : Int32))] [(.int (-1 : Int32))]) (fun _ kz => XS.iload X.here hx rfl (hb hby at_191) rfl kz) ?_
          refine own_g (mkF m 203 #[.val (.int x0), .val (.int x1), .val (.int x2), .val (.int x3), .val (.int x4), .val (.ref o394), .val (.ref o403), .val (.int y0), .val (.int y1), .val (.int y2), .val (.int d0), .val (.int d1), .val (.int d2), .val (.int z13), .val (.int z14), .val (.int (-1 : Int32)), .val (.int (0 : Int32))] []) (fun _ kz => XS.ifYes X.here hx rfl (pc0 := 193) (pc' := 203) rfl (hb hby at_193) rfl ((if0 _ _).trans (tlt (by decide)).1) (by decide) (by decide) kz) ?_
          refine own_g (mkF m 204 #[.val (.int x0), .val (.int x1), .val (.int x2), .val (.int x3), .val (.int x4), .val (.ref o394), .val (.ref o403), .val (.int y0), .val (.int y1), .val (.int y2), .val (.int d0), .val (.int d1), .val (.int d2), .val (.int z13), .val (.int z14), .val (.int (-1 : Int32)), .val (.int (0 : Int32))] [(.int (1 : Int32))]) (fun _ kz => XS.iconst X.here hx rfl (hb hby at_203) kz) ?_
          refine own_g (mkF m 206 #[.val (.int x0), .val (.int x1), .val (.int x2), .val (.int x3), .val (.int x4), .val (.ref o394), .val (.ref o403), .val (.int y0), .val (.int y1), .val (.int y2), .val (.int d0), .val (.int d1), .val (.int d2), .val (.int z13), .val (.int z14), .val (.int (1 : Int32)), .val (.int (0 : Int32))] []) (fun _ kz => XS.istore X.here hx rfl (hb hby at_204) rfl (l' := #[.val (.int x0), .val (.int x1), .val (.int x2), .val (.int x3), .val (.int x4), .val (.ref o394), .val (.ref o403), .val (.int y0), .val (.int y1), .val (.int y2), .val (.int d0), .val (.int d1), .val (.int d2), .val (.int z13), .val (.int z14), .val (.int (1 : Int32)), .val (.int (0 : Int32))]) rfl kz) ?_
          refine own_g (mkF m 208 #[.val (.int x0), .val (.int x1), .val (.int x2), .val (.int x3), .val (.int x4), .val (.ref o394), .val (.ref o403), .val (.int y0), .val (.int y1), .val (.int y2), .val (.int d0), .val (.int d1), .val (.int d2), .val (.int z13), .val (.int z14), .val (.int (1 : Int32)), .val (.int (0 : Int32))] [(.int d1)]) (fun _ kz => XS.iload X.here hx rfl (hb hby at_206) rfl kz) ?_
          refine own_g (mkF m 210 #[.val (.int x0), .val (.int x1), .val (.int x2), .val (.int x3), .val (.int x4), .val (.ref o394), .val (.ref o403), .val (.int y0), .val (.int y1), .val (.int y2), .val (.int d0), .val (.int d1), .val (.int d2), .val (.int z13), .val (.int z14), .val (.int (1 : Int32)), .val (.int d1)] []) (fun _ kz => XS.istore X.here hx rfl (hb hby at_208) rfl (l' := #[.val (.int x0), .val (.int x1), .val (.int x2), .val (.int x3), .val (.int x4), .val (.ref o394), .val (.ref o403), .val (.int y0), .val (.int y1), .val (.int y2), .val (.int d0), .val (.int d1), .val (.int d2), .val (.int z13), .val (.int z14), .val (.int (1 : Int32)), .val (.int d1)]) rfl kz) ?_
          refine own_g (mkF m 212 #[.val (.int x0), .val (.int x1), .val (.int x2), .val (.int x3), .val (.int x4), .val (.ref o394), .val (.ref o403), .val (.int y0), .val (.int y1), .val (.int y2), .val (.int d0), .val (.int d1), .val (.int d2), .val (.int z13), .val (.int z14), .val (.int (1 : Int32)), .val (.int d1)] [(.int y2)]) (fun _ kz => XS.iload X.here hx rfl (hb hby at_210) rfl kz) ?_
          by_cases hc212_435 : y2 = (0 : Int32)
          · refine own_g (mkF m 215 #[.val (.int x0), .val (.int x1), .val (.int x2), .val (.int x3), .val (.int x4), .val (.ref o394), .val (.ref o403), .val (.int y0), .val (.int y1), .val (.int y2), .val (.int d0), .val (.int d1), .val (.int d2), .val (.int z13), .val (.int z14), .val (.int (1 : Int32)), .val (.int d1)] []) (fun _ kz => XS.ifNo X.here hx rfl (hb hby at_212) rfl ((if0 _ _).trans (teq hc212_435).2) kz) ?_
            refine own_g (mkF m 217 #[.val (.int x0), .val (.int x1), .val (.int x2), .val (.int x3), .val (.int x4), .val (.ref o394), .val (.ref o403), .val (.int y0), .val (.int y1), .val (.int y2), .val (.int d0), .val (.int d1), .val (.int d2), .val (.int z13), .val (.int z14), .val (.int (1 : Int32)), .val (.int d1)] [(.int (1 : Int32))]) (fun _ kz => XS.iload X.here hx rfl (hb hby at_215) rfl kz) ?_
            refine own_g (mkF m 220 #[.val (.int x0), .val (.int x1), .val (.int x2), .val (.int x3), .val (.int x4), .val (.ref o394), .val (.ref o403), .val (.int y0), .val (.int y1), .val (.int y2), .val (.int d0), .val (.int d1), .val (.int d2), .val (.int z13), .val (.int z14), .val (.int (1 : Int32)), .val (.int d1)] []) (fun _ kz => XS.ifNo X.here hx rfl (hb hby at_217) rfl ((if0 _ _).trans (flt (by decide)).1) kz) ?_
            refine own_g (mkF m 222 #[.val (.int x0), .val (.int x1), .val (.int x2), .val (.int x3), .val (.int x4), .val (.ref o394), .val (.ref o403), .val (.int y0), .val (.int y1), .val (.int y2), .val (.int d0), .val (.int d1), .val (.int d2), .val (.int z13), .val (.int z14), .val (.int (1 : Int32)), .val (.int d1)] [(.int d2)]) (fun _ kz => XS.iload X.here hx rfl (hb hby at_220) rfl kz) ?_
            refine own_g (mkF m 224 #[.val (.int x0), .val (.int x1), .val (.int x2), .val (.int x3), .val (.int x4), .val (.ref o394), .val (.ref o403), .val (.int y0), .val (.int y1), .val (.int y2), .val (.int d0), .val (.int d1), .val (.int d2), .val (.int z13), .val (.int z14), .val (.int (1 : Int32)), .val (.int d1)] [(.int d1), (.int d2)]) (fun _ kz => XS.iload X.here hx rfl (hb hby at_222) rfl kz) ?_
            by_cases hc224_436 : d2 < d1
            · refine own_g (mkF m 227 #[.val (.int x0), .val (.int x1), .val (.int x2), .val (.int x3), .val (.int x4), .val (.ref o394), .val (.ref o403), .val (.int y0), .val (.int y1), .val (.int y2), .val (.int d0), .val (.int d1), .val (.int d2), .val (.int z13), .val (.int z14), .val (.int (1 : Int32)), .val (.int d1)] []) (fun _ kz => XS.icmpNo X.here hx rfl (hb hby at_224) rfl (tlt hc224_436).2.1 kz) ?_
              refine own_g (mkF m 228 #[.val (.int x0), .val (.int x1), .val (.int x2), .val (.int x3), .val (.int x4), .val (.ref o394), .val (.ref o403), .val (.int y0), .val (.int y1), .val (.int y2), .val (.int d0), .val (.int d1), .val (.int d2), .val (.int z13), .val (.int z14), .val (.int (1 : Int32)), .val (.int d1)] [(.int (2 : Int32))]) (fun _ kz => XS.iconst X.here hx rfl (hb hby at_227) kz) ?_
              refine own_g (mkF m 230 #[.val (.int x0), .val (.int x1), .val (.int x2), .val (.int x3), .val (.int x4), .val (.ref o394), .val (.ref o403), .val (.int y0), .val (.int y1), .val (.int y2), .val (.int d0), .val (.int d1), .val (.int d2), .val (.int z13), .val (.int z14), .val (.int (2 : Int32)), .val (.int d1)] []) (fun _ kz => XS.istore X.here hx rfl (hb hby at_228) rfl (l' := #[.val (.int x0), .val (.int x1), .val (.int x2), .val (.int x3), .val (.int x4), .val (.ref o394), .val (.ref o403), .val (.int y0), .val (.int y1), .val (.int y2), .val (.int d0), .val (.int d1), .val (.int d2), .val (.int z13), .val (.int z14), .val (.int (2 : Int32)), .val (.int d1)]) rfl kz) ?_
              refine own_g (mkF m 232 #[.val (.int x0), .val (.int x1), .val (.int x2), .val (.int x3), .val (.int x4), .val (.ref o394), .val (.ref o403), .val (.int y0), .val (.int y1), .val (.int y2), .val (.int d0), .val (.int d1), .val (.int d2), .val (.int z13), .val (.int z14), .val (.int (2 : Int32)), .val (.int d1)] [(.int d2)]) (fun _ kz => XS.iload X.here hx rfl (hb hby at_230) rfl kz) ?_
              refine own_g (mkF m 234 #[.val (.int x0), .val (.int x1), .val (.int x2), .val (.int x3), .val (.int x4), .val (.ref o394), .val (.ref o403), .val (.int y0), .val (.int y1), .val (.int y2), .val (.int d0), .val (.int d1), .val (.int d2), .val (.int z13), .val (.int z14), .val (.int (2 : Int32)), .val (.int d2)] []) (fun _ kz => XS.istore X.here hx rfl (hb hby at_232) rfl (l' := #[.val (.int x0), .val (.int x1), .val (.int x2), .val (.int x3), .val (.int x4), .val (.ref o394), .val (.ref o403), .val (.int y0), .val (.int y1), .val (.int y2), .val (.int d0), .val (.int d1), .val (.int d2), .val (.int z13), .val (.int z14), .val (.int (2 : Int32)), .val (.int d2)]) rfl kz) ?_
              refine own_g (mkF m 236 #[.val (.int x0), .val (.int x1), .val (.int x2), .val (.int x3), .val (.int x4), .val (.ref o394), .val (.ref o403), .val (.int y0), .val (.int y1), .val (.int y2), .val (.int d0), .val (.int d1), .val (.int d2), .val (.int z13), .val (.int z14), .val (.int (2 : Int32)), .val (.int d2)] [(.ref o403)]) (fun _ kz => XS.aload X.here hx rfl (hb hby at_234) rfl rfl kz) ?_
              refine own_callV (rest := []) (a := o403) (as := []) X hx hZ hown rfl (own_c_lea l Z a0 hw o403 o394 zb wb fc fo fw T.heap n0 zz hd S) S.1 (own_w hw 49 rfl) (own_w hw 50 rfl) (own_w hw 52 rfl) (own_w hw 51 rfl) (own_w hw 3 rfl) (own_w hw 53 rfl) (by decide) own_pd6 rfl (by rw [hml]; rfl) rfl (hb hby at_236) 0 (by show 2 * 0 + _ ≤ _; exact Nat.le_of_eq rfl) (by decide) (by decide) (by decide) (by decide) ?_
              rintro _ T437 L437 X437 ⟨rfl, rfl, e437⟩
              have N437 := Fr.app N (Fr.nil n0)
              show own_E p e below _ (T437.setTop (mkF m 239 #[.val (.int x0), .val (.int x1), .val (.int x2), .val (.int x3), .val (.int x4), .val (.ref o394), .val (.ref o403), .val (.int y0), .val (.int y1), .val (.int y2), .val (.int d0), .val (.int d1), .val (.int d2), .val (.int z13), .val (.int z14), .val (.int (2 : Int32)), .val (.int d2)] [(.int (own_ls fo fw))]))
              refine own_g (mkF m 241 #[.val (.int x0), .val (.int x1), .val (.int x2), .val (.int x3), .val (.int x4), .val (.ref o394), .val (.ref o403), .val (.int y0), .val (.int y1), .val (.int y2), .val (.int d0), .val (.int d1), .val (.int d2), .val (.int z13), .val (.int z14), .val (.int (2 : Int32)), .val (.int d2)] [(.int (2 : Int32)), (.int (own_ls fo fw))]) (fun _ kz => XS.iload X437.here hx rfl (hb hby at_239) rfl kz) ?_
              refine own_g (mkF m 244 #[.val (.int x0), .val (.int x1), .val (.int x2), .val (.int x3), .val (.int x4), .val (.ref o394), .val (.ref o403), .val (.int y0), .val (.int y1), .val (.int y2), .val (.int d0), .val (.int d1), .val (.int d2), .val (.int z13), .val (.int z14), .val (.int (2 : Int32)), .val (.int d2)] []) (fun _ kz => XS.icmpNo X437.here hx rfl (hb hby at_241) rfl (teq (by
                have t1 := W.2.2.2.2.2.2
                have i0 : (0 : Int32).toNatClampNeg = 0 := rfl
                have i1 : (1 : Int32).toNatClampNeg = 1 := rfl
                have i2 : (2 : Int32).toNatClampNeg = 2 := rfl
                simp [own_ls, t1, own_mt, i0, i1, i2, ho0, ho1, ho2, k0, k1, k2, hc176_416, hc188_434, hc212_435, hc224_436])).2 kz) ?_
              refine own_g (mkF m 245 #[.val (.int x0), .val (.int x1), .val (.int x2), .val (.int x3), .val (.int x4), .val (.ref o394), .val (.ref o403), .val (.int y0), .val (.int y1), .val (.int y2), .val (.int d0), .val (.int d1), .val (.int d2), .val (.int z13), .val (.int z14), .val (.int (2 : Int32)), .val (.int d2)] [(.int (1 : Int32))]) (fun _ kz => XS.iconst X437.here hx rfl (hb hby at_244) kz) ?_
              refine own_g (mkF m 249 #[.val (.int x0), .val (.int x1), .val (.int x2), .val (.int x3), .val (.int x4), .val (.ref o394), .val (.ref o403), .val (.int y0), .val (.int y1), .val (.int y2), .val (.int d0), .val (.int d1), .val (.int d2), .val (.int z13), .val (.int z14), .val (.int (2 : Int32)), .val (.int d2)] [(.int (1 : Int32))]) (fun _ kz => XS.goto X437.here hx rfl (pc0 := 245) (pc' := 249) rfl (hb hby at_245) (by decide) (by decide) kz) ?_
              exact own_retZ X437 hx hret hlk (hb hby at_249) rfl (by decide) (by decide) (by first | exact ⟨rfl, N437⟩ | (rw [e437]; exact ⟨rfl, N437⟩))
            · refine own_g (mkF m 234 #[.val (.int x0), .val (.int x1), .val (.int x2), .val (.int x3), .val (.int x4), .val (.ref o394), .val (.ref o403), .val (.int y0), .val (.int y1), .val (.int y2), .val (.int d0), .val (.int d1), .val (.int d2), .val (.int z13), .val (.int z14), .val (.int (1 : Int32)), .val (.int d1)] []) (fun _ kz => XS.icmpYes X.here hx rfl (pc0 := 224) (pc' := 234) rfl (hb hby at_224) rfl (flt hc224_436).2.1 (by decide) (by decide) kz) ?_
              refine own_g (mkF m 236 #[.val (.int x0), .val (.int x1), .val (.int x2), .val (.int x3), .val (.int x4), .val (.ref o394), .val (.ref o403), .val (.int y0), .val (.int y1), .val (.int y2), .val (.int d0), .val (.int d1), .val (.int d2), .val (.int z13), .val (.int z14), .val (.int (1 : Int32)), .val (.int d1)] [(.ref o403)]) (fun _ kz => XS.aload X.here hx rfl (hb hby at_234) rfl rfl kz) ?_
              refine own_callV (rest := []) (a := o403) (as := []) X hx hZ hown rfl (own_c_lea l Z a0 hw o403 o394 zb wb fc fo fw T.heap n0 zz hd S) S.1 (own_w hw 49 rfl) (own_w hw 50 rfl) (own_w hw 52 rfl) (own_w hw 51 rfl) (own_w hw 3 rfl) (own_w hw 53 rfl) (by decide) own_pd6 rfl (by rw [hml]; rfl) rfl (hb hby at_236) 0 (by show 2 * 0 + _ ≤ _; exact Nat.le_of_eq rfl) (by decide) (by decide) (by decide) (by decide) ?_
              rintro _ T438 L438 X438 ⟨rfl, rfl, e438⟩
              have N438 := Fr.app N (Fr.nil n0)
              show own_E p e below _ (T438.setTop (mkF m 239 #[.val (.int x0), .val (.int x1), .val (.int x2), .val (.int x3), .val (.int x4), .val (.ref o394), .val (.ref o403), .val (.int y0), .val (.int y1), .val (.int y2), .val (.int d0), .val (.int d1), .val (.int d2), .val (.int z13), .val (.int z14), .val (.int (1 : Int32)), .val (.int d1)] [(.int (own_ls fo fw))]))
              refine own_g (mkF m 241 #[.val (.int x0), .val (.int x1), .val (.int x2), .val (.int x3), .val (.int x4), .val (.ref o394), .val (.ref o403), .val (.int y0), .val (.int y1), .val (.int y2), .val (.int d0), .val (.int d1), .val (.int d2), .val (.int z13), .val (.int z14), .val (.int (1 : Int32)), .val (.int d1)] [(.int (1 : Int32)), (.int (own_ls fo fw))]) (fun _ kz => XS.iload X438.here hx rfl (hb hby at_239) rfl kz) ?_
              refine own_g (mkF m 244 #[.val (.int x0), .val (.int x1), .val (.int x2), .val (.int x3), .val (.int x4), .val (.ref o394), .val (.ref o403), .val (.int y0), .val (.int y1), .val (.int y2), .val (.int d0), .val (.int d1), .val (.int d2), .val (.int z13), .val (.int z14), .val (.int (1 : Int32)), .val (.int d1)] []) (fun _ kz => XS.icmpNo X438.here hx rfl (hb hby at_241) rfl (teq (by
                have t1 := W.2.2.2.2.2.2
                have i0 : (0 : Int32).toNatClampNeg = 0 := rfl
                have i1 : (1 : Int32).toNatClampNeg = 1 := rfl
                have i2 : (2 : Int32).toNatClampNeg = 2 := rfl
                simp [own_ls, t1, own_mt, i0, i1, i2, ho0, ho1, ho2, k0, k1, k2, hc176_416, hc188_434, hc212_435, hc224_436])).2 kz) ?_
              refine own_g (mkF m 245 #[.val (.int x0), .val (.int x1), .val (.int x2), .val (.int x3), .val (.int x4), .val (.ref o394), .val (.ref o403), .val (.int y0), .val (.int y1), .val (.int y2), .val (.int d0), .val (.int d1), .val (.int d2), .val (.int z13), .val (.int z14), .val (.int (1 : Int32)), .val (.int d1)] [(.int (1 : Int32))]) (fun _ kz => XS.iconst X438.here hx rfl (hb hby at_244) kz) ?_
              refine own_g (mkF m 249 #[.val (.int x0), .val (.int x1), .val (.int x2), .val (.int x3), .val (.int x4), .val (.ref o394), .val (.ref o403), .val (.int y0), .val (.int y1), .val (.int y2), .val (.int d0), .val (.int d1), .val (.int d2), .val (.int z13), .val (.int z14), .val (.int (1 : Int32)), .val (.int d1)] [(.int (1 : Int32))]) (fun _ kz => XS.goto X438.here hx rfl (pc0 := 245) (pc' := 249) rfl (hb hby at_245) (by decide) (by decide) kz) ?_
              exact own_retZ X438 hx hret hlk (hb hby at_249) rfl (by decide) (by decide) (by first | exact ⟨rfl, N438⟩ | (rw [e438]; exact ⟨rfl, N438⟩))
          · refine own_g (mkF m 234 #[.val (.int x0), .val (.int x1), .val (.int x2), .val (.int x3), .val (.int x4), .val (.ref o394), .val (.ref o403), .val (.int y0), .val (.int y1), .val (.int y2), .val (.int d0), .val (.int d1), .val (.int d2), .val (.int z13), .val (.int z14), .val (.int (1 : Int32)), .val (.int d1)] []) (fun _ kz => XS.ifYes X.here hx rfl (pc0 := 212) (pc' := 234) rfl (hb hby at_212) rfl ((if0 _ _).trans (feq hc212_435).2) (by decide) (by decide) kz) ?_
            refine own_g (mkF m 236 #[.val (.int x0), .val (.int x1), .val (.int x2), .val (.int x3), .val (.int x4), .val (.ref o394), .val (.ref o403), .val (.int y0), .val (.int y1), .val (.int y2), .val (.int d0), .val (.int d1), .val (.int d2), .val (.int z13), .val (.int z14), .val (.int (1 : Int32)), .val (.int d1)] [(.ref o403)]) (fun _ kz => XS.aload X.here hx rfl (hb hby at_234) rfl rfl kz) ?_
            refine own_callV (rest := []) (a := o403) (as := []) X hx hZ hown rfl (own_c_lea l Z a0 hw o403 o394 zb wb fc fo fw T.heap n0 zz hd S) S.1 (own_w hw 49 rfl) (own_w hw 50 rfl) (own_w hw 52 rfl) (own_w hw 51 rfl) (own_w hw 3 rfl) (own_w hw 53 rfl) (by decide) own_pd6 rfl (by rw [hml]; rfl) rfl (hb hby at_236) 0 (by show 2 * 0 + _ ≤ _; exact Nat.le_of_eq rfl) (by decide) (by decide) (by decide) (by decide) ?_
            rintro _ T439 L439 X439 ⟨rfl, rfl, e439⟩
            have N439 := Fr.app N (Fr.nil n0)
            show own_E p e below _ (T439.setTop (mkF m 239 #[.val (.int x0), .val (.int x1), .val (.int x2), .val (.int x3), .val (.int x4), .val (.ref o394), .val (.ref o403), .val (.int y0), .val (.int y1), .val (.int y2), .val (.int d0), .val (.int d1), .val (.int d2), .val (.int z13), .val (.int z14), .val (.int (1 : Int32)), .val (.int d1)] [(.int (own_ls fo fw))]))
            refine own_g (mkF m 241 #[.val (.int x0), .val (.int x1), .val (.int x2), .val (.int x3), .val (.int x4), .val (.ref o394), .val (.ref o403), .val (.int y0), .val (.int y1), .val (.int y2), .val (.int d0), .val (.int d1), .val (.int d2), .val (.int z13), .val (.int z14), .val (.int (1 : Int32)), .val (.int d1)] [(.int (1 : Int32)), (.int (own_ls fo fw))]) (fun _ kz => XS.iload X439.here hx rfl (hb hby at_239) rfl kz) ?_
            refine own_g (mkF m 244 #[.val (.int x0), .val (.int x1), .val (.int x2), .val (.int x3), .val (.int x4), .val (.ref o394), .val (.ref o403), .val (.int y0), .val (.int y1), .val (.int y2), .val (.int d0), .val (.int d1), .val (.int d2), .val (.int z13), .val (.int z14), .val (.int (1 : Int32)), .val (.int d1)] []) (fun _ kz => XS.icmpNo X439.here hx rfl (hb hby at_241) rfl (teq (by
              have t1 := W.2.2.2.2.2.2
              have i0 : (0 : Int32).toNatClampNeg = 0 := rfl
              have i1 : (1 : Int32).toNatClampNeg = 1 := rfl
              have i2 : (2 : Int32).toNatClampNeg = 2 := rfl
              simp [own_ls, t1, own_mt, i0, i1, i2, ho0, ho1, ho2, k0, k1, k2, hc176_416, hc188_434, hc212_435])).2 kz) ?_
            refine own_g (mkF m 245 #[.val (.int x0), .val (.int x1), .val (.int x2), .val (.int x3), .val (.int x4), .val (.ref o394), .val (.ref o403), .val (.int y0), .val (.int y1), .val (.int y2), .val (.int d0), .val (.int d1), .val (.int d2), .val (.int z13), .val (.int z14), .val (.int (1 : Int32)), .val (.int d1)] [(.int (1 : Int32))]) (fun _ kz => XS.iconst X439.here hx rfl (hb hby at_244) kz) ?_
            refine own_g (mkF m 249 #[.val (.int x0), .val (.int x1), .val (.int x2), .val (.int x3), .val (.int x4), .val (.ref o394), .val (.ref o403), .val (.int y0), .val (.int y1), .val (.int y2), .val (.int d0), .val (.int d1), .val (.int d2), .val (.int z13), .val (.int z14), .val (.int (1 : Int32)), .val (.int d1)] [(.int (1 : Int32))]) (fun _ kz => XS.goto X439.here hx rfl (pc0 := 245) (pc' := 249) rfl (hb hby at_245) (by decide) (by decide) kz) ?_
            exact own_retZ X439 hx hret hlk (hb hby at_249) rfl (by decide) (by decide) (by first | exact ⟨rfl, N439⟩ | (rw [e439]; exact ⟨rfl, N439⟩))
        · refine own_g (mkF m 210 #[.val (.int x0), .val (.int x1), .val (.int x2), .val (.int x3), .val (.int x4), .val (.ref o394), .val (.ref o403), .val (.int y0), .val (.int y1), .val (.int y2), .val (.int d0), .val (.int d1), .val (.int d2), .val (.int z13), .val (.int z14), .val (.int (-1 : Int32)), .val (.int (0 : Int32))] []) (fun _ kz => XS.ifYes X.here hx rfl (pc0 := 188) (pc' := 210) rfl (hb hby at_188) rfl ((if0 _ _).trans (feq hc188_434).2) (by decide) (by decide) kz) ?_
          refine own_g (mkF m 212 #[.val (.int x0), .val (.int x1), .val (.int x2), .val (.int x3), .val (.int x4), .val (.ref o394), .val (.ref o403), .val (.int y0), .val (.int y1), .val (.int y2), .val (.int d0), .val (.int d1), .val (.int d2), .val (.int z13), .val (.int z14), .val (.int (-1 : Int32)), .val (.int (0 : Int32))] [(.int y2)]) (fun _ kz => XS.iload X.here hx rfl (hb hby at_210) rfl kz) ?_
          by_cases hc212_440 : y2 = (0 : Int32)
          · refine own_g (mkF m 215 #[.val (.int x0), .val (.int x1), .val (.int x2), .val (.int x3), .val (.int x4), .val (.ref o394), .val (.ref o403), .val (.int y0), .val (.int y1), .val (.int y2), .val (.int d0), .val (.int d1), .val (.int d2), .val (.int z13), .val (.int z14), .val (.int (-1 : Int32)), .val (.int (0 : Int32))] []) (fun _ kz => XS.ifNo X.here hx rfl (hb hby at_212) rfl ((if0 _ _).trans (teq hc212_440).2) kz) ?_
            refine own_g (mkF m 217 #[.val (.int x0), .val (.int x1), .val (.int x2), .val (.int x3), .val (.int x4), .val (.ref o394), .val (.ref o403), .val (.int y0), .val (.int y1), .val (.int y2), .val (.int d0), .val (.int d1), .val (.int d2), .val (.int z13), .val (.int z14), .val (.int (-1 : Int32)), .val (.int (0 : Int32))] [(.int (-1 : Int32))]) (fun _ kz => XS.iload X.here hx rfl (hb hby at_215) rfl kz) ?_
            refine own_g (mkF m 227 #[.val (.int x0), .val (.int x1), .val (.int x2), .val (.int x3), .val (.int x4), .val (.ref o394), .val (.ref o403), .val (.int y0), .val (.int y1), .val (.int y2), .val (.int d0), .val (.int d1), .val (.int d2), .val (.int z13), .val (.int z14), .val (.int (-1 : Int32)), .val (.int (0 : Int32))] []) (fun _ kz => XS.ifYes X.here hx rfl (pc0 := 217) (pc' := 227) rfl (hb hby at_217) rfl ((if0 _ _).trans (tlt (by decide)).1) (by decide) (by decide) kz) ?_
            refine own_g (mkF m 228 #[.val (.int x0), .val (.int x1), .val (.int x2), .val (.int x3), .val (.int x4), .val (.ref o394), .val (.ref o403), .val (.int y0), .val (.int y1), .val (.int y2), .val (.int d0), .val (.int d1), .val (.int d2), .val (.int z13), .val (.int z14), .val (.int (-1 : Int32)), .val (.int (0 : Int32))] [(.int (2 : Int32))]) (fun _ kz => XS.iconst X.here hx rfl (hb hby at_227) kz) ?_
            refine own_g (mkF m 230 #[.val (.int x0), .val (.int x1), .val (.int x2), .val (.int x3), .val (.int x4), .val (.ref o394), .val (.ref o403), .val (.int y0), .val (.int y1), .val (.int y2), .val (.int d0), .val (.int d1), .val (.int d2), .val (.int z13), .val (.int z14), .val (.int (2 : Int32)), .val (.int (0 : Int32))] []) (fun _ kz => XS.istore X.here hx rfl (hb hby at_228) rfl (l' := #[.val (.int x0), .val (.int x1), .val (.int x2), .val (.int x3), .val (.int x4), .val (.ref o394), .val (.ref o403), .val (.int y0), .val (.int y1), .val (.int y2), .val (.int d0), .val (.int d1), .val (.int d2), .val (.int z13), .val (.int z14), .val (.int (2 : Int32)), .val (.int (0 : Int32))]) rfl kz) ?_
            refine own_g (mkF m 232 #[.val (.int x0), .val (.int x1), .val (.int x2), .val (.int x3), .val (.int x4), .val (.ref o394), .val (.ref o403), .val (.int y0), .val (.int y1), .val (.int y2), .val (.int d0), .val (.int d1), .val (.int d2), .val (.int z13), .val (.int z14), .val (.int (2 : Int32)), .val (.int (0 : Int32))] [(.int d2)]) (fun _ kz => XS.iload X.here hx rfl (hb hby at_230) rfl kz) ?_
            refine own_g (mkF m 234 #[.val (.int x0), .val (.int x1), .val (.int x2), .val (.int x3), .val (.int x4), .val (.ref o394), .val (.ref o403), .val (.int y0), .val (.int y1), .val (.int y2), .val (.int d0), .val (.int d1), .val (.int d2), .val (.int z13), .val (.int z14), .val (.int (2 : Int32)), .val (.int d2)] []) (fun _ kz => XS.istore X.here hx rfl (hb hby at_232) rfl (l' := #[.val (.int x0), .val (.int x1), .val (.int x2), .val (.int x3), .val (.int x4), .val (.ref o394), .val (.ref o403), .val (.int y0), .val (.int y1), .val (.int y2), .val (.int d0), .val (.int d1), .val (.int d2), .val (.int z13), .val (.int z14), .val (.int (2 : Int32)), .val (.int d2)]) rfl kz) ?_
            refine own_g (mkF m 236 #[.val (.int x0), .val (.int x1), .val (.int x2), .val (.int x3), .val (.int x4), .val (.ref o394), .val (.ref o403), .val (.int y0), .val (.int y1), .val (.int y2), .val (.int d0), .val (.int d1), .val (.int d2), .val (.int z13), .val (.int z14), .val (.int (2 : Int32)), .val (.int d2)] [(.ref o403)]) (fun _ kz => XS.aload X.here hx rfl (hb hby at_234) rfl rfl kz) ?_
            refine own_callV (rest := []) (a := o403) (as := []) X hx hZ hown rfl (own_c_lea l Z a0 hw o403 o394 zb wb fc fo fw T.heap n0 zz hd S) S.1 (own_w hw 49 rfl) (own_w hw 50 rfl) (own_w hw 52 rfl) (own_w hw 51 rfl) (own_w hw 3 rfl) (own_w hw 53 rfl) (by decide) own_pd6 rfl (by rw [hml]; rfl) rfl (hb hby at_236) 0 (by show 2 * 0 + _ ≤ _; exact Nat.le_of_eq rfl) (by decide) (by decide) (by decide) (by decide) ?_
            rintro _ T441 L441 X441 ⟨rfl, rfl, e441⟩
            have N441 := Fr.app N (Fr.nil n0)
            show own_E p e below _ (T441.setTop (mkF m 239 #[.val (.int x0), .val (.int x1), .val (.int x2), .val (.int x3), .val (.int x4), .val (.ref o394), .val (.ref o403), .val (.int y0), .val (.int y1), .val (.int y2), .val (.int d0), .val (.int d1), .val (.int d2), .val (.int z13), .val (.int z14), .val (.int (2 : Int32)), .val (.int d2)] [(.int (own_ls fo fw))]))
            refine own_g (mkF m 241 #[.val (.int x0), .val (.int x1), .val (.int x2), .val (.int x3), .val (.int x4), .val (.ref o394), .val (.ref o403), .val (.int y0), .val (.int y1), .val (.int y2), .val (.int d0), .val (.int d1), .val (.int d2), .val (.int z13), .val (.int z14), .val (.int (2 : Int32)), .val (.int d2)] [(.int (2 : Int32)), (.int (own_ls fo fw))]) (fun _ kz => XS.iload X441.here hx rfl (hb hby at_239) rfl kz) ?_
            refine own_g (mkF m 244 #[.val (.int x0), .val (.int x1), .val (.int x2), .val (.int x3), .val (.int x4), .val (.ref o394), .val (.ref o403), .val (.int y0), .val (.int y1), .val (.int y2), .val (.int d0), .val (.int d1), .val (.int d2), .val (.int z13), .val (.int z14), .val (.int (2 : Int32)), .val (.int d2)] []) (fun _ kz => XS.icmpNo X441.here hx rfl (hb hby at_241) rfl (teq (by
              have t1 := W.2.2.2.2.2.2
              have i0 : (0 : Int32).toNatClampNeg = 0 := rfl
              have i1 : (1 : Int32).toNatClampNeg = 1 := rfl
              have i2 : (2 : Int32).toNatClampNeg = 2 := rfl
              simp [own_ls, t1, own_mt, i0, i1, i2, ho0, ho1, ho2, k0, k1, k2, hc176_416, hc188_434, hc212_440])).2 kz) ?_
            refine own_g (mkF m 245 #[.val (.int x0), .val (.int x1), .val (.int x2), .val (.int x3), .val (.int x4), .val (.ref o394), .val (.ref o403), .val (.int y0), .val (.int y1), .val (.int y2), .val (.int d0), .val (.int d1), .val (.int d2), .val (.int z13), .val (.int z14), .val (.int (2 : Int32)), .val (.int d2)] [(.int (1 : Int32))]) (fun _ kz => XS.iconst X441.here hx rfl (hb hby at_244) kz) ?_
            refine own_g (mkF m 249 #[.val (.int x0), .val (.int x1), .val (.int x2), .val (.int x3), .val (.int x4), .val (.ref o394), .val (.ref o403), .val (.int y0), .val (.int y1), .val (.int y2), .val (.int d0), .val (.int d1), .val (.int d2), .val (.int z13), .val (.int z14), .val (.int (2 : Int32)), .val (.int d2)] [(.int (1 : Int32))]) (fun _ kz => XS.goto X441.here hx rfl (pc0 := 245) (pc' := 249) rfl (hb hby at_245) (by decide) (by decide) kz) ?_
            exact own_retZ X441 hx hret hlk (hb hby at_249) rfl (by decide) (by decide) (by first | exact ⟨rfl, N441⟩ | (rw [e441]; exact ⟨rfl, N441⟩))
          · refine own_g (mkF m 234 #[.val (.int x0), .val (.int x1), .val (.int x2), .val (.int x3), .val (.int x4), .val (.ref o394), .val (.ref o403), .val (.int y0), .val (.int y1), .val (.int y2), .val (.int d0), .val (.int d1), .val (.int d2), .val (.int z13), .val (.int z14), .val (.int (-1 : Int32)), .val (.int (0 : Int32))] []) (fun _ kz => XS.ifYes X.here hx rfl (pc0 := 212) (pc' := 234) rfl (hb hby at_212) rfl ((if0 _ _).trans (feq hc212_440).2) (by decide) (by decide) kz) ?_
            refine own_g (mkF m 236 #[.val (.int x0), .val (.int x1), .val (.int x2), .val (.int x3), .val (.int x4), .val (.ref o394), .val (.ref o403), .val (.int y0), .val (.int y1), .val (.int y2), .val (.int d0), .val (.int d1), .val (.int d2), .val (.int z13), .val (.int z14), .val (.int (-1 : Int32)), .val (.int (0 : Int32))] [(.ref o403)]) (fun _ kz => XS.aload X.here hx rfl (hb hby at_234) rfl rfl kz) ?_
            refine own_callV (rest := []) (a := o403) (as := []) X hx hZ hown rfl (own_c_lea l Z a0 hw o403 o394 zb wb fc fo fw T.heap n0 zz hd S) S.1 (own_w hw 49 rfl) (own_w hw 50 rfl) (own_w hw 52 rfl) (own_w hw 51 rfl) (own_w hw 3 rfl) (own_w hw 53 rfl) (by decide) own_pd6 rfl (by rw [hml]; rfl) rfl (hb hby at_236) 0 (by show 2 * 0 + _ ≤ _; exact Nat.le_of_eq rfl) (by decide) (by decide) (by decide) (by decide) ?_
            rintro _ T442 L442 X442 ⟨rfl, rfl, e442⟩
            have N442 := Fr.app N (Fr.nil n0)
            show own_E p e below _ (T442.setTop (mkF m 239 #[.val (.int x0), .val (.int x1), .val (.int x2), .val (.int x3), .val (.int x4), .val (.ref o394), .val (.ref o403), .val (.int y0), .val (.int y1), .val (.int y2), .val (.int d0), .val (.int d1), .val (.int d2), .val (.int z13), .val (.int z14), .val (.int (-1 : Int32)), .val (.int (0 : Int32))] [(.int (own_ls fo fw))]))
            refine own_g (mkF m 241 #[.val (.int x0), .val (.int x1), .val (.int x2), .val (.int x3), .val (.int x4), .val (.ref o394), .val (.ref o403), .val (.int y0), .val (.int y1), .val (.int y2), .val (.int d0), .val (.int d1), .val (.int d2), .val (.int z13), .val (.int z14), .val (.int (-1 : Int32)), .val (.int (0 : Int32))] [(.int (-1 : Int32)), (.int (own_ls fo fw))]) (fun _ kz => XS.iload X442.here hx rfl (hb hby at_239) rfl kz) ?_
            refine own_g (mkF m 244 #[.val (.int x0), .val (.int x1), .val (.int x2), .val (.int x3), .val (.int x4), .val (.ref o394), .val (.ref o403), .val (.int y0), .val (.int y1), .val (.int y2), .val (.int d0), .val (.int d1), .val (.int d2), .val (.int z13), .val (.int z14), .val (.int (-1 : Int32)), .val (.int (0 : Int32))] []) (fun _ kz => XS.icmpNo X442.here hx rfl (hb hby at_241) rfl (teq (by
              have t1 := W.2.2.2.2.2.2
              have i0 : (0 : Int32).toNatClampNeg = 0 := rfl
              have i1 : (1 : Int32).toNatClampNeg = 1 := rfl
              have i2 : (2 : Int32).toNatClampNeg = 2 := rfl
              simp [own_ls, t1, own_mt, i0, i1, i2, ho0, ho1, ho2, k0, k1, k2, hc176_416, hc188_434, hc212_440])).2 kz) ?_
            refine own_g (mkF m 245 #[.val (.int x0), .val (.int x1), .val (.int x2), .val (.int x3), .val (.int x4), .val (.ref o394), .val (.ref o403), .val (.int y0), .val (.int y1), .val (.int y2), .val (.int d0), .val (.int d1), .val (.int d2), .val (.int z13), .val (.int z14), .val (.int (-1 : Int32)), .val (.int (0 : Int32))] [(.int (1 : Int32))]) (fun _ kz => XS.iconst X442.here hx rfl (hb hby at_244) kz) ?_
            refine own_g (mkF m 249 #[.val (.int x0), .val (.int x1), .val (.int x2), .val (.int x3), .val (.int x4), .val (.ref o394), .val (.ref o403), .val (.int y0), .val (.int y1), .val (.int y2), .val (.int d0), .val (.int d1), .val (.int d2), .val (.int z13), .val (.int z14), .val (.int (-1 : Int32)), .val (.int (0 : Int32))] [(.int (1 : Int32))]) (fun _ kz => XS.goto X442.here hx rfl (pc0 := 245) (pc' := 249) rfl (hb hby at_245) (by decide) (by decide) kz) ?_
            exact own_retZ X442 hx hret hlk (hb hby at_249) rfl (by decide) (by decide) (by first | exact ⟨rfl, N442⟩ | (rw [e442]; exact ⟨rfl, N442⟩))
    refine own_g (mkF m 108 #[.val (.int x0), .val (.int x1), .val (.int x2), .val (.int x3), .val (.int x4), .val (.ref o394), .val (.ref o403), .val (.int y0), .val (.int y1), .val (.int y2), .val (.int x0), .val (.int x1), .val (.int x2), .unset, .unset, .unset, .unset] [(.int x4)]) (fun _ kz => XS.iload X415.here hx rfl (hb hby at_106) rfl kz) ?_
    refine own_g (mkF m 110 #[.val (.int x0), .val (.int x1), .val (.int x2), .val (.int x3), .val (.int x4), .val (.ref o394), .val (.ref o403), .val (.int y0), .val (.int y1), .val (.int y2), .val (.int x0), .val (.int x1), .val (.int x2), .unset, .unset, .unset, .unset] [(.int (8 : Int32)), (.int x4)]) (fun _ kz => XS.bipush X415.here hx rfl (hb hby at_108) kz) ?_
    refine own_g (mkF m 111 #[.val (.int x0), .val (.int x1), .val (.int x2), .val (.int x3), .val (.int x4), .val (.ref o394), .val (.ref o403), .val (.int y0), .val (.int y1), .val (.int y2), .val (.int x0), .val (.int x1), .val (.int x2), .unset, .unset, .unset, .unset] [(.int (x4 &&& (8 : Int32)))]) (fun _ kz => XS.iand X415.here hx rfl (hb hby at_110) rfl kz) ?_
    by_cases hc111_443 : (x4 &&& (8 : Int32)) = (0 : Int32)
    · refine own_g (mkF m 118 #[.val (.int x0), .val (.int x1), .val (.int x2), .val (.int x3), .val (.int x4), .val (.ref o394), .val (.ref o403), .val (.int y0), .val (.int y1), .val (.int y2), .val (.int x0), .val (.int x1), .val (.int x2), .unset, .unset, .unset, .unset] []) (fun _ kz => XS.ifYes X415.here hx rfl (pc0 := 111) (pc' := 118) rfl (hb hby at_111) rfl ((if0 _ _).trans (teq hc111_443).1) (by decide) (by decide) kz) ?_
      refine own_g (mkF m 119 #[.val (.int x0), .val (.int x1), .val (.int x2), .val (.int x3), .val (.int x4), .val (.ref o394), .val (.ref o403), .val (.int y0), .val (.int y1), .val (.int y2), .val (.int x0), .val (.int x1), .val (.int x2), .unset, .unset, .unset, .unset] [(.int (0 : Int32))]) (fun _ kz => XS.iconst X415.here hx rfl (hb hby at_118) kz) ?_
      refine own_g (mkF m 121 #[.val (.int x0), .val (.int x1), .val (.int x2), .val (.int x3), .val (.int x4), .val (.ref o394), .val (.ref o403), .val (.int y0), .val (.int y1), .val (.int y2), .val (.int x0), .val (.int x1), .val (.int x2), .val (.int (0 : Int32)), .unset, .unset, .unset] []) (fun _ kz => XS.istore X415.here hx rfl (hb hby at_119) rfl (l' := #[.val (.int x0), .val (.int x1), .val (.int x2), .val (.int x3), .val (.int x4), .val (.ref o394), .val (.ref o403), .val (.int y0), .val (.int y1), .val (.int y2), .val (.int x0), .val (.int x1), .val (.int x2), .val (.int (0 : Int32)), .unset, .unset, .unset]) rfl kz) ?_
      refine own_g (mkF m 123 #[.val (.int x0), .val (.int x1), .val (.int x2), .val (.int x3), .val (.int x4), .val (.ref o394), .val (.ref o403), .val (.int y0), .val (.int y1), .val (.int y2), .val (.int x0), .val (.int x1), .val (.int x2), .val (.int (0 : Int32)), .unset, .unset, .unset] [(.int x4)]) (fun _ kz => XS.iload X415.here hx rfl (hb hby at_121) rfl kz) ?_
      refine own_g (mkF m 124 #[.val (.int x0), .val (.int x1), .val (.int x2), .val (.int x3), .val (.int x4), .val (.ref o394), .val (.ref o403), .val (.int y0), .val (.int y1), .val (.int y2), .val (.int x0), .val (.int x1), .val (.int x2), .val (.int (0 : Int32)), .unset, .unset, .unset] [(.int (4 : Int32)), (.int x4)]) (fun _ kz => XS.iconst X415.here hx rfl (hb hby at_123) kz) ?_
      refine own_g (mkF m 125 #[.val (.int x0), .val (.int x1), .val (.int x2), .val (.int x3), .val (.int x4), .val (.ref o394), .val (.ref o403), .val (.int y0), .val (.int y1), .val (.int y2), .val (.int x0), .val (.int x1), .val (.int x2), .val (.int (0 : Int32)), .unset, .unset, .unset] [(.int ((x4.toUInt32 >>> ((4 : Int32) &&& 31).toUInt32).toInt32))]) (fun _ kz => XS.iushr X415.here hx rfl (hb hby at_124) rfl kz) ?_
      refine own_g (mkF m 126 #[.val (.int x0), .val (.int x1), .val (.int x2), .val (.int x3), .val (.int x4), .val (.ref o394), .val (.ref o403), .val (.int y0), .val (.int y1), .val (.int y2), .val (.int x0), .val (.int x1), .val (.int x2), .val (.int (0 : Int32)), .unset, .unset, .unset] [(.int (3 : Int32)), (.int ((x4.toUInt32 >>> ((4 : Int32) &&& 31).toUInt32).toInt32))]) (fun _ kz => XS.iconst X415.here hx rfl (hb hby at_125) kz) ?_
      refine own_g (mkF m 127 #[.val (.int x0), .val (.int x1), .val (.int x2), .val (.int x3), .val (.int x4), .val (.ref o394), .val (.ref o403), .val (.int y0), .val (.int y1), .val (.int y2), .val (.int x0), .val (.int x1), .val (.int x2), .val (.int (0 : Int32)), .unset, .unset, .unset] [(.int (((x4.toUInt32 >>> ((4 : Int32) &&& 31).toUInt32).toInt32) % (3 : Int32)))]) (fun _ kz => iremM X415 hx rfl (hb hby at_126) rfl (by decide) kz) ?_
      refine own_g (mkF m 129 #[.val (.int x0), .val (.int x1), .val (.int x2), .val (.int x3), .val (.int x4), .val (.ref o394), .val (.ref o403), .val (.int y0), .val (.int y1), .val (.int y2), .val (.int x0), .val (.int x1), .val (.int x2), .val (.int (0 : Int32)), .val (.int (((x4.toUInt32 >>> ((4 : Int32) &&& 31).toUInt32).toInt32) % (3 : Int32))), .unset, .unset] []) (fun _ kz => XS.istore X415.here hx rfl (hb hby at_127) rfl (l' := #[.val (.int x0), .val (.int x1), .val (.int x2), .val (.int x3), .val (.int x4), .val (.ref o394), .val (.ref o403), .val (.int y0), .val (.int y1), .val (.int y2), .val (.int x0), .val (.int x1), .val (.int x2), .val (.int (0 : Int32)), .val (.int (((x4.toUInt32 >>> ((4 : Int32) &&& 31).toUInt32).toInt32) % (3 : Int32))), .unset, .unset]) rfl kz) ?_
      refine own_g (mkF m 131 #[.val (.int x0), .val (.int x1), .val (.int x2), .val (.int x3), .val (.int x4), .val (.ref o394), .val (.ref o403), .val (.int y0), .val (.int y1), .val (.int y2), .val (.int x0), .val (.int x1), .val (.int x2), .val (.int (0 : Int32)), .val (.int (((x4.toUInt32 >>> ((4 : Int32) &&& 31).toUInt32).toInt32) % (3 : Int32))), .unset, .unset] [(.int (0 : Int32))]) (fun _ kz => XS.iload X415.here hx rfl (hb hby at_129) rfl kz) ?_
      refine own_g (mkF m 168 #[.val (.int x0), .val (.int x1), .val (.int x2), .val (.int x3), .val (.int x4), .val (.ref o394), .val (.ref o403), .val (.int y0), .val (.int y1), .val (.int y2), .val (.int x0), .val (.int x1), .val (.int x2), .val (.int (0 : Int32)), .val (.int (((x4.toUInt32 >>> ((4 : Int32) &&& 31).toUInt32).toInt32) % (3 : Int32))), .unset, .unset] []) (fun _ kz => XS.ifYes X415.here hx rfl (pc0 := 131) (pc' := 168) rfl (hb hby at_131) rfl ((if0 _ _).trans (teq (by decide)).1) (by decide) (by decide) kz) ?_
      exact fin _ _ _ _ _ fc0 fw3 _ _ hc0 hc1 hc2 W3x S3x zz415 N415 X415
    · refine own_g (mkF m 114 #[.val (.int x0), .val (.int x1), .val (.int x2), .val (.int x3), .val (.int x4), .val (.ref o394), .val (.ref o403), .val (.int y0), .val (.int y1), .val (.int y2), .val (.int x0), .val (.int x1), .val (.int x2), .unset, .unset, .unset, .unset] []) (fun _ kz => XS.ifNo X415.here hx rfl (hb hby at_111) rfl ((if0 _ _).trans (feq hc111_443).1) kz) ?_
      refine own_g (mkF m 115 #[.val (.int x0), .val (.int x1), .val (.int x2), .val (.int x3), .val (.int x4), .val (.ref o394), .val (.ref o403), .val (.int y0), .val (.int y1), .val (.int y2), .val (.int x0), .val (.int x1), .val (.int x2), .unset, .unset, .unset, .unset] [(.int (1 : Int32))]) (fun _ kz => XS.iconst X415.here hx rfl (hb hby at_114) kz) ?_
      refine own_g (mkF m 119 #[.val (.int x0), .val (.int x1), .val (.int x2), .val (.int x3), .val (.int x4), .val (.ref o394), .val (.ref o403), .val (.int y0), .val (.int y1), .val (.int y2), .val (.int x0), .val (.int x1), .val (.int x2), .unset, .unset, .unset, .unset] [(.int (1 : Int32))]) (fun _ kz => XS.goto X415.here hx rfl (pc0 := 115) (pc' := 119) rfl (hb hby at_115) (by decide) (by decide) kz) ?_
      refine own_g (mkF m 121 #[.val (.int x0), .val (.int x1), .val (.int x2), .val (.int x3), .val (.int x4), .val (.ref o394), .val (.ref o403), .val (.int y0), .val (.int y1), .val (.int y2), .val (.int x0), .val (.int x1), .val (.int x2), .val (.int (1 : Int32)), .unset, .unset, .unset] []) (fun _ kz => XS.istore X415.here hx rfl (hb hby at_119) rfl (l' := #[.val (.int x0), .val (.int x1), .val (.int x2), .val (.int x3), .val (.int x4), .val (.ref o394), .val (.ref o403), .val (.int y0), .val (.int y1), .val (.int y2), .val (.int x0), .val (.int x1), .val (.int x2), .val (.int (1 : Int32)), .unset, .unset, .unset]) rfl kz) ?_
      refine own_g (mkF m 123 #[.val (.int x0), .val (.int x1), .val (.int x2), .val (.int x3), .val (.int x4), .val (.ref o394), .val (.ref o403), .val (.int y0), .val (.int y1), .val (.int y2), .val (.int x0), .val (.int x1), .val (.int x2), .val (.int (1 : Int32)), .unset, .unset, .unset] [(.int x4)]) (fun _ kz => XS.iload X415.here hx rfl (hb hby at_121) rfl kz) ?_
      refine own_g (mkF m 124 #[.val (.int x0), .val (.int x1), .val (.int x2), .val (.int x3), .val (.int x4), .val (.ref o394), .val (.ref o403), .val (.int y0), .val (.int y1), .val (.int y2), .val (.int x0), .val (.int x1), .val (.int x2), .val (.int (1 : Int32)), .unset, .unset, .unset] [(.int (4 : Int32)), (.int x4)]) (fun _ kz => XS.iconst X415.here hx rfl (hb hby at_123) kz) ?_
      refine own_g (mkF m 125 #[.val (.int x0), .val (.int x1), .val (.int x2), .val (.int x3), .val (.int x4), .val (.ref o394), .val (.ref o403), .val (.int y0), .val (.int y1), .val (.int y2), .val (.int x0), .val (.int x1), .val (.int x2), .val (.int (1 : Int32)), .unset, .unset, .unset] [(.int ((x4.toUInt32 >>> ((4 : Int32) &&& 31).toUInt32).toInt32))]) (fun _ kz => XS.iushr X415.here hx rfl (hb hby at_124) rfl kz) ?_
      refine own_g (mkF m 126 #[.val (.int x0), .val (.int x1), .val (.int x2), .val (.int x3), .val (.int x4), .val (.ref o394), .val (.ref o403), .val (.int y0), .val (.int y1), .val (.int y2), .val (.int x0), .val (.int x1), .val (.int x2), .val (.int (1 : Int32)), .unset, .unset, .unset] [(.int (3 : Int32)), (.int ((x4.toUInt32 >>> ((4 : Int32) &&& 31).toUInt32).toInt32))]) (fun _ kz => XS.iconst X415.here hx rfl (hb hby at_125) kz) ?_
      refine own_g (mkF m 127 #[.val (.int x0), .val (.int x1), .val (.int x2), .val (.int x3), .val (.int x4), .val (.ref o394), .val (.ref o403), .val (.int y0), .val (.int y1), .val (.int y2), .val (.int x0), .val (.int x1), .val (.int x2), .val (.int (1 : Int32)), .unset, .unset, .unset] [(.int (((x4.toUInt32 >>> ((4 : Int32) &&& 31).toUInt32).toInt32) % (3 : Int32)))]) (fun _ kz => iremM X415 hx rfl (hb hby at_126) rfl (by decide) kz) ?_
      refine own_g (mkF m 129 #[.val (.int x0), .val (.int x1), .val (.int x2), .val (.int x3), .val (.int x4), .val (.ref o394), .val (.ref o403), .val (.int y0), .val (.int y1), .val (.int y2), .val (.int x0), .val (.int x1), .val (.int x2), .val (.int (1 : Int32)), .val (.int (((x4.toUInt32 >>> ((4 : Int32) &&& 31).toUInt32).toInt32) % (3 : Int32))), .unset, .unset] []) (fun _ kz => XS.istore X415.here hx rfl (hb hby at_127) rfl (l' := #[.val (.int x0), .val (.int x1), .val (.int x2), .val (.int x3), .val (.int x4), .val (.ref o394), .val (.ref o403), .val (.int y0), .val (.int y1), .val (.int y2), .val (.int x0), .val (.int x1), .val (.int x2), .val (.int (1 : Int32)), .val (.int (((x4.toUInt32 >>> ((4 : Int32) &&& 31).toUInt32).toInt32) % (3 : Int32))), .unset, .unset]) rfl kz) ?_
      refine own_g (mkF m 131 #[.val (.int x0), .val (.int x1), .val (.int x2), .val (.int x3), .val (.int x4), .val (.ref o394), .val (.ref o403), .val (.int y0), .val (.int y1), .val (.int y2), .val (.int x0), .val (.int x1), .val (.int x2), .val (.int (1 : Int32)), .val (.int (((x4.toUInt32 >>> ((4 : Int32) &&& 31).toUInt32).toInt32) % (3 : Int32))), .unset, .unset] [(.int (1 : Int32))]) (fun _ kz => XS.iload X415.here hx rfl (hb hby at_129) rfl kz) ?_
      refine own_g (mkF m 134 #[.val (.int x0), .val (.int x1), .val (.int x2), .val (.int x3), .val (.int x4), .val (.ref o394), .val (.ref o403), .val (.int y0), .val (.int y1), .val (.int y2), .val (.int x0), .val (.int x1), .val (.int x2), .val (.int (1 : Int32)), .val (.int (((x4.toUInt32 >>> ((4 : Int32) &&& 31).toUInt32).toInt32) % (3 : Int32))), .unset, .unset] []) (fun _ kz => XS.ifNo X415.here hx rfl (hb hby at_131) rfl ((if0 _ _).trans (feq (by decide)).1) kz) ?_
      refine own_g (mkF m 136 #[.val (.int x0), .val (.int x1), .val (.int x2), .val (.int x3), .val (.int x4), .val (.ref o394), .val (.ref o403), .val (.int y0), .val (.int y1), .val (.int y2), .val (.int x0), .val (.int x1), .val (.int x2), .val (.int (1 : Int32)), .val (.int (((x4.toUInt32 >>> ((4 : Int32) &&& 31).toUInt32).toInt32) % (3 : Int32))), .unset, .unset] [(.ref o403)]) (fun _ kz => XS.aload X415.here hx rfl (hb hby at_134) rfl rfl kz) ?_
      refine own_g (mkF m 138 #[.val (.int x0), .val (.int x1), .val (.int x2), .val (.int x3), .val (.int x4), .val (.ref o394), .val (.ref o403), .val (.int y0), .val (.int y1), .val (.int y2), .val (.int x0), .val (.int x1), .val (.int x2), .val (.int (1 : Int32)), .val (.int (((x4.toUInt32 >>> ((4 : Int32) &&& 31).toUInt32).toInt32) % (3 : Int32))), .unset, .unset] [(.int (((x4.toUInt32 >>> ((4 : Int32) &&& 31).toUInt32).toInt32) % (3 : Int32))), (.ref o403)]) (fun _ kz => XS.iload X415.here hx rfl (hb hby at_136) rfl kz) ?_
      refine own_g (mkF m 139 #[.val (.int x0), .val (.int x1), .val (.int x2), .val (.int x3), .val (.int x4), .val (.ref o394), .val (.ref o403), .val (.int y0), .val (.int y1), .val (.int y2), .val (.int x0), .val (.int x1), .val (.int x2), .val (.int (1 : Int32)), .val (.int (((x4.toUInt32 >>> ((4 : Int32) &&& 31).toUInt32).toInt32) % (3 : Int32))), .unset, .unset] [(.int x3), (.int (((x4.toUInt32 >>> ((4 : Int32) &&& 31).toUInt32).toInt32) % (3 : Int32))), (.ref o403)]) (fun _ kz => XS.iloadN X415.here hx rfl (hb hby at_138) rfl kz) ?_
      rcases own_three x4 with hs | hs | hs
      · rw [hs]
        show own_E p e below _ (T415.setTop (mkF m 139 #[.val (.int x0), .val (.int x1), .val (.int x2), .val (.int x3), .val (.int x4), .val (.ref o394), .val (.ref o403), .val (.int y0), .val (.int y1), .val (.int y2), .val (.int x0), .val (.int x1), .val (.int x2), .val (.int (1 : Int32)), .val (.int (0 : Int32)), .unset, .unset] [(.int x3), (.int (0 : Int32)), (.ref o403)]))
        refine own_callV (rest := []) (a := o403) (as := [(.int (0 : Int32)), (.int x3)]) X415 hx hZ hown rfl (own_c_set0 l Z a0 hw o403 o394 zb wb fc0 fo fw3 x3 T415.heap n0 zz415 W3x S3x) S3x.1 (own_w hw 54 rfl) (own_w hw 55 rfl) (own_w hw 57 rfl) (own_w hw 56 rfl) (own_w hw 3 rfl) (own_w hw 58 rfl) (by decide) own_pd7 rfl (by rw [hml]; rfl) rfl (hb hby at_139) 0 (by show 2 * 0 + _ ≤ _; exact Nat.le_of_eq rfl) (by decide) (by decide) (by decide) (by decide) ?_
        rintro _ T444 L444 X444 ⟨rfl, Nq444, zz444, fw4, W4, S4⟩
        have N444 := Fr.app N415 Nq444
        show own_E p e below _ (T444.setTop (mkF m 142 #[.val (.int x0), .val (.int x1), .val (.int x2), .val (.int x3), .val (.int x4), .val (.ref o394), .val (.ref o403), .val (.int y0), .val (.int y1), .val (.int y2), .val (.int x0), .val (.int x1), .val (.int x2), .val (.int (1 : Int32)), .val (.int (0 : Int32)), .unset, .unset] []))
        refine own_g (mkF m 144 #[.val (.int x0), .val (.int x1), .val (.int x2), .val (.int x3), .val (.int x4), .val (.ref o394), .val (.ref o403), .val (.int y0), .val (.int y1), .val (.int y2), .val (.int x0), .val (.int x1), .val (.int x2), .val (.int (1 : Int32)), .val (.int (0 : Int32)), .unset, .unset] [(.int (0 : Int32))]) (fun _ kz => XS.iload X444.here hx rfl (hb hby at_142) rfl kz) ?_
        refine own_g (mkF m 147 #[.val (.int x0), .val (.int x1), .val (.int x2), .val (.int x3), .val (.int x4), .val (.ref o394), .val (.ref o403), .val (.int y0), .val (.int y1), .val (.int y2), .val (.int x0), .val (.int x1), .val (.int x2), .val (.int (1 : Int32)), .val (.int (0 : Int32)), .unset, .unset] []) (fun _ kz => XS.ifNo X444.here hx rfl (hb hby at_144) rfl ((if0 _ _).trans (teq (by decide)).2) kz) ?_
        refine own_g (mkF m 148 #[.val (.int x0), .val (.int x1), .val (.int x2), .val (.int x3), .val (.int x4), .val (.ref o394), .val (.ref o403), .val (.int y0), .val (.int y1), .val (.int y2), .val (.int x0), .val (.int x1), .val (.int x2), .val (.int (1 : Int32)), .val (.int (0 : Int32)), .unset, .unset] [(.int x3)]) (fun _ kz => XS.iloadN X444.here hx rfl (hb hby at_147) rfl kz) ?_
        refine own_g (mkF m 150 #[.val (.int x0), .val (.int x1), .val (.int x2), .val (.int x3), .val (.int x4), .val (.ref o394), .val (.ref o403), .val (.int y0), .val (.int y1), .val (.int y2), .val (.int x3), .val (.int x1), .val (.int x2), .val (.int (1 : Int32)), .val (.int (0 : Int32)), .unset, .unset] []) (fun _ kz => XS.istore X444.here hx rfl (hb hby at_148) rfl (l' := #[.val (.int x0), .val (.int x1), .val (.int x2), .val (.int x3), .val (.int x4), .val (.ref o394), .val (.ref o403), .val (.int y0), .val (.int y1), .val (.int y2), .val (.int x3), .val (.int x1), .val (.int x2), .val (.int (1 : Int32)), .val (.int (0 : Int32)), .unset, .unset]) rfl kz) ?_
        refine own_g (mkF m 168 #[.val (.int x0), .val (.int x1), .val (.int x2), .val (.int x3), .val (.int x4), .val (.ref o394), .val (.ref o403), .val (.int y0), .val (.int y1), .val (.int y2), .val (.int x3), .val (.int x1), .val (.int x2), .val (.int (1 : Int32)), .val (.int (0 : Int32)), .unset, .unset] []) (fun _ kz => XS.goto X444.here hx rfl (pc0 := 150) (pc' := 168) rfl (hb hby at_150) (by decide) (by decide) kz) ?_
        exact fin _ _ _ _ _ (own_set fc0 0 x3) fw4 _ _ (by simp [own_set]) (by simp [own_set, hc1]) (by simp [own_set, hc2]) W4 S4 zz444 N444 X444
      · rw [hs]
        show own_E p e below _ (T415.setTop (mkF m 139 #[.val (.int x0), .val (.int x1), .val (.int x2), .val (.int x3), .val (.int x4), .val (.ref o394), .val (.ref o403), .val (.int y0), .val (.int y1), .val (.int y2), .val (.int x0), .val (.int x1), .val (.int x2), .val (.int (1 : Int32)), .val (.int (1 : Int32)), .unset, .unset] [(.int x3), (.int (1 : Int32)), (.ref o403)]))
        refine own_callV (rest := []) (a := o403) (as := [(.int (1 : Int32)), (.int x3)]) X415 hx hZ hown rfl (own_c_set1 l Z a0 hw o403 o394 zb wb fc0 fo fw3 x3 T415.heap n0 zz415 W3x S3x) S3x.1 (own_w hw 54 rfl) (own_w hw 55 rfl) (own_w hw 57 rfl) (own_w hw 56 rfl) (own_w hw 3 rfl) (own_w hw 58 rfl) (by decide) own_pd7 rfl (by rw [hml]; rfl) rfl (hb hby at_139) 0 (by show 2 * 0 + _ ≤ _; exact Nat.le_of_eq rfl) (by decide) (by decide) (by decide) (by decide) ?_
        rintro _ T445 L445 X445 ⟨rfl, Nq445, zz445, fw4, W4, S4⟩
        have N445 := Fr.app N415 Nq445
        show own_E p e below _ (T445.setTop (mkF m 142 #[.val (.int x0), .val (.int x1), .val (.int x2), .val (.int x3), .val (.int x4), .val (.ref o394), .val (.ref o403), .val (.int y0), .val (.int y1), .val (.int y2), .val (.int x0), .val (.int x1), .val (.int x2), .val (.int (1 : Int32)), .val (.int (1 : Int32)), .unset, .unset] []))
        refine own_g (mkF m 144 #[.val (.int x0), .val (.int x1), .val (.int x2), .val (.int x3), .val (.int x4), .val (.ref o394), .val (.ref o403), .val (.int y0), .val (.int y1), .val (.int y2), .val (.int x0), .val (.int x1), .val (.int x2), .val (.int (1 : Int32)), .val (.int (1 : Int32)), .unset, .unset] [(.int (1 : Int32))]) (fun _ kz => XS.iload X445.here hx rfl (hb hby at_142) rfl kz) ?_
        refine own_g (mkF m 153 #[.val (.int x0), .val (.int x1), .val (.int x2), .val (.int x3), .val (.int x4), .val (.ref o394), .val (.ref o403), .val (.int y0), .val (.int y1), .val (.int y2), .val (.int x0), .val (.int x1), .val (.int x2), .val (.int (1 : Int32)), .val (.int (1 : Int32)), .unset, .unset] []) (fun _ kz => XS.ifYes X445.here hx rfl (pc0 := 144) (pc' := 153) rfl (hb hby at_144) rfl ((if0 _ _).trans (feq (by decide)).2) (by decide) (by decide) kz) ?_
        refine own_g (mkF m 155 #[.val (.int x0), .val (.int x1), .val (.int x2), .val (.int x3), .val (.int x4), .val (.ref o394), .val (.ref o403), .val (.int y0), .val (.int y1), .val (.int y2), .val (.int x0), .val (.int x1), .val (.int x2), .val (.int (1 : Int32)), .val (.int (1 : Int32)), .unset, .unset] [(.int (1 : Int32))]) (fun _ kz => XS.iload X445.here hx rfl (hb hby at_153) rfl kz) ?_
        refine own_g (mkF m 156 #[.val (.int x0), .val (.int x1), .val (.int x2), .val (.int x3), .val (.int x4), .val (.ref o394), .val (.ref o403), .val (.int y0), .val (.int y1), .val (.int y2), .val (.int x0), .val (.int x1), .val (.int x2), .val (.int (1 : Int32)), .val (.int (1 : Int32)), .unset, .unset] [(.int (1 : Int32)), (.int (1 : Int32))]) (fun _ kz => XS.iconst X445.here hx rfl (hb hby at_155) kz) ?_
        refine own_g (mkF m 159 #[.val (.int x0), .val (.int x1), .val (.int x2), .val (.int x3), .val (.int x4), .val (.ref o394), .val (.ref o403), .val (.int y0), .val (.int y1), .val (.int y2), .val (.int x0), .val (.int x1), .val (.int x2), .val (.int (1 : Int32)), .val (.int (1 : Int32)), .unset, .unset] []) (fun _ kz => XS.icmpNo X445.here hx rfl (hb hby at_156) rfl (teq (by decide)).2 kz) ?_
        refine own_g (mkF m 160 #[.val (.int x0), .val (.int x1), .val (.int x2), .val (.int x3), .val (.int x4), .val (.ref o394), .val (.ref o403), .val (.int y0), .val (.int y1), .val (.int y2), .val (.int x0), .val (.int x1), .val (.int x2), .val (.int (1 : Int32)), .val (.int (1 : Int32)), .unset, .unset] [(.int x3)]) (fun _ kz => XS.iloadN X445.here hx rfl (hb hby at_159) rfl kz) ?_
        refine own_g (mkF m 162 #[.val (.int x0), .val (.int x1), .val (.int x2), .val (.int x3), .val (.int x4), .val (.ref o394), .val (.ref o403), .val (.int y0), .val (.int y1), .val (.int y2), .val (.int x0), .val (.int x3), .val (.int x2), .val (.int (1 : Int32)), .val (.int (1 : Int32)), .unset, .unset] []) (fun _ kz => XS.istore X445.here hx rfl (hb hby at_160) rfl (l' := #[.val (.int x0), .val (.int x1), .val (.int x2), .val (.int x3), .val (.int x4), .val (.ref o394), .val (.ref o403), .val (.int y0), .val (.int y1), .val (.int y2), .val (.int x0), .val (.int x3), .val (.int x2), .val (.int (1 : Int32)), .val (.int (1 : Int32)), .unset, .unset]) rfl kz) ?_
        refine own_g (mkF m 168 #[.val (.int x0), .val (.int x1), .val (.int x2), .val (.int x3), .val (.int x4), .val (.ref o394), .val (.ref o403), .val (.int y0), .val (.int y1), .val (.int y2), .val (.int x0), .val (.int x3), .val (.int x2), .val (.int (1 : Int32)), .val (.int (1 : Int32)), .unset, .unset] []) (fun _ kz => XS.goto X445.here hx rfl (pc0 := 162) (pc' := 168) rfl (hb hby at_162) (by decide) (by decide) kz) ?_
        exact fin _ _ _ _ _ (own_set fc0 1 x3) fw4 _ _ (by simp [own_set, hc0]) (by simp [own_set]) (by simp [own_set, hc2]) W4 S4 zz445 N445 X445
      · rw [hs]
        show own_E p e below _ (T415.setTop (mkF m 139 #[.val (.int x0), .val (.int x1), .val (.int x2), .val (.int x3), .val (.int x4), .val (.ref o394), .val (.ref o403), .val (.int y0), .val (.int y1), .val (.int y2), .val (.int x0), .val (.int x1), .val (.int x2), .val (.int (1 : Int32)), .val (.int (2 : Int32)), .unset, .unset] [(.int x3), (.int (2 : Int32)), (.ref o403)]))
        refine own_callV (rest := []) (a := o403) (as := [(.int (2 : Int32)), (.int x3)]) X415 hx hZ hown rfl (own_c_set2 l Z a0 hw o403 o394 zb wb fc0 fo fw3 x3 T415.heap n0 zz415 W3x S3x) S3x.1 (own_w hw 54 rfl) (own_w hw 55 rfl) (own_w hw 57 rfl) (own_w hw 56 rfl) (own_w hw 3 rfl) (own_w hw 58 rfl) (by decide) own_pd7 rfl (by rw [hml]; rfl) rfl (hb hby at_139) 0 (by show 2 * 0 + _ ≤ _; exact Nat.le_of_eq rfl) (by decide) (by decide) (by decide) (by decide) ?_
        rintro _ T446 L446 X446 ⟨rfl, Nq446, zz446, fw4, W4, S4⟩
        have N446 := Fr.app N415 Nq446
        show own_E p e below _ (T446.setTop (mkF m 142 #[.val (.int x0), .val (.int x1), .val (.int x2), .val (.int x3), .val (.int x4), .val (.ref o394), .val (.ref o403), .val (.int y0), .val (.int y1), .val (.int y2), .val (.int x0), .val (.int x1), .val (.int x2), .val (.int (1 : Int32)), .val (.int (2 : Int32)), .unset, .unset] []))
        refine own_g (mkF m 144 #[.val (.int x0), .val (.int x1), .val (.int x2), .val (.int x3), .val (.int x4), .val (.ref o394), .val (.ref o403), .val (.int y0), .val (.int y1), .val (.int y2), .val (.int x0), .val (.int x1), .val (.int x2), .val (.int (1 : Int32)), .val (.int (2 : Int32)), .unset, .unset] [(.int (2 : Int32))]) (fun _ kz => XS.iload X446.here hx rfl (hb hby at_142) rfl kz) ?_
        refine own_g (mkF m 153 #[.val (.int x0), .val (.int x1), .val (.int x2), .val (.int x3), .val (.int x4), .val (.ref o394), .val (.ref o403), .val (.int y0), .val (.int y1), .val (.int y2), .val (.int x0), .val (.int x1), .val (.int x2), .val (.int (1 : Int32)), .val (.int (2 : Int32)), .unset, .unset] []) (fun _ kz => XS.ifYes X446.here hx rfl (pc0 := 144) (pc' := 153) rfl (hb hby at_144) rfl ((if0 _ _).trans (feq (by decide)).2) (by decide) (by decide) kz) ?_
        refine own_g (mkF m 155 #[.val (.int x0), .val (.int x1), .val (.int x2), .val (.int x3), .val (.int x4), .val (.ref o394), .val (.ref o403), .val (.int y0), .val (.int y1), .val (.int y2), .val (.int x0), .val (.int x1), .val (.int x2), .val (.int (1 : Int32)), .val (.int (2 : Int32)), .unset, .unset] [(.int (2 : Int32))]) (fun _ kz => XS.iload X446.here hx rfl (hb hby at_153) rfl kz) ?_
        refine own_g (mkF m 156 #[.val (.int x0), .val (.int x1), .val (.int x2), .val (.int x3), .val (.int x4), .val (.ref o394), .val (.ref o403), .val (.int y0), .val (.int y1), .val (.int y2), .val (.int x0), .val (.int x1), .val (.int x2), .val (.int (1 : Int32)), .val (.int (2 : Int32)), .unset, .unset] [(.int (1 : Int32)), (.int (2 : Int32))]) (fun _ kz => XS.iconst X446.here hx rfl (hb hby at_155) kz) ?_
        refine own_g (mkF m 165 #[.val (.int x0), .val (.int x1), .val (.int x2), .val (.int x3), .val (.int x4), .val (.ref o394), .val (.ref o403), .val (.int y0), .val (.int y1), .val (.int y2), .val (.int x0), .val (.int x1), .val (.int x2), .val (.int (1 : Int32)), .val (.int (2 : Int32)), .unset, .unset] []) (fun _ kz => XS.icmpYes X446.here hx rfl (pc0 := 156) (pc' := 165) rfl (hb hby at_156) rfl (feq (by decide)).2 (by decide) (by decide) kz) ?_
        refine own_g (mkF m 166 #[.val (.int x0), .val (.int x1), .val (.int x2), .val (.int x3), .val (.int x4), .val (.ref o394), .val (.ref o403), .val (.int y0), .val (.int y1), .val (.int y2), .val (.int x0), .val (.int x1), .val (.int x2), .val (.int (1 : Int32)), .val (.int (2 : Int32)), .unset, .unset] [(.int x3)]) (fun _ kz => XS.iloadN X446.here hx rfl (hb hby at_165) rfl kz) ?_
        refine own_g (mkF m 168 #[.val (.int x0), .val (.int x1), .val (.int x2), .val (.int x3), .val (.int x4), .val (.ref o394), .val (.ref o403), .val (.int y0), .val (.int y1), .val (.int y2), .val (.int x0), .val (.int x1), .val (.int x3), .val (.int (1 : Int32)), .val (.int (2 : Int32)), .unset, .unset] []) (fun _ kz => XS.istore X446.here hx rfl (hb hby at_166) rfl (l' := #[.val (.int x0), .val (.int x1), .val (.int x2), .val (.int x3), .val (.int x4), .val (.ref o394), .val (.ref o403), .val (.int y0), .val (.int y1), .val (.int y2), .val (.int x0), .val (.int x1), .val (.int x3), .val (.int (1 : Int32)), .val (.int (2 : Int32)), .unset, .unset]) rfl kz) ?_
        exact fin _ _ _ _ _ (own_set fc0 2 x3) fw4 _ _ (by simp [own_set, hc0]) (by simp [own_set, hc1]) (by simp [own_set]) W4 S4 zz446 N446 X446
  refine own_g (mkF m 33 #[.val (.int x0), .val (.int x1), .val (.int x2), .val (.int x3), .val (.int x4), .val (.ref o394), .val (.ref o403), .unset, .unset, .unset, .unset, .unset, .unset, .unset, .unset, .unset, .unset] [(.int x4)]) (fun _ kz => XS.iload X412.here hx rfl (hb hby at_31) rfl kz) ?_
  refine own_g (mkF m 34 #[.val (.int x0), .val (.int x1), .val (.int x2), .val (.int x3), .val (.int x4), .val (.ref o394), .val (.ref o403), .unset, .unset, .unset, .unset, .unset, .unset, .unset, .unset, .unset, .unset] [(.int (1 : Int32)), (.int x4)]) (fun _ kz => XS.iconst X412.here hx rfl (hb hby at_33) kz) ?_
  refine own_g (mkF m 35 #[.val (.int x0), .val (.int x1), .val (.int x2), .val (.int x3), .val (.int x4), .val (.ref o394), .val (.ref o403), .unset, .unset, .unset, .unset, .unset, .unset, .unset, .unset, .unset, .unset] [(.int (x4 &&& (1 : Int32)))]) (fun _ kz => XS.iand X412.here hx rfl (hb hby at_34) rfl kz) ?_
  by_cases hc35_447 : (x4 &&& (1 : Int32)) = (0 : Int32)
  · refine own_g (mkF m 42 #[.val (.int x0), .val (.int x1), .val (.int x2), .val (.int x3), .val (.int x4), .val (.ref o394), .val (.ref o403), .unset, .unset, .unset, .unset, .unset, .unset, .unset, .unset, .unset, .unset] []) (fun _ kz => XS.ifYes X412.here hx rfl (pc0 := 35) (pc' := 42) rfl (hb hby at_35) rfl ((if0 _ _).trans (teq hc35_447).1) (by decide) (by decide) kz) ?_
    refine own_g (mkF m 43 #[.val (.int x0), .val (.int x1), .val (.int x2), .val (.int x3), .val (.int x4), .val (.ref o394), .val (.ref o403), .unset, .unset, .unset, .unset, .unset, .unset, .unset, .unset, .unset, .unset] [(.int (0 : Int32))]) (fun _ kz => XS.iconst X412.here hx rfl (hb hby at_42) kz) ?_
    refine own_g (mkF m 45 #[.val (.int x0), .val (.int x1), .val (.int x2), .val (.int x3), .val (.int x4), .val (.ref o394), .val (.ref o403), .val (.int (0 : Int32)), .unset, .unset, .unset, .unset, .unset, .unset, .unset, .unset, .unset] []) (fun _ kz => XS.istore X412.here hx rfl (hb hby at_43) rfl (l' := #[.val (.int x0), .val (.int x1), .val (.int x2), .val (.int x3), .val (.int x4), .val (.ref o394), .val (.ref o403), .val (.int (0 : Int32)), .unset, .unset, .unset, .unset, .unset, .unset, .unset, .unset, .unset]) rfl kz) ?_
    refine own_g (mkF m 47 #[.val (.int x0), .val (.int x1), .val (.int x2), .val (.int x3), .val (.int x4), .val (.ref o394), .val (.ref o403), .val (.int (0 : Int32)), .unset, .unset, .unset, .unset, .unset, .unset, .unset, .unset, .unset] [(.int x4)]) (fun _ kz => XS.iload X412.here hx rfl (hb hby at_45) rfl kz) ?_
    refine own_g (mkF m 48 #[.val (.int x0), .val (.int x1), .val (.int x2), .val (.int x3), .val (.int x4), .val (.ref o394), .val (.ref o403), .val (.int (0 : Int32)), .unset, .unset, .unset, .unset, .unset, .unset, .unset, .unset, .unset] [(.int (2 : Int32)), (.int x4)]) (fun _ kz => XS.iconst X412.here hx rfl (hb hby at_47) kz) ?_
    refine own_g (mkF m 49 #[.val (.int x0), .val (.int x1), .val (.int x2), .val (.int x3), .val (.int x4), .val (.ref o394), .val (.ref o403), .val (.int (0 : Int32)), .unset, .unset, .unset, .unset, .unset, .unset, .unset, .unset, .unset] [(.int (x4 &&& (2 : Int32)))]) (fun _ kz => XS.iand X412.here hx rfl (hb hby at_48) rfl kz) ?_
    by_cases hc49_448 : (x4 &&& (2 : Int32)) = (0 : Int32)
    · refine own_g (mkF m 56 #[.val (.int x0), .val (.int x1), .val (.int x2), .val (.int x3), .val (.int x4), .val (.ref o394), .val (.ref o403), .val (.int (0 : Int32)), .unset, .unset, .unset, .unset, .unset, .unset, .unset, .unset, .unset] []) (fun _ kz => XS.ifYes X412.here hx rfl (pc0 := 49) (pc' := 56) rfl (hb hby at_49) rfl ((if0 _ _).trans (teq hc49_448).1) (by decide) (by decide) kz) ?_
      refine own_g (mkF m 57 #[.val (.int x0), .val (.int x1), .val (.int x2), .val (.int x3), .val (.int x4), .val (.ref o394), .val (.ref o403), .val (.int (0 : Int32)), .unset, .unset, .unset, .unset, .unset, .unset, .unset, .unset, .unset] [(.int (0 : Int32))]) (fun _ kz => XS.iconst X412.here hx rfl (hb hby at_56) kz) ?_
      refine own_g (mkF m 59 #[.val (.int x0), .val (.int x1), .val (.int x2), .val (.int x3), .val (.int x4), .val (.ref o394), .val (.ref o403), .val (.int (0 : Int32)), .val (.int (0 : Int32)), .unset, .unset, .unset, .unset, .unset, .unset, .unset, .unset] []) (fun _ kz => XS.istore X412.here hx rfl (hb hby at_57) rfl (l' := #[.val (.int x0), .val (.int x1), .val (.int x2), .val (.int x3), .val (.int x4), .val (.ref o394), .val (.ref o403), .val (.int (0 : Int32)), .val (.int (0 : Int32)), .unset, .unset, .unset, .unset, .unset, .unset, .unset, .unset]) rfl kz) ?_
      refine own_g (mkF m 61 #[.val (.int x0), .val (.int x1), .val (.int x2), .val (.int x3), .val (.int x4), .val (.ref o394), .val (.ref o403), .val (.int (0 : Int32)), .val (.int (0 : Int32)), .unset, .unset, .unset, .unset, .unset, .unset, .unset, .unset] [(.int x4)]) (fun _ kz => XS.iload X412.here hx rfl (hb hby at_59) rfl kz) ?_
      refine own_g (mkF m 62 #[.val (.int x0), .val (.int x1), .val (.int x2), .val (.int x3), .val (.int x4), .val (.ref o394), .val (.ref o403), .val (.int (0 : Int32)), .val (.int (0 : Int32)), .unset, .unset, .unset, .unset, .unset, .unset, .unset, .unset] [(.int (4 : Int32)), (.int x4)]) (fun _ kz => XS.iconst X412.here hx rfl (hb hby at_61) kz) ?_
      refine own_g (mkF m 63 #[.val (.int x0), .val (.int x1), .val (.int x2), .val (.int x3), .val (.int x4), .val (.ref o394), .val (.ref o403), .val (.int (0 : Int32)), .val (.int (0 : Int32)), .unset, .unset, .unset, .unset, .unset, .unset, .unset, .unset] [(.int (x4 &&& (4 : Int32)))]) (fun _ kz => XS.iand X412.here hx rfl (hb hby at_62) rfl kz) ?_
      by_cases hc63_449 : (x4 &&& (4 : Int32)) = (0 : Int32)
      · refine own_g (mkF m 70 #[.val (.int x0), .val (.int x1), .val (.int x2), .val (.int x3), .val (.int x4), .val (.ref o394), .val (.ref o403), .val (.int (0 : Int32)), .val (.int (0 : Int32)), .unset, .unset, .unset, .unset, .unset, .unset, .unset, .unset] []) (fun _ kz => XS.ifYes X412.here hx rfl (pc0 := 63) (pc' := 70) rfl (hb hby at_63) rfl ((if0 _ _).trans (teq hc63_449).1) (by decide) (by decide) kz) ?_
        refine own_g (mkF m 71 #[.val (.int x0), .val (.int x1), .val (.int x2), .val (.int x3), .val (.int x4), .val (.ref o394), .val (.ref o403), .val (.int (0 : Int32)), .val (.int (0 : Int32)), .unset, .unset, .unset, .unset, .unset, .unset, .unset, .unset] [(.int (0 : Int32))]) (fun _ kz => XS.iconst X412.here hx rfl (hb hby at_70) kz) ?_
        refine own_g (mkF m 73 #[.val (.int x0), .val (.int x1), .val (.int x2), .val (.int x3), .val (.int x4), .val (.ref o394), .val (.ref o403), .val (.int (0 : Int32)), .val (.int (0 : Int32)), .val (.int (0 : Int32)), .unset, .unset, .unset, .unset, .unset, .unset, .unset] []) (fun _ kz => XS.istore X412.here hx rfl (hb hby at_71) rfl (l' := #[.val (.int x0), .val (.int x1), .val (.int x2), .val (.int x3), .val (.int x4), .val (.ref o394), .val (.ref o403), .val (.int (0 : Int32)), .val (.int (0 : Int32)), .val (.int (0 : Int32)), .unset, .unset, .unset, .unset, .unset, .unset, .unset]) rfl kz) ?_
        exact rest _ _ _ (Or.inl rfl) (Or.inl rfl) (Or.inl rfl)
      · refine own_g (mkF m 66 #[.val (.int x0), .val (.int x1), .val (.int x2), .val (.int x3), .val (.int x4), .val (.ref o394), .val (.ref o403), .val (.int (0 : Int32)), .val (.int (0 : Int32)), .unset, .unset, .unset, .unset, .unset, .unset, .unset, .unset] []) (fun _ kz => XS.ifNo X412.here hx rfl (hb hby at_63) rfl ((if0 _ _).trans (feq hc63_449).1) kz) ?_
        refine own_g (mkF m 67 #[.val (.int x0), .val (.int x1), .val (.int x2), .val (.int x3), .val (.int x4), .val (.ref o394), .val (.ref o403), .val (.int (0 : Int32)), .val (.int (0 : Int32)), .unset, .unset, .unset, .unset, .unset, .unset, .unset, .unset] [(.int (1 : Int32))]) (fun _ kz => XS.iconst X412.here hx rfl (hb hby at_66) kz) ?_
        refine own_g (mkF m 71 #[.val (.int x0), .val (.int x1), .val (.int x2), .val (.int x3), .val (.int x4), .val (.ref o394), .val (.ref o403), .val (.int (0 : Int32)), .val (.int (0 : Int32)), .unset, .unset, .unset, .unset, .unset, .unset, .unset, .unset] [(.int (1 : Int32))]) (fun _ kz => XS.goto X412.here hx rfl (pc0 := 67) (pc' := 71) rfl (hb hby at_67) (by decide) (by decide) kz) ?_
        refine own_g (mkF m 73 #[.val (.int x0), .val (.int x1), .val (.int x2), .val (.int x3), .val (.int x4), .val (.ref o394), .val (.ref o403), .val (.int (0 : Int32)), .val (.int (0 : Int32)), .val (.int (1 : Int32)), .unset, .unset, .unset, .unset, .unset, .unset, .unset] []) (fun _ kz => XS.istore X412.here hx rfl (hb hby at_71) rfl (l' := #[.val (.int x0), .val (.int x1), .val (.int x2), .val (.int x3), .val (.int x4), .val (.ref o394), .val (.ref o403), .val (.int (0 : Int32)), .val (.int (0 : Int32)), .val (.int (1 : Int32)), .unset, .unset, .unset, .unset, .unset, .unset, .unset]) rfl kz) ?_
        exact rest _ _ _ (Or.inl rfl) (Or.inl rfl) (Or.inr rfl)
    · refine own_g (mkF m 52 #[.val (.int x0), .val (.int x1), .val (.int x2), .val (.int x3), .val (.int x4), .val (.ref o394), .val (.ref o403), .val (.int (0 : Int32)), .unset, .unset, .unset, .unset, .unset, .unset, .unset, .unset, .unset] []) (fun _ kz => XS.ifNo X412.here hx rfl (hb hby at_49) rfl ((if0 _ _).trans (feq hc49_448).1) kz) ?_
      refine own_g (mkF m 53 #[.val (.int x0), .val (.int x1), .val (.int x2), .val (.int x3), .val (.int x4), .val (.ref o394), .val (.ref o403), .val (.int (0 : Int32)), .unset, .unset, .unset, .unset, .unset, .unset, .unset, .unset, .unset] [(.int (1 : Int32))]) (fun _ kz => XS.iconst X412.here hx rfl (hb hby at_52) kz) ?_
      refine own_g (mkF m 57 #[.val (.int x0), .val (.int x1), .val (.int x2), .val (.int x3), .val (.int x4), .val (.ref o394), .val (.ref o403), .val (.int (0 : Int32)), .unset, .unset, .unset, .unset, .unset, .unset, .unset, .unset, .unset] [(.int (1 : Int32))]) (fun _ kz => XS.goto X412.here hx rfl (pc0 := 53) (pc' := 57) rfl (hb hby at_53) (by decide) (by decide) kz) ?_
      refine own_g (mkF m 59 #[.val (.int x0), .val (.int x1), .val (.int x2), .val (.int x3), .val (.int x4), .val (.ref o394), .val (.ref o403), .val (.int (0 : Int32)), .val (.int (1 : Int32)), .unset, .unset, .unset, .unset, .unset, .unset, .unset, .unset] []) (fun _ kz => XS.istore X412.here hx rfl (hb hby at_57) rfl (l' := #[.val (.int x0), .val (.int x1), .val (.int x2), .val (.int x3), .val (.int x4), .val (.ref o394), .val (.ref o403), .val (.int (0 : Int32)), .val (.int (1 : Int32)), .unset, .unset, .unset, .unset, .unset, .unset, .unset, .unset]) rfl kz) ?_
      refine own_g (mkF m 61 #[.val (.int x0), .val (.int x1), .val (.int x2), .val (.int x3), .val (.int x4), .val (.ref o394), .val (.ref o403), .val (.int (0 : Int32)), .val (.int (1 : Int32)), .unset, .unset, .unset, .unset, .unset, .unset, .unset, .unset] [(.int x4)]) (fun _ kz => XS.iload X412.here hx rfl (hb hby at_59) rfl kz) ?_
      refine own_g (mkF m 62 #[.val (.int x0), .val (.int x1), .val (.int x2), .val (.int x3), .val (.int x4), .val (.ref o394), .val (.ref o403), .val (.int (0 : Int32)), .val (.int (1 : Int32)), .unset, .unset, .unset, .unset, .unset, .unset, .unset, .unset] [(.int (4 : Int32)), (.int x4)]) (fun _ kz => XS.iconst X412.here hx rfl (hb hby at_61) kz) ?_
      refine own_g (mkF m 63 #[.val (.int x0), .val (.int x1), .val (.int x2), .val (.int x3), .val (.int x4), .val (.ref o394), .val (.ref o403), .val (.int (0 : Int32)), .val (.int (1 : Int32)), .unset, .unset, .unset, .unset, .unset, .unset, .unset, .unset] [(.int (x4 &&& (4 : Int32)))]) (fun _ kz => XS.iand X412.here hx rfl (hb hby at_62) rfl kz) ?_
      by_cases hc63_450 : (x4 &&& (4 : Int32)) = (0 : Int32)
      · refine own_g (mkF m 70 #[.val (.int x0), .val (.int x1), .val (.int x2), .val (.int x3), .val (.int x4), .val (.ref o394), .val (.ref o403), .val (.int (0 : Int32)), .val (.int (1 : Int32)), .unset, .unset, .unset, .unset, .unset, .unset, .unset, .unset] []) (fun _ kz => XS.ifYes X412.here hx rfl (pc0 := 63) (pc' := 70) rfl (hb hby at_63) rfl ((if0 _ _).trans (teq hc63_450).1) (by decide) (by decide) kz) ?_
        refine own_g (mkF m 71 #[.val (.int x0), .val (.int x1), .val (.int x2), .val (.int x3), .val (.int x4), .val (.ref o394), .val (.ref o403), .val (.int (0 : Int32)), .val (.int (1 : Int32)), .unset, .unset, .unset, .unset, .unset, .unset, .unset, .unset] [(.int (0 : Int32))]) (fun _ kz => XS.iconst X412.here hx rfl (hb hby at_70) kz) ?_
        refine own_g (mkF m 73 #[.val (.int x0), .val (.int x1), .val (.int x2), .val (.int x3), .val (.int x4), .val (.ref o394), .val (.ref o403), .val (.int (0 : Int32)), .val (.int (1 : Int32)), .val (.int (0 : Int32)), .unset, .unset, .unset, .unset, .unset, .unset, .unset] []) (fun _ kz => XS.istore X412.here hx rfl (hb hby at_71) rfl (l' := #[.val (.int x0), .val (.int x1), .val (.int x2), .val (.int x3), .val (.int x4), .val (.ref o394), .val (.ref o403), .val (.int (0 : Int32)), .val (.int (1 : Int32)), .val (.int (0 : Int32)), .unset, .unset, .unset, .unset, .unset, .unset, .unset]) rfl kz) ?_
        exact rest _ _ _ (Or.inl rfl) (Or.inr rfl) (Or.inl rfl)
      · refine own_g (mkF m 66 #[.val (.int x0), .val (.int x1), .val (.int x2), .val (.int x3), .val (.int x4), .val (.ref o394), .val (.ref o403), .val (.int (0 : Int32)), .val (.int (1 : Int32)), .unset, .unset, .unset, .unset, .unset, .unset, .unset, .unset] []) (fun _ kz => XS.ifNo X412.here hx rfl (hb hby at_63) rfl ((if0 _ _).trans (feq hc63_450).1) kz) ?_
        refine own_g (mkF m 67 #[.val (.int x0), .val (.int x1), .val (.int x2), .val (.int x3), .val (.int x4), .val (.ref o394), .val (.ref o403), .val (.int (0 : Int32)), .val (.int (1 : Int32)), .unset, .unset, .unset, .unset, .unset, .unset, .unset, .unset] [(.int (1 : Int32))]) (fun _ kz => XS.iconst X412.here hx rfl (hb hby at_66) kz) ?_
        refine own_g (mkF m 71 #[.val (.int x0), .val (.int x1), .val (.int x2), .val (.int x3), .val (.int x4), .val (.ref o394), .val (.ref o403), .val (.int (0 : Int32)), .val (.int (1 : Int32)), .unset, .unset, .unset, .unset, .unset, .unset, .unset, .unset] [(.int (1 : Int32))]) (fun _ kz => XS.goto X412.here hx rfl (pc0 := 67) (pc' := 71) rfl (hb hby at_67) (by decide) (by decide) kz) ?_
        refine own_g (mkF m 73 #[.val (.int x0), .val (.int x1), .val (.int x2), .val (.int x3), .val (.int x4), .val (.ref o394), .val (.ref o403), .val (.int (0 : Int32)), .val (.int (1 : Int32)), .val (.int (1 : Int32)), .unset, .unset, .unset, .unset, .unset, .unset, .unset] []) (fun _ kz => XS.istore X412.here hx rfl (hb hby at_71) rfl (l' := #[.val (.int x0), .val (.int x1), .val (.int x2), .val (.int x3), .val (.int x4), .val (.ref o394), .val (.ref o403), .val (.int (0 : Int32)), .val (.int (1 : Int32)), .val (.int (1 : Int32)), .unset, .unset, .unset, .unset, .unset, .unset, .unset]) rfl kz) ?_
        exact rest _ _ _ (Or.inl rfl) (Or.inr rfl) (Or.inr rfl)
  · refine own_g (mkF m 38 #[.val (.int x0), .val (.int x1), .val (.int x2), .val (.int x3), .val (.int x4), .val (.ref o394), .val (.ref o403), .unset, .unset, .unset, .unset, .unset, .unset, .unset, .unset, .unset, .unset] []) (fun _ kz => XS.ifNo X412.here hx rfl (hb hby at_35) rfl ((if0 _ _).trans (feq hc35_447).1) kz) ?_
    refine own_g (mkF m 39 #[.val (.int x0), .val (.int x1), .val (.int x2), .val (.int x3), .val (.int x4), .val (.ref o394), .val (.ref o403), .unset, .unset, .unset, .unset, .unset, .unset, .unset, .unset, .unset, .unset] [(.int (1 : Int32))]) (fun _ kz => XS.iconst X412.here hx rfl (hb hby at_38) kz) ?_
    refine own_g (mkF m 43 #[.val (.int x0), .val (.int x1), .val (.int x2), .val (.int x3), .val (.int x4), .val (.ref o394), .val (.ref o403), .unset, .unset, .unset, .unset, .unset, .unset, .unset, .unset, .unset, .unset] [(.int (1 : Int32))]) (fun _ kz => XS.goto X412.here hx rfl (pc0 := 39) (pc' := 43) rfl (hb hby at_39) (by decide) (by decide) kz) ?_
    refine own_g (mkF m 45 #[.val (.int x0), .val (.int x1), .val (.int x2), .val (.int x3), .val (.int x4), .val (.ref o394), .val (.ref o403), .val (.int (1 : Int32)), .unset, .unset, .unset, .unset, .unset, .unset, .unset, .unset, .unset] []) (fun _ kz => XS.istore X412.here hx rfl (hb hby at_43) rfl (l' := #[.val (.int x0), .val (.int x1), .val (.int x2), .val (.int x3), .val (.int x4), .val (.ref o394), .val (.ref o403), .val (.int (1 : Int32)), .unset, .unset, .unset, .unset, .unset, .unset, .unset, .unset, .unset]) rfl kz) ?_
    refine own_g (mkF m 47 #[.val (.int x0), .val (.int x1), .val (.int x2), .val (.int x3), .val (.int x4), .val (.ref o394), .val (.ref o403), .val (.int (1 : Int32)), .unset, .unset, .unset, .unset, .unset, .unset, .unset, .unset, .unset] [(.int x4)]) (fun _ kz => XS.iload X412.here hx rfl (hb hby at_45) rfl kz) ?_
    refine own_g (mkF m 48 #[.val (.int x0), .val (.int x1), .val (.int x2), .val (.int x3), .val (.int x4), .val (.ref o394), .val (.ref o403), .val (.int (1 : Int32)), .unset, .unset, .unset, .unset, .unset, .unset, .unset, .unset, .unset] [(.int (2 : Int32)), (.int x4)]) (fun _ kz => XS.iconst X412.here hx rfl (hb hby at_47) kz) ?_
    refine own_g (mkF m 49 #[.val (.int x0), .val (.int x1), .val (.int x2), .val (.int x3), .val (.int x4), .val (.ref o394), .val (.ref o403), .val (.int (1 : Int32)), .unset, .unset, .unset, .unset, .unset, .unset, .unset, .unset, .unset] [(.int (x4 &&& (2 : Int32)))]) (fun _ kz => XS.iand X412.here hx rfl (hb hby at_48) rfl kz) ?_
    by_cases hc49_451 : (x4 &&& (2 : Int32)) = (0 : Int32)
    · refine own_g (mkF m 56 #[.val (.int x0), .val (.int x1), .val (.int x2), .val (.int x3), .val (.int x4), .val (.ref o394), .val (.ref o403), .val (.int (1 : Int32)), .unset, .unset, .unset, .unset, .unset, .unset, .unset, .unset, .unset] []) (fun _ kz => XS.ifYes X412.here hx rfl (pc0 := 49) (pc' := 56) rfl (hb hby at_49) rfl ((if0 _ _).trans (teq hc49_451).1) (by decide) (by decide) kz) ?_
      refine own_g (mkF m 57 #[.val (.int x0), .val (.int x1), .val (.int x2), .val (.int x3), .val (.int x4), .val (.ref o394), .val (.ref o403), .val (.int (1 : Int32)), .unset, .unset, .unset, .unset, .unset, .unset, .unset, .unset, .unset] [(.int (0 : Int32))]) (fun _ kz => XS.iconst X412.here hx rfl (hb hby at_56) kz) ?_
      refine own_g (mkF m 59 #[.val (.int x0), .val (.int x1), .val (.int x2), .val (.int x3), .val (.int x4), .val (.ref o394), .val (.ref o403), .val (.int (1 : Int32)), .val (.int (0 : Int32)), .unset, .unset, .unset, .unset, .unset, .unset, .unset, .unset] []) (fun _ kz => XS.istore X412.here hx rfl (hb hby at_57) rfl (l' := #[.val (.int x0), .val (.int x1), .val (.int x2), .val (.int x3), .val (.int x4), .val (.ref o394), .val (.ref o403), .val (.int (1 : Int32)), .val (.int (0 : Int32)), .unset, .unset, .unset, .unset, .unset, .unset, .unset, .unset]) rfl kz) ?_
      refine own_g (mkF m 61 #[.val (.int x0), .val (.int x1), .val (.int x2), .val (.int x3), .val (.int x4), .val (.ref o394), .val (.ref o403), .val (.int (1 : Int32)), .val (.int (0 : Int32)), .unset, .unset, .unset, .unset, .unset, .unset, .unset, .unset] [(.int x4)]) (fun _ kz => XS.iload X412.here hx rfl (hb hby at_59) rfl kz) ?_
      refine own_g (mkF m 62 #[.val (.int x0), .val (.int x1), .val (.int x2), .val (.int x3), .val (.int x4), .val (.ref o394), .val (.ref o403), .val (.int (1 : Int32)), .val (.int (0 : Int32)), .unset, .unset, .unset, .unset, .unset, .unset, .unset, .unset] [(.int (4 : Int32)), (.int x4)]) (fun _ kz => XS.iconst X412.here hx rfl (hb hby at_61) kz) ?_
      refine own_g (mkF m 63 #[.val (.int x0), .val (.int x1), .val (.int x2), .val (.int x3), .val (.int x4), .val (.ref o394), .val (.ref o403), .val (.int (1 : Int32)), .val (.int (0 : Int32)), .unset, .unset, .unset, .unset, .unset, .unset, .unset, .unset] [(.int (x4 &&& (4 : Int32)))]) (fun _ kz => XS.iand X412.here hx rfl (hb hby at_62) rfl kz) ?_
      by_cases hc63_452 : (x4 &&& (4 : Int32)) = (0 : Int32)
      · refine own_g (mkF m 70 #[.val (.int x0), .val (.int x1), .val (.int x2), .val (.int x3), .val (.int x4), .val (.ref o394), .val (.ref o403), .val (.int (1 : Int32)), .val (.int (0 : Int32)), .unset, .unset, .unset, .unset, .unset, .unset, .unset, .unset] []) (fun _ kz => XS.ifYes X412.here hx rfl (pc0 := 63) (pc' := 70) rfl (hb hby at_63) rfl ((if0 _ _).trans (teq hc63_452).1) (by decide) (by decide) kz) ?_
        refine own_g (mkF m 71 #[.val (.int x0), .val (.int x1), .val (.int x2), .val (.int x3), .val (.int x4), .val (.ref o394), .val (.ref o403), .val (.int (1 : Int32)), .val (.int (0 : Int32)), .unset, .unset, .unset, .unset, .unset, .unset, .unset, .unset] [(.int (0 : Int32))]) (fun _ kz => XS.iconst X412.here hx rfl (hb hby at_70) kz) ?_
        refine own_g (mkF m 73 #[.val (.int x0), .val (.int x1), .val (.int x2), .val (.int x3), .val (.int x4), .val (.ref o394), .val (.ref o403), .val (.int (1 : Int32)), .val (.int (0 : Int32)), .val (.int (0 : Int32)), .unset, .unset, .unset, .unset, .unset, .unset, .unset] []) (fun _ kz => XS.istore X412.here hx rfl (hb hby at_71) rfl (l' := #[.val (.int x0), .val (.int x1), .val (.int x2), .val (.int x3), .val (.int x4), .val (.ref o394), .val (.ref o403), .val (.int (1 : Int32)), .val (.int (0 : Int32)), .val (.int (0 : Int32)), .unset, .unset, .unset, .unset, .unset, .unset, .unset]) rfl kz) ?_
        exact rest _ _ _ (Or.inr rfl) (Or.inl rfl) (Or.inl rfl)
      · refine own_g (mkF m 66 #[.val (.int x0), .val (.int x1), .val (.int x2), .val (.int x3), .val (.int x4), .val (.ref o394), .val (.ref o403), .val (.int (1 : Int32)), .val (.int (0 : Int32)), .unset, .unset, .unset, .unset, .unset, .unset, .unset, .unset] []) (fun _ kz => XS.ifNo X412.here hx rfl (hb hby at_63) rfl ((if0 _ _).trans (feq hc63_452).1) kz) ?_
        refine own_g (mkF m 67 #[.val (.int x0), .val (.int x1), .val (.int x2), .val (.int x3), .val (.int x4), .val (.ref o394), .val (.ref o403), .val (.int (1 : Int32)), .val (.int (0 : Int32)), .unset, .unset, .unset, .unset, .unset, .unset, .unset, .unset] [(.int (1 : Int32))]) (fun _ kz => XS.iconst X412.here hx rfl (hb hby at_66) kz) ?_
        refine own_g (mkF m 71 #[.val (.int x0), .val (.int x1), .val (.int x2), .val (.int x3), .val (.int x4), .val (.ref o394), .val (.ref o403), .val (.int (1 : Int32)), .val (.int (0 : Int32)), .unset, .unset, .unset, .unset, .unset, .unset, .unset, .unset] [(.int (1 : Int32))]) (fun _ kz => XS.goto X412.here hx rfl (pc0 := 67) (pc' := 71) rfl (hb hby at_67) (by decide) (by decide) kz) ?_
        refine own_g (mkF m 73 #[.val (.int x0), .val (.int x1), .val (.int x2), .val (.int x3), .val (.int x4), .val (.ref o394), .val (.ref o403), .val (.int (1 : Int32)), .val (.int (0 : Int32)), .val (.int (1 : Int32)), .unset, .unset, .unset, .unset, .unset, .unset, .unset] []) (fun _ kz => XS.istore X412.here hx rfl (hb hby at_71) rfl (l' := #[.val (.int x0), .val (.int x1), .val (.int x2), .val (.int x3), .val (.int x4), .val (.ref o394), .val (.ref o403), .val (.int (1 : Int32)), .val (.int (0 : Int32)), .val (.int (1 : Int32)), .unset, .unset, .unset, .unset, .unset, .unset, .unset]) rfl kz) ?_
        exact rest _ _ _ (Or.inr rfl) (Or.inl rfl) (Or.inr rfl)
    · refine own_g (mkF m 52 #[.val (.int x0), .val (.int x1), .val (.int x2), .val (.int x3), .val (.int x4), .val (.ref o394), .val (.ref o403), .val (.int (1 : Int32)), .unset, .unset, .unset, .unset, .unset, .unset, .unset, .unset, .unset] []) (fun _ kz => XS.ifNo X412.here hx rfl (hb hby at_49) rfl ((if0 _ _).trans (feq hc49_451).1) kz) ?_
      refine own_g (mkF m 53 #[.val (.int x0), .val (.int x1), .val (.int x2), .val (.int x3), .val (.int x4), .val (.ref o394), .val (.ref o403), .val (.int (1 : Int32)), .unset, .unset, .unset, .unset, .unset, .unset, .unset, .unset, .unset] [(.int (1 : Int32))]) (fun _ kz => XS.iconst X412.here hx rfl (hb hby at_52) kz) ?_
      refine own_g (mkF m 57 #[.val (.int x0), .val (.int x1), .val (.int x2), .val (.int x3), .val (.int x4), .val (.ref o394), .val (.ref o403), .val (.int (1 : Int32)), .unset, .unset, .unset, .unset, .unset, .unset, .unset, .unset, .unset] [(.int (1 : Int32))]) (fun _ kz => XS.goto X412.here hx rfl (pc0 := 53) (pc' := 57) rfl (hb hby at_53) (by decide) (by decide) kz) ?_
      refine own_g (mkF m 59 #[.val (.int x0), .val (.int x1), .val (.int x2), .val (.int x3), .val (.int x4), .val (.ref o394), .val (.ref o403), .val (.int (1 : Int32)), .val (.int (1 : Int32)), .unset, .unset, .unset, .unset, .unset, .unset, .unset, .unset] []) (fun _ kz => XS.istore X412.here hx rfl (hb hby at_57) rfl (l' := #[.val (.int x0), .val (.int x1), .val (.int x2), .val (.int x3), .val (.int x4), .val (.ref o394), .val (.ref o403), .val (.int (1 : Int32)), .val (.int (1 : Int32)), .unset, .unset, .unset, .unset, .unset, .unset, .unset, .unset]) rfl kz) ?_
      refine own_g (mkF m 61 #[.val (.int x0), .val (.int x1), .val (.int x2), .val (.int x3), .val (.int x4), .val (.ref o394), .val (.ref o403), .val (.int (1 : Int32)), .val (.int (1 : Int32)), .unset, .unset, .unset, .unset, .unset, .unset, .unset, .unset] [(.int x4)]) (fun _ kz => XS.iload X412.here hx rfl (hb hby at_59) rfl kz) ?_
      refine own_g (mkF m 62 #[.val (.int x0), .val (.int x1), .val (.int x2), .val (.int x3), .val (.int x4), .val (.ref o394), .val (.ref o403), .val (.int (1 : Int32)), .val (.int (1 : Int32)), .unset, .unset, .unset, .unset, .unset, .unset, .unset, .unset] [(.int (4 : Int32)), (.int x4)]) (fun _ kz => XS.iconst X412.here hx rfl (hb hby at_61) kz) ?_
      refine own_g (mkF m 63 #[.val (.int x0), .val (.int x1), .val (.int x2), .val (.int x3), .val (.int x4), .val (.ref o394), .val (.ref o403), .val (.int (1 : Int32)), .val (.int (1 : Int32)), .unset, .unset, .unset, .unset, .unset, .unset, .unset, .unset] [(.int (x4 &&& (4 : Int32)))]) (fun _ kz => XS.iand X412.here hx rfl (hb hby at_62) rfl kz) ?_
      by_cases hc63_453 : (x4 &&& (4 : Int32)) = (0 : Int32)
      · refine own_g (mkF m 70 #[.val (.int x0), .val (.int x1), .val (.int x2), .val (.int x3), .val (.int x4), .val (.ref o394), .val (.ref o403), .val (.int (1 : Int32)), .val (.int (1 : Int32)), .unset, .unset, .unset, .unset, .unset, .unset, .unset, .unset] []) (fun _ kz => XS.ifYes X412.here hx rfl (pc0 := 63) (pc' := 70) rfl (hb hby at_63) rfl ((if0 _ _).trans (teq hc63_453).1) (by decide) (by decide) kz) ?_
        refine own_g (mkF m 71 #[.val (.int x0), .val (.int x1), .val (.int x2), .val (.int x3), .val (.int x4), .val (.ref o394), .val (.ref o403), .val (.int (1 : Int32)), .val (.int (1 : Int32)), .unset, .unset, .unset, .unset, .unset, .unset, .unset, .unset] [(.int (0 : Int32))]) (fun _ kz => XS.iconst X412.here hx rfl (hb hby at_70) kz) ?_
        refine own_g (mkF m 73 #[.val (.int x0), .val (.int x1), .val (.int x2), .val (.int x3), .val (.int x4), .val (.ref o394), .val (.ref o403), .val (.int (1 : Int32)), .val (.int (1 : Int32)), .val (.int (0 : Int32)), .unset, .unset, .unset, .unset, .unset, .unset, .unset] []) (fun _ kz => XS.istore X412.here hx rfl (hb hby at_71) rfl (l' := #[.val (.int x0), .val (.int x1), .val (.int x2), .val (.int x3), .val (.int x4), .val (.ref o394), .val (.ref o403), .val (.int (1 : Int32)), .val (.int (1 : Int32)), .val (.int (0 : Int32)), .unset, .unset, .unset, .unset, .unset, .unset, .unset]) rfl kz) ?_
        exact rest _ _ _ (Or.inr rfl) (Or.inr rfl) (Or.inl rfl)
      · refine own_g (mkF m 66 #[.val (.int x0), .val (.int x1), .val (.int x2), .val (.int x3), .val (.int x4), .val (.ref o394), .val (.ref o403), .val (.int (1 : Int32)), .val (.int (1 : Int32)), .unset, .unset, .unset, .unset, .unset, .unset, .unset, .unset] []) (fun _ kz => XS.ifNo X412.here hx rfl (hb hby at_63) rfl ((if0 _ _).trans (feq hc63_453).1) kz) ?_
        refine own_g (mkF m 67 #[.val (.int x0), .val (.int x1), .val (.int x2), .val (.int x3), .val (.int x4), .val (.ref o394), .val (.ref o403), .val (.int (1 : Int32)), .val (.int (1 : Int32)), .unset, .unset, .unset, .unset, .unset, .unset, .unset, .unset] [(.int (1 : Int32))]) (fun _ kz => XS.iconst X412.here hx rfl (hb hby at_66) kz) ?_
        refine own_g (mkF m 71 #[.val (.int x0), .val (.int x1), .val (.int x2), .val (.int x3), .val (.int x4), .val (.ref o394), .val (.ref o403), .val (.int (1 : Int32)), .val (.int (1 : Int32)), .unset, .unset, .unset, .unset, .unset, .unset, .unset, .unset] [(.int (1 : Int32))]) (fun _ kz => XS.goto X412.here hx rfl (pc0 := 67) (pc' := 71) rfl (hb hby at_67) (by decide) (by decide) kz) ?_
        refine own_g (mkF m 73 #[.val (.int x0), .val (.int x1), .val (.int x2), .val (.int x3), .val (.int x4), .val (.ref o394), .val (.ref o403), .val (.int (1 : Int32)), .val (.int (1 : Int32)), .val (.int (1 : Int32)), .unset, .unset, .unset, .unset, .unset, .unset, .unset] []) (fun _ kz => XS.istore X412.here hx rfl (hb hby at_71) rfl (l' := #[.val (.int x0), .val (.int x1), .val (.int x2), .val (.int x3), .val (.int x4), .val (.ref o394), .val (.ref o403), .val (.int (1 : Int32)), .val (.int (1 : Int32)), .val (.int (1 : Int32)), .unset, .unset, .unset, .unset, .unset, .unset, .unset]) rfl kz) ?_
        exact rest _ _ _ (Or.inr rfl) (Or.inr rfl) (Or.inr rfl)
theorem own_comes {Post : Tables → Env → Array Value → State → Outcome → State → Prop} (hpost : ∀ tb e args s v u, (limb_1_1.after args s (.returned v) u = true ∧ limb_1_2.after args s (.returned v) u = true ∧ True) → FrameEnd s (.returned v) u (Jvm.fieldLocs frame_1_writes args s ++ Jvm.arrayLocs frame_1_arrays args s ++ Jvm.staticLocs frame_1_statics s) 16 128 → Post tb e args s (.returned v) u) :
    ArmFor flags0 classFile x code maxLocals ret World_1 tables_1 room_1 Calls_1 rest_1 Pre_1 Post := by
  intro l hfl _ _ p e ha hc hk s m args below hf hA hF happ hP
  obtain ⟨hcalls, hrest, hpre⟩ := hP
  obtain ⟨-, -, -, hnamed, -, -, -, hat⟩ := (Spec.applies_iff hf).mp happ
  obtain ⟨hg, hn⟩ := and_e (Cond.before_iff.mp (show (Jvm.Cond.and given_1 narrow_1).before args s = true from hpre))
  obtain ⟨hcount, r0⟩ := and_e hg
  obtain ⟨q0, r1⟩ := and_e r0
  obtain ⟨q1, r2⟩ := and_e r1
  obtain ⟨q2, r3⟩ := and_e r2
  obtain ⟨q3, r4⟩ := and_e r3
  obtain ⟨w0, w1, w2, w3, w4, rfl⟩ : ∃ w0 w1 w2 w3 w4 : Value, args = #[w0, w1, w2, w3, w4] := by
    have hs : args.size = 5 := by simpa [Cond.value, given_1] using hcount
    obtain ⟨L⟩ := args
    match L, hs with
    | [w0, w1, w2, w3, w4], _ => exact ⟨w0, w1, w2, w3, w4, rfl⟩
  have hw := fun d (hd : d ∈ tables_1) => atoms_spec (ws := Jvm.Cond.code x code maxLocals ret :: tables_1) hat d (List.mem_cons_of_mem _ hd)
  obtain ⟨i0, e0⟩ := is_v q0
  obtain rfl : w0 = (.int i0) := Option.some.inj e0
  obtain ⟨i1, e1⟩ := is_v q1
  obtain rfl : w1 = (.int i1) := Option.some.inj e1
  obtain ⟨i2, e2⟩ := is_v q2
  obtain rfl : w2 = (.int i2) := Option.some.inj e2
  obtain ⟨i3, e3⟩ := is_v q3
  obtain rfl : w3 = (.int i3) := Option.some.inj e3
  obtain ⟨i4, e4⟩ := is_v r4
  obtain rfl : w4 = (.int i4) := Option.some.inj e4
  obtain ⟨n, o, h1, h2, h3, _, L, rfl, ⟨rfl, N⟩, hq⟩ := own_c_law l s _ hw i0 i1 i2 i3 i4 s.heap s.heap.size (Nat.le_refl _) p e ha hc hk s m _ below hf ((Spec.applies_iff_loose hf).mp happ).1 ⟨rfl, State.Warmed39.refl s, rfl⟩ trivial
  refine ⟨n, _, h1, h2, h3, hpost _ _ _ _ _ _ ⟨Cond.after_iff.mpr rfl, Cond.after_iff.mpr (eq_i res_at (Term.int_eval (1)) rfl), trivial⟩ ⟨hq.1, hq.2.1, (hq.2.2.sift fun y hy => Or.inr (N y hy)).mono (by decide) (by decide)⟩⟩
theorem main_1_1 : Claimed_1_1 := own_comes fun _ _ _ _ _ _ h hF => ⟨h.1, hF⟩
theorem main_1_2 : Claimed_1_2 := own_comes fun _ _ _ _ _ _ h hF => ⟨h.2.1, hF⟩
end Jvm.Pilot.@@N@@
namespace Jvm.Pilot.@@N@@
open Jvm Jvm.ClassFile Sem Op Lib Jvm.Free Jvm.Stand Jvm.Pilot.@@N@@.Jvm.D
/-! MADE BY PROGRAM (witnessworld.py) out of the Statement's table words and the real class files: 18 classes; the members and pool entries that the words name. The judged class is class 1, her method 1. -/
namespace start1
open Jvm.ClassFile
def u (s : String) : CpInfo := .utf8 (stringToUtf16 s)
/-- a pool by its gaps: so many unusable entries, then the entry; so many at the end -/
def gap : Nat → List CpInfo → List CpInfo
  | 0, r => r
  | n + 1, r => .unusable :: gap n r
def poolList (es : List (Nat × CpInfo)) (last : Nat) : List CpInfo := es.foldr (fun e r => gap e.1 (e.2 :: r)) (gap last [])
def pool (es : List (Nat × CpInfo)) (last : Nat) : Array CpInfo := ⟨poolList es last⟩
def fileOf (pool : Array CpInfo) (this : Nat) (attrs : Array Attribute := #[]) (ms : Array MethodInfo := #[]) (fl : Nat := 33) (sup : Nat := 0) (ifs : Array Nat := #[]) (fds : Array FieldInfo := #[]) : ClassFile where
  minorVersion := 0
  majorVersion := 65
  constantPool := pool
  accessFlags := fl
  thisClass := this
  superClass := sup
  interfaces := ifs
  fields := fds
  methods := ms
  attributes := attrs
def plain (name : String) (sup : Option ClassId) : Class where
  name := name
  kind := .ordinary
  loader := none
  accessFlags := 33
  super := sup
  interfaces := #[]
  cf := none
  fields := #[]
  methods := #[]
  instanceTypes := #[]
  staticTypes := #[]
  resolved := #[]
  callSites := []
  init := .initialized
  statics := none
  mirror := none

def pool0 : Array CpInfo := pool [(5, u "<init>"), (0, u "()V"), (1, .class_ 10), (1, u "java/lang/Object")] 113

def k0c0 : Code := { maxStack := 0, maxLocals := 1, code := object_method_1_code, exceptionTable := #[], attributes := #[] }
def k0m0 : Method := { name := "<init>", desc := "()V", sig := { parameters := [], returnType := none }, accessFlags := 1, code := some k0c0 }
/-- java/lang/Object -/
def k0 : Class := { plain "java/lang/Object" none with
  accessFlags := 33
  interfaces := #[]
  cf := some (fileOf pool0 8 #[] #[{ accessFlags := 1, nameIndex := 5, descriptorIndex := 6, attributes := #[] }] 33 0 #[] #[])
  fields := #[]
  methods := #[k0m0]
  instanceTypes := #[]
  staticTypes := #[]
  resolved := Array.replicate 124 none
  statics := none }

def pool1 : Array CpInfo := pool [(2, .class_ 4), (1, u "java/lang/Object"), (0, u "<init>"), (0, u "()V"), (0, .class_ 8), (0, u "com/example/horncast/horncast/query/LeastCount"), (0, .methodref 7 10), (0, .nameAndType 5 11), (0, u "([I)V"), (0, .methodref 7 13), (0, .nameAndType 14 15), (0, u "takeOut"), (0, u "(IZ)V"), (0, .methodref 7 17), (0, .nameAndType 18 19), (0, u "set"), (0, u "(II)V"), (0, .methodref 7 21), (0, .nameAndType 22 23), (0, u "least"), (0, u "()I"), (0, .class_ 25), (0, u "com/example/horncast/horncast/query/LeastCountLeastPinLaw"), (2, u "law"), (0, u "(IIIII)Z")] 5

def k1m0 : Method := { name := "<init>", desc := "()V", sig := { parameters := [], returnType := none }, accessFlags := 1, code := none }
def k1c1 : Code := { maxStack := 3, maxLocals := 17, code := code, exceptionTable := #[], attributes := #[] }
def k1m1 : Method := { name := "law", desc := "(IIIII)Z", sig := { parameters := [.int, .int, .int, .int, .int], returnType := some .boolean }, accessFlags := 9, code := some k1c1 }
/-- com/example/horncast/horncast/query/LeastCountLeastPinLaw -/
def k1 : Class := { plain "com/example/horncast/horncast/query/LeastCountLeastPinLaw" (some 0) with
  accessFlags := 49
  interfaces := #[]
  cf := some (fileOf pool1 24 #[] #[{ accessFlags := 1, nameIndex := 5, descriptorIndex := 6, attributes := #[] }, { accessFlags := 9, nameIndex := 28, descriptorIndex := 29, attributes := #[] }] 49 2 #[] #[])
  fields := #[]
  methods := #[k1m0, k1m1]
  instanceTypes := #[]
  staticTypes := #[]
  resolved := Array.replicate 35 none
  statics := none }

def pool2 : Array CpInfo := pool [(1, .methodref 2 3), (0, .class_ 4), (0, .nameAndType 5 6), (0, u "java/lang/Object"), (0, u "<init>"), (0, u "()V"), (0, .methodref 8 9), (0, .class_ 10), (0, .nameAndType 11 12), (0, u "java/lang/Math"), (0, u "max"), (0, u "(II)I"), (0, .methodref 14 15), (0, .class_ 16), (0, .nameAndType 17 18), (0, u "java/lang/Integer"), (0, u "highestOneBit"), (0, u "(I)I"), (0, .fieldref 20 21), (0, .class_ 22), (0, .nameAndType 23 24), (0, u "com/example/horncast/horncast/query/LeastCount"), (0, u "firstLeaf"), (0, u "I"), (0, .fieldref 20 26), (0, .nameAndType 27 28), (0, u "count"), (0, u "[I"), (0, .fieldref 20 30), (0, .nameAndType 31 32), (0, u "out"), (0, u "[Z"), (0, .fieldref 20 34), (0, .nameAndType 35 28), (0, u "winner"), (0, .methodref 37 38), (0, .class_ 39), (0, .nameAndType 40 41), (0, u "java/util/Arrays"), (0, u "fill"), (0, u "([II)V"), (0, .methodref 20 43), (0, .nameAndType 44 12), (0, u "match"), (0, .methodref 20 46), (0, .nameAndType 47 48), (0, u "replay"), (0, u "(I)V"), (0, u "([I)V"), (4, u "set"), (0, u "(II)V"), (0, u "takeOut"), (0, u "(IZ)V"), (0, u "least"), (0, u "()I")] 2

def k2c0 : Code := { maxStack := 7, maxLocals := 3, code := prog_29_method_1_code, exceptionTable := #[], attributes := #[] }
def k2m0 : Method := { name := "<init>", desc := "([I)V", sig := { parameters := [(.array .int)], returnType := none }, accessFlags := 0, code := some k2c0 }
def k2c1 : Code := { maxStack := 3, maxLocals := 3, code := prog_29_method_2_code, exceptionTable := #[], attributes := #[] }
def k2m1 : Method := { name := "set", desc := "(II)V", sig := { parameters := [.int, .int], returnType := none }, accessFlags := 0, code := some k2c1 }
def k2c2 : Code := { maxStack := 3, maxLocals := 3, code := prog_29_method_3_code, exceptionTable := #[], attributes := #[] }
def k2m2 : Method := { name := "takeOut", desc := "(IZ)V", sig := { parameters := [.int, .boolean], returnType := none }, accessFlags := 0, code := some k2c2 }
def k2c3 : Code := { maxStack := 2, maxLocals := 2, code := prog_29_method_4_code, exceptionTable := #[], attributes := #[] }
def k2m3 : Method := { name := "least", desc := "()I", sig := { parameters := [], returnType := some .int }, accessFlags := 0, code := some k2c3 }
def k2c4 : Code := { maxStack := 7, maxLocals := 3, code := prog_29_method_5_code, exceptionTable := #[], attributes := #[] }
def k2m4 : Method := { name := "replay", desc := "(I)V", sig := { parameters := [.int], returnType := none }, accessFlags := 2, code := some k2c4 }
def k2c5 : Code := { maxStack := 3, maxLocals := 4, code := prog_29_method_6_code, exceptionTable := #[], attributes := #[] }
def k2m5 : Method := { name := "match", desc := "(II)I", sig := { parameters := [.int, .int], returnType := some .int }, accessFlags := 2, code := some k2c5 }
/-- com/example/horncast/horncast/query/LeastCount -/
def k2 : Class := { plain "com/example/horncast/horncast/query/LeastCount" (some 0) with
  accessFlags := 48
  interfaces := #[]
  cf := some (fileOf pool2 20 #[] #[{ accessFlags := 0, nameIndex := 5, descriptorIndex := 49, attributes := #[] }, { accessFlags := 0, nameIndex := 54, descriptorIndex := 55, attributes := #[] }, { accessFlags := 0, nameIndex := 56, descriptorIndex := 57, attributes := #[] }, { accessFlags := 0, nameIndex := 58, descriptorIndex := 59, attributes := #[] }, { accessFlags := 2, nameIndex := 47, descriptorIndex := 48, attributes := #[] }, { accessFlags := 2, nameIndex := 44, descriptorIndex := 12, attributes := #[] }] 48 2 #[] #[{ accessFlags := 18, nameIndex := 23, descriptorIndex := 24, attributes := #[] }, { accessFlags := 18, nameIndex := 27, descriptorIndex := 28, attributes := #[] }, { accessFlags := 18, nameIndex := 31, descriptorIndex := 32, attributes := #[] }, { accessFlags := 18, nameIndex := 35, descriptorIndex := 28, attributes := #[] }])
  fields := #[{ name := "firstLeaf", type := .int, accessFlags := 18, slot := 0, constantValue := 0 }, { name := "count", type := (.array .int), accessFlags := 18, slot := 1, constantValue := 0 }, { name := "out", type := (.array .boolean), accessFlags := 18, slot := 2, constantValue := 0 }, { name := "winner", type := (.array .int), accessFlags := 18, slot := 3, constantValue := 0 }]
  methods := #[k2m0, k2m1, k2m2, k2m3, k2m4, k2m5]
  instanceTypes := #[.int, (.array .int), (.array .boolean), (.array .int)]
  staticTypes := #[]
  resolved := Array.replicate 62 none
  statics := none }

def pool3 : Array CpInfo := pool [(1, .class_ 2), (0, u "java/lang/Math"), (1, .class_ 6), (1, u "java/lang/Object"), (0, u "<init>"), (0, u "()V"), (89, .class_ 100), (1, u "java/lang/Math$RandomNumberGeneratorHolder"), (71, u "negativeZeroFloatBits"), (0, u "J"), (2, u "negativeZeroDoubleBits"), (21, u "max"), (46, u "$assertionsDisabled"), (0, u "Z"), (88, u "(II)I"), (2, u "twoToTheDoubleScaleDown"), (0, u "D"), (4, u "twoToTheDoubleScaleUp"), (9, u "E"), (3, u "PI"), (2, u "TAU"), (2, u "DEGREES_TO_RADIANS"), (0, u "RADIANS_TO_DEGREES")] 94

def k3m0 : Method := { name := "<init>", desc := "()V", sig := { parameters := [], returnType := none }, accessFlags := 2, code := none }
def k3c1 : Code := { maxStack := 2, maxLocals := 2, code := jdk_29_method_65_code, exceptionTable := #[], attributes := #[] }
def k3m1 : Method := { name := "max", desc := "(II)I", sig := { parameters := [.int, .int], returnType := some .int }, accessFlags := 9, code := some k3c1 }
/-- java/lang/Math -/
def k3 : Class := { plain "java/lang/Math" (some 0) with
  accessFlags := 49
  interfaces := #[]
  cf := some (fileOf pool3 1 #[.nestMembers #[98]] #[{ accessFlags := 2, nameIndex := 7, descriptorIndex := 8, attributes := #[] }, { accessFlags := 9, nameIndex := 198, descriptorIndex := 335, attributes := #[] }] 49 4 #[] #[{ accessFlags := 25, nameIndex := 354, descriptorIndex := 339, attributes := #[] }, { accessFlags := 25, nameIndex := 358, descriptorIndex := 339, attributes := #[] }, { accessFlags := 25, nameIndex := 361, descriptorIndex := 339, attributes := #[] }, { accessFlags := 26, nameIndex := 364, descriptorIndex := 339, attributes := #[] }, { accessFlags := 26, nameIndex := 365, descriptorIndex := 339, attributes := #[] }, { accessFlags := 26, nameIndex := 172, descriptorIndex := 173, attributes := #[] }, { accessFlags := 26, nameIndex := 176, descriptorIndex := 173, attributes := #[] }, { accessFlags := 8, nameIndex := 344, descriptorIndex := 339, attributes := #[] }, { accessFlags := 8, nameIndex := 338, descriptorIndex := 339, attributes := #[] }, { accessFlags := 4120, nameIndex := 245, descriptorIndex := 246, attributes := #[] }])
  fields := #[{ name := "E", type := .double, accessFlags := 25, slot := 0, constantValue := 0 }, { name := "PI", type := .double, accessFlags := 25, slot := 1, constantValue := 0 }, { name := "TAU", type := .double, accessFlags := 25, slot := 2, constantValue := 0 }, { name := "DEGREES_TO_RADIANS", type := .double, accessFlags := 26, slot := 3, constantValue := 0 }, { name := "RADIANS_TO_DEGREES", type := .double, accessFlags := 26, slot := 4, constantValue := 0 }, { name := "negativeZeroFloatBits", type := .long, accessFlags := 26, slot := 5, constantValue := 0 }, { name := "negativeZeroDoubleBits", type := .long, accessFlags := 26, slot := 6, constantValue := 0 }, { name := "twoToTheDoubleScaleUp", type := .double, accessFlags := 8, slot := 7, constantValue := 0 }, { name := "twoToTheDoubleScaleDown", type := .double, accessFlags := 8, slot := 8, constantValue := 0 }, { name := "$assertionsDisabled", type := .boolean, accessFlags := 4120, slot := 9, constantValue := 0 }]
  methods := #[k3m0, k3m1]
  instanceTypes := #[]
  staticTypes := #[.double, .double, .double, .double, .double, .long, .long, .double, .double, .boolean]
  resolved := Array.replicate 460 none
  statics := none }

def pool4 : Array CpInfo := pool [(1, .class_ 2), (0, u "java/io/Serializable"), (0, .class_ 4), (0, u "java/lang/Object")] 2

/-- java/io/Serializable -/
def k4 : Class := { plain "java/io/Serializable" (some 0) with
  accessFlags := 1537
  interfaces := #[]
  cf := some (fileOf pool4 1 #[] #[] 1537 3 #[] #[])
  fields := #[]
  methods := #[]
  instanceTypes := #[]
  staticTypes := #[]
  resolved := Array.replicate 7 none
  statics := none }

def pool5 : Array CpInfo := pool [(2, .class_ 4), (1, u "java/lang/Object"), (0, u "<init>"), (0, u "()V"), (1, .class_ 10), (1, u "java/lang/Number"), (2, .class_ 14), (0, u "java/io/Serializable"), (0, u "serialVersionUID"), (0, u "J")] 20

def k5m0 : Method := { name := "<init>", desc := "()V", sig := { parameters := [], returnType := none }, accessFlags := 1, code := none }
/-- java/lang/Number -/
def k5 : Class := { plain "java/lang/Number" (some 0) with
  accessFlags := 1057
  interfaces := #[4]
  cf := some (fileOf pool5 8 #[] #[{ accessFlags := 1, nameIndex := 5, descriptorIndex := 6, attributes := #[] }] 1057 2 #[13] #[{ accessFlags := 26, nameIndex := 15, descriptorIndex := 16, attributes := #[] }])
  fields := #[{ name := "serialVersionUID", type := .long, accessFlags := 26, slot := 0, constantValue := 0 }]
  methods := #[k5m0]
  instanceTypes := #[]
  staticTypes := #[.long]
  resolved := Array.replicate 37 none
  statics := none }

def pool6 : Array CpInfo := pool [(1, .class_ 2), (0, u "java/lang/Comparable"), (0, .class_ 4), (0, u "java/lang/Object")] 7

/-- java/lang/Comparable -/
def k6 : Class := { plain "java/lang/Comparable" (some 0) with
  accessFlags := 1537
  interfaces := #[]
  cf := some (fileOf pool6 1 #[] #[] 1537 3 #[] #[])
  fields := #[]
  methods := #[]
  instanceTypes := #[]
  staticTypes := #[]
  resolved := Array.replicate 12 none
  statics := none }

def pool7 : Array CpInfo := pool [(1, .class_ 2), (0, u "java/lang/constant/Constable"), (0, .class_ 4), (0, u "java/lang/Object")] 6

/-- java/lang/constant/Constable -/
def k7 : Class := { plain "java/lang/constant/Constable" (some 0) with
  accessFlags := 1537
  interfaces := #[]
  cf := some (fileOf pool7 1 #[] #[] 1537 3 #[] #[])
  fields := #[]
  methods := #[]
  instanceTypes := #[]
  staticTypes := #[]
  resolved := Array.replicate 11 none
  statics := none }

def pool8 : Array CpInfo := pool [(1, .class_ 2), (0, u "java/lang/constant/ConstantDesc"), (0, .class_ 4), (0, u "java/lang/Object")] 32

/-- java/lang/constant/ConstantDesc -/
def k8 : Class := { plain "java/lang/constant/ConstantDesc" (some 0) with
  accessFlags := 1537
  interfaces := #[]
  cf := some (fileOf pool8 1 #[] #[] 1537 3 #[] #[])
  fields := #[]
  methods := #[]
  instanceTypes := #[]
  staticTypes := #[]
  resolved := Array.replicate 37 none
  statics := none }

def pool9 : Array CpInfo := pool [(1, .class_ 2), (0, u "java/lang/Integer"), (16, u "digits"), (0, u "[C"), (30, .methodref 1 52), (0, .nameAndType 53 54), (0, u "numberOfLeadingZeros"), (0, u "(I)I"), (30, u "DigitOnes"), (0, u "[B"), (2, u "DigitTens"), (37, .integer 2147483648), (61, .class_ 190), (0, u "java/lang/Integer$IntegerCache"), (3, u "I"), (8, .class_ 204), (0, u "java/lang/Number"), (2, u "value"), (56, .integer 65536), (37, u "TYPE"), (0, u "Ljava/lang/Class;"), (0, .class_ 305), (0, u "java/lang/Comparable"), (0, .class_ 307), (0, u "java/lang/constant/Constable"), (0, .class_ 309), (0, u "java/lang/constant/ConstantDesc"), (0, u "MIN_VALUE"), (1, u "MAX_VALUE"), (3, u "SIZE"), (1, u "BYTES"), (1, u "serialVersionUID"), (0, u "J"), (81, u "highestOneBit")] 49

def k9c0 : Code := { maxStack := 3, maxLocals := 1, code := jdk_33_method_45_code, exceptionTable := #[], attributes := #[] }
def k9m0 : Method := { name := "highestOneBit", desc := "(I)I", sig := { parameters := [.int], returnType := some .int }, accessFlags := 9, code := some k9c0 }
def k9c1 : Code := { maxStack := 3, maxLocals := 2, code := jdk_33_method_47_code, exceptionTable := #[], attributes := #[] }
def k9m1 : Method := { name := "numberOfLeadingZeros", desc := "(I)I", sig := { parameters := [.int], returnType := some .int }, accessFlags := 9, code := some k9c1 }
/-- java/lang/Integer -/
def k9 : Class := { plain "java/lang/Integer" (some 5) with
  accessFlags := 49
  interfaces := #[6, 7, 8]
  cf := some (fileOf pool9 1 #[.nestMembers #[189]] #[{ accessFlags := 9, nameIndex := 403, descriptorIndex := 54, attributes := #[] }, { accessFlags := 9, nameIndex := 53, descriptorIndex := 54, attributes := #[] }] 49 203 #[304, 306, 308] #[{ accessFlags := 25, nameIndex := 310, descriptorIndex := 194, attributes := #[] }, { accessFlags := 25, nameIndex := 312, descriptorIndex := 194, attributes := #[] }, { accessFlags := 25, nameIndex := 302, descriptorIndex := 303, attributes := #[] }, { accessFlags := 24, nameIndex := 19, descriptorIndex := 20, attributes := #[] }, { accessFlags := 24, nameIndex := 89, descriptorIndex := 86, attributes := #[] }, { accessFlags := 24, nameIndex := 85, descriptorIndex := 86, attributes := #[] }, { accessFlags := 18, nameIndex := 207, descriptorIndex := 194, attributes := #[] }, { accessFlags := 25, nameIndex := 316, descriptorIndex := 194, attributes := #[] }, { accessFlags := 25, nameIndex := 318, descriptorIndex := 194, attributes := #[] }, { accessFlags := 26, nameIndex := 320, descriptorIndex := 321, attributes := #[] }])
  fields := #[{ name := "MIN_VALUE", type := .int, accessFlags := 25, slot := 0, constantValue := 0 }, { name := "MAX_VALUE", type := .int, accessFlags := 25, slot := 1, constantValue := 0 }, { name := "TYPE", type := (.object "java/lang/Class"), accessFlags := 25, slot := 2, constantValue := 0 }, { name := "digits", type := (.array .char), accessFlags := 24, slot := 3, constantValue := 0 }, { name := "DigitTens", type := (.array .byte), accessFlags := 24, slot := 4, constantValue := 0 }, { name := "DigitOnes", type := (.array .byte), accessFlags := 24, slot := 5, constantValue := 0 }, { name := "value", type := .int, accessFlags := 18, slot := 0, constantValue := 0 }, { name := "SIZE", type := .int, accessFlags := 25, slot := 6, constantValue := 0 }, { name := "BYTES", type := .int, accessFlags := 25, slot := 7, constantValue := 0 }, { name := "serialVersionUID", type := .long, accessFlags := 26, slot := 8, constantValue := 0 }]
  methods := #[k9m0, k9m1]
  instanceTypes := #[.int]
  staticTypes := #[.int, .int, (.object "java/lang/Class"), (.array .char), (.array .byte), (.array .byte), .int, .int, .long]
  resolved := Array.replicate 453 none
  statics := none }

def pool10 : Array CpInfo := pool [(2, .class_ 4), (1, u "java/lang/Object"), (0, u "<init>"), (0, u "()V"), (7, .class_ 16), (1, u "java/util/Arrays"), (57, .class_ 76), (1, u "java/util/Arrays$NaturalOrder"), (36, .class_ 115), (1, u "java/util/Arrays$LegacyMergeSort"), (1, u "Z"), (257, .class_ 376), (0, u "java/util/Arrays$ArrayList"), (68, u "$assertionsDisabled"), (269, u "MIN_ARRAY_SORT_GRAN"), (0, u "I"), (2, u "INSERTIONSORT_THRESHOLD"), (120, u "fill"), (4, u "([II)V"), (129, .class_ 976), (0, u "java/util/Arrays$ArrayItr")] 52

def k10m0 : Method := { name := "<init>", desc := "()V", sig := { parameters := [], returnType := none }, accessFlags := 2, code := none }
def k10c1 : Code := { maxStack := 3, maxLocals := 4, code := jdk_65_method_103_code, exceptionTable := #[], attributes := #[] }
def k10m1 : Method := { name := "fill", desc := "([II)V", sig := { parameters := [(.array .int), .int], returnType := none }, accessFlags := 9, code := some k10c1 }
/-- java/util/Arrays -/
def k10 : Class := { plain "java/util/Arrays" (some 0) with
  accessFlags := 49
  interfaces := #[]
  cf := some (fileOf pool10 14 #[.nestMembers #[975, 375, 113, 74]] #[{ accessFlags := 2, nameIndex := 5, descriptorIndex := 6, attributes := #[] }, { accessFlags := 9, nameIndex := 840, descriptorIndex := 845, attributes := #[] }] 49 2 #[] #[{ accessFlags := 26, nameIndex := 715, descriptorIndex := 716, attributes := #[] }, { accessFlags := 26, nameIndex := 719, descriptorIndex := 716, attributes := #[] }, { accessFlags := 4120, nameIndex := 445, descriptorIndex := 117, attributes := #[] }])
  fields := #[{ name := "MIN_ARRAY_SORT_GRAN", type := .int, accessFlags := 26, slot := 0, constantValue := 0 }, { name := "INSERTIONSORT_THRESHOLD", type := .int, accessFlags := 26, slot := 1, constantValue := 0 }, { name := "$assertionsDisabled", type := .boolean, accessFlags := 4120, slot := 2, constantValue := 0 }]
  methods := #[k10m0, k10m1]
  instanceTypes := #[]
  staticTypes := #[.int, .int, .boolean]
  resolved := Array.replicate 1029 none
  statics := none }

def pool11 : Array CpInfo := pool [(1, u "java/lang/Cloneable"), (0, .class_ 1), (0, u "java/lang/Object"), (0, .class_ 3)] 3

/-- java/lang/Cloneable -/
def k11 : Class := { plain "java/lang/Cloneable" (some 0) with
  accessFlags := 1537
  interfaces := #[]
  cf := some (fileOf pool11 2 #[] #[] 1537 4 #[] #[])
  fields := #[]
  methods := #[]
  instanceTypes := #[]
  staticTypes := #[]
  resolved := Array.replicate 8 none
  statics := none }

/-- the primitive boolean -/
def k12 : Class := { plain "boolean" none with kind := .primitive 'Z', accessFlags := 0x411 }
/-- [Z -/
def k13 : Class := { plain "[Z" (some 0) with kind := .array 12 .boolean, interfaces := #[11, 4], accessFlags := 1041 }

/-- the primitive byte -/
def k14 : Class := { plain "byte" none with kind := .primitive 'B', accessFlags := 0x411 }
/-- [B -/
def k15 : Class := { plain "[B" (some 0) with kind := .array 14 .byte, interfaces := #[11, 4], accessFlags := 1041 }

/-- the primitive int -/
def k16 : Class := { plain "int" none with kind := .primitive 'I', accessFlags := 0x411 }
/-- [I -/
def k17 : Class := { plain "[I" (some 0) with kind := .array 16 .int, interfaces := #[11, 4], accessFlags := 1041 }

def heap : Heap := #[]
def classes : Array Class := #[k0, k1, k2, k3, k4, k5, k6, k7, k8, k9, k10, k11, k12, k13, k14, k15, k16, k17]
def interned : List (Array UInt16 × Addr) := []
def slotsUsed : Nat := 0
def theMethod : MethodId := ⟨1, 1⟩
def args0 : Array Value := #[.int 5, .int 7, .int 1, .int 2, .int 3]
def aboutOver (below : List Frame) : State where
  vm := { classes := classes, interned := interned.toArray }
  heap := heap
  slotsUsed := slotsUsed
  threads := #[{ frames := .invoking theMethod args0 :: below }]
def below0 : List Frame := [.native { method := ⟨0, 0⟩, args := #[] }]
def about1 : State := aboutOver below0
def p0 : Program := .bare "" "" ""
def e0 : Env := launch0.env 0 0 0
theorem w_frames : about1.frames = Frame.invoking theMethod args0 :: below0 := rfl
set_option maxRecDepth 65536 in
theorem w_args : argsFit about1.vm theMethod args0 = true := by decide +kernel
set_option maxRecDepth 65536 in
theorem w_heap : heapFits about1 = true := by decide +kernel
set_option maxRecDepth 65536 in
theorem w_runnable : about1.curStatus? = some .runnable := by decide +kernel
set_option maxRecDepth 65536 in
theorem w_alone : about1.alone = true := by decide +kernel
set_option maxRecDepth 65536 in
theorem w_named : about1.methodNamed? x = some theMethod := by decide +kernel
set_option maxRecDepth 65536 in
theorem w_hears : about1.hears theMethod below0 = true := by decide +kernel
set_option maxRecDepth 65536 in
theorem w_ripe : about1.ripe theMethod args0 below0 = true := by decide +kernel
theorem w_running : about1.status = .running := rfl
set_option maxRecDepth 65536 in
theorem w_room : about1.hasRoom e0.platform room_1 = true :=
  launch0.hasRoom_least _ room_1 (by decide +kernel) (by decide +kernel) (by decide +kernel) (by decide +kernel) (by decide +kernel) (by decide +kernel)
theorem allAtoms_all (ts : List Jvm.Cond) (a : Array Jvm.Value) (st : Jvm.State) : (allAtoms ts).before a st = ts.all (fun c => c.before a st) := by
  induction ts with
  | nil => rfl
  | cons c t ih =>
    show (Jvm.Cond.and c (allAtoms t)).before a st = _
    rw [Jvm.Cond.before_and, ih, List.all_cons]
def words1 : List Jvm.Cond := Jvm.Cond.code x code maxLocals ret :: tables_1
/-- a 'code' word, met by the world's own term for the bytes: nothing is compared byte by byte -/
theorem code_word {y : MethodName} {bytes : ByteArray} {mx : Nat} {rt : Option FieldType} {a : Array Value} {s : State} {m : MethodId} {meth : Method} {c : Code} (h1 : s.methodNamed? y = some m) (h2 : s.vm.method? m = some meth) (h3 : meth.code = some c) (h4 : c.code = bytes)
    (h5 : (c.maxLocals == mx && c.exceptionTable.isEmpty && decide (c.maxStack ≤ mostOperands) && decide (meth.sig.returnType = rt) && !meth.locks && decide (parseMethodDescriptor y.desc = some meth.sig)) = true) : (Jvm.Cond.code y bytes mx rt).before a s = true := by
  simp only [Bool.and_eq_true, beq_iff_eq, Bool.not_eq_true', decide_eq_true_eq] at h5
  obtain ⟨⟨⟨⟨⟨g1, g2⟩, g3⟩, g4⟩, g5⟩, g6⟩ := h5
  simp [Cond.before, Cond.holds, Cond.value, h1, h2, h3, h4, g1, g2, g3, g4, g5, g6]
def isCode : Jvm.Cond → Bool
  | .code _ _ _ _ => true
  | _ => false
theorem all_split {L : List Jvm.Cond} {P : Jvm.Cond → Bool} (h1 : L.all (fun c => isCode c || P c) = true) (h2 : ∀ c ∈ L.filter isCode, P c = true) : L.all P = true := by
  refine List.all_eq_true.mpr fun c hc => ?_
  have h := List.all_eq_true.mp h1 c hc
  rcases Bool.eq_false_or_eq_true (isCode c) with hi | hi
  · exact h2 c (List.mem_filter.mpr ⟨hc, hi⟩)
  · simpa [hi] using h
set_option maxRecDepth 65536 in
theorem w_c0 : (Jvm.Cond.code x code maxLocals ret).before args0 about1 = true := code_word (m := ⟨1, 1⟩) (meth := k1m1) (c := k1c1) (by decide +kernel) rfl rfl rfl (by decide +kernel)
set_option maxRecDepth 65536 in
theorem w_c1 : (Jvm.Cond.code ({ cls := "com/example/horncast/horncast/query/LeastCount", name := "<init>", desc := "([I)V" } : Jvm.MethodName) prog_29_method_1_code (3 : Nat) (Option.none : Option Jvm.ClassFile.FieldType)).before args0 about1 = true := code_word (m := ⟨2, 0⟩) (meth := k2m0) (c := k2c0) (by decide +kernel) rfl rfl rfl (by decide +kernel)
set_option maxRecDepth 65536 in
theorem w_c2 : (Jvm.Cond.code ({ cls := "java/lang/Object", name := "<init>", desc := "()V" } : Jvm.MethodName) object_method_1_code (1 : Nat) (Option.none : Option Jvm.ClassFile.FieldType)).before args0 about1 = true := code_word (m := ⟨0, 0⟩) (meth := k0m0) (c := k0c0) (by decide +kernel) rfl rfl rfl (by decide +kernel)
set_option maxRecDepth 65536 in
theorem w_c3 : (Jvm.Cond.code ({ cls := "java/lang/Math", name := "max", desc := "(II)I" } : Jvm.MethodName) jdk_29_method_65_code (2 : Nat) (Option.some Jvm.ClassFile.FieldType.int)).before args0 about1 = true := code_word (m := ⟨3, 1⟩) (meth := k3m1) (c := k3c1) (by decide +kernel) rfl rfl rfl (by decide +kernel)
set_option maxRecDepth 65536 in
theorem w_c4 : (Jvm.Cond.code ({ cls := "java/lang/Integer", name := "highestOneBit", desc := "(I)I" } : Jvm.MethodName) jdk_33_method_45_code (1 : Nat) (Option.some Jvm.ClassFile.FieldType.int)).before args0 about1 = true := code_word (m := ⟨9, 0⟩) (meth := k9m0) (c := k9c0) (by decide +kernel) rfl rfl rfl (by decide +kernel)
set_option maxRecDepth 65536 in
theorem w_c5 : (Jvm.Cond.code ({ cls := "java/lang/Integer", name := "numberOfLeadingZeros", desc := "(I)I" } : Jvm.MethodName) jdk_33_method_47_code (2 : Nat) (Option.some Jvm.ClassFile.FieldType.int)).before args0 about1 = true := code_word (m := ⟨9, 1⟩) (meth := k9m1) (c := k9c1) (by decide +kernel) rfl rfl rfl (by decide +kernel)
set_option maxRecDepth 65536 in
theorem w_c6 : (Jvm.Cond.code ({ cls := "java/util/Arrays", name := "fill", desc := "([II)V" } : Jvm.MethodName) jdk_65_method_103_code (4 : Nat) (Option.none : Option Jvm.ClassFile.FieldType)).before args0 about1 = true := code_word (m := ⟨10, 1⟩) (meth := k10m1) (c := k10c1) (by decide +kernel) rfl rfl rfl (by decide +kernel)
set_option maxRecDepth 65536 in
theorem w_c7 : (Jvm.Cond.code ({ cls := "com/example/horncast/horncast/query/LeastCount", name := "match", desc := "(II)I" } : Jvm.MethodName) prog_29_method_6_code (4 : Nat) (Option.some Jvm.ClassFile.FieldType.int)).before args0 about1 = true := code_word (m := ⟨2, 5⟩) (meth := k2m5) (c := k2c5) (by decide +kernel) rfl rfl rfl (by decide +kernel)
set_option maxRecDepth 65536 in
theorem w_c8 : (Jvm.Cond.code ({ cls := "com/example/horncast/horncast/query/LeastCount", name := "takeOut", desc := "(IZ)V" } : Jvm.MethodName) prog_29_method_3_code (3 : Nat) (Option.none : Option Jvm.ClassFile.FieldType)).before args0 about1 = true := code_word (m := ⟨2, 2⟩) (meth := k2m2) (c := k2c2) (by decide +kernel) rfl rfl rfl (by decide +kernel)
set_option maxRecDepth 65536 in
theorem w_c9 : (Jvm.Cond.code ({ cls := "com/example/horncast/horncast/query/LeastCount", name := "replay", desc := "(I)V" } : Jvm.MethodName) prog_29_method_5_code (3 : Nat) (Option.none : Option Jvm.ClassFile.FieldType)).before args0 about1 = true := code_word (m := ⟨2, 4⟩) (meth := k2m4) (c := k2c4) (by decide +kernel) rfl rfl rfl (by decide +kernel)
set_option maxRecDepth 65536 in
theorem w_c10 : (Jvm.Cond.code ({ cls := "com/example/horncast/horncast/query/LeastCount", name := "least", desc := "()I" } : Jvm.MethodName) prog_29_method_4_code (2 : Nat) (Option.some Jvm.ClassFile.FieldType.int)).before args0 about1 = true := code_word (m := ⟨2, 3⟩) (meth := k2m3) (c := k2c3) (by decide +kernel) rfl rfl rfl (by decide +kernel)
set_option maxRecDepth 65536 in
theorem w_c11 : (Jvm.Cond.code ({ cls := "com/example/horncast/horncast/query/LeastCount", name := "set", desc := "(II)V" } : Jvm.MethodName) prog_29_method_2_code (3 : Nat) (Option.none : Option Jvm.ClassFile.FieldType)).before args0 about1 = true := code_word (m := ⟨2, 1⟩) (meth := k2m1) (c := k2c1) (by decide +kernel) rfl rfl rfl (by decide +kernel)
def codes1 : List Jvm.Cond := [Jvm.Cond.code x code maxLocals ret, Jvm.Cond.code ({ cls := "com/example/horncast/horncast/query/LeastCount", name := "<init>", desc := "([I)V" } : Jvm.MethodName) prog_29_method_1_code (3 : Nat) (Option.none : Option Jvm.ClassFile.FieldType), Jvm.Cond.code ({ cls := "java/lang/Object", name := "<init>", desc := "()V" } : Jvm.MethodName) object_method_1_code (1 : Nat) (Option.none : Option Jvm.ClassFile.FieldType), Jvm.Cond.code ({ cls := "java/lang/Math", name := "max", desc := "(II)I" } : Jvm.MethodName) jdk_29_method_65_code (2 : Nat) (Option.some Jvm.ClassFile.FieldType.int), Jvm.Cond.code ({ cls := "java/lang/Integer", name := "highestOneBit", desc := "(I)I" } : Jvm.MethodName) jdk_33_method_45_code (1 : Nat) (Option.some Jvm.ClassFile.FieldType.int), Jvm.Cond.code ({ cls := "java/lang/Integer", name := "numberOfLeadingZeros", desc := "(I)I" } : Jvm.MethodName) jdk_33_method_47_code (2 : Nat) (Option.some Jvm.ClassFile.FieldType.int), Jvm.Cond.code ({ cls := "java/util/Arrays", name := "fill", desc := "([II)V" } : Jvm.MethodName) jdk_65_method_103_code (4 : Nat) (Option.none : Option Jvm.ClassFile.FieldType), Jvm.Cond.code ({ cls := "com/example/horncast/horncast/query/LeastCount", name := "match", desc := "(II)I" } : Jvm.MethodName) prog_29_method_6_code (4 : Nat) (Option.some Jvm.ClassFile.FieldType.int), Jvm.Cond.code ({ cls := "com/example/horncast/horncast/query/LeastCount", name := "takeOut", desc := "(IZ)V" } : Jvm.MethodName) prog_29_method_3_code (3 : Nat) (Option.none : Option Jvm.ClassFile.FieldType), Jvm.Cond.code ({ cls := "com/example/horncast/horncast/query/LeastCount", name := "replay", desc := "(I)V" } : Jvm.MethodName) prog_29_method_5_code (3 : Nat) (Option.none : Option Jvm.ClassFile.FieldType), Jvm.Cond.code ({ cls := "com/example/horncast/horncast/query/LeastCount", name := "least", desc := "()I" } : Jvm.MethodName) prog_29_method_4_code (2 : Nat) (Option.some Jvm.ClassFile.FieldType.int), Jvm.Cond.code ({ cls := "com/example/horncast/horncast/query/LeastCount", name := "set", desc := "(II)V" } : Jvm.MethodName) prog_29_method_2_code (3 : Nat) (Option.none : Option Jvm.ClassFile.FieldType)]
set_option maxRecDepth 65536 in
theorem codes_eq : words1.filter isCode = codes1 := rfl
theorem w_codes : ∀ c ∈ words1.filter isCode, c.before args0 about1 = true := by
  rw [codes_eq]
  intro c hc
  simp only [codes1, List.mem_cons, List.not_mem_nil, or_false] at hc
  rcases hc with rfl | rfl | rfl | rfl | rfl | rfl | rfl | rfl | rfl | rfl | rfl | rfl
  · exact w_c0
  · exact w_c1
  · exact w_c2
  · exact w_c3
  · exact w_c4
  · exact w_c5
  · exact w_c6
  · exact w_c7
  · exact w_c8
  · exact w_c9
  · exact w_c10
  · exact w_c11
set_option maxRecDepth 65536 in
theorem w_t1 : (words1.take 24).all (fun c => isCode c || c.before args0 about1) = true := by decide +kernel
set_option maxRecDepth 65536 in
theorem w_t2 : ((words1.drop 24).take 24).all (fun c => isCode c || c.before args0 about1) = true := by decide +kernel
set_option maxRecDepth 65536 in
theorem w_t3 : ((words1.drop 24).drop 24).all (fun c => isCode c || c.before args0 about1) = true := by decide +kernel
theorem w_tables : (allAtoms (Jvm.Cond.code x code maxLocals ret :: tables_1)).before args0 about1 = true := by
  rw [allAtoms_all]
  show words1.all (fun c => c.before args0 about1) = true
  refine all_split ?_ w_codes
  rw [← List.take_append_drop 24 words1, List.all_append, w_t1, ← List.take_append_drop 24 (words1.drop 24), List.all_append, w_t2, w_t3]
  rfl
set_option maxRecDepth 65536 in
theorem w_case : (Jvm.Cond.and given_1 narrow_1).before args0 about1 = true := by decide +kernel
theorem w_applies : (headSpec (Jvm.Cond.code x code maxLocals ret :: tables_1) room_1).applies x e0.platform about1 = true :=
  (Spec.applies_iff w_frames).mpr ⟨w_running, w_runnable, w_alone, w_named, w_hears, w_ripe, w_room, w_tables⟩
theorem atStart : AtStart classFile x code maxLocals ret World_1 tables_1 room_1 Calls_1 rest_1 Pre_1 launch0 p0 e0 about1 theMethod args0 below0 :=
  ⟨lists_1, trivial, launch0.admits_env _ _ _, launch0.least_env, fairChoices_fair.cas, fairChoices_fair.clock, w_frames, w_args, w_heap, w_applies, trivial, trivial, w_case⟩
end start1
theorem witness_1 : WitnessClaimed_1 := ⟨start1.p0, start1.e0, start1.about1, start1.theMethod, start1.args0, start1.below0, start1.atStart⟩
end Jvm.Pilot.@@N@@
