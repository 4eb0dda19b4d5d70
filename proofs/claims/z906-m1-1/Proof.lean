import JvmDerived
import JvmDerived.Pilot.@@N@@Statement
import JvmDerived.Pilot.@@N@@Code
set_option linter.unusedVariables false
set_option linter.unusedSimpArgs false
namespace Jvm.Pilot.@@N@@
open Jvm Jvm.ClassFile Sem Op Lib Jvm.Free Jvm.Stand Jvm.LawKit Jvm.RoadKit Bundle Jvm.Pilot.@@N@@.Jvm.D
section Own
variable {p : Program} {l : Launch} {e : Env} {R : Room} {s : State} {m : MethodId} {args : Array Value} {below : List Frame} {meth : Method} {c : Code} {T : State} {locs : List Loc} {cells slots : Nat} {Z : State} {a0 : Array Value} {h : Heap} {P : State → Outcome → Prop} {pc pc' : Nat} {Ls Ls' : Array Slot} {st : List Value}
/-- from the state A the run comes to an end of which P speaks -/
def Dn (p : Program) (e : Env) (below : List Frame) (P : State → Outcome → Prop) (A : State) : Prop := ∃ s₂ o, Steps p.tables e below A s₂ ∧ P s₂ o
/-- the invocation has ended, returned, and Q holds of what it returned, the heap and the places written -/
def PQ (below : List Frame) (s : State) (Q : Option Value → Heap → List Loc → Prop) (k n : Nat) (s₂ : State) (o : Outcome) : Prop :=
  s₂.status = .running ∧ Ended s₂ below o ∧ ∃ v L, o = .returned v ∧ Q v s₂.heap L ∧ FrameEnd s o s₂ L k n
theorem go {A B : State} (w : ∀ t, Steps p.tables e below B t → Steps p.tables e below A t) (k : Dn p e below P B) : Dn p e below P A := by
  obtain ⟨s₂, o, h1, h2⟩ := k
  exact ⟨s₂, o, w _ h1, h2⟩
theorem goS {A B : State} (w : Steps p.tables e below A B) (k : Dn p e below P B) : Dn p e below P A := by
  obtain ⟨s₂, o, h1, h2⟩ := k
  exact ⟨s₂, o, w.trans h1, h2⟩
/-- a method's contract, at given arguments and a given heap -/
abbrev Ctr (l : Launch) (Z : State) (y : MethodName) (bytes : ByteArray) (maxL : Nat) (ret : Option FieldType) (ws : List Jvm.Cond) (R : Room) (as' : Array Value) (h0 : Heap) (Q : Option Value → Heap → List Loc → Prop) : Prop :=
  MetFree l y (head1 (Jvm.Cond.code y bytes maxL ret :: ws) R) (fun a U => a = as' ∧ Z.Warmed39 U.vm ∧ U.heap = h0) (fun _ _ _ _ _ => True) (fun _ U o U' => ∃ v L, o = .returned v ∧ Q v U'.heap L ∧ FrameEnd U o U' L R.cells R.slots)
theorem ctr_mk {y : MethodName} {bytes : ByteArray} {maxL : Nat} {ret : Option FieldType} {ws : List Jvm.Cond} {as' : Array Value} {h0 : Heap} {Q : Option Value → Heap → List Loc → Prop} {own mn : String} (hpl : plainFor y = true) (ho : y.cls = own) (hmn : y.name = mn)
    (body : ∀ (p : Program) (e : Env) (s : State) (m : MethodId) (below : List Frame) (meth : Method) (c : Code) (T : State), Stand p l e R s m as' below meth c T [] 0 0 → p.tables.exec = Jvm.exec → c.code = bytes → c.maxLocals = maxL → Z.Warmed39 s.vm → s.vm.findClass own = some m.cls → meth.name = mn → meth.sig.returnType = ret → meth.locks = false → T.heap = h0 →
      Dn p e below (PQ below s Q R.cells R.slots) (T.setTop (entryFrame m as' maxL))) : Ctr l Z y bytes maxL ret ws R as' h0 Q := by
  subst ho hmn
  refine MetFree.of_bodySF hpl hisR ?_
  intro p e s m args below meth c s₁ Bd hml hP hK
  obtain ⟨rfl, hZ, hh⟩ := hP
  have e0 : s₁.heap = h0 := by rw [← hh, Bd.state]; rfl
  obtain ⟨s₂, o, h1, h2, h3, h4⟩ := body p e s m below meth c s₁ (Stand.of_body Bd) Bd.exec Bd.bytes hml hZ (findClass_of_methodNamed Bd.named) (name_of_methodNamed Bd.named Bd.method).1 Bd.returns Bd.notSynchronized e0
  exact ⟨s₂, o, h1, h2, h3, h4⟩
theorem o_entry {g : JFrame} {as' : Array Value} {maxL : Nat} (q : entryFrame m as' maxL = g) (k : Dn p e below P (T.setTop g)) : Dn p e below P (T.setTop (entryFrame m as' maxL)) := q ▸ k
theorem fin_of {Q : Option Value → Heap → List Loc → Prop} {k n : Nat} {v : Option Value} {A : State} (X : Stand p l e R s m args below meth c T locs cells slots) (hlk : meth.locks = false) (hv : meth.sig.returnType = none → v = none) (hc : cells ≤ k) (hs : slots ≤ n) (hQ : Q v T.heap locs)
    (w : ∀ fs, (∀ (f : JFrame) (acts : List Action), f.method = m → f.locked = none → f.entered = [] → (doReturn e (T.setTop f) acts v).1 = T.setFrames fs) → Steps p.tables e below A (T.setFrames fs)) : Dn p e below (PQ below s Q k n) A := by
  obtain ⟨fs, hr, hrun, hended, hW, hsame⟩ := X.leave (v := v) hv hlk
  exact ⟨_, _, w fs hr, hrun, hended, _, _, rfl, hQ, ⟨_, rfl⟩, hW, hsame.mono hc hs⟩
theorem finI {Q : Option Value → Heap → List Loc → Prop} {k n : Nat} (X : Stand p l e R s m args below meth c T locs cells slots) (hx : p.tables.exec = Jvm.exec) (hlk : meth.locks = false) {z : Int32} (hret : meth.sig.returnType = some .int) (hd : decode c.code pc = .ok (.ireturn, 1)) (hc : cells ≤ k) (hs : slots ≤ n) (hQ : Q (some (.int z)) T.heap locs) :
    Dn p e below (PQ below s Q k n) (T.setTop (mkF m pc Ls (.int z :: st))) :=
  fin_of X hlk (fun q => by rw [hret] at q; cases q) hc hs hQ (fun fs hr => retOut X hx hret rfl (Or.inl ⟨rfl, Or.inl rfl, _, rfl⟩) hd hr)
theorem finN {Q : Option Value → Heap → List Loc → Prop} {k n : Nat} (X : Stand p l e R s m args below meth c T locs cells slots) (hx : p.tables.exec = Jvm.exec) (hlk : meth.locks = false) {z : Int32} {t : FieldType} (hret : meth.sig.returnType = some t) (ht : t = .boolean ∨ t = .byte ∨ t = .char ∨ t = .short) (hd : decode c.code pc = .ok (.ireturn, 1)) (hc : cells ≤ k) (hs : slots ≤ n) (hQ : Q (some (.int (nar t z))) T.heap locs) :
    Dn p e below (PQ below s Q k n) (T.setTop (mkF m pc Ls (.int z :: st))) :=
  fin_of X hlk (fun q => by rw [hret] at q; cases q) hc hs hQ (fun fs hr => retN X hx hret ht hd hr)
theorem finJ {Q : Option Value → Heap → List Loc → Prop} {k n : Nat} (X : Stand p l e R s m args below meth c T locs cells slots) (hx : p.tables.exec = Jvm.exec) (hlk : meth.locks = false) {z : Int64} (hret : meth.sig.returnType = some .long) (hd : decode c.code pc = .ok (.lreturn, 1)) (hc : cells ≤ k) (hs : slots ≤ n) (hQ : Q (some (.long z)) T.heap locs) :
    Dn p e below (PQ below s Q k n) (T.setTop (mkF m pc Ls (.long z :: st))) :=
  fin_of X hlk (fun q => by rw [hret] at q; cases q) hc hs hQ (fun fs hr => retOut X hx hret rfl (Or.inr (Or.inl ⟨rfl, rfl, _, rfl⟩)) hd hr)
theorem finA {Q : Option Value → Heap → List Loc → Prop} {k n : Nat} (X : Stand p l e R s m args below meth c T locs cells slots) (hx : p.tables.exec = Jvm.exec) (hlk : meth.locks = false) {w : Value} {t : FieldType} (hw : w.isRef = true) (hret : meth.sig.returnType = some t) (ht : t.isReference = true) (hn : narrow t w = w) (hd : decode c.code pc = .ok (.areturn, 1)) (hc : cells ≤ k) (hs : slots ≤ n) (hQ : Q (some w) T.heap locs) :
    Dn p e below (PQ below s Q k n) (T.setTop (mkF m pc Ls (w :: st))) :=
  fin_of X hlk (fun q => by rw [hret] at q; cases q) hc hs hQ (fun fs hr => retOut X hx hret hn (Or.inr (Or.inr (Or.inr (Or.inr ⟨rfl, ht, hw⟩)))) hd hr)
theorem finV {Q : Option Value → Heap → List Loc → Prop} {k n : Nat} (X : Stand p l e R s m args below meth c T locs cells slots) (hx : p.tables.exec = Jvm.exec) (hlk : meth.locks = false) (hret : meth.sig.returnType = none) (hd : decode c.code pc = .ok (.return_, 1)) (hc : cells ≤ k) (hs : slots ≤ n) (hQ : Q none T.heap locs) :
    Dn p e below (PQ below s Q k n) (T.setTop (mkF m pc Ls [])) :=
  fin_of X hlk (fun _ => rfl) hc hs hQ (fun fs hr => X.returnOut hx hret hd hr)
theorem o_iload (X : Stand p l e R s m args below meth c T locs cells slots) (hx : p.tables.exec = Jvm.exec) {k : Nat} {v : Int32} (hd : decode c.code pc = .ok (.iload k, 2)) (hp : pc + 2 = pc') (hl : Ls[k]? = some (.val (.int v))) (K : Dn p e below P (T.setTop (mkF m pc' Ls (.int v :: st)))) : Dn p e below P (T.setTop (mkF m pc Ls st)) := by
  subst hp
  obtain ⟨s₂, o, h1, h2⟩ := K
  exact ⟨s₂, o, XS.iload X.here hx rfl hd hl h1, h2⟩
theorem o_iloadN (X : Stand p l e R s m args below meth c T locs cells slots) (hx : p.tables.exec = Jvm.exec) {k : Fin 4} {v : Int32} (hd : decode c.code pc = .ok (.iload_n k, 1)) (hp : pc + 1 = pc') (hl : Ls[k.val]? = some (.val (.int v))) (K : Dn p e below P (T.setTop (mkF m pc' Ls (.int v :: st)))) : Dn p e below P (T.setTop (mkF m pc Ls st)) := by
  subst hp
  obtain ⟨s₂, o, h1, h2⟩ := K
  exact ⟨s₂, o, XS.iloadN X.here hx rfl hd hl h1, h2⟩
theorem o_istore (X : Stand p l e R s m args below meth c T locs cells slots) (hx : p.tables.exec = Jvm.exec) {k : Nat} {v : Int32} (hd : decode c.code pc = .ok (.istore k, 2)) (hp : pc + 2 = pc') (hl : storeLocals Ls k (.int v) = some Ls') (K : Dn p e below P (T.setTop (mkF m pc' Ls' st))) : Dn p e below P (T.setTop (mkF m pc Ls (.int v :: st))) := by
  subst hp
  obtain ⟨s₂, o, h1, h2⟩ := K
  exact ⟨s₂, o, XS.istore X.here hx rfl hd rfl hl h1, h2⟩
theorem o_istoreN (X : Stand p l e R s m args below meth c T locs cells slots) (hx : p.tables.exec = Jvm.exec) {k : Fin 4} {v : Int32} (hd : decode c.code pc = .ok (.istore_n k, 1)) (hp : pc + 1 = pc') (hl : storeLocals Ls k.val (.int v) = some Ls') (K : Dn p e below P (T.setTop (mkF m pc' Ls' st))) : Dn p e below P (T.setTop (mkF m pc Ls (.int v :: st))) := by
  subst hp
  obtain ⟨s₂, o, h1, h2⟩ := K
  exact ⟨s₂, o, XS.istoreN X.here hx rfl hd rfl hl h1, h2⟩
theorem o_lload (X : Stand p l e R s m args below meth c T locs cells slots) (hx : p.tables.exec = Jvm.exec) {k : Nat} {v : Int64} (hd : decode c.code pc = .ok (.lload k, 2)) (hp : pc + 2 = pc') (hl : Ls[k]? = some (.val (.long v))) (K : Dn p e below P (T.setTop (mkF m pc' Ls (.long v :: st)))) : Dn p e below P (T.setTop (mkF m pc Ls st)) := by
  subst hp
  obtain ⟨s₂, o, h1, h2⟩ := K
  exact ⟨s₂, o, XS.lload X.here hx rfl hd hl h1, h2⟩
theorem o_lloadN (X : Stand p l e R s m args below meth c T locs cells slots) (hx : p.tables.exec = Jvm.exec) {k : Fin 4} {v : Int64} (hd : decode c.code pc = .ok (.lload_n k, 1)) (hp : pc + 1 = pc') (hl : Ls[k.val]? = some (.val (.long v))) (K : Dn p e below P (T.setTop (mkF m pc' Ls (.long v :: st)))) : Dn p e below P (T.setTop (mkF m pc Ls st)) := by
  subst hp
  obtain ⟨s₂, o, h1, h2⟩ := K
  exact ⟨s₂, o, XS.lloadN X.here hx rfl hd hl h1, h2⟩
theorem o_lstore (X : Stand p l e R s m args below meth c T locs cells slots) (hx : p.tables.exec = Jvm.exec) {k : Nat} {v : Int64} (hd : decode c.code pc = .ok (.lstore k, 2)) (hp : pc + 2 = pc') (hl : storeLocals Ls k (.long v) = some Ls') (K : Dn p e below P (T.setTop (mkF m pc' Ls' st))) : Dn p e below P (T.setTop (mkF m pc Ls (.long v :: st))) := by
  subst hp
  obtain ⟨s₂, o, h1, h2⟩ := K
  exact ⟨s₂, o, XS.lstore X.here hx rfl hd rfl hl h1, h2⟩
theorem o_lstoreN (X : Stand p l e R s m args below meth c T locs cells slots) (hx : p.tables.exec = Jvm.exec) {k : Fin 4} {v : Int64} (hd : decode c.code pc = .ok (.lstore_n k, 1)) (hp : pc + 1 = pc') (hl : storeLocals Ls k.val (.long v) = some Ls') (K : Dn p e below P (T.setTop (mkF m pc' Ls' st))) : Dn p e below P (T.setTop (mkF m pc Ls (.long v :: st))) := by
  subst hp
  obtain ⟨s₂, o, h1, h2⟩ := K
  exact ⟨s₂, o, XS.lstoreN X.here hx rfl hd rfl hl h1, h2⟩
theorem o_aload (X : Stand p l e R s m args below meth c T locs cells slots) (hx : p.tables.exec = Jvm.exec) {k : Nat} {v : Value} (hd : decode c.code pc = .ok (.aload k, 2)) (hp : pc + 2 = pc') (hl : Ls[k]? = some (.val v)) (hv : v.isRef = true) (K : Dn p e below P (T.setTop (mkF m pc' Ls (v :: st)))) : Dn p e below P (T.setTop (mkF m pc Ls st)) := by
  subst hp
  obtain ⟨s₂, o, h1, h2⟩ := K
  exact ⟨s₂, o, XS.aload X.here hx rfl hd hl hv h1, h2⟩
theorem o_aloadN (X : Stand p l e R s m args below meth c T locs cells slots) (hx : p.tables.exec = Jvm.exec) {k : Fin 4} {v : Value} (hd : decode c.code pc = .ok (.aload_n k, 1)) (hp : pc + 1 = pc') (hl : Ls[k.val]? = some (.val v)) (hv : v.isRef = true) (K : Dn p e below P (T.setTop (mkF m pc' Ls (v :: st)))) : Dn p e below P (T.setTop (mkF m pc Ls st)) := by
  subst hp
  obtain ⟨s₂, o, h1, h2⟩ := K
  exact ⟨s₂, o, XS.aloadN X.here hx rfl hd hl hv h1, h2⟩
theorem o_astore (X : Stand p l e R s m args below meth c T locs cells slots) (hx : p.tables.exec = Jvm.exec) {k : Nat} {v : Value} (hd : decode c.code pc = .ok (.astore k, 2)) (hp : pc + 2 = pc') (hv : v.isRef = true) (hl : storeLocals Ls k v = some Ls') (K : Dn p e below P (T.setTop (mkF m pc' Ls' st))) : Dn p e below P (T.setTop (mkF m pc Ls (v :: st))) := by
  subst hp
  obtain ⟨s₂, o, h1, h2⟩ := K
  exact ⟨s₂, o, XS.astore X.here hx rfl hd rfl hv hl h1, h2⟩
theorem o_astoreN (X : Stand p l e R s m args below meth c T locs cells slots) (hx : p.tables.exec = Jvm.exec) {k : Fin 4} {v : Value} (hd : decode c.code pc = .ok (.astore_n k, 1)) (hp : pc + 1 = pc') (hv : v.isRef = true) (hl : storeLocals Ls k.val v = some Ls') (K : Dn p e below P (T.setTop (mkF m pc' Ls' st))) : Dn p e below P (T.setTop (mkF m pc Ls (v :: st))) := by
  subst hp
  obtain ⟨s₂, o, h1, h2⟩ := K
  exact ⟨s₂, o, XS.astoreN X.here hx rfl hd rfl hv hl h1, h2⟩
theorem o_iconst (X : Stand p l e R s m args below meth c T locs cells slots) (hx : p.tables.exec = Jvm.exec) {i : Int} {v : Int32} (hd : decode c.code pc = .ok (.iconst i, 1)) (hp : pc + 1 = pc') (hv : Int32.ofInt i = v) (K : Dn p e below P (T.setTop (mkF m pc' Ls (.int v :: st)))) : Dn p e below P (T.setTop (mkF m pc Ls st)) := by
  subst hp hv
  obtain ⟨s₂, o, h1, h2⟩ := K
  exact ⟨s₂, o, XS.iconst X.here hx rfl hd h1, h2⟩
theorem o_bipush (X : Stand p l e R s m args below meth c T locs cells slots) (hx : p.tables.exec = Jvm.exec) {i : Int} {v : Int32} (hd : decode c.code pc = .ok (.bipush i, 2)) (hp : pc + 2 = pc') (hv : (Int8.ofInt i).toInt32 = v) (K : Dn p e below P (T.setTop (mkF m pc' Ls (.int v :: st)))) : Dn p e below P (T.setTop (mkF m pc Ls st)) := by
  subst hp hv
  obtain ⟨s₂, o, h1, h2⟩ := K
  exact ⟨s₂, o, XS.bipush X.here hx rfl hd h1, h2⟩
theorem o_sipush (X : Stand p l e R s m args below meth c T locs cells slots) (hx : p.tables.exec = Jvm.exec) {i : Int} {v : Int32} (hd : decode c.code pc = .ok (.sipush i, 3)) (hp : pc + 3 = pc') (hv : (Int16.ofInt i).toInt32 = v) (K : Dn p e below P (T.setTop (mkF m pc' Ls (.int v :: st)))) : Dn p e below P (T.setTop (mkF m pc Ls st)) := by
  subst hp hv
  obtain ⟨s₂, o, h1, h2⟩ := K
  exact ⟨s₂, o, XS.sipush X.here hx rfl hd h1, h2⟩
theorem o_lconst (X : Stand p l e R s m args below meth c T locs cells slots) (hx : p.tables.exec = Jvm.exec) {k : Fin 2} {v : Int64} (hd : decode c.code pc = .ok (.lconst k, 1)) (hp : pc + 1 = pc') (hv : Int64.ofNat k = v) (K : Dn p e below P (T.setTop (mkF m pc' Ls (.long v :: st)))) : Dn p e below P (T.setTop (mkF m pc Ls st)) := by
  subst hp hv
  obtain ⟨s₂, o, h1, h2⟩ := K
  exact ⟨s₂, o, XS.lconst X.here hx rfl hd h1, h2⟩
theorem o_aconstNull (X : Stand p l e R s m args below meth c T locs cells slots) (hx : p.tables.exec = Jvm.exec)  (hd : decode c.code pc = .ok (.aconst_null, 1)) (hp : pc + 1 = pc')  (K : Dn p e below P (T.setTop (mkF m pc' Ls (.null :: st)))) : Dn p e below P (T.setTop (mkF m pc Ls st)) := by
  subst hp
  obtain ⟨s₂, o, h1, h2⟩ := K
  exact ⟨s₂, o, XS.aconstNull X.here hx rfl hd  h1, h2⟩
theorem o_iadd (X : Stand p l e R s m args below meth c T locs cells slots) (hx : p.tables.exec = Jvm.exec) {x y : Int32} (hd : decode c.code pc = .ok (.iadd, 1)) (hp : pc + 1 = pc')  (K : Dn p e below P (T.setTop (mkF m pc' Ls (.int (x + y) :: st)))) : Dn p e below P (T.setTop (mkF m pc Ls (.int y :: .int x :: st))) := by
  subst hp
  obtain ⟨s₂, o, h1, h2⟩ := K
  exact ⟨s₂, o, XS.iadd X.here hx rfl hd rfl h1, h2⟩
theorem o_isub (X : Stand p l e R s m args below meth c T locs cells slots) (hx : p.tables.exec = Jvm.exec) {x y : Int32} (hd : decode c.code pc = .ok (.isub, 1)) (hp : pc + 1 = pc')  (K : Dn p e below P (T.setTop (mkF m pc' Ls (.int (x - y) :: st)))) : Dn p e below P (T.setTop (mkF m pc Ls (.int y :: .int x :: st))) := by
  subst hp
  obtain ⟨s₂, o, h1, h2⟩ := K
  exact ⟨s₂, o, XS.isub X.here hx rfl hd rfl h1, h2⟩
theorem o_imul (X : Stand p l e R s m args below meth c T locs cells slots) (hx : p.tables.exec = Jvm.exec) {x y : Int32} (hd : decode c.code pc = .ok (.imul, 1)) (hp : pc + 1 = pc')  (K : Dn p e below P (T.setTop (mkF m pc' Ls (.int (x * y) :: st)))) : Dn p e below P (T.setTop (mkF m pc Ls (.int y :: .int x :: st))) := by
  subst hp
  obtain ⟨s₂, o, h1, h2⟩ := K
  exact ⟨s₂, o, XS.imul X.here hx rfl hd rfl h1, h2⟩
theorem o_iand (X : Stand p l e R s m args below meth c T locs cells slots) (hx : p.tables.exec = Jvm.exec) {x y : Int32} (hd : decode c.code pc = .ok (.iand, 1)) (hp : pc + 1 = pc')  (K : Dn p e below P (T.setTop (mkF m pc' Ls (.int (x &&& y) :: st)))) : Dn p e below P (T.setTop (mkF m pc Ls (.int y :: .int x :: st))) := by
  subst hp
  obtain ⟨s₂, o, h1, h2⟩ := K
  exact ⟨s₂, o, XS.iand X.here hx rfl hd rfl h1, h2⟩
theorem o_ior (X : Stand p l e R s m args below meth c T locs cells slots) (hx : p.tables.exec = Jvm.exec) {x y : Int32} (hd : decode c.code pc = .ok (.ior, 1)) (hp : pc + 1 = pc')  (K : Dn p e below P (T.setTop (mkF m pc' Ls (.int (x ||| y) :: st)))) : Dn p e below P (T.setTop (mkF m pc Ls (.int y :: .int x :: st))) := by
  subst hp
  obtain ⟨s₂, o, h1, h2⟩ := K
  exact ⟨s₂, o, XS.ior X.here hx rfl hd rfl h1, h2⟩
theorem o_ixor (X : Stand p l e R s m args below meth c T locs cells slots) (hx : p.tables.exec = Jvm.exec) {x y : Int32} (hd : decode c.code pc = .ok (.ixor, 1)) (hp : pc + 1 = pc')  (K : Dn p e below P (T.setTop (mkF m pc' Ls (.int (x ^^^ y) :: st)))) : Dn p e below P (T.setTop (mkF m pc Ls (.int y :: .int x :: st))) := by
  subst hp
  obtain ⟨s₂, o, h1, h2⟩ := K
  exact ⟨s₂, o, XS.ixor X.here hx rfl hd rfl h1, h2⟩
theorem o_ladd (X : Stand p l e R s m args below meth c T locs cells slots) (hx : p.tables.exec = Jvm.exec) {x y : Int64} (hd : decode c.code pc = .ok (.ladd, 1)) (hp : pc + 1 = pc')  (K : Dn p e below P (T.setTop (mkF m pc' Ls (.long (x + y) :: st)))) : Dn p e below P (T.setTop (mkF m pc Ls (.long y :: .long x :: st))) := by
  subst hp
  obtain ⟨s₂, o, h1, h2⟩ := K
  exact ⟨s₂, o, XS.ladd X.here hx rfl hd rfl h1, h2⟩
theorem o_lsub (X : Stand p l e R s m args below meth c T locs cells slots) (hx : p.tables.exec = Jvm.exec) {x y : Int64} (hd : decode c.code pc = .ok (.lsub, 1)) (hp : pc + 1 = pc')  (K : Dn p e below P (T.setTop (mkF m pc' Ls (.long (x - y) :: st)))) : Dn p e below P (T.setTop (mkF m pc Ls (.long y :: .long x :: st))) := by
  subst hp
  obtain ⟨s₂, o, h1, h2⟩ := K
  exact ⟨s₂, o, XS.lsub X.here hx rfl hd rfl h1, h2⟩
theorem o_lmul (X : Stand p l e R s m args below meth c T locs cells slots) (hx : p.tables.exec = Jvm.exec) {x y : Int64} (hd : decode c.code pc = .ok (.lmul, 1)) (hp : pc + 1 = pc')  (K : Dn p e below P (T.setTop (mkF m pc' Ls (.long (x * y) :: st)))) : Dn p e below P (T.setTop (mkF m pc Ls (.long y :: .long x :: st))) := by
  subst hp
  obtain ⟨s₂, o, h1, h2⟩ := K
  exact ⟨s₂, o, XS.lmul X.here hx rfl hd rfl h1, h2⟩
theorem o_land (X : Stand p l e R s m args below meth c T locs cells slots) (hx : p.tables.exec = Jvm.exec) {x y : Int64} (hd : decode c.code pc = .ok (.land, 1)) (hp : pc + 1 = pc')  (K : Dn p e below P (T.setTop (mkF m pc' Ls (.long (x &&& y) :: st)))) : Dn p e below P (T.setTop (mkF m pc Ls (.long y :: .long x :: st))) := by
  subst hp
  obtain ⟨s₂, o, h1, h2⟩ := K
  exact ⟨s₂, o, XS.land X.here hx rfl hd rfl h1, h2⟩
theorem o_lor (X : Stand p l e R s m args below meth c T locs cells slots) (hx : p.tables.exec = Jvm.exec) {x y : Int64} (hd : decode c.code pc = .ok (.lor, 1)) (hp : pc + 1 = pc')  (K : Dn p e below P (T.setTop (mkF m pc' Ls (.long (x ||| y) :: st)))) : Dn p e below P (T.setTop (mkF m pc Ls (.long y :: .long x :: st))) := by
  subst hp
  obtain ⟨s₂, o, h1, h2⟩ := K
  exact ⟨s₂, o, XS.lor X.here hx rfl hd rfl h1, h2⟩
theorem o_lxor (X : Stand p l e R s m args below meth c T locs cells slots) (hx : p.tables.exec = Jvm.exec) {x y : Int64} (hd : decode c.code pc = .ok (.lxor, 1)) (hp : pc + 1 = pc')  (K : Dn p e below P (T.setTop (mkF m pc' Ls (.long (x ^^^ y) :: st)))) : Dn p e below P (T.setTop (mkF m pc Ls (.long y :: .long x :: st))) := by
  subst hp
  obtain ⟨s₂, o, h1, h2⟩ := K
  exact ⟨s₂, o, XS.lxor X.here hx rfl hd rfl h1, h2⟩
theorem o_ishl (X : Stand p l e R s m args below meth c T locs cells slots) (hx : p.tables.exec = Jvm.exec) {x : Int32} {y : Int32} (hd : decode c.code pc = .ok (.ishl, 1)) (hp : pc + 1 = pc')  (K : Dn p e below P (T.setTop (mkF m pc' Ls (.int (x <<< (y &&& 31)) :: st)))) : Dn p e below P (T.setTop (mkF m pc Ls (.int y :: .int x :: st))) := by
  subst hp
  obtain ⟨s₂, o, h1, h2⟩ := K
  exact ⟨s₂, o, XS.ishl X.here hx rfl hd rfl h1, h2⟩
theorem o_ishr (X : Stand p l e R s m args below meth c T locs cells slots) (hx : p.tables.exec = Jvm.exec) {x : Int32} {y : Int32} (hd : decode c.code pc = .ok (.ishr, 1)) (hp : pc + 1 = pc')  (K : Dn p e below P (T.setTop (mkF m pc' Ls (.int (x >>> (y &&& 31)) :: st)))) : Dn p e below P (T.setTop (mkF m pc Ls (.int y :: .int x :: st))) := by
  subst hp
  obtain ⟨s₂, o, h1, h2⟩ := K
  exact ⟨s₂, o, XS.ishr X.here hx rfl hd rfl h1, h2⟩
theorem o_iushr (X : Stand p l e R s m args below meth c T locs cells slots) (hx : p.tables.exec = Jvm.exec) {x : Int32} {y : Int32} (hd : decode c.code pc = .ok (.iushr, 1)) (hp : pc + 1 = pc')  (K : Dn p e below P (T.setTop (mkF m pc' Ls (.int ((x.toUInt32 >>> (y &&& 31).toUInt32).toInt32) :: st)))) : Dn p e below P (T.setTop (mkF m pc Ls (.int y :: .int x :: st))) := by
  subst hp
  obtain ⟨s₂, o, h1, h2⟩ := K
  exact ⟨s₂, o, XS.iushr X.here hx rfl hd rfl h1, h2⟩
theorem o_lshl (X : Stand p l e R s m args below meth c T locs cells slots) (hx : p.tables.exec = Jvm.exec) {x : Int64} {y : Int32} (hd : decode c.code pc = .ok (.lshl, 1)) (hp : pc + 1 = pc')  (K : Dn p e below P (T.setTop (mkF m pc' Ls (.long (x <<< (y &&& 0x3f).toInt64) :: st)))) : Dn p e below P (T.setTop (mkF m pc Ls (.int y :: .long x :: st))) := by
  subst hp
  obtain ⟨s₂, o, h1, h2⟩ := K
  exact ⟨s₂, o, XS.lshl X.here hx rfl hd rfl h1, h2⟩
theorem o_lshr (X : Stand p l e R s m args below meth c T locs cells slots) (hx : p.tables.exec = Jvm.exec) {x : Int64} {y : Int32} (hd : decode c.code pc = .ok (.lshr, 1)) (hp : pc + 1 = pc')  (K : Dn p e below P (T.setTop (mkF m pc' Ls (.long (x >>> (y &&& 0x3f).toInt64) :: st)))) : Dn p e below P (T.setTop (mkF m pc Ls (.int y :: .long x :: st))) := by
  subst hp
  obtain ⟨s₂, o, h1, h2⟩ := K
  exact ⟨s₂, o, XS.lshr X.here hx rfl hd rfl h1, h2⟩
theorem o_lushr (X : Stand p l e R s m args below meth c T locs cells slots) (hx : p.tables.exec = Jvm.exec) {x : Int64} {y : Int32} (hd : decode c.code pc = .ok (.lushr, 1)) (hp : pc + 1 = pc')  (K : Dn p e below P (T.setTop (mkF m pc' Ls (.long ((x.toUInt64 >>> (y &&& 0x3f).toInt64.toUInt64).toInt64) :: st)))) : Dn p e below P (T.setTop (mkF m pc Ls (.int y :: .long x :: st))) := by
  subst hp
  obtain ⟨s₂, o, h1, h2⟩ := K
  exact ⟨s₂, o, XS.lushr X.here hx rfl hd rfl h1, h2⟩
theorem o_ineg (X : Stand p l e R s m args below meth c T locs cells slots) (hx : p.tables.exec = Jvm.exec) {x : Int32} (hd : decode c.code pc = .ok (.ineg, 1)) (hp : pc + 1 = pc')  (K : Dn p e below P (T.setTop (mkF m pc' Ls (.int (-x) :: st)))) : Dn p e below P (T.setTop (mkF m pc Ls (.int x :: st))) := by
  subst hp
  obtain ⟨s₂, o, h1, h2⟩ := K
  exact ⟨s₂, o, XS.ineg X.here hx rfl hd rfl h1, h2⟩
theorem o_lneg (X : Stand p l e R s m args below meth c T locs cells slots) (hx : p.tables.exec = Jvm.exec) {x : Int64} (hd : decode c.code pc = .ok (.lneg, 1)) (hp : pc + 1 = pc')  (K : Dn p e below P (T.setTop (mkF m pc' Ls (.long (-x) :: st)))) : Dn p e below P (T.setTop (mkF m pc Ls (.long x :: st))) := by
  subst hp
  obtain ⟨s₂, o, h1, h2⟩ := K
  exact ⟨s₂, o, XS.lneg X.here hx rfl hd rfl h1, h2⟩
theorem o_i2l (X : Stand p l e R s m args below meth c T locs cells slots) (hx : p.tables.exec = Jvm.exec) {x : Int32} (hd : decode c.code pc = .ok (.i2l, 1)) (hp : pc + 1 = pc')  (K : Dn p e below P (T.setTop (mkF m pc' Ls (.long (x.toInt64) :: st)))) : Dn p e below P (T.setTop (mkF m pc Ls (.int x :: st))) := by
  subst hp
  obtain ⟨s₂, o, h1, h2⟩ := K
  exact ⟨s₂, o, XS.i2l X.here hx rfl hd rfl h1, h2⟩
theorem o_l2i (X : Stand p l e R s m args below meth c T locs cells slots) (hx : p.tables.exec = Jvm.exec) {x : Int64} (hd : decode c.code pc = .ok (.l2i, 1)) (hp : pc + 1 = pc')  (K : Dn p e below P (T.setTop (mkF m pc' Ls (.int (x.toInt32) :: st)))) : Dn p e below P (T.setTop (mkF m pc Ls (.long x :: st))) := by
  subst hp
  obtain ⟨s₂, o, h1, h2⟩ := K
  exact ⟨s₂, o, XS.l2i X.here hx rfl hd rfl h1, h2⟩
theorem o_i2b (X : Stand p l e R s m args below meth c T locs cells slots) (hx : p.tables.exec = Jvm.exec) {x : Int32} (hd : decode c.code pc = .ok (.i2b, 1)) (hp : pc + 1 = pc')  (K : Dn p e below P (T.setTop (mkF m pc' Ls (.int (x.toInt8.toInt32) :: st)))) : Dn p e below P (T.setTop (mkF m pc Ls (.int x :: st))) := by
  subst hp
  obtain ⟨s₂, o, h1, h2⟩ := K
  exact ⟨s₂, o, XS.i2b X.here hx rfl hd rfl h1, h2⟩
theorem o_i2s (X : Stand p l e R s m args below meth c T locs cells slots) (hx : p.tables.exec = Jvm.exec) {x : Int32} (hd : decode c.code pc = .ok (.i2s, 1)) (hp : pc + 1 = pc')  (K : Dn p e below P (T.setTop (mkF m pc' Ls (.int (x.toInt16.toInt32) :: st)))) : Dn p e below P (T.setTop (mkF m pc Ls (.int x :: st))) := by
  subst hp
  obtain ⟨s₂, o, h1, h2⟩ := K
  exact ⟨s₂, o, XS.i2s X.here hx rfl hd rfl h1, h2⟩
theorem o_i2c (X : Stand p l e R s m args below meth c T locs cells slots) (hx : p.tables.exec = Jvm.exec) {x : Int32} (hd : decode c.code pc = .ok (.i2c, 1)) (hp : pc + 1 = pc')  (K : Dn p e below P (T.setTop (mkF m pc' Ls (.int (x.toUInt32.toUInt16.toUInt32.toInt32) :: st)))) : Dn p e below P (T.setTop (mkF m pc Ls (.int x :: st))) := by
  subst hp
  obtain ⟨s₂, o, h1, h2⟩ := K
  exact ⟨s₂, o, XS.i2c X.here hx rfl hd rfl h1, h2⟩
theorem o_idiv (X : Stand p l e R s m args below meth c T locs cells slots) (hx : p.tables.exec = Jvm.exec) {x y : Int32} (hd : decode c.code pc = .ok (.idiv, 1)) (hp : pc + 1 = pc') (hy : y ≠ 0) (K : Dn p e below P (T.setTop (mkF m pc' Ls (.int (x / y) :: st)))) : Dn p e below P (T.setTop (mkF m pc Ls (.int y :: .int x :: st))) := by
  subst hp
  obtain ⟨s₂, o, h1, h2⟩ := K
  exact ⟨s₂, o, XS.idiv X.here hx rfl hd rfl hy h1, h2⟩
theorem o_ldiv (X : Stand p l e R s m args below meth c T locs cells slots) (hx : p.tables.exec = Jvm.exec) {x y : Int64} (hd : decode c.code pc = .ok (.ldiv, 1)) (hp : pc + 1 = pc') (hy : y ≠ 0) (K : Dn p e below P (T.setTop (mkF m pc' Ls (.long (x / y) :: st)))) : Dn p e below P (T.setTop (mkF m pc Ls (.long y :: .long x :: st))) := by
  subst hp
  obtain ⟨s₂, o, h1, h2⟩ := K
  exact ⟨s₂, o, XS.ldiv X.here hx rfl hd rfl hy h1, h2⟩
theorem o_irem (X : Stand p l e R s m args below meth c T locs cells slots) (hx : p.tables.exec = Jvm.exec) {x y : Int32} (hd : decode c.code pc = .ok (.irem, 1)) (hp : pc + 1 = pc') (hy : y ≠ 0) (K : Dn p e below P (T.setTop (mkF m pc' Ls (.int (x % y) :: st)))) : Dn p e below P (T.setTop (mkF m pc Ls (.int y :: .int x :: st))) := by
  subst hp
  obtain ⟨s₂, o, h1, h2⟩ := K
  exact ⟨s₂, o, iremM X hx rfl hd rfl hy h1, h2⟩
theorem o_lcmp (X : Stand p l e R s m args below meth c T locs cells slots) (hx : p.tables.exec = Jvm.exec) {x y : Int64} (hd : decode c.code pc = .ok (.lcmp, 1)) (hp : pc + 1 = pc')  (K : Dn p e below P (T.setTop (mkF m pc' Ls (.int (lcmpW x y) :: st)))) : Dn p e below P (T.setTop (mkF m pc Ls (.long y :: .long x :: st))) := by
  subst hp
  obtain ⟨s₂, o, h1, h2⟩ := K
  exact ⟨s₂, o, XS.lcmp X.here hx rfl hd rfl h1, h2⟩
theorem o_dup (X : Stand p l e R s m args below meth c T locs cells slots) (hx : p.tables.exec = Jvm.exec) {v : Value} (hd : decode c.code pc = .ok (.dup, 1)) (hp : pc + 1 = pc') (hv : v.category = 1) (K : Dn p e below P (T.setTop (mkF m pc' Ls (v :: v :: st)))) : Dn p e below P (T.setTop (mkF m pc Ls (v :: st))) := by
  subst hp
  obtain ⟨s₂, o, h1, h2⟩ := K
  exact ⟨s₂, o, XS.dup X.here hx rfl hd rfl hv h1, h2⟩
theorem o_pop (X : Stand p l e R s m args below meth c T locs cells slots) (hx : p.tables.exec = Jvm.exec) {v : Value} (hd : decode c.code pc = .ok (.pop, 1)) (hp : pc + 1 = pc') (hv : v.category = 1) (K : Dn p e below P (T.setTop (mkF m pc' Ls st))) : Dn p e below P (T.setTop (mkF m pc Ls (v :: st))) := by
  subst hp
  obtain ⟨s₂, o, h1, h2⟩ := K
  exact ⟨s₂, o, XS.pop X.here hx rfl hd rfl hv h1, h2⟩
theorem o_dupX1 (X : Stand p l e R s m args below meth c T locs cells slots) (hx : p.tables.exec = Jvm.exec) {v w : Value} (hd : decode c.code pc = .ok (.dup_x1, 1)) (hp : pc + 1 = pc') (hv : v.category = 1) (hw : w.category = 1) (K : Dn p e below P (T.setTop (mkF m pc' Ls (v :: w :: v :: st)))) : Dn p e below P (T.setTop (mkF m pc Ls (v :: w :: st))) := by
  subst hp
  obtain ⟨s₂, o, h1, h2⟩ := K
  exact ⟨s₂, o, XS.dupX1 X.here hx rfl hd rfl hv hw h1, h2⟩
theorem o_iinc (X : Stand p l e R s m args below meth c T locs cells slots) (hx : p.tables.exec = Jvm.exec) {k : Nat} {i : Int} {x v : Int32} (hd : decode c.code pc = .ok (.iinc k i, 3)) (hp : pc + 3 = pc') (hv : Int32.ofInt i = v) (hl : Ls[k]? = some (.val (.int x))) (hl' : storeLocals Ls k (.int (x + v)) = some Ls') (K : Dn p e below P (T.setTop (mkF m pc' Ls' st))) : Dn p e below P (T.setTop (mkF m pc Ls st)) := by
  subst hp hv
  obtain ⟨s₂, o, h1, h2⟩ := K
  exact ⟨s₂, o, XS.iinc X.here hx rfl hd hl hl' h1, h2⟩
theorem o_goto (X : Stand p l e R s m args below meth c T locs cells slots) (hx : p.tables.exec = Jvm.exec) {i : Int} (hd : decode c.code pc = .ok (.goto i, 3)) (ho : 0 ≤ (pc : Int) + i) (hp : ((pc : Int) + i).toNat = pc') (K : Dn p e below P (T.setTop (mkF m pc' Ls st))) : Dn p e below P (T.setTop (mkF m pc Ls st)) := by
  obtain ⟨s₂, o, h1, h2⟩ := K
  exact ⟨s₂, o, XS.goto X.here hx rfl (pc0 := pc) rfl hd ho hp h1, h2⟩
theorem o_if_eq (X : Stand p l e R s m args below meth c T locs cells slots) (hx : p.tables.exec = Jvm.exec) {x : Int32} {i : Int} {pt : Nat} (hd : decode c.code pc = .ok (.ifCond .eq i, 3)) (hp : pc + 3 = pc') (ho : 0 ≤ (pc : Int) + i) (ht : ((pc : Int) + i).toNat = pt) (Kt : x = (0 : Int32) → Dn p e below P (T.setTop (mkF m pt Ls st))) (Kf : ¬ (x = (0 : Int32)) → Dn p e below P (T.setTop (mkF m pc' Ls st))) : Dn p e below P (T.setTop (mkF m pc Ls (.int x :: st))) := by
  subst hp
  by_cases hq : x = (0 : Int32)
  · obtain ⟨s₂, o, h1, h2⟩ := Kt hq
    exact ⟨s₂, o, XS.ifYes X.here hx rfl (pc0 := pc) rfl hd rfl ((if0 _ _).trans (teq hq).1) ho ht h1, h2⟩
  · obtain ⟨s₂, o, h1, h2⟩ := Kf hq
    exact ⟨s₂, o, XS.ifNo X.here hx rfl hd rfl ((if0 _ _).trans (feq hq).1) h1, h2⟩
theorem o_icmp_eq (X : Stand p l e R s m args below meth c T locs cells slots) (hx : p.tables.exec = Jvm.exec) {x y : Int32} {i : Int} {pt : Nat} (hd : decode c.code pc = .ok (.if_icmp .eq i, 3)) (hp : pc + 3 = pc') (ho : 0 ≤ (pc : Int) + i) (ht : ((pc : Int) + i).toNat = pt) (Kt : x = y → Dn p e below P (T.setTop (mkF m pt Ls st))) (Kf : ¬ (x = y) → Dn p e below P (T.setTop (mkF m pc' Ls st))) : Dn p e below P (T.setTop (mkF m pc Ls (.int y :: .int x :: st))) := by
  subst hp
  by_cases hq : x = y
  · obtain ⟨s₂, o, h1, h2⟩ := Kt hq
    exact ⟨s₂, o, XS.icmpYes X.here hx rfl (pc0 := pc) rfl hd rfl (teq hq).1 ho ht h1, h2⟩
  · obtain ⟨s₂, o, h1, h2⟩ := Kf hq
    exact ⟨s₂, o, XS.icmpNo X.here hx rfl hd rfl (feq hq).1 h1, h2⟩
theorem o_lif_eq (X : Stand p l e R s m args below meth c T locs cells slots) (hx : p.tables.exec = Jvm.exec) {x y : Int64} {i : Int} {pt : Nat} (hd : decode c.code pc = .ok (.ifCond .eq i, 3)) (hp : pc + 3 = pc') (ho : 0 ≤ (pc : Int) + i) (ht : ((pc : Int) + i).toNat = pt) (Kt : x = y → Dn p e below P (T.setTop (mkF m pt Ls st))) (Kf : ¬ (x = y) → Dn p e below P (T.setTop (mkF m pc' Ls st))) : Dn p e below P (T.setTop (mkF m pc Ls (.int (lcmpW x y) :: st))) := by
  subst hp
  by_cases hq : x = y
  · obtain ⟨s₂, o, h1, h2⟩ := Kt hq
    exact ⟨s₂, o, XS.ifYes X.here hx rfl (pc0 := pc) rfl hd rfl ((if0 _ _).trans (teq ((lw_eq x y).mpr hq)).1) ho ht h1, h2⟩
  · obtain ⟨s₂, o, h1, h2⟩ := Kf hq
    exact ⟨s₂, o, XS.ifNo X.here hx rfl hd rfl ((if0 _ _).trans (feq (fun z => hq ((lw_eq x y).mp z))).1) h1, h2⟩
theorem o_if_ne (X : Stand p l e R s m args below meth c T locs cells slots) (hx : p.tables.exec = Jvm.exec) {x : Int32} {i : Int} {pt : Nat} (hd : decode c.code pc = .ok (.ifCond .ne i, 3)) (hp : pc + 3 = pc') (ho : 0 ≤ (pc : Int) + i) (ht : ((pc : Int) + i).toNat = pt) (Kt : ¬ (x = (0 : Int32)) → Dn p e below P (T.setTop (mkF m pt Ls st))) (Kf : x = (0 : Int32) → Dn p e below P (T.setTop (mkF m pc' Ls st))) : Dn p e below P (T.setTop (mkF m pc Ls (.int x :: st))) := by
  subst hp
  by_cases hq : x = (0 : Int32)
  · obtain ⟨s₂, o, h1, h2⟩ := Kf hq
    exact ⟨s₂, o, XS.ifNo X.here hx rfl hd rfl ((if0 _ _).trans (teq hq).2) h1, h2⟩
  · obtain ⟨s₂, o, h1, h2⟩ := Kt hq
    exact ⟨s₂, o, XS.ifYes X.here hx rfl (pc0 := pc) rfl hd rfl ((if0 _ _).trans (feq hq).2) ho ht h1, h2⟩
theorem o_icmp_ne (X : Stand p l e R s m args below meth c T locs cells slots) (hx : p.tables.exec = Jvm.exec) {x y : Int32} {i : Int} {pt : Nat} (hd : decode c.code pc = .ok (.if_icmp .ne i, 3)) (hp : pc + 3 = pc') (ho : 0 ≤ (pc : Int) + i) (ht : ((pc : Int) + i).toNat = pt) (Kt : ¬ (x = y) → Dn p e below P (T.setTop (mkF m pt Ls st))) (Kf : x = y → Dn p e below P (T.setTop (mkF m pc' Ls st))) : Dn p e below P (T.setTop (mkF m pc Ls (.int y :: .int x :: st))) := by
  subst hp
  by_cases hq : x = y
  · obtain ⟨s₂, o, h1, h2⟩ := Kf hq
    exact ⟨s₂, o, XS.icmpNo X.here hx rfl hd rfl (teq hq).2 h1, h2⟩
  · obtain ⟨s₂, o, h1, h2⟩ := Kt hq
    exact ⟨s₂, o, XS.icmpYes X.here hx rfl (pc0 := pc) rfl hd rfl (feq hq).2 ho ht h1, h2⟩
theorem o_lif_ne (X : Stand p l e R s m args below meth c T locs cells slots) (hx : p.tables.exec = Jvm.exec) {x y : Int64} {i : Int} {pt : Nat} (hd : decode c.code pc = .ok (.ifCond .ne i, 3)) (hp : pc + 3 = pc') (ho : 0 ≤ (pc : Int) + i) (ht : ((pc : Int) + i).toNat = pt) (Kt : ¬ (x = y) → Dn p e below P (T.setTop (mkF m pt Ls st))) (Kf : x = y → Dn p e below P (T.setTop (mkF m pc' Ls st))) : Dn p e below P (T.setTop (mkF m pc Ls (.int (lcmpW x y) :: st))) := by
  subst hp
  by_cases hq : x = y
  · obtain ⟨s₂, o, h1, h2⟩ := Kf hq
    exact ⟨s₂, o, XS.ifNo X.here hx rfl hd rfl ((if0 _ _).trans (teq ((lw_eq x y).mpr hq)).2) h1, h2⟩
  · obtain ⟨s₂, o, h1, h2⟩ := Kt hq
    exact ⟨s₂, o, XS.ifYes X.here hx rfl (pc0 := pc) rfl hd rfl ((if0 _ _).trans (feq (fun z => hq ((lw_eq x y).mp z))).2) ho ht h1, h2⟩
theorem o_if_lt (X : Stand p l e R s m args below meth c T locs cells slots) (hx : p.tables.exec = Jvm.exec) {x : Int32} {i : Int} {pt : Nat} (hd : decode c.code pc = .ok (.ifCond .lt i, 3)) (hp : pc + 3 = pc') (ho : 0 ≤ (pc : Int) + i) (ht : ((pc : Int) + i).toNat = pt) (Kt : x < (0 : Int32) → Dn p e below P (T.setTop (mkF m pt Ls st))) (Kf : ¬ (x < (0 : Int32)) → Dn p e below P (T.setTop (mkF m pc' Ls st))) : Dn p e below P (T.setTop (mkF m pc Ls (.int x :: st))) := by
  subst hp
  by_cases hq : x < (0 : Int32)
  · obtain ⟨s₂, o, h1, h2⟩ := Kt hq
    exact ⟨s₂, o, XS.ifYes X.here hx rfl (pc0 := pc) rfl hd rfl ((if0 _ _).trans (tlt hq).1) ho ht h1, h2⟩
  · obtain ⟨s₂, o, h1, h2⟩ := Kf hq
    exact ⟨s₂, o, XS.ifNo X.here hx rfl hd rfl ((if0 _ _).trans (flt hq).1) h1, h2⟩
theorem o_icmp_lt (X : Stand p l e R s m args below meth c T locs cells slots) (hx : p.tables.exec = Jvm.exec) {x y : Int32} {i : Int} {pt : Nat} (hd : decode c.code pc = .ok (.if_icmp .lt i, 3)) (hp : pc + 3 = pc') (ho : 0 ≤ (pc : Int) + i) (ht : ((pc : Int) + i).toNat = pt) (Kt : x < y → Dn p e below P (T.setTop (mkF m pt Ls st))) (Kf : ¬ (x < y) → Dn p e below P (T.setTop (mkF m pc' Ls st))) : Dn p e below P (T.setTop (mkF m pc Ls (.int y :: .int x :: st))) := by
  subst hp
  by_cases hq : x < y
  · obtain ⟨s₂, o, h1, h2⟩ := Kt hq
    exact ⟨s₂, o, XS.icmpYes X.here hx rfl (pc0 := pc) rfl hd rfl (tlt hq).1 ho ht h1, h2⟩
  · obtain ⟨s₂, o, h1, h2⟩ := Kf hq
    exact ⟨s₂, o, XS.icmpNo X.here hx rfl hd rfl (flt hq).1 h1, h2⟩
theorem o_lif_lt (X : Stand p l e R s m args below meth c T locs cells slots) (hx : p.tables.exec = Jvm.exec) {x y : Int64} {i : Int} {pt : Nat} (hd : decode c.code pc = .ok (.ifCond .lt i, 3)) (hp : pc + 3 = pc') (ho : 0 ≤ (pc : Int) + i) (ht : ((pc : Int) + i).toNat = pt) (Kt : x < y → Dn p e below P (T.setTop (mkF m pt Ls st))) (Kf : ¬ (x < y) → Dn p e below P (T.setTop (mkF m pc' Ls st))) : Dn p e below P (T.setTop (mkF m pc Ls (.int (lcmpW x y) :: st))) := by
  subst hp
  by_cases hq : x < y
  · obtain ⟨s₂, o, h1, h2⟩ := Kt hq
    exact ⟨s₂, o, XS.ifYes X.here hx rfl (pc0 := pc) rfl hd rfl ((if0 _ _).trans (tlt ((lw_lt x y).mpr hq)).1) ho ht h1, h2⟩
  · obtain ⟨s₂, o, h1, h2⟩ := Kf hq
    exact ⟨s₂, o, XS.ifNo X.here hx rfl hd rfl ((if0 _ _).trans (flt (fun z => hq ((lw_lt x y).mp z))).1) h1, h2⟩
theorem o_if_ge (X : Stand p l e R s m args below meth c T locs cells slots) (hx : p.tables.exec = Jvm.exec) {x : Int32} {i : Int} {pt : Nat} (hd : decode c.code pc = .ok (.ifCond .ge i, 3)) (hp : pc + 3 = pc') (ho : 0 ≤ (pc : Int) + i) (ht : ((pc : Int) + i).toNat = pt) (Kt : ¬ (x < (0 : Int32)) → Dn p e below P (T.setTop (mkF m pt Ls st))) (Kf : x < (0 : Int32) → Dn p e below P (T.setTop (mkF m pc' Ls st))) : Dn p e below P (T.setTop (mkF m pc Ls (.int x :: st))) := by
  subst hp
  by_cases hq : x < (0 : Int32)
  · obtain ⟨s₂, o, h1, h2⟩ := Kf hq
    exact ⟨s₂, o, XS.ifNo X.here hx rfl hd rfl ((if0 _ _).trans (tlt hq).2.1) h1, h2⟩
  · obtain ⟨s₂, o, h1, h2⟩ := Kt hq
    exact ⟨s₂, o, XS.ifYes X.here hx rfl (pc0 := pc) rfl hd rfl ((if0 _ _).trans (flt hq).2.1) ho ht h1, h2⟩
theorem o_icmp_ge (X : Stand p l e R s m args below meth c T locs cells slots) (hx : p.tables.exec = Jvm.exec) {x y : Int32} {i : Int} {pt : Nat} (hd : decode c.code pc = .ok (.if_icmp .ge i, 3)) (hp : pc + 3 = pc') (ho : 0 ≤ (pc : Int) + i) (ht : ((pc : Int) + i).toNat = pt) (Kt : ¬ (x < y) → Dn p e below P (T.setTop (mkF m pt Ls st))) (Kf : x < y → Dn p e below P (T.setTop (mkF m pc' Ls st))) : Dn p e below P (T.setTop (mkF m pc Ls (.int y :: .int x :: st))) := by
  subst hp
  by_cases hq : x < y
  · obtain ⟨s₂, o, h1, h2⟩ := Kf hq
    exact ⟨s₂, o, XS.icmpNo X.here hx rfl hd rfl (tlt hq).2.1 h1, h2⟩
  · obtain ⟨s₂, o, h1, h2⟩ := Kt hq
    exact ⟨s₂, o, XS.icmpYes X.here hx rfl (pc0 := pc) rfl hd rfl (flt hq).2.1 ho ht h1, h2⟩
theorem o_lif_ge (X : Stand p l e R s m args below meth c T locs cells slots) (hx : p.tables.exec = Jvm.exec) {x y : Int64} {i : Int} {pt : Nat} (hd : decode c.code pc = .ok (.ifCond .ge i, 3)) (hp : pc + 3 = pc') (ho : 0 ≤ (pc : Int) + i) (ht : ((pc : Int) + i).toNat = pt) (Kt : ¬ (x < y) → Dn p e below P (T.setTop (mkF m pt Ls st))) (Kf : x < y → Dn p e below P (T.setTop (mkF m pc' Ls st))) : Dn p e below P (T.setTop (mkF m pc Ls (.int (lcmpW x y) :: st))) := by
  subst hp
  by_cases hq : x < y
  · obtain ⟨s₂, o, h1, h2⟩ := Kf hq
    exact ⟨s₂, o, XS.ifNo X.here hx rfl hd rfl ((if0 _ _).trans (tlt ((lw_lt x y).mpr hq)).2.1) h1, h2⟩
  · obtain ⟨s₂, o, h1, h2⟩ := Kt hq
    exact ⟨s₂, o, XS.ifYes X.here hx rfl (pc0 := pc) rfl hd rfl ((if0 _ _).trans (flt (fun z => hq ((lw_lt x y).mp z))).2.1) ho ht h1, h2⟩
theorem o_if_gt (X : Stand p l e R s m args below meth c T locs cells slots) (hx : p.tables.exec = Jvm.exec) {x : Int32} {i : Int} {pt : Nat} (hd : decode c.code pc = .ok (.ifCond .gt i, 3)) (hp : pc + 3 = pc') (ho : 0 ≤ (pc : Int) + i) (ht : ((pc : Int) + i).toNat = pt) (Kt : (0 : Int32) < x → Dn p e below P (T.setTop (mkF m pt Ls st))) (Kf : ¬ ((0 : Int32) < x) → Dn p e below P (T.setTop (mkF m pc' Ls st))) : Dn p e below P (T.setTop (mkF m pc Ls (.int x :: st))) := by
  subst hp
  by_cases hq : (0 : Int32) < x
  · obtain ⟨s₂, o, h1, h2⟩ := Kt hq
    exact ⟨s₂, o, XS.ifYes X.here hx rfl (pc0 := pc) rfl hd rfl ((if0 _ _).trans (tlt hq).2.2.1) ho ht h1, h2⟩
  · obtain ⟨s₂, o, h1, h2⟩ := Kf hq
    exact ⟨s₂, o, XS.ifNo X.here hx rfl hd rfl ((if0 _ _).trans (flt hq).2.2.1) h1, h2⟩
theorem o_icmp_gt (X : Stand p l e R s m args below meth c T locs cells slots) (hx : p.tables.exec = Jvm.exec) {x y : Int32} {i : Int} {pt : Nat} (hd : decode c.code pc = .ok (.if_icmp .gt i, 3)) (hp : pc + 3 = pc') (ho : 0 ≤ (pc : Int) + i) (ht : ((pc : Int) + i).toNat = pt) (Kt : y < x → Dn p e below P (T.setTop (mkF m pt Ls st))) (Kf : ¬ (y < x) → Dn p e below P (T.setTop (mkF m pc' Ls st))) : Dn p e below P (T.setTop (mkF m pc Ls (.int y :: .int x :: st))) := by
  subst hp
  by_cases hq : y < x
  · obtain ⟨s₂, o, h1, h2⟩ := Kt hq
    exact ⟨s₂, o, XS.icmpYes X.here hx rfl (pc0 := pc) rfl hd rfl (tlt hq).2.2.1 ho ht h1, h2⟩
  · obtain ⟨s₂, o, h1, h2⟩ := Kf hq
    exact ⟨s₂, o, XS.icmpNo X.here hx rfl hd rfl (flt hq).2.2.1 h1, h2⟩
theorem o_lif_gt (X : Stand p l e R s m args below meth c T locs cells slots) (hx : p.tables.exec = Jvm.exec) {x y : Int64} {i : Int} {pt : Nat} (hd : decode c.code pc = .ok (.ifCond .gt i, 3)) (hp : pc + 3 = pc') (ho : 0 ≤ (pc : Int) + i) (ht : ((pc : Int) + i).toNat = pt) (Kt : y < x → Dn p e below P (T.setTop (mkF m pt Ls st))) (Kf : ¬ (y < x) → Dn p e below P (T.setTop (mkF m pc' Ls st))) : Dn p e below P (T.setTop (mkF m pc Ls (.int (lcmpW x y) :: st))) := by
  subst hp
  by_cases hq : y < x
  · obtain ⟨s₂, o, h1, h2⟩ := Kt hq
    exact ⟨s₂, o, XS.ifYes X.here hx rfl (pc0 := pc) rfl hd rfl ((if0 _ _).trans (tlt ((lw_gt x y).mpr hq)).2.2.1) ho ht h1, h2⟩
  · obtain ⟨s₂, o, h1, h2⟩ := Kf hq
    exact ⟨s₂, o, XS.ifNo X.here hx rfl hd rfl ((if0 _ _).trans (flt (fun z => hq ((lw_gt x y).mp z))).2.2.1) h1, h2⟩
theorem o_if_le (X : Stand p l e R s m args below meth c T locs cells slots) (hx : p.tables.exec = Jvm.exec) {x : Int32} {i : Int} {pt : Nat} (hd : decode c.code pc = .ok (.ifCond .le i, 3)) (hp : pc + 3 = pc') (ho : 0 ≤ (pc : Int) + i) (ht : ((pc : Int) + i).toNat = pt) (Kt : ¬ ((0 : Int32) < x) → Dn p e below P (T.setTop (mkF m pt Ls st))) (Kf : (0 : Int32) < x → Dn p e below P (T.setTop (mkF m pc' Ls st))) : Dn p e below P (T.setTop (mkF m pc Ls (.int x :: st))) := by
  subst hp
  by_cases hq : (0 : Int32) < x
  · obtain ⟨s₂, o, h1, h2⟩ := Kf hq
    exact ⟨s₂, o, XS.ifNo X.here hx rfl hd rfl ((if0 _ _).trans (tlt hq).2.2.2) h1, h2⟩
  · obtain ⟨s₂, o, h1, h2⟩ := Kt hq
    exact ⟨s₂, o, XS.ifYes X.here hx rfl (pc0 := pc) rfl hd rfl ((if0 _ _).trans (flt hq).2.2.2) ho ht h1, h2⟩
theorem o_icmp_le (X : Stand p l e R s m args below meth c T locs cells slots) (hx : p.tables.exec = Jvm.exec) {x y : Int32} {i : Int} {pt : Nat} (hd : decode c.code pc = .ok (.if_icmp .le i, 3)) (hp : pc + 3 = pc') (ho : 0 ≤ (pc : Int) + i) (ht : ((pc : Int) + i).toNat = pt) (Kt : ¬ (y < x) → Dn p e below P (T.setTop (mkF m pt Ls st))) (Kf : y < x → Dn p e below P (T.setTop (mkF m pc' Ls st))) : Dn p e below P (T.setTop (mkF m pc Ls (.int y :: .int x :: st))) := by
  subst hp
  by_cases hq : y < x
  · obtain ⟨s₂, o, h1, h2⟩ := Kf hq
    exact ⟨s₂, o, XS.icmpNo X.here hx rfl hd rfl (tlt hq).2.2.2 h1, h2⟩
  · obtain ⟨s₂, o, h1, h2⟩ := Kt hq
    exact ⟨s₂, o, XS.icmpYes X.here hx rfl (pc0 := pc) rfl hd rfl (flt hq).2.2.2 ho ht h1, h2⟩
theorem o_lif_le (X : Stand p l e R s m args below meth c T locs cells slots) (hx : p.tables.exec = Jvm.exec) {x y : Int64} {i : Int} {pt : Nat} (hd : decode c.code pc = .ok (.ifCond .le i, 3)) (hp : pc + 3 = pc') (ho : 0 ≤ (pc : Int) + i) (ht : ((pc : Int) + i).toNat = pt) (Kt : ¬ (y < x) → Dn p e below P (T.setTop (mkF m pt Ls st))) (Kf : y < x → Dn p e below P (T.setTop (mkF m pc' Ls st))) : Dn p e below P (T.setTop (mkF m pc Ls (.int (lcmpW x y) :: st))) := by
  subst hp
  by_cases hq : y < x
  · obtain ⟨s₂, o, h1, h2⟩ := Kf hq
    exact ⟨s₂, o, XS.ifNo X.here hx rfl hd rfl ((if0 _ _).trans (tlt ((lw_gt x y).mpr hq)).2.2.2) h1, h2⟩
  · obtain ⟨s₂, o, h1, h2⟩ := Kt hq
    exact ⟨s₂, o, XS.ifYes X.here hx rfl (pc0 := pc) rfl hd rfl ((if0 _ _).trans (flt (fun z => hq ((lw_gt x y).mp z))).2.2.2) ho ht h1, h2⟩
theorem o_acmp_eq (X : Stand p l e R s m args below meth c T locs cells slots) (hx : p.tables.exec = Jvm.exec) {x y : Value} {i : Int} {pt : Nat} (hd : decode c.code pc = .ok (.if_acmp .eq i, 3)) (hp : pc + 3 = pc') (ho : 0 ≤ (pc : Int) + i) (ht : ((pc : Int) + i).toNat = pt) (hv : x.isRef = true) (hw : y.isRef = true) (Kt : x = y → Dn p e below P (T.setTop (mkF m pt Ls st))) (Kf : ¬ (x = y) → Dn p e below P (T.setTop (mkF m pc' Ls st))) : Dn p e below P (T.setTop (mkF m pc Ls (y :: x :: st))) := by
  subst hp
  by_cases hq : x = y
  · obtain ⟨s₂, o, h1, h2⟩ := Kt hq
    exact ⟨s₂, o, Jvm.RoadKit.acmp (g := mkF m pc Ls (y :: x :: st)) X hx rfl hv hw (pc0 := pc) (same := true) rfl hd rfl (decide_eq_true hq) ho ht.symm h1, h2⟩
  · obtain ⟨s₂, o, h1, h2⟩ := Kf hq
    exact ⟨s₂, o, Jvm.RoadKit.acmp (g := mkF m pc Ls (y :: x :: st)) X hx rfl hv hw (pc0 := pc) (same := false) rfl hd rfl (decide_eq_false hq) ho rfl h1, h2⟩
theorem o_acmp_ne (X : Stand p l e R s m args below meth c T locs cells slots) (hx : p.tables.exec = Jvm.exec) {x y : Value} {i : Int} {pt : Nat} (hd : decode c.code pc = .ok (.if_acmp .ne i, 3)) (hp : pc + 3 = pc') (ho : 0 ≤ (pc : Int) + i) (ht : ((pc : Int) + i).toNat = pt) (hv : x.isRef = true) (hw : y.isRef = true) (Kt : ¬ (x = y) → Dn p e below P (T.setTop (mkF m pt Ls st))) (Kf : x = y → Dn p e below P (T.setTop (mkF m pc' Ls st))) : Dn p e below P (T.setTop (mkF m pc Ls (y :: x :: st))) := by
  subst hp
  by_cases hq : x = y
  · obtain ⟨s₂, o, h1, h2⟩ := Kf hq
    exact ⟨s₂, o, Jvm.RoadKit.acmp (g := mkF m pc Ls (y :: x :: st)) X hx rfl hv hw (pc0 := pc) (same := true) rfl hd rfl (decide_eq_true hq) ho rfl h1, h2⟩
  · obtain ⟨s₂, o, h1, h2⟩ := Kt hq
    exact ⟨s₂, o, Jvm.RoadKit.acmp (g := mkF m pc Ls (y :: x :: st)) X hx rfl hv hw (pc0 := pc) (same := false) rfl hd rfl (decide_eq_false hq) ho ht.symm h1, h2⟩
theorem o_ifnull_no (X : Stand p l e R s m args below meth c T locs cells slots) (hx : p.tables.exec = Jvm.exec) {b : Addr} {i : Int} (hd : decode c.code pc = .ok (.ifnull i, 3)) (hp : pc + 3 = pc') (K : Dn p e below P (T.setTop (mkF m pc' Ls st))) : Dn p e below P (T.setTop (mkF m pc Ls (.ref b :: st))) := by
  subst hp
  obtain ⟨s₂, o, h1, h2⟩ := K
  exact ⟨s₂, o, XS.ifnullNo X.here hx rfl hd rfl h1, h2⟩
theorem o_ifnull_yes (X : Stand p l e R s m args below meth c T locs cells slots) (hx : p.tables.exec = Jvm.exec) {i : Int} (hd : decode c.code pc = .ok (.ifnull i, 3)) (ho : 0 ≤ (pc : Int) + i) (hp : ((pc : Int) + i).toNat = pc') (K : Dn p e below P (T.setTop (mkF m pc' Ls st))) : Dn p e below P (T.setTop (mkF m pc Ls (.null :: st))) := by
  obtain ⟨s₂, o, h1, h2⟩ := K
  exact ⟨s₂, o, XS.ifnullYes X.here hx rfl (pc0 := pc) rfl hd rfl ho hp h1, h2⟩
theorem o_ifnonnull_yes (X : Stand p l e R s m args below meth c T locs cells slots) (hx : p.tables.exec = Jvm.exec) {b : Addr} {i : Int} (hd : decode c.code pc = .ok (.ifnonnull i, 3)) (ho : 0 ≤ (pc : Int) + i) (hp : ((pc : Int) + i).toNat = pc') (K : Dn p e below P (T.setTop (mkF m pc' Ls st))) : Dn p e below P (T.setTop (mkF m pc Ls (.ref b :: st))) := by
  obtain ⟨s₂, o, h1, h2⟩ := K
  exact ⟨s₂, o, XS.ifnonnullYes X.here hx rfl (pc0 := pc) rfl hd rfl ho hp h1, h2⟩
theorem o_ldc2 (X : Stand p l e R s m args below meth c T locs cells slots) (hx : p.tables.exec = Jvm.exec) (hZ : Z.Warmed39 s.vm) {own : String} {index : Nat} {v : Int64} (hown : s.vm.findClass own = some m.cls) (w : (Jvm.Cond.constantLong own index v).before a0 Z = true) (hd : decode c.code pc = .ok (.ldc2_w index, 3)) (hp : pc + 3 = pc') (K : Dn p e below P (T.setTop (mkF m pc' Ls (.long v :: st)))) : Dn p e below P (T.setTop (mkF m pc Ls st)) := by
  subst hp
  exact go (X.ldc2Long hx hown (mvT hZ w) (g := mkF m pc Ls st) rfl hd) K
theorem o_ldc (X : Stand p l e R s m args below meth c T locs cells slots) (hx : p.tables.exec = Jvm.exec) (hZ : Z.Warmed39 s.vm) {own : String} {index : Nat} {v : Int32} (hown : s.vm.findClass own = some m.cls) (w : (Jvm.Cond.constant own index v).before a0 Z = true) (hd : decode c.code pc = .ok (.ldc index, 2)) (hp : pc + 2 = pc') (K : Dn p e below P (T.setTop (mkF m pc' Ls (.int v :: st)))) : Dn p e below P (T.setTop (mkF m pc Ls st)) := by
  subst hp
  exact go (X.ldcInt hx hown (mvT hZ w) (g := mkF m pc Ls st) rfl hd) K
theorem o_ldcw (X : Stand p l e R s m args below meth c T locs cells slots) (hx : p.tables.exec = Jvm.exec) (hZ : Z.Warmed39 s.vm) {own : String} {index : Nat} {v : Int32} (hown : s.vm.findClass own = some m.cls) (w : (Jvm.Cond.constant own index v).before a0 Z = true) (hd : decode c.code pc = .ok (.ldc_w index, 3)) (hp : pc + 3 = pc') (K : Dn p e below P (T.setTop (mkF m pc' Ls (.int v :: st)))) : Dn p e below P (T.setTop (mkF m pc Ls st)) := by
  subst hp
  exact go (X.ldcwInt hx hown (mvT hZ w) (g := mkF m pc Ls st) rfl hd) K
theorem o_dup2 (X : Stand p l e R s m args below meth c T locs cells slots) (hx : p.tables.exec = Jvm.exec) {v w : Value} (hd : decode c.code pc = .ok (.dup2, 1)) (hp : pc + 1 = pc') (hv : v.category = 1) (hw : w.category = 1) (K : Dn p e below P (T.setTop (mkF m pc' Ls (v :: w :: v :: w :: st)))) : Dn p e below P (T.setTop (mkF m pc Ls (v :: w :: st))) := by
  subst hp
  obtain ⟨s₂, o, h1, h2⟩ := K
  exact ⟨s₂, o, XT.dup2 X.here hx rfl hd rfl hv hw h1, h2⟩
theorem o_iaload (X : Stand p l e R s m args below meth c T locs cells slots) (hx : p.tables.exec = Jvm.exec) (hZ : Z.Warmed39 s.vm) (eT : T.heap = h) {a : Addr} {k : ClassId} {n j : Int32} {vs : List Value} {d v : Value} (V : Arv Z h a k .int n vs d) (hj : ¬ j < 0 ∧ j < n) (hv : vs.getD j.toNatClampNeg d = v) (hd : decode c.code pc = .ok (.iaload, 1)) (hp : pc + 1 = pc') (K : Dn p e below P (T.setTop (mkF m pc' Ls (v :: st)))) : Dn p e below P (T.setTop (mkF m pc Ls (.int j :: .ref a :: st))) := by
  subst hp
  obtain ⟨cl, A, -, S, N, H, -⟩ := V
  have hin := inb_of S hj
  exact go (X.iaload hx (j := j) (v := v) (by rw [eT]; exact A.1) (State.isArrayOf_alike hZ.alike A.2.1) A.2.2 hin (H.at hin hv) (g := mkF m pc Ls (.int j :: .ref a :: st)) rfl rfl hd) K
theorem o_laload (X : Stand p l e R s m args below meth c T locs cells slots) (hx : p.tables.exec = Jvm.exec) (hZ : Z.Warmed39 s.vm) (eT : T.heap = h) {a : Addr} {k : ClassId} {n j : Int32} {vs : List Value} {d v : Value} (V : Arv Z h a k .long n vs d) (hj : ¬ j < 0 ∧ j < n) (hv : vs.getD j.toNatClampNeg d = v) (hd : decode c.code pc = .ok (.laload, 1)) (hp : pc + 1 = pc') (K : Dn p e below P (T.setTop (mkF m pc' Ls (v :: st)))) : Dn p e below P (T.setTop (mkF m pc Ls (.int j :: .ref a :: st))) := by
  subst hp
  obtain ⟨cl, A, -, S, N, H, -⟩ := V
  have hin := inb_of S hj
  exact go (X.laload hx (j := j) (v := v) (by rw [eT]; exact A.1) (State.isArrayOf_alike hZ.alike A.2.1) A.2.2 hin (H.at hin hv) (g := mkF m pc Ls (.int j :: .ref a :: st)) rfl rfl hd) K
theorem o_caload (X : Stand p l e R s m args below meth c T locs cells slots) (hx : p.tables.exec = Jvm.exec) (hZ : Z.Warmed39 s.vm) (eT : T.heap = h) {a : Addr} {k : ClassId} {n j : Int32} {vs : List Value} {d v : Value} (V : Arv Z h a k .char n vs d) (hj : ¬ j < 0 ∧ j < n) (hv : vs.getD j.toNatClampNeg d = v) (hd : decode c.code pc = .ok (.caload, 1)) (hp : pc + 1 = pc') (K : Dn p e below P (T.setTop (mkF m pc' Ls (v :: st)))) : Dn p e below P (T.setTop (mkF m pc Ls (.int j :: .ref a :: st))) := by
  subst hp
  obtain ⟨cl, A, -, S, N, H, -⟩ := V
  have hin := inb_of S hj
  exact go (X.caload hx (j := j) (v := v) (by rw [eT]; exact A.1) (State.isArrayOf_alike hZ.alike A.2.1) A.2.2 hin (H.at hin hv) (g := mkF m pc Ls (.int j :: .ref a :: st)) rfl rfl hd) K
theorem o_baload (X : Stand p l e R s m args below meth c T locs cells slots) (hx : p.tables.exec = Jvm.exec) (hZ : Z.Warmed39 s.vm) (eT : T.heap = h) {a : Addr} {k : ClassId} {n j : Int32} {vs : List Value} {d v : Value} (V : Arv Z h a k .byte n vs d) (hj : ¬ j < 0 ∧ j < n) (hv : vs.getD j.toNatClampNeg d = v) (hd : decode c.code pc = .ok (.baload, 1)) (hp : pc + 1 = pc') (K : Dn p e below P (T.setTop (mkF m pc' Ls (v :: st)))) : Dn p e below P (T.setTop (mkF m pc Ls (.int j :: .ref a :: st))) := by
  subst hp
  obtain ⟨cl, A, -, S, N, H, -⟩ := V
  have hin := inb_of S hj
  exact go (X.baloadBytes hx (j := j) (v := v) (by rw [eT]; exact A.1) (State.isArrayOf_alike hZ.alike A.2.1) A.2.2 hin (H.at hin hv) (g := mkF m pc Ls (.int j :: .ref a :: st)) rfl rfl hd) K
theorem o_aaload (X : Stand p l e R s m args below meth c T locs cells slots) (hx : p.tables.exec = Jvm.exec) (hZ : Z.Warmed39 s.vm) (eT : T.heap = h) {a : Addr} {k : ClassId} {n j : Int32} {vs : List Value} {d v : Value} {ty : FieldType} (V : Arv Z h a k ty n vs d) (hty : ty.isReference = true) (hj : ¬ j < 0 ∧ j < n) (hv : vs.getD j.toNatClampNeg d = v) (hd : decode c.code pc = .ok (.aaload, 1)) (hp : pc + 1 = pc') (K : Dn p e below P (T.setTop (mkF m pc' Ls (v :: st)))) : Dn p e below P (T.setTop (mkF m pc Ls (.int j :: .ref a :: st))) := by
  subst hp
  obtain ⟨cl, A, -, S, N, H, -⟩ := V
  have hin := inb_of S hj
  exact go (X.aaload hx (j := j) (v := v) (by rw [eT]; exact A.1) (State.isArrayOf_alike hZ.alike A.2.1) hty A.2.2 hin (H.at hin hv) (g := mkF m pc Ls (.int j :: .ref a :: st)) rfl rfl hd) K
theorem o_arraylength (X : Stand p l e R s m args below meth c T locs cells slots) (hx : p.tables.exec = Jvm.exec) (hZ : Z.Warmed39 s.vm) (eT : T.heap = h) {a : Addr} {k : ClassId} {n : Int32} {vs : List Value} {d : Value} {ty : FieldType} (V : Arv Z h a k ty n vs d) (hd : decode c.code pc = .ok (.arraylength, 1)) (hp : pc + 1 = pc') (K : Dn p e below P (T.setTop (mkF m pc' Ls (.int n :: st)))) : Dn p e below P (T.setTop (mkF m pc Ls (.ref a :: st))) := by
  subst hp
  obtain ⟨cl, A, -, S, N, H, -⟩ := V
  refine go (X.arraylength hx (by rw [eT]; exact A.1) (State.isArrayOf_alike hZ.alike A.2.1) (g := mkF m pc Ls (.ref a :: st)) rfl rfl hd) ?_
  rw [len_of S N]
  exact K
theorem o_iastore (X : Stand p l e R s m args below meth c T locs cells slots) (hx : p.tables.exec = Jvm.exec) (hZ : Z.Warmed39 s.vm) (eT : T.heap = h) {a : Addr} {k : ClassId} {n j : Int32} {vs : List Value} {d : Value} {x : Int32} (V : Arv Z h a k .int n vs d) (hj : ¬ j < 0 ∧ j < n) (i : Nat) (hi : j.toNatClampNeg = i) (hl : i < vs.length) (hd : decode c.code pc = .ok (.iastore, 1)) (hp : pc + 1 = pc') (K : ∀ T' h', Stand p l e R s m args below meth c T' (locs ++ [⟨a, j.toNatClampNeg⟩]) cells slots → T'.heap = h' → Wr h h' a j.toNatClampNeg (.int x) → Arv Z h' a k .int n (vs.set i (.int x)) d → Dn p e below P (T'.setTop (mkF m pc' Ls st))) : Dn p e below P (T.setTop (mkF m pc Ls (.int x :: .int j :: .ref a :: st))) := by
  subst hp
  obtain ⟨cl, A, q, S, N, H, G⟩ := V
  have hin := inb_of S hj
  obtain ⟨T', h', X', e', W', st'⟩ := stI X hx hZ eT A (j := j) (x := x) hin (g := mkF m pc Ls (.int x :: .int j :: .ref a :: st)) rfl rfl hd
  exact go st' (K T' h' X' e' W' (Arv.set A q S N H G rfl W' i hi hl))
theorem o_lastore (X : Stand p l e R s m args below meth c T locs cells slots) (hx : p.tables.exec = Jvm.exec) (hZ : Z.Warmed39 s.vm) (eT : T.heap = h) {a : Addr} {k : ClassId} {n j : Int32} {vs : List Value} {d : Value} {x : Int64} (V : Arv Z h a k .long n vs d) (hj : ¬ j < 0 ∧ j < n) (i : Nat) (hi : j.toNatClampNeg = i) (hl : i < vs.length) (hd : decode c.code pc = .ok (.lastore, 1)) (hp : pc + 1 = pc') (K : ∀ T' h', Stand p l e R s m args below meth c T' (locs ++ [⟨a, j.toNatClampNeg⟩]) cells slots → T'.heap = h' → Wr h h' a j.toNatClampNeg (.long x) → Arv Z h' a k .long n (vs.set i (.long x)) d → Dn p e below P (T'.setTop (mkF m pc' Ls st))) : Dn p e below P (T.setTop (mkF m pc Ls (.long x :: .int j :: .ref a :: st))) := by
  subst hp
  obtain ⟨cl, A, q, S, N, H, G⟩ := V
  have hin := inb_of S hj
  obtain ⟨T', h', X', e', W', st'⟩ := stJ X hx hZ eT A (j := j) (x := x) hin (g := mkF m pc Ls (.long x :: .int j :: .ref a :: st)) rfl rfl hd
  exact go st' (K T' h' X' e' W' (Arv.set A q S N H G rfl W' i hi hl))
theorem o_castore (X : Stand p l e R s m args below meth c T locs cells slots) (hx : p.tables.exec = Jvm.exec) (hZ : Z.Warmed39 s.vm) (eT : T.heap = h) {a : Addr} {k : ClassId} {n j : Int32} {vs : List Value} {d : Value} {x : Int32} (V : Arv Z h a k .char n vs d) (hj : ¬ j < 0 ∧ j < n) (i : Nat) (hi : j.toNatClampNeg = i) (hl : i < vs.length) (hd : decode c.code pc = .ok (.castore, 1)) (hp : pc + 1 = pc') (K : ∀ T' h', Stand p l e R s m args below meth c T' (locs ++ [⟨a, j.toNatClampNeg⟩]) cells slots → T'.heap = h' → Wr h h' a j.toNatClampNeg (.int (nar .char x)) → Arv Z h' a k .char n (vs.set i (.int (nar .char x))) d → Dn p e below P (T'.setTop (mkF m pc' Ls st))) : Dn p e below P (T.setTop (mkF m pc Ls (.int x :: .int j :: .ref a :: st))) := by
  subst hp
  obtain ⟨cl, A, q, S, N, H, G⟩ := V
  have hin := inb_of S hj
  obtain ⟨T', h', X', e', W', st'⟩ := stC X hx hZ eT A (j := j) (x := x) hin (g := mkF m pc Ls (.int x :: .int j :: .ref a :: st)) rfl rfl hd
  exact go st' (K T' h' X' e' W' (Arv.set A q S N H G (fits_nar_char x) W' i hi hl))
theorem o_bastore (X : Stand p l e R s m args below meth c T locs cells slots) (hx : p.tables.exec = Jvm.exec) (hZ : Z.Warmed39 s.vm) (eT : T.heap = h) {a : Addr} {k : ClassId} {n j : Int32} {vs : List Value} {d : Value} {x : Int32} (V : Arv Z h a k .byte n vs d) (hj : ¬ j < 0 ∧ j < n) (i : Nat) (hi : j.toNatClampNeg = i) (hl : i < vs.length) (hd : decode c.code pc = .ok (.bastore, 1)) (hp : pc + 1 = pc') (K : ∀ T' h', Stand p l e R s m args below meth c T' (locs ++ [⟨a, j.toNatClampNeg⟩]) cells slots → T'.heap = h' → Wr h h' a j.toNatClampNeg (.int (nar .byte x)) → Arv Z h' a k .byte n (vs.set i (.int (nar .byte x))) d → Dn p e below P (T'.setTop (mkF m pc' Ls st))) : Dn p e below P (T.setTop (mkF m pc Ls (.int x :: .int j :: .ref a :: st))) := by
  subst hp
  obtain ⟨cl, A, q, S, N, H, G⟩ := V
  have hin := inb_of S hj
  obtain ⟨T', h', X', e', W', st'⟩ := stB X hx hZ eT A (j := j) (x := x) hin (g := mkF m pc Ls (.int x :: .int j :: .ref a :: st)) rfl rfl hd
  exact go st' (K T' h' X' e' W' (Arv.set A q S N H G (fits_nar_byte x) W' i hi hl))
theorem o_newarray (X : Stand p l e R s m args below meth c T locs cells slots) (hx : p.tables.exec = Jvm.exec) (hZ : Z.Warmed39 s.vm) (eT : T.heap = h) {aty : ArrayType} (w : (Jvm.Cond.arrayClass (newarray.typeOf aty)).before a0 Z = true) (hd : decode c.code pc = .ok (.newarray aty, 2)) (hp : pc + 2 = pc') {n : Int32} (hn : ¬ n < 0) (cap : Nat) (hcap : n.toNatClampNeg ≤ cap) (hb : cap * 8 ≤ 536870912) (hc : cells + 1 ≤ R.cells) (hs : slots + cap ≤ R.slots) (K : ∀ T' h' a k, a = h.size → Stand p l e R s m args below meth c T' locs (cells + 1) (slots + cap) → T'.heap = h' → Ext h h' → Arv Z h' a k (newarray.typeOf aty) n [] (defaultValue (newarray.typeOf aty)) → Dn p e below P (T'.setTop (mkF m pc' Ls (.ref a :: st)))) : Dn p e below P (T.setTop (mkF m pc Ls (.int n :: st))) := by
  subst hp
  obtain ⟨T', h', k, X', e', E', A', st'⟩ := newP X hx hZ w eT (g := mkF m pc Ls (.int n :: st)) rfl hd rfl hn hcap hb hc hs
  exact go st' (K T' h' _ k rfl X' e' E' (Arv.new A' hn))
theorem o_getfield (X : Stand p l e R s m args below meth c T locs cells slots) (hx : p.tables.exec = Jvm.exec) (hZ : Z.Warmed39 s.vm) {own O n d : String} {index : Nat} (hown : s.vm.findClass own = some m.cls) (w : (Jvm.Cond.fieldLink own index O n d).before a0 Z = true) (eT : T.heap = h) {a : Addr} {v : Value} (F : Fld Z h a O n d v) (hd : decode c.code pc = .ok (.getfield index, 3)) (hp : pc + 3 = pc') (K : ∀ T', Stand p l e R s m args below meth c T' locs cells slots → T'.heap = h → Dn p e below P (T'.setTop (mkF m pc' Ls (v :: st)))) : Dn p e below P (T.setTop (mkF m pc Ls (.ref a :: st))) := by
  subst hp
  obtain ⟨T', X', e', st'⟩ := getF X hx hZ hown (host := "") (Or.inl w) Via.refl eT F (g := mkF m pc Ls (.ref a :: st)) rfl rfl hd
  exact go st' (K T' X' e')
theorem o_getfieldN (X : Stand p l e R s m args below meth c T locs cells slots) (hx : p.tables.exec = Jvm.exec) (hZ : Z.Warmed39 s.vm) {own O n d host : String} {index : Nat} (hown : s.vm.findClass own = some m.cls) (w : (Jvm.Cond.fieldLinkNest own index O n d host).before a0 Z = true) (eT : T.heap = h) {a : Addr} {v : Value} (F : Fld Z h a O n d v) (hd : decode c.code pc = .ok (.getfield index, 3)) (hp : pc + 3 = pc') (K : ∀ T', Stand p l e R s m args below meth c T' locs cells slots → T'.heap = h → Dn p e below P (T'.setTop (mkF m pc' Ls (v :: st)))) : Dn p e below P (T.setTop (mkF m pc Ls (.ref a :: st))) := by
  subst hp
  obtain ⟨T', X', e', st'⟩ := getF X hx hZ hown (host := host) (Or.inr w) Via.refl eT F (g := mkF m pc Ls (.ref a :: st)) rfl rfl hd
  exact go st' (K T' X' e')
theorem o_putfield (X : Stand p l e R s m args below meth c T locs cells slots) (hx : p.tables.exec = Jvm.exec) (hZ : Z.Warmed39 s.vm) {own O n d C : String} {index kk : Nat} {ty : FieldType} (hown : s.vm.findClass own = some m.cls) (w : (Jvm.Cond.fieldLink own index O n d).before a0 Z = true) (eT : T.heap = h) {a : Addr} {v v' old : Value} (F : Fld Z h a O n d old) (E : Exa Z h a C) (L : (Jvm.Cond.lays C O n d).before a0 Z = true ∨ ((Jvm.Cond.laysFinal C O n d).before a0 Z = true ∧ own = O ∧ meth.name = "<init>")) (wi : (Jvm.Cond.instantiable C kk).before a0 Z = true) (hty : parseFieldDescriptor d = some ty) (hn : narrow ty v = v') (hf : fits ty v' = true) (hd : decode c.code pc = .ok (.putfield index, 3)) (hp : pc + 3 = pc') (K : ∀ T' h', Stand p l e R s m args below meth c T' (locs ++ [⟨a, Jvm.RoadKit.slotOf Z O n d⟩]) cells slots → T'.heap = h' → Wr h h' a (Jvm.RoadKit.slotOf Z O n d) v' → Fld Z h' a O n d v' → Exa Z h' a C → Dn p e below P (T'.setTop (mkF m pc' Ls st))) : Dn p e below P (T.setTop (mkF m pc Ls (v :: .ref a :: st))) := by
  subst hp
  obtain ⟨T', h', X', e', W', st'⟩ := putFN X hx hZ hown w Via.refl eT F E L wi hty hn hf (g := mkF m pc Ls (v :: .ref a :: st)) rfl rfl hd
  exact go st' (K T' h' X' e' W' (F.same W') (E.wr W'))
theorem o_getstatic (X : Stand p l e R s m args below meth c T locs cells slots) (hx : p.tables.exec = Jvm.exec) (hZ : Z.Warmed39 s.vm) {own O n d : String} {index : Nat} (hown : s.vm.findClass own = some m.cls) (w : (Jvm.Cond.fieldLink own index O n d).before a0 Z = true) (eT : T.heap = h) {v : Value} (F : Sta Z h O n d v) (hd : decode c.code pc = .ok (.getstatic index, 3)) (hp : pc + 3 = pc') (K : ∀ T', Stand p l e R s m args below meth c T' locs cells slots → T'.heap = h → Dn p e below P (T'.setTop (mkF m pc' Ls (v :: st)))) : Dn p e below P (T.setTop (mkF m pc Ls st)) := by
  subst hp
  obtain ⟨T', X', e', st'⟩ := getS2 X hx hZ hown (host := "") (Or.inl w) Via.refl eT F (g := mkF m pc Ls st) rfl hd
  exact go st' (K T' X' e')
theorem o_new (X : Stand p l e R s m args below meth c T locs cells slots) (hx : p.tables.exec = Jvm.exec) (hZ : Z.Warmed39 s.vm) {own C : String} {index n : Nat} (hown : s.vm.findClass own = some m.cls) (w : (Jvm.Cond.classLink own index C).before a0 Z = true) (wi : (Jvm.Cond.instantiable C n).before a0 Z = true) (wz : (Jvm.Cond.initialized C).before a0 Z = true) (eT : T.heap = h) (hd : decode c.code pc = .ok (.new index, 3)) (hp : pc + 3 = pc') (hc : cells + 1 ≤ R.cells) (hs : slots + n ≤ R.slots) (K : ∀ T' h' a, a = h.size → Stand p l e R s m args below meth c T' locs (cells + 1) (slots + n) → T'.heap = h' → Ext h h' → Exa Z h' a C → (∀ {O nm d : String} {ty : FieldType}, Laid Z a0 C O nm d → parseFieldDescriptor d = some ty → Fld Z h' a O nm d (defaultValue ty)) → Dn p e below P (T'.setTop (mkF m pc' Ls (.ref a :: st)))) : Dn p e below P (T.setTop (mkF m pc Ls st)) := by
  subst hp
  obtain ⟨T', h', X', e', E', A', D', -, st'⟩ := newO X hx hZ hown w wi wz eT (g := mkF m pc Ls st) rfl hd hc hs
  exact go st' (K T' h' _ rfl X' e' E' A' D')
theorem o_initO (X : Stand p l e R s m args below meth c T locs cells slots) (hx : p.tables.exec = Jvm.exec) (hZ : Z.Warmed39 s.vm) {own : String} {index : Nat} (hown : s.vm.findClass own = some m.cls) (w1 : (Jvm.Cond.methodLink own index Lib.objectInit).before a0 Z = true) (w2 : (Jvm.Cond.instanceMethod Lib.objectInit).before a0 Z = true) (w3 : (Jvm.Cond.code Lib.objectInit ⟨#[0xb1]⟩ 1 none).before a0 Z = true) (eT : T.heap = h) (hsize : Ls.size = c.maxLocals) {a : Addr} (hd : decode c.code pc = .ok (.invokespecial index, 3)) (hp : pc + 3 = pc') (hf : 1 ≤ R.frames) {W : Nat} (hW : 2 * 0 + (st.map fun v => v.category).sum ≤ W) (hl : W + 12 ≤ R.locals) (K : ∀ T', Stand p l e R s m args below meth c T' locs cells slots → T'.heap = h → Dn p e below P (T'.setTop (mkF m pc' Ls st))) : Dn p e below P (T.setTop (mkF m pc Ls (.ref a :: st))) := by
  subst hp
  obtain ⟨T', X', e', st'⟩ := initO X hx hZ hown w1 w2 w3 eT (g := mkF m pc Ls (.ref a :: st)) rfl hsize rfl hd hf (W := W) hW hl
  exact go st' (K T' X' e')
theorem o_callS (X : Stand p l e R s m args below meth c T locs cells slots) (hx : p.tables.exec = Jvm.exec) (hZ : Z.Warmed39 s.vm) {own : String} {index : Nat} {y : MethodName} {bytes : ByteArray} {maxL : Nat} {ret : Option FieldType} {Rm : Room} {Q : Option Value → Heap → List Loc → Prop} {ps : List FieldType} (argsL : List Value) {as' : Array Value} (C : Ctr l Z y bytes maxL ret [] Rm as' h Q) (hown : s.vm.findClass own = some m.cls) (w1 : (Jvm.Cond.methodLink own index y).before a0 Z = true) (w2 : (Jvm.Cond.static y).before a0 Z = true) (w3 : (Jvm.Cond.initialized y.cls).before a0 Z = true) (w4 : (Jvm.Cond.code y bytes maxL ret).before a0 Z = true) (hy : y.cls ≠ "java/lang/invoke/MethodHandle" ∧ y.cls ≠ "java/lang/invoke/VarHandle") (hpd : parseMethodDescriptor y.desc = some ⟨ps, ret⟩) (eT : T.heap = h) (hsize : Ls.size = c.maxLocals) {stk : List Value} (has : as' = argsL.toArray) (hln : argsL.length = ps.length) (hst : stk = argsL.reverse ++ st) (hd : decode c.code pc = .ok (.invokestatic index, 3)) (hp : pc + 3 = pc') (W : Nat) (hW : 2 * 0 + (st.map fun v => v.category).sum ≤ W) (hf : Rm.frames + 1 ≤ R.frames) (hl : W + (maxL + 11) + Rm.locals ≤ R.locals) (hc : cells + Rm.cells ≤ R.cells) (hs : slots + Rm.slots ≤ R.slots) (K : ∀ T' v L, Stand p l e R s m args below meth c T' (locs ++ L) (cells + Rm.cells) (slots + Rm.slots) → Q v T'.heap L → Dn p e below P (T'.setTop (mkF m pc' Ls (v.toList ++ st)))) : Dn p e below P (T.setTop (mkF m pc Ls stk)) := by
  subst hp has hst
  obtain ⟨v, vm₁, ⟨T', L', k', n'⟩, -, X', ⟨L, hQ, l1, y1, z1⟩, st'⟩ := Jvm.LawKit.callS X hx (y := y) hown (mvT hZ w1) (mvT hZ w2) (mvT hZ w3) (mvT hZ w4) hy (backOf (W := W) C hZ w4 w3 hf hl) (g := mkF m pc Ls (argsL.reverse ++ st)) rfl hsize (argsL := argsL) (rest := st) (lenOf hpd hln) rfl hW hd (fun _ _ => ⟨rfl, eT, hc, hs⟩)
  dsimp only [Pt.U, Pt.locs, Pt.cells, Pt.slots] at X' l1 y1 z1 st' hQ
  subst l1 y1 z1
  exact go st' (K T' v L X' hQ)
theorem o_callI (X : Stand p l e R s m args below meth c T locs cells slots) (hx : p.tables.exec = Jvm.exec) (hZ : Z.Warmed39 s.vm) {own : String} {index : Nat} {y : MethodName} {bytes : ByteArray} {maxL : Nat} {Rm : Room} {Q : Option Value → Heap → List Loc → Prop} {ps : List FieldType} (a : Addr) (argsL : List Value) {as' : Array Value} (C : Ctr l Z y bytes maxL none [] Rm as' h Q) (hy1 : y.name = "<init>") (hown : s.vm.findClass own = some m.cls) (w1 : (Jvm.Cond.methodLink own index y).before a0 Z = true) (w2 : (Jvm.Cond.instanceMethod y).before a0 Z = true) (w3 : (Jvm.Cond.initialized y.cls).before a0 Z = true) (w4 : (Jvm.Cond.code y bytes maxL none).before a0 Z = true) (hy : y.cls ≠ "java/lang/invoke/MethodHandle" ∧ y.cls ≠ "java/lang/invoke/VarHandle") (hpd : parseMethodDescriptor y.desc = some ⟨ps, none⟩) (eT : T.heap = h) (hsize : Ls.size = c.maxLocals) {stk : List Value} (has : as' = (.ref a :: argsL).toArray) (hln : argsL.length = ps.length) (hst : stk = argsL.reverse ++ .ref a :: st) (hd : decode c.code pc = .ok (.invokespecial index, 3)) (hp : pc + 3 = pc') (W : Nat) (hW : 2 * 0 + (st.map fun v => v.category).sum ≤ W) (hf : Rm.frames + 1 ≤ R.frames) (hl : W + (maxL + 11) + Rm.locals ≤ R.locals) (hc : cells + Rm.cells ≤ R.cells) (hs : slots + Rm.slots ≤ R.slots) (K : ∀ T' v L, Stand p l e R s m args below meth c T' (locs ++ L) (cells + Rm.cells) (slots + Rm.slots) → Q v T'.heap L → Dn p e below P (T'.setTop (mkF m pc' Ls (v.toList ++ st)))) : Dn p e below P (T.setTop (mkF m pc Ls stk)) := by
  subst hp has hst
  obtain ⟨v, vm₁, ⟨T', L', k', n'⟩, -, X', ⟨L, hQ, l1, y1, z1⟩, st'⟩ := X.specialBack hx (y := y) hy1 hown (mvT hZ w1) (mvT hZ w2) (mvT hZ w4) hy (backOf (W := W) C hZ w4 w3 hf hl) (g := mkF m pc Ls (argsL.reverse ++ .ref a :: st)) rfl hsize (Steps.refl _) (a := a) (argsL := argsL) (rest := st) (lenOf hpd hln) rfl hW hd (fun _ _ => ⟨rfl, eT, hc, hs⟩)
  dsimp only [Pt.U, Pt.locs, Pt.cells, Pt.slots] at X' l1 y1 z1 st' hQ
  subst l1 y1 z1
  exact goS st' (K T' v L X' hQ)
theorem o_callV (X : Stand p l e R s m args below meth c T locs cells slots) (hx : p.tables.exec = Jvm.exec) (hZ : Z.Warmed39 s.vm) {own Cc : String} {index : Nat} {y : MethodName} {bytes : ByteArray} {maxL : Nat} {ret : Option FieldType} {Rm : Room} {Q : Option Value → Heap → List Loc → Prop} {ps : List FieldType} (a : Addr) (argsL : List Value) {as' : Array Value} (C : Ctr l Z y bytes maxL ret [] Rm as' h Q) (hown : s.vm.findClass own = some m.cls) (w1 : (Jvm.Cond.methodLink own index y).before a0 Z = true) (w5 : (Jvm.Cond.declares y).before a0 Z = true) (w6 : (Jvm.Cond.selects Cc y y).before a0 Z = true) (w2 : (Jvm.Cond.instanceMethod y).before a0 Z = true) (w3 : (Jvm.Cond.initialized y.cls).before a0 Z = true) (w4 : (Jvm.Cond.code y bytes maxL ret).before a0 Z = true) (hy : y.cls ≠ "java/lang/invoke/MethodHandle" ∧ y.cls ≠ "java/lang/invoke/VarHandle") (E : Exa Z h a Cc) (hpd : parseMethodDescriptor y.desc = some ⟨ps, ret⟩) (eT : T.heap = h) (hsize : Ls.size = c.maxLocals) {stk : List Value} (has : as' = (.ref a :: argsL).toArray) (hln : argsL.length = ps.length) (hst : stk = argsL.reverse ++ .ref a :: st) (hd : decode c.code pc = .ok (.invokevirtual index, 3)) (hp : pc + 3 = pc') (W : Nat) (hW : 2 * 0 + (st.map fun v => v.category).sum ≤ W) (hf : Rm.frames + 1 ≤ R.frames) (hl : W + (maxL + 11) + Rm.locals ≤ R.locals) (hc : cells + Rm.cells ≤ R.cells) (hs : slots + Rm.slots ≤ R.slots) (K : ∀ T' v L, Stand p l e R s m args below meth c T' (locs ++ L) (cells + Rm.cells) (slots + Rm.slots) → Q v T'.heap L → Dn p e below P (T'.setTop (mkF m pc' Ls (v.toList ++ st)))) : Dn p e below P (T.setTop (mkF m pc Ls stk)) := by
  subst hp has hst
  obtain ⟨cq, kq, qa, qb, qc⟩ := isOf (T := T) hZ eT E
  obtain ⟨v, vm₁, ⟨T', L', k', n'⟩, -, X', ⟨L, hQ, l1, y1, z1⟩, st'⟩ := X.virtualBack hx (y := y) (z := y) hown (mvT hZ w1) (mvT hZ w5) (notFace_of_selects (args := #[]) (mvT hZ w6)) (mvT hZ w6) (mvT hZ w2) hy (backOf (W := W) C hZ w4 w3 hf hl) qa qc (g := mkF m pc Ls (argsL.reverse ++ .ref a :: st)) rfl hsize (Steps.refl _) (argsL := argsL) (rest := st) (lenOf hpd hln) rfl hW hd (fun _ _ => ⟨rfl, eT, hc, hs⟩)
  dsimp only [Pt.U, Pt.locs, Pt.cells, Pt.slots] at X' l1 y1 z1 st' hQ
  subst l1 y1 z1
  exact goS st' (K T' v L X' hQ)
theorem o_callP (X : Stand p l e R s m args below meth c T locs cells slots) (hx : p.tables.exec = Jvm.exec) (hZ : Z.Warmed39 s.vm) {own : String} {index : Nat} {y : MethodName} {bytes : ByteArray} {maxL : Nat} {ret : Option FieldType} {Rm : Room} {Q : Option Value → Heap → List Loc → Prop} {ps : List FieldType} (a : Addr) (argsL : List Value) {as' : Array Value} (C : Ctr l Z y bytes maxL ret [] Rm as' h Q) (hown : s.vm.findClass own = some m.cls) (w1 : (Jvm.Cond.methodLink own index y).before a0 Z = true) {kk : Nat} (w6 : (Jvm.Cond.instantiable y.cls kk).before a0 Z = true) (w7 : (Jvm.Cond.privateMethod y).before a0 Z = true) (w2 : (Jvm.Cond.instanceMethod y).before a0 Z = true) (w3 : (Jvm.Cond.initialized y.cls).before a0 Z = true) (w4 : (Jvm.Cond.code y bytes maxL ret).before a0 Z = true) (hy : y.cls ≠ "java/lang/invoke/MethodHandle" ∧ y.cls ≠ "java/lang/invoke/VarHandle") {Cc : String} (E : Exa Z h a Cc) (hpd : parseMethodDescriptor y.desc = some ⟨ps, ret⟩) (eT : T.heap = h) (hsize : Ls.size = c.maxLocals) {stk : List Value} (has : as' = (.ref a :: argsL).toArray) (hln : argsL.length = ps.length) (hst : stk = argsL.reverse ++ .ref a :: st) (hd : decode c.code pc = .ok (.invokevirtual index, 3)) (hp : pc + 3 = pc') (W : Nat) (hW : 2 * 0 + (st.map fun v => v.category).sum ≤ W) (hf : Rm.frames + 1 ≤ R.frames) (hl : W + (maxL + 11) + Rm.locals ≤ R.locals) (hc : cells + Rm.cells ≤ R.cells) (hs : slots + Rm.slots ≤ R.slots) (K : ∀ T' v L, Stand p l e R s m args below meth c T' (locs ++ L) (cells + Rm.cells) (slots + Rm.slots) → Q v T'.heap L → Dn p e below P (T'.setTop (mkF m pc' Ls (v.toList ++ st)))) : Dn p e below P (T.setTop (mkF m pc Ls stk)) := by
  subst hp has hst
  obtain ⟨cq, q1, q2⟩ := E.cell
  obtain ⟨cc, kc, hcc, hkc, -, hni, -, -⟩ := Jvm.Cond.instantiable_spec (mvT (args := args) hZ w6)
  have hpv := Jvm.Cond.privateMethod_at (mvP hZ w7 (args := #[]))
  have hsel := selects_self_of_private (args := args) hcc hkc (Bool.or_eq_false_iff.mp hni).1 hpv (mvT hZ w2) hy
  obtain ⟨v, vm₁, ⟨T', L', k', n'⟩, -, X', ⟨L, hQ, l1, y1, z1⟩, st'⟩ := X.privateBack hx (y := y) hown (mvT hZ w1) (mvT hZ w2) hsel hpv (mvT hZ w4) hy (backOf (W := W) C hZ w4 w3 hf hl) (g := mkF m pc Ls (argsL.reverse ++ .ref a :: st)) rfl hsize (Steps.refl _) (a := a) (by rw [eT]; exact q1) q2 (argsL := argsL) (rest := st) (lenOf hpd hln) rfl hW hd (fun _ _ => ⟨rfl, eT, hc, hs⟩)
  dsimp only [Pt.U, Pt.locs, Pt.cells, Pt.slots] at X' l1 y1 z1 st' hQ
  subst l1 y1 z1
  exact goS st' (K T' v L X' hQ)
abbrev Pure (v0 : Value) (h0 : Heap) : Option Value → Heap → List Loc → Prop := fun v h L => v = some v0 ∧ L = [] ∧ h = h0
theorem o_callSP (X : Stand p l e R s m args below meth c T locs cells slots) (hx : p.tables.exec = Jvm.exec) (hZ : Z.Warmed39 s.vm) {own : String} {index : Nat} {y : MethodName} {bytes : ByteArray} {maxL : Nat} {ret : Option FieldType} {Rm : Room} {v0 : Value} {ps : List FieldType} (argsL : List Value) {as' : Array Value} (C : Ctr l Z y bytes maxL ret [] Rm as' h (Pure v0 h)) (hown : s.vm.findClass own = some m.cls) (w1 : (Jvm.Cond.methodLink own index y).before a0 Z = true) (w2 : (Jvm.Cond.static y).before a0 Z = true) (w3 : (Jvm.Cond.initialized y.cls).before a0 Z = true) (w4 : (Jvm.Cond.code y bytes maxL ret).before a0 Z = true) (hy : y.cls ≠ "java/lang/invoke/MethodHandle" ∧ y.cls ≠ "java/lang/invoke/VarHandle") (hpd : parseMethodDescriptor y.desc = some ⟨ps, ret⟩) (eT : T.heap = h) (hsize : Ls.size = c.maxLocals) {stk : List Value} (has : as' = argsL.toArray) (hln : argsL.length = ps.length) (hst : stk = argsL.reverse ++ st) (hd : decode c.code pc = .ok (.invokestatic index, 3)) (hp : pc + 3 = pc') (W : Nat) (hW : 2 * 0 + (st.map fun v => v.category).sum ≤ W) (hf : Rm.frames + 1 ≤ R.frames) (hl : W + (maxL + 11) + Rm.locals ≤ R.locals) (hc0 : Rm.cells = 0) (hs0 : Rm.slots = 0) (hc : cells ≤ R.cells) (hs : slots ≤ R.slots) (K : ∀ T', Stand p l e R s m args below meth c T' locs cells slots → T'.heap = h → Dn p e below P (T'.setTop (mkF m pc' Ls (v0 :: st)))) : Dn p e below P (T.setTop (mkF m pc Ls stk)) := by
  refine o_callS X hx hZ argsL C hown w1 w2 w3 w4 hy hpd eT hsize has hln hst hd hp W hW hf hl (by rw [hc0]; exact hc) (by rw [hs0]; exact hs) ?_
  intro T' v L X' hQ
  obtain ⟨rfl, rfl, e'⟩ := hQ
  rw [List.append_nil, hc0, hs0] at X'
  exact K T' X' e'
theorem o_callVP (X : Stand p l e R s m args below meth c T locs cells slots) (hx : p.tables.exec = Jvm.exec) (hZ : Z.Warmed39 s.vm) {own Cc : String} {index : Nat} {y : MethodName} {bytes : ByteArray} {maxL : Nat} {ret : Option FieldType} {Rm : Room} {v0 : Value} {ps : List FieldType} (a : Addr) (argsL : List Value) {as' : Array Value} (C : Ctr l Z y bytes maxL ret [] Rm as' h (Pure v0 h)) (hown : s.vm.findClass own = some m.cls) (w1 : (Jvm.Cond.methodLink own index y).before a0 Z = true) (w5 : (Jvm.Cond.declares y).before a0 Z = true) (w6 : (Jvm.Cond.selects Cc y y).before a0 Z = true) (w2 : (Jvm.Cond.instanceMethod y).before a0 Z = true) (w3 : (Jvm.Cond.initialized y.cls).before a0 Z = true) (w4 : (Jvm.Cond.code y bytes maxL ret).before a0 Z = true) (hy : y.cls ≠ "java/lang/invoke/MethodHandle" ∧ y.cls ≠ "java/lang/invoke/VarHandle") (E : Exa Z h a Cc) (hpd : parseMethodDescriptor y.desc = some ⟨ps, ret⟩) (eT : T.heap = h) (hsize : Ls.size = c.maxLocals) {stk : List Value} (has : as' = (.ref a :: argsL).toArray) (hln : argsL.length = ps.length) (hst : stk = argsL.reverse ++ .ref a :: st) (hd : decode c.code pc = .ok (.invokevirtual index, 3)) (hp : pc + 3 = pc') (W : Nat) (hW : 2 * 0 + (st.map fun v => v.category).sum ≤ W) (hf : Rm.frames + 1 ≤ R.frames) (hl : W + (maxL + 11) + Rm.locals ≤ R.locals) (hc0 : Rm.cells = 0) (hs0 : Rm.slots = 0) (hc : cells ≤ R.cells) (hs : slots ≤ R.slots) (K : ∀ T', Stand p l e R s m args below meth c T' locs cells slots → T'.heap = h → Dn p e below P (T'.setTop (mkF m pc' Ls (v0 :: st)))) : Dn p e below P (T.setTop (mkF m pc Ls stk)) := by
  refine o_callV X hx hZ a argsL C hown w1 w5 w6 w2 w3 w4 hy E hpd eT hsize has hln hst hd hp W hW hf hl (by rw [hc0]; exact hc) (by rw [hs0]; exact hs) ?_
  intro T' v L X' hQ
  obtain ⟨rfl, rfl, e'⟩ := hQ
  rw [List.append_nil, hc0, hs0] at X'
  exact K T' X' e'
theorem o_callPP (X : Stand p l e R s m args below meth c T locs cells slots) (hx : p.tables.exec = Jvm.exec) (hZ : Z.Warmed39 s.vm) {own : String} {index : Nat} {y : MethodName} {bytes : ByteArray} {maxL : Nat} {ret : Option FieldType} {Rm : Room} {v0 : Value} {ps : List FieldType} (a : Addr) (argsL : List Value) {as' : Array Value} (C : Ctr l Z y bytes maxL ret [] Rm as' h (Pure v0 h)) (hown : s.vm.findClass own = some m.cls) (w1 : (Jvm.Cond.methodLink own index y).before a0 Z = true) {kk : Nat} (w6 : (Jvm.Cond.instantiable y.cls kk).before a0 Z = true) (w7 : (Jvm.Cond.privateMethod y).before a0 Z = true) (w2 : (Jvm.Cond.instanceMethod y).before a0 Z = true) (w3 : (Jvm.Cond.initialized y.cls).before a0 Z = true) (w4 : (Jvm.Cond.code y bytes maxL ret).before a0 Z = true) (hy : y.cls ≠ "java/lang/invoke/MethodHandle" ∧ y.cls ≠ "java/lang/invoke/VarHandle") {Cc : String} (E : Exa Z h a Cc) (hpd : parseMethodDescriptor y.desc = some ⟨ps, ret⟩) (eT : T.heap = h) (hsize : Ls.size = c.maxLocals) {stk : List Value} (has : as' = (.ref a :: argsL).toArray) (hln : argsL.length = ps.length) (hst : stk = argsL.reverse ++ .ref a :: st) (hd : decode c.code pc = .ok (.invokevirtual index, 3)) (hp : pc + 3 = pc') (W : Nat) (hW : 2 * 0 + (st.map fun v => v.category).sum ≤ W) (hf : Rm.frames + 1 ≤ R.frames) (hl : W + (maxL + 11) + Rm.locals ≤ R.locals) (hc0 : Rm.cells = 0) (hs0 : Rm.slots = 0) (hc : cells ≤ R.cells) (hs : slots ≤ R.slots) (K : ∀ T', Stand p l e R s m args below meth c T' locs cells slots → T'.heap = h → Dn p e below P (T'.setTop (mkF m pc' Ls (v0 :: st)))) : Dn p e below P (T.setTop (mkF m pc Ls stk)) := by
  refine o_callP X hx hZ a argsL C hown w1 w6 w7 w2 w3 w4 hy E hpd eT hsize has hln hst hd hp W hW hf hl (by rw [hc0]; exact hc) (by rw [hs0]; exact hs) ?_
  intro T' v L X' hQ
  obtain ⟨rfl, rfl, e'⟩ := hQ
  rw [List.append_nil, hc0, hs0] at X'
  exact K T' X' e'
end Own
def own_vals (f : Nat → Int64) : List Value := (List.range 2048).map fun i => Value.long (f i)
theorem own_len (f : Nat → Int64) : (own_vals f).length = 2048 := by simp [own_vals]
theorem own_get (f : Nat → Int64) {i : Nat} (hi : i < 2048) (d : Value) : (own_vals f).getD i d = .long (f i) := by
  simp [own_vals, List.getD, hi]
theorem own_set (f : Nat → Int64) (i : Nat) (x : Int64) : (own_vals f).set i (.long x) = own_vals (fun j => if j = i then x else f j) := by
  apply List.ext_getElem
  · simp [own_vals]
  · intro n h1 h2
    simp only [own_vals, List.getElem_set, List.getElem_map, List.getElem_range]
    by_cases q : i = n
    · subst q; simp
    · have q' : ¬ n = i := fun z => q z.symm
      simp [q, q']
theorem own_zero : ∀ i, (own_vals (fun _ => 0)).getD i (.long 0) = ([] : List Value).getD i (.long 0) := by
  intro i
  by_cases q : i < 2048
  · rw [own_get _ q]; rfl
  · simp [own_vals, List.getD, q]
def hm (id : Int64) : Nat := (id.toInt32 &&& (1023 : Int32)).toInt.toNat
def pr (id : Int64) (t : Nat) : Nat := (hm id + t) % 1024
theorem pr_lt (id : Int64) (t : Nat) : pr id t < 1024 := Nat.mod_lt _ (by decide)
theorem own_ofNat {n : Nat} (h : n < 2147483648) : (Int32.ofNat n).toInt = n := Int32.toInt_ofNat_of_lt h
theorem own_h (id : Int64) : id.toInt32 &&& (1023 : Int32) = Int32.ofNat (pr id 0) := by
  have e := c_mask id.toInt32 1023 10 (by decide) (by decide)
  apply Int32.toInt_inj.mp
  rw [own_ofNat (by have := pr_lt id 0; omega)]
  unfold pr hm
  omega
theorem own_next (id : Int64) (t : Nat) : (Int32.ofNat (pr id t) + (1 : Int32)) &&& (1023 : Int32) = Int32.ofNat (pr id (t + 1)) := by
  have l := pr_lt id t
  have e := c_mask (Int32.ofNat (pr id t) + (1 : Int32)) 1023 10 (by decide) (by decide)
  have a := c_iadd (Int32.ofNat (pr id t)) 1
  have r := rng32 (Int32.ofNat (pr id t) + (1 : Int32))
  have o : (1 : Int32).toInt = 1 := by decide
  rw [own_ofNat (by omega), o] at a
  apply Int32.toInt_inj.mp
  rw [own_ofNat (by have := pr_lt id (t + 1); omega), e]
  unfold pr at *
  omega
theorem own_e {s : Nat} (h : s < 1024) : ((2 : Int32) * Int32.ofNat s).toInt = 2 * s := by
  have a := c_imul 2 (Int32.ofNat s)
  have r := rng32 ((2 : Int32) * Int32.ofNat s)
  have o : (2 : Int32).toInt = 2 := by decide
  rw [own_ofNat (by omega), o] at a
  omega
theorem own_o {s : Nat} (h : s < 1024) : (((2 : Int32) * Int32.ofNat s) + (1 : Int32)).toInt = 2 * s + 1 := by
  have a := c_iadd ((2 : Int32) * Int32.ofNat s) 1
  have r := rng32 (((2 : Int32) * Int32.ofNat s) + (1 : Int32))
  have o : (1 : Int32).toInt = 1 := by decide
  rw [own_e h, o] at a
  omega
theorem own_in {x : Int32} {n : Nat} (h : x.toInt = n) (hn : n < 2048) : (¬ x < 0 ∧ x < 2048) ∧ x.toNatClampNeg = n := by
  have z : (0 : Int32).toInt = 0 := by decide
  have y : (2048 : Int32).toInt = 2048 := by decide
  refine ⟨⟨?_, ?_⟩, ?_⟩
  · rw [Int32.lt_iff_toInt_lt]; omega
  · rw [Int32.lt_iff_toInt_lt]; omega
  · show x.toInt.toNat = n
    omega
theorem own_ei {s : Nat} (h : s < 1024) : (¬ ((2 : Int32) * Int32.ofNat s) < 0 ∧ ((2 : Int32) * Int32.ofNat s) < 2048) ∧ ((2 : Int32) * Int32.ofNat s).toNatClampNeg = 2 * s := own_in (by rw [own_e h]; omega) (by omega)
theorem own_oi {s : Nat} (h : s < 1024) : (¬ (((2 : Int32) * Int32.ofNat s) + (1 : Int32)) < 0 ∧ (((2 : Int32) * Int32.ofNat s) + (1 : Int32)) < 2048) ∧ (((2 : Int32) * Int32.ofNat s) + (1 : Int32)).toNatClampNeg = 2 * s + 1 := own_in (by rw [own_o h]; omega) (by omega)
theorem own_ev (f : Nat → Int64) {s : Nat} (h : s < 1024) (d : Value) : (own_vals f).getD ((2 : Int32) * Int32.ofNat s).toNatClampNeg d = .long (f (2 * s)) := by rw [(own_ei h).2]; exact own_get f (by omega) d
theorem own_ov (f : Nat → Int64) {s : Nat} (h : s < 1024) (d : Value) : (own_vals f).getD (((2 : Int32) * Int32.ofNat s) + (1 : Int32)).toNatClampNeg d = .long (f (2 * s + 1)) := by rw [(own_oi h).2]; exact own_get f (by omega) d
/-- the probe for id stops behind t steps -/
def Stops (f : Nat → Int64) (id : Int64) (t : Nat) : Prop := (∀ j, j < t → f (2 * pr id j + 1) ≠ 0 ∧ f (2 * pr id j) ≠ id) ∧ (f (2 * pr id t + 1) = 0 ∨ f (2 * pr id t) = id)
def upd (f : Nat → Int64) (p : Nat) (id e : Int64) : Nat → Int64 := fun j => if j = 2 * p + 1 then e else if j = 2 * p then id else f j
theorem upd_ne (f : Nat → Int64) {p q : Nat} (id e : Int64) (h : q ≠ p) : upd f p id e (2 * q + 1) = f (2 * q + 1) ∧ upd f p id e (2 * q) = f (2 * q) := by
  unfold upd
  exact ⟨by rw [if_neg (by omega), if_neg (by omega)], by rw [if_neg (by omega), if_neg (by omega)]⟩
theorem upd_eq (f : Nat → Int64) (p : Nat) (id e : Int64) : upd f p id e (2 * p + 1) = e ∧ upd f p id e (2 * p) = id := by
  unfold upd
  exact ⟨by rw [if_pos rfl], by rw [if_neg (by omega), if_pos rfl]⟩
/-- how many of the first n slots end behind now -/
def cnt (f : Nat → Int64) (now : Int64) : Nat → Nat
  | 0 => 0
  | n + 1 => cnt f now n + (if now < f (2 * n + 1) then 1 else 0)
def lc (now : Int64) : List (Int64 × Int64 × Nat) → Nat
  | [] => 0
  | m :: M => lc now M + (if now < m.2.1 then 1 else 0)
theorem cnt_upd (f : Nat → Int64) (now id e : Int64) (p : Nat) (z : f (2 * p + 1) = 0) (h0 : ¬ now < 0) : ∀ n, cnt (upd f p id e) now n = cnt f now n + (if p < n then (if now < e then 1 else 0) else 0) := by
  intro n
  induction n with
  | zero => rfl
  | succ n ih =>
    show cnt (upd f p id e) now n + _ = cnt f now n + _ + _
    rw [ih]
    by_cases q : n = p
    · subst q
      rw [(upd_eq f n id e).1, z, if_neg h0, if_neg (Nat.lt_irrefl n), if_pos (Nat.lt_succ_self n)]
    · rw [(upd_ne f id e q).1]
      by_cases r : p < n
      · rw [if_pos r, if_pos (Nat.lt_succ_of_lt r)]
        exact Nat.add_right_comm _ _ _
      · have r2 : ¬ p < n + 1 := by omega
        rw [if_neg r, if_neg r2]
        rfl
theorem cnt_zero (now : Int64) (h0 : ¬ now < 0) : ∀ n, cnt (fun _ => 0) now n = 0 := by
  intro n
  induction n with
  | zero => rfl
  | succ n ih => show cnt (fun _ => 0) now n + (if now < 0 then 1 else 0) = 0; rw [ih, if_neg h0]
def Inv (f : Nat → Int64) (M : List (Int64 × Int64 × Nat)) : Prop :=
  (∀ m ∈ M, m.2.1 ≠ 0 ∧ f (2 * m.2.2) = m.1 ∧ f (2 * m.2.2 + 1) = m.2.1 ∧ ∃ t, m.2.2 = pr m.1 t ∧ ∀ j, j < t → f (2 * pr m.1 j + 1) ≠ 0 ∧ f (2 * pr m.1 j) ≠ m.1) ∧
  (∀ j, j < 1024 → f (2 * j + 1) ≠ 0 → ∃ m ∈ M, m.2.2 = j) ∧ ∀ now : Int64, ¬ now < 0 → cnt f now 1024 = lc now M
def Has' (M : List (Int64 × Int64 × Nat)) (id : Int64) : Prop := ∃ m ∈ M, m.1 = id
theorem inv_nil : Inv (fun _ => 0) [] := ⟨(fun m h => nomatch h), fun j _ h => absurd rfl h, fun now h => cnt_zero now h 1024⟩
theorem find_in {f : Nat → Int64} {M : List (Int64 × Int64 × Nat)} (I : Inv f M) {id : Int64} (h : Has' M id) : ∃ t, Stops f id t ∧ f (2 * pr id t + 1) ≠ 0 := by
  obtain ⟨m, hm, rfl⟩ := h
  obtain ⟨h1, h2, h3, t, h4, h5⟩ := I.1 m hm
  refine ⟨t, ⟨h5, Or.inr ?_⟩, ?_⟩
  · rw [← h4]; exact h2
  · rw [← h4, h3]; exact h1
theorem own_pig (P : List Nat) (hl : P.length ≤ 3) (a b c d : Nat) (ha : a ∈ P) (hb : b ∈ P) (hc : c ∈ P) (hd : d ∈ P) (n1 : a ≠ b) (n2 : a ≠ c) (n3 : a ≠ d) (n4 : b ≠ c) (n5 : b ≠ d) (n6 : c ≠ d) : False := by
  match P, hl with
  | [], _ => exact absurd ha (by simp)
  | [x], _ => simp at ha hb; omega
  | [x, y], _ => simp at ha hb hc; omega
  | [x, y, z], _ => simp at ha hb hc hd; omega
theorem find_out {f : Nat → Int64} {M : List (Int64 × Int64 × Nat)} (I : Inv f M) {id : Int64} (h : ¬ Has' M id) (hl : M.length ≤ 3) : ∃ t, Stops f id t ∧ f (2 * pr id t + 1) = 0 := by
  have key : ∀ j, f (2 * pr id j + 1) ≠ 0 → f (2 * pr id j) ≠ id := by
    intro j hj q
    obtain ⟨m, hm, hp⟩ := I.2.1 _ (pr_lt id j) hj
    have := (I.1 m hm).2.1
    rw [hp, q] at this
    exact h ⟨m, hm, this.symm⟩
  have mem : ∀ j, f (2 * pr id j + 1) ≠ 0 → pr id j ∈ M.map (fun m => m.2.2) := by
    intro j hj
    obtain ⟨m, hm, hp⟩ := I.2.1 _ (pr_lt id j) hj
    exact List.mem_map.mpr ⟨m, hm, hp⟩
  have dif : ∀ i j, i < j → j < 4 → pr id i ≠ pr id j := by
    intro i j hi hj
    unfold pr
    omega
  by_cases e0 : f (2 * pr id 0 + 1) = 0
  · exact ⟨0, ⟨fun j hj => absurd hj (Nat.not_lt_zero j), Or.inl e0⟩, e0⟩
  by_cases e1 : f (2 * pr id 1 + 1) = 0
  · exact ⟨1, ⟨fun j hj => by obtain rfl : j = 0 := by omega
                              exact ⟨e0, key _ e0⟩, Or.inl e1⟩, e1⟩
  by_cases e2 : f (2 * pr id 2 + 1) = 0
  · refine ⟨2, ⟨fun j hj => ?_, Or.inl e2⟩, e2⟩
    have : j = 0 ∨ j = 1 := by omega
    rcases this with rfl | rfl
    · exact ⟨e0, key _ e0⟩
    · exact ⟨e1, key _ e1⟩
  by_cases e3 : f (2 * pr id 3 + 1) = 0
  · refine ⟨3, ⟨fun j hj => ?_, Or.inl e3⟩, e3⟩
    have : j = 0 ∨ j = 1 ∨ j = 2 := by omega
    rcases this with rfl | rfl | rfl
    · exact ⟨e0, key _ e0⟩
    · exact ⟨e1, key _ e1⟩
    · exact ⟨e2, key _ e2⟩
  exact (own_pig _ (by rw [List.length_map]; exact hl) _ _ _ _ (mem 0 e0) (mem 1 e1) (mem 2 e2) (mem 3 e3) (dif 0 1 (by omega) (by omega)) (dif 0 2 (by omega) (by omega)) (dif 0 3 (by omega) (by omega)) (dif 1 2 (by omega) (by omega)) (dif 1 3 (by omega) (by omega)) (dif 2 3 (by omega) (by omega))).elim
theorem inv_ins {f : Nat → Int64} {M : List (Int64 × Int64 × Nat)} (I : Inv f M) {id e : Int64} (he : e ≠ 0) {t : Nat} (S : Stops f id t) (z : f (2 * pr id t + 1) = 0) : Inv (upd f (pr id t) id e) ((id, e, pr id t) :: M) := by
  have off : ∀ q, f (2 * q + 1) ≠ 0 → q ≠ pr id t := fun q hq w => hq (w ▸ z)
  refine ⟨?_, ?_, ?_⟩
  · intro m hm
    rcases List.mem_cons.mp hm with rfl | hm
    · refine ⟨he, (upd_eq _ _ _ _).2, (upd_eq _ _ _ _).1, t, rfl, fun j hj => ?_⟩
      have q := S.1 j hj
      have w := off _ q.1
      show upd f (pr id t) id e (2 * pr id j + 1) ≠ 0 ∧ upd f (pr id t) id e (2 * pr id j) ≠ id
      rw [(upd_ne f id e w).1, (upd_ne f id e w).2]
      exact q
    · obtain ⟨h1, h2, h3, t', h4, h5⟩ := I.1 m hm
      have w : m.2.2 ≠ pr id t := off _ (by rw [h3]; exact h1)
      refine ⟨h1, by rw [(upd_ne f id e w).2]; exact h2, by rw [(upd_ne f id e w).1]; exact h3, t', h4, fun j hj => ?_⟩
      have q := h5 j hj
      have w' := off _ q.1
      rw [(upd_ne f id e w').1, (upd_ne f id e w').2]
      exact q
  · intro j hj h
    by_cases q : j = pr id t
    · exact ⟨_, List.mem_cons_self, q.symm⟩
    · rw [(upd_ne f id e q).1] at h
      obtain ⟨m, hm, hp⟩ := I.2.1 j hj h
      exact ⟨m, List.mem_cons_of_mem _ hm, hp⟩
  · intro now h0
    rw [cnt_upd f now id e _ z h0 1024, if_pos (pr_lt id t), I.2.2 now h0]
    rfl
theorem own_up (n : Nat) : Int32.ofNat n + (1 : Int32) = Int32.ofNat (n + 1) := by rw [Int32.ofNat_add]; rfl
def Tbl (Z : State) (h : Heap) (n0 : Nat) (a : Addr) (M : List (Int64 × Int64 × Nat)) : Prop :=
  ∃ (b : Addr) (k : ClassId) (f : Nat → Int64) (ee : Int64), n0 ≤ b ∧ a ≠ b ∧ Exa Z h a "com/example/shelfkey/shelfkey/revocation/IdTable" ∧ Fld Z h a "com/example/shelfkey/shelfkey/revocation/IdTable" "slots" "[J" (.ref b) ∧ Fld Z h a "com/example/shelfkey/shelfkey/revocation/IdTable" "size" "I" (.int (Int32.ofNat M.length)) ∧ Fld Z h a "com/example/shelfkey/shelfkey/revocation/IdTable" "earliestEnd" "J" (.long ee) ∧ Arv Z h b k .long 2048 (own_vals f) (.long 0) ∧ Inv f M
theorem d9_0 : decode jdk_29_method_70_code 0 = .ok (.lload_n 0, 1) := by decide +kernel
theorem d9_1 : decode jdk_29_method_70_code 1 = .ok (.lload_n 2, 1) := by decide +kernel
theorem d9_2 : decode jdk_29_method_70_code 2 = .ok (.lcmp, 1) := by decide +kernel
theorem d9_3 : decode jdk_29_method_70_code 3 = .ok (.ifCond .gt 7, 3) := by decide +kernel
theorem d9_6 : decode jdk_29_method_70_code 6 = .ok (.lload_n 0, 1) := by decide +kernel
theorem d9_7 : decode jdk_29_method_70_code 7 = .ok (.goto 4, 3) := by decide +kernel
theorem d9_10 : decode jdk_29_method_70_code 10 = .ok (.lload_n 2, 1) := by decide +kernel
theorem d9_11 : decode jdk_29_method_70_code 11 = .ok (.lreturn, 1) := by decide +kernel
theorem pn_9 : plainFor (⟨"java/lang/Math", "min", "(JJ)J"⟩ : MethodName) = true := by decide +kernel
theorem ef_9 (m : MethodId) (q1 : Int64) (q2 : Int64) : entryFrame m #[(.long q1), (.long q2)] 4 = mkF m 0 #[.val (.long q1), .second, .val (.long q2), .second] [] := by first | (simp [entryFrame, mkF, argsToLocals, Value.category]; done) | rfl
def F9 (q1 : Int64) (q2 : Int64) : Int64 := 
  if q2 < q1 then q2
  else q1
set_option maxRecDepth 65536 in
set_option maxHeartbeats 40000000 in
theorem rm9 (l : Launch) (Z : State) (a0 : Array Value) (hw : ∀ d ∈ tables_1, d.before a0 Z = true) (h0 : Heap) (q1 : Int64) (q2 : Int64) : Ctr l Z (⟨"java/lang/Math", "min", "(JJ)J"⟩ : MethodName) jdk_29_method_70_code 4 (some .long) [] ({ frames := 0, cells := 0, slots := 0, locals := 0 } : Room) #[(.long q1), (.long q2)] h0 (Pure (.long (F9 q1 q2)) h0) := by
  refine ctr_mk pn_9 (own := "java/lang/Math") (mn := "min") rfl rfl ?_
  intro p e s m below meth c T0 X0 hx hby hml hZ hown hnm hret hlk e0
  refine o_entry (ef_9 m q1 q2) ?_
  refine o_lloadN X0 hx (pc' := 1) (hb hby d9_0) rfl rfl ?_
  refine o_lloadN X0 hx (pc' := 2) (hb hby d9_1) rfl rfl ?_
  refine o_lcmp X0 hx (pc' := 3) (hb hby d9_2) rfl ?_
  refine o_lif_gt X0 hx (pc' := 6) (pt := 10) (hb hby d9_3) rfl (by decide) (by decide) (fun hc3 => ?_) (fun hc3 => ?_)
  · skip
    refine o_lloadN X0 hx (pc' := 11) (hb hby d9_10) rfl rfl ?_
    exact finJ X0 hx hlk hret (hb hby d9_11) (by decide) (by decide) ⟨by show some (Value.long _) = some (Value.long (F9 q1 q2)); unfold F9; rw [if_pos hc3], rfl, e0⟩
  · skip
    refine o_lloadN X0 hx (pc' := 7) (hb hby d9_6) rfl rfl ?_
    refine o_goto X0 hx (pc' := 11) (hb hby d9_7) (by decide) (by decide) ?_
    exact finJ X0 hx hlk hret (hb hby d9_11) (by decide) (by decide) ⟨by show some (Value.long _) = some (Value.long (F9 q1 q2)); unfold F9; rw [if_neg hc3], rfl, e0⟩
theorem d7_0 : decode prog_69_method_15_code 0 = .ok (.aload_n 0, 1) := by decide +kernel
theorem d7_1 : decode prog_69_method_15_code 1 = .ok (.arraylength, 1) := by decide +kernel
theorem d7_2 : decode prog_69_method_15_code 2 = .ok (.iconst 2, 1) := by decide +kernel
theorem d7_3 : decode prog_69_method_15_code 3 = .ok (.idiv, 1) := by decide +kernel
theorem d7_4 : decode prog_69_method_15_code 4 = .ok (.iconst 1, 1) := by decide +kernel
theorem d7_5 : decode prog_69_method_15_code 5 = .ok (.isub, 1) := by decide +kernel
theorem d7_6 : decode prog_69_method_15_code 6 = .ok (.istore_n 3, 1) := by decide +kernel
theorem d7_7 : decode prog_69_method_15_code 7 = .ok (.lload_n 1, 1) := by decide +kernel
theorem d7_8 : decode prog_69_method_15_code 8 = .ok (.l2i, 1) := by decide +kernel
theorem d7_9 : decode prog_69_method_15_code 9 = .ok (.iload_n 3, 1) := by decide +kernel
theorem d7_10 : decode prog_69_method_15_code 10 = .ok (.iand, 1) := by decide +kernel
theorem d7_11 : decode prog_69_method_15_code 11 = .ok (.istore 4, 2) := by decide +kernel
theorem d7_13 : decode prog_69_method_15_code 13 = .ok (.aload_n 0, 1) := by decide +kernel
theorem d7_14 : decode prog_69_method_15_code 14 = .ok (.iconst 2, 1) := by decide +kernel
theorem d7_15 : decode prog_69_method_15_code 15 = .ok (.iload 4, 2) := by decide +kernel
theorem d7_17 : decode prog_69_method_15_code 17 = .ok (.imul, 1) := by decide +kernel
theorem d7_18 : decode prog_69_method_15_code 18 = .ok (.iconst 1, 1) := by decide +kernel
theorem d7_19 : decode prog_69_method_15_code 19 = .ok (.iadd, 1) := by decide +kernel
theorem d7_20 : decode prog_69_method_15_code 20 = .ok (.laload, 1) := by decide +kernel
theorem d7_21 : decode prog_69_method_15_code 21 = .ok (.lconst 0, 1) := by decide +kernel
theorem d7_22 : decode prog_69_method_15_code 22 = .ok (.lcmp, 1) := by decide +kernel
theorem d7_23 : decode prog_69_method_15_code 23 = .ok (.ifCond .eq 25, 3) := by decide +kernel
theorem d7_26 : decode prog_69_method_15_code 26 = .ok (.aload_n 0, 1) := by decide +kernel
theorem d7_27 : decode prog_69_method_15_code 27 = .ok (.iconst 2, 1) := by decide +kernel
theorem d7_28 : decode prog_69_method_15_code 28 = .ok (.iload 4, 2) := by decide +kernel
theorem d7_30 : decode prog_69_method_15_code 30 = .ok (.imul, 1) := by decide +kernel
theorem d7_31 : decode prog_69_method_15_code 31 = .ok (.laload, 1) := by decide +kernel
theorem d7_32 : decode prog_69_method_15_code 32 = .ok (.lload_n 1, 1) := by decide +kernel
theorem d7_33 : decode prog_69_method_15_code 33 = .ok (.lcmp, 1) := by decide +kernel
theorem d7_34 : decode prog_69_method_15_code 34 = .ok (.ifCond .eq 14, 3) := by decide +kernel
theorem d7_37 : decode prog_69_method_15_code 37 = .ok (.iload 4, 2) := by decide +kernel
theorem d7_39 : decode prog_69_method_15_code 39 = .ok (.iconst 1, 1) := by decide +kernel
theorem d7_40 : decode prog_69_method_15_code 40 = .ok (.iadd, 1) := by decide +kernel
theorem d7_41 : decode prog_69_method_15_code 41 = .ok (.iload_n 3, 1) := by decide +kernel
theorem d7_42 : decode prog_69_method_15_code 42 = .ok (.iand, 1) := by decide +kernel
theorem d7_43 : decode prog_69_method_15_code 43 = .ok (.istore 4, 2) := by decide +kernel
theorem d7_45 : decode prog_69_method_15_code 45 = .ok (.goto (-32), 3) := by decide +kernel
theorem d7_48 : decode prog_69_method_15_code 48 = .ok (.iconst 2, 1) := by decide +kernel
theorem d7_49 : decode prog_69_method_15_code 49 = .ok (.iload 4, 2) := by decide +kernel
theorem d7_51 : decode prog_69_method_15_code 51 = .ok (.imul, 1) := by decide +kernel
theorem d7_52 : decode prog_69_method_15_code 52 = .ok (.ireturn, 1) := by decide +kernel
theorem pn_7 : plainFor (⟨"com/example/shelfkey/shelfkey/revocation/IdTable", "find", "([JJ)I"⟩ : MethodName) = true := plainFor_of_name (by show plainName "com/example/shelfkey/shelfkey/revocation/IdTable" = true; first | (simp [plainName, overriddenIn]; done) | decide +kernel)
theorem ef_7 (m : MethodId) (a1 : Addr) (q2 : Int64) : entryFrame m #[(.ref a1), (.long q2)] 5 = mkF m 0 #[.val (.ref a1), .val (.long q2), .second, .unset, .unset] [] := by first | (simp [entryFrame, mkF, argsToLocals, Value.category]; done) | rfl
set_option maxRecDepth 65536 in
set_option maxHeartbeats 40000000 in
theorem rm7 (l : Launch) (Z : State) (a0 : Array Value) (hw : ∀ d ∈ tables_1, d.before a0 Z = true) (h0 : Heap) (n0 : Nat) (Z0 : n0 ≤ h0.size) (a1 : Addr) (q2 : Int64) (k : ClassId) (f : Nat → Int64) (t : Nat) (hV : Arv Z h0 a1 k .long 2048 (own_vals f) (.long 0)) (hs : Stops f q2 t) : Ctr l Z (⟨"com/example/shelfkey/shelfkey/revocation/IdTable", "find", "([JJ)I"⟩ : MethodName) prog_69_method_15_code 5 (some .int) [] ({ frames := 0, cells := 0, slots := 0, locals := 0 } : Room) #[(.ref a1), (.long q2)] h0 (Pure (.int ((2 : Int32) * (Int32.ofNat (pr q2 t)))) h0) := by
  refine ctr_mk pn_7 (own := "com/example/shelfkey/shelfkey/revocation/IdTable") (mn := "find") rfl rfl ?_
  intro p e s m below meth c T0 X0 hx hby hml hZ hown hnm hret hlk e0
  refine o_entry (ef_7 m a1 q2) ?_
  refine o_aloadN X0 hx (pc' := 1) (hb hby d7_0) rfl rfl rfl ?_
  refine o_arraylength X0 hx hZ e0 hV (hb hby d7_1) (pc' := 2) rfl ?_
  refine o_iconst X0 hx (pc' := 3) (v := (2 : Int32)) (hb hby d7_2) rfl rfl ?_
  refine o_idiv X0 hx (pc' := 4) (hb hby d7_3) rfl (by decide) ?_
  rw [show ((2048 : Int32) / (2 : Int32)) = (1024 : Int32) from by decide +kernel]
  refine o_iconst X0 hx (pc' := 5) (v := (1 : Int32)) (hb hby d7_4) rfl rfl ?_
  refine o_isub X0 hx (pc' := 6) (hb hby d7_5) rfl ?_
  rw [show ((1024 : Int32) - (1 : Int32)) = (1023 : Int32) from by decide +kernel]
  refine o_istoreN X0 hx (pc' := 7) (Ls' := #[.val (.ref a1), .val (.long q2), .second, .val (.int (1023 : Int32)), .unset]) (hb hby d7_6) rfl rfl ?_
  refine o_lloadN X0 hx (pc' := 8) (hb hby d7_7) rfl rfl ?_
  refine o_l2i X0 hx (pc' := 9) (hb hby d7_8) rfl ?_
  refine o_iloadN X0 hx (pc' := 10) (hb hby d7_9) rfl rfl ?_
  refine o_iand X0 hx (pc' := 11) (hb hby d7_10) rfl ?_
  refine o_istore X0 hx (pc' := 13) (Ls' := #[.val (.ref a1), .val (.long q2), .second, .val (.int (1023 : Int32)), .val (.int ((q2.toInt32) &&& (1023 : Int32)))]) (hb hby d7_11) rfl rfl ?_
  rw [own_h q2]
  show Dn p e below _ (T0.setTop (mkF m 13 #[.val (.ref a1), .val (.long q2), .second, .val (.int (1023 : Int32)), .val (.int (Int32.ofNat (pr q2 0)))] []))
  have loop : ∀ r j, j + r = t → Dn p e below (PQ below s (Pure (.int ((2 : Int32) * (Int32.ofNat (pr q2 t)))) h0) 0 0) (T0.setTop (mkF m 13 #[.val (.ref a1), .val (.long q2), .second, .val (.int (1023 : Int32)), .val (.int (Int32.ofNat (pr q2 j)))] [])) := by
    intro r
    induction r with
    | zero =>
      intro j hj
      obtain rfl : j = t := hj
      have hl := pr_lt q2 j
      refine o_aloadN X0 hx (pc' := 14) (hb hby d7_13) rfl rfl rfl ?_
      refine o_iconst X0 hx (pc' := 15) (v := (2 : Int32)) (hb hby d7_14) rfl rfl ?_
      refine o_iload X0 hx (pc' := 17) (hb hby d7_15) rfl rfl ?_
      refine o_imul X0 hx (pc' := 18) (hb hby d7_17) rfl ?_
      refine o_iconst X0 hx (pc' := 19) (v := (1 : Int32)) (hb hby d7_18) rfl rfl ?_
      refine o_iadd X0 hx (pc' := 20) (hb hby d7_19) rfl ?_
      refine o_laload X0 hx hZ e0 hV (own_oi hl).1 (v := (.long (f (2 * pr q2 j + 1)))) (own_ov f hl _) (hb hby d7_20) (pc' := 21) rfl ?_
      refine o_lconst X0 hx (pc' := 22) (v := (0 : Int64)) (hb hby d7_21) rfl rfl ?_
      refine o_lcmp X0 hx (pc' := 23) (hb hby d7_22) rfl ?_
      refine o_lif_eq X0 hx (pc' := 26) (pt := 48) (hb hby d7_23) rfl (by decide) (by decide) (fun hc23 => ?_) (fun hc23 => ?_)
      · skip
        refine o_iconst X0 hx (pc' := 49) (v := (2 : Int32)) (hb hby d7_48) rfl rfl ?_
        refine o_iload X0 hx (pc' := 51) (hb hby d7_49) rfl rfl ?_
        refine o_imul X0 hx (pc' := 52) (hb hby d7_51) rfl ?_
        exact finI X0 hx hlk hret (hb hby d7_52) (by decide) (by decide) ⟨rfl, rfl, e0⟩
      · skip
        refine o_aloadN X0 hx (pc' := 27) (hb hby d7_26) rfl rfl rfl ?_
        refine o_iconst X0 hx (pc' := 28) (v := (2 : Int32)) (hb hby d7_27) rfl rfl ?_
        refine o_iload X0 hx (pc' := 30) (hb hby d7_28) rfl rfl ?_
        refine o_imul X0 hx (pc' := 31) (hb hby d7_30) rfl ?_
        refine o_laload X0 hx hZ e0 hV (own_ei hl).1 (v := (.long (f (2 * pr q2 j)))) (own_ev f hl _) (hb hby d7_31) (pc' := 32) rfl ?_
        refine o_lloadN X0 hx (pc' := 33) (hb hby d7_32) rfl rfl ?_
        refine o_lcmp X0 hx (pc' := 34) (hb hby d7_33) rfl ?_
        refine o_lif_eq X0 hx (pc' := 37) (pt := 48) (hb hby d7_34) rfl (by decide) (by decide) (fun _ => ?_) (fun q => absurd (hs.2.resolve_left hc23) q)
        refine o_iconst X0 hx (pc' := 49) (v := (2 : Int32)) (hb hby d7_48) rfl rfl ?_
        refine o_iload X0 hx (pc' := 51) (hb hby d7_49) rfl rfl ?_
        refine o_imul X0 hx (pc' := 52) (hb hby d7_51) rfl ?_
        exact finI X0 hx hlk hret (hb hby d7_52) (by decide) (by decide) ⟨rfl, rfl, e0⟩
    | succ r ih =>
      intro j hj
      have hq := hs.1 j (by omega)
      have hl := pr_lt q2 j
      refine o_aloadN X0 hx (pc' := 14) (hb hby d7_13) rfl rfl rfl ?_
      refine o_iconst X0 hx (pc' := 15) (v := (2 : Int32)) (hb hby d7_14) rfl rfl ?_
      refine o_iload X0 hx (pc' := 17) (hb hby d7_15) rfl rfl ?_
      refine o_imul X0 hx (pc' := 18) (hb hby d7_17) rfl ?_
      refine o_iconst X0 hx (pc' := 19) (v := (1 : Int32)) (hb hby d7_18) rfl rfl ?_
      refine o_iadd X0 hx (pc' := 20) (hb hby d7_19) rfl ?_
      refine o_laload X0 hx hZ e0 hV (own_oi hl).1 (v := (.long (f (2 * pr q2 j + 1)))) (own_ov f hl _) (hb hby d7_20) (pc' := 21) rfl ?_
      refine o_lconst X0 hx (pc' := 22) (v := (0 : Int64)) (hb hby d7_21) rfl rfl ?_
      refine o_lcmp X0 hx (pc' := 23) (hb hby d7_22) rfl ?_
      refine o_lif_eq X0 hx (pc' := 26) (pt := 48) (hb hby d7_23) rfl (by decide) (by decide) (fun q => absurd q hq.1) (fun _ => ?_)
      refine o_aloadN X0 hx (pc' := 27) (hb hby d7_26) rfl rfl rfl ?_
      refine o_iconst X0 hx (pc' := 28) (v := (2 : Int32)) (hb hby d7_27) rfl rfl ?_
      refine o_iload X0 hx (pc' := 30) (hb hby d7_28) rfl rfl ?_
      refine o_imul X0 hx (pc' := 31) (hb hby d7_30) rfl ?_
      refine o_laload X0 hx hZ e0 hV (own_ei hl).1 (v := (.long (f (2 * pr q2 j)))) (own_ev f hl _) (hb hby d7_31) (pc' := 32) rfl ?_
      refine o_lloadN X0 hx (pc' := 33) (hb hby d7_32) rfl rfl ?_
      refine o_lcmp X0 hx (pc' := 34) (hb hby d7_33) rfl ?_
      refine o_lif_eq X0 hx (pc' := 37) (pt := 48) (hb hby d7_34) rfl (by decide) (by decide) (fun q => absurd q hq.2) (fun _ => ?_)
      refine o_iload X0 hx (pc' := 39) (hb hby d7_37) rfl rfl ?_
      refine o_iconst X0 hx (pc' := 40) (v := (1 : Int32)) (hb hby d7_39) rfl rfl ?_
      refine o_iadd X0 hx (pc' := 41) (hb hby d7_40) rfl ?_
      refine o_iloadN X0 hx (pc' := 42) (hb hby d7_41) rfl rfl ?_
      refine o_iand X0 hx (pc' := 43) (hb hby d7_42) rfl ?_
      refine o_istore X0 hx (pc' := 45) (Ls' := #[.val (.ref a1), .val (.long q2), .second, .val (.int (1023 : Int32)), .val (.int (((Int32.ofNat (pr q2 j)) + (1 : Int32)) &&& (1023 : Int32)))]) (hb hby d7_43) rfl rfl ?_
      refine o_goto X0 hx (pc' := 13) (hb hby d7_45) (by decide) (by decide) ?_
      rw [own_next q2 j]
      exact ih (j + 1) (by omega)
  exact loop t 0 (Nat.zero_add t)
theorem d8_0 : decode prog_69_method_9_code 0 = .ok (.ldc2_w 55, 3) := by decide +kernel
theorem d8_3 : decode prog_69_method_9_code 3 = .ok (.aload_n 0, 1) := by decide +kernel
theorem d8_4 : decode prog_69_method_9_code 4 = .ok (.getfield 42, 3) := by decide +kernel
theorem d8_7 : decode prog_69_method_9_code 7 = .ok (.iconst 1, 1) := by decide +kernel
theorem d8_8 : decode prog_69_method_9_code 8 = .ok (.iadd, 1) := by decide +kernel
theorem d8_9 : decode prog_69_method_9_code 9 = .ok (.i2l, 1) := by decide +kernel
theorem d8_10 : decode prog_69_method_9_code 10 = .ok (.lmul, 1) := by decide +kernel
theorem d8_11 : decode prog_69_method_9_code 11 = .ok (.ldc2_w 22, 3) := by decide +kernel
theorem d8_14 : decode prog_69_method_9_code 14 = .ok (.aload_n 0, 1) := by decide +kernel
theorem d8_15 : decode prog_69_method_9_code 15 = .ok (.getfield 11, 3) := by decide +kernel
theorem d8_18 : decode prog_69_method_9_code 18 = .ok (.arraylength, 1) := by decide +kernel
theorem d8_19 : decode prog_69_method_9_code 19 = .ok (.iconst 2, 1) := by decide +kernel
theorem d8_20 : decode prog_69_method_9_code 20 = .ok (.idiv, 1) := by decide +kernel
theorem d8_21 : decode prog_69_method_9_code 21 = .ok (.i2l, 1) := by decide +kernel
theorem d8_22 : decode prog_69_method_9_code 22 = .ok (.lmul, 1) := by decide +kernel
theorem d8_23 : decode prog_69_method_9_code 23 = .ok (.lcmp, 1) := by decide +kernel
theorem d8_24 : decode prog_69_method_9_code 24 = .ok (.ifCond .le 7, 3) := by decide +kernel
theorem d8_31 : decode prog_69_method_9_code 31 = .ok (.iconst 0, 1) := by decide +kernel
theorem d8_32 : decode prog_69_method_9_code 32 = .ok (.ireturn, 1) := by decide +kernel
theorem pn_8 : plainFor (⟨"com/example/shelfkey/shelfkey/revocation/IdTable", "crowded", "()Z"⟩ : MethodName) = true := plainFor_of_name (by show plainName "com/example/shelfkey/shelfkey/revocation/IdTable" = true; first | (simp [plainName, overriddenIn]; done) | decide +kernel)
theorem ef_8 (m : MethodId) (a1 : Addr) : entryFrame m #[(.ref a1)] 1 = mkF m 0 #[.val (.ref a1)] [] := by first | (simp [entryFrame, mkF, argsToLocals, Value.category]; done) | rfl
set_option maxRecDepth 65536 in
set_option maxHeartbeats 40000000 in
theorem rm8 (l : Launch) (Z : State) (a0 : Array Value) (hw : ∀ d ∈ tables_1, d.before a0 Z = true) (h0 : Heap) (n0 : Nat) (Z0 : n0 ≤ h0.size) (a1 : Addr) (b : Addr) (sz : Int32) (k : ClassId) (vs : List Value) (hZz : Fld Z h0 a1 "com/example/shelfkey/shelfkey/revocation/IdTable" "size" "I" (.int sz)) (hS : Fld Z h0 a1 "com/example/shelfkey/shelfkey/revocation/IdTable" "slots" "[J" (.ref b)) (hV : Arv Z h0 b k .long 2048 vs (.long 0)) (hsz : sz = 0 ∨ sz = 1 ∨ sz = 2) : Ctr l Z (⟨"com/example/shelfkey/shelfkey/revocation/IdTable", "crowded", "()Z"⟩ : MethodName) prog_69_method_9_code 1 (some .boolean) [] ({ frames := 0, cells := 0, slots := 0, locals := 0 } : Room) #[(.ref a1)] h0 (Pure (.int 0) h0) := by
  refine ctr_mk pn_8 (own := "com/example/shelfkey/shelfkey/revocation/IdTable") (mn := "crowded") rfl rfl ?_
  intro p e s m below meth c T0 X0 hx hby hml hZ hown hnm hret hlk e0
  refine o_entry (ef_8 m a1) ?_
  refine o_ldc2 X0 hx hZ hown (hw _ (List.mem_of_getElem? (i := 48) rfl)) (pc' := 3) (hb hby d8_0) rfl ?_
  refine o_aloadN X0 hx (pc' := 4) (hb hby d8_3) rfl rfl rfl ?_
  refine o_getfield X0 hx hZ hown (hw _ (List.mem_of_getElem? (i := 49) rfl)) e0 hZz (hb hby d8_4) (pc' := 7) rfl ?_
  intro T1 X1 e1
  refine o_iconst X1 hx (pc' := 8) (v := (1 : Int32)) (hb hby d8_7) rfl rfl ?_
  refine o_iadd X1 hx (pc' := 9) (hb hby d8_8) rfl ?_
  refine o_i2l X1 hx (pc' := 10) (hb hby d8_9) rfl ?_
  refine o_lmul X1 hx (pc' := 11) (hb hby d8_10) rfl ?_
  refine o_ldc2 X1 hx hZ hown (hw _ (List.mem_of_getElem? (i := 25) rfl)) (pc' := 14) (hb hby d8_11) rfl ?_
  refine o_aloadN X1 hx (pc' := 15) (hb hby d8_14) rfl rfl rfl ?_
  refine o_getfield X1 hx hZ hown (hw _ (List.mem_of_getElem? (i := 19) rfl)) e1 hS (hb hby d8_15) (pc' := 18) rfl ?_
  intro T2 X2 e2
  refine o_arraylength X2 hx hZ e2 hV (hb hby d8_18) (pc' := 19) rfl ?_
  refine o_iconst X2 hx (pc' := 20) (v := (2 : Int32)) (hb hby d8_19) rfl rfl ?_
  refine o_idiv X2 hx (pc' := 21) (hb hby d8_20) rfl (by decide) ?_
  rw [show ((2048 : Int32) / (2 : Int32)) = (1024 : Int32) from by decide +kernel]
  refine o_i2l X2 hx (pc' := 22) (hb hby d8_21) rfl ?_
  rw [show ((1024 : Int32).toInt64) = (1024 : Int64) from by decide +kernel]
  refine o_lmul X2 hx (pc' := 23) (hb hby d8_22) rfl ?_
  rw [show ((3 : Int64) * (1024 : Int64)) = (3072 : Int64) from by decide +kernel]
  refine o_lcmp X2 hx (pc' := 24) (hb hby d8_23) rfl ?_
  refine o_lif_le X2 hx (pc' := 27) (pt := 31) (hb hby d8_24) rfl (by decide) (by decide) (fun _ => ?_) (fun q => absurd q (by rcases hsz with rfl | rfl | rfl <;> decide))
  refine o_iconst X2 hx (pc' := 32) (v := (0 : Int32)) (hb hby d8_31) rfl rfl ?_
  exact finN X2 hx hlk (t := .boolean) hret (by simp) (hb hby d8_32) (by decide) (by decide) ⟨rfl, rfl, e2⟩
theorem d3_0 : decode prog_69_method_1_code 0 = .ok (.aload_n 0, 1) := by decide +kernel
theorem d3_1 : decode prog_69_method_1_code 1 = .ok (.invokespecial 3, 3) := by decide +kernel
theorem d3_4 : decode prog_69_method_1_code 4 = .ok (.aload_n 0, 1) := by decide +kernel
theorem d3_5 : decode prog_69_method_1_code 5 = .ok (.sipush 2048, 3) := by decide +kernel
theorem d3_8 : decode prog_69_method_1_code 8 = .ok (.newarray .long, 2) := by decide +kernel
theorem d3_10 : decode prog_69_method_1_code 10 = .ok (.putfield 11, 3) := by decide +kernel
theorem d3_13 : decode prog_69_method_1_code 13 = .ok (.aload_n 0, 1) := by decide +kernel
theorem d3_14 : decode prog_69_method_1_code 14 = .ok (.ldc2_w 15, 3) := by decide +kernel
theorem d3_17 : decode prog_69_method_1_code 17 = .ok (.putfield 17, 3) := by decide +kernel
theorem d3_20 : decode prog_69_method_1_code 20 = .ok (.sipush 1024, 3) := by decide +kernel
theorem d3_23 : decode prog_69_method_1_code 23 = .ok (.istore_n 3, 1) := by decide +kernel
theorem d3_24 : decode prog_69_method_1_code 24 = .ok (.iload_n 3, 1) := by decide +kernel
theorem d3_25 : decode prog_69_method_1_code 25 = .ok (.ldc 21, 2) := by decide +kernel
theorem d3_27 : decode prog_69_method_1_code 27 = .ok (.if_icmp .ge 25, 3) := by decide +kernel
theorem d3_30 : decode prog_69_method_1_code 30 = .ok (.ldc2_w 22, 3) := by decide +kernel
theorem d3_33 : decode prog_69_method_1_code 33 = .ok (.iload_n 3, 1) := by decide +kernel
theorem d3_34 : decode prog_69_method_1_code 34 = .ok (.i2l, 1) := by decide +kernel
theorem d3_35 : decode prog_69_method_1_code 35 = .ok (.lmul, 1) := by decide +kernel
theorem d3_36 : decode prog_69_method_1_code 36 = .ok (.ldc2_w 24, 3) := by decide +kernel
theorem d3_39 : decode prog_69_method_1_code 39 = .ok (.lmul, 1) := by decide +kernel
theorem d3_40 : decode prog_69_method_1_code 40 = .ok (.lload_n 1, 1) := by decide +kernel
theorem d3_41 : decode prog_69_method_1_code 41 = .ok (.lcmp, 1) := by decide +kernel
theorem d3_42 : decode prog_69_method_1_code 42 = .ok (.ifCond .gt 10, 3) := by decide +kernel
theorem d3_52 : decode prog_69_method_1_code 52 = .ok (.aload_n 0, 1) := by decide +kernel
theorem d3_53 : decode prog_69_method_1_code 53 = .ok (.iload_n 3, 1) := by decide +kernel
theorem d3_54 : decode prog_69_method_1_code 54 = .ok (.putfield 26, 3) := by decide +kernel
theorem d3_57 : decode prog_69_method_1_code 57 = .ok (.return_, 1) := by decide +kernel
theorem pn_3 : plainFor (⟨"com/example/shelfkey/shelfkey/revocation/IdTable", "<init>", "(J)V"⟩ : MethodName) = true := plainFor_of_name (by show plainName "com/example/shelfkey/shelfkey/revocation/IdTable" = true; first | (simp [plainName, overriddenIn]; done) | decide +kernel)
theorem ef_3 (m : MethodId) (a1 : Addr) : entryFrame m #[(.ref a1), (.long (0 : Int64))] 4 = mkF m 0 #[.val (.ref a1), .val (.long (0 : Int64)), .second, .unset] [] := by first | (simp [entryFrame, mkF, argsToLocals, Value.category]; done) | rfl
set_option maxRecDepth 65536 in
set_option maxHeartbeats 40000000 in
theorem rm3 (l : Launch) (Z : State) (a0 : Array Value) (hw : ∀ d ∈ tables_1, d.before a0 Z = true) (h0 : Heap) (n0 : Nat) (Z0 : n0 ≤ h0.size) (a1 : Addr) (hE : Exa Z h0 a1 "com/example/shelfkey/shelfkey/revocation/IdTable") (hS : Fld Z h0 a1 "com/example/shelfkey/shelfkey/revocation/IdTable" "slots" "[J" .null) (hZz : Fld Z h0 a1 "com/example/shelfkey/shelfkey/revocation/IdTable" "size" "I" (.int 0)) (hEe : Fld Z h0 a1 "com/example/shelfkey/shelfkey/revocation/IdTable" "earliestEnd" "J" (.long 0)) (hM : Fld Z h0 a1 "com/example/shelfkey/shelfkey/revocation/IdTable" "mostSlots" "I" (.int 0)) (ga : n0 ≤ a1) : Ctr l Z (⟨"com/example/shelfkey/shelfkey/revocation/IdTable", "<init>", "(J)V"⟩ : MethodName) prog_69_method_1_code 4 none [] ({ frames := 1, cells := 1, slots := 2048, locals := 12 } : Room) #[(.ref a1), (.long (0 : Int64))] h0 (fun v h L => v = none ∧ Fr n0 L ∧ h0.size ≤ h.size ∧ Tbl Z h n0 a1 []) := by
  refine ctr_mk pn_3 (own := "com/example/shelfkey/shelfkey/revocation/IdTable") (mn := "<init>") rfl rfl ?_
  intro p e s m below meth c T0 X0 hx hby hml hZ hown hnm hret hlk e0
  refine o_entry (ef_3 m a1) ?_
  have g_a1 := ga
  have NN := Fr.nil n0
  have ZZ := Z0
  have KK := Keep.refl h0 [a1]
  refine o_aloadN X0 hx (pc' := 1) (hb hby d3_0) rfl rfl rfl ?_
  refine o_initO X0 hx hZ hown (hw _ (List.mem_of_getElem? (i := 15) rfl)) (hw _ (List.mem_of_getElem? (i := 16) rfl)) (hw _ (List.mem_of_getElem? (i := 17) rfl)) e0 (by rw [hml]; rfl) (hb hby d3_1) (pc' := 4) rfl (by decide) (W := 0) (Nat.le_of_eq rfl) (by decide) ?_
  intro T1 X1 e1
  refine o_aloadN X1 hx (pc' := 5) (hb hby d3_4) rfl rfl rfl ?_
  refine o_sipush X1 hx (pc' := 8) (v := (2048 : Int32)) (hb hby d3_5) rfl rfl ?_
  refine o_newarray X1 hx hZ e1 (hw _ (List.mem_of_getElem? (i := 18) rfl)) (hb hby d3_8) (pc' := 10) rfl (by decide) 2048 (by decide) (by decide) (by decide) (by decide) ?_
  intro T2 h2 b2 k2 g2 X2 e2 E2 V2
  have lt_a1_b2 : a1 < b2 := Nat.lt_of_lt_of_le hE.lt (Nat.le_of_eq g2.symm)
  have ne_a1_b2 : a1 ≠ b2 := Nat.ne_of_lt lt_a1_b2
  have g_b2 : n0 ≤ b2 := Nat.le_trans ZZ (Nat.le_of_eq g2.symm)
  have sz_b2 : h0.size ≤ b2 := Nat.le_trans KK.1 (Nat.le_of_eq g2.symm)
  have KK := KK.ext E2
  have ZZ := Nat.le_trans ZZ E2.1
  have hE := hE.ext E2
  have hS := hS.ext E2
  have hZz := hZz.ext E2
  have hEe := hEe.ext E2
  have hM := hM.ext E2
  have hV := V2
  have hV : Arv Z h2 b2 k2 .long 2048 (own_vals (fun _ => 0)) (.long 0) := hV.pad own_zero
  refine o_putfield X2 hx hZ hown (hw _ (List.mem_of_getElem? (i := 19) rfl)) e2 hS hE (Or.inl (hw _ (List.mem_of_getElem? (i := 20) rfl))) (hw _ (List.mem_of_getElem? (i := 10) rfl)) (ty := (.array .long)) (v' := (.ref b2)) (by decide) rfl rfl (hb hby d3_10) (pc' := 13) rfl ?_
  intro T3 h3 X3 e3 W3 F3 E3
  have NN := Fr.snoc X3 NN g_a1
  have KK := KK.wr W3 (Or.inl (List.mem_of_getElem? (i := 0) rfl))
  have ZZ := Nat.le_trans ZZ (Keep.of_wr W3).1
  have hZz := hZz.other W3 (Or.inr (slot_ne (Or.inl (hw _ (List.mem_of_getElem? (i := 50) rfl))) (Or.inl (hw _ (List.mem_of_getElem? (i := 20) rfl))) (by decide) (t := .int) (t' := (.array .long)) (by decide) (by decide)))
  have hEe := hEe.other W3 (Or.inr (slot_ne (Or.inl (hw _ (List.mem_of_getElem? (i := 23) rfl))) (Or.inl (hw _ (List.mem_of_getElem? (i := 20) rfl))) (by decide) (t := .long) (t' := (.array .long)) (by decide) (by decide)))
  have hM := hM.other W3 (Or.inr (slot_ne (Or.inr (hw _ (List.mem_of_getElem? (i := 28) rfl))) (Or.inl (hw _ (List.mem_of_getElem? (i := 20) rfl))) (by decide) (t := .int) (t' := (.array .long)) (by decide) (by decide)))
  have hV := hV.other W3 ne_a1_b2.symm
  have hS := F3
  have hE := E3
  refine o_aloadN X3 hx (pc' := 14) (hb hby d3_13) rfl rfl rfl ?_
  refine o_ldc2 X3 hx hZ hown (hw _ (List.mem_of_getElem? (i := 21) rfl)) (pc' := 17) (hb hby d3_14) rfl ?_
  refine o_putfield X3 hx hZ hown (hw _ (List.mem_of_getElem? (i := 22) rfl)) e3 hEe hE (Or.inl (hw _ (List.mem_of_getElem? (i := 23) rfl))) (hw _ (List.mem_of_getElem? (i := 10) rfl)) (ty := .long) (v' := (.long (9223372036854775807 : Int64))) (by decide) rfl rfl (hb hby d3_17) (pc' := 20) rfl ?_
  intro T4 h4 X4 e4 W4 F4 E4
  have NN := Fr.snoc X4 NN g_a1
  have KK := KK.wr W4 (Or.inl (List.mem_of_getElem? (i := 0) rfl))
  have ZZ := Nat.le_trans ZZ (Keep.of_wr W4).1
  have hS := hS.other W4 (Or.inr (slot_ne (Or.inl (hw _ (List.mem_of_getElem? (i := 20) rfl))) (Or.inl (hw _ (List.mem_of_getElem? (i := 23) rfl))) (by decide) (t := (.array .long)) (t' := .long) (by decide) (by decide)))
  have hZz := hZz.other W4 (Or.inr (slot_ne (Or.inl (hw _ (List.mem_of_getElem? (i := 50) rfl))) (Or.inl (hw _ (List.mem_of_getElem? (i := 23) rfl))) (by decide) (t := .int) (t' := .long) (by decide) (by decide)))
  have hM := hM.other W4 (Or.inr (slot_ne (Or.inr (hw _ (List.mem_of_getElem? (i := 28) rfl))) (Or.inl (hw _ (List.mem_of_getElem? (i := 23) rfl))) (by decide) (t := .int) (t' := .long) (by decide) (by decide)))
  have hV := hV.other W4 ne_a1_b2.symm
  have hEe := F4
  have hE := E4
  refine o_sipush X4 hx (pc' := 23) (v := (1024 : Int32)) (hb hby d3_20) rfl rfl ?_
  refine o_istoreN X4 hx (pc' := 24) (Ls' := #[.val (.ref a1), .val (.long (0 : Int64)), .second, .val (.int (1024 : Int32))]) (hb hby d3_23) rfl rfl ?_
  refine o_iloadN X4 hx (pc' := 25) (hb hby d3_24) rfl rfl ?_
  refine o_ldc X4 hx hZ hown (hw _ (List.mem_of_getElem? (i := 24) rfl)) (pc' := 27) (hb hby d3_25) rfl ?_
  refine o_icmp_ge X4 hx (pc' := 30) (pt := 52) (hb hby d3_27) rfl (by decide) (by decide) (fun q => absurd (by decide) q) (fun _ => ?_)
  refine o_ldc2 X4 hx hZ hown (hw _ (List.mem_of_getElem? (i := 25) rfl)) (pc' := 33) (hb hby d3_30) rfl ?_
  refine o_iloadN X4 hx (pc' := 34) (hb hby d3_33) rfl rfl ?_
  refine o_i2l X4 hx (pc' := 35) (hb hby d3_34) rfl ?_
  rw [show ((1024 : Int32).toInt64) = (1024 : Int64) from by decide +kernel]
  refine o_lmul X4 hx (pc' := 36) (hb hby d3_35) rfl ?_
  rw [show ((3 : Int64) * (1024 : Int64)) = (3072 : Int64) from by decide +kernel]
  refine o_ldc2 X4 hx hZ hown (hw _ (List.mem_of_getElem? (i := 26) rfl)) (pc' := 39) (hb hby d3_36) rfl ?_
  refine o_lmul X4 hx (pc' := 40) (hb hby d3_39) rfl ?_
  rw [show ((3072 : Int64) * (16 : Int64)) = (49152 : Int64) from by decide +kernel]
  refine o_lloadN X4 hx (pc' := 41) (hb hby d3_40) rfl rfl ?_
  refine o_lcmp X4 hx (pc' := 42) (hb hby d3_41) rfl ?_
  refine o_lif_gt X4 hx (pc' := 45) (pt := 52) (hb hby d3_42) rfl (by decide) (by decide) (fun _ => ?_) (fun q => absurd (by decide) q)
  refine o_aloadN X4 hx (pc' := 53) (hb hby d3_52) rfl rfl rfl ?_
  refine o_iloadN X4 hx (pc' := 54) (hb hby d3_53) rfl rfl ?_
  refine o_putfield X4 hx hZ hown (hw _ (List.mem_of_getElem? (i := 27) rfl)) e4 hM hE (Or.inr ⟨(hw _ (List.mem_of_getElem? (i := 28) rfl)), rfl, hnm⟩) (hw _ (List.mem_of_getElem? (i := 10) rfl)) (ty := .int) (v' := (.int (1024 : Int32))) (by decide) rfl rfl (hb hby d3_54) (pc' := 57) rfl ?_
  intro T5 h5 X5 e5 W5 F5 E5
  have NN := Fr.snoc X5 NN g_a1
  have KK := KK.wr W5 (Or.inl (List.mem_of_getElem? (i := 0) rfl))
  have ZZ := Nat.le_trans ZZ (Keep.of_wr W5).1
  have hS := hS.other W5 (Or.inr (slot_ne (Or.inl (hw _ (List.mem_of_getElem? (i := 20) rfl))) (Or.inr (hw _ (List.mem_of_getElem? (i := 28) rfl))) (by decide) (t := (.array .long)) (t' := .int) (by decide) (by decide)))
  have hZz := hZz.other W5 (Or.inr (slot_ne (Or.inl (hw _ (List.mem_of_getElem? (i := 50) rfl))) (Or.inr (hw _ (List.mem_of_getElem? (i := 28) rfl))) (by decide) (t := .int) (t' := .int) (by decide) (by decide)))
  have hEe := hEe.other W5 (Or.inr (slot_ne (Or.inl (hw _ (List.mem_of_getElem? (i := 23) rfl))) (Or.inr (hw _ (List.mem_of_getElem? (i := 28) rfl))) (by decide) (t := .long) (t' := .int) (by decide) (by decide)))
  have hV := hV.other W5 ne_a1_b2.symm
  have hM := F5
  have hE := E5
  exact finV X5 hx hlk hret (hb hby d3_57) (by decide) (by decide) ⟨rfl, NN, by rw [e5]; exact KK.1, by rw [e5]; exact ⟨b2, k2, fun _ => 0, _, g_b2, ne_a1_b2, hE, hS, hZz, hEe, hV, inv_nil⟩⟩
theorem pd_0 : parseMethodDescriptor "([JJ)I" = some ⟨[(.array .long), .long], some .int⟩ := by decide +kernel
theorem pd_1 : parseMethodDescriptor "()Z" = some ⟨[], some .boolean⟩ := by decide +kernel
theorem pd_2 : parseMethodDescriptor "(JJ)J" = some ⟨[.long, .long], some .long⟩ := by decide +kernel
theorem own_sz {M : List (Int64 × Int64 × Nat)} (h : M.length ≤ 2) : Int32.ofNat M.length = 0 ∨ Int32.ofNat M.length = 1 ∨ Int32.ofNat M.length = 2 := by
  have : M.length = 0 ∨ M.length = 1 ∨ M.length = 2 := by omega
  rcases this with q | q | q <;> rw [q] <;> decide
theorem d6_0 : decode prog_69_method_3_code 0 = .ok (.aload_n 0, 1) := by decide +kernel
theorem d6_1 : decode prog_69_method_3_code 1 = .ok (.getfield 11, 3) := by decide +kernel
theorem d6_4 : decode prog_69_method_3_code 4 = .ok (.lload_n 1, 1) := by decide +kernel
theorem d6_5 : decode prog_69_method_3_code 5 = .ok (.invokestatic 30, 3) := by decide +kernel
theorem d6_8 : decode prog_69_method_3_code 8 = .ok (.istore 7, 2) := by decide +kernel
theorem d6_10 : decode prog_69_method_3_code 10 = .ok (.aload_n 0, 1) := by decide +kernel
theorem d6_11 : decode prog_69_method_3_code 11 = .ok (.getfield 11, 3) := by decide +kernel
theorem d6_14 : decode prog_69_method_3_code 14 = .ok (.iload 7, 2) := by decide +kernel
theorem d6_16 : decode prog_69_method_3_code 16 = .ok (.iconst 1, 1) := by decide +kernel
theorem d6_17 : decode prog_69_method_3_code 17 = .ok (.iadd, 1) := by decide +kernel
theorem d6_18 : decode prog_69_method_3_code 18 = .ok (.laload, 1) := by decide +kernel
theorem d6_19 : decode prog_69_method_3_code 19 = .ok (.lconst 0, 1) := by decide +kernel
theorem d6_20 : decode prog_69_method_3_code 20 = .ok (.lcmp, 1) := by decide +kernel
theorem d6_21 : decode prog_69_method_3_code 21 = .ok (.ifCond .eq 5, 3) := by decide +kernel
theorem d6_24 : decode prog_69_method_3_code 24 = .ok (.iconst 1, 1) := by decide +kernel
theorem d6_25 : decode prog_69_method_3_code 25 = .ok (.ireturn, 1) := by decide +kernel
theorem d6_26 : decode prog_69_method_3_code 26 = .ok (.aload_n 0, 1) := by decide +kernel
theorem d6_27 : decode prog_69_method_3_code 27 = .ok (.invokevirtual 34, 3) := by decide +kernel
theorem d6_30 : decode prog_69_method_3_code 30 = .ok (.ifCond .eq 28, 3) := by decide +kernel
theorem d6_58 : decode prog_69_method_3_code 58 = .ok (.aload_n 0, 1) := by decide +kernel
theorem d6_59 : decode prog_69_method_3_code 59 = .ok (.getfield 11, 3) := by decide +kernel
theorem d6_62 : decode prog_69_method_3_code 62 = .ok (.iload 7, 2) := by decide +kernel
theorem d6_64 : decode prog_69_method_3_code 64 = .ok (.lload_n 1, 1) := by decide +kernel
theorem d6_65 : decode prog_69_method_3_code 65 = .ok (.lastore, 1) := by decide +kernel
theorem d6_66 : decode prog_69_method_3_code 66 = .ok (.aload_n 0, 1) := by decide +kernel
theorem d6_67 : decode prog_69_method_3_code 67 = .ok (.getfield 11, 3) := by decide +kernel
theorem d6_70 : decode prog_69_method_3_code 70 = .ok (.iload 7, 2) := by decide +kernel
theorem d6_72 : decode prog_69_method_3_code 72 = .ok (.iconst 1, 1) := by decide +kernel
theorem d6_73 : decode prog_69_method_3_code 73 = .ok (.iadd, 1) := by decide +kernel
theorem d6_74 : decode prog_69_method_3_code 74 = .ok (.lload_n 3, 1) := by decide +kernel
theorem d6_75 : decode prog_69_method_3_code 75 = .ok (.lastore, 1) := by decide +kernel
theorem d6_76 : decode prog_69_method_3_code 76 = .ok (.aload_n 0, 1) := by decide +kernel
theorem d6_77 : decode prog_69_method_3_code 77 = .ok (.dup, 1) := by decide +kernel
theorem d6_78 : decode prog_69_method_3_code 78 = .ok (.getfield 42, 3) := by decide +kernel
theorem d6_81 : decode prog_69_method_3_code 81 = .ok (.iconst 1, 1) := by decide +kernel
theorem d6_82 : decode prog_69_method_3_code 82 = .ok (.iadd, 1) := by decide +kernel
theorem d6_83 : decode prog_69_method_3_code 83 = .ok (.putfield 42, 3) := by decide +kernel
theorem d6_86 : decode prog_69_method_3_code 86 = .ok (.aload_n 0, 1) := by decide +kernel
theorem d6_87 : decode prog_69_method_3_code 87 = .ok (.aload_n 0, 1) := by decide +kernel
theorem d6_88 : decode prog_69_method_3_code 88 = .ok (.getfield 17, 3) := by decide +kernel
theorem d6_91 : decode prog_69_method_3_code 91 = .ok (.lload_n 3, 1) := by decide +kernel
theorem d6_92 : decode prog_69_method_3_code 92 = .ok (.invokestatic 45, 3) := by decide +kernel
theorem d6_95 : decode prog_69_method_3_code 95 = .ok (.putfield 17, 3) := by decide +kernel
theorem d6_98 : decode prog_69_method_3_code 98 = .ok (.iconst 1, 1) := by decide +kernel
theorem d6_99 : decode prog_69_method_3_code 99 = .ok (.ireturn, 1) := by decide +kernel
theorem pn_6 : plainFor (⟨"com/example/shelfkey/shelfkey/revocation/IdTable", "add", "(JJJ)Z"⟩ : MethodName) = true := plainFor_of_name (by show plainName "com/example/shelfkey/shelfkey/revocation/IdTable" = true; first | (simp [plainName, overriddenIn]; done) | decide +kernel)
theorem ef_6 (m : MethodId) (a1 : Addr) (q2 : Int64) (q3 : Int64) (q4 : Int64) : entryFrame m #[(.ref a1), (.long q2), (.long q3), (.long q4)] 8 = mkF m 0 #[.val (.ref a1), .val (.long q2), .second, .val (.long q3), .second, .val (.long q4), .second, .unset] [] := by first | (simp [entryFrame, mkF, argsToLocals, Value.category]; done) | rfl
set_option maxRecDepth 65536 in
set_option maxHeartbeats 40000000 in
theorem rm6 (l : Launch) (Z : State) (a0 : Array Value) (hw : ∀ d ∈ tables_1, d.before a0 Z = true) (h0 : Heap) (n0 : Nat) (Z0 : n0 ≤ h0.size) (a1 : Addr) (q2 : Int64) (q3 : Int64) (q4 : Int64) (M : List (Int64 × Int64 × Nat)) (hT : Tbl Z h0 n0 a1 M) (hl : M.length ≤ 2) (he : q3 ≠ 0) (ga : n0 ≤ a1) : Ctr l Z (⟨"com/example/shelfkey/shelfkey/revocation/IdTable", "add", "(JJJ)Z"⟩ : MethodName) prog_69_method_3_code 8 (some .boolean) [] ({ frames := 1, cells := 0, slots := 0, locals := 16 } : Room) #[(.ref a1), (.long q2), (.long q3), (.long q4)] h0 (fun v h L => v = some (.int 1) ∧ Fr n0 L ∧ h0.size ≤ h.size ∧ ((Has' M q2 ∧ Tbl Z h n0 a1 M) ∨ (¬ Has' M q2 ∧ ∃ p, Tbl Z h n0 a1 ((q2, q3, p) :: M)))) := by
  refine ctr_mk pn_6 (own := "com/example/shelfkey/shelfkey/revocation/IdTable") (mn := "add") rfl rfl ?_
  intro p e s m below meth c T0 X0 hx hby hml hZ hown hnm hret hlk e0
  refine o_entry (ef_6 m a1 q2 q3 q4) ?_
  obtain ⟨b, k, f, ee, gb, ne_a1_b, hE, hS, hZz, hEe, hV, hI⟩ := hT
  by_cases hh : Has' M q2
  · obtain ⟨t, hs, hz⟩ := find_in hI hh
    refine o_aloadN X0 hx (pc' := 1) (hb hby d6_0) rfl rfl rfl ?_
    refine o_getfield X0 hx hZ hown (hw _ (List.mem_of_getElem? (i := 19) rfl)) e0 hS (hb hby d6_1) (pc' := 4) rfl ?_
    intro T1 X1 e1
    refine o_lloadN X1 hx (pc' := 5) (hb hby d6_4) rfl rfl ?_
    refine o_callSP X1 hx hZ [(.ref b), (.long q2)] (rm7 l Z a0 hw h0 n0 Z0 b q2 k f t hV hs) hown (hw _ (List.mem_of_getElem? (i := 41) rfl)) (hw _ (List.mem_of_getElem? (i := 42) rfl)) (hw _ (List.mem_of_getElem? (i := 11) rfl)) (hw _ (List.mem_of_getElem? (i := 43) rfl)) (by decide) pd_0 e1 (by rw [hml]; rfl) rfl rfl rfl (hb hby d6_5) (pc' := 8) rfl 0 (Nat.le_of_eq rfl) (by decide) (by decide) rfl rfl (by decide) (by decide) ?_
    intro T2 X2 e2
    show Dn p e below _ (T2.setTop (mkF m 8 #[.val (.ref a1), .val (.long q2), .second, .val (.long q3), .second, .val (.long q4), .second, .unset] [(.int ((2 : Int32) * (Int32.ofNat (pr q2 t))))]))
    refine o_istore X2 hx (pc' := 10) (Ls' := #[.val (.ref a1), .val (.long q2), .second, .val (.long q3), .second, .val (.long q4), .second, .val (.int ((2 : Int32) * (Int32.ofNat (pr q2 t))))]) (hb hby d6_8) rfl rfl ?_
    refine o_aloadN X2 hx (pc' := 11) (hb hby d6_10) rfl rfl rfl ?_
    refine o_getfield X2 hx hZ hown (hw _ (List.mem_of_getElem? (i := 19) rfl)) e2 hS (hb hby d6_11) (pc' := 14) rfl ?_
    intro T3 X3 e3
    refine o_iload X3 hx (pc' := 16) (hb hby d6_14) rfl rfl ?_
    refine o_iconst X3 hx (pc' := 17) (v := (1 : Int32)) (hb hby d6_16) rfl rfl ?_
    refine o_iadd X3 hx (pc' := 18) (hb hby d6_17) rfl ?_
    refine o_laload X3 hx hZ e3 hV (own_oi (pr_lt q2 t)).1 (v := (.long (f (2 * pr q2 t + 1)))) (own_ov f (pr_lt q2 t) _) (hb hby d6_18) (pc' := 19) rfl ?_
    refine o_lconst X3 hx (pc' := 20) (v := (0 : Int64)) (hb hby d6_19) rfl rfl ?_
    refine o_lcmp X3 hx (pc' := 21) (hb hby d6_20) rfl ?_
    refine o_lif_eq X3 hx (pc' := 24) (pt := 26) (hb hby d6_21) rfl (by decide) (by decide) (fun q => absurd q hz) (fun _ => ?_)
    refine o_iconst X3 hx (pc' := 25) (v := (1 : Int32)) (hb hby d6_24) rfl rfl ?_
    exact finN X3 hx hlk (t := .boolean) hret (by simp) (hb hby d6_25) (by decide) (by decide) ⟨rfl, Fr.nil n0, by rw [e3]; exact Nat.le_refl _, Or.inl ⟨hh, by rw [e3]; exact ⟨b, k, f, ee, gb, ne_a1_b, hE, hS, hZz, hEe, hV, hI⟩⟩⟩
  · obtain ⟨t, hs, hz⟩ := find_out hI hh (by omega)
    refine o_aloadN X0 hx (pc' := 1) (hb hby d6_0) rfl rfl rfl ?_
    refine o_getfield X0 hx hZ hown (hw _ (List.mem_of_getElem? (i := 19) rfl)) e0 hS (hb hby d6_1) (pc' := 4) rfl ?_
    intro T4 X4 e4
    refine o_lloadN X4 hx (pc' := 5) (hb hby d6_4) rfl rfl ?_
    refine o_callSP X4 hx hZ [(.ref b), (.long q2)] (rm7 l Z a0 hw h0 n0 Z0 b q2 k f t hV hs) hown (hw _ (List.mem_of_getElem? (i := 41) rfl)) (hw _ (List.mem_of_getElem? (i := 42) rfl)) (hw _ (List.mem_of_getElem? (i := 11) rfl)) (hw _ (List.mem_of_getElem? (i := 43) rfl)) (by decide) pd_0 e4 (by rw [hml]; rfl) rfl rfl rfl (hb hby d6_5) (pc' := 8) rfl 0 (Nat.le_of_eq rfl) (by decide) (by decide) rfl rfl (by decide) (by decide) ?_
    intro T5 X5 e5
    show Dn p e below _ (T5.setTop (mkF m 8 #[.val (.ref a1), .val (.long q2), .second, .val (.long q3), .second, .val (.long q4), .second, .unset] [(.int ((2 : Int32) * (Int32.ofNat (pr q2 t))))]))
    refine o_istore X5 hx (pc' := 10) (Ls' := #[.val (.ref a1), .val (.long q2), .second, .val (.long q3), .second, .val (.long q4), .second, .val (.int ((2 : Int32) * (Int32.ofNat (pr q2 t))))]) (hb hby d6_8) rfl rfl ?_
    refine o_aloadN X5 hx (pc' := 11) (hb hby d6_10) rfl rfl rfl ?_
    refine o_getfield X5 hx hZ hown (hw _ (List.mem_of_getElem? (i := 19) rfl)) e5 hS (hb hby d6_11) (pc' := 14) rfl ?_
    intro T6 X6 e6
    refine o_iload X6 hx (pc' := 16) (hb hby d6_14) rfl rfl ?_
    refine o_iconst X6 hx (pc' := 17) (v := (1 : Int32)) (hb hby d6_16) rfl rfl ?_
    refine o_iadd X6 hx (pc' := 18) (hb hby d6_17) rfl ?_
    refine o_laload X6 hx hZ e6 hV (own_oi (pr_lt q2 t)).1 (v := (.long (f (2 * pr q2 t + 1)))) (own_ov f (pr_lt q2 t) _) (hb hby d6_18) (pc' := 19) rfl ?_
    refine o_lconst X6 hx (pc' := 20) (v := (0 : Int64)) (hb hby d6_19) rfl rfl ?_
    refine o_lcmp X6 hx (pc' := 21) (hb hby d6_20) rfl ?_
    refine o_lif_eq X6 hx (pc' := 24) (pt := 26) (hb hby d6_21) rfl (by decide) (by decide) (fun _ => ?_) (fun q => absurd hz q)
    refine o_aloadN X6 hx (pc' := 27) (hb hby d6_26) rfl rfl rfl ?_
    refine o_callPP X6 hx hZ a1 [] (rm8 l Z a0 hw h0 n0 Z0 a1 b _ k _ hZz hS hV (own_sz hl)) hown (hw _ (List.mem_of_getElem? (i := 44) rfl)) (hw _ (List.mem_of_getElem? (i := 10) rfl)) (hw _ (List.mem_of_getElem? (i := 46) rfl)) (hw _ (List.mem_of_getElem? (i := 45) rfl)) (hw _ (List.mem_of_getElem? (i := 11) rfl)) (hw _ (List.mem_of_getElem? (i := 47) rfl)) (by decide) hE pd_1 e6 (by rw [hml]; rfl) rfl rfl rfl (hb hby d6_27) (pc' := 30) rfl 0 (Nat.le_of_eq rfl) (by decide) (by decide) rfl rfl (by decide) (by decide) ?_
    intro T7 X7 e7
    show Dn p e below _ (T7.setTop (mkF m 30 #[.val (.ref a1), .val (.long q2), .second, .val (.long q3), .second, .val (.long q4), .second, .val (.int ((2 : Int32) * (Int32.ofNat (pr q2 t))))] [(.int (0 : Int32))]))
    refine o_if_eq X7 hx (pc' := 33) (pt := 58) (hb hby d6_30) rfl (by decide) (by decide) (fun _ => ?_) (fun q => absurd (by decide) q)
    have g_a1 := ga
    have g_b := gb
    have NN := Fr.nil n0
    have ZZ := Z0
    have KK := Keep.refl h0 [a1, b]
    refine o_aloadN X7 hx (pc' := 59) (hb hby d6_58) rfl rfl rfl ?_
    refine o_getfield X7 hx hZ hown (hw _ (List.mem_of_getElem? (i := 19) rfl)) e7 hS (hb hby d6_59) (pc' := 62) rfl ?_
    intro T8 X8 e8
    refine o_iload X8 hx (pc' := 64) (hb hby d6_62) rfl rfl ?_
    refine o_lloadN X8 hx (pc' := 65) (hb hby d6_64) rfl rfl ?_
    refine o_lastore X8 hx hZ e8 hV (own_ei (pr_lt q2 t)).1 (2 * pr q2 t) (own_ei (pr_lt q2 t)).2 (by rw [own_len]; have := pr_lt q2 t; omega) (hb hby d6_65) (pc' := 66) rfl ?_
    intro T9 h9 X9 e9 W9 V9
    have NN := Fr.snoc X9 NN g_b
    have KK := KK.wr W9 (Or.inl (List.mem_of_getElem? (i := 1) rfl))
    have ZZ := Nat.le_trans ZZ (Keep.of_wr W9).1
    have hE := hE.wr W9
    have hS := hS.other W9 (Or.inl ne_a1_b)
    have hZz := hZz.other W9 (Or.inl ne_a1_b)
    have hEe := hEe.other W9 (Or.inl ne_a1_b)
    have hV : Arv Z h9 b k .long 2048 (own_vals (fun j => if j = 2 * pr q2 t then q2 else f j)) (.long 0) := by rw [← own_set]; exact V9
    refine o_aloadN X9 hx (pc' := 67) (hb hby d6_66) rfl rfl rfl ?_
    refine o_getfield X9 hx hZ hown (hw _ (List.mem_of_getElem? (i := 19) rfl)) e9 hS (hb hby d6_67) (pc' := 70) rfl ?_
    intro T10 X10 e10
    refine o_iload X10 hx (pc' := 72) (hb hby d6_70) rfl rfl ?_
    refine o_iconst X10 hx (pc' := 73) (v := (1 : Int32)) (hb hby d6_72) rfl rfl ?_
    refine o_iadd X10 hx (pc' := 74) (hb hby d6_73) rfl ?_
    refine o_lloadN X10 hx (pc' := 75) (hb hby d6_74) rfl rfl ?_
    refine o_lastore X10 hx hZ e10 hV (own_oi (pr_lt q2 t)).1 (2 * pr q2 t + 1) (own_oi (pr_lt q2 t)).2 (by rw [own_len]; have := pr_lt q2 t; omega) (hb hby d6_75) (pc' := 76) rfl ?_
    intro T11 h11 X11 e11 W11 V11
    have NN := Fr.snoc X11 NN g_b
    have KK := KK.wr W11 (Or.inl (List.mem_of_getElem? (i := 1) rfl))
    have ZZ := Nat.le_trans ZZ (Keep.of_wr W11).1
    have hE := hE.wr W11
    have hS := hS.other W11 (Or.inl ne_a1_b)
    have hZz := hZz.other W11 (Or.inl ne_a1_b)
    have hEe := hEe.other W11 (Or.inl ne_a1_b)
    have hV : Arv Z h11 b k .long 2048 (own_vals (upd f (pr q2 t) q2 q3)) (.long 0) := by have q := V11; rw [own_set] at q; exact q
    refine o_aloadN X11 hx (pc' := 77) (hb hby d6_76) rfl rfl rfl ?_
    refine o_dup X11 hx (pc' := 78) (hb hby d6_77) rfl rfl ?_
    refine o_getfield X11 hx hZ hown (hw _ (List.mem_of_getElem? (i := 49) rfl)) e11 hZz (hb hby d6_78) (pc' := 81) rfl ?_
    intro T12 X12 e12
    refine o_iconst X12 hx (pc' := 82) (v := (1 : Int32)) (hb hby d6_81) rfl rfl ?_
    refine o_iadd X12 hx (pc' := 83) (hb hby d6_82) rfl ?_
    refine o_putfield X12 hx hZ hown (hw _ (List.mem_of_getElem? (i := 49) rfl)) e12 hZz hE (Or.inl (hw _ (List.mem_of_getElem? (i := 50) rfl))) (hw _ (List.mem_of_getElem? (i := 10) rfl)) (ty := .int) (v' := (.int ((Int32.ofNat M.length) + (1 : Int32)))) (by decide) rfl rfl (hb hby d6_83) (pc' := 86) rfl ?_
    intro T13 h13 X13 e13 W13 F13 E13
    have NN := Fr.snoc X13 NN g_a1
    have KK := KK.wr W13 (Or.inl (List.mem_of_getElem? (i := 0) rfl))
    have ZZ := Nat.le_trans ZZ (Keep.of_wr W13).1
    have hS := hS.other W13 (Or.inr (slot_ne (Or.inl (hw _ (List.mem_of_getElem? (i := 20) rfl))) (Or.inl (hw _ (List.mem_of_getElem? (i := 50) rfl))) (by decide) (t := (.array .long)) (t' := .int) (by decide) (by decide)))
    have hEe := hEe.other W13 (Or.inr (slot_ne (Or.inl (hw _ (List.mem_of_getElem? (i := 23) rfl))) (Or.inl (hw _ (List.mem_of_getElem? (i := 50) rfl))) (by decide) (t := .long) (t' := .int) (by decide) (by decide)))
    have hV := hV.other W13 ne_a1_b.symm
    have hZz := F13
    have hE := E13
    refine o_aloadN X13 hx (pc' := 87) (hb hby d6_86) rfl rfl rfl ?_
    refine o_aloadN X13 hx (pc' := 88) (hb hby d6_87) rfl rfl rfl ?_
    refine o_getfield X13 hx hZ hown (hw _ (List.mem_of_getElem? (i := 22) rfl)) e13 hEe (hb hby d6_88) (pc' := 91) rfl ?_
    intro T14 X14 e14
    refine o_lloadN X14 hx (pc' := 92) (hb hby d6_91) rfl rfl ?_
    refine o_callSP X14 hx hZ [(.long ee), (.long q3)] (rm9 l Z a0 hw h13 ee q3) hown (hw _ (List.mem_of_getElem? (i := 51) rfl)) (hw _ (List.mem_of_getElem? (i := 52) rfl)) (hw _ (List.mem_of_getElem? (i := 53) rfl)) (hw _ (List.mem_of_getElem? (i := 54) rfl)) (by decide) pd_2 e14 (by rw [hml]; rfl) rfl rfl rfl (hb hby d6_92) (pc' := 95) rfl 1 (Nat.le_of_eq rfl) (by decide) (by decide) rfl rfl (by decide) (by decide) ?_
    intro T15 X15 e15
    show Dn p e below _ (T15.setTop (mkF m 95 #[.val (.ref a1), .val (.long q2), .second, .val (.long q3), .second, .val (.long q4), .second, .val (.int ((2 : Int32) * (Int32.ofNat (pr q2 t))))] [(.long (F9 ee q3)), (.ref a1)]))
    refine o_putfield X15 hx hZ hown (hw _ (List.mem_of_getElem? (i := 22) rfl)) e15 hEe hE (Or.inl (hw _ (List.mem_of_getElem? (i := 23) rfl))) (hw _ (List.mem_of_getElem? (i := 10) rfl)) (ty := .long) (v' := (.long (F9 ee q3))) (by decide) rfl rfl (hb hby d6_95) (pc' := 98) rfl ?_
    intro T16 h16 X16 e16 W16 F16 E16
    have NN := Fr.snoc X16 NN g_a1
    have KK := KK.wr W16 (Or.inl (List.mem_of_getElem? (i := 0) rfl))
    have ZZ := Nat.le_trans ZZ (Keep.of_wr W16).1
    have hS := hS.other W16 (Or.inr (slot_ne (Or.inl (hw _ (List.mem_of_getElem? (i := 20) rfl))) (Or.inl (hw _ (List.mem_of_getElem? (i := 23) rfl))) (by decide) (t := (.array .long)) (t' := .long) (by decide) (by decide)))
    have hZz := hZz.other W16 (Or.inr (slot_ne (Or.inl (hw _ (List.mem_of_getElem? (i := 50) rfl))) (Or.inl (hw _ (List.mem_of_getElem? (i := 23) rfl))) (by decide) (t := .int) (t' := .long) (by decide) (by decide)))
    have hV := hV.other W16 ne_a1_b.symm
    have hEe := F16
    have hE := E16
    refine o_iconst X16 hx (pc' := 99) (v := (1 : Int32)) (hb hby d6_98) rfl rfl ?_
    exact finN X16 hx hlk (t := .boolean) hret (by simp) (hb hby d6_99) (by decide) (by decide) ⟨rfl, NN, by rw [e16]; exact KK.1, Or.inr ⟨hh, pr q2 t, by rw [e16]; exact ⟨b, k, _, _, gb, ne_a1_b, hE, hS, own_up M.length ▸ hZz, hEe, hV, inv_ins hI he hs hz⟩⟩⟩
theorem d1_0 : decode method_3_code 0 = .ok (.iload 4, 2) := by decide +kernel
theorem d1_2 : decode method_3_code 2 = .ok (.ifCond .ne 24, 3) := by decide +kernel
theorem d1_5 : decode method_3_code 5 = .ok (.lload_n 0, 1) := by decide +kernel
theorem d1_6 : decode method_3_code 6 = .ok (.ldc2_w 9, 3) := by decide +kernel
theorem d1_9 : decode method_3_code 9 = .ok (.land, 1) := by decide +kernel
theorem d1_10 : decode method_3_code 10 = .ok (.lstore 5, 2) := by decide +kernel
theorem d1_12 : decode method_3_code 12 = .ok (.lload 5, 2) := by decide +kernel
theorem d1_14 : decode method_3_code 14 = .ok (.lconst 0, 1) := by decide +kernel
theorem d1_15 : decode method_3_code 15 = .ok (.lcmp, 1) := by decide +kernel
theorem d1_16 : decode method_3_code 16 = .ok (.ifCond .ne 7, 3) := by decide +kernel
theorem d1_19 : decode method_3_code 19 = .ok (.lconst 1, 1) := by decide +kernel
theorem d1_20 : decode method_3_code 20 = .ok (.goto 5, 3) := by decide +kernel
theorem d1_23 : decode method_3_code 23 = .ok (.lload 5, 2) := by decide +kernel
theorem d1_25 : decode method_3_code 25 = .ok (.lreturn, 1) := by decide +kernel
theorem d1_26 : decode method_3_code 26 = .ok (.lload_n 0, 1) := by decide +kernel
theorem d1_27 : decode method_3_code 27 = .ok (.ldc2_w 34, 3) := by decide +kernel
theorem d1_30 : decode method_3_code 30 = .ok (.land, 1) := by decide +kernel
theorem d1_31 : decode method_3_code 31 = .ok (.lconst 1, 1) := by decide +kernel
theorem d1_32 : decode method_3_code 32 = .ok (.lsub, 1) := by decide +kernel
theorem d1_33 : decode method_3_code 33 = .ok (.lstore 5, 2) := by decide +kernel
theorem d1_35 : decode method_3_code 35 = .ok (.lload 5, 2) := by decide +kernel
theorem d1_37 : decode method_3_code 37 = .ok (.lconst 0, 1) := by decide +kernel
theorem d1_38 : decode method_3_code 38 = .ok (.lcmp, 1) := by decide +kernel
theorem d1_39 : decode method_3_code 39 = .ok (.ifCond .le 22, 3) := by decide +kernel
theorem d1_42 : decode method_3_code 42 = .ok (.lload_n 2, 1) := by decide +kernel
theorem d1_43 : decode method_3_code 43 = .ok (.ldc2_w 9, 3) := by decide +kernel
theorem d1_46 : decode method_3_code 46 = .ok (.lload 5, 2) := by decide +kernel
theorem d1_48 : decode method_3_code 48 = .ok (.lsub, 1) := by decide +kernel
theorem d1_49 : decode method_3_code 49 = .ok (.lcmp, 1) := by decide +kernel
theorem d1_50 : decode method_3_code 50 = .ok (.ifCond .le 11, 3) := by decide +kernel
theorem d1_53 : decode method_3_code 53 = .ok (.ldc2_w 9, 3) := by decide +kernel
theorem d1_56 : decode method_3_code 56 = .ok (.lstore 7, 2) := by decide +kernel
theorem d1_58 : decode method_3_code 58 = .ok (.goto 9, 3) := by decide +kernel
theorem d1_61 : decode method_3_code 61 = .ok (.lload_n 2, 1) := by decide +kernel
theorem d1_62 : decode method_3_code 62 = .ok (.lload 5, 2) := by decide +kernel
theorem d1_64 : decode method_3_code 64 = .ok (.ladd, 1) := by decide +kernel
theorem d1_65 : decode method_3_code 65 = .ok (.lstore 7, 2) := by decide +kernel
theorem d1_67 : decode method_3_code 67 = .ok (.lload 7, 2) := by decide +kernel
theorem d1_69 : decode method_3_code 69 = .ok (.lconst 1, 1) := by decide +kernel
theorem d1_70 : decode method_3_code 70 = .ok (.lcmp, 1) := by decide +kernel
theorem d1_71 : decode method_3_code 71 = .ok (.ifCond .ge 7, 3) := by decide +kernel
theorem d1_74 : decode method_3_code 74 = .ok (.lconst 1, 1) := by decide +kernel
theorem d1_75 : decode method_3_code 75 = .ok (.goto 5, 3) := by decide +kernel
theorem d1_78 : decode method_3_code 78 = .ok (.lload 7, 2) := by decide +kernel
theorem d1_80 : decode method_3_code 80 = .ok (.lreturn, 1) := by decide +kernel
theorem pn_1 : plainFor (⟨"com/example/shelfkey/shelfkey/revocation/IdTableLivePinLaw", "end", "(JJI)J"⟩ : MethodName) = true := plainFor_of_name (by show plainName "com/example/shelfkey/shelfkey/revocation/IdTableLivePinLaw" = true; first | (simp [plainName, overriddenIn]; done) | decide +kernel)
theorem ef_1 (m : MethodId) (q1 : Int64) (q2 : Int64) (p3 : Int32) : entryFrame m #[(.long q1), (.long q2), (.int p3)] 9 = mkF m 0 #[.val (.long q1), .second, .val (.long q2), .second, .val (.int p3), .unset, .unset, .unset, .unset] [] := by first | (simp [entryFrame, mkF, argsToLocals, Value.category]; done) | rfl
def F1 (q1 : Int64) (q2 : Int64) (p3 : Int32) : Int64 := 
  if p3 = (0 : Int32) then 
    if (q1 &&& (9223372036854775807 : Int64)) = (0 : Int64) then (1 : Int64)
    else (q1 &&& (9223372036854775807 : Int64))
  else 
    if (0 : Int64) < ((q1 &&& (3 : Int64)) - (1 : Int64)) then 
      if ((9223372036854775807 : Int64) - ((q1 &&& (3 : Int64)) - (1 : Int64))) < q2 then (9223372036854775807 : Int64)
      else 
        if (q2 + ((q1 &&& (3 : Int64)) - (1 : Int64))) < (1 : Int64) then (1 : Int64)
        else (q2 + ((q1 &&& (3 : Int64)) - (1 : Int64)))
    else 
      if (q2 + ((q1 &&& (3 : Int64)) - (1 : Int64))) < (1 : Int64) then (1 : Int64)
      else (q2 + ((q1 &&& (3 : Int64)) - (1 : Int64)))
set_option maxRecDepth 65536 in
set_option maxHeartbeats 40000000 in
theorem rm1 (l : Launch) (Z : State) (a0 : Array Value) (hw : ∀ d ∈ tables_1, d.before a0 Z = true) (h0 : Heap) (q1 : Int64) (q2 : Int64) (p3 : Int32) : Ctr l Z (⟨"com/example/shelfkey/shelfkey/revocation/IdTableLivePinLaw", "end", "(JJI)J"⟩ : MethodName) method_3_code 9 (some .long) [] ({ frames := 0, cells := 0, slots := 0, locals := 0 } : Room) #[(.long q1), (.long q2), (.int p3)] h0 (Pure (.long (F1 q1 q2 p3)) h0) := by
  refine ctr_mk pn_1 (own := "com/example/shelfkey/shelfkey/revocation/IdTableLivePinLaw") (mn := "end") rfl rfl ?_
  intro p e s m below meth c T0 X0 hx hby hml hZ hown hnm hret hlk e0
  refine o_entry (ef_1 m q1 q2 p3) ?_
  refine o_iload X0 hx (pc' := 2) (hb hby d1_0) rfl rfl ?_
  refine o_if_ne X0 hx (pc' := 5) (pt := 26) (hb hby d1_2) rfl (by decide) (by decide) (fun hc2 => ?_) (fun hc2 => ?_)
  · skip
    refine o_lloadN X0 hx (pc' := 27) (hb hby d1_26) rfl rfl ?_
    refine o_ldc2 X0 hx hZ hown (hw _ (List.mem_of_getElem? (i := 35) rfl)) (pc' := 30) (hb hby d1_27) rfl ?_
    refine o_land X0 hx (pc' := 31) (hb hby d1_30) rfl ?_
    refine o_lconst X0 hx (pc' := 32) (v := (1 : Int64)) (hb hby d1_31) rfl rfl ?_
    refine o_lsub X0 hx (pc' := 33) (hb hby d1_32) rfl ?_
    refine o_lstore X0 hx (pc' := 35) (Ls' := #[.val (.long q1), .second, .val (.long q2), .second, .val (.int p3), .val (.long ((q1 &&& (3 : Int64)) - (1 : Int64))), .second, .unset, .unset]) (hb hby d1_33) rfl rfl ?_
    refine o_lload X0 hx (pc' := 37) (hb hby d1_35) rfl rfl ?_
    refine o_lconst X0 hx (pc' := 38) (v := (0 : Int64)) (hb hby d1_37) rfl rfl ?_
    refine o_lcmp X0 hx (pc' := 39) (hb hby d1_38) rfl ?_
    refine o_lif_le X0 hx (pc' := 42) (pt := 61) (hb hby d1_39) rfl (by decide) (by decide) (fun hc39 => ?_) (fun hc39 => ?_)
    · skip
      refine o_lloadN X0 hx (pc' := 62) (hb hby d1_61) rfl rfl ?_
      refine o_lload X0 hx (pc' := 64) (hb hby d1_62) rfl rfl ?_
      refine o_ladd X0 hx (pc' := 65) (hb hby d1_64) rfl ?_
      refine o_lstore X0 hx (pc' := 67) (Ls' := #[.val (.long q1), .second, .val (.long q2), .second, .val (.int p3), .val (.long ((q1 &&& (3 : Int64)) - (1 : Int64))), .second, .val (.long (q2 + ((q1 &&& (3 : Int64)) - (1 : Int64)))), .second]) (hb hby d1_65) rfl rfl ?_
      refine o_lload X0 hx (pc' := 69) (hb hby d1_67) rfl rfl ?_
      refine o_lconst X0 hx (pc' := 70) (v := (1 : Int64)) (hb hby d1_69) rfl rfl ?_
      refine o_lcmp X0 hx (pc' := 71) (hb hby d1_70) rfl ?_
      refine o_lif_ge X0 hx (pc' := 74) (pt := 78) (hb hby d1_71) rfl (by decide) (by decide) (fun hc71 => ?_) (fun hc71 => ?_)
      · skip
        refine o_lload X0 hx (pc' := 80) (hb hby d1_78) rfl rfl ?_
        exact finJ X0 hx hlk hret (hb hby d1_80) (by decide) (by decide) ⟨by show some (Value.long _) = some (Value.long (F1 q1 q2 p3)); unfold F1; rw [if_neg hc2, if_neg hc39, if_neg hc71], rfl, e0⟩
      · skip
        refine o_lconst X0 hx (pc' := 75) (v := (1 : Int64)) (hb hby d1_74) rfl rfl ?_
        refine o_goto X0 hx (pc' := 80) (hb hby d1_75) (by decide) (by decide) ?_
        exact finJ X0 hx hlk hret (hb hby d1_80) (by decide) (by decide) ⟨by show some (Value.long _) = some (Value.long (F1 q1 q2 p3)); unfold F1; rw [if_neg hc2, if_neg hc39, if_pos hc71], rfl, e0⟩
    · skip
      refine o_lloadN X0 hx (pc' := 43) (hb hby d1_42) rfl rfl ?_
      refine o_ldc2 X0 hx hZ hown (hw _ (List.mem_of_getElem? (i := 0) rfl)) (pc' := 46) (hb hby d1_43) rfl ?_
      refine o_lload X0 hx (pc' := 48) (hb hby d1_46) rfl rfl ?_
      refine o_lsub X0 hx (pc' := 49) (hb hby d1_48) rfl ?_
      refine o_lcmp X0 hx (pc' := 50) (hb hby d1_49) rfl ?_
      refine o_lif_le X0 hx (pc' := 53) (pt := 61) (hb hby d1_50) rfl (by decide) (by decide) (fun hc50 => ?_) (fun hc50 => ?_)
      · skip
        refine o_lloadN X0 hx (pc' := 62) (hb hby d1_61) rfl rfl ?_
        refine o_lload X0 hx (pc' := 64) (hb hby d1_62) rfl rfl ?_
        refine o_ladd X0 hx (pc' := 65) (hb hby d1_64) rfl ?_
        refine o_lstore X0 hx (pc' := 67) (Ls' := #[.val (.long q1), .second, .val (.long q2), .second, .val (.int p3), .val (.long ((q1 &&& (3 : Int64)) - (1 : Int64))), .second, .val (.long (q2 + ((q1 &&& (3 : Int64)) - (1 : Int64)))), .second]) (hb hby d1_65) rfl rfl ?_
        refine o_lload X0 hx (pc' := 69) (hb hby d1_67) rfl rfl ?_
        refine o_lconst X0 hx (pc' := 70) (v := (1 : Int64)) (hb hby d1_69) rfl rfl ?_
        refine o_lcmp X0 hx (pc' := 71) (hb hby d1_70) rfl ?_
        refine o_lif_ge X0 hx (pc' := 74) (pt := 78) (hb hby d1_71) rfl (by decide) (by decide) (fun hc71 => ?_) (fun hc71 => ?_)
        · skip
          refine o_lload X0 hx (pc' := 80) (hb hby d1_78) rfl rfl ?_
          exact finJ X0 hx hlk hret (hb hby d1_80) (by decide) (by decide) ⟨by show some (Value.long _) = some (Value.long (F1 q1 q2 p3)); unfold F1; rw [if_neg hc2, if_pos hc39, if_neg hc50, if_neg hc71], rfl, e0⟩
        · skip
          refine o_lconst X0 hx (pc' := 75) (v := (1 : Int64)) (hb hby d1_74) rfl rfl ?_
          refine o_goto X0 hx (pc' := 80) (hb hby d1_75) (by decide) (by decide) ?_
          exact finJ X0 hx hlk hret (hb hby d1_80) (by decide) (by decide) ⟨by show some (Value.long _) = some (Value.long (F1 q1 q2 p3)); unfold F1; rw [if_neg hc2, if_pos hc39, if_neg hc50, if_pos hc71], rfl, e0⟩
      · skip
        refine o_ldc2 X0 hx hZ hown (hw _ (List.mem_of_getElem? (i := 0) rfl)) (pc' := 56) (hb hby d1_53) rfl ?_
        refine o_lstore X0 hx (pc' := 58) (Ls' := #[.val (.long q1), .second, .val (.long q2), .second, .val (.int p3), .val (.long ((q1 &&& (3 : Int64)) - (1 : Int64))), .second, .val (.long (9223372036854775807 : Int64)), .second]) (hb hby d1_56) rfl rfl ?_
        refine o_goto X0 hx (pc' := 67) (hb hby d1_58) (by decide) (by decide) ?_
        refine o_lload X0 hx (pc' := 69) (hb hby d1_67) rfl rfl ?_
        refine o_lconst X0 hx (pc' := 70) (v := (1 : Int64)) (hb hby d1_69) rfl rfl ?_
        refine o_lcmp X0 hx (pc' := 71) (hb hby d1_70) rfl ?_
        refine o_lif_ge X0 hx (pc' := 74) (pt := 78) (hb hby d1_71) rfl (by decide) (by decide) (fun _ => ?_) (fun q => absurd q (by decide))
        refine o_lload X0 hx (pc' := 80) (hb hby d1_78) rfl rfl ?_
        exact finJ X0 hx hlk hret (hb hby d1_80) (by decide) (by decide) ⟨by show some (Value.long _) = some (Value.long (F1 q1 q2 p3)); unfold F1; rw [if_neg hc2, if_pos hc39, if_pos hc50], rfl, e0⟩
  · skip
    refine o_lloadN X0 hx (pc' := 6) (hb hby d1_5) rfl rfl ?_
    refine o_ldc2 X0 hx hZ hown (hw _ (List.mem_of_getElem? (i := 0) rfl)) (pc' := 9) (hb hby d1_6) rfl ?_
    refine o_land X0 hx (pc' := 10) (hb hby d1_9) rfl ?_
    refine o_lstore X0 hx (pc' := 12) (Ls' := #[.val (.long q1), .second, .val (.long q2), .second, .val (.int p3), .val (.long (q1 &&& (9223372036854775807 : Int64))), .second, .unset, .unset]) (hb hby d1_10) rfl rfl ?_
    refine o_lload X0 hx (pc' := 14) (hb hby d1_12) rfl rfl ?_
    refine o_lconst X0 hx (pc' := 15) (v := (0 : Int64)) (hb hby d1_14) rfl rfl ?_
    refine o_lcmp X0 hx (pc' := 16) (hb hby d1_15) rfl ?_
    refine o_lif_ne X0 hx (pc' := 19) (pt := 23) (hb hby d1_16) rfl (by decide) (by decide) (fun hc16 => ?_) (fun hc16 => ?_)
    · skip
      refine o_lload X0 hx (pc' := 25) (hb hby d1_23) rfl rfl ?_
      exact finJ X0 hx hlk hret (hb hby d1_25) (by decide) (by decide) ⟨by show some (Value.long _) = some (Value.long (F1 q1 q2 p3)); unfold F1; rw [if_pos hc2, if_neg hc16], rfl, e0⟩
    · skip
      refine o_lconst X0 hx (pc' := 20) (v := (1 : Int64)) (hb hby d1_19) rfl rfl ?_
      refine o_goto X0 hx (pc' := 25) (hb hby d1_20) (by decide) (by decide) ?_
      exact finJ X0 hx hlk hret (hb hby d1_25) (by decide) (by decide) ⟨by show some (Value.long _) = some (Value.long (F1 q1 q2 p3)); unfold F1; rw [if_pos hc2, if_pos hc16], rfl, e0⟩
theorem d2_0 : decode method_4_code 0 = .ok (.iload_n 0, 1) := by decide +kernel
theorem d2_1 : decode method_4_code 1 = .ok (.ifCond .ne 5, 3) := by decide +kernel
theorem d2_4 : decode method_4_code 4 = .ok (.lconst 0, 1) := by decide +kernel
theorem d2_5 : decode method_4_code 5 = .ok (.lreturn, 1) := by decide +kernel
theorem d2_6 : decode method_4_code 6 = .ok (.iload_n 0, 1) := by decide +kernel
theorem d2_7 : decode method_4_code 7 = .ok (.iconst 1, 1) := by decide +kernel
theorem d2_8 : decode method_4_code 8 = .ok (.if_icmp .ne 7, 3) := by decide +kernel
theorem d2_11 : decode method_4_code 11 = .ok (.ldc2_w 36, 3) := by decide +kernel
theorem d2_14 : decode method_4_code 14 = .ok (.lreturn, 1) := by decide +kernel
theorem d2_15 : decode method_4_code 15 = .ok (.iload_n 0, 1) := by decide +kernel
theorem d2_16 : decode method_4_code 16 = .ok (.iconst 2, 1) := by decide +kernel
theorem d2_17 : decode method_4_code 17 = .ok (.if_icmp .ne 5, 3) := by decide +kernel
theorem d2_20 : decode method_4_code 20 = .ok (.lconst 1, 1) := by decide +kernel
theorem d2_21 : decode method_4_code 21 = .ok (.lreturn, 1) := by decide +kernel
theorem d2_22 : decode method_4_code 22 = .ok (.ldc2_w 38, 3) := by decide +kernel
theorem d2_25 : decode method_4_code 25 = .ok (.lreturn, 1) := by decide +kernel
theorem pn_2 : plainFor (⟨"com/example/shelfkey/shelfkey/revocation/IdTableLivePinLaw", "id", "(I)J"⟩ : MethodName) = true := plainFor_of_name (by show plainName "com/example/shelfkey/shelfkey/revocation/IdTableLivePinLaw" = true; first | (simp [plainName, overriddenIn]; done) | decide +kernel)
theorem ef_2 (m : MethodId) (p1 : Int32) : entryFrame m #[(.int p1)] 1 = mkF m 0 #[.val (.int p1)] [] := by first | (simp [entryFrame, mkF, argsToLocals, Value.category]; done) | rfl
def F2 (p1 : Int32) : Int64 := 
  if p1 = (0 : Int32) then (0 : Int64)
  else 
    if p1 = (1 : Int32) then (1024 : Int64)
    else 
      if p1 = (2 : Int32) then (1 : Int64)
      else (-1 : Int64)
set_option maxRecDepth 65536 in
set_option maxHeartbeats 40000000 in
theorem rm2 (l : Launch) (Z : State) (a0 : Array Value) (hw : ∀ d ∈ tables_1, d.before a0 Z = true) (h0 : Heap) (p1 : Int32) : Ctr l Z (⟨"com/example/shelfkey/shelfkey/revocation/IdTableLivePinLaw", "id", "(I)J"⟩ : MethodName) method_4_code 1 (some .long) [] ({ frames := 0, cells := 0, slots := 0, locals := 0 } : Room) #[(.int p1)] h0 (Pure (.long (F2 p1)) h0) := by
  refine ctr_mk pn_2 (own := "com/example/shelfkey/shelfkey/revocation/IdTableLivePinLaw") (mn := "id") rfl rfl ?_
  intro p e s m below meth c T0 X0 hx hby hml hZ hown hnm hret hlk e0
  refine o_entry (ef_2 m p1) ?_
  refine o_iloadN X0 hx (pc' := 1) (hb hby d2_0) rfl rfl ?_
  refine o_if_ne X0 hx (pc' := 4) (pt := 6) (hb hby d2_1) rfl (by decide) (by decide) (fun hc1 => ?_) (fun hc1 => ?_)
  · skip
    refine o_iloadN X0 hx (pc' := 7) (hb hby d2_6) rfl rfl ?_
    refine o_iconst X0 hx (pc' := 8) (v := (1 : Int32)) (hb hby d2_7) rfl rfl ?_
    refine o_icmp_ne X0 hx (pc' := 11) (pt := 15) (hb hby d2_8) rfl (by decide) (by decide) (fun hc8 => ?_) (fun hc8 => ?_)
    · skip
      refine o_iloadN X0 hx (pc' := 16) (hb hby d2_15) rfl rfl ?_
      refine o_iconst X0 hx (pc' := 17) (v := (2 : Int32)) (hb hby d2_16) rfl rfl ?_
      refine o_icmp_ne X0 hx (pc' := 20) (pt := 22) (hb hby d2_17) rfl (by decide) (by decide) (fun hc17 => ?_) (fun hc17 => ?_)
      · skip
        refine o_ldc2 X0 hx hZ hown (hw _ (List.mem_of_getElem? (i := 8) rfl)) (pc' := 25) (hb hby d2_22) rfl ?_
        exact finJ X0 hx hlk hret (hb hby d2_25) (by decide) (by decide) ⟨by show some (Value.long _) = some (Value.long (F2 p1)); unfold F2; rw [if_neg hc1, if_neg hc8, if_neg hc17], rfl, e0⟩
      · skip
        refine o_lconst X0 hx (pc' := 21) (v := (1 : Int64)) (hb hby d2_20) rfl rfl ?_
        exact finJ X0 hx hlk hret (hb hby d2_21) (by decide) (by decide) ⟨by show some (Value.long _) = some (Value.long (F2 p1)); unfold F2; rw [if_neg hc1, if_neg hc8, if_pos hc17], rfl, e0⟩
    · skip
      refine o_ldc2 X0 hx hZ hown (hw _ (List.mem_of_getElem? (i := 34) rfl)) (pc' := 14) (hb hby d2_11) rfl ?_
      exact finJ X0 hx hlk hret (hb hby d2_14) (by decide) (by decide) ⟨by show some (Value.long _) = some (Value.long (F2 p1)); unfold F2; rw [if_neg hc1, if_pos hc8], rfl, e0⟩
  · skip
    refine o_lconst X0 hx (pc' := 5) (v := (0 : Int64)) (hb hby d2_4) rfl rfl ?_
    exact finJ X0 hx hlk hret (hb hby d2_5) (by decide) (by decide) ⟨by show some (Value.long _) = some (Value.long (F2 p1)); unfold F2; rw [if_pos hc1], rfl, e0⟩
theorem own_ji {j : Nat} (h : j < 1024) : (¬ Int32.ofNat (2 * j + 1) < 0 ∧ Int32.ofNat (2 * j + 1) < 2048) ∧ (Int32.ofNat (2 * j + 1)).toNatClampNeg = 2 * j + 1 := own_in (own_ofNat (by omega)) (by omega)
theorem own_two (j : Nat) : Int32.ofNat (2 * j + 1) + (2 : Int32) = Int32.ofNat (2 * (j + 1) + 1) := by
  rw [show 2 * (j + 1) + 1 = (2 * j + 1) + 2 from by omega, Int32.ofNat_add (2 * j + 1) 2]; rfl
theorem d5_0 : decode prog_69_method_7_code 0 = .ok (.iconst 0, 1) := by decide +kernel
theorem d5_1 : decode prog_69_method_7_code 1 = .ok (.istore_n 3, 1) := by decide +kernel
theorem d5_2 : decode prog_69_method_7_code 2 = .ok (.iconst 1, 1) := by decide +kernel
theorem d5_3 : decode prog_69_method_7_code 3 = .ok (.istore 4, 2) := by decide +kernel
theorem d5_5 : decode prog_69_method_7_code 5 = .ok (.iload 4, 2) := by decide +kernel
theorem d5_7 : decode prog_69_method_7_code 7 = .ok (.aload_n 0, 1) := by decide +kernel
theorem d5_8 : decode prog_69_method_7_code 8 = .ok (.getfield 11, 3) := by decide +kernel
theorem d5_11 : decode prog_69_method_7_code 11 = .ok (.arraylength, 1) := by decide +kernel
theorem d5_12 : decode prog_69_method_7_code 12 = .ok (.if_icmp .ge 24, 3) := by decide +kernel
theorem d5_15 : decode prog_69_method_7_code 15 = .ok (.aload_n 0, 1) := by decide +kernel
theorem d5_16 : decode prog_69_method_7_code 16 = .ok (.getfield 11, 3) := by decide +kernel
theorem d5_19 : decode prog_69_method_7_code 19 = .ok (.iload 4, 2) := by decide +kernel
theorem d5_21 : decode prog_69_method_7_code 21 = .ok (.laload, 1) := by decide +kernel
theorem d5_22 : decode prog_69_method_7_code 22 = .ok (.lload_n 1, 1) := by decide +kernel
theorem d5_23 : decode prog_69_method_7_code 23 = .ok (.lcmp, 1) := by decide +kernel
theorem d5_24 : decode prog_69_method_7_code 24 = .ok (.ifCond .le 6, 3) := by decide +kernel
theorem d5_27 : decode prog_69_method_7_code 27 = .ok (.iinc 3 1, 3) := by decide +kernel
theorem d5_30 : decode prog_69_method_7_code 30 = .ok (.iinc 4 2, 3) := by decide +kernel
theorem d5_33 : decode prog_69_method_7_code 33 = .ok (.goto (-28), 3) := by decide +kernel
theorem d5_36 : decode prog_69_method_7_code 36 = .ok (.iload_n 3, 1) := by decide +kernel
theorem d5_37 : decode prog_69_method_7_code 37 = .ok (.ireturn, 1) := by decide +kernel
theorem pn_5 : plainFor (⟨"com/example/shelfkey/shelfkey/revocation/IdTable", "live", "(J)I"⟩ : MethodName) = true := plainFor_of_name (by show plainName "com/example/shelfkey/shelfkey/revocation/IdTable" = true; first | (simp [plainName, overriddenIn]; done) | decide +kernel)
theorem ef_5 (m : MethodId) (a1 : Addr) (q2 : Int64) : entryFrame m #[(.ref a1), (.long q2)] 5 = mkF m 0 #[.val (.ref a1), .val (.long q2), .second, .unset, .unset] [] := by first | (simp [entryFrame, mkF, argsToLocals, Value.category]; done) | rfl
set_option maxRecDepth 65536 in
set_option maxHeartbeats 40000000 in
theorem rm5 (l : Launch) (Z : State) (a0 : Array Value) (hw : ∀ d ∈ tables_1, d.before a0 Z = true) (h0 : Heap) (n0 : Nat) (Z0 : n0 ≤ h0.size) (a1 : Addr) (q2 : Int64) (M : List (Int64 × Int64 × Nat)) (hT : Tbl Z h0 n0 a1 M) (hn : ¬ q2 < 0) : Ctr l Z (⟨"com/example/shelfkey/shelfkey/revocation/IdTable", "live", "(J)I"⟩ : MethodName) prog_69_method_7_code 5 (some .int) [] ({ frames := 0, cells := 0, slots := 0, locals := 0 } : Room) #[(.ref a1), (.long q2)] h0 (Pure (.int (Int32.ofNat (lc q2 M))) h0) := by
  refine ctr_mk pn_5 (own := "com/example/shelfkey/shelfkey/revocation/IdTable") (mn := "live") rfl rfl ?_
  intro p e s m below meth c T0 X0 hx hby hml hZ hown hnm hret hlk e0
  refine o_entry (ef_5 m a1 q2) ?_
  obtain ⟨b, k, f, ee, gb, ne_a1_b, hE, hS, hZz, hEe, hV, hI⟩ := hT
  rw [← hI.2.2 q2 hn]
  refine o_iconst X0 hx (pc' := 1) (v := (0 : Int32)) (hb hby d5_0) rfl rfl ?_
  refine o_istoreN X0 hx (pc' := 2) (Ls' := #[.val (.ref a1), .val (.long q2), .second, .val (.int (0 : Int32)), .unset]) (hb hby d5_1) rfl rfl ?_
  refine o_iconst X0 hx (pc' := 3) (v := (1 : Int32)) (hb hby d5_2) rfl rfl ?_
  refine o_istore X0 hx (pc' := 5) (Ls' := #[.val (.ref a1), .val (.long q2), .second, .val (.int (0 : Int32)), .val (.int (1 : Int32))]) (hb hby d5_3) rfl rfl ?_
  have loop : ∀ r j, j + r = 1024 → ∀ (T : State), Stand p l e ({ frames := 0, cells := 0, slots := 0, locals := 0 } : Room) s m #[(.ref a1), (.long q2)] below meth c T [] 0 0 → T.heap = h0 → Dn p e below (PQ below s (Pure (.int (Int32.ofNat (cnt f q2 1024))) h0) 0 0) (T.setTop (mkF m 5 #[.val (.ref a1), .val (.long q2), .second, .val (.int (Int32.ofNat (cnt f q2 j))), .val (.int (Int32.ofNat (2 * j + 1)))] [])) := by
    intro r
    induction r with
    | zero =>
      intro j hj T1 X1 e1
      obtain rfl : j = 1024 := hj
      refine o_iload X1 hx (pc' := 7) (hb hby d5_5) rfl rfl ?_
      refine o_aloadN X1 hx (pc' := 8) (hb hby d5_7) rfl rfl rfl ?_
      refine o_getfield X1 hx hZ hown (hw _ (List.mem_of_getElem? (i := 19) rfl)) e1 hS (hb hby d5_8) (pc' := 11) rfl ?_
      intro T101 X101 e101
      refine o_arraylength X101 hx hZ e101 hV (hb hby d5_11) (pc' := 12) rfl ?_
      refine o_icmp_ge X101 hx (pc' := 15) (pt := 36) (hb hby d5_12) rfl (by decide) (by decide) (fun _ => ?_) (fun q => absurd q (by decide +kernel))
      refine o_iloadN X101 hx (pc' := 37) (hb hby d5_36) rfl rfl ?_
      exact finI X101 hx hlk hret (hb hby d5_37) (by decide) (by decide) ⟨rfl, rfl, e101⟩
    | succ r ih =>
      intro j hj T1 X1 e1
      have hl : j < 1024 := by omega
      refine o_iload X1 hx (pc' := 7) (hb hby d5_5) rfl rfl ?_
      refine o_aloadN X1 hx (pc' := 8) (hb hby d5_7) rfl rfl rfl ?_
      refine o_getfield X1 hx hZ hown (hw _ (List.mem_of_getElem? (i := 19) rfl)) e1 hS (hb hby d5_8) (pc' := 11) rfl ?_
      intro T201 X201 e201
      refine o_arraylength X201 hx hZ e201 hV (hb hby d5_11) (pc' := 12) rfl ?_
      refine o_icmp_ge X201 hx (pc' := 15) (pt := 36) (hb hby d5_12) rfl (by decide) (by decide) (fun q => absurd (own_ji hl).1.2 q) (fun _ => ?_)
      refine o_aloadN X201 hx (pc' := 16) (hb hby d5_15) rfl rfl rfl ?_
      refine o_getfield X201 hx hZ hown (hw _ (List.mem_of_getElem? (i := 19) rfl)) e201 hS (hb hby d5_16) (pc' := 19) rfl ?_
      intro T202 X202 e202
      refine o_iload X202 hx (pc' := 21) (hb hby d5_19) rfl rfl ?_
      refine o_laload X202 hx hZ e202 hV (own_ji hl).1 (v := (.long (f (2 * j + 1)))) (by rw [(own_ji hl).2]; exact own_get f (by omega) _) (hb hby d5_21) (pc' := 22) rfl ?_
      refine o_lloadN X202 hx (pc' := 23) (hb hby d5_22) rfl rfl ?_
      refine o_lcmp X202 hx (pc' := 24) (hb hby d5_23) rfl ?_
      refine o_lif_le X202 hx (pc' := 27) (pt := 30) (hb hby d5_24) rfl (by decide) (by decide) (fun hc24 => ?_) (fun hc24 => ?_)
      · skip
        refine o_iinc X202 hx (pc' := 33) (Ls' := #[.val (.ref a1), .val (.long q2), .second, .val (.int (Int32.ofNat (cnt f q2 j))), .val (.int ((Int32.ofNat (2 * j + 1)) + (2 : Int32)))]) (v := (2 : Int32)) (hb hby d5_30) rfl rfl rfl rfl ?_
        refine o_goto X202 hx (pc' := 5) (hb hby d5_33) (by decide) (by decide) ?_
        rw [own_two j]
        have q := ih (j + 1) (by omega) T202 X202 e202
        rw [show cnt f q2 (j + 1) = cnt f q2 j from by show cnt f q2 j + _ = _; rw [if_neg hc24]; rfl] at q
        exact q
      · skip
        refine o_iinc X202 hx (pc' := 30) (Ls' := #[.val (.ref a1), .val (.long q2), .second, .val (.int ((Int32.ofNat (cnt f q2 j)) + (1 : Int32))), .val (.int (Int32.ofNat (2 * j + 1)))]) (v := (1 : Int32)) (hb hby d5_27) rfl rfl rfl rfl ?_
        refine o_iinc X202 hx (pc' := 33) (Ls' := #[.val (.ref a1), .val (.long q2), .second, .val (.int ((Int32.ofNat (cnt f q2 j)) + (1 : Int32))), .val (.int ((Int32.ofNat (2 * j + 1)) + (2 : Int32)))]) (v := (2 : Int32)) (hb hby d5_30) rfl rfl rfl rfl ?_
        refine o_goto X202 hx (pc' := 5) (hb hby d5_33) (by decide) (by decide) ?_
        rw [own_two j, own_up]
        have q := ih (j + 1) (by omega) T202 X202 e202
        rw [show cnt f q2 (j + 1) = cnt f q2 j + 1 from by show cnt f q2 j + _ = _; rw [if_pos hc24]] at q
        exact q
  exact loop 1024 0 (by decide) T0 X0 e0
theorem own_n4 (x : Int32) : x &&& (3 : Int32) = 0 ∨ x &&& (3 : Int32) = 1 ∨ x &&& (3 : Int32) = 2 ∨ x &&& (3 : Int32) = 3 := by
  have e := c_mask x 3 2 (by decide) (by decide)
  have q : (x &&& (3 : Int32)).toInt = 0 ∨ (x &&& (3 : Int32)).toInt = 1 ∨ (x &&& (3 : Int32)).toInt = 2 ∨ (x &&& (3 : Int32)).toInt = 3 := by omega
  rcases q with q | q | q | q
  · exact Or.inl (Int32.toInt_inj.mp (by rw [q]; decide))
  · exact Or.inr (Or.inl (Int32.toInt_inj.mp (by rw [q]; decide)))
  · exact Or.inr (Or.inr (Or.inl (Int32.toInt_inj.mp (by rw [q]; decide))))
  · exact Or.inr (Or.inr (Or.inr (Int32.toInt_inj.mp (by rw [q]; decide))))
theorem own_nil (x : Int64) : ¬ Has' [] x := fun ⟨m, hm, _⟩ => nomatch hm
theorem own_cons {M : List (Int64 × Int64 × Nat)} {id e x : Int64} {p : Nat} : Has' ((id, e, p) :: M) x ↔ x = id ∨ Has' M x := by
  constructor
  · rintro ⟨m, hm, rfl⟩
    rcases List.mem_cons.mp hm with rfl | hm
    · exact Or.inl rfl
    · exact Or.inr ⟨m, hm, rfl⟩
  · rintro (rfl | ⟨m, hm, rfl⟩)
    · exact ⟨_, List.mem_cons_self, rfl⟩
    · exact ⟨m, List.mem_cons_of_mem _ hm, rfl⟩
theorem own_exa {Z : State} {h : Heap} {n0 : Nat} {a : Addr} {M : List (Int64 × Int64 × Nat)} (T : Tbl Z h n0 a M) : Exa Z h a "com/example/shelfkey/shelfkey/revocation/IdTable" := by
  obtain ⟨b, k, f, ee, -, -, hE, -⟩ := T
  exact hE
theorem own_now (x : Int64) : ¬ (x &&& (9223372036854775807 : Int64)) < 0 := by
  have e := c_maskL x 9223372036854775807 63 (by decide) (by decide)
  have z : (0 : Int64).toInt = 0 := by decide
  rw [Int64.lt_iff_toInt_lt, e]
  omega
theorem own_end (r now : Int64) (k : Int32) : F1 r now k ≠ 0 := by
  unfold F1
  repeat' split
  all_goals first | assumption | decide | skip
  all_goals
    intro q
    rename_i hq
    rw [q] at hq
    exact absurd hq (by decide)
theorem pd_3 : parseMethodDescriptor "(J)V" = some ⟨[.long], none⟩ := by decide +kernel
theorem pd_4 : parseMethodDescriptor "(J)I" = some ⟨[.long], some .int⟩ := by decide +kernel
theorem pd_5 : parseMethodDescriptor "(JJJ)Z" = some ⟨[.long, .long, .long], some .boolean⟩ := by decide +kernel
theorem pd_6 : parseMethodDescriptor "(JJI)J" = some ⟨[.long, .long, .int], some .long⟩ := by decide +kernel
theorem pd_7 : parseMethodDescriptor "(I)J" = some ⟨[.int], some .long⟩ := by decide +kernel
theorem pn_0 : plainFor x = true := plainFor_of_name (by show plainName "com/example/shelfkey/shelfkey/revocation/IdTableLivePinLaw" = true; first | (simp [plainName, overriddenIn]; done) | decide +kernel)
theorem ef_0 (m : MethodId) (q1 : Int64) (q2 : Int64) (q3 : Int64) (q4 : Int64) (p5 : Int32) (p6 : Int32) : entryFrame m #[(.long q1), (.long q2), (.long q3), (.long q4), (.int p5), (.int p6)] maxLocals = mkF m 0 #[.val (.long q1), .second, .val (.long q2), .second, .val (.long q3), .second, .val (.long q4), .second, .val (.int p5), .val (.int p6), .unset, .unset, .unset, .unset, .unset, .unset, .unset, .unset, .unset, .unset, .unset, .unset, .unset, .unset, .unset, .unset, .unset] [] := by first | (simp [entryFrame, mkF, argsToLocals, Value.category, maxLocals]; done) | rfl
set_option maxRecDepth 65536 in
set_option maxHeartbeats 40000000 in
theorem rm0 (l : Launch) (Z : State) (a0 : Array Value) (hw : ∀ d ∈ tables_1, d.before a0 Z = true) (ws : List Jvm.Cond) (h0 : Heap) (n0 : Nat) (Z0 : n0 ≤ h0.size) (q1 : Int64) (q2 : Int64) (q3 : Int64) (q4 : Int64) (p5 : Int32) (p6 : Int32)  : Ctr l Z x code maxLocals ret ws room_1 #[(.long q1), (.long q2), (.long q3), (.long q4), (.int p5), (.int p6)] h0 (fun v h L => v = some (.int 1) ∧ Fr n0 L) := by
  refine ctr_mk pn_0 (own := "com/example/shelfkey/shelfkey/revocation/IdTableLivePinLaw") (mn := "law") rfl rfl ?_
  intro p e s m below meth c T0 X0 hx hby hml hZ hown hnm hret hlk e0
  refine o_entry (ef_0 m q1 q2 q3 q4 p5 p6) ?_
  refine o_lloadN X0 hx (pc' := 1) (hb hby at_0) rfl rfl ?_
  refine o_ldc2 X0 hx hZ hown (hw _ (List.mem_of_getElem? (i := 0) rfl)) (pc' := 4) (hb hby at_1) rfl ?_
  refine o_land X0 hx (pc' := 5) (hb hby at_4) rfl ?_
  refine o_lstore X0 hx (pc' := 7) (Ls' := #[.val (.long q1), .second, .val (.long q2), .second, .val (.long q3), .second, .val (.long q4), .second, .val (.int p5), .val (.int p6), .val (.long (q1 &&& (9223372036854775807 : Int64))), .second, .unset, .unset, .unset, .unset, .unset, .unset, .unset, .unset, .unset, .unset, .unset, .unset, .unset, .unset, .unset]) (hb hby at_5) rfl rfl ?_
  refine o_iload X0 hx (pc' := 9) (hb hby at_7) rfl rfl ?_
  refine o_iconst X0 hx (pc' := 10) (v := (3 : Int32)) (hb hby at_9) rfl rfl ?_
  refine o_iand X0 hx (pc' := 11) (hb hby at_10) rfl ?_
  refine o_istore X0 hx (pc' := 13) (Ls' := #[.val (.long q1), .second, .val (.long q2), .second, .val (.long q3), .second, .val (.long q4), .second, .val (.int p5), .val (.int p6), .val (.long (q1 &&& (9223372036854775807 : Int64))), .second, .val (.int (p6 &&& (3 : Int32))), .unset, .unset, .unset, .unset, .unset, .unset, .unset, .unset, .unset, .unset, .unset, .unset, .unset, .unset]) (hb hby at_11) rfl rfl ?_
  have J88 : ∀ (T1 : State) (now : Int64) (en1 : Int64) (en2 : Int64) (en3 : Int64) (i1 : Int64) (i2 : Int64) (i3 : Int64), Stand p l e room_1 s m #[(.long q1), (.long q2), (.long q3), (.long q4), (.int p5), (.int p6)] below meth c T1 [] 0 0 → T1.heap = h0 → ¬ now < 0 → en1 ≠ 0 → en2 ≠ 0 → en3 ≠ 0 → Dn p e below (PQ below s (fun v h L => v = some (.int 1) ∧ Fr n0 L) room_1.cells room_1.slots) (T1.setTop (mkF m 88 #[.val (.long q1), .second, .val (.long q2), .second, .val (.long q3), .second, .val (.long q4), .second, .val (.int p5), .val (.int p6), .val (.long now), .second, .val (.int (p6 &&& (3 : Int32))), .val (.long en1), .second, .val (.long en2), .second, .val (.long en3), .second, .val (.long i1), .second, .val (.long i2), .second, .val (.long i3), .second, .unset, .unset] [])) := by
    intro T1 now en1 en2 en3 i1 i2 i3 X1 e1 hnow he1 he2 he3
    rcases own_n4 p6 with hn4 | hn4 | hn4 | hn4
    · rw [hn4]
      show Dn p e below _ (T1.setTop (mkF m 88 #[.val (.long q1), .second, .val (.long q2), .second, .val (.long q3), .second, .val (.long q4), .second, .val (.int p5), .val (.int p6), .val (.long now), .second, .val (.int (0 : Int32)), .val (.long en1), .second, .val (.long en2), .second, .val (.long en3), .second, .val (.long i1), .second, .val (.long i2), .second, .val (.long i3), .second, .unset, .unset] []))
      have NN := Fr.nil n0
      have ZZ := Z0
      refine o_new X1 hx hZ hown (hw _ (List.mem_of_getElem? (i := 9) rfl)) (hw _ (List.mem_of_getElem? (i := 10) rfl)) (hw _ (List.mem_of_getElem? (i := 11) rfl)) e1 (hb hby at_88) (pc' := 91) rfl (by decide) (by decide) ?_
      intro T2 h2 b2 g2 X2 e2 E2 A2 D2
      have g_b2 : n0 ≤ b2 := Nat.le_trans ZZ (Nat.le_of_eq g2.symm)
      have ZZ := Nat.le_trans ZZ E2.1
      have hE := A2
      have hS : Fld Z h2 b2 "com/example/shelfkey/shelfkey/revocation/IdTable" "slots" "[J" .null := D2 (Or.inl (hw _ (List.mem_of_getElem? (i := 20) rfl))) (ty := (.array .long)) (by decide)
      have hZz : Fld Z h2 b2 "com/example/shelfkey/shelfkey/revocation/IdTable" "size" "I" (.int 0) := D2 (Or.inl (hw _ (List.mem_of_getElem? (i := 50) rfl))) (ty := .int) (by decide)
      have hEe : Fld Z h2 b2 "com/example/shelfkey/shelfkey/revocation/IdTable" "earliestEnd" "J" (.long 0) := D2 (Or.inl (hw _ (List.mem_of_getElem? (i := 23) rfl))) (ty := .long) (by decide)
      have hM : Fld Z h2 b2 "com/example/shelfkey/shelfkey/revocation/IdTable" "mostSlots" "I" (.int 0) := D2 (Or.inr (hw _ (List.mem_of_getElem? (i := 28) rfl))) (ty := .int) (by decide)
      refine o_dup X2 hx (pc' := 92) (hb hby at_91) rfl rfl ?_
      refine o_lconst X2 hx (pc' := 93) (v := (0 : Int64)) (hb hby at_92) rfl rfl ?_
      refine o_callI X2 hx hZ b2 [(.long (0 : Int64))] (rm3 l Z a0 hw h2 n0 ZZ b2 hE hS hZz hEe hM g_b2) rfl hown (hw _ (List.mem_of_getElem? (i := 12) rfl)) (hw _ (List.mem_of_getElem? (i := 13) rfl)) (hw _ (List.mem_of_getElem? (i := 11) rfl)) (hw _ (List.mem_of_getElem? (i := 14) rfl)) (by decide) pd_3 e2 (by rw [hml]; rfl) rfl rfl rfl (hb hby at_93) (pc' := 96) rfl 1 (Nat.le_of_eq rfl) (by decide) (by decide) (by decide) (by decide) ?_
      intro T3 v3 L3 X3 hQ3
      obtain ⟨rfl, Nq, hz, hT⟩ := hQ3
      have NN := Fr.app NN Nq
      have ZZ := Nat.le_trans ZZ hz
      show Dn p e below _ (T3.setTop (mkF m 96 #[.val (.long q1), .second, .val (.long q2), .second, .val (.long q3), .second, .val (.long q4), .second, .val (.int p5), .val (.int p6), .val (.long now), .second, .val (.int (0 : Int32)), .val (.long en1), .second, .val (.long en2), .second, .val (.long en3), .second, .val (.long i1), .second, .val (.long i2), .second, .val (.long i3), .second, .unset, .unset] [(.ref b2)]))
      refine o_astore X3 hx (pc' := 98) (Ls' := #[.val (.long q1), .second, .val (.long q2), .second, .val (.long q3), .second, .val (.long q4), .second, .val (.int p5), .val (.int p6), .val (.long now), .second, .val (.int (0 : Int32)), .val (.long en1), .second, .val (.long en2), .second, .val (.long en3), .second, .val (.long i1), .second, .val (.long i2), .second, .val (.long i3), .second, .val (.ref b2), .unset]) (hb hby at_96) rfl rfl rfl ?_
      refine o_iconst X3 hx (pc' := 99) (v := (0 : Int32)) (hb hby at_98) rfl rfl ?_
      refine o_istore X3 hx (pc' := 101) (Ls' := #[.val (.long q1), .second, .val (.long q2), .second, .val (.long q3), .second, .val (.long q4), .second, .val (.int p5), .val (.int p6), .val (.long now), .second, .val (.int (0 : Int32)), .val (.long en1), .second, .val (.long en2), .second, .val (.long en3), .second, .val (.long i1), .second, .val (.long i2), .second, .val (.long i3), .second, .val (.ref b2), .val (.int (0 : Int32))]) (hb hby at_99) rfl rfl ?_
      have J212 : ∀ (T4 : State) (LL : List Loc) (x : Int32) (M : List (Int64 × Int64 × Nat)), Stand p l e room_1 s m #[(.long q1), (.long q2), (.long q3), (.long q4), (.int p5), (.int p6)] below meth c T4 LL 2 2052 → Fr n0 LL → n0 ≤ T4.heap.size → Tbl Z T4.heap n0 b2 M → M.length ≤ 0 → x = Int32.ofNat (lc now M) → (∀ y, Has' M y ↔ False) → Dn p e below (PQ below s (fun v h L => v = some (.int 1) ∧ Fr n0 L) room_1.cells room_1.slots) (T4.setTop (mkF m 212 #[.val (.long q1), .second, .val (.long q2), .second, .val (.long q3), .second, .val (.long q4), .second, .val (.int p5), .val (.int p6), .val (.long now), .second, .val (.int (0 : Int32)), .val (.long en1), .second, .val (.long en2), .second, .val (.long en3), .second, .val (.long i1), .second, .val (.long i2), .second, .val (.long i3), .second, .val (.ref b2), .val (.int x)] [])) := by
        intro T4 LL x M X4 NN ZZ hT hL hx_ hK
        refine o_aload X4 hx (pc' := 214) (hb hby at_212) rfl rfl rfl ?_
        refine o_lload X4 hx (pc' := 216) (hb hby at_214) rfl rfl ?_
        refine o_callVP X4 hx hZ b2 [(.long now)] (rm5 l Z a0 hw T4.heap n0 ZZ b2 now M hT hnow) hown (hw _ (List.mem_of_getElem? (i := 29) rfl)) (hw _ (List.mem_of_getElem? (i := 30) rfl)) (hw _ (List.mem_of_getElem? (i := 32) rfl)) (hw _ (List.mem_of_getElem? (i := 31) rfl)) (hw _ (List.mem_of_getElem? (i := 11) rfl)) (hw _ (List.mem_of_getElem? (i := 33) rfl)) (by decide) (own_exa hT) pd_4 rfl (by rw [hml]; rfl) rfl rfl rfl (hb hby at_216) (pc' := 219) rfl 0 (Nat.le_of_eq rfl) (by decide) (by decide) rfl rfl (by decide) (by decide) ?_
        intro T5 X5 e5
        show Dn p e below _ (T5.setTop (mkF m 219 #[.val (.long q1), .second, .val (.long q2), .second, .val (.long q3), .second, .val (.long q4), .second, .val (.int p5), .val (.int p6), .val (.long now), .second, .val (.int (0 : Int32)), .val (.long en1), .second, .val (.long en2), .second, .val (.long en3), .second, .val (.long i1), .second, .val (.long i2), .second, .val (.long i3), .second, .val (.ref b2), .val (.int x)] [(.int (Int32.ofNat (lc now M)))]))
        refine o_iload X5 hx (pc' := 221) (hb hby at_219) rfl rfl ?_
        refine o_icmp_ne X5 hx (pc' := 224) (pt := 228) (hb hby at_221) rfl (by decide) (by decide) (fun q => absurd hx_.symm q) (fun _ => ?_)
        refine o_iconst X5 hx (pc' := 225) (v := (1 : Int32)) (hb hby at_224) rfl rfl ?_
        refine o_goto X5 hx (pc' := 229) (hb hby at_225) (by decide) (by decide) ?_
        exact finN X5 hx hlk (t := .boolean) hret (by simp) (hb hby at_229) (by decide) (by decide) ⟨rfl, NN⟩
      refine o_iload X3 hx (pc' := 103) (hb hby at_101) rfl rfl ?_
      refine o_iconst X3 hx (pc' := 104) (v := (1 : Int32)) (hb hby at_103) rfl rfl ?_
      refine o_icmp_lt X3 hx (pc' := 107) (pt := 130) (hb hby at_104) rfl (by decide) (by decide) (fun _ => ?_) (fun q => absurd (by decide) q)
      refine o_iload X3 hx (pc' := 132) (hb hby at_130) rfl rfl ?_
      refine o_iconst X3 hx (pc' := 133) (v := (2 : Int32)) (hb hby at_132) rfl rfl ?_
      refine o_icmp_lt X3 hx (pc' := 136) (pt := 167) (hb hby at_133) rfl (by decide) (by decide) (fun _ => ?_) (fun q => absurd (by decide) q)
      refine o_iload X3 hx (pc' := 169) (hb hby at_167) rfl rfl ?_
      refine o_iconst X3 hx (pc' := 170) (v := (3 : Int32)) (hb hby at_169) rfl rfl ?_
      refine o_icmp_lt X3 hx (pc' := 173) (pt := 212) (hb hby at_170) rfl (by decide) (by decide) (fun _ => ?_) (fun q => absurd (by decide) q)
      exact J212 T3 _ _ _ X3 NN ZZ hT (by decide) rfl (fun y => ⟨fun q => own_nil _ q, fun q => q.elim⟩)
    · rw [hn4]
      show Dn p e below _ (T1.setTop (mkF m 88 #[.val (.long q1), .second, .val (.long q2), .second, .val (.long q3), .second, .val (.long q4), .second, .val (.int p5), .val (.int p6), .val (.long now), .second, .val (.int (1 : Int32)), .val (.long en1), .second, .val (.long en2), .second, .val (.long en3), .second, .val (.long i1), .second, .val (.long i2), .second, .val (.long i3), .second, .unset, .unset] []))
      have NN := Fr.nil n0
      have ZZ := Z0
      refine o_new X1 hx hZ hown (hw _ (List.mem_of_getElem? (i := 9) rfl)) (hw _ (List.mem_of_getElem? (i := 10) rfl)) (hw _ (List.mem_of_getElem? (i := 11) rfl)) e1 (hb hby at_88) (pc' := 91) rfl (by decide) (by decide) ?_
      intro T6 h6 b6 g6 X6 e6 E6 A6 D6
      have g_b6 : n0 ≤ b6 := Nat.le_trans ZZ (Nat.le_of_eq g6.symm)
      have ZZ := Nat.le_trans ZZ E6.1
      have hE := A6
      have hS : Fld Z h6 b6 "com/example/shelfkey/shelfkey/revocation/IdTable" "slots" "[J" .null := D6 (Or.inl (hw _ (List.mem_of_getElem? (i := 20) rfl))) (ty := (.array .long)) (by decide)
      have hZz : Fld Z h6 b6 "com/example/shelfkey/shelfkey/revocation/IdTable" "size" "I" (.int 0) := D6 (Or.inl (hw _ (List.mem_of_getElem? (i := 50) rfl))) (ty := .int) (by decide)
      have hEe : Fld Z h6 b6 "com/example/shelfkey/shelfkey/revocation/IdTable" "earliestEnd" "J" (.long 0) := D6 (Or.inl (hw _ (List.mem_of_getElem? (i := 23) rfl))) (ty := .long) (by decide)
      have hM : Fld Z h6 b6 "com/example/shelfkey/shelfkey/revocation/IdTable" "mostSlots" "I" (.int 0) := D6 (Or.inr (hw _ (List.mem_of_getElem? (i := 28) rfl))) (ty := .int) (by decide)
      refine o_dup X6 hx (pc' := 92) (hb hby at_91) rfl rfl ?_
      refine o_lconst X6 hx (pc' := 93) (v := (0 : Int64)) (hb hby at_92) rfl rfl ?_
      refine o_callI X6 hx hZ b6 [(.long (0 : Int64))] (rm3 l Z a0 hw h6 n0 ZZ b6 hE hS hZz hEe hM g_b6) rfl hown (hw _ (List.mem_of_getElem? (i := 12) rfl)) (hw _ (List.mem_of_getElem? (i := 13) rfl)) (hw _ (List.mem_of_getElem? (i := 11) rfl)) (hw _ (List.mem_of_getElem? (i := 14) rfl)) (by decide) pd_3 e6 (by rw [hml]; rfl) rfl rfl rfl (hb hby at_93) (pc' := 96) rfl 1 (Nat.le_of_eq rfl) (by decide) (by decide) (by decide) (by decide) ?_
      intro T7 v7 L7 X7 hQ7
      obtain ⟨rfl, Nq, hz, hT⟩ := hQ7
      have NN := Fr.app NN Nq
      have ZZ := Nat.le_trans ZZ hz
      show Dn p e below _ (T7.setTop (mkF m 96 #[.val (.long q1), .second, .val (.long q2), .second, .val (.long q3), .second, .val (.long q4), .second, .val (.int p5), .val (.int p6), .val (.long now), .second, .val (.int (1 : Int32)), .val (.long en1), .second, .val (.long en2), .second, .val (.long en3), .second, .val (.long i1), .second, .val (.long i2), .second, .val (.long i3), .second, .unset, .unset] [(.ref b6)]))
      refine o_astore X7 hx (pc' := 98) (Ls' := #[.val (.long q1), .second, .val (.long q2), .second, .val (.long q3), .second, .val (.long q4), .second, .val (.int p5), .val (.int p6), .val (.long now), .second, .val (.int (1 : Int32)), .val (.long en1), .second, .val (.long en2), .second, .val (.long en3), .second, .val (.long i1), .second, .val (.long i2), .second, .val (.long i3), .second, .val (.ref b6), .unset]) (hb hby at_96) rfl rfl rfl ?_
      refine o_iconst X7 hx (pc' := 99) (v := (0 : Int32)) (hb hby at_98) rfl rfl ?_
      refine o_istore X7 hx (pc' := 101) (Ls' := #[.val (.long q1), .second, .val (.long q2), .second, .val (.long q3), .second, .val (.long q4), .second, .val (.int p5), .val (.int p6), .val (.long now), .second, .val (.int (1 : Int32)), .val (.long en1), .second, .val (.long en2), .second, .val (.long en3), .second, .val (.long i1), .second, .val (.long i2), .second, .val (.long i3), .second, .val (.ref b6), .val (.int (0 : Int32))]) (hb hby at_99) rfl rfl ?_
      have J212 : ∀ (T8 : State) (LL : List Loc) (x : Int32) (M : List (Int64 × Int64 × Nat)), Stand p l e room_1 s m #[(.long q1), (.long q2), (.long q3), (.long q4), (.int p5), (.int p6)] below meth c T8 LL 2 2052 → Fr n0 LL → n0 ≤ T8.heap.size → Tbl Z T8.heap n0 b6 M → M.length ≤ 1 → x = Int32.ofNat (lc now M) → (∀ y, Has' M y ↔ y = i1 ∨ False) → Dn p e below (PQ below s (fun v h L => v = some (.int 1) ∧ Fr n0 L) room_1.cells room_1.slots) (T8.setTop (mkF m 212 #[.val (.long q1), .second, .val (.long q2), .second, .val (.long q3), .second, .val (.long q4), .second, .val (.int p5), .val (.int p6), .val (.long now), .second, .val (.int (1 : Int32)), .val (.long en1), .second, .val (.long en2), .second, .val (.long en3), .second, .val (.long i1), .second, .val (.long i2), .second, .val (.long i3), .second, .val (.ref b6), .val (.int x)] [])) := by
        intro T8 LL x M X8 NN ZZ hT hL hx_ hK
        refine o_aload X8 hx (pc' := 214) (hb hby at_212) rfl rfl rfl ?_
        refine o_lload X8 hx (pc' := 216) (hb hby at_214) rfl rfl ?_
        refine o_callVP X8 hx hZ b6 [(.long now)] (rm5 l Z a0 hw T8.heap n0 ZZ b6 now M hT hnow) hown (hw _ (List.mem_of_getElem? (i := 29) rfl)) (hw _ (List.mem_of_getElem? (i := 30) rfl)) (hw _ (List.mem_of_getElem? (i := 32) rfl)) (hw _ (List.mem_of_getElem? (i := 31) rfl)) (hw _ (List.mem_of_getElem? (i := 11) rfl)) (hw _ (List.mem_of_getElem? (i := 33) rfl)) (by decide) (own_exa hT) pd_4 rfl (by rw [hml]; rfl) rfl rfl rfl (hb hby at_216) (pc' := 219) rfl 0 (Nat.le_of_eq rfl) (by decide) (by decide) rfl rfl (by decide) (by decide) ?_
        intro T9 X9 e9
        show Dn p e below _ (T9.setTop (mkF m 219 #[.val (.long q1), .second, .val (.long q2), .second, .val (.long q3), .second, .val (.long q4), .second, .val (.int p5), .val (.int p6), .val (.long now), .second, .val (.int (1 : Int32)), .val (.long en1), .second, .val (.long en2), .second, .val (.long en3), .second, .val (.long i1), .second, .val (.long i2), .second, .val (.long i3), .second, .val (.ref b6), .val (.int x)] [(.int (Int32.ofNat (lc now M)))]))
        refine o_iload X9 hx (pc' := 221) (hb hby at_219) rfl rfl ?_
        refine o_icmp_ne X9 hx (pc' := 224) (pt := 228) (hb hby at_221) rfl (by decide) (by decide) (fun q => absurd hx_.symm q) (fun _ => ?_)
        refine o_iconst X9 hx (pc' := 225) (v := (1 : Int32)) (hb hby at_224) rfl rfl ?_
        refine o_goto X9 hx (pc' := 229) (hb hby at_225) (by decide) (by decide) ?_
        exact finN X9 hx hlk (t := .boolean) hret (by simp) (hb hby at_229) (by decide) (by decide) ⟨rfl, NN⟩
      have J130 : ∀ (T10 : State) (LL : List Loc) (x : Int32) (M : List (Int64 × Int64 × Nat)), Stand p l e room_1 s m #[(.long q1), (.long q2), (.long q3), (.long q4), (.int p5), (.int p6)] below meth c T10 LL 2 2052 → Fr n0 LL → n0 ≤ T10.heap.size → Tbl Z T10.heap n0 b6 M → M.length ≤ 1 → x = Int32.ofNat (lc now M) → (∀ y, Has' M y ↔ y = i1 ∨ False) → Dn p e below (PQ below s (fun v h L => v = some (.int 1) ∧ Fr n0 L) room_1.cells room_1.slots) (T10.setTop (mkF m 130 #[.val (.long q1), .second, .val (.long q2), .second, .val (.long q3), .second, .val (.long q4), .second, .val (.int p5), .val (.int p6), .val (.long now), .second, .val (.int (1 : Int32)), .val (.long en1), .second, .val (.long en2), .second, .val (.long en3), .second, .val (.long i1), .second, .val (.long i2), .second, .val (.long i3), .second, .val (.ref b6), .val (.int x)] [])) := by
        intro T10 LL x M X10 NN ZZ hT hL hx_ hK
        refine o_iload X10 hx (pc' := 132) (hb hby at_130) rfl rfl ?_
        refine o_iconst X10 hx (pc' := 133) (v := (2 : Int32)) (hb hby at_132) rfl rfl ?_
        refine o_icmp_lt X10 hx (pc' := 136) (pt := 167) (hb hby at_133) rfl (by decide) (by decide) (fun _ => ?_) (fun q => absurd (by decide) q)
        refine o_iload X10 hx (pc' := 169) (hb hby at_167) rfl rfl ?_
        refine o_iconst X10 hx (pc' := 170) (v := (3 : Int32)) (hb hby at_169) rfl rfl ?_
        refine o_icmp_lt X10 hx (pc' := 173) (pt := 212) (hb hby at_170) rfl (by decide) (by decide) (fun _ => ?_) (fun q => absurd (by decide) q)
        exact J212 T10 _ _ _ X10 NN ZZ hT hL hx_ hK
      have B1 : ∀ (T11 : State) (LL : List Loc) (x : Int32) (M : List (Int64 × Int64 × Nat)), Stand p l e room_1 s m #[(.long q1), (.long q2), (.long q3), (.long q4), (.int p5), (.int p6)] below meth c T11 LL 2 2052 → Fr n0 LL → n0 ≤ T11.heap.size → Tbl Z T11.heap n0 b6 M → M.length ≤ 0 → x = Int32.ofNat (lc now M) → (∀ y, Has' M y ↔ False) → Dn p e below (PQ below s (fun v h L => v = some (.int 1) ∧ Fr n0 L) room_1.cells room_1.slots) (T11.setTop (mkF m 101 #[.val (.long q1), .second, .val (.long q2), .second, .val (.long q3), .second, .val (.long q4), .second, .val (.int p5), .val (.int p6), .val (.long now), .second, .val (.int (1 : Int32)), .val (.long en1), .second, .val (.long en2), .second, .val (.long en3), .second, .val (.long i1), .second, .val (.long i2), .second, .val (.long i3), .second, .val (.ref b6), .val (.int x)] [])) := by
        intro T11 LL x M X11 NN ZZ hT hL hx_ hK
        refine o_iload X11 hx (pc' := 103) (hb hby at_101) rfl rfl ?_
        refine o_iconst X11 hx (pc' := 104) (v := (1 : Int32)) (hb hby at_103) rfl rfl ?_
        refine o_icmp_lt X11 hx (pc' := 107) (pt := 130) (hb hby at_104) rfl (by decide) (by decide) (fun q => absurd q (by decide)) (fun _ => ?_)
        refine o_aload X11 hx (pc' := 109) (hb hby at_107) rfl rfl rfl ?_
        refine o_lload X11 hx (pc' := 111) (hb hby at_109) rfl rfl ?_
        refine o_lload X11 hx (pc' := 113) (hb hby at_111) rfl rfl ?_
        refine o_lload X11 hx (pc' := 115) (hb hby at_113) rfl rfl ?_
        refine o_callV X11 hx hZ b6 [(.long i1), (.long en1), (.long now)] (rm6 l Z a0 hw T11.heap n0 ZZ b6 i1 en1 now M hT (by omega) he1 g_b6) hown (hw _ (List.mem_of_getElem? (i := 36) rfl)) (hw _ (List.mem_of_getElem? (i := 37) rfl)) (hw _ (List.mem_of_getElem? (i := 39) rfl)) (hw _ (List.mem_of_getElem? (i := 38) rfl)) (hw _ (List.mem_of_getElem? (i := 11) rfl)) (hw _ (List.mem_of_getElem? (i := 40) rfl)) (by decide) (own_exa hT) pd_5 rfl (by rw [hml]; rfl) rfl rfl rfl (hb hby at_115) (pc' := 118) rfl 0 (Nat.le_of_eq rfl) (by decide) (by decide) (by decide) (by decide) ?_
        intro T12 v12 L12 X12 hQ12
        obtain ⟨rfl, Nq, hz, hT⟩ := hQ12
        have NN := Fr.app NN Nq
        have ZZ := Nat.le_trans ZZ hz
        show Dn p e below _ (T12.setTop (mkF m 118 #[.val (.long q1), .second, .val (.long q2), .second, .val (.long q3), .second, .val (.long q4), .second, .val (.int p5), .val (.int p6), .val (.long now), .second, .val (.int (1 : Int32)), .val (.long en1), .second, .val (.long en2), .second, .val (.long en3), .second, .val (.long i1), .second, .val (.long i2), .second, .val (.long i3), .second, .val (.ref b6), .val (.int x)] [(.int (1 : Int32))]))
        refine o_pop X12 hx (pc' := 119) (hb hby at_118) rfl rfl ?_
        refine o_lload X12 hx (pc' := 121) (hb hby at_119) rfl rfl ?_
        refine o_lload X12 hx (pc' := 123) (hb hby at_121) rfl rfl ?_
        refine o_lcmp X12 hx (pc' := 124) (hb hby at_123) rfl ?_
        obtain ⟨-, pp, hT⟩ := hT.resolve_left (fun q => absurd q.1 (by rw [hK]; simp [own_nil]))
        refine o_lif_le X12 hx (pc' := 127) (pt := 130) (hb hby at_124) rfl (by decide) (by decide) (fun hce => ?_) (fun hce => ?_)
        · skip
          exact J130 T12 _ _ _ X12 NN ZZ hT (by simp only [List.length_cons]; omega) (by rw [hx_]; show Int32.ofNat _ = Int32.ofNat (lc now M + _); rw [if_neg hce]; rfl) (fun y => by rw [own_cons, hK])
        · skip
          refine o_iinc X12 hx (pc' := 130) (Ls' := #[.val (.long q1), .second, .val (.long q2), .second, .val (.long q3), .second, .val (.long q4), .second, .val (.int p5), .val (.int p6), .val (.long now), .second, .val (.int (1 : Int32)), .val (.long en1), .second, .val (.long en2), .second, .val (.long en3), .second, .val (.long i1), .second, .val (.long i2), .second, .val (.long i3), .second, .val (.ref b6), .val (.int (x + (1 : Int32)))]) (v := (1 : Int32)) (hb hby at_127) rfl rfl rfl rfl ?_
          exact J130 T12 _ _ _ X12 NN ZZ hT (by simp only [List.length_cons]; omega) (by rw [hx_]; show Int32.ofNat _ + (1 : Int32) = Int32.ofNat (lc now M + _); rw [if_pos hce, own_up]) (fun y => by rw [own_cons, hK])
      exact B1 T7 _ _ _ X7 NN ZZ hT (by decide) rfl (fun y => ⟨fun q => own_nil _ q, fun q => q.elim⟩)
    · rw [hn4]
      show Dn p e below _ (T1.setTop (mkF m 88 #[.val (.long q1), .second, .val (.long q2), .second, .val (.long q3), .second, .val (.long q4), .second, .val (.int p5), .val (.int p6), .val (.long now), .second, .val (.int (2 : Int32)), .val (.long en1), .second, .val (.long en2), .second, .val (.long en3), .second, .val (.long i1), .second, .val (.long i2), .second, .val (.long i3), .second, .unset, .unset] []))
      have NN := Fr.nil n0
      have ZZ := Z0
      refine o_new X1 hx hZ hown (hw _ (List.mem_of_getElem? (i := 9) rfl)) (hw _ (List.mem_of_getElem? (i := 10) rfl)) (hw _ (List.mem_of_getElem? (i := 11) rfl)) e1 (hb hby at_88) (pc' := 91) rfl (by decide) (by decide) ?_
      intro T13 h13 b13 g13 X13 e13 E13 A13 D13
      have g_b13 : n0 ≤ b13 := Nat.le_trans ZZ (Nat.le_of_eq g13.symm)
      have ZZ := Nat.le_trans ZZ E13.1
      have hE := A13
      have hS : Fld Z h13 b13 "com/example/shelfkey/shelfkey/revocation/IdTable" "slots" "[J" .null := D13 (Or.inl (hw _ (List.mem_of_getElem? (i := 20) rfl))) (ty := (.array .long)) (by decide)
      have hZz : Fld Z h13 b13 "com/example/shelfkey/shelfkey/revocation/IdTable" "size" "I" (.int 0) := D13 (Or.inl (hw _ (List.mem_of_getElem? (i := 50) rfl))) (ty := .int) (by decide)
      have hEe : Fld Z h13 b13 "com/example/shelfkey/shelfkey/revocation/IdTable" "earliestEnd" "J" (.long 0) := D13 (Or.inl (hw _ (List.mem_of_getElem? (i := 23) rfl))) (ty := .long) (by decide)
      have hM : Fld Z h13 b13 "com/example/shelfkey/shelfkey/revocation/IdTable" "mostSlots" "I" (.int 0) := D13 (Or.inr (hw _ (List.mem_of_getElem? (i := 28) rfl))) (ty := .int) (by decide)
      refine o_dup X13 hx (pc' := 92) (hb hby at_91) rfl rfl ?_
      refine o_lconst X13 hx (pc' := 93) (v := (0 : Int64)) (hb hby at_92) rfl rfl ?_
      refine o_callI X13 hx hZ b13 [(.long (0 : Int64))] (rm3 l Z a0 hw h13 n0 ZZ b13 hE hS hZz hEe hM g_b13) rfl hown (hw _ (List.mem_of_getElem? (i := 12) rfl)) (hw _ (List.mem_of_getElem? (i := 13) rfl)) (hw _ (List.mem_of_getElem? (i := 11) rfl)) (hw _ (List.mem_of_getElem? (i := 14) rfl)) (by decide) pd_3 e13 (by rw [hml]; rfl) rfl rfl rfl (hb hby at_93) (pc' := 96) rfl 1 (Nat.le_of_eq rfl) (by decide) (by decide) (by decide) (by decide) ?_
      intro T14 v14 L14 X14 hQ14
      obtain ⟨rfl, Nq, hz, hT⟩ := hQ14
      have NN := Fr.app NN Nq
      have ZZ := Nat.le_trans ZZ hz
      show Dn p e below _ (T14.setTop (mkF m 96 #[.val (.long q1), .second, .val (.long q2), .second, .val (.long q3), .second, .val (.long q4), .second, .val (.int p5), .val (.int p6), .val (.long now), .second, .val (.int (2 : Int32)), .val (.long en1), .second, .val (.long en2), .second, .val (.long en3), .second, .val (.long i1), .second, .val (.long i2), .second, .val (.long i3), .second, .unset, .unset] [(.ref b13)]))
      refine o_astore X14 hx (pc' := 98) (Ls' := #[.val (.long q1), .second, .val (.long q2), .second, .val (.long q3), .second, .val (.long q4), .second, .val (.int p5), .val (.int p6), .val (.long now), .second, .val (.int (2 : Int32)), .val (.long en1), .second, .val (.long en2), .second, .val (.long en3), .second, .val (.long i1), .second, .val (.long i2), .second, .val (.long i3), .second, .val (.ref b13), .unset]) (hb hby at_96) rfl rfl rfl ?_
      refine o_iconst X14 hx (pc' := 99) (v := (0 : Int32)) (hb hby at_98) rfl rfl ?_
      refine o_istore X14 hx (pc' := 101) (Ls' := #[.val (.long q1), .second, .val (.long q2), .second, .val (.long q3), .second, .val (.long q4), .second, .val (.int p5), .val (.int p6), .val (.long now), .second, .val (.int (2 : Int32)), .val (.long en1), .second, .val (.long en2), .second, .val (.long en3), .second, .val (.long i1), .second, .val (.long i2), .second, .val (.long i3), .second, .val (.ref b13), .val (.int (0 : Int32))]) (hb hby at_99) rfl rfl ?_
      have J212 : ∀ (T15 : State) (LL : List Loc) (x : Int32) (M : List (Int64 × Int64 × Nat)), Stand p l e room_1 s m #[(.long q1), (.long q2), (.long q3), (.long q4), (.int p5), (.int p6)] below meth c T15 LL 2 2052 → Fr n0 LL → n0 ≤ T15.heap.size → Tbl Z T15.heap n0 b13 M → M.length ≤ 2 → x = Int32.ofNat (lc now M) → (∀ y, Has' M y ↔ y = i2 ∨ y = i1 ∨ False) → Dn p e below (PQ below s (fun v h L => v = some (.int 1) ∧ Fr n0 L) room_1.cells room_1.slots) (T15.setTop (mkF m 212 #[.val (.long q1), .second, .val (.long q2), .second, .val (.long q3), .second, .val (.long q4), .second, .val (.int p5), .val (.int p6), .val (.long now), .second, .val (.int (2 : Int32)), .val (.long en1), .second, .val (.long en2), .second, .val (.long en3), .second, .val (.long i1), .second, .val (.long i2), .second, .val (.long i3), .second, .val (.ref b13), .val (.int x)] [])) := by
        intro T15 LL x M X15 NN ZZ hT hL hx_ hK
        refine o_aload X15 hx (pc' := 214) (hb hby at_212) rfl rfl rfl ?_
        refine o_lload X15 hx (pc' := 216) (hb hby at_214) rfl rfl ?_
        refine o_callVP X15 hx hZ b13 [(.long now)] (rm5 l Z a0 hw T15.heap n0 ZZ b13 now M hT hnow) hown (hw _ (List.mem_of_getElem? (i := 29) rfl)) (hw _ (List.mem_of_getElem? (i := 30) rfl)) (hw _ (List.mem_of_getElem? (i := 32) rfl)) (hw _ (List.mem_of_getElem? (i := 31) rfl)) (hw _ (List.mem_of_getElem? (i := 11) rfl)) (hw _ (List.mem_of_getElem? (i := 33) rfl)) (by decide) (own_exa hT) pd_4 rfl (by rw [hml]; rfl) rfl rfl rfl (hb hby at_216) (pc' := 219) rfl 0 (Nat.le_of_eq rfl) (by decide) (by decide) rfl rfl (by decide) (by decide) ?_
        intro T16 X16 e16
        show Dn p e below _ (T16.setTop (mkF m 219 #[.val (.long q1), .second, .val (.long q2), .second, .val (.long q3), .second, .val (.long q4), .second, .val (.int p5), .val (.int p6), .val (.long now), .second, .val (.int (2 : Int32)), .val (.long en1), .second, .val (.long en2), .second, .val (.long en3), .second, .val (.long i1), .second, .val (.long i2), .second, .val (.long i3), .second, .val (.ref b13), .val (.int x)] [(.int (Int32.ofNat (lc now M)))]))
        refine o_iload X16 hx (pc' := 221) (hb hby at_219) rfl rfl ?_
        refine o_icmp_ne X16 hx (pc' := 224) (pt := 228) (hb hby at_221) rfl (by decide) (by decide) (fun q => absurd hx_.symm q) (fun _ => ?_)
        refine o_iconst X16 hx (pc' := 225) (v := (1 : Int32)) (hb hby at_224) rfl rfl ?_
        refine o_goto X16 hx (pc' := 229) (hb hby at_225) (by decide) (by decide) ?_
        exact finN X16 hx hlk (t := .boolean) hret (by simp) (hb hby at_229) (by decide) (by decide) ⟨rfl, NN⟩
      have J167 : ∀ (T17 : State) (LL : List Loc) (x : Int32) (M : List (Int64 × Int64 × Nat)), Stand p l e room_1 s m #[(.long q1), (.long q2), (.long q3), (.long q4), (.int p5), (.int p6)] below meth c T17 LL 2 2052 → Fr n0 LL → n0 ≤ T17.heap.size → Tbl Z T17.heap n0 b13 M → M.length ≤ 2 → x = Int32.ofNat (lc now M) → (∀ y, Has' M y ↔ y = i2 ∨ y = i1 ∨ False) → Dn p e below (PQ below s (fun v h L => v = some (.int 1) ∧ Fr n0 L) room_1.cells room_1.slots) (T17.setTop (mkF m 167 #[.val (.long q1), .second, .val (.long q2), .second, .val (.long q3), .second, .val (.long q4), .second, .val (.int p5), .val (.int p6), .val (.long now), .second, .val (.int (2 : Int32)), .val (.long en1), .second, .val (.long en2), .second, .val (.long en3), .second, .val (.long i1), .second, .val (.long i2), .second, .val (.long i3), .second, .val (.ref b13), .val (.int x)] [])) := by
        intro T17 LL x M X17 NN ZZ hT hL hx_ hK
        refine o_iload X17 hx (pc' := 169) (hb hby at_167) rfl rfl ?_
        refine o_iconst X17 hx (pc' := 170) (v := (3 : Int32)) (hb hby at_169) rfl rfl ?_
        refine o_icmp_lt X17 hx (pc' := 173) (pt := 212) (hb hby at_170) rfl (by decide) (by decide) (fun _ => ?_) (fun q => absurd (by decide) q)
        exact J212 T17 _ _ _ X17 NN ZZ hT hL hx_ hK
      have B2 : ∀ (T18 : State) (LL : List Loc) (x : Int32) (M : List (Int64 × Int64 × Nat)), Stand p l e room_1 s m #[(.long q1), (.long q2), (.long q3), (.long q4), (.int p5), (.int p6)] below meth c T18 LL 2 2052 → Fr n0 LL → n0 ≤ T18.heap.size → Tbl Z T18.heap n0 b13 M → M.length ≤ 1 → x = Int32.ofNat (lc now M) → (∀ y, Has' M y ↔ y = i1 ∨ False) → Dn p e below (PQ below s (fun v h L => v = some (.int 1) ∧ Fr n0 L) room_1.cells room_1.slots) (T18.setTop (mkF m 130 #[.val (.long q1), .second, .val (.long q2), .second, .val (.long q3), .second, .val (.long q4), .second, .val (.int p5), .val (.int p6), .val (.long now), .second, .val (.int (2 : Int32)), .val (.long en1), .second, .val (.long en2), .second, .val (.long en3), .second, .val (.long i1), .second, .val (.long i2), .second, .val (.long i3), .second, .val (.ref b13), .val (.int x)] [])) := by
        intro T18 LL x M X18 NN ZZ hT hL hx_ hK
        refine o_iload X18 hx (pc' := 132) (hb hby at_130) rfl rfl ?_
        refine o_iconst X18 hx (pc' := 133) (v := (2 : Int32)) (hb hby at_132) rfl rfl ?_
        refine o_icmp_lt X18 hx (pc' := 136) (pt := 167) (hb hby at_133) rfl (by decide) (by decide) (fun q => absurd q (by decide)) (fun _ => ?_)
        refine o_aload X18 hx (pc' := 138) (hb hby at_136) rfl rfl rfl ?_
        refine o_lload X18 hx (pc' := 140) (hb hby at_138) rfl rfl ?_
        refine o_lload X18 hx (pc' := 142) (hb hby at_140) rfl rfl ?_
        refine o_lload X18 hx (pc' := 144) (hb hby at_142) rfl rfl ?_
        refine o_callV X18 hx hZ b13 [(.long i2), (.long en2), (.long now)] (rm6 l Z a0 hw T18.heap n0 ZZ b13 i2 en2 now M hT (by omega) he2 g_b13) hown (hw _ (List.mem_of_getElem? (i := 36) rfl)) (hw _ (List.mem_of_getElem? (i := 37) rfl)) (hw _ (List.mem_of_getElem? (i := 39) rfl)) (hw _ (List.mem_of_getElem? (i := 38) rfl)) (hw _ (List.mem_of_getElem? (i := 11) rfl)) (hw _ (List.mem_of_getElem? (i := 40) rfl)) (by decide) (own_exa hT) pd_5 rfl (by rw [hml]; rfl) rfl rfl rfl (hb hby at_144) (pc' := 147) rfl 0 (Nat.le_of_eq rfl) (by decide) (by decide) (by decide) (by decide) ?_
        intro T19 v19 L19 X19 hQ19
        obtain ⟨rfl, Nq, hz, hT⟩ := hQ19
        have NN := Fr.app NN Nq
        have ZZ := Nat.le_trans ZZ hz
        show Dn p e below _ (T19.setTop (mkF m 147 #[.val (.long q1), .second, .val (.long q2), .second, .val (.long q3), .second, .val (.long q4), .second, .val (.int p5), .val (.int p6), .val (.long now), .second, .val (.int (2 : Int32)), .val (.long en1), .second, .val (.long en2), .second, .val (.long en3), .second, .val (.long i1), .second, .val (.long i2), .second, .val (.long i3), .second, .val (.ref b13), .val (.int x)] [(.int (1 : Int32))]))
        refine o_pop X19 hx (pc' := 148) (hb hby at_147) rfl rfl ?_
        refine o_lload X19 hx (pc' := 150) (hb hby at_148) rfl rfl ?_
        refine o_lload X19 hx (pc' := 152) (hb hby at_150) rfl rfl ?_
        refine o_lcmp X19 hx (pc' := 153) (hb hby at_152) rfl ?_
        refine o_lif_eq X19 hx (pc' := 156) (pt := 167) (hb hby at_153) rfl (by decide) (by decide) (fun hk1 => ?_) (fun hk1 => ?_)
        · skip
          have hT := (hT.resolve_right (fun q => q.1 (by rw [hK]; simp [hk1]))).2
          have hK2 : ∀ y, Has' M y ↔  y = i2 ∨ y = i1 ∨ False := fun y => by
            rw [hK]
            constructor
            · exact Or.inr
            · intro q
              rcases q with q | q
              · rw [q]; simp [hk1]
              · exact q
          exact J167 T19 _ _ _ X19 NN ZZ hT (by omega) hx_ hK2
        · skip
          obtain ⟨-, pp, hT⟩ := hT.resolve_left (fun q => absurd q.1 (by rw [hK]; simp [hk1]))
          refine o_lload X19 hx (pc' := 158) (hb hby at_156) rfl rfl ?_
          refine o_lload X19 hx (pc' := 160) (hb hby at_158) rfl rfl ?_
          refine o_lcmp X19 hx (pc' := 161) (hb hby at_160) rfl ?_
          refine o_lif_le X19 hx (pc' := 164) (pt := 167) (hb hby at_161) rfl (by decide) (by decide) (fun hce => ?_) (fun hce => ?_)
          · skip
            exact J167 T19 _ _ _ X19 NN ZZ hT (by simp only [List.length_cons]; omega) (by rw [hx_]; show Int32.ofNat _ = Int32.ofNat (lc now M + _); rw [if_neg hce]; rfl) (fun y => by rw [own_cons, hK])
          · skip
            refine o_iinc X19 hx (pc' := 167) (Ls' := #[.val (.long q1), .second, .val (.long q2), .second, .val (.long q3), .second, .val (.long q4), .second, .val (.int p5), .val (.int p6), .val (.long now), .second, .val (.int (2 : Int32)), .val (.long en1), .second, .val (.long en2), .second, .val (.long en3), .second, .val (.long i1), .second, .val (.long i2), .second, .val (.long i3), .second, .val (.ref b13), .val (.int (x + (1 : Int32)))]) (v := (1 : Int32)) (hb hby at_164) rfl rfl rfl rfl ?_
            exact J167 T19 _ _ _ X19 NN ZZ hT (by simp only [List.length_cons]; omega) (by rw [hx_]; show Int32.ofNat _ + (1 : Int32) = Int32.ofNat (lc now M + _); rw [if_pos hce, own_up]) (fun y => by rw [own_cons, hK])
      have B1 : ∀ (T20 : State) (LL : List Loc) (x : Int32) (M : List (Int64 × Int64 × Nat)), Stand p l e room_1 s m #[(.long q1), (.long q2), (.long q3), (.long q4), (.int p5), (.int p6)] below meth c T20 LL 2 2052 → Fr n0 LL → n0 ≤ T20.heap.size → Tbl Z T20.heap n0 b13 M → M.length ≤ 0 → x = Int32.ofNat (lc now M) → (∀ y, Has' M y ↔ False) → Dn p e below (PQ below s (fun v h L => v = some (.int 1) ∧ Fr n0 L) room_1.cells room_1.slots) (T20.setTop (mkF m 101 #[.val (.long q1), .second, .val (.long q2), .second, .val (.long q3), .second, .val (.long q4), .second, .val (.int p5), .val (.int p6), .val (.long now), .second, .val (.int (2 : Int32)), .val (.long en1), .second, .val (.long en2), .second, .val (.long en3), .second, .val (.long i1), .second, .val (.long i2), .second, .val (.long i3), .second, .val (.ref b13), .val (.int x)] [])) := by
        intro T20 LL x M X20 NN ZZ hT hL hx_ hK
        refine o_iload X20 hx (pc' := 103) (hb hby at_101) rfl rfl ?_
        refine o_iconst X20 hx (pc' := 104) (v := (1 : Int32)) (hb hby at_103) rfl rfl ?_
        refine o_icmp_lt X20 hx (pc' := 107) (pt := 130) (hb hby at_104) rfl (by decide) (by decide) (fun q => absurd q (by decide)) (fun _ => ?_)
        refine o_aload X20 hx (pc' := 109) (hb hby at_107) rfl rfl rfl ?_
        refine o_lload X20 hx (pc' := 111) (hb hby at_109) rfl rfl ?_
        refine o_lload X20 hx (pc' := 113) (hb hby at_111) rfl rfl ?_
        refine o_lload X20 hx (pc' := 115) (hb hby at_113) rfl rfl ?_
        refine o_callV X20 hx hZ b13 [(.long i1), (.long en1), (.long now)] (rm6 l Z a0 hw T20.heap n0 ZZ b13 i1 en1 now M hT (by omega) he1 g_b13) hown (hw _ (List.mem_of_getElem? (i := 36) rfl)) (hw _ (List.mem_of_getElem? (i := 37) rfl)) (hw _ (List.mem_of_getElem? (i := 39) rfl)) (hw _ (List.mem_of_getElem? (i := 38) rfl)) (hw _ (List.mem_of_getElem? (i := 11) rfl)) (hw _ (List.mem_of_getElem? (i := 40) rfl)) (by decide) (own_exa hT) pd_5 rfl (by rw [hml]; rfl) rfl rfl rfl (hb hby at_115) (pc' := 118) rfl 0 (Nat.le_of_eq rfl) (by decide) (by decide) (by decide) (by decide) ?_
        intro T21 v21 L21 X21 hQ21
        obtain ⟨rfl, Nq, hz, hT⟩ := hQ21
        have NN := Fr.app NN Nq
        have ZZ := Nat.le_trans ZZ hz
        show Dn p e below _ (T21.setTop (mkF m 118 #[.val (.long q1), .second, .val (.long q2), .second, .val (.long q3), .second, .val (.long q4), .second, .val (.int p5), .val (.int p6), .val (.long now), .second, .val (.int (2 : Int32)), .val (.long en1), .second, .val (.long en2), .second, .val (.long en3), .second, .val (.long i1), .second, .val (.long i2), .second, .val (.long i3), .second, .val (.ref b13), .val (.int x)] [(.int (1 : Int32))]))
        refine o_pop X21 hx (pc' := 119) (hb hby at_118) rfl rfl ?_
        refine o_lload X21 hx (pc' := 121) (hb hby at_119) rfl rfl ?_
        refine o_lload X21 hx (pc' := 123) (hb hby at_121) rfl rfl ?_
        refine o_lcmp X21 hx (pc' := 124) (hb hby at_123) rfl ?_
        obtain ⟨-, pp, hT⟩ := hT.resolve_left (fun q => absurd q.1 (by rw [hK]; simp [own_nil]))
        refine o_lif_le X21 hx (pc' := 127) (pt := 130) (hb hby at_124) rfl (by decide) (by decide) (fun hce => ?_) (fun hce => ?_)
        · skip
          exact B2 T21 _ _ _ X21 NN ZZ hT (by simp only [List.length_cons]; omega) (by rw [hx_]; show Int32.ofNat _ = Int32.ofNat (lc now M + _); rw [if_neg hce]; rfl) (fun y => by rw [own_cons, hK])
        · skip
          refine o_iinc X21 hx (pc' := 130) (Ls' := #[.val (.long q1), .second, .val (.long q2), .second, .val (.long q3), .second, .val (.long q4), .second, .val (.int p5), .val (.int p6), .val (.long now), .second, .val (.int (2 : Int32)), .val (.long en1), .second, .val (.long en2), .second, .val (.long en3), .second, .val (.long i1), .second, .val (.long i2), .second, .val (.long i3), .second, .val (.ref b13), .val (.int (x + (1 : Int32)))]) (v := (1 : Int32)) (hb hby at_127) rfl rfl rfl rfl ?_
          exact B2 T21 _ _ _ X21 NN ZZ hT (by simp only [List.length_cons]; omega) (by rw [hx_]; show Int32.ofNat _ + (1 : Int32) = Int32.ofNat (lc now M + _); rw [if_pos hce, own_up]) (fun y => by rw [own_cons, hK])
      exact B1 T14 _ _ _ X14 NN ZZ hT (by decide) rfl (fun y => ⟨fun q => own_nil _ q, fun q => q.elim⟩)
    · rw [hn4]
      show Dn p e below _ (T1.setTop (mkF m 88 #[.val (.long q1), .second, .val (.long q2), .second, .val (.long q3), .second, .val (.long q4), .second, .val (.int p5), .val (.int p6), .val (.long now), .second, .val (.int (3 : Int32)), .val (.long en1), .second, .val (.long en2), .second, .val (.long en3), .second, .val (.long i1), .second, .val (.long i2), .second, .val (.long i3), .second, .unset, .unset] []))
      have NN := Fr.nil n0
      have ZZ := Z0
      refine o_new X1 hx hZ hown (hw _ (List.mem_of_getElem? (i := 9) rfl)) (hw _ (List.mem_of_getElem? (i := 10) rfl)) (hw _ (List.mem_of_getElem? (i := 11) rfl)) e1 (hb hby at_88) (pc' := 91) rfl (by decide) (by decide) ?_
      intro T22 h22 b22 g22 X22 e22 E22 A22 D22
      have g_b22 : n0 ≤ b22 := Nat.le_trans ZZ (Nat.le_of_eq g22.symm)
      have ZZ := Nat.le_trans ZZ E22.1
      have hE := A22
      have hS : Fld Z h22 b22 "com/example/shelfkey/shelfkey/revocation/IdTable" "slots" "[J" .null := D22 (Or.inl (hw _ (List.mem_of_getElem? (i := 20) rfl))) (ty := (.array .long)) (by decide)
      have hZz : Fld Z h22 b22 "com/example/shelfkey/shelfkey/revocation/IdTable" "size" "I" (.int 0) := D22 (Or.inl (hw _ (List.mem_of_getElem? (i := 50) rfl))) (ty := .int) (by decide)
      have hEe : Fld Z h22 b22 "com/example/shelfkey/shelfkey/revocation/IdTable" "earliestEnd" "J" (.long 0) := D22 (Or.inl (hw _ (List.mem_of_getElem? (i := 23) rfl))) (ty := .long) (by decide)
      have hM : Fld Z h22 b22 "com/example/shelfkey/shelfkey/revocation/IdTable" "mostSlots" "I" (.int 0) := D22 (Or.inr (hw _ (List.mem_of_getElem? (i := 28) rfl))) (ty := .int) (by decide)
      refine o_dup X22 hx (pc' := 92) (hb hby at_91) rfl rfl ?_
      refine o_lconst X22 hx (pc' := 93) (v := (0 : Int64)) (hb hby at_92) rfl rfl ?_
      refine o_callI X22 hx hZ b22 [(.long (0 : Int64))] (rm3 l Z a0 hw h22 n0 ZZ b22 hE hS hZz hEe hM g_b22) rfl hown (hw _ (List.mem_of_getElem? (i := 12) rfl)) (hw _ (List.mem_of_getElem? (i := 13) rfl)) (hw _ (List.mem_of_getElem? (i := 11) rfl)) (hw _ (List.mem_of_getElem? (i := 14) rfl)) (by decide) pd_3 e22 (by rw [hml]; rfl) rfl rfl rfl (hb hby at_93) (pc' := 96) rfl 1 (Nat.le_of_eq rfl) (by decide) (by decide) (by decide) (by decide) ?_
      intro T23 v23 L23 X23 hQ23
      obtain ⟨rfl, Nq, hz, hT⟩ := hQ23
      have NN := Fr.app NN Nq
      have ZZ := Nat.le_trans ZZ hz
      show Dn p e below _ (T23.setTop (mkF m 96 #[.val (.long q1), .second, .val (.long q2), .second, .val (.long q3), .second, .val (.long q4), .second, .val (.int p5), .val (.int p6), .val (.long now), .second, .val (.int (3 : Int32)), .val (.long en1), .second, .val (.long en2), .second, .val (.long en3), .second, .val (.long i1), .second, .val (.long i2), .second, .val (.long i3), .second, .unset, .unset] [(.ref b22)]))
      refine o_astore X23 hx (pc' := 98) (Ls' := #[.val (.long q1), .second, .val (.long q2), .second, .val (.long q3), .second, .val (.long q4), .second, .val (.int p5), .val (.int p6), .val (.long now), .second, .val (.int (3 : Int32)), .val (.long en1), .second, .val (.long en2), .second, .val (.long en3), .second, .val (.long i1), .second, .val (.long i2), .second, .val (.long i3), .second, .val (.ref b22), .unset]) (hb hby at_96) rfl rfl rfl ?_
      refine o_iconst X23 hx (pc' := 99) (v := (0 : Int32)) (hb hby at_98) rfl rfl ?_
      refine o_istore X23 hx (pc' := 101) (Ls' := #[.val (.long q1), .second, .val (.long q2), .second, .val (.long q3), .second, .val (.long q4), .second, .val (.int p5), .val (.int p6), .val (.long now), .second, .val (.int (3 : Int32)), .val (.long en1), .second, .val (.long en2), .second, .val (.long en3), .second, .val (.long i1), .second, .val (.long i2), .second, .val (.long i3), .second, .val (.ref b22), .val (.int (0 : Int32))]) (hb hby at_99) rfl rfl ?_
      have J212 : ∀ (T24 : State) (LL : List Loc) (x : Int32) (M : List (Int64 × Int64 × Nat)), Stand p l e room_1 s m #[(.long q1), (.long q2), (.long q3), (.long q4), (.int p5), (.int p6)] below meth c T24 LL 2 2052 → Fr n0 LL → n0 ≤ T24.heap.size → Tbl Z T24.heap n0 b22 M → M.length ≤ 3 → x = Int32.ofNat (lc now M) → (∀ y, Has' M y ↔ y = i3 ∨ y = i2 ∨ y = i1 ∨ False) → Dn p e below (PQ below s (fun v h L => v = some (.int 1) ∧ Fr n0 L) room_1.cells room_1.slots) (T24.setTop (mkF m 212 #[.val (.long q1), .second, .val (.long q2), .second, .val (.long q3), .second, .val (.long q4), .second, .val (.int p5), .val (.int p6), .val (.long now), .second, .val (.int (3 : Int32)), .val (.long en1), .second, .val (.long en2), .second, .val (.long en3), .second, .val (.long i1), .second, .val (.long i2), .second, .val (.long i3), .second, .val (.ref b22), .val (.int x)] [])) := by
        intro T24 LL x M X24 NN ZZ hT hL hx_ hK
        refine o_aload X24 hx (pc' := 214) (hb hby at_212) rfl rfl rfl ?_
        refine o_lload X24 hx (pc' := 216) (hb hby at_214) rfl rfl ?_
        refine o_callVP X24 hx hZ b22 [(.long now)] (rm5 l Z a0 hw T24.heap n0 ZZ b22 now M hT hnow) hown (hw _ (List.mem_of_getElem? (i := 29) rfl)) (hw _ (List.mem_of_getElem? (i := 30) rfl)) (hw _ (List.mem_of_getElem? (i := 32) rfl)) (hw _ (List.mem_of_getElem? (i := 31) rfl)) (hw _ (List.mem_of_getElem? (i := 11) rfl)) (hw _ (List.mem_of_getElem? (i := 33) rfl)) (by decide) (own_exa hT) pd_4 rfl (by rw [hml]; rfl) rfl rfl rfl (hb hby at_216) (pc' := 219) rfl 0 (Nat.le_of_eq rfl) (by decide) (by decide) rfl rfl (by decide) (by decide) ?_
        intro T25 X25 e25
        show Dn p e below _ (T25.setTop (mkF m 219 #[.val (.long q1), .second, .val (.long q2), .second, .val (.long q3), .second, .val (.long q4), .second, .val (.int p5), .val (.int p6), .val (.long now), .second, .val (.int (3 : Int32)), .val (.long en1), .second, .val (.long en2), .second, .val (.long en3), .second, .val (.long i1), .second, .val (.long i2), .second, .val (.long i3), .second, .val (.ref b22), .val (.int x)] [(.int (Int32.ofNat (lc now M)))]))
        refine o_iload X25 hx (pc' := 221) (hb hby at_219) rfl rfl ?_
        refine o_icmp_ne X25 hx (pc' := 224) (pt := 228) (hb hby at_221) rfl (by decide) (by decide) (fun q => absurd hx_.symm q) (fun _ => ?_)
        refine o_iconst X25 hx (pc' := 225) (v := (1 : Int32)) (hb hby at_224) rfl rfl ?_
        refine o_goto X25 hx (pc' := 229) (hb hby at_225) (by decide) (by decide) ?_
        exact finN X25 hx hlk (t := .boolean) hret (by simp) (hb hby at_229) (by decide) (by decide) ⟨rfl, NN⟩
      have B3 : ∀ (T26 : State) (LL : List Loc) (x : Int32) (M : List (Int64 × Int64 × Nat)), Stand p l e room_1 s m #[(.long q1), (.long q2), (.long q3), (.long q4), (.int p5), (.int p6)] below meth c T26 LL 2 2052 → Fr n0 LL → n0 ≤ T26.heap.size → Tbl Z T26.heap n0 b22 M → M.length ≤ 2 → x = Int32.ofNat (lc now M) → (∀ y, Has' M y ↔ y = i2 ∨ y = i1 ∨ False) → Dn p e below (PQ below s (fun v h L => v = some (.int 1) ∧ Fr n0 L) room_1.cells room_1.slots) (T26.setTop (mkF m 167 #[.val (.long q1), .second, .val (.long q2), .second, .val (.long q3), .second, .val (.long q4), .second, .val (.int p5), .val (.int p6), .val (.long now), .second, .val (.int (3 : Int32)), .val (.long en1), .second, .val (.long en2), .second, .val (.long en3), .second, .val (.long i1), .second, .val (.long i2), .second, .val (.long i3), .second, .val (.ref b22), .val (.int x)] [])) := by
        intro T26 LL x M X26 NN ZZ hT hL hx_ hK
        refine o_iload X26 hx (pc' := 169) (hb hby at_167) rfl rfl ?_
        refine o_iconst X26 hx (pc' := 170) (v := (3 : Int32)) (hb hby at_169) rfl rfl ?_
        refine o_icmp_lt X26 hx (pc' := 173) (pt := 212) (hb hby at_170) rfl (by decide) (by decide) (fun q => absurd q (by decide)) (fun _ => ?_)
        refine o_aload X26 hx (pc' := 175) (hb hby at_173) rfl rfl rfl ?_
        refine o_lload X26 hx (pc' := 177) (hb hby at_175) rfl rfl ?_
        refine o_lload X26 hx (pc' := 179) (hb hby at_177) rfl rfl ?_
        refine o_lload X26 hx (pc' := 181) (hb hby at_179) rfl rfl ?_
        refine o_callV X26 hx hZ b22 [(.long i3), (.long en3), (.long now)] (rm6 l Z a0 hw T26.heap n0 ZZ b22 i3 en3 now M hT (by omega) he3 g_b22) hown (hw _ (List.mem_of_getElem? (i := 36) rfl)) (hw _ (List.mem_of_getElem? (i := 37) rfl)) (hw _ (List.mem_of_getElem? (i := 39) rfl)) (hw _ (List.mem_of_getElem? (i := 38) rfl)) (hw _ (List.mem_of_getElem? (i := 11) rfl)) (hw _ (List.mem_of_getElem? (i := 40) rfl)) (by decide) (own_exa hT) pd_5 rfl (by rw [hml]; rfl) rfl rfl rfl (hb hby at_181) (pc' := 184) rfl 0 (Nat.le_of_eq rfl) (by decide) (by decide) (by decide) (by decide) ?_
        intro T27 v27 L27 X27 hQ27
        obtain ⟨rfl, Nq, hz, hT⟩ := hQ27
        have NN := Fr.app NN Nq
        have ZZ := Nat.le_trans ZZ hz
        show Dn p e below _ (T27.setTop (mkF m 184 #[.val (.long q1), .second, .val (.long q2), .second, .val (.long q3), .second, .val (.long q4), .second, .val (.int p5), .val (.int p6), .val (.long now), .second, .val (.int (3 : Int32)), .val (.long en1), .second, .val (.long en2), .second, .val (.long en3), .second, .val (.long i1), .second, .val (.long i2), .second, .val (.long i3), .second, .val (.ref b22), .val (.int x)] [(.int (1 : Int32))]))
        refine o_pop X27 hx (pc' := 185) (hb hby at_184) rfl rfl ?_
        refine o_lload X27 hx (pc' := 187) (hb hby at_185) rfl rfl ?_
        refine o_lload X27 hx (pc' := 189) (hb hby at_187) rfl rfl ?_
        refine o_lcmp X27 hx (pc' := 190) (hb hby at_189) rfl ?_
        refine o_lif_eq X27 hx (pc' := 193) (pt := 212) (hb hby at_190) rfl (by decide) (by decide) (fun hk1 => ?_) (fun hk1 => ?_)
        · skip
          have hT := (hT.resolve_right (fun q => q.1 (by rw [hK]; simp [hk1]))).2
          have hK2 : ∀ y, Has' M y ↔  y = i3 ∨ y = i2 ∨ y = i1 ∨ False := fun y => by
            rw [hK]
            constructor
            · exact Or.inr
            · intro q
              rcases q with q | q
              · rw [q]; simp [hk1]
              · exact q
          exact J212 T27 _ _ _ X27 NN ZZ hT (by omega) hx_ hK2
        · skip
          refine o_lload X27 hx (pc' := 195) (hb hby at_193) rfl rfl ?_
          refine o_lload X27 hx (pc' := 197) (hb hby at_195) rfl rfl ?_
          refine o_lcmp X27 hx (pc' := 198) (hb hby at_197) rfl ?_
          refine o_lif_eq X27 hx (pc' := 201) (pt := 212) (hb hby at_198) rfl (by decide) (by decide) (fun hk2 => ?_) (fun hk2 => ?_)
          · skip
            have hT := (hT.resolve_right (fun q => q.1 (by rw [hK]; simp [hk1, hk2]))).2
            have hK2 : ∀ y, Has' M y ↔  y = i3 ∨ y = i2 ∨ y = i1 ∨ False := fun y => by
              rw [hK]
              constructor
              · exact Or.inr
              · intro q
                rcases q with q | q
                · rw [q]; simp [hk1, hk2]
                · exact q
            exact J212 T27 _ _ _ X27 NN ZZ hT (by omega) hx_ hK2
          · skip
            obtain ⟨-, pp, hT⟩ := hT.resolve_left (fun q => absurd q.1 (by rw [hK]; simp [hk1, hk2]))
            refine o_lload X27 hx (pc' := 203) (hb hby at_201) rfl rfl ?_
            refine o_lload X27 hx (pc' := 205) (hb hby at_203) rfl rfl ?_
            refine o_lcmp X27 hx (pc' := 206) (hb hby at_205) rfl ?_
            refine o_lif_le X27 hx (pc' := 209) (pt := 212) (hb hby at_206) rfl (by decide) (by decide) (fun hce => ?_) (fun hce => ?_)
            · skip
              exact J212 T27 _ _ _ X27 NN ZZ hT (by simp only [List.length_cons]; omega) (by rw [hx_]; show Int32.ofNat _ = Int32.ofNat (lc now M + _); rw [if_neg hce]; rfl) (fun y => by rw [own_cons, hK])
            · skip
              refine o_iinc X27 hx (pc' := 212) (Ls' := #[.val (.long q1), .second, .val (.long q2), .second, .val (.long q3), .second, .val (.long q4), .second, .val (.int p5), .val (.int p6), .val (.long now), .second, .val (.int (3 : Int32)), .val (.long en1), .second, .val (.long en2), .second, .val (.long en3), .second, .val (.long i1), .second, .val (.long i2), .second, .val (.long i3), .second, .val (.ref b22), .val (.int (x + (1 : Int32)))]) (v := (1 : Int32)) (hb hby at_209) rfl rfl rfl rfl ?_
              exact J212 T27 _ _ _ X27 NN ZZ hT (by simp only [List.length_cons]; omega) (by rw [hx_]; show Int32.ofNat _ + (1 : Int32) = Int32.ofNat (lc now M + _); rw [if_pos hce, own_up]) (fun y => by rw [own_cons, hK])
      have B2 : ∀ (T28 : State) (LL : List Loc) (x : Int32) (M : List (Int64 × Int64 × Nat)), Stand p l e room_1 s m #[(.long q1), (.long q2), (.long q3), (.long q4), (.int p5), (.int p6)] below meth c T28 LL 2 2052 → Fr n0 LL → n0 ≤ T28.heap.size → Tbl Z T28.heap n0 b22 M → M.length ≤ 1 → x = Int32.ofNat (lc now M) → (∀ y, Has' M y ↔ y = i1 ∨ False) → Dn p e below (PQ below s (fun v h L => v = some (.int 1) ∧ Fr n0 L) room_1.cells room_1.slots) (T28.setTop (mkF m 130 #[.val (.long q1), .second, .val (.long q2), .second, .val (.long q3), .second, .val (.long q4), .second, .val (.int p5), .val (.int p6), .val (.long now), .second, .val (.int (3 : Int32)), .val (.long en1), .second, .val (.long en2), .second, .val (.long en3), .second, .val (.long i1), .second, .val (.long i2), .second, .val (.long i3), .second, .val (.ref b22), .val (.int x)] [])) := by
        intro T28 LL x M X28 NN ZZ hT hL hx_ hK
        refine o_iload X28 hx (pc' := 132) (hb hby at_130) rfl rfl ?_
        refine o_iconst X28 hx (pc' := 133) (v := (2 : Int32)) (hb hby at_132) rfl rfl ?_
        refine o_icmp_lt X28 hx (pc' := 136) (pt := 167) (hb hby at_133) rfl (by decide) (by decide) (fun q => absurd q (by decide)) (fun _ => ?_)
        refine o_aload X28 hx (pc' := 138) (hb hby at_136) rfl rfl rfl ?_
        refine o_lload X28 hx (pc' := 140) (hb hby at_138) rfl rfl ?_
        refine o_lload X28 hx (pc' := 142) (hb hby at_140) rfl rfl ?_
        refine o_lload X28 hx (pc' := 144) (hb hby at_142) rfl rfl ?_
        refine o_callV X28 hx hZ b22 [(.long i2), (.long en2), (.long now)] (rm6 l Z a0 hw T28.heap n0 ZZ b22 i2 en2 now M hT (by omega) he2 g_b22) hown (hw _ (List.mem_of_getElem? (i := 36) rfl)) (hw _ (List.mem_of_getElem? (i := 37) rfl)) (hw _ (List.mem_of_getElem? (i := 39) rfl)) (hw _ (List.mem_of_getElem? (i := 38) rfl)) (hw _ (List.mem_of_getElem? (i := 11) rfl)) (hw _ (List.mem_of_getElem? (i := 40) rfl)) (by decide) (own_exa hT) pd_5 rfl (by rw [hml]; rfl) rfl rfl rfl (hb hby at_144) (pc' := 147) rfl 0 (Nat.le_of_eq rfl) (by decide) (by decide) (by decide) (by decide) ?_
        intro T29 v29 L29 X29 hQ29
        obtain ⟨rfl, Nq, hz, hT⟩ := hQ29
        have NN := Fr.app NN Nq
        have ZZ := Nat.le_trans ZZ hz
        show Dn p e below _ (T29.setTop (mkF m 147 #[.val (.long q1), .second, .val (.long q2), .second, .val (.long q3), .second, .val (.long q4), .second, .val (.int p5), .val (.int p6), .val (.long now), .second, .val (.int (3 : Int32)), .val (.long en1), .second, .val (.long en2), .second, .val (.long en3), .second, .val (.long i1), .second, .val (.long i2), .second, .val (.long i3), .second, .val (.ref b22), .val (.int x)] [(.int (1 : Int32))]))
        refine o_pop X29 hx (pc' := 148) (hb hby at_147) rfl rfl ?_
        refine o_lload X29 hx (pc' := 150) (hb hby at_148) rfl rfl ?_
        refine o_lload X29 hx (pc' := 152) (hb hby at_150) rfl rfl ?_
        refine o_lcmp X29 hx (pc' := 153) (hb hby at_152) rfl ?_
        refine o_lif_eq X29 hx (pc' := 156) (pt := 167) (hb hby at_153) rfl (by decide) (by decide) (fun hk1 => ?_) (fun hk1 => ?_)
        · skip
          have hT := (hT.resolve_right (fun q => q.1 (by rw [hK]; simp [hk1]))).2
          have hK2 : ∀ y, Has' M y ↔  y = i2 ∨ y = i1 ∨ False := fun y => by
            rw [hK]
            constructor
            · exact Or.inr
            · intro q
              rcases q with q | q
              · rw [q]; simp [hk1]
              · exact q
          exact B3 T29 _ _ _ X29 NN ZZ hT (by omega) hx_ hK2
        · skip
          obtain ⟨-, pp, hT⟩ := hT.resolve_left (fun q => absurd q.1 (by rw [hK]; simp [hk1]))
          refine o_lload X29 hx (pc' := 158) (hb hby at_156) rfl rfl ?_
          refine o_lload X29 hx (pc' := 160) (hb hby at_158) rfl rfl ?_
          refine o_lcmp X29 hx (pc' := 161) (hb hby at_160) rfl ?_
          refine o_lif_le X29 hx (pc' := 164) (pt := 167) (hb hby at_161) rfl (by decide) (by decide) (fun hce => ?_) (fun hce => ?_)
          · skip
            exact B3 T29 _ _ _ X29 NN ZZ hT (by simp only [List.length_cons]; omega) (by rw [hx_]; show Int32.ofNat _ = Int32.ofNat (lc now M + _); rw [if_neg hce]; rfl) (fun y => by rw [own_cons, hK])
          · skip
            refine o_iinc X29 hx (pc' := 167) (Ls' := #[.val (.long q1), .second, .val (.long q2), .second, .val (.long q3), .second, .val (.long q4), .second, .val (.int p5), .val (.int p6), .val (.long now), .second, .val (.int (3 : Int32)), .val (.long en1), .second, .val (.long en2), .second, .val (.long en3), .second, .val (.long i1), .second, .val (.long i2), .second, .val (.long i3), .second, .val (.ref b22), .val (.int (x + (1 : Int32)))]) (v := (1 : Int32)) (hb hby at_164) rfl rfl rfl rfl ?_
            exact B3 T29 _ _ _ X29 NN ZZ hT (by simp only [List.length_cons]; omega) (by rw [hx_]; show Int32.ofNat _ + (1 : Int32) = Int32.ofNat (lc now M + _); rw [if_pos hce, own_up]) (fun y => by rw [own_cons, hK])
      have B1 : ∀ (T30 : State) (LL : List Loc) (x : Int32) (M : List (Int64 × Int64 × Nat)), Stand p l e room_1 s m #[(.long q1), (.long q2), (.long q3), (.long q4), (.int p5), (.int p6)] below meth c T30 LL 2 2052 → Fr n0 LL → n0 ≤ T30.heap.size → Tbl Z T30.heap n0 b22 M → M.length ≤ 0 → x = Int32.ofNat (lc now M) → (∀ y, Has' M y ↔ False) → Dn p e below (PQ below s (fun v h L => v = some (.int 1) ∧ Fr n0 L) room_1.cells room_1.slots) (T30.setTop (mkF m 101 #[.val (.long q1), .second, .val (.long q2), .second, .val (.long q3), .second, .val (.long q4), .second, .val (.int p5), .val (.int p6), .val (.long now), .second, .val (.int (3 : Int32)), .val (.long en1), .second, .val (.long en2), .second, .val (.long en3), .second, .val (.long i1), .second, .val (.long i2), .second, .val (.long i3), .second, .val (.ref b22), .val (.int x)] [])) := by
        intro T30 LL x M X30 NN ZZ hT hL hx_ hK
        refine o_iload X30 hx (pc' := 103) (hb hby at_101) rfl rfl ?_
        refine o_iconst X30 hx (pc' := 104) (v := (1 : Int32)) (hb hby at_103) rfl rfl ?_
        refine o_icmp_lt X30 hx (pc' := 107) (pt := 130) (hb hby at_104) rfl (by decide) (by decide) (fun q => absurd q (by decide)) (fun _ => ?_)
        refine o_aload X30 hx (pc' := 109) (hb hby at_107) rfl rfl rfl ?_
        refine o_lload X30 hx (pc' := 111) (hb hby at_109) rfl rfl ?_
        refine o_lload X30 hx (pc' := 113) (hb hby at_111) rfl rfl ?_
        refine o_lload X30 hx (pc' := 115) (hb hby at_113) rfl rfl ?_
        refine o_callV X30 hx hZ b22 [(.long i1), (.long en1), (.long now)] (rm6 l Z a0 hw T30.heap n0 ZZ b22 i1 en1 now M hT (by omega) he1 g_b22) hown (hw _ (List.mem_of_getElem? (i := 36) rfl)) (hw _ (List.mem_of_getElem? (i := 37) rfl)) (hw _ (List.mem_of_getElem? (i := 39) rfl)) (hw _ (List.mem_of_getElem? (i := 38) rfl)) (hw _ (List.mem_of_getElem? (i := 11) rfl)) (hw _ (List.mem_of_getElem? (i := 40) rfl)) (by decide) (own_exa hT) pd_5 rfl (by rw [hml]; rfl) rfl rfl rfl (hb hby at_115) (pc' := 118) rfl 0 (Nat.le_of_eq rfl) (by decide) (by decide) (by decide) (by decide) ?_
        intro T31 v31 L31 X31 hQ31
        obtain ⟨rfl, Nq, hz, hT⟩ := hQ31
        have NN := Fr.app NN Nq
        have ZZ := Nat.le_trans ZZ hz
        show Dn p e below _ (T31.setTop (mkF m 118 #[.val (.long q1), .second, .val (.long q2), .second, .val (.long q3), .second, .val (.long q4), .second, .val (.int p5), .val (.int p6), .val (.long now), .second, .val (.int (3 : Int32)), .val (.long en1), .second, .val (.long en2), .second, .val (.long en3), .second, .val (.long i1), .second, .val (.long i2), .second, .val (.long i3), .second, .val (.ref b22), .val (.int x)] [(.int (1 : Int32))]))
        refine o_pop X31 hx (pc' := 119) (hb hby at_118) rfl rfl ?_
        refine o_lload X31 hx (pc' := 121) (hb hby at_119) rfl rfl ?_
        refine o_lload X31 hx (pc' := 123) (hb hby at_121) rfl rfl ?_
        refine o_lcmp X31 hx (pc' := 124) (hb hby at_123) rfl ?_
        obtain ⟨-, pp, hT⟩ := hT.resolve_left (fun q => absurd q.1 (by rw [hK]; simp [own_nil]))
        refine o_lif_le X31 hx (pc' := 127) (pt := 130) (hb hby at_124) rfl (by decide) (by decide) (fun hce => ?_) (fun hce => ?_)
        · skip
          exact B2 T31 _ _ _ X31 NN ZZ hT (by simp only [List.length_cons]; omega) (by rw [hx_]; show Int32.ofNat _ = Int32.ofNat (lc now M + _); rw [if_neg hce]; rfl) (fun y => by rw [own_cons, hK])
        · skip
          refine o_iinc X31 hx (pc' := 130) (Ls' := #[.val (.long q1), .second, .val (.long q2), .second, .val (.long q3), .second, .val (.long q4), .second, .val (.int p5), .val (.int p6), .val (.long now), .second, .val (.int (3 : Int32)), .val (.long en1), .second, .val (.long en2), .second, .val (.long en3), .second, .val (.long i1), .second, .val (.long i2), .second, .val (.long i3), .second, .val (.ref b22), .val (.int (x + (1 : Int32)))]) (v := (1 : Int32)) (hb hby at_127) rfl rfl rfl rfl ?_
          exact B2 T31 _ _ _ X31 NN ZZ hT (by simp only [List.length_cons]; omega) (by rw [hx_]; show Int32.ofNat _ + (1 : Int32) = Int32.ofNat (lc now M + _); rw [if_pos hce, own_up]) (fun y => by rw [own_cons, hK])
      exact B1 T23 _ _ _ X23 NN ZZ hT (by decide) rfl (fun y => ⟨fun q => own_nil _ q, fun q => q.elim⟩)
  refine o_lloadN X0 hx (pc' := 14) (hb hby at_13) rfl rfl ?_
  refine o_lload X0 hx (pc' := 16) (hb hby at_14) rfl rfl ?_
  refine o_iload X0 hx (pc' := 18) (hb hby at_16) rfl rfl ?_
  refine o_iconst X0 hx (pc' := 19) (v := (2 : Int32)) (hb hby at_18) rfl rfl ?_
  refine o_iushr X0 hx (pc' := 20) (hb hby at_19) rfl ?_
  refine o_iconst X0 hx (pc' := 21) (v := (1 : Int32)) (hb hby at_20) rfl rfl ?_
  refine o_iand X0 hx (pc' := 22) (hb hby at_21) rfl ?_
  refine o_callSP X0 hx hZ [(.long q2), (.long (q1 &&& (9223372036854775807 : Int64))), (.int (((p6.toUInt32 >>> ((2 : Int32) &&& 31).toUInt32).toInt32) &&& (1 : Int32)))] (rm1 l Z a0 hw h0 q2 (q1 &&& (9223372036854775807 : Int64)) (((p6.toUInt32 >>> ((2 : Int32) &&& 31).toUInt32).toInt32) &&& (1 : Int32))) hown (hw _ (List.mem_of_getElem? (i := 1) rfl)) (hw _ (List.mem_of_getElem? (i := 2) rfl)) (hw _ (List.mem_of_getElem? (i := 3) rfl)) (hw _ (List.mem_of_getElem? (i := 4) rfl)) (by decide) pd_6 e0 (by rw [hml]; rfl) rfl rfl rfl (hb hby at_22) (pc' := 25) rfl 0 (Nat.le_of_eq rfl) (by decide) (by decide) rfl rfl (by decide) (by decide) ?_
  intro T32 X32 e32
  show Dn p e below _ (T32.setTop (mkF m 25 #[.val (.long q1), .second, .val (.long q2), .second, .val (.long q3), .second, .val (.long q4), .second, .val (.int p5), .val (.int p6), .val (.long (q1 &&& (9223372036854775807 : Int64))), .second, .val (.int (p6 &&& (3 : Int32))), .unset, .unset, .unset, .unset, .unset, .unset, .unset, .unset, .unset, .unset, .unset, .unset, .unset, .unset] [(.long (F1 q2 (q1 &&& (9223372036854775807 : Int64)) (((p6.toUInt32 >>> ((2 : Int32) &&& 31).toUInt32).toInt32) &&& (1 : Int32))))]))
  refine o_lstore X32 hx (pc' := 27) (Ls' := #[.val (.long q1), .second, .val (.long q2), .second, .val (.long q3), .second, .val (.long q4), .second, .val (.int p5), .val (.int p6), .val (.long (q1 &&& (9223372036854775807 : Int64))), .second, .val (.int (p6 &&& (3 : Int32))), .val (.long (F1 q2 (q1 &&& (9223372036854775807 : Int64)) (((p6.toUInt32 >>> ((2 : Int32) &&& 31).toUInt32).toInt32) &&& (1 : Int32)))), .second, .unset, .unset, .unset, .unset, .unset, .unset, .unset, .unset, .unset, .unset, .unset, .unset]) (hb hby at_25) rfl rfl ?_
  refine o_lload X32 hx (pc' := 29) (hb hby at_27) rfl rfl ?_
  refine o_lload X32 hx (pc' := 31) (hb hby at_29) rfl rfl ?_
  refine o_iload X32 hx (pc' := 33) (hb hby at_31) rfl rfl ?_
  refine o_iconst X32 hx (pc' := 34) (v := (3 : Int32)) (hb hby at_33) rfl rfl ?_
  refine o_iushr X32 hx (pc' := 35) (hb hby at_34) rfl ?_
  refine o_iconst X32 hx (pc' := 36) (v := (1 : Int32)) (hb hby at_35) rfl rfl ?_
  refine o_iand X32 hx (pc' := 37) (hb hby at_36) rfl ?_
  refine o_callSP X32 hx hZ [(.long q3), (.long (q1 &&& (9223372036854775807 : Int64))), (.int (((p6.toUInt32 >>> ((3 : Int32) &&& 31).toUInt32).toInt32) &&& (1 : Int32)))] (rm1 l Z a0 hw h0 q3 (q1 &&& (9223372036854775807 : Int64)) (((p6.toUInt32 >>> ((3 : Int32) &&& 31).toUInt32).toInt32) &&& (1 : Int32))) hown (hw _ (List.mem_of_getElem? (i := 1) rfl)) (hw _ (List.mem_of_getElem? (i := 2) rfl)) (hw _ (List.mem_of_getElem? (i := 3) rfl)) (hw _ (List.mem_of_getElem? (i := 4) rfl)) (by decide) pd_6 e32 (by rw [hml]; rfl) rfl rfl rfl (hb hby at_37) (pc' := 40) rfl 0 (Nat.le_of_eq rfl) (by decide) (by decide) rfl rfl (by decide) (by decide) ?_
  intro T33 X33 e33
  show Dn p e below _ (T33.setTop (mkF m 40 #[.val (.long q1), .second, .val (.long q2), .second, .val (.long q3), .second, .val (.long q4), .second, .val (.int p5), .val (.int p6), .val (.long (q1 &&& (9223372036854775807 : Int64))), .second, .val (.int (p6 &&& (3 : Int32))), .val (.long (F1 q2 (q1 &&& (9223372036854775807 : Int64)) (((p6.toUInt32 >>> ((2 : Int32) &&& 31).toUInt32).toInt32) &&& (1 : Int32)))), .second, .unset, .unset, .unset, .unset, .unset, .unset, .unset, .unset, .unset, .unset, .unset, .unset] [(.long (F1 q3 (q1 &&& (9223372036854775807 : Int64)) (((p6.toUInt32 >>> ((3 : Int32) &&& 31).toUInt32).toInt32) &&& (1 : Int32))))]))
  refine o_lstore X33 hx (pc' := 42) (Ls' := #[.val (.long q1), .second, .val (.long q2), .second, .val (.long q3), .second, .val (.long q4), .second, .val (.int p5), .val (.int p6), .val (.long (q1 &&& (9223372036854775807 : Int64))), .second, .val (.int (p6 &&& (3 : Int32))), .val (.long (F1 q2 (q1 &&& (9223372036854775807 : Int64)) (((p6.toUInt32 >>> ((2 : Int32) &&& 31).toUInt32).toInt32) &&& (1 : Int32)))), .second, .val (.long (F1 q3 (q1 &&& (9223372036854775807 : Int64)) (((p6.toUInt32 >>> ((3 : Int32) &&& 31).toUInt32).toInt32) &&& (1 : Int32)))), .second, .unset, .unset, .unset, .unset, .unset, .unset, .unset, .unset, .unset, .unset]) (hb hby at_40) rfl rfl ?_
  refine o_lload X33 hx (pc' := 44) (hb hby at_42) rfl rfl ?_
  refine o_lload X33 hx (pc' := 46) (hb hby at_44) rfl rfl ?_
  refine o_iload X33 hx (pc' := 48) (hb hby at_46) rfl rfl ?_
  refine o_iconst X33 hx (pc' := 49) (v := (4 : Int32)) (hb hby at_48) rfl rfl ?_
  refine o_iushr X33 hx (pc' := 50) (hb hby at_49) rfl ?_
  refine o_iconst X33 hx (pc' := 51) (v := (1 : Int32)) (hb hby at_50) rfl rfl ?_
  refine o_iand X33 hx (pc' := 52) (hb hby at_51) rfl ?_
  refine o_callSP X33 hx hZ [(.long q4), (.long (q1 &&& (9223372036854775807 : Int64))), (.int (((p6.toUInt32 >>> ((4 : Int32) &&& 31).toUInt32).toInt32) &&& (1 : Int32)))] (rm1 l Z a0 hw h0 q4 (q1 &&& (9223372036854775807 : Int64)) (((p6.toUInt32 >>> ((4 : Int32) &&& 31).toUInt32).toInt32) &&& (1 : Int32))) hown (hw _ (List.mem_of_getElem? (i := 1) rfl)) (hw _ (List.mem_of_getElem? (i := 2) rfl)) (hw _ (List.mem_of_getElem? (i := 3) rfl)) (hw _ (List.mem_of_getElem? (i := 4) rfl)) (by decide) pd_6 e33 (by rw [hml]; rfl) rfl rfl rfl (hb hby at_52) (pc' := 55) rfl 0 (Nat.le_of_eq rfl) (by decide) (by decide) rfl rfl (by decide) (by decide) ?_
  intro T34 X34 e34
  show Dn p e below _ (T34.setTop (mkF m 55 #[.val (.long q1), .second, .val (.long q2), .second, .val (.long q3), .second, .val (.long q4), .second, .val (.int p5), .val (.int p6), .val (.long (q1 &&& (9223372036854775807 : Int64))), .second, .val (.int (p6 &&& (3 : Int32))), .val (.long (F1 q2 (q1 &&& (9223372036854775807 : Int64)) (((p6.toUInt32 >>> ((2 : Int32) &&& 31).toUInt32).toInt32) &&& (1 : Int32)))), .second, .val (.long (F1 q3 (q1 &&& (9223372036854775807 : Int64)) (((p6.toUInt32 >>> ((3 : Int32) &&& 31).toUInt32).toInt32) &&& (1 : Int32)))), .second, .unset, .unset, .unset, .unset, .unset, .unset, .unset, .unset, .unset, .unset] [(.long (F1 q4 (q1 &&& (9223372036854775807 : Int64)) (((p6.toUInt32 >>> ((4 : Int32) &&& 31).toUInt32).toInt32) &&& (1 : Int32))))]))
  refine o_lstore X34 hx (pc' := 57) (Ls' := #[.val (.long q1), .second, .val (.long q2), .second, .val (.long q3), .second, .val (.long q4), .second, .val (.int p5), .val (.int p6), .val (.long (q1 &&& (9223372036854775807 : Int64))), .second, .val (.int (p6 &&& (3 : Int32))), .val (.long (F1 q2 (q1 &&& (9223372036854775807 : Int64)) (((p6.toUInt32 >>> ((2 : Int32) &&& 31).toUInt32).toInt32) &&& (1 : Int32)))), .second, .val (.long (F1 q3 (q1 &&& (9223372036854775807 : Int64)) (((p6.toUInt32 >>> ((3 : Int32) &&& 31).toUInt32).toInt32) &&& (1 : Int32)))), .second, .val (.long (F1 q4 (q1 &&& (9223372036854775807 : Int64)) (((p6.toUInt32 >>> ((4 : Int32) &&& 31).toUInt32).toInt32) &&& (1 : Int32)))), .second, .unset, .unset, .unset, .unset, .unset, .unset, .unset, .unset]) (hb hby at_55) rfl rfl ?_
  refine o_iload X34 hx (pc' := 59) (hb hby at_57) rfl rfl ?_
  refine o_iconst X34 hx (pc' := 60) (v := (3 : Int32)) (hb hby at_59) rfl rfl ?_
  refine o_iand X34 hx (pc' := 61) (hb hby at_60) rfl ?_
  refine o_callSP X34 hx hZ [(.int (p5 &&& (3 : Int32)))] (rm2 l Z a0 hw h0 (p5 &&& (3 : Int32))) hown (hw _ (List.mem_of_getElem? (i := 5) rfl)) (hw _ (List.mem_of_getElem? (i := 6) rfl)) (hw _ (List.mem_of_getElem? (i := 3) rfl)) (hw _ (List.mem_of_getElem? (i := 7) rfl)) (by decide) pd_7 e34 (by rw [hml]; rfl) rfl rfl rfl (hb hby at_61) (pc' := 64) rfl 0 (Nat.le_of_eq rfl) (by decide) (by decide) rfl rfl (by decide) (by decide) ?_
  intro T35 X35 e35
  show Dn p e below _ (T35.setTop (mkF m 64 #[.val (.long q1), .second, .val (.long q2), .second, .val (.long q3), .second, .val (.long q4), .second, .val (.int p5), .val (.int p6), .val (.long (q1 &&& (9223372036854775807 : Int64))), .second, .val (.int (p6 &&& (3 : Int32))), .val (.long (F1 q2 (q1 &&& (9223372036854775807 : Int64)) (((p6.toUInt32 >>> ((2 : Int32) &&& 31).toUInt32).toInt32) &&& (1 : Int32)))), .second, .val (.long (F1 q3 (q1 &&& (9223372036854775807 : Int64)) (((p6.toUInt32 >>> ((3 : Int32) &&& 31).toUInt32).toInt32) &&& (1 : Int32)))), .second, .val (.long (F1 q4 (q1 &&& (9223372036854775807 : Int64)) (((p6.toUInt32 >>> ((4 : Int32) &&& 31).toUInt32).toInt32) &&& (1 : Int32)))), .second, .unset, .unset, .unset, .unset, .unset, .unset, .unset, .unset] [(.long (F2 (p5 &&& (3 : Int32))))]))
  refine o_lstore X35 hx (pc' := 66) (Ls' := #[.val (.long q1), .second, .val (.long q2), .second, .val (.long q3), .second, .val (.long q4), .second, .val (.int p5), .val (.int p6), .val (.long (q1 &&& (9223372036854775807 : Int64))), .second, .val (.int (p6 &&& (3 : Int32))), .val (.long (F1 q2 (q1 &&& (9223372036854775807 : Int64)) (((p6.toUInt32 >>> ((2 : Int32) &&& 31).toUInt32).toInt32) &&& (1 : Int32)))), .second, .val (.long (F1 q3 (q1 &&& (9223372036854775807 : Int64)) (((p6.toUInt32 >>> ((3 : Int32) &&& 31).toUInt32).toInt32) &&& (1 : Int32)))), .second, .val (.long (F1 q4 (q1 &&& (9223372036854775807 : Int64)) (((p6.toUInt32 >>> ((4 : Int32) &&& 31).toUInt32).toInt32) &&& (1 : Int32)))), .second, .val (.long (F2 (p5 &&& (3 : Int32)))), .second, .unset, .unset, .unset, .unset, .unset, .unset]) (hb hby at_64) rfl rfl ?_
  refine o_iload X35 hx (pc' := 68) (hb hby at_66) rfl rfl ?_
  refine o_iconst X35 hx (pc' := 69) (v := (2 : Int32)) (hb hby at_68) rfl rfl ?_
  refine o_iushr X35 hx (pc' := 70) (hb hby at_69) rfl ?_
  refine o_iconst X35 hx (pc' := 71) (v := (3 : Int32)) (hb hby at_70) rfl rfl ?_
  refine o_iand X35 hx (pc' := 72) (hb hby at_71) rfl ?_
  refine o_callSP X35 hx hZ [(.int (((p5.toUInt32 >>> ((2 : Int32) &&& 31).toUInt32).toInt32) &&& (3 : Int32)))] (rm2 l Z a0 hw h0 (((p5.toUInt32 >>> ((2 : Int32) &&& 31).toUInt32).toInt32) &&& (3 : Int32))) hown (hw _ (List.mem_of_getElem? (i := 5) rfl)) (hw _ (List.mem_of_getElem? (i := 6) rfl)) (hw _ (List.mem_of_getElem? (i := 3) rfl)) (hw _ (List.mem_of_getElem? (i := 7) rfl)) (by decide) pd_7 e35 (by rw [hml]; rfl) rfl rfl rfl (hb hby at_72) (pc' := 75) rfl 0 (Nat.le_of_eq rfl) (by decide) (by decide) rfl rfl (by decide) (by decide) ?_
  intro T36 X36 e36
  show Dn p e below _ (T36.setTop (mkF m 75 #[.val (.long q1), .second, .val (.long q2), .second, .val (.long q3), .second, .val (.long q4), .second, .val (.int p5), .val (.int p6), .val (.long (q1 &&& (9223372036854775807 : Int64))), .second, .val (.int (p6 &&& (3 : Int32))), .val (.long (F1 q2 (q1 &&& (9223372036854775807 : Int64)) (((p6.toUInt32 >>> ((2 : Int32) &&& 31).toUInt32).toInt32) &&& (1 : Int32)))), .second, .val (.long (F1 q3 (q1 &&& (9223372036854775807 : Int64)) (((p6.toUInt32 >>> ((3 : Int32) &&& 31).toUInt32).toInt32) &&& (1 : Int32)))), .second, .val (.long (F1 q4 (q1 &&& (9223372036854775807 : Int64)) (((p6.toUInt32 >>> ((4 : Int32) &&& 31).toUInt32).toInt32) &&& (1 : Int32)))), .second, .val (.long (F2 (p5 &&& (3 : Int32)))), .second, .unset, .unset, .unset, .unset, .unset, .unset] [(.long (F2 (((p5.toUInt32 >>> ((2 : Int32) &&& 31).toUInt32).toInt32) &&& (3 : Int32))))]))
  refine o_lstore X36 hx (pc' := 77) (Ls' := #[.val (.long q1), .second, .val (.long q2), .second, .val (.long q3), .second, .val (.long q4), .second, .val (.int p5), .val (.int p6), .val (.long (q1 &&& (9223372036854775807 : Int64))), .second, .val (.int (p6 &&& (3 : Int32))), .val (.long (F1 q2 (q1 &&& (9223372036854775807 : Int64)) (((p6.toUInt32 >>> ((2 : Int32) &&& 31).toUInt32).toInt32) &&& (1 : Int32)))), .second, .val (.long (F1 q3 (q1 &&& (9223372036854775807 : Int64)) (((p6.toUInt32 >>> ((3 : Int32) &&& 31).toUInt32).toInt32) &&& (1 : Int32)))), .second, .val (.long (F1 q4 (q1 &&& (9223372036854775807 : Int64)) (((p6.toUInt32 >>> ((4 : Int32) &&& 31).toUInt32).toInt32) &&& (1 : Int32)))), .second, .val (.long (F2 (p5 &&& (3 : Int32)))), .second, .val (.long (F2 (((p5.toUInt32 >>> ((2 : Int32) &&& 31).toUInt32).toInt32) &&& (3 : Int32)))), .second, .unset, .unset, .unset, .unset]) (hb hby at_75) rfl rfl ?_
  refine o_iload X36 hx (pc' := 79) (hb hby at_77) rfl rfl ?_
  refine o_iconst X36 hx (pc' := 80) (v := (4 : Int32)) (hb hby at_79) rfl rfl ?_
  refine o_iushr X36 hx (pc' := 81) (hb hby at_80) rfl ?_
  refine o_iconst X36 hx (pc' := 82) (v := (3 : Int32)) (hb hby at_81) rfl rfl ?_
  refine o_iand X36 hx (pc' := 83) (hb hby at_82) rfl ?_
  refine o_callSP X36 hx hZ [(.int (((p5.toUInt32 >>> ((4 : Int32) &&& 31).toUInt32).toInt32) &&& (3 : Int32)))] (rm2 l Z a0 hw h0 (((p5.toUInt32 >>> ((4 : Int32) &&& 31).toUInt32).toInt32) &&& (3 : Int32))) hown (hw _ (List.mem_of_getElem? (i := 5) rfl)) (hw _ (List.mem_of_getElem? (i := 6) rfl)) (hw _ (List.mem_of_getElem? (i := 3) rfl)) (hw _ (List.mem_of_getElem? (i := 7) rfl)) (by decide) pd_7 e36 (by rw [hml]; rfl) rfl rfl rfl (hb hby at_83) (pc' := 86) rfl 0 (Nat.le_of_eq rfl) (by decide) (by decide) rfl rfl (by decide) (by decide) ?_
  intro T37 X37 e37
  show Dn p e below _ (T37.setTop (mkF m 86 #[.val (.long q1), .second, .val (.long q2), .second, .val (.long q3), .second, .val (.long q4), .second, .val (.int p5), .val (.int p6), .val (.long (q1 &&& (9223372036854775807 : Int64))), .second, .val (.int (p6 &&& (3 : Int32))), .val (.long (F1 q2 (q1 &&& (9223372036854775807 : Int64)) (((p6.toUInt32 >>> ((2 : Int32) &&& 31).toUInt32).toInt32) &&& (1 : Int32)))), .second, .val (.long (F1 q3 (q1 &&& (9223372036854775807 : Int64)) (((p6.toUInt32 >>> ((3 : Int32) &&& 31).toUInt32).toInt32) &&& (1 : Int32)))), .second, .val (.long (F1 q4 (q1 &&& (9223372036854775807 : Int64)) (((p6.toUInt32 >>> ((4 : Int32) &&& 31).toUInt32).toInt32) &&& (1 : Int32)))), .second, .val (.long (F2 (p5 &&& (3 : Int32)))), .second, .val (.long (F2 (((p5.toUInt32 >>> ((2 : Int32) &&& 31).toUInt32).toInt32) &&& (3 : Int32)))), .second, .unset, .unset, .unset, .unset] [(.long (F2 (((p5.toUInt32 >>> ((4 : Int32) &&& 31).toUInt32).toInt32) &&& (3 : Int32))))]))
  refine o_lstore X37 hx (pc' := 88) (Ls' := #[.val (.long q1), .second, .val (.long q2), .second, .val (.long q3), .second, .val (.long q4), .second, .val (.int p5), .val (.int p6), .val (.long (q1 &&& (9223372036854775807 : Int64))), .second, .val (.int (p6 &&& (3 : Int32))), .val (.long (F1 q2 (q1 &&& (9223372036854775807 : Int64)) (((p6.toUInt32 >>> ((2 : Int32) &&& 31).toUInt32).toInt32) &&& (1 : Int32)))), .second, .val (.long (F1 q3 (q1 &&& (9223372036854775807 : Int64)) (((p6.toUInt32 >>> ((3 : Int32) &&& 31).toUInt32).toInt32) &&& (1 : Int32)))), .second, .val (.long (F1 q4 (q1 &&& (9223372036854775807 : Int64)) (((p6.toUInt32 >>> ((4 : Int32) &&& 31).toUInt32).toInt32) &&& (1 : Int32)))), .second, .val (.long (F2 (p5 &&& (3 : Int32)))), .second, .val (.long (F2 (((p5.toUInt32 >>> ((2 : Int32) &&& 31).toUInt32).toInt32) &&& (3 : Int32)))), .second, .val (.long (F2 (((p5.toUInt32 >>> ((4 : Int32) &&& 31).toUInt32).toInt32) &&& (3 : Int32)))), .second, .unset, .unset]) (hb hby at_86) rfl rfl ?_
  exact J88 T37 (q1 &&& (9223372036854775807 : Int64)) (F1 q2 (q1 &&& (9223372036854775807 : Int64)) (((p6.toUInt32 >>> ((2 : Int32) &&& 31).toUInt32).toInt32) &&& (1 : Int32))) (F1 q3 (q1 &&& (9223372036854775807 : Int64)) (((p6.toUInt32 >>> ((3 : Int32) &&& 31).toUInt32).toInt32) &&& (1 : Int32))) (F1 q4 (q1 &&& (9223372036854775807 : Int64)) (((p6.toUInt32 >>> ((4 : Int32) &&& 31).toUInt32).toInt32) &&& (1 : Int32))) (F2 (p5 &&& (3 : Int32))) (F2 (((p5.toUInt32 >>> ((2 : Int32) &&& 31).toUInt32).toInt32) &&& (3 : Int32))) (F2 (((p5.toUInt32 >>> ((4 : Int32) &&& 31).toUInt32).toInt32) &&& (3 : Int32))) X37 e37 (own_now q1) (own_end _ _ _) (own_end _ _ _) (own_end _ _ _)
set_option maxRecDepth 65536 in
set_option maxHeartbeats 40000000 in
theorem comes_1 {Post : Tables → Env → Array Value → State → Outcome → State → Prop} (hpost : ∀ tb e args s v u, (limb_1_1.after args s (.returned v) u = true ∧ limb_1_2.after args s (.returned v) u = true ∧ True) → FrameEnd s (.returned v) u (Jvm.fieldLocs frame_1_writes args s ++ Jvm.arrayLocs frame_1_arrays args s ++ Jvm.staticLocs frame_1_statics s) 16 4224 → Post tb e args s (.returned v) u) :
    ArmFor flags0 classFile x code maxLocals ret World_1 tables_1 room_1 Calls_1 rest_1 Pre_1 Post := by
  intro l hfl _ _ p e ha hc hk s m args below hf hA hF happ hP
  obtain ⟨hcalls, hrest, hpre⟩ := hP
  obtain ⟨-, -, -, hnamed, -, -, -, hat⟩ := (Spec.applies_iff hf).mp happ
  obtain ⟨hg, hn⟩ := and_e (Cond.before_iff.mp (show (Jvm.Cond.and given_1 narrow_1).before args s = true from hpre))
  obtain ⟨g0, r0⟩ := and_e hg
  obtain ⟨g1, r1⟩ := and_e r0
  obtain ⟨g2, r2⟩ := and_e r1
  obtain ⟨g3, r3⟩ := and_e r2
  obtain ⟨g4, r4⟩ := and_e r3
  obtain ⟨g5, r5⟩ := and_e r4
  have g6 := r5
  obtain ⟨w0, w1, w2, w3, w4, w5, rfl⟩ : ∃ w0 w1 w2 w3 w4 w5 : Value, args = #[w0, w1, w2, w3, w4, w5] := by
    have hs : args.size = 6 := by simpa [Cond.value, given_1] using g0
    obtain ⟨L⟩ := args
    match L, hs with
    | [w0, w1, w2, w3, w4, w5], _ => exact ⟨w0, w1, w2, w3, w4, w5, rfl⟩
  have hw := fun d (hd : d ∈ tables_1) => atoms_spec (ws := Jvm.Cond.code x code maxLocals ret :: tables_1) hat d (List.mem_cons_of_mem _ hd)
  have hfit : Fit s := fun {y c} hc i hi => by
    obtain ⟨ha, rfl⟩ := Array.getElem?_eq_some_iff.mp hc
    have q := List.all_eq_true.mp ((Array.all_eq_true_iff_forall_mem.mp hF) _ (Array.getElem_mem ha)) i (List.mem_range.mpr hi)
    simpa [Array.getElem?_eq_getElem hi] using q
  obtain ⟨i0, ei0⟩ := isL_v g1
  obtain rfl : w0 = (.long i0) := Option.some.inj ei0
  obtain ⟨i1, ei1⟩ := isL_v g2
  obtain rfl : w1 = (.long i1) := Option.some.inj ei1
  obtain ⟨i2, ei2⟩ := isL_v g3
  obtain rfl : w2 = (.long i2) := Option.some.inj ei2
  obtain ⟨i3, ei3⟩ := isL_v g4
  obtain rfl : w3 = (.long i3) := Option.some.inj ei3
  obtain ⟨i4, ei4⟩ := is_v g5
  obtain rfl : w4 = (.int i4) := Option.some.inj ei4
  obtain ⟨i5, ei5⟩ := is_v g6
  obtain rfl : w5 = (.int i5) := Option.some.inj ei5
  obtain ⟨n, o, h1, h2, h3, v, L, rfl, hQ, hq⟩ := rm0 l s _ hw tables_1 s.heap s.heap.size (Nat.le_refl _) i0 i1 i2 i3 i4 i5 p e ha hc hk s m _ below hf ((Spec.applies_iff_loose hf).mp happ).1 ⟨rfl, State.Warmed39.refl s, rfl⟩ trivial
  obtain ⟨rfl, N⟩ := hQ
  refine ⟨n, _, h1, h2, h3, hpost _ _ _ _ _ _ ⟨Cond.after_iff.mpr rfl, Cond.after_iff.mpr (eq_i res_at (Term.int_eval (1)) rfl), trivial⟩ ⟨hq.1, hq.2.1, (hq.2.2.sift fun y hy => Or.inr (N y hy)).mono (by decide) (by decide)⟩⟩
theorem main_1_1 : Claimed_1_1 := comes_1 fun _ _ _ _ _ _ h hF => ⟨h.1, hF⟩
theorem main_1_2 : Claimed_1_2 := comes_1 fun _ _ _ _ _ _ h hF => ⟨h.2.1, hF⟩
end Jvm.Pilot.@@N@@
namespace Jvm.Pilot.@@N@@
open Jvm Jvm.ClassFile Sem Op Lib Jvm.Free Jvm.Stand Jvm.Pilot.@@N@@.Jvm.D
/-! MADE BY PROGRAM (witnessworld.py) out of the Statement's table words and the real class files: 12 classes; the members and pool entries that the words name. The judged class is class 1, her method 1. -/
namespace start1
open Jvm.ClassFile
def u (s : String) : CpInfo := .utf8 (stringToUtf16 s)
/-- a pool by its gaps: so many unusable entries, then the entry; so many at the end -/
def gap : Nat → List CpInfo → List CpInfo
  | 0, r => r
  | n + 1, r => .unusable :: gap n r
def poolList (es : List (Nat × CpInfo)) (last : Nat) : List CpInfo := es.foldr (fun e r => gap e.1 (e.2 :: r)) (gap last [])
def pool (es : List (Nat × CpInfo)) (last : Nat) : Array CpInfo := ⟨poolList es last⟩
def fileOf (pool : Array CpInfo) (this : Nat) (attrs : Array Attribute := #[]) (ms : Array MethodInfo := #[]) (fl : Nat := 33) (sup : Nat := 0) (ifs : Array Nat := #[]) (fds : Array FieldInfo := #[]) : ClassFile where
  minorVersion := 0
  majorVersion := 65
  constantPool := pool
  accessFlags := fl
  thisClass := this
  superClass := sup
  interfaces := ifs
  fields := fds
  methods := ms
  attributes := attrs
def plain (name : String) (sup : Option ClassId) : Class where
  name := name
  kind := .ordinary
  loader := none
  accessFlags := 33
  super := sup
  interfaces := #[]
  cf := none
  fields := #[]
  methods := #[]
  instanceTypes := #[]
  staticTypes := #[]
  resolved := #[]
  callSites := []
  init := .initialized
  statics := none
  mirror := none

def pool0 : Array CpInfo := pool [(5, u "<init>"), (0, u "()V"), (1, .class_ 10), (1, u "java/lang/Object")] 113

def k0c0 : Code := { maxStack := 0, maxLocals := 1, code := object_method_1_code, exceptionTable := #[], attributes := #[] }
def k0m0 : Method := { name := "<init>", desc := "()V", sig := { parameters := [], returnType := none }, accessFlags := 1, code := some k0c0 }
/-- java/lang/Object -/
def k0 : Class := { plain "java/lang/Object" none with
  accessFlags := 33
  interfaces := #[]
  cf := some (fileOf pool0 8 #[] #[{ accessFlags := 1, nameIndex := 5, descriptorIndex := 6, attributes := #[] }] 33 0 #[] #[])
  fields := #[]
  methods := #[k0m0]
  instanceTypes := #[]
  staticTypes := #[]
  resolved := Array.replicate 124 none
  statics := none }

def pool1 : Array CpInfo := pool [(2, .class_ 4), (1, u "java/lang/Object"), (0, u "<init>"), (0, u "()V"), (2, .long 9223372036854775807), (1, .methodref 12 13), (0, .class_ 14), (0, .nameAndType 15 16), (0, u "com/example/shelfkey/shelfkey/revocation/IdTableLivePinLaw"), (0, u "end"), (0, u "(JJI)J"), (0, .methodref 12 18), (0, .nameAndType 19 20), (0, u "id"), (0, u "(I)J"), (0, .class_ 22), (0, u "com/example/shelfkey/shelfkey/revocation/IdTable"), (0, .methodref 21 24), (0, .nameAndType 5 25), (0, u "(J)V"), (0, .methodref 21 27), (0, .nameAndType 28 29), (0, u "add"), (0, u "(JJJ)Z"), (0, .methodref 21 31), (0, .nameAndType 32 33), (0, u "live"), (0, u "(J)I"), (0, .long 3), (1, .long 1024), (1, .long 18446744073709551615), (3, u "law"), (0, u "(JJJJII)Z")] 3

def k1m0 : Method := { name := "<init>", desc := "()V", sig := { parameters := [], returnType := none }, accessFlags := 1, code := none }
def k1c1 : Code := { maxStack := 7, maxLocals := 27, code := code, exceptionTable := #[], attributes := #[] }
def k1m1 : Method := { name := "law", desc := "(JJJJII)Z", sig := { parameters := [.long, .long, .long, .long, .int, .int], returnType := some .boolean }, accessFlags := 9, code := some k1c1 }
def k1c2 : Code := { maxStack := 6, maxLocals := 9, code := method_3_code, exceptionTable := #[], attributes := #[] }
def k1m2 : Method := { name := "end", desc := "(JJI)J", sig := { parameters := [.long, .long, .int], returnType := some .long }, accessFlags := 10, code := some k1c2 }
def k1c3 : Code := { maxStack := 2, maxLocals := 1, code := method_4_code, exceptionTable := #[], attributes := #[] }
def k1m3 : Method := { name := "id", desc := "(I)J", sig := { parameters := [.int], returnType := some .long }, accessFlags := 10, code := some k1c3 }
/-- com/example/shelfkey/shelfkey/revocation/IdTableLivePinLaw -/
def k1 : Class := { plain "com/example/shelfkey/shelfkey/revocation/IdTableLivePinLaw" (some 0) with
  accessFlags := 49
  interfaces := #[]
  cf := some (fileOf pool1 12 #[] #[{ accessFlags := 1, nameIndex := 5, descriptorIndex := 6, attributes := #[] }, { accessFlags := 9, nameIndex := 42, descriptorIndex := 43, attributes := #[] }, { accessFlags := 10, nameIndex := 15, descriptorIndex := 16, attributes := #[] }, { accessFlags := 10, nameIndex := 19, descriptorIndex := 20, attributes := #[] }] 49 2 #[] #[])
  fields := #[]
  methods := #[k1m0, k1m1, k1m2, k1m3]
  instanceTypes := #[]
  staticTypes := #[]
  resolved := Array.replicate 47 none
  statics := none }

def pool2 : Array CpInfo := pool [(3, .methodref 4 5), (0, .class_ 6), (0, .nameAndType 7 8), (0, u "java/lang/Object"), (0, u "<init>"), (0, u "()V"), (0, .class_ 10), (0, u "com/example/shelfkey/shelfkey/revocation/IdTable"), (0, .fieldref 9 12), (0, .nameAndType 13 14), (0, u "slots"), (0, u "[J"), (0, .long 9223372036854775807), (1, .fieldref 9 18), (0, .nameAndType 19 20), (0, u "earliestEnd"), (0, u "J"), (0, .integer 536870912), (0, .long 3), (1, .long 16), (1, .fieldref 9 27), (0, .nameAndType 28 29), (0, u "mostSlots"), (0, u "I"), (0, .methodref 9 31), (0, .nameAndType 32 33), (0, u "find"), (0, u "([JJ)I"), (0, .methodref 9 35), (0, .nameAndType 36 37), (0, u "crowded"), (0, u "()Z"), (3, u "(J)V"), (0, .fieldref 9 43), (0, .nameAndType 44 29), (0, u "size"), (0, .methodref 46 47), (0, .class_ 48), (0, .nameAndType 49 50), (0, u "java/lang/Math"), (0, u "min"), (0, u "(JJ)J"), (4, .long 4), (3, u "live"), (0, u "(J)I"), (52, .class_ 115), (1, u "com/example/shelfkey/shelfkey/revocation/IdTable$Entry"), (2, u "LEAST_SLOTS"), (2, u "MOST_SLOTS"), (0, u "SLOT_BYTES"), (6, u "add"), (0, u "(JJJ)Z")] 56

def k2c0 : Code := { maxStack := 4, maxLocals := 4, code := prog_69_method_1_code, exceptionTable := #[], attributes := #[] }
def k2m0 : Method := { name := "<init>", desc := "(J)V", sig := { parameters := [.long], returnType := none }, accessFlags := 0, code := some k2c0 }
def k2c1 : Code := { maxStack := 5, maxLocals := 8, code := prog_69_method_3_code, exceptionTable := #[], attributes := #[] }
def k2m1 : Method := { name := "add", desc := "(JJJ)Z", sig := { parameters := [.long, .long, .long], returnType := some .boolean }, accessFlags := 0, code := some k2c1 }
def k2c2 : Code := { maxStack := 4, maxLocals := 5, code := prog_69_method_7_code, exceptionTable := #[], attributes := #[] }
def k2m2 : Method := { name := "live", desc := "(J)I", sig := { parameters := [.long], returnType := some .int }, accessFlags := 0, code := some k2c2 }
def k2c3 : Code := { maxStack := 6, maxLocals := 1, code := prog_69_method_9_code, exceptionTable := #[], attributes := #[] }
def k2m3 : Method := { name := "crowded", desc := "()Z", sig := { parameters := [], returnType := some .boolean }, accessFlags := 2, code := some k2c3 }
def k2c4 : Code := { maxStack := 4, maxLocals := 5, code := prog_69_method_15_code, exceptionTable := #[], attributes := #[] }
def k2m4 : Method := { name := "find", desc := "([JJ)I", sig := { parameters := [(.array .long), .long], returnType := some .int }, accessFlags := 10, code := some k2c4 }
/-- com/example/shelfkey/shelfkey/revocation/IdTable -/
def k2 : Class := { plain "com/example/shelfkey/shelfkey/revocation/IdTable" (some 0) with
  accessFlags := 48
  interfaces := #[]
  cf := some (fileOf pool2 9 #[.nestMembers #[113]] #[{ accessFlags := 0, nameIndex := 7, descriptorIndex := 41, attributes := #[] }, { accessFlags := 0, nameIndex := 129, descriptorIndex := 130, attributes := #[] }, { accessFlags := 0, nameIndex := 59, descriptorIndex := 60, attributes := #[] }, { accessFlags := 2, nameIndex := 36, descriptorIndex := 37, attributes := #[] }, { accessFlags := 10, nameIndex := 32, descriptorIndex := 33, attributes := #[] }] 48 4 #[] #[{ accessFlags := 26, nameIndex := 118, descriptorIndex := 29, attributes := #[] }, { accessFlags := 26, nameIndex := 121, descriptorIndex := 29, attributes := #[] }, { accessFlags := 26, nameIndex := 122, descriptorIndex := 29, attributes := #[] }, { accessFlags := 18, nameIndex := 28, descriptorIndex := 29, attributes := #[] }, { accessFlags := 2, nameIndex := 13, descriptorIndex := 14, attributes := #[] }, { accessFlags := 2, nameIndex := 44, descriptorIndex := 29, attributes := #[] }, { accessFlags := 2, nameIndex := 19, descriptorIndex := 20, attributes := #[] }])
  fields := #[{ name := "LEAST_SLOTS", type := .int, accessFlags := 26, slot := 0, constantValue := 0 }, { name := "MOST_SLOTS", type := .int, accessFlags := 26, slot := 1, constantValue := 0 }, { name := "SLOT_BYTES", type := .int, accessFlags := 26, slot := 2, constantValue := 0 }, { name := "mostSlots", type := .int, accessFlags := 18, slot := 0, constantValue := 0 }, { name := "slots", type := (.array .long), accessFlags := 2, slot := 1, constantValue := 0 }, { name := "size", type := .int, accessFlags := 2, slot := 2, constantValue := 0 }, { name := "earliestEnd", type := .long, accessFlags := 2, slot := 3, constantValue := 0 }]
  methods := #[k2m0, k2m1, k2m2, k2m3, k2m4]
  instanceTypes := #[.int, (.array .long), .int, .long]
  staticTypes := #[.int, .int, .int]
  resolved := Array.replicate 187 none
  statics := none }

def pool3 : Array CpInfo := pool [(1, .class_ 2), (0, u "java/lang/Math"), (1, .class_ 6), (1, u "java/lang/Object"), (0, u "<init>"), (0, u "()V"), (89, .class_ 100), (1, u "java/lang/Math$RandomNumberGeneratorHolder"), (20, u "(JJ)J"), (50, u "negativeZeroFloatBits"), (0, u "J"), (2, u "negativeZeroDoubleBits"), (24, u "min"), (43, u "$assertionsDisabled"), (0, u "Z"), (91, u "twoToTheDoubleScaleDown"), (0, u "D"), (4, u "twoToTheDoubleScaleUp"), (9, u "E"), (3, u "PI"), (2, u "TAU"), (2, u "DEGREES_TO_RADIANS"), (0, u "RADIANS_TO_DEGREES")] 94

def k3m0 : Method := { name := "<init>", desc := "()V", sig := { parameters := [], returnType := none }, accessFlags := 2, code := none }
def k3c1 : Code := { maxStack := 4, maxLocals := 4, code := jdk_29_method_70_code, exceptionTable := #[], attributes := #[] }
def k3m1 : Method := { name := "min", desc := "(JJ)J", sig := { parameters := [.long, .long], returnType := some .long }, accessFlags := 9, code := some k3c1 }
/-- java/lang/Math -/
def k3 : Class := { plain "java/lang/Math" (some 0) with
  accessFlags := 49
  interfaces := #[]
  cf := some (fileOf pool3 1 #[.nestMembers #[98]] #[{ accessFlags := 2, nameIndex := 7, descriptorIndex := 8, attributes := #[] }, { accessFlags := 9, nameIndex := 201, descriptorIndex := 121, attributes := #[] }] 49 4 #[] #[{ accessFlags := 25, nameIndex := 354, descriptorIndex := 339, attributes := #[] }, { accessFlags := 25, nameIndex := 358, descriptorIndex := 339, attributes := #[] }, { accessFlags := 25, nameIndex := 361, descriptorIndex := 339, attributes := #[] }, { accessFlags := 26, nameIndex := 364, descriptorIndex := 339, attributes := #[] }, { accessFlags := 26, nameIndex := 365, descriptorIndex := 339, attributes := #[] }, { accessFlags := 26, nameIndex := 172, descriptorIndex := 173, attributes := #[] }, { accessFlags := 26, nameIndex := 176, descriptorIndex := 173, attributes := #[] }, { accessFlags := 8, nameIndex := 344, descriptorIndex := 339, attributes := #[] }, { accessFlags := 8, nameIndex := 338, descriptorIndex := 339, attributes := #[] }, { accessFlags := 4120, nameIndex := 245, descriptorIndex := 246, attributes := #[] }])
  fields := #[{ name := "E", type := .double, accessFlags := 25, slot := 0, constantValue := 0 }, { name := "PI", type := .double, accessFlags := 25, slot := 1, constantValue := 0 }, { name := "TAU", type := .double, accessFlags := 25, slot := 2, constantValue := 0 }, { name := "DEGREES_TO_RADIANS", type := .double, accessFlags := 26, slot := 3, constantValue := 0 }, { name := "RADIANS_TO_DEGREES", type := .double, accessFlags := 26, slot := 4, constantValue := 0 }, { name := "negativeZeroFloatBits", type := .long, accessFlags := 26, slot := 5, constantValue := 0 }, { name := "negativeZeroDoubleBits", type := .long, accessFlags := 26, slot := 6, constantValue := 0 }, { name := "twoToTheDoubleScaleUp", type := .double, accessFlags := 8, slot := 7, constantValue := 0 }, { name := "twoToTheDoubleScaleDown", type := .double, accessFlags := 8, slot := 8, constantValue := 0 }, { name := "$assertionsDisabled", type := .boolean, accessFlags := 4120, slot := 9, constantValue := 0 }]
  methods := #[k3m0, k3m1]
  instanceTypes := #[]
  staticTypes := #[.double, .double, .double, .double, .double, .long, .long, .double, .double, .boolean]
  resolved := Array.replicate 460 none
  statics := none }

def pool4 : Array CpInfo := pool [(1, u "java/lang/Cloneable"), (0, .class_ 1), (0, u "java/lang/Object"), (0, .class_ 3)] 3

/-- java/lang/Cloneable -/
def k4 : Class := { plain "java/lang/Cloneable" (some 0) with
  accessFlags := 1537
  interfaces := #[]
  cf := some (fileOf pool4 2 #[] #[] 1537 4 #[] #[])
  fields := #[]
  methods := #[]
  instanceTypes := #[]
  staticTypes := #[]
  resolved := Array.replicate 8 none
  statics := none }

def pool5 : Array CpInfo := pool [(1, u "java/io/Serializable"), (0, .class_ 1), (0, u "java/lang/Object"), (0, .class_ 3)] 3

/-- java/io/Serializable -/
def k5 : Class := { plain "java/io/Serializable" (some 0) with
  accessFlags := 1537
  interfaces := #[]
  cf := some (fileOf pool5 2 #[] #[] 1537 4 #[] #[])
  fields := #[]
  methods := #[]
  instanceTypes := #[]
  staticTypes := #[]
  resolved := Array.replicate 8 none
  statics := none }

/-- the primitive byte -/
def k6 : Class := { plain "byte" none with kind := .primitive 'B', accessFlags := 0x411 }
/-- [B -/
def k7 : Class := { plain "[B" (some 0) with kind := .array 6 .byte, interfaces := #[4, 5], accessFlags := 1041 }

/-- the primitive int -/
def k8 : Class := { plain "int" none with kind := .primitive 'I', accessFlags := 0x411 }
/-- [I -/
def k9 : Class := { plain "[I" (some 0) with kind := .array 8 .int, interfaces := #[4, 5], accessFlags := 1041 }

/-- the primitive long -/
def k10 : Class := { plain "long" none with kind := .primitive 'J', accessFlags := 0x411 }
/-- [J -/
def k11 : Class := { plain "[J" (some 0) with kind := .array 10 .long, interfaces := #[4, 5], accessFlags := 1041 }

def heap : Heap := #[]
def classes : Array Class := #[k0, k1, k2, k3, k4, k5, k6, k7, k8, k9, k10, k11]
def interned : List (Array UInt16 × Addr) := []
def slotsUsed : Nat := 0
def theMethod : MethodId := ⟨1, 1⟩
def args0 : Array Value := #[.long 5, .long 6, .long 7, .long 8, .int 27, .int 3]
def aboutOver (below : List Frame) : State where
  vm := { classes := classes, interned := interned.toArray }
  heap := heap
  slotsUsed := slotsUsed
  threads := #[{ frames := .invoking theMethod args0 :: below }]
def below0 : List Frame := [.native { method := ⟨0, 0⟩, args := #[] }]
def about1 : State := aboutOver below0
def p0 : Program := .bare "" "" ""
def e0 : Env := launch0.env 0 0 0
theorem w_frames : about1.frames = Frame.invoking theMethod args0 :: below0 := rfl
set_option maxRecDepth 65536 in
theorem w_args : argsFit about1.vm theMethod args0 = true := by decide +kernel
set_option maxRecDepth 65536 in
theorem w_heap : heapFits about1 = true := by decide +kernel
set_option maxRecDepth 65536 in
theorem w_runnable : about1.curStatus? = some .runnable := by decide +kernel
set_option maxRecDepth 65536 in
theorem w_alone : about1.alone = true := by decide +kernel
set_option maxRecDepth 65536 in
theorem w_named : about1.methodNamed? x = some theMethod := by decide +kernel
set_option maxRecDepth 65536 in
theorem w_hears : about1.hears theMethod below0 = true := by decide +kernel
set_option maxRecDepth 65536 in
theorem w_ripe : about1.ripe theMethod args0 below0 = true := by decide +kernel
theorem w_running : about1.status = .running := rfl
set_option maxRecDepth 65536 in
theorem w_room : about1.hasRoom e0.platform room_1 = true :=
  launch0.hasRoom_least _ room_1 (by decide +kernel) (by decide +kernel) (by decide +kernel) (by decide +kernel) (by decide +kernel) (by decide +kernel)
theorem allAtoms_all (ts : List Jvm.Cond) (a : Array Jvm.Value) (st : Jvm.State) : (allAtoms ts).before a st = ts.all (fun c => c.before a st) := by
  induction ts with
  | nil => rfl
  | cons c t ih =>
    show (Jvm.Cond.and c (allAtoms t)).before a st = _
    rw [Jvm.Cond.before_and, ih, List.all_cons]
def words1 : List Jvm.Cond := Jvm.Cond.code x code maxLocals ret :: tables_1
/-- a 'code' word, met by the world's own term for the bytes: nothing is compared byte by byte -/
theorem code_word {y : MethodName} {bytes : ByteArray} {mx : Nat} {rt : Option FieldType} {a : Array Value} {s : State} {m : MethodId} {meth : Method} {c : Code} (h1 : s.methodNamed? y = some m) (h2 : s.vm.method? m = some meth) (h3 : meth.code = some c) (h4 : c.code = bytes)
    (h5 : (c.maxLocals == mx && c.exceptionTable.isEmpty && decide (c.maxStack ≤ mostOperands) && decide (meth.sig.returnType = rt) && !meth.locks && decide (parseMethodDescriptor y.desc = some meth.sig)) = true) : (Jvm.Cond.code y bytes mx rt).before a s = true := by
  simp only [Bool.and_eq_true, beq_iff_eq, Bool.not_eq_true', decide_eq_true_eq] at h5
  obtain ⟨⟨⟨⟨⟨g1, g2⟩, g3⟩, g4⟩, g5⟩, g6⟩ := h5
  simp [Cond.before, Cond.holds, Cond.value, h1, h2, h3, h4, g1, g2, g3, g4, g5, g6]
def isCode : Jvm.Cond → Bool
  | .code _ _ _ _ => true
  | _ => false
theorem all_split {L : List Jvm.Cond} {P : Jvm.Cond → Bool} (h1 : L.all (fun c => isCode c || P c) = true) (h2 : ∀ c ∈ L.filter isCode, P c = true) : L.all P = true := by
  refine List.all_eq_true.mpr fun c hc => ?_
  have h := List.all_eq_true.mp h1 c hc
  rcases Bool.eq_false_or_eq_true (isCode c) with hi | hi
  · exact h2 c (List.mem_filter.mpr ⟨hc, hi⟩)
  · simpa [hi] using h
set_option maxRecDepth 65536 in
theorem w_c0 : (Jvm.Cond.code x code maxLocals ret).before args0 about1 = true := code_word (m := ⟨1, 1⟩) (meth := k1m1) (c := k1c1) (by decide +kernel) rfl rfl rfl (by decide +kernel)
set_option maxRecDepth 65536 in
theorem w_c1 : (Jvm.Cond.code ({ cls := "com/example/shelfkey/shelfkey/revocation/IdTableLivePinLaw", name := "end", desc := "(JJI)J" } : Jvm.MethodName) method_3_code (9 : Nat) (Option.some Jvm.ClassFile.FieldType.long)).before args0 about1 = true := code_word (m := ⟨1, 2⟩) (meth := k1m2) (c := k1c2) (by decide +kernel) rfl rfl rfl (by decide +kernel)
set_option maxRecDepth 65536 in
theorem w_c2 : (Jvm.Cond.code ({ cls := "com/example/shelfkey/shelfkey/revocation/IdTableLivePinLaw", name := "id", desc := "(I)J" } : Jvm.MethodName) method_4_code (1 : Nat) (Option.some Jvm.ClassFile.FieldType.long)).before args0 about1 = true := code_word (m := ⟨1, 3⟩) (meth := k1m3) (c := k1c3) (by decide +kernel) rfl rfl rfl (by decide +kernel)
set_option maxRecDepth 65536 in
theorem w_c3 : (Jvm.Cond.code ({ cls := "com/example/shelfkey/shelfkey/revocation/IdTable", name := "<init>", desc := "(J)V" } : Jvm.MethodName) prog_69_method_1_code (4 : Nat) (Option.none : Option Jvm.ClassFile.FieldType)).before args0 about1 = true := code_word (m := ⟨2, 0⟩) (meth := k2m0) (c := k2c0) (by decide +kernel) rfl rfl rfl (by decide +kernel)
set_option maxRecDepth 65536 in
theorem w_c4 : (Jvm.Cond.code ({ cls := "java/lang/Object", name := "<init>", desc := "()V" } : Jvm.MethodName) object_method_1_code (1 : Nat) (Option.none : Option Jvm.ClassFile.FieldType)).before args0 about1 = true := code_word (m := ⟨0, 0⟩) (meth := k0m0) (c := k0c0) (by decide +kernel) rfl rfl rfl (by decide +kernel)
set_option maxRecDepth 65536 in
theorem w_c5 : (Jvm.Cond.code ({ cls := "com/example/shelfkey/shelfkey/revocation/IdTable", name := "live", desc := "(J)I" } : Jvm.MethodName) prog_69_method_7_code (5 : Nat) (Option.some Jvm.ClassFile.FieldType.int)).before args0 about1 = true := code_word (m := ⟨2, 2⟩) (meth := k2m2) (c := k2c2) (by decide +kernel) rfl rfl rfl (by decide +kernel)
set_option maxRecDepth 65536 in
theorem w_c6 : (Jvm.Cond.code ({ cls := "com/example/shelfkey/shelfkey/revocation/IdTable", name := "add", desc := "(JJJ)Z" } : Jvm.MethodName) prog_69_method_3_code (8 : Nat) (Option.some Jvm.ClassFile.FieldType.boolean)).before args0 about1 = true := code_word (m := ⟨2, 1⟩) (meth := k2m1) (c := k2c1) (by decide +kernel) rfl rfl rfl (by decide +kernel)
set_option maxRecDepth 65536 in
theorem w_c7 : (Jvm.Cond.code ({ cls := "com/example/shelfkey/shelfkey/revocation/IdTable", name := "find", desc := "([JJ)I" } : Jvm.MethodName) prog_69_method_15_code (5 : Nat) (Option.some Jvm.ClassFile.FieldType.int)).before args0 about1 = true := code_word (m := ⟨2, 4⟩) (meth := k2m4) (c := k2c4) (by decide +kernel) rfl rfl rfl (by decide +kernel)
set_option maxRecDepth 65536 in
theorem w_c8 : (Jvm.Cond.code ({ cls := "com/example/shelfkey/shelfkey/revocation/IdTable", name := "crowded", desc := "()Z" } : Jvm.MethodName) prog_69_method_9_code (1 : Nat) (Option.some Jvm.ClassFile.FieldType.boolean)).before args0 about1 = true := code_word (m := ⟨2, 3⟩) (meth := k2m3) (c := k2c3) (by decide +kernel) rfl rfl rfl (by decide +kernel)
set_option maxRecDepth 65536 in
theorem w_c9 : (Jvm.Cond.code ({ cls := "java/lang/Math", name := "min", desc := "(JJ)J" } : Jvm.MethodName) jdk_29_method_70_code (4 : Nat) (Option.some Jvm.ClassFile.FieldType.long)).before args0 about1 = true := code_word (m := ⟨3, 1⟩) (meth := k3m1) (c := k3c1) (by decide +kernel) rfl rfl rfl (by decide +kernel)
def codes1 : List Jvm.Cond := [Jvm.Cond.code x code maxLocals ret, Jvm.Cond.code ({ cls := "com/example/shelfkey/shelfkey/revocation/IdTableLivePinLaw", name := "end", desc := "(JJI)J" } : Jvm.MethodName) method_3_code (9 : Nat) (Option.some Jvm.ClassFile.FieldType.long), Jvm.Cond.code ({ cls := "com/example/shelfkey/shelfkey/revocation/IdTableLivePinLaw", name := "id", desc := "(I)J" } : Jvm.MethodName) method_4_code (1 : Nat) (Option.some Jvm.ClassFile.FieldType.long), Jvm.Cond.code ({ cls := "com/example/shelfkey/shelfkey/revocation/IdTable", name := "<init>", desc := "(J)V" } : Jvm.MethodName) prog_69_method_1_code (4 : Nat) (Option.none : Option Jvm.ClassFile.FieldType), Jvm.Cond.code ({ cls := "java/lang/Object", name := "<init>", desc := "()V" } : Jvm.MethodName) object_method_1_code (1 : Nat) (Option.none : Option Jvm.ClassFile.FieldType), Jvm.Cond.code ({ cls := "com/example/shelfkey/shelfkey/revocation/IdTable", name := "live", desc := "(J)I" } : Jvm.MethodName) prog_69_method_7_code (5 : Nat) (Option.some Jvm.ClassFile.FieldType.int), Jvm.Cond.code ({ cls := "com/example/shelfkey/shelfkey/revocation/IdTable", name := "add", desc := "(JJJ)Z" } : Jvm.MethodName) prog_69_method_3_code (8 : Nat) (Option.some Jvm.ClassFile.FieldType.boolean), Jvm.Cond.code ({ cls := "com/example/shelfkey/shelfkey/revocation/IdTable", name := "find", desc := "([JJ)I" } : Jvm.MethodName) prog_69_method_15_code (5 : Nat) (Option.some Jvm.ClassFile.FieldType.int), Jvm.Cond.code ({ cls := "com/example/shelfkey/shelfkey/revocation/IdTable", name := "crowded", desc := "()Z" } : Jvm.MethodName) prog_69_method_9_code (1 : Nat) (Option.some Jvm.ClassFile.FieldType.boolean), Jvm.Cond.code ({ cls := "java/lang/Math", name := "min", desc := "(JJ)J" } : Jvm.MethodName) jdk_29_method_70_code (4 : Nat) (Option.some Jvm.ClassFile.FieldType.long)]
set_option maxRecDepth 65536 in
theorem codes_eq : words1.filter isCode = codes1 := rfl
theorem w_codes : ∀ c ∈ words1.filter isCode, c.before args0 about1 = true := by
  rw [codes_eq]
  intro c hc
  simp only [codes1, List.mem_cons, List.not_mem_nil, or_false] at hc
  rcases hc with rfl | rfl | rfl | rfl | rfl | rfl | rfl | rfl | rfl | rfl
  · exact w_c0
  · exact w_c1
  · exact w_c2
  · exact w_c3
  · exact w_c4
  · exact w_c5
  · exact w_c6
  · exact w_c7
  · exact w_c8
  · exact w_c9
set_option maxRecDepth 65536 in
theorem w_t1 : (words1.take 24).all (fun c => isCode c || c.before args0 about1) = true := by decide +kernel
set_option maxRecDepth 65536 in
theorem w_t2 : ((words1.drop 24).take 24).all (fun c => isCode c || c.before args0 about1) = true := by decide +kernel
set_option maxRecDepth 65536 in
theorem w_t3 : ((words1.drop 24).drop 24).all (fun c => isCode c || c.before args0 about1) = true := by decide +kernel
theorem w_tables : (allAtoms (Jvm.Cond.code x code maxLocals ret :: tables_1)).before args0 about1 = true := by
  rw [allAtoms_all]
  show words1.all (fun c => c.before args0 about1) = true
  refine all_split ?_ w_codes
  rw [← List.take_append_drop 24 words1, List.all_append, w_t1, ← List.take_append_drop 24 (words1.drop 24), List.all_append, w_t2, w_t3]
  rfl
set_option maxRecDepth 65536 in
theorem w_case : (Jvm.Cond.and given_1 narrow_1).before args0 about1 = true := by decide +kernel
theorem w_applies : (headSpec (Jvm.Cond.code x code maxLocals ret :: tables_1) room_1).applies x e0.platform about1 = true :=
  (Spec.applies_iff w_frames).mpr ⟨w_running, w_runnable, w_alone, w_named, w_hears, w_ripe, w_room, w_tables⟩
theorem atStart : AtStart classFile x code maxLocals ret World_1 tables_1 room_1 Calls_1 rest_1 Pre_1 launch0 p0 e0 about1 theMethod args0 below0 :=
  ⟨lists_1, trivial, launch0.admits_env _ _ _, launch0.least_env, fairChoices_fair.cas, fairChoices_fair.clock, w_frames, w_args, w_heap, w_applies, trivial, trivial, w_case⟩
end start1
theorem witness_1 : WitnessClaimed_1 := ⟨start1.p0, start1.e0, start1.about1, start1.theMethod, start1.args0, start1.below0, start1.atStart⟩
end Jvm.Pilot.@@N@@
